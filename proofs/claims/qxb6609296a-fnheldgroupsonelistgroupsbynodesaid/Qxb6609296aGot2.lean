import Derived.Test.Qxb6609296aGot
namespace Go.Proofs.Qxb6609296a
open Go.RowKit Srt

theorem Got.from {Q Q2 : Nat → Prop} {w0 w w' : World} {vals : Nat → Int} {ws : List Wt} {r : Value} (h : Got Q2 w vals ws r w') (hq : ∀ k, Q k → Q2 k) (k : Kq Q w0 w) : Got Q w0 vals ws r w' := by
  obtain ⟨Q', gs, h1, h2, h3, h4, h5⟩ := h
  exact ⟨Q', gs, fun j hj => h1 j (hq j hj), h2, h3, k.trans (h4.mono hq), h5⟩

/-- The list with nodes, and the groups by it. -/
theorem got_with (Q : Nat → Prop) (w w1 : World) (RB EB VB SB FB n m cap A P L : Nat) (av : Option Addr) (bv iv : Value) (ids : List ByteArray) (nodes : List Int) (given : List Bool) (xs : List As) (D : Nat → Nat) (vals : Nat → Int) (res : ByteArray)
    (hQ : ∀ k, Q k → k < w.heap.size) (hr : Ready Q w RB EB VB n m cap av bv iv ids xs D vals) (hl : ListIs ids nodes given D m vals) (hn : n = ids.length) (hn4 : n ≤ 4096) (hs : sumSz ids ≤ 1048576) (hm : 0 < m) (hm4 : m ≤ 4096) (hmc : m ≤ cap) (hcm : cap ≤ maxLen)
    (hne : ∀ (i : Nat) a, xs[i]? = some a → a.rs = res → 0 < a.devs.length) (hb : ∀ (i : Nat) a, xs[i]? = some a → a.devs.length ≤ 1048576) (hx : xs.length ≤ 16384)
    (qS : Q SB) (qF : Q FB) (sc : ∀ i, i < m + 1 → w.cell? ⟨SB, i, none⟩ = some (.int .u32 (i : Nat))) (fc : ∀ j, j < n → w.cell? ⟨FB, j, none⟩ = some (.int .u32 (ofJ nodes given m vals j : Nat)))
    (hA : A = w.heap.size) (hP : P = w.heap.size + 1) (hL : L = w.heap.size + 2) (hsz : w1.heap.size = w.heap.size + 3) (hk : Kq (· < w.heap.size) w w1)
    (a0 : w1.cell? ⟨A, 0, none⟩ = some (.string (catOf ids))) (a1 : w1.cell? ⟨A, 1, none⟩ = some (.slice (some ⟨EB, 0, none⟩) n n)) (a2 : w1.cell? ⟨A, 2, none⟩ = some (.slice (some ⟨RB, 0, none⟩) n n)) (l0 : w1.cell? ⟨L, 0, none⟩ = some (.pointer (some ⟨A, 0, none⟩))) (l1 : w1.cell? ⟨L, 1, none⟩ = some (.pointer (some ⟨P, 0, none⟩)))
    (p0 : w1.cell? ⟨P, 0, none⟩ = some (.slice (some ⟨VB, 0, none⟩) m cap)) (p1 : w1.cell? ⟨P, 1, none⟩ = some (.slice (some ⟨SB, 0, none⟩) (m + 1) (m + 1))) (p2 : w1.cell? ⟨P, 2, none⟩ = some (.slice (some ⟨FB, 0, none⟩) n n)) :
    Calls Try.prog 16 #[iv, .string res, .pointer (some ⟨L, 0, none⟩)] w1 fun e w' => ∃ r, e = .returned r ∧ Got Q w vals (wantAll (dkOf ids nodes given m vals) m res xs) r w' := by
  have hkQ : Kq Q w w1 := hk.mono hQ
  have hr1 := hr.kq hkQ
  subst hn
  have harr : ArrAt w1 A EB RB ids.length (catOf ids) (endOf ids) D := by
    refine ⟨a0, a1, a2, hr1.en, hr1.rk, fun j hj => ?_, fun j hj => ?_, ?_, hn4, fun i hi => hl.lt hi⟩
    · rw [beg_end]; unfold endOf; rw [sumSz_take hj]; omega
    · unfold endOf
      have h1 := sumSz_le (ids := ids) (j + 1)
      have h2 : (catOf ids).size = sumSz ids := by rw [← catB_len]; simp [catOf, ByteArray.size]
      rw [h2]; exact h1
    · have h2 : (catOf ids).size = sumSz ids := by rw [← catB_len]; simp [catOf, ByteArray.size]
      rw [h2]; exact hs
  have htop : TopAt w1 P VB SB FB ids.length m cap vals (ofJ nodes given m vals) := by
    refine ⟨p0, p1, p2, (hr1.va hm).2.2, fun i hi => (hkQ.cell (p := ⟨SB, i, none⟩) qS).trans (sc i hi), fun j hj => (hkQ.cell (p := ⟨FB, j, none⟩) qF).trans (fc j hj), hmc, hcm, hm4, hn4, fun j hj => hl.of_le hj⟩
  have hat : (Dl.mk L A EB RB ids.length (catOf ids) (endOf ids) D (.pointer (some ⟨P, 0, none⟩)) m vals (ofJ nodes given m vals) (dkOf ids nodes given m vals)).At (fun k => Q k ∨ k = A ∨ k = P ∨ k = L) w1 := by
    refine ⟨⟨l0, l1, harr, hl.ranked, .inr ⟨P, VB, SB, FB, cap, rfl, htop, .inr (.inr (.inl rfl)), .inl (hr1.va hm).2.1, .inl qS, .inl qF⟩, .inr (.inr (.inr rfl)), .inr (.inl rfl), .inl hr.qE, .inl hr.qR⟩, hl.key⟩
  refine (oneList_any (fun k => Q k ∨ k = A ∨ k = P ∨ k = L) _ res iv xs w1 (fun k hk' => ?_) hat (hr1.xs.mono (fun _ _ h => .inl h)) hne hb hx hm4).mono ?_
  · rcases hk' with h | h | h | h
    · have := hQ k h; omega
    · omega
    · omega
    · omega
  · rintro e w' ⟨Q', r, gs, rfl, q1, q2, q3, q4, q5⟩
    exact ⟨r, rfl, Q', gs, fun k h => q1 k (.inl h), q2, q3, hkQ.trans (q4.mono (fun _ h => .inl h)), q5⟩
end Go.Proofs.Qxb6609296a

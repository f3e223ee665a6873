import Derived.Test.Qxb6609296aPlain2
namespace Go.Proofs.Qxb6609296a
open Go.RowKit Srt

theorem rd_string {Q : Nat → Prop} {w : World} {bv : Value} {bs : List UInt8} (h : Rd Q w bv (U8 bs)) : (convert 40 9 bv).run Try.prog w = .ok (.string ⟨bs.toArray⟩) w := by
  obtain ⟨ao, c, hv, hl, hm, hn, hc⟩ := h
  rw [U8_len] at hv hl hc
  subst hv
  cases ao with
  | none =>
    have h0 := hn rfl
    have hb : bs = [] := List.eq_nil_of_length_eq_zero (by omega)
    subst hb
    rw [run_convert_bytes_nil w 40 5 Try.underlying40 Try.underlying5 _ _ 9 Try.underlying9]
    rfl
  | some a =>
    refine run_convert_bytes_back w 40 9 5 a c bs Try.underlying40 Try.underlying5 Try.underlying9 (fun j hj => ?_)
    obtain ⟨b, off, ha, _, hx⟩ := hc (by omega)
    injection ha with ha
    subst ha
    have hadd : (⟨b, off, none⟩ : Addr).add j = ⟨b, off + j, none⟩ := by unfold Addr.add; split <;> simp_all
    rw [hadd]
    exact hx j _ (by simp [U8, hj])

/-- What stands ready for the device list. -/
structure Ready (Q : Nat → Prop) (w : World) (RB EB VB n m cap : Nat) (av : Option Addr) (bv iv : Value) (ids : List ByteArray) (xs : List As) (D : Nat → Nat) (vals : Nat → Int) : Prop where
  rk : ∀ i, i < n → w.cell? ⟨RB, i, none⟩ = some (.int .u32 (D i : Nat))
  en : ∀ i, i < n → w.cell? ⟨EB, i, none⟩ = some (.int .u32 (endOf ids i : Nat))
  va : 0 < m → av = some ⟨VB, 0, none⟩ ∧ Q VB ∧ ∀ i, i < m → w.cell? ⟨VB, i, none⟩ = some (.int .i64 (vals i))
  qR : Q RB
  qE : Q EB
  bs : Rd Q w bv (U8 (catB ids))
  xs : Ass Q w iv xs
theorem Ready.kq {Q : Nat → Prop} {w w' : World} {RB EB VB n m cap : Nat} {av : Option Addr} {bv iv : Value} {ids : List ByteArray} {xs : List As} {D : Nat → Nat} {vals : Nat → Int} (h : Ready Q w RB EB VB n m cap av bv iv ids xs D vals) (k : Kq Q w w') : Ready Q w' RB EB VB n m cap av bv iv ids xs D vals :=
  ⟨fun i hi => (k.cell (p := ⟨RB, i, none⟩) h.qR).trans (h.rk i hi), fun i hi => (k.cell (p := ⟨EB, i, none⟩) h.qE).trans (h.en i hi), fun hm => ⟨(h.va hm).1, (h.va hm).2.1, fun i hi => (k.cell (p := ⟨VB, i, none⟩) (h.va hm).2.1).trans ((h.va hm).2.2 i hi)⟩, h.qR, h.qE, h.bs.kq k, h.xs.kq k⟩

/-- The groups have come. -/
def Got (Q : Nat → Prop) (w : World) (vals : Nat → Int) (ws : List Wt) (r : Value) (w' : World) : Prop :=
  ∃ (Q' : Nat → Prop) (gs : List Gv), (∀ k, Q k → Q' k) ∧ (∀ k, Q' k → k < w'.heap.size) ∧ OwnG Q' w' r gs ∧ Kq Q w w' ∧ GsOk Q' w' vals gs ws

/-- The list without nodes, and the groups by it. -/
theorem got_none (Q : Nat → Prop) (w w1 : World) (RB EB VB n m cap A L : Nat) (av : Option Addr) (bv iv : Value) (ids : List ByteArray) (nodes : List Int) (given : List Bool) (xs : List As) (D : Nat → Nat) (vals : Nat → Int) (res : ByteArray)
    (hQ : ∀ k, Q k → k < w.heap.size) (hr : Ready Q w RB EB VB n m cap av bv iv ids xs D vals) (hl : ListIs ids nodes given D m vals) (hn : n = ids.length) (hn4 : n ≤ 4096) (hs : sumSz ids ≤ 1048576) (hm : m = 0)
    (hne : ∀ (i : Nat) a, xs[i]? = some a → a.rs = res → 0 < a.devs.length) (hb : ∀ (i : Nat) a, xs[i]? = some a → a.devs.length ≤ 1048576) (hx : xs.length ≤ 16384)
    (hA : A = w.heap.size) (hL : L = w.heap.size + 1) (hsz : w1.heap.size = w.heap.size + 2) (hk : Kq (· < w.heap.size) w w1)
    (a0 : w1.cell? ⟨A, 0, none⟩ = some (.string (catOf ids))) (a1 : w1.cell? ⟨A, 1, none⟩ = some (.slice (some ⟨EB, 0, none⟩) n n)) (a2 : w1.cell? ⟨A, 2, none⟩ = some (.slice (some ⟨RB, 0, none⟩) n n)) (l0 : w1.cell? ⟨L, 0, none⟩ = some (.pointer (some ⟨A, 0, none⟩))) (l1 : w1.cell? ⟨L, 1, none⟩ = some (.pointer none)) :
    Calls Try.prog 16 #[iv, .string res, .pointer (some ⟨L, 0, none⟩)] w1 fun e w' => ∃ r, e = .returned r ∧ Got Q w vals (wantAll (dkOf ids nodes given m vals) m res xs) r w' := by
  have hkQ : Kq Q w w1 := hk.mono hQ
  have hr1 := hr.kq hkQ
  subst hn
  have harr : ArrAt w1 A EB RB ids.length (catOf ids) (endOf ids) D := by
    refine ⟨a0, a1, a2, hr1.en, hr1.rk, fun j hj => ?_, fun j hj => ?_, ?_, hn4, fun i hi => hl.lt hi⟩
    · rw [beg_end]; unfold endOf; rw [sumSz_take hj]; omega
    · unfold endOf
      have h1 := sumSz_le (ids := ids) (j + 1)
      have h2 : (catOf ids).size = sumSz ids := by rw [← catB_len]; simp [catOf, ByteArray.size]
      rw [h2]; exact h1
    · have h2 : (catOf ids).size = sumSz ids := by rw [← catB_len]; simp [catOf, ByteArray.size]
      rw [h2]; exact hs
  have hat : (Dl.mk L A EB RB ids.length (catOf ids) (endOf ids) D (.pointer none) m vals (ofJ nodes given m vals) (dkOf ids nodes given m vals)).At (fun k => Q k ∨ k = A ∨ k = L) w1 := by
    refine ⟨⟨l0, l1, harr, hl.ranked, .inl ⟨rfl, hm, fun j hj => ?_⟩, .inr (.inr rfl), .inr (.inl rfl), .inl hr.qE, .inl hr.qR⟩, hl.key⟩
    show ofJ nodes given m vals j = 0
    have h9 : ofJ nodes given m vals j ≤ m := hl.of_le hj
    omega
  refine (oneList_any (fun k => Q k ∨ k = A ∨ k = L) _ res iv xs w1 (fun k hk' => ?_) hat (hr1.xs.mono (fun _ _ h => .inl h)) hne hb hx (by show m ≤ 4096; omega)).mono ?_
  · rcases hk' with h | h | h
    · have := hQ k h; omega
    · omega
    · omega
  · rintro e w' ⟨Q', r, gs, rfl, q1, q2, q3, q4, q5⟩
    exact ⟨r, rfl, Q', gs, fun k h => q1 k (.inl h), q2, q3, hkQ.trans (q4.mono (fun _ h => .inl h)), q5⟩
end Go.Proofs.Qxb6609296a

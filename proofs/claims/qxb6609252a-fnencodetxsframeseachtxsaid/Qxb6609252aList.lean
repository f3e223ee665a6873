import Derived.Test.Qxb6609252aRead
namespace Go.Proofs.Qxb6609252a
open Go.RowKit

/-- What readList has gathered after k rounds: slices that read, in the first world, as the rows. -/
def Got (Q : Nat → Prop) (w : World) (L : List (List Int)) (k : Nat) (v : Value) (wr : World) : Prop :=
  ∃ vs : List Value, vs.length = k ∧ Own (fun b => b < w.heap.size) 23 wr v vs ∧ ∀ i, i < k → Rd Q w (vs.getD i (.bool false)) (U8 (L.getD i []))

theorem Own.drewN {Q : Nat → Prop} {e : TypeId} {w : World} {v : Value} {xs : List Value} (h : Own Q e w v xs) (n : Nat) : Own Q e (w.drewN n) v xs := h

/-- A part of a slice reads as that part. -/
theorem row_part {Q : Nat → Prop} {w : World} {b off : Nat} {bs r : List Int} {lo c : Nat} {ao : Option Addr} (hc : ∀ i, i < bs.length → w.cell? ⟨b, off + i, none⟩ = some (.int .u8 (bs.getD i 0))) (hqb : Q b)
    (hle : lo + r.length ≤ bs.length) (hr : ∀ j, j < r.length → bs.getD (lo + j) 0 = r.getD j 0) (hrc : r.length ≤ c) (hcm : c ≤ maxLen) (ha : ao ≠ none) (hao : 0 < r.length → ao = some ⟨b, off + lo, none⟩) : Rd Q w (.slice ao r.length c) (U8 r) := by
  refine ⟨ao, c, by simp [U8], by simpa [U8] using hrc, hcm, fun h => absurd h ha, fun hp => ⟨b, off + lo, hao (by simpa [U8] using hp), hqb, fun i x hi => ?_⟩⟩
  have hi' : i < r.length := by have := (List.getElem?_eq_some_iff.1 hi).1; simpa [U8] using this
  rw [Nat.add_assoc, hc (lo + i) (by omega), hr i hi']
  simpa [U8, hi'] using hi

theorem Got.next {Q : Nat → Prop} {w w3 : World} {L : List (List Int)} {k : Nat} {v' e : Value} {vs : List Value} (hl : vs.length = k) (hr : ∀ i, i < k → Rd Q w (vs.getD i (.bool false)) (U8 (L.getD i [])))
    (he : Rd Q w e (U8 (L.getD k []))) (ho : Own (fun b => b < w.heap.size) 23 w3 v' (vs ++ [e])) : Got Q w L (k + 1) v' w3 := by
  refine ⟨vs ++ [e], by simp [hl], ho, fun i hi => ?_⟩
  by_cases hik : i < k
  · have : (vs ++ [e]).getD i (.bool false) = vs.getD i (.bool false) := by simp [List.getElem?_append_left (show i < vs.length by omega)]
    rw [this]; exact hr i hik
  · obtain rfl : i = k := by omega
    have : (vs ++ [e]).getD i (.bool false) = e := by simp [← hl]
    rw [this]; exact he

set_option maxHeartbeats 1000000 in
theorem readList_core (Q : Nat → Prop) (b off n cv : Nat) (bs : List Int) (L : List (List Int)) (N p0 : Nat) (P m : Nat → Nat) (w : World) (hn : n = bs.length) (hN : N = L.length)
    (hc : ∀ i, i < bs.length → w.cell? ⟨b, off + i, none⟩ = some (.int .u8 (bs.getD i 0))) (hqb : Q b) (hQ : ∀ k, Q k → k < w.heap.size) (hncv : n ≤ cv) (hcvm : cv ≤ maxLen)
    (hcount : ∀ W, Kq Q w W → Calls Try.prog 23 #[.slice (some ⟨b, off, none⟩) n cv, .int .i64 p0] W fun e w' => e = .returned (.tuple #[.int .u64 N, .bool true]) ∧ ∃ q, w' = W.drewN q)
    (hlen : ∀ k, k < N → ∀ W, Kq Q w W → Calls Try.prog 23 #[.slice (some ⟨b, off, none⟩) n cv, .int .i64 (P k)] W fun e w' => e = .returned (.tuple #[.int .u64 (m k), .bool true]) ∧ ∃ q, w' = W.drewN q)
    (hP0 : P 0 = p0 + 4) (hPs : ∀ k, k < N → P (k + 1) = P k + 4 + m k) (hPle : ∀ k, k ≤ N → P k ≤ n) (hbn : n ≤ 1073741824) (hNb : N ≤ 1048576)
    (hm : ∀ k, k < N → m k = (L.getD k []).length) (hrow : ∀ k, k < N → ∀ j, j < m k → bs.getD (P k + 4 + j) 0 = (L.getD k []).getD j 0) :
    Calls Try.prog 18 #[.slice (some ⟨b, off, none⟩) n cv, .int .i64 p0] w fun e w' => ∃ r, e = .returned (.tuple #[r, .int .i64 (P N), .bool true]) ∧ Got Q w L N r w' ∧ Below w.heap.size w w' := by
  obtain ⟨i0, hi, hz0, hz1, hz2⟩ := info_parts Try.info23
  have HC := (show Hid _ from hc)
  have HCT := (show Hid _ from hcount)
  have HLN := (show Hid _ from hlen)
  have HPs := (show Hid _ from hPs)
  have HPl := (show Hid _ from hPle)
  have HM := (show Hid _ from hm)
  have HR := (show Hid _ from hrow)
  have HQ := (show Hid _ from hQ)
  have HP0 : Hid (P 0 = p0 + 4) := hP0
  have HN : Hid (N = L.length) := hN
  have Hn : Hid (n = bs.length) := hn
  have hp0 : p0 + 4 ≤ n := by rw [← hP0]; exact hPle 0 (by omega)
  clear hc hcount hlen hPs hPle hm hrow hQ hP0 hN hn
  go_enter Try.func18, Try.ntmps18
  go_wp2_with fail
  refine (HCT.out _ (Kq.refl _ _)).mono ?_
  rintro e w1 ⟨rfl, q1, rfl⟩
  go_wp2_with fail
  go_loopw [1, 9, 10] (fun p l c wr => ∃ k : Nat, k ≤ N ∧ c = .int .u64 k ∧ p = .int .i64 (P k) ∧ Got Q w L k l wr ∧ Below w.heap.size w wr) (fun _ _ c _ => N - (intOf c).toNat)
  case atStart =>
    exact ⟨0, Nat.zero_le _, rfl, by rw [HP0.out]; go_num, ⟨[], rfl, Own.nil _ _ _, fun i hi => absurd hi (by omega)⟩, Kq.below ((Kq.refl _ _).drewN _)⟩
  case round =>
    obtain ⟨k, hk, rfl, rfl, hgot, hbel⟩ := hrel
    by_cases hlt : k < N
    · have hlt' : (k : Int) < (N : Int) := by omega
      have e1 := HPs.out k hlt
      have e2 := HPl.out (k + 1) (by omega)
      have hpm : P k + 4 + m k ≤ n := by omega
      have HE : Hid (P (k + 1) = P k + 4 + m k) := e1
      obtain ⟨vs, hvl, hown, hrd⟩ := hgot
      have HV : Hid (vs.length = k ∧ ∀ i, i < k → Rd Q w (vs.getD i (.bool false)) (U8 (L.getD i []))) := ⟨hvl, hrd⟩
      have HO : Hid (Own (fun b => b < w.heap.size) 23 wr _ vs) := hown
      have HB : Hid (Below w.heap.size w wr) := hbel
      have hkq : Kq Q w wr := Kq.ofBelow hbel HQ.out
      clear e1 e2 hvl hown hrd hbel
      by_cases hcp : P k + 4 < cv
      · go_wp2_with fail
        refine (HLN.out k hlt _ hkq).mono ?_
        rintro e w2 ⟨rfl, q2, rfl⟩
        clear hkq
        go_wp2_with (at_builtin; refine wpList_append_q _ rfl (.tmp 50) (.tmp 55) 35 rfl 23 i0 (.slice none 0 0) 24 Try.underlying35 hi hz0 hz1 hz2 rfl (fun b => b < w.heap.size) ?hq _ vs rfl ((HO.out.drewN q2).alloc _) (fun _ => True) _ [_] rfl (Rd.block (t := 23) (f := (0, 0)) (heap_alloc_at _ _ (by simp)) (by simp [maxLen]) trivial rfl) ?h1 ?h63 ?hby ?_)
        case hq => intro x hx; have := HB.out.size; simp; omega
        case h1 => intro u hu; simp at hu; subst hu; rfl
        case h63 => have := HV.out.1; simp [maxLen]; omega
        case hby => have := HV.out.1; simp; omega
        intro v' w3 ho hk3 _
        have H3 : Hid (Got Q w L (k + 1) v' w3) := Got.next HV.out.1 HV.out.2 (by have := HM.out k hlt; rw [this] at hpm ⊢; exact row_part (lo := P k + 4) HC.out hqb (by have := Hn.out; omega) (fun j hj => HR.out k hlt j (by omega)) (by omega) (by omega) (by simp) (fun _ => rfl)) ho
        have H4 : Hid (Below w.heap.size w w3) := by
          have hb2 : Below w.heap.size w ((wr.drewN q2).alloc (.cells #[.slice (some ⟨b, off + (P k + 4), none⟩) (m k) (cv - (P k + 4))] 23)) := (HB.out.trans (Kq.below ((Kq.refl _ _).drewN q2))).alloc HB.out.size _
          exact hb2.trans hk3.below
        clear ho hk3 HO HB HV
        go_wp2
        go_roundw
        case rel => exact ⟨k + 1, by omega, by go_num, by rw [HE.out]; go_num, H3.out, H4.out⟩
        case measure => simp [intOf]; omega
      · obtain rfl : cv = P k + 4 := by omega
        have hm0 : m k = 0 := by omega
        have HM0 : Hid (m k = 0) := hm0
        clear hm0
        go_wp2_with fail
        refine (HLN.out k hlt _ hkq).mono ?_
        rintro e w2 ⟨rfl, q2, rfl⟩
        clear hkq
        go_wp2_with (at_builtin; refine wpList_append_q _ rfl (.tmp 50) (.tmp 55) 35 rfl 23 i0 (.slice none 0 0) 24 Try.underlying35 hi hz0 hz1 hz2 rfl (fun b => b < w.heap.size) ?hq _ vs rfl ((HO.out.drewN q2).alloc _) (fun _ => True) _ [_] rfl (Rd.block (t := 23) (f := (0, 0)) (heap_alloc_at _ _ (by simp)) (by simp [maxLen]) trivial rfl) ?h1 ?h63 ?hby ?_)
        case hq => intro x hx; have := HB.out.size; simp; omega
        case h1 => intro u hu; simp at hu; subst hu; rfl
        case h63 => have := HV.out.1; simp [maxLen]; omega
        case hby => have := HV.out.1; simp; omega
        intro v' w3 ho hk3 _
        have H3 : Hid (Got Q w L (k + 1) v' w3) := Got.next HV.out.1 HV.out.2 (by have := HM.out k hlt; have h0 := HM0.out; rw [this] at hpm h0 ⊢; exact row_part (lo := P k + 4) HC.out hqb (by have := Hn.out; omega) (fun j hj => HR.out k hlt j (by omega)) (by omega) (by omega) (by simp) (fun h => absurd h (by omega))) ho
        have H4 : Hid (Below w.heap.size w w3) := by
          have hb2 : Below w.heap.size w ((wr.drewN q2).alloc (.cells #[.slice (some ⟨b, off, none⟩) (m k) 0] 23)) := (HB.out.trans (Kq.below ((Kq.refl _ _).drewN q2))).alloc HB.out.size _
          exact hb2.trans hk3.below
        clear ho hk3 HO HB HV
        go_wp2
        go_roundw
        case rel => exact ⟨k + 1, by omega, by go_num, by rw [HE.out]; go_num, H3.out, H4.out⟩
        case measure => simp [intOf]; omega
    · obtain rfl : k = N := by omega
      have HG := (show Hid _ from hgot)
      have HB := (show Hid _ from hbel)
      clear hgot hbel
      go_wp2
      go_ret3
      exact ⟨_, rfl, HG.out, HB.out⟩

theorem Got.blobs {Q : Nat → Prop} {w w' : World} {L : List (List Int)} {r : Value} (h : Got Q w L L.length r w') (hQ : ∀ k, Q k → k < w.heap.size) (hb : Below w.heap.size w w') : Blobs (fun k => Q k ∨ w.heap.size ≤ k) w' r L := by
  obtain ⟨vs, hvl, ho, hr⟩ := h
  refine ⟨fun i => vs.getD i (.bool false), ?_, fun i hi => ((hr i hi).kq (Kq.ofBelow hb hQ)).mono (fun k _ h => .inl h)⟩
  have e : (List.range L.length).map (fun i => vs.getD i (.bool false)) = vs := by
    apply List.ext_getElem?
    intro i
    by_cases hi : i < L.length
    · simp [hi, hvl]
    · simp [hi, hvl]
  rw [e]
  exact ho.rd (fun k hk _ => .inr (by have := ho.2 k hk; omega))

theorem readList_any (Q : Nat → Prop) (v : Value) (pre post : List Int) (L : List (List Int)) (w : World) (hv : Rd Q w v (U8 (pre ++ (encL L ++ post)))) (hQ : ∀ k, Q k → k < w.heap.size)
    (hb : (pre ++ (encL L ++ post)).length ≤ 1073741824) (hL : L.length ≤ 1048576) (hrow : ∀ i, i < L.length → (L.getD i []).length ≤ 8388608) :
    Calls Try.prog 18 #[v, .int .i64 pre.length] w fun e w' => ∃ r, e = .returned (.tuple #[r, .int .i64 (pre.length + (encL L).length : Nat), .bool true]) ∧ Blobs (fun k => Q k ∨ w.heap.size ≤ k) w' r L ∧ Below w.heap.size w w' := by
  have hbl : (pre ++ (encL L ++ post)).length = pre.length + (encL L).length + post.length := by simp; omega
  have hcount := fun (W : World) (hk : Kq Q w W) => read32 Q v (pre ++ (encL L ++ post)) pre.length L.length W (hv.kq hk) (by rw [hbl]; simp [encL, be4]; omega) (by omega) (by omega)
    (at_count pre post L (i := 0) (by omega)) (at_count pre post L (i := 1) (by omega)) (at_count pre post L (i := 2) (by omega)) (at_count pre post L (i := 3) (by omega))
  have hpn : ∀ k, k < L.length → pos pre L k + 4 + (L.getD k []).length ≤ (pre ++ (encL L ++ post)).length := fun k hk => by
    have h1 := pos_next pre hk
    have h2 := pos_le pre L (k + 1) (by omega)
    rw [hbl]; omega
  have hlen := fun (k : Nat) (hk : k < L.length) (W : World) (hq : Kq Q w W) => read32 Q v (pre ++ (encL L ++ post)) (pos pre L k) (L.getD k []).length W (hv.kq hq) (by have := hpn k hk; omega) (by omega) (by have := hrow k hk; omega)
    (at_len pre post hk (i := 0) (by omega)) (at_len pre post hk (i := 1) (by omega)) (at_len pre post hk (i := 2) (by omega)) (at_len pre post hk (i := 3) (by omega))
  obtain ⟨ao, cv, rfl, hlc, hcm, _, hcv⟩ := hv.bytes
  obtain ⟨b, off, rfl, hqb, hc⟩ := hcv (by rw [hbl]; simp [encL, be4]; omega)
  refine (readList_core Q b off _ cv _ L L.length pre.length (pos pre L) (fun k => (L.getD k []).length) w rfl rfl hc hqb hQ hlc hcm hcount hlen (by simp [pos, encRows]) (fun k hk => pos_next pre hk) (fun k hk => by have := pos_le pre L k hk; rw [hbl]; omega) hb hL (fun _ _ => rfl) (fun k hk j hj => at_row pre post hk hj)).mono ?_
  rintro e w' ⟨r, rfl, hgot, hbel⟩
  rw [pos_all]
  exact ⟨r, rfl, hgot.blobs hQ hbel, hbel⟩
end Go.Proofs.Qxb6609252a

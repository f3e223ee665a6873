import Derived.Test.Qxb6609252aMade
namespace Go.Proofs.Qxb6609252a
open Go.RowKit

theorem EncOk.more {Q : Nat → Prop} {w w' : World} {E : Nat} {xs : List Int} (h : EncOk Q w E xs) (hb : Below w.heap.size w w') : EncOk (fun k => Q k ∨ (w.heap.size ≤ k ∧ k < w'.heap.size)) w' E xs := by
  obtain ⟨v, hE, hown, hQE, hQ⟩ := h
  have hEl : E < w.heap.size := (Array.getElem?_eq_some_iff.1 hE).1
  refine ⟨v, by rw [hb.block E hEl]; exact hE, ?_, ?_, ?_⟩
  · have h1 := Own.kq (R := fun k => k < w.heap.size) hown (Kq.ofBelow hb (fun _ h => h)) (fun k hk => hown.lt k hk)
    refine ⟨h1.1, fun k hk hq => ?_⟩
    rcases hq with hq | ⟨hq, _⟩
    · exact hown.2 k hk hq
    · have := hown.lt k hk; omega
  · rintro (h | ⟨h, _⟩)
    · exact hQE h
    · omega
  · rintro k (h | ⟨_, h⟩)
    · exact Nat.lt_of_lt_of_le (hQ k h) hb.size
    · exact h

theorem Rd.head {Q : Nat → Prop} {w : World} {ao : Option Addr} {n c : Nat} {xs ys : List Int} (h : Rd Q w (.slice ao n c) (U8 (xs ++ ys))) : Rd Q w (.slice ao xs.length c) (U8 xs) := by
  obtain ⟨ao', c', hv, hl, hm, hn, hc⟩ := h
  simp only [Value.slice.injEq] at hv
  obtain ⟨rfl, _, rfl⟩ := hv
  refine ⟨ao, c, by simp [U8], by simp [U8] at hl ⊢; omega, hm, hn, fun hp => ?_⟩
  have hp' : 0 < xs.length := by simpa [U8] using hp
  obtain ⟨b, off, ha, hb, hx⟩ := hc (by simp [U8]; omega)
  refine ⟨b, off, ha, hb, fun i x hi => hx i x ?_⟩
  have hi' : i < xs.length := by have := (List.getElem?_eq_some_iff.1 hi).1; simpa [U8] using this
  rw [U8, List.map_append, List.getElem?_append_left (by simpa using hi')]
  exact hi

set_option maxHeartbeats 4000000 in
theorem frames_walk (p a : Value) (pre : List Int) (A : List (List Int)) (w : World) (hp : Rd (fun k => k < w.heap.size) w p (U8 pre)) (ha : Blobs (fun k => k < w.heap.size) w a A) :
    Calls Try.prog 5 #[p, a] w fun e w' => e = .returned (.bool true) ∧ Below w.heap.size w w' := by
  obtain ⟨pa, pc, hpv⟩ : ∃ pa pc, p = .slice pa pre.length pc := by obtain ⟨pa, pc, h, _⟩ := hp.bytes; exact ⟨pa, pc, h⟩
  have hpm : pre.length ≤ 9223372036854775807 := by obtain ⟨_, _, _, h1, h2, _⟩ := hp.bytes; unfold maxLen at h2; omega
  subst hpv
  have HA : Hid (Blobs (fun k => k < w.heap.size) w a A) := ha
  have HP : Hid (Rd (fun k => k < w.heap.size) w (.slice pa pre.length pc) (U8 pre)) := hp
  clear ha hp
  go_enter Try.func5, Try.ntmps5
  go_wp2_with fail
  refine (zz_frames _ _ a pre A _ HP.out HA.out).mono ?_
  rintro e w' ⟨hw', r, rfl⟩
  subst w'
  cases r
  · go_wp2
    go_ret
    exact ⟨rfl, Below.refl _ _⟩
  by_cases hbig : 1048576 < pre.length
  · go_wp2
    go_ret
    exact ⟨rfl, Below.refl _ _⟩
  go_wp2_with fail
  refine (blob_any _ a A pre.length _ HA.out (by omega)).mono ?_
  rintro e w' ⟨hw', he⟩
  subst w'
  rcases he with rfl | ⟨rfl, ht⟩
  · go_wp2
    go_ret
    exact ⟨rfl, Below.refl _ _⟩
  go_wp2_with fail
  refine (clone_any _ _ pre _ HP.out (by omega)).mono ?_
  rintro e w1 ⟨vp, rfl, hP1, hb1⟩
  have HP1 : Hid (Rd (fun k => k < w1.heap.size) w1 vp (U8 pre)) := hP1.mono (fun _ h _ => h)
  have HA1 : Hid (Blobs (fun k => k < w1.heap.size) w1 a A) := HA.out.later hb1
  have HL1 : Hid (Below w.heap.size w w1) := hb1
  clear hP1 hb1 HA HP
  go_wp2_with fail
  refine (cloneList_any _ a A _ HA1.out (fun _ h => h) (fun i hi => by have := row_le hi; omega) (by omega)).mono ?_
  rintro e w2 ⟨va, rfl, hA2, hb2⟩
  have HP2 : Hid (Rd (fun k => k < w2.heap.size) w2 vp (U8 pre)) := HP1.out.later hb2
  have HA2 : Hid (Blobs (fun k => k < w2.heap.size) w2 va A) := hA2.mono (fun _ h _ => h)
  have HL2 : Hid (Below w.heap.size w w2) := HL1.out.trans (hb2.mono HL1.out.size)
  clear hA2 hb2 HA1 HP1 HL1
  obtain ⟨aa, ca, V, rfl, hla, hma, _, hca, hV⟩ := HA2.out.rows
  obtain ⟨qa, qc, hqv⟩ : ∃ qa qc, vp = .slice qa pre.length qc := by obtain ⟨pa, pc, h, _⟩ := HP2.out.bytes; exact ⟨pa, pc, h⟩
  subst hqv
  have HCA := (show Hid _ from hca)
  have HV := (show Hid _ from hV)
  clear hca hV
  have hsz : pre.length + 24 * A.length + sumLen A ≤ 1048576 := by omega
  clear ht
  have hka : Kq (fun k => k < w2.heap.size) w2 (w2.alloc (.cells #[.slice none 0 0] 42)) := (Kq.refl _ _).alloc (fun _ h => h) _
  have HKA := (show Hid _ from hka)
  clear hka
  go_wp2_with fail
  refine (fixed_any (fun k => k < w2.heap.size) (fun k => k < w2.heap.size) w2.heap.size [] pre _ _ (EncOk.fresh w2) (HP2.out.kq HKA.out) (by simp; omega)).mono ?_
  rintro e w3 ⟨rfl, hok3, hk3⟩
  have HOK3 : Hid (EncOk (fun k => k < w2.heap.size) w3 w2.heap.size pre) := hok3
  have HK3 : Hid (Kq (fun k => k < w2.heap.size) w2 w3) := Kq.trans HKA.out hk3
  clear hok3 hk3 HKA
  have hmkA := run_make_row' (P := Try.prog) 44 45 (.pointer none) 8 Try.underlying44 Try.info45 rfl .i64 .i64 A.length (by omega) (by omega)
  obtain ⟨M, hM, hMs⟩ : ∃ M : List Value, madeCells #[.pointer none] A.length = M.toArray ∧ M.length = A.length := ⟨(madeCells #[.pointer none] A.length).toList, by simp, by simp [size_madeCells]⟩
  rw [hM] at hmkA
  have HS1 : Hid (TxMade w3.heap.size V A.length 0 (w3.alloc (.cells M.toArray 45))) := TxMade.start hMs
  clear hM hMs
  go_wp2
  go_loopw [9] (fun i wr => ∃ k : Nat, k ≤ A.length ∧ i = .int .i64 k ∧ TxMade w3.heap.size V A.length k wr ∧ Below w3.heap.size w3 wr) (fun i _ => A.length - (intOf i).toNat)
  case atStart => exact ⟨0, Nat.zero_le _, rfl, HS1.out, (Below.refl _ _).alloc (Nat.le_refl _) _⟩
  case round =>
    clear hmkA
    obtain ⟨k, hk, rfl, hmade, hbel⟩ := hrel
    by_cases hlt : k < A.length
    · obtain ⟨b1, o1, hab, hqb, h1⟩ := HCA.out (by omega)
      subst hab
      have hlt' : (k : Int) < (A.length : Int) := by omega
      obtain ⟨xa, xn, xc, hVk⟩ : ∃ xa xn xc, V k = .slice xa xn xc := by obtain ⟨xa, xc, h, _⟩ := HV.out k hlt; exact ⟨xa, _, xc, h⟩
      have g1 : wr.cell? ⟨b1, o1 + k, none⟩ = some (.slice xa xn xc) := by
        rw [← hVk]
        have hw := (HK3.out.cell (p := ⟨b1, o1 + k, none⟩) hqb).trans (h1 k hlt)
        exact (hbel.cell (p := ⟨b1, o1 + k, none⟩) (World.block_lt_of_cell? _ _ hw)).trans hw
      have HVk : Hid (V k = .slice xa xn xc) := hVk
      have HMd : Hid (TxMade w3.heap.size V A.length k wr) := hmade
      have HBl : Hid (Below w3.heap.size w3 wr) := hbel
      clear h1 hVk hmade hbel
      go_wp2_with fail
      refine (newTx xa xn xc _).mono ?_
      rintro e w4 ⟨rfl, hb3, _, hc3⟩
      obtain ⟨n1, n2, n3⟩ := TxMade.next HMd.out hb3 (by rw [HVk.out]; exact hc3) hlt
      obtain ⟨ov, ho⟩ : ∃ ov, w4.cell? ⟨w3.heap.size, k, none⟩ = some ov := by
        cases h : w4.cell? ⟨w3.heap.size, k, none⟩ with
        | none => exact absurd h n1
        | some ov => exact ⟨ov, rfl⟩
      have H3 := (show Hid _ from n3)
      have H4 : Hid (Below w3.heap.size w3 (w4.setCell ⟨w3.heap.size, k, none⟩ (.pointer (some ⟨wr.heap.size, 0, none⟩)))) := (HBl.out.trans (hb3.mono HBl.out.size)).setCell (Nat.le_refl _) _
      clear n1 n3 hb3 hc3 HMd HBl HVk
      go_wp2
      go_roundw
      case rel => exact ⟨k + 1, by omega, by go_num, H3.out, H4.out⟩
      case measure => simp [intOf]; omega
    · obtain rfl : k = A.length := by omega
      have HOK4 : Hid (EncOk (fun k => k < w2.heap.size ∨ (w3.heap.size ≤ k ∧ k < wr.heap.size)) wr w2.heap.size pre) := HOK3.out.more hbel
      have HK4 : Hid (Kq (fun k => k < w2.heap.size) w2 wr) := HK3.out.trans (Kq.ofBelow hbel (fun k hk => Nat.lt_of_lt_of_le hk HK3.out.size))
      have HTA : Hid (Txs (fun k => k < w2.heap.size ∨ (w3.heap.size ≤ k ∧ k < wr.heap.size)) wr (.slice (some ⟨w3.heap.size, 0, none⟩) A.length A.length) A) := TxMade.txs hmade (by unfold maxLen; omega) (fun _ h1 h2 => .inr ⟨h1, h2⟩) (fun i hi => ((HV.out i hi).kq HK4.out).mono (fun _ _ h => .inl h))
      clear hmade hbel HOK3 HK3 HV HCA HS1 hk hlt
      go_wp2_with fail
      refine (zzEncode_any _ w2.heap.size pre _ A _ HOK4.out HTA.out (by omega) (by omega)).mono ?_
      rintro e w5 ⟨rfl, hok5, hk5⟩
      obtain ⟨ov, hov, hrd⟩ := hok5.out
      have HK5 : Hid (Kq (fun k => k < w2.heap.size) w2 w5) := HK4.out.trans (hk5.mono (fun _ h => .inl h))
      have HR5 : Hid (Rd (fun k => k < w5.heap.size) w5 ov (U8 (pre ++ encL A))) := hrd
      clear hok5 hk5 hrd HOK4 HTA HK4
      go_wp2_with fail
      refine (encBytes _ ov _ hov).mono ?_
      rintro e w' ⟨rfl, hw'⟩
      subst w'
      clear hov
      obtain ⟨lA, hlA⟩ : ∃ lA, lA = (encL A).length := ⟨_, rfl⟩
      have HLA : Hid (lA = (encL A).length ∧ lA ≤ 8388608) := ⟨hlA, by rw [hlA, encL_len]; omega⟩
      obtain ⟨oa, oc, hov, hoc⟩ : ∃ oa oc, ov = .slice oa (pre.length + lA) oc ∧ pre.length + lA ≤ oc := by
        obtain ⟨oa, oc, h, hl, _⟩ := HR5.out.bytes
        exact ⟨oa, oc, by rw [h, hlA]; simp, by rw [hlA]; simpa using hl⟩
      subst hov
      clear hlA
      have hlb := HLA.out.2
      go_wp2_with fail
      refine (cmp_eq (fun k => k < w5.heap.size) _ _ pre _ HR5.out.head ((HP2.out.kq HK5.out).mono (fun _ h _ => h))).mono ?_
      rintro e w6 ⟨rfl, n6, rfl⟩
      have hb6 : Below w5.heap.size w5 (w5.drewN n6) := Kq.below ((Kq.refl _ _).drewN n6)
      have HR6 : Hid (Rd (fun k => k < (w5.drewN n6).heap.size) (w5.drewN n6) (.slice oa (pre.length + lA) oc) (U8 (pre ++ encL A))) := HR5.out.later hb6
      clear hb6
      go_wp2_with fail
      refine (readList_at _ pre [] (pre ++ encL A) A pre.length (pre.length + lA) _ HR6.out (by simp) rfl (by rw [HLA.out.1]) ?_ (by omega) (by omega)).mono ?_
      · have h1 := HLA.out; rw [List.length_append, ← h1.1]; omega
      rintro e w7 ⟨la, rfl, hla7, hb7⟩
      have HK7 : Hid (Kq (fun k => k < w2.heap.size) w2 w7) := (HK5.out.drewN n6).trans (Kq.ofBelow hb7 (fun k hk => Nat.lt_of_lt_of_le hk HK5.out.size))
      have HLa7 : Hid (Blobs (fun k => k < w7.heap.size) w7 la A) := hla7
      have HA7 : Hid (Blobs (fun k => k < w7.heap.size) w7 (.slice aa A.length ca) A) := (HA2.out.kq HK7.out).mono (fun _ h _ => h)
      clear hla7 hb7 HK5 HR5 HR6
      go_wp2_with fail
      refine (same_eq _ la _ A _ HLa7.out HA7.out).mono ?_
      rintro e w8 ⟨rfl, n8, rfl⟩
      go_wp2
      go_ret
      exact ⟨rfl, HL2.out.trans (((HK7.out.drewN n8).below).mono HL2.out.size)⟩
end Go.Proofs.Qxb6609252a

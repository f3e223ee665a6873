import Derived.Test.Qxb6609252aMade
namespace Go.Proofs.Qxb6609252a
open Go.RowKit

set_option maxHeartbeats 4000000 in
theorem two_walk (a b : Value) (A B : List (List Int)) (w : World) (ha : Blobs (fun k => k < w.heap.size) w a A) (hb : Blobs (fun k => k < w.heap.size) w b B) :
    Calls Try.prog 6 #[a, b] w fun e w' => e = .returned (.bool true) ∧ Below w.heap.size w w' := by
  have HA : Hid (Blobs (fun k => k < w.heap.size) w a A) := ha
  have HB : Hid (Blobs (fun k => k < w.heap.size) w b B) := hb
  clear ha hb
  go_enter Try.func6, Try.ntmps6
  go_wp2_with fail
  refine (zz_two _ a b A B _ HA.out HB.out).mono ?_
  rintro e w' ⟨hw', r, rfl⟩
  subst w'
  cases r
  · go_wp2
    go_ret
    exact ⟨rfl, Below.refl _ _⟩
  go_wp2_with fail
  refine (blob_zero _ a A _ HA.out).mono ?_
  rintro e w' ⟨hw', he⟩
  subst w'
  rcases he with rfl | ⟨rfl, ht1⟩
  · go_wp2
    go_ret
    exact ⟨rfl, Below.refl _ _⟩
  obtain ⟨t1, he1⟩ : ∃ t1, t1 = 24 * A.length + sumLen A := ⟨_, rfl⟩
  rw [← he1] at ht1 ⊢
  have HT1 : Hid (t1 = 24 * A.length + sumLen A) := he1
  clear he1
  go_wp2_with fail
  refine (blob_any _ b B t1 _ HB.out ht1).mono ?_
  rintro e w' ⟨hw', he⟩
  subst w'
  rcases he with rfl | ⟨rfl, ht2⟩
  · go_wp2
    go_ret
    exact ⟨rfl, Below.refl _ _⟩
  have hsz : 24 * A.length + sumLen A + 24 * B.length + sumLen B ≤ 1048576 := by have := HT1.out; omega
  clear ht2 ht1
  go_wp2_with fail
  refine (cloneList_any _ a A _ HA.out (fun _ h => h) (fun i hi => by have := row_le hi; omega) (by omega)).mono ?_
  rintro e w1 ⟨va, rfl, hA1, hb1⟩
  have HA1 : Hid (Blobs (fun k => k < w1.heap.size) w1 va A) := hA1.mono (fun _ h _ => h)
  have HB1 : Hid (Blobs (fun k => k < w1.heap.size) w1 b B) := HB.out.later hb1
  have HL1 : Hid (Below w.heap.size w w1) := hb1
  clear hA1 hb1 HA HB
  go_wp2_with fail
  refine (cloneList_any _ b B _ HB1.out (fun _ h => h) (fun i hi => by have := row_le hi; omega) (by omega)).mono ?_
  rintro e w2 ⟨vb, rfl, hB2, hb2⟩
  have HA2 : Hid (Blobs (fun k => k < w2.heap.size) w2 va A) := HA1.out.later hb2
  have HB2 : Hid (Blobs (fun k => k < w2.heap.size) w2 vb B) := hB2.mono (fun _ h _ => h)
  have HL2 : Hid (Below w.heap.size w w2) := HL1.out.trans (hb2.mono HL1.out.size)
  clear hB2 hb2 HA1 HB1 HL1
  obtain ⟨aa, ca, V, rfl, hla, hma, _, hca, hV⟩ := HA2.out.rows
  obtain ⟨ab, cb, U, rfl, hlb, hmb, _, hcb, hU⟩ := HB2.out.rows
  have HCA := (show Hid _ from hca)
  have HCB := (show Hid _ from hcb)
  have HV := (show Hid _ from hV)
  have HU := (show Hid _ from hU)
  clear hca hcb hV hU
  have hmkA := run_make_row' (P := Try.prog) 44 45 (.pointer none) 8 Try.underlying44 Try.info45 rfl .i64 .i64 A.length (by omega) (by omega)
  obtain ⟨M, hM, hMs⟩ : ∃ M : List Value, madeCells #[.pointer none] A.length = M.toArray ∧ M.length = A.length := ⟨(madeCells #[.pointer none] A.length).toList, by simp, by simp [size_madeCells]⟩
  rw [hM] at hmkA
  have HS1 : Hid (TxMade w2.heap.size V A.length 0 (w2.alloc (.cells M.toArray 45))) := TxMade.start hMs
  clear hM hMs
  go_wp2
  go_loopw [10] (fun i wr => ∃ k : Nat, k ≤ A.length ∧ i = .int .i64 k ∧ TxMade w2.heap.size V A.length k wr ∧ Below w2.heap.size w2 wr) (fun i _ => A.length - (intOf i).toNat)
  case atStart => exact ⟨0, Nat.zero_le _, rfl, HS1.out, (Below.refl _ _).alloc (Nat.le_refl _) _⟩
  case round =>
    clear hmkA
    obtain ⟨k, hk, rfl, hmade, hbel⟩ := hrel
    by_cases hlt : k < A.length
    · obtain ⟨b1, o1, hab, hqb, h1⟩ := HCA.out (by omega)
      subst hab
      have hlt' : (k : Int) < (A.length : Int) := by omega
      obtain ⟨xa, xn, xc, hVk⟩ : ∃ xa xn xc, V k = .slice xa xn xc := by obtain ⟨xa, xc, h, _⟩ := HV.out k hlt; exact ⟨xa, _, xc, h⟩
      have g1 : wr.cell? ⟨b1, o1 + k, none⟩ = some (.slice xa xn xc) := by rw [← hVk]; exact (hbel.cell (p := ⟨b1, o1 + k, none⟩) hqb).trans (h1 k hlt)
      have HVk : Hid (V k = .slice xa xn xc) := hVk
      have HMd : Hid (TxMade w2.heap.size V A.length k wr) := hmade
      have HBl : Hid (Below w2.heap.size w2 wr) := hbel
      clear h1 hVk hmade hbel
      go_wp2_with fail
      refine (newTx xa xn xc _).mono ?_
      rintro e w3 ⟨rfl, hb3, _, hc3⟩
      obtain ⟨n1, n2, n3⟩ := TxMade.next HMd.out hb3 (by rw [HVk.out]; exact hc3) hlt
      obtain ⟨ov, ho⟩ : ∃ ov, w3.cell? ⟨w2.heap.size, k, none⟩ = some ov := by
        cases h : w3.cell? ⟨w2.heap.size, k, none⟩ with
        | none => exact absurd h n1
        | some ov => exact ⟨ov, rfl⟩
      have H3 := (show Hid _ from n3)
      have H4 : Hid (Below w2.heap.size w2 (w3.setCell ⟨w2.heap.size, k, none⟩ (.pointer (some ⟨wr.heap.size, 0, none⟩)))) := (HBl.out.trans (hb3.mono HBl.out.size)).setCell (Nat.le_refl _) _
      clear n1 n3 hb3 hc3 HMd HBl HVk
      go_wp2
      go_roundw
      case rel => exact ⟨k + 1, by omega, by go_num, H3.out, H4.out⟩
      case measure => simp [intOf]; omega
    · obtain rfl : k = A.length := by omega
      have HTA : Hid (Txs (fun k => k < wr.heap.size) wr (.slice (some ⟨w2.heap.size, 0, none⟩) A.length A.length) A) := TxMade.txs hmade (by unfold maxLen; omega) (fun _ _ h => h) (fun i hi => (HV.out i hi).later hbel)
      have HL3 : Hid (Below w.heap.size w wr) := HL2.out.trans (hbel.mono HL2.out.size)
      have HA3 : Hid (Blobs (fun k => k < wr.heap.size) wr (.slice aa A.length ca) A) := HA2.out.later hbel
      have HB3 : Hid (Blobs (fun k => k < wr.heap.size) wr (.slice ab B.length cb) B) := HB2.out.later hbel
      have HK3 : Hid (Below w2.heap.size w2 wr) := hbel
      clear hmade hbel HL2 HA2 HB2 HV HCA HS1
      have hmkB := run_make_row' (P := Try.prog) 44 45 (.pointer none) 8 Try.underlying44 Try.info45 rfl .i64 .i64 B.length (by omega) (by omega)
      obtain ⟨N, hN, hNs⟩ : ∃ N : List Value, madeCells #[.pointer none] B.length = N.toArray ∧ N.length = B.length := ⟨(madeCells #[.pointer none] B.length).toList, by simp, by simp [size_madeCells]⟩
      rw [hN] at hmkB
      have HS2 : Hid (TxMade wr.heap.size U B.length 0 (wr.alloc (.cells N.toArray 45))) := TxMade.start hNs
      clear hN hNs hk hlt
      obtain ⟨w3, hw3⟩ : ∃ w3 : World, w3 = wr := ⟨_, rfl⟩
      subst hw3
      go_wp2
      go_loopw [12] (fun i wr => ∃ k : Nat, k ≤ B.length ∧ i = .int .i64 k ∧ TxMade w3.heap.size U B.length k wr ∧ Below w3.heap.size w3 wr) (fun i _ => B.length - (intOf i).toNat)
      case atStart => exact ⟨0, Nat.zero_le _, rfl, HS2.out, (Below.refl _ _).alloc (Nat.le_refl _) _⟩
      case round =>
        clear hmkB
        obtain ⟨k, hk, rfl, hmade, hbel⟩ := hrel
        by_cases hlt : k < B.length
        · obtain ⟨b1, o1, hab, hqb, h1⟩ := HCB.out (by omega)
          subst hab
          have hlt' : (k : Int) < (B.length : Int) := by omega
          obtain ⟨xa, xn, xc, hVk⟩ : ∃ xa xn xc, U k = .slice xa xn xc := by obtain ⟨xa, xc, h, _⟩ := HU.out k hlt; exact ⟨xa, _, xc, h⟩
          have g1 : wr.cell? ⟨b1, o1 + k, none⟩ = some (.slice xa xn xc) := by
            rw [← hVk]
            exact ((hbel.cell (p := ⟨b1, o1 + k, none⟩) (Nat.lt_of_lt_of_le hqb HK3.out.size)).trans (HK3.out.cell (p := ⟨b1, o1 + k, none⟩) hqb)).trans (h1 k hlt)
          have HVk : Hid (U k = .slice xa xn xc) := hVk
          have HMd : Hid (TxMade w3.heap.size U B.length k wr) := hmade
          have HBl : Hid (Below w3.heap.size w3 wr) := hbel
          clear h1 hVk hmade hbel
          go_wp2_with fail
          refine (newTx xa xn xc _).mono ?_
          rintro e w4 ⟨rfl, hb3, _, hc3⟩
          obtain ⟨n1, n2, n3⟩ := TxMade.next HMd.out hb3 (by rw [HVk.out]; exact hc3) hlt
          obtain ⟨ov, ho⟩ : ∃ ov, w4.cell? ⟨w3.heap.size, k, none⟩ = some ov := by
            cases h : w4.cell? ⟨w3.heap.size, k, none⟩ with
            | none => exact absurd h n1
            | some ov => exact ⟨ov, rfl⟩
          have H3 := (show Hid _ from n3)
          have H4 : Hid (Below w3.heap.size w3 (w4.setCell ⟨w3.heap.size, k, none⟩ (.pointer (some ⟨wr.heap.size, 0, none⟩)))) := (HBl.out.trans (hb3.mono HBl.out.size)).setCell (Nat.le_refl _) _
          clear n1 n3 hb3 hc3 HMd HBl HVk
          go_wp2
          go_roundw
          case rel => exact ⟨k + 1, by omega, by go_num, H3.out, H4.out⟩
          case measure => simp [intOf]; omega
        · obtain rfl : k = B.length := by omega
          have HTB4 : Hid (Txs (fun k => k < wr.heap.size) wr (.slice (some ⟨w3.heap.size, 0, none⟩) B.length B.length) B) := TxMade.txs hmade (by unfold maxLen; omega) (fun _ _ h => h) (fun i hi => ((HU.out i hi).later HK3.out).later hbel)
          have HTA4 : Hid (Txs (fun k => k < wr.heap.size) wr (.slice (some ⟨w2.heap.size, 0, none⟩) A.length A.length) A) := HTA.out.later hbel
          have HL4 : Hid (Below w.heap.size w wr) := HL3.out.trans (hbel.mono HL3.out.size)
          have HA4 : Hid (Blobs (fun k => k < wr.heap.size) wr (.slice aa A.length ca) A) := HA3.out.later hbel
          have HB4 : Hid (Blobs (fun k => k < wr.heap.size) wr (.slice ab B.length cb) B) := HB3.out.later hbel
          clear hmade hbel HTA HL3 HA3 HB3 HK3 HU HCB HS2 hk hlt
          go_wp2_with fail
          have hka : Kq (fun k => k < wr.heap.size) wr (wr.alloc (.cells #[.slice none 0 0] 42)) := (Kq.refl _ _).alloc (fun _ h => h) _
          refine (zzEncode_any (fun k => k < wr.heap.size) wr.heap.size [] _ A _ (EncOk.fresh wr) (HTA4.out.kq hka) (by omega) (by simp)).mono ?_
          rintro e w5 ⟨rfl, hok5, hk5⟩
          have HOK5 : Hid (EncOk (fun k => k < wr.heap.size) w5 wr.heap.size ([] ++ encL A)) := hok5
          have HK5 : Hid (Kq (fun k => k < wr.heap.size) wr w5) := hka.trans hk5
          clear hka hok5 hk5
          go_wp2_with fail
          refine (zzEncode_any (fun k => k < wr.heap.size) wr.heap.size ([] ++ encL A) _ B _ HOK5.out (HTB4.out.kq HK5.out) (by omega) (by have := encRows_len A; simp [encL, be4]; omega)).mono ?_
          rintro e w6 ⟨rfl, hok6, hk6⟩
          obtain ⟨ov, hov, hrd⟩ := hok6.out
          have HK6 : Hid (Kq (fun k => k < wr.heap.size) wr w6) := HK5.out.trans hk6
          have HR6 : Hid (Rd (fun k => k < w6.heap.size) w6 ov (U8 ([] ++ encL A ++ encL B))) := hrd
          clear hok6 hk6 hrd HOK5 HK5
          go_wp2_with fail
          refine (encBytes _ ov _ hov).mono ?_
          rintro e w' ⟨rfl, hw'⟩
          subst w'
          clear hov
          obtain ⟨lA, hlA⟩ : ∃ lA, lA = (encL A).length := ⟨_, rfl⟩
          obtain ⟨lB, hlB⟩ : ∃ lB, lB = (encL B).length := ⟨_, rfl⟩
          have HLA : Hid (lA = (encL A).length ∧ lA ≤ 8388608) := ⟨hlA, by rw [hlA, encL_len]; omega⟩
          have HLB : Hid (lB = (encL B).length ∧ lB ≤ 8388608) := ⟨hlB, by rw [hlB, encL_len]; omega⟩
          obtain ⟨oa, oc, hov⟩ : ∃ oa oc, ov = .slice oa (lA + lB) oc := by
            obtain ⟨oa, oc, h, _⟩ := HR6.out.bytes
            exact ⟨oa, oc, by rw [h, hlA, hlB]; simp⟩
          subst hov
          clear hlA hlB
          go_wp2_with fail
          refine (readList_zero _ (encL B) ([] ++ encL A ++ encL B) A lA _ HR6.out (by simp) HLA.out.1 ?_ (by omega) (by omega)).mono ?_
          · have h1 := HLA.out; have h2 := HLB.out; rw [List.nil_append, List.length_append, ← h1.1, ← h2.1]; omega
          rintro e w7 ⟨la, rfl, hla7, hb7⟩
          have HK7 : Hid (Kq (fun k => k < wr.heap.size) wr w7) := HK6.out.trans (Kq.ofBelow hb7 (fun k hk => Nat.lt_of_lt_of_le hk HK6.out.size))
          have HR7 : Hid (Rd (fun k => k < w7.heap.size) w7 (.slice oa (lA + lB) oc) (U8 ([] ++ encL A ++ encL B))) := HR6.out.later hb7
          have HLa7 : Hid (Blobs (fun k => k < w7.heap.size) w7 la A) := hla7
          clear hla7 hb7 HK6 HR6
          go_wp2_with fail
          refine (readList_at _ (encL A) [] ([] ++ encL A ++ encL B) B lA (lA + lB) _ HR7.out (by simp) HLA.out.1 (by rw [HLA.out.1, HLB.out.1]) ?_ (by omega) (by omega)).mono ?_
          · have h1 := HLA.out; have h2 := HLB.out; rw [List.nil_append, List.length_append, ← h1.1, ← h2.1]; omega
          rintro e w8 ⟨lb, rfl, hlb8, hb8⟩
          have HK8 : Hid (Kq (fun k => k < wr.heap.size) wr w8) := HK7.out.trans (Kq.ofBelow hb8 (fun k hk => Nat.lt_of_lt_of_le hk HK7.out.size))
          have HLa8 : Hid (Blobs (fun k => k < w8.heap.size) w8 la A) := HLa7.out.later hb8
          have HLb8 : Hid (Blobs (fun k => k < w8.heap.size) w8 lb B) := hlb8
          have HA8 : Hid (Blobs (fun k => k < w8.heap.size) w8 (.slice aa A.length ca) A) := (HA4.out.kq HK8.out).mono (fun _ h _ => h)
          have HB8 : Hid (Blobs (fun k => k < w8.heap.size) w8 (.slice ab B.length cb) B) := (HB4.out.kq HK8.out).mono (fun _ h _ => h)
          clear hlb8 hb8 HK7 HR7 HLa7
          have hbA := HLA.out.2
          have hbB := HLB.out.2
          go_wp2_with fail
          refine (same_eq _ la _ A _ HLa8.out HA8.out).mono ?_
          rintro e w9 ⟨rfl, n9, rfl⟩
          go_wp2_with fail
          refine (same_eq _ lb _ B _ (HLb8.out.kq ((Kq.refl _ _).drewN n9)) (HB8.out.kq ((Kq.refl _ _).drewN n9))).mono ?_
          rintro e w10 ⟨rfl, n10, rfl⟩
          go_wp2
          go_ret
          exact ⟨rfl, HL4.out.trans (((HK8.out.drewN (n9 + n10)).below).mono HL4.out.size)⟩
end Go.Proofs.Qxb6609252a

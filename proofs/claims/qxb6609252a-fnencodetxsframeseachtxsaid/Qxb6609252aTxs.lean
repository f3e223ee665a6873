import Derived.Test.Qxb6609252aEnc
namespace Go.Proofs.Qxb6609252a
open Go.RowKit

set_option maxHeartbeats 1000000 in
theorem blob_enc (Q : Nat → Prop) (E : Nat) (xs bs : List Int) (b : Value) (w : World) (hok : EncOk Q w E xs) (hb : Rd Q w b (U8 bs)) (hl : xs.length + bs.length + 4 ≤ 1099511627776) (hbl : bs.length ≤ 8388608) :
    Calls Try.prog 26 #[.pointer (some ⟨E, 0, none⟩), b] w fun e w' => e = .returned (.tuple #[]) ∧ EncOk Q w' E (xs ++ (be4 bs.length ++ bs)) ∧ Kq Q w w' := by
  obtain ⟨i0, hi, hz0, hz1, hz2⟩ := info_parts Try.info5
  obtain ⟨ab, cb, rfl, _, _, _, _⟩ := hb.bytes
  have HOK : Hid _ := hok
  have HB0 : Hid (Rd Q w (.slice ab bs.length cb) (U8 bs)) := hb
  clear hok hb
  go_enter Try.func26, Try.ntmps26
  go_wp2_with fail
  refine (enc32 Q E xs bs.length _ HOK.out (by omega) (by omega)).mono ?_
  rintro e w1 ⟨rfl, hok1, hk1⟩
  obtain ⟨v, hE, hown, hQE, hQ⟩ := hok1
  have c0 : w1.cell? ⟨E, 0, none⟩ = some v := by simp [World.cell?, hE]
  have HO : Hid _ := EncOk.plus hE hown hQ
  have HE : Hid (w1.heap[E]? = some (.cells #[v] 42 (0, 0))) := hE
  have HQ : Hid (∀ k, Q k → k < w1.heap.size) := hQ
  have HQE : Hid (¬ Q E) := hQE
  have HB : Hid (Rd Q w1 (.slice ab bs.length cb) (U8 bs)) := Rd.kq HB0.out hk1
  have HK : Hid (Kq Q w w1) := hk1
  clear hE hown hQE hQ hk1
  go_wp2_with (at_builtin; refine wpList_append_q _ rfl (.tmp 13) (.tmp 14) 23 rfl 5 i0 (.int .u8 0) 1 Try.underlying23 hi hz0 hz1 hz2 rfl (fun k => Q k ∨ k = E) HO.out.2 v (U8 (xs ++ be4 bs.length)) rfl HO.out.1 Q (.slice ab bs.length cb) (U8 bs) rfl HB.out (U8_one _) ?h63 ?hby ?_)
  case h63 => simp [maxLen, be4]; omega
  case hby => simp [be4]; omega
  intro v' w2 ho hk _
  obtain ⟨q1, q2, q3, q4⟩ := EncOk.stored (xs := xs ++ (be4 bs.length ++ bs)) HE.out HQE.out HQ.out (by simpa [U8] using ho) hk
  have H3 := (show Hid _ from q3)
  have H4 := (show Hid _ from HK.out.trans q4)
  obtain ⟨a', n', c', rfl⟩ := ho.form
  clear q3 q4 ho hk
  go_wp2
  go_end0
  exact ⟨rfl, H3.out, H4.out⟩

/-- A list of signed transactions: pointers to structs whose bytes are those of L. -/
def Txs (Q : Nat → Prop) (w : World) (v : Value) (L : List (List Int)) : Prop :=
  ∃ (T : Nat → Nat) (V : Nat → Value), Rd Q w v ((List.range L.length).map fun i => .pointer (some ⟨T i, 0, none⟩)) ∧
    ∀ i, i < L.length → Q (T i) ∧ w.cell? ⟨T i, 39, none⟩ = some (V i) ∧ Rd Q w (V i) (U8 (L.getD i []))

theorem Txs.kq {Q : Nat → Prop} {w w' : World} {v : Value} {L : List (List Int)} (h : Txs Q w v L) (k : Kq Q w w') : Txs Q w' v L := by
  obtain ⟨T, V, h1, h2⟩ := h
  exact ⟨T, V, h1.kq k, fun i hi => ⟨(h2 i hi).1, (k.cell (p := ⟨T i, 39, none⟩) (h2 i hi).1).trans (h2 i hi).2.1, (h2 i hi).2.2.kq k⟩⟩

def encRows (L : List (List Int)) : List Int := L.flatMap fun b => be4 b.length ++ b
def encL (L : List (List Int)) : List Int := be4 L.length ++ encRows L

theorem encRows_take {L : List (List Int)} {k : Nat} (h : k < L.length) : encRows (L.take (k + 1)) = encRows (L.take k) ++ (be4 (L.getD k []).length ++ L.getD k []) := by
  rw [List.take_succ_eq_append_getElem h]
  simp only [encRows, List.flatMap_append, List.flatMap_cons, List.flatMap_nil, List.append_nil]
  simp [h]
theorem encRows_len (L : List (List Int)) : (encRows L).length = 4 * L.length + sumLen L := by
  induction L with
  | nil => rfl
  | cons b L ih => simp [encRows, sumLen, be4] at *; omega
theorem sumLen_take_le (L : List (List Int)) (k : Nat) : sumLen (L.take k) ≤ sumLen L := by
  induction L generalizing k with
  | nil => simp
  | cons b L ih => cases k with
    | zero => simp [sumLen]
    | succ k => have := ih k; simp [sumLen] at *; omega

set_option maxHeartbeats 1000000 in
theorem encode_any (Q : Nat → Prop) (E : Nat) (xs : List Int) (v : Value) (L : List (List Int)) (w : World) (hok : EncOk Q w E xs) (ht : Txs Q w v L) (hs : 4 * L.length + sumLen L ≤ 8388608) (hxl : xs.length ≤ 1073741824) :
    Calls Try.prog 22 #[.pointer (some ⟨E, 0, none⟩), v] w fun e w' => e = .returned (.tuple #[]) ∧ EncOk Q w' E (xs ++ encL L) ∧ Kq Q w w' := by
  obtain ⟨T, V, hrd, htx⟩ := ht
  obtain ⟨av, cv, rfl, hlc, hcm, _, hcv⟩ := hrd
  simp only [List.length_map, List.length_range] at *
  have HOK : Hid _ := hok
  have hL : L.length ≤ 2097152 := by omega
  clear hok
  go_enter Try.func22, Try.ntmps22
  go_wp2_with fail
  refine (enc32 Q E xs L.length _ HOK.out (by omega) (by omega)).mono ?_
  rintro e w1 ⟨rfl, hok1, hk1⟩
  have HK1 : Hid (EncOk Q w1 E (xs ++ be4 L.length)) := hok1
  have HK2 : Hid (Kq Q w w1) := hk1
  clear hok1 hk1
  go_wp2_with fail
  go_loopw [13] (fun i wr => ∃ k : Nat, k ≤ L.length ∧ i = .int .i64 k ∧ EncOk Q wr E (xs ++ be4 L.length ++ encRows (L.take k)) ∧ Kq Q w wr) (fun i _ => L.length - (intOf i).toNat)
  case atStart => exact ⟨0, Nat.zero_le _, rfl, by simpa [encRows] using HK1.out, HK2.out⟩
  case round =>
    obtain ⟨k, hk, rfl, hok, hkq⟩ := hrel
    by_cases hlt : k < L.length
    · obtain ⟨b, off, rfl, hQb, hc⟩ := hcv (by omega)
      have hlt' : (k : Int) < (L.length : Int) := by omega
      have g1 : wr.cell? ⟨b, off + k, none⟩ = some (.pointer (some ⟨T k, 0, none⟩)) := (hkq.cell (p := ⟨b, off + k, none⟩) hQb).trans (hc k _ (by simp [hlt]))
      obtain ⟨t1, t2, t3⟩ := htx k hlt
      have g2 : wr.cell? ⟨T k, 39, none⟩ = some (V k) := (hkq.cell (p := ⟨T k, 39, none⟩) t1).trans t2
      have HR : Hid (Rd Q wr (V k) (U8 (L.getD k []))) := Rd.kq t3 hkq
      have HO : Hid (EncOk Q wr E (xs ++ be4 L.length ++ encRows (L.take k))) := hok
      have HQ : Hid (Kq Q w wr) := hkq
      have HT := (show Hid _ from encRows_take hlt)
      have HN : Hid ((encRows (L.take k)).length ≤ 8388608 ∧ (L.getD k []).length ≤ 1048576 * 8) := by
        have e1 := encRows_len (L.take k)
        have e2 := sumLen_take_le L k
        have e3 := sumLen_take_le L (k + 1)
        have e4 := sumLen_take hlt
        have e5 : (L.take k).length ≤ k := List.length_take_le _ _
        constructor <;> omega
      clear hc hcv htx t1 t2 t3 hok hkq HK1 HK2 HOK
      go_wp2_with fail
      refine (txBytes (T k) (V k) _ g2).mono ?_
      rintro e w2 ⟨rfl, rfl⟩
      go_wp2_with fail
      refine (blob_enc Q E (xs ++ be4 L.length ++ encRows (L.take k)) (L.getD k []) (V k) _ HO.out HR.out ?_ ?_).mono ?_
      · have := HN.out; simp only [List.length_append, be4, List.length_cons, List.length_nil]; omega
      · have := HN.out; omega
      rintro e w3 ⟨rfl, hok3, hk3⟩
      have H3 : Hid (EncOk Q w3 E (xs ++ be4 L.length ++ encRows (L.take (k + 1)))) := by rw [HT.out, ← List.append_assoc]; exact hok3
      have H4 : Hid (Kq Q w w3) := HQ.out.trans hk3
      clear hok3 hk3 HO HR HT HQ
      go_wp2
      go_roundw
      case rel => exact ⟨k + 1, by omega, by go_num, H3.out, H4.out⟩
      case measure => simp [intOf]; omega
    · obtain rfl : k = L.length := by omega
      rw [List.take_length] at hok
      have H3 : Hid (EncOk Q wr E (xs ++ encL L)) := show EncOk Q wr E (xs ++ encL L) by simpa [encL] using hok
      have H4 : Hid (Kq Q w wr) := hkq
      clear hok hkq HK1 HK2 HOK
      go_wp2
      go_end0
      exact ⟨rfl, H3.out, H4.out⟩

theorem zzEncode_any (Q : Nat → Prop) (E : Nat) (xs : List Int) (v : Value) (L : List (List Int)) (w : World) (hok : EncOk Q w E xs) (ht : Txs Q w v L) (hs : 4 * L.length + sumLen L ≤ 8388608) (hxl : xs.length ≤ 1073741824) :
    Calls Try.prog 16 #[.pointer (some ⟨E, 0, none⟩), v] w fun e w' => e = .returned (.tuple #[]) ∧ EncOk Q w' E (xs ++ encL L) ∧ Kq Q w w' := by
  go_enter Try.func16, Try.ntmps16
  go_wp2_with fail
  refine (encode_any Q E xs v L _ hok ht hs hxl).mono ?_
  rintro e w1 ⟨rfl, hok1, hk1⟩
  have H3 : Hid (EncOk Q w1 E (xs ++ encL L)) := hok1
  have H4 : Hid (Kq Q w w1) := hk1
  clear hok1 hk1 hok ht
  go_wp2
  go_end0
  exact ⟨rfl, H3.out, H4.out⟩

theorem encBytes (E : Nat) (v : Value) (w : World) (hc : w.cell? ⟨E, 0, none⟩ = some v) :
    Calls Try.prog 17 #[.pointer (some ⟨E, 0, none⟩)] w fun e w' => e = .returned v ∧ w' = w := by
  go_enter Try.func17, Try.ntmps17
  go_wp2
  go_ret
  exact ⟨rfl, rfl⟩
end Go.Proofs.Qxb6609252a

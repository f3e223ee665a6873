import Derived.Test.Qxb6609296aL18
import Derived.Laws.IdiomStrings
import Derived.Laws.BytesArg
namespace Go.Proofs.Qxb6609296a
open Go.RowKit Srt

/-! ### string(buf) -/
theorem own_string {Q : Nat → Prop} {w : World} {bv : Value} {bs : List UInt8} (h : Own Q 5 w bv (U8 bs)) : (convert 40 9 bv).run Try.prog w = .ok (.string ⟨bs.toArray⟩) w := by
  obtain ⟨ao, c, hv, hl, hm, hn, hc⟩ := h.rd (Q' := fun _ => True) (fun _ _ _ => trivial)
  rw [U8_len] at hv hl hc
  subst hv
  cases ao with
  | none =>
    have h0 := hn rfl
    have hb : bs = [] := List.eq_nil_of_length_eq_zero (by omega)
    subst hb
    rw [run_convert_bytes_nil w 40 5 Try.underlying40 Try.underlying5 _ _ 9 Try.underlying9]
    rfl
  | some a =>
    refine run_convert_bytes_back w 40 9 5 a c bs Try.underlying40 Try.underlying5 Try.underlying9 (fun j hj => ?_)
    obtain ⟨b, off, ha, _, hx⟩ := hc (by omega)
    injection ha with ha
    subst ha
    have hadd : (⟨b, off, none⟩ : Addr).add j = ⟨b, off + j, none⟩ := by unfold Addr.add; split <;> simp_all
    rw [hadd]
    exact hx j _ (by simp [U8, hj])

/-! ### the IDs, laid end to end -/
def catOf (ids : List ByteArray) : ByteArray := ⟨(catB ids).toArray⟩
def endOf (ids : List ByteArray) (j : Nat) : Nat := sumSz (ids.take (j + 1))
theorem beg_end (ids : List ByteArray) (j : Nat) : beg (endOf ids) j = sumSz (ids.take j) := by
  unfold beg endOf
  split
  · next e => subst e; rfl
  · next e => rw [show j - 1 + 1 = j by omega]
theorem catB_parts {ids : List ByteArray} {j : Nat} (h : j < ids.length) : catB ids = catB (ids.take j) ++ ((ids.getD j ByteArray.empty).data.toList ++ catB (ids.drop (j + 1))) := by
  have h1 : ids = ids.take (j + 1) ++ ids.drop (j + 1) := (List.take_append_drop _ _).symm
  have h2 : catB ids = catB (ids.take (j + 1)) ++ catB (ids.drop (j + 1)) := by
    conv => lhs; rw [h1]
    unfold catB
    rw [List.flatMap_append]
  rw [h2, catB_snoc h, List.append_assoc]
theorem idAt_cat {ids : List ByteArray} {j : Nat} (h : j < ids.length) : idAt (catOf ids) (endOf ids) j = ids.getD j ByteArray.empty := by
  unfold idAt
  rw [beg_end]
  have he : endOf ids j = sumSz (ids.take j) + (ids.getD j ByteArray.empty).size := sumSz_take h
  rw [he]
  apply ba_ext
  rw [ByteArray.data_extract]
  simp only [catOf, Array.toList_extract, List.extract_eq_take_drop]
  rw [show sumSz (ids.take j) + (ids.getD j ByteArray.empty).size - sumSz (ids.take j) = (ids.getD j ByteArray.empty).size by omega, catB_parts h, ← catB_len (ids.take j), List.drop_left]
  have hs : (ids.getD j ByteArray.empty).size = (ids.getD j ByteArray.empty).data.toList.length := by rw [Array.length_toList]; rfl
  rw [hs, List.take_left]
end Go.Proofs.Qxb6609296a

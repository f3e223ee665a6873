import Derived.Test.Qxb6609252aTxs
import Derived.Laws.BitsLemmas
namespace Go.Proofs.Qxb6609252a
open Go.RowKit

theorem join64 (i : Nat) (x y : Int) (hx₀ : 0 ≤ x) (hx : x % 2 ^ i = 0) (hx₁ : x < 4294967296) (hy₀ : 0 ≤ y) (hy : y < 2 ^ i) (hy₁ : y < 4294967296) : bits .or .u64 x y = x + y :=
  bits_join .u64 32 (by decide) (fun n h0 h1 => by rw [IntKind.wrap_u64]; omega) i x y hx₀ hx (by omega) hy₀ hy (by omega)
theorem be_join (n : Nat) (hn : n < 4294967296) :
    bits .or .u64 (bits .or .u64 (bits .or .u64 ((n : Int) / 16777216 * 16777216) ((n : Int) / 65536 % 256 * 65536)) ((n : Int) / 256 % 256 * 256)) ((n : Int) % 256) = n := by
  rw [join64 24 ((n : Int) / 16777216 * 16777216) ((n : Int) / 65536 % 256 * 65536) (by omega) (by omega) (by omega) (by omega) (by omega) (by omega)]
  rw [join64 16 _ ((n : Int) / 256 % 256 * 256) (by omega) (by omega) (by omega) (by omega) (by omega) (by omega)]
  rw [join64 8 _ ((n : Int) % 256) (by omega) (by omega) (by omega) (by omega) (by omega) (by omega)]
  omega

set_option maxHeartbeats 1000000 in
theorem read32 (Q : Nat → Prop) (v : Value) (bs : List Int) (p n : Nat) (w : World) (hv : Rd Q w v (U8 bs)) (hp : p + 4 ≤ bs.length) (hb : bs.length ≤ 1099511627776) (hn : n < 4294967296)
    (h0 : bs.getD p 0 = (n : Int) / 16777216) (h1 : bs.getD (p + 1) 0 = (n : Int) / 65536 % 256) (h2 : bs.getD (p + 2) 0 = (n : Int) / 256 % 256) (h3 : bs.getD (p + 3) 0 = (n : Int) % 256) :
    Calls Try.prog 23 #[v, .int .i64 p] w fun e w' => e = .returned (.tuple #[.int .u64 n, .bool true]) ∧ ∃ m, w' = w.drewN m := by
  obtain ⟨av, cv, rfl, _, _, _, hcv⟩ := hv.bytes
  obtain ⟨b, off, rfl, _, hc⟩ := hcv (by omega)
  have c0 := hc p (by omega)
  have c1 := hc (p + 1) (by omega)
  have c2 := hc (p + 2) (by omega)
  have c3 := hc (p + 3) (by omega)
  rw [h0] at c0
  rw [h1] at c1
  rw [h2] at c2
  rw [h3] at c3
  clear h0 h1 h2 h3 hc hcv hv
  have hlt0 : (p : Int) < (bs.length : Int) := by omega
  have hlt1 : (p : Int) + 1 < (bs.length : Int) := by omega
  have hlt2 : (p : Int) + 2 < (bs.length : Int) := by omega
  have hlt3 : (p : Int) + 3 < (bs.length : Int) := by omega
  have k1 : IntKind.i64.wrap ((p : Int) + 1) = (p : Int) + 1 := by rw [IntKind.wrap_i64]; omega
  have k2 : IntKind.i64.wrap ((p : Int) + 2) = (p : Int) + 2 := by rw [IntKind.wrap_i64]; omega
  have k3 : IntKind.i64.wrap ((p : Int) + 3) = (p : Int) + 3 := by rw [IntKind.wrap_i64]; omega
  have z1 : (0 : Int) ≤ (p : Int) + 1 := by omega
  have z2 : (0 : Int) ≤ (p : Int) + 2 := by omega
  have z3 : (0 : Int) ≤ (p : Int) + 3 := by omega
  have t1 : ((p : Int) + 1).toNat = p + 1 := by omega
  have t2 : ((p : Int) + 2).toNat = p + 2 := by omega
  have t3 : ((p : Int) + 3).toNat = p + 3 := by omega
  go_enter Try.func23, Try.ntmps23
  go_wp2
  go_quiet (fail)
  go_wp2
  go_ret2
  exact ⟨congrArg (fun z => Ending.returned (.tuple #[.int .u64 z, .bool true])) (be_join n hn), nq, rfl⟩

/-! ### what stands where in the encoding -/
theorem getD_mid {A B C : List Int} {i : Nat} (h : i < B.length) : (A ++ (B ++ C)).getD (A.length + i) 0 = B.getD i 0 := by
  simp [List.getElem?_append_right, List.getElem?_append_left h]

def pos (pre : List Int) (L : List (List Int)) (k : Nat) : Nat := pre.length + 4 + (encRows (L.take k)).length

theorem split_row {L : List (List Int)} {k : Nat} (h : k < L.length) : encRows L = encRows (L.take k) ++ (be4 (L.getD k []).length ++ (L.getD k [] ++ encRows (L.drop (k + 1)))) := by
  have e : L = L.take k ++ (L.getD k [] :: L.drop (k + 1)) := by
    have : L.getD k [] = L[k] := by simp [h]
    rw [this, ← List.drop_eq_getElem_cons h, List.take_append_drop]
  conv => lhs; rw [e]
  simp [encRows]

theorem at_count (pre post : List Int) (L : List (List Int)) {i : Nat} (h : i < 4) : (pre ++ (encL L ++ post)).getD (pre.length + i) 0 = (be4 L.length).getD i 0 := by
  rw [encL, List.append_assoc]
  exact getD_mid (by simpa [be4] using h)
theorem at_len (pre post : List Int) {L : List (List Int)} {k i : Nat} (hk : k < L.length) (h : i < 4) : (pre ++ (encL L ++ post)).getD (pos pre L k + i) 0 = (be4 (L.getD k []).length).getD i 0 := by
  rw [encL, split_row hk]
  have e : pre ++ (be4 L.length ++ (encRows (L.take k) ++ (be4 (L.getD k []).length ++ (L.getD k [] ++ encRows (L.drop (k + 1))))) ++ post) = (pre ++ be4 L.length ++ encRows (L.take k)) ++ (be4 (L.getD k []).length ++ (L.getD k [] ++ encRows (L.drop (k + 1)) ++ post)) := by simp
  rw [e, show pos pre L k = (pre ++ be4 L.length ++ encRows (L.take k)).length from by simp [pos, be4]; omega]
  exact getD_mid (by simpa [be4] using h)
theorem at_row (pre post : List Int) {L : List (List Int)} {k i : Nat} (hk : k < L.length) (h : i < (L.getD k []).length) : (pre ++ (encL L ++ post)).getD (pos pre L k + 4 + i) 0 = (L.getD k []).getD i 0 := by
  rw [encL, split_row hk]
  have e : pre ++ (be4 L.length ++ (encRows (L.take k) ++ (be4 (L.getD k []).length ++ (L.getD k [] ++ encRows (L.drop (k + 1))))) ++ post) = (pre ++ be4 L.length ++ encRows (L.take k) ++ be4 (L.getD k []).length) ++ (L.getD k [] ++ (encRows (L.drop (k + 1)) ++ post)) := by simp
  rw [e, show pos pre L k + 4 = (pre ++ be4 L.length ++ encRows (L.take k) ++ be4 (L.getD k []).length).length from by simp [pos, be4]; omega]
  exact getD_mid h
theorem pos_next (pre : List Int) {L : List (List Int)} {k : Nat} (hk : k < L.length) : pos pre L (k + 1) = pos pre L k + 4 + (L.getD k []).length := by
  unfold pos
  rw [encRows_take hk]
  simp [be4]; omega
theorem pos_all (pre : List Int) (L : List (List Int)) : pos pre L L.length = pre.length + (encL L).length := by
  simp [pos, encL, be4]; omega
theorem pos_le (pre : List Int) (L : List (List Int)) (k : Nat) (hk : k ≤ L.length) : pos pre L k ≤ pre.length + (encL L).length := by
  rw [← pos_all]
  unfold pos
  have h1 := encRows_len (L.take k)
  have h2 := encRows_len (L.take L.length)
  have h3 := sumLen_take_le L k
  have h4 : (L.take k).length ≤ k := List.length_take_le _ _
  rw [List.take_length] at h2 ⊢
  omega
end Go.Proofs.Qxb6609252a

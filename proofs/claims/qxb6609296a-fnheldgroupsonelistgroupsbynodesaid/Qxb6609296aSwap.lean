import Derived.Test.Qxb6609296aCmp
import Derived.RegionTactic
import Derived.ChangeAlike
import Derived.BigRegion
namespace Go.Proofs.Qxb6609296a
open Go.RowKit Srt

abbrev cv (S : Nat) : Value := .func (.func 32) #[] #[.pointer (some ⟨S, 0, none⟩)]
def rowN (N : Nat) (D : Nat → Nat) : List Value := (List.range N).map fun i => Value.int .i64 (D i : Nat)
theorem rowN_len (N : Nat) (D : Nat → Nat) : (rowN N D).length = N := by simp [rowN]
theorem rowN_get {N : Nat} {D : Nat → Nat} {k : Nat} (h : k < N) : (rowN N D)[k]? = some (.int .i64 (D k)) := by simp [rowN, h]

/-- The row of numbers at block O; all else as in W. -/
structure St (W : World) (O N : Nat) (D : Nat → Nat) (w : World) : Prop where
  row : w.heap[O]? = some (.cells (rowN N D).toArray 3 (0, 0))
  kq : Kq (fun k => k ≠ O ∧ k < W.heap.size) W w

theorem St.cell {W : World} {O N : Nat} {D : Nat → Nat} {w : World} (h : St W O N D w) {k : Nat} (hk : k < N) : w.cell? ⟨O, k, none⟩ = some (.int .i64 (D k)) := by
  rw [cell_of_row w O k _ 3 _ h.row]; simpa using rowN_get hk
theorem St.free {W : World} {O N : Nat} {D : Nat → Nat} {w : World} (h : St W O N D w) (k : Nat) : w.frozen? ⟨O, k, none⟩ = false := by simp [World.frozen?, h.row]
theorem St.drewN {W : World} {O N : Nat} {D : Nat → Nat} {w : World} (h : St W O N D w) (n : Nat) : St W O N D (w.drewN n) := ⟨h.row, h.kq.drewN n⟩
theorem St.drew {W : World} {O N : Nat} {D : Nat → Nat} {w : World} (h : St W O N D w) : St W O N D w.drew := ⟨h.row, h.kq.drew⟩
theorem St.set {W : World} {O N : Nat} {D : Nat → Nat} {w : World} (h : St W O N D w) {i v : Nat} (_hi : i < N) : St W O N (fun k => if k = i then v else D k) (w.setCell ⟨O, i, none⟩ (.int .i64 v)) := by
  refine ⟨?_, h.kq.setCell (by simp) _⟩
  show (w.heap.modify O _)[O]? = _
  rw [Array.getElem?_modify, if_pos rfl, h.row]
  simp only [Option.map_some, Option.isSome_none, Bool.false_eq_true, if_false, Option.some.injEq, Obj.cells.injEq, and_true]
  rw [List.setIfInBounds_toArray]
  congr 1
  apply List.ext_getElem?
  intro k
  by_cases hk : k < N
  · rw [rowN_get hk]
    by_cases he : k = i
    · subst he
      rw [List.getElem?_set_self (by rw [rowN_len]; exact hk), if_pos rfl]
    · rw [List.getElem?_set_ne (Ne.symm he), rowN_get hk, if_neg he]
  · rw [List.getElem?_eq_none (by rw [List.length_set, rowN_len]; omega), List.getElem?_eq_none (by rw [rowN_len]; omega)]
theorem St.sw {W : World} {O N : Nat} {D : Nat → Nat} {w : World} (h : St W O N D w) {i j : Nat} (hi : i < N) (hj : j < N) (hne : i ≠ j) :
    St W O N (sw2 i j D) ((w.setCell ⟨O, i, none⟩ (.int .i64 (D j))).setCell ⟨O, j, none⟩ (.int .i64 (D i))) := by
  have h2 := (h.set (v := D j) hi).set (i := j) (v := D i) hj
  have e : (fun k => if k = j then D i else if k = i then D j else D k) = sw2 i j D := by
    funext k; unfold sw2
    by_cases h1 : k = i
    · subst h1; simp [hne]
    · simp [h1]
  rw [e] at h2; exact h2

set_option maxHeartbeats 1000000 in
theorem swapRange_any (W : World) (O N S a b n : Nat) (D : Nat → Nat) (w : World) (h : St W O N D w) (hab : a + n ≤ b) (hbn : b + n ≤ N) (hN : N ≤ 1048576) :
    Calls Try.prog 49 #[.slice (some ⟨O, 0, none⟩) N N, .int .i64 a, .int .i64 b, .int .i64 n, cv S] w fun e w' => e = .returned (.tuple #[]) ∧ St W O N (swp a b n D) w' := by
  have H0 : Hid (St W O N D w) := h
  clear h
  go_enter Try.func49, Try.ntmps49
  go_wp2
  go_loopw [10] (fun i wr => ∃ k : Nat, k ≤ n ∧ i = .int .i64 k ∧ St W O N (swp a b k D) wr) (fun i _ => n - (intOf i).toNat)
  case atStart => exact ⟨0, Nat.zero_le _, rfl, by rw [swp_zero]; exact H0.out⟩
  case round =>
    obtain ⟨k, hk, rfl, hst⟩ := hrel
    by_cases hlt : k < n
    · have hlt' : (k : Int) < (n : Int) := by omega
      have c1 := hst.cell (k := a + k) (by omega)
      have c2 := hst.cell (k := b + k) (by omega)
      have f1 := hst.free (a + k)
      have f2 := hst.free (b + k)
      have HN : Hid (St W O N (swp a b (k + 1) D) ((wr.setCell ⟨O, a + k, none⟩ (.int .i64 (swp a b k D (b + k)))).setCell ⟨O, b + k, none⟩ (.int .i64 (swp a b k D (a + k))))) := by
        have := hst.sw (i := a + k) (j := b + k) (by omega) (by omega) (by omega)
        rw [swp_succ (by omega)] at this
        exact this
      obtain ⟨x, hx⟩ : ∃ x, x = swp a b k D (a + k) := ⟨_, rfl⟩
      obtain ⟨y, hy⟩ : ∃ y, y = swp a b k D (b + k) := ⟨_, rfl⟩
      rw [← hx] at c1 HN
      rw [← hy] at c2 HN
      have k1 : IntKind.i64.wrap ((a : Int) + (k : Int)) = (a : Int) + (k : Int) := by rw [IntKind.wrap_i64]; omega
      have k2 : IntKind.i64.wrap ((b : Int) + (k : Int)) = (b : Int) + (k : Int) := by rw [IntKind.wrap_i64]; omega
      have z1 : (0 : Int) ≤ (a : Int) + (k : Int) := by omega
      have z2 : (0 : Int) ≤ (b : Int) + (k : Int) := by omega
      have l1 : (a : Int) + (k : Int) < (N : Int) := by omega
      have l2 : (b : Int) + (k : Int) < (N : Int) := by omega
      have t1 : ((a : Int) + (k : Int)).toNat = a + k := by omega
      have t2 : ((b : Int) + (k : Int)).toNat = b + k := by omega
      have hne : ¬ (a = b) := by omega
      clear hst hx hy
      go_wp2
      go_region
      go_wp2
      go_roundw
      case rel => exact ⟨k + 1, by omega, by go_num, HN.out.drew⟩
      case measure => simp [intOf]; omega
    · obtain rfl : k = n := by omega
      have HS : Hid (St W O N (swp a b k D) wr) := hst
      clear hst
      go_wp2
      go_end0
      exact ⟨rfl, HS.out⟩

theorem swapRange_int (W : World) (O N S a b n : Nat) (D : Nat → Nat) (x y z : Int) (w : World) (h : St W O N D w) (hx : x = a) (hy : y = b) (hz : z = n) (hab : a + n ≤ b) (hbn : b + n ≤ N) (hN : N ≤ 1048576) :
    Calls Try.prog 49 #[.slice (some ⟨O, 0, none⟩) N N, .int .i64 x, .int .i64 y, .int .i64 z, cv S] w fun e w' => e = .returned (.tuple #[]) ∧ St W O N (swp a b n D) w' := by
  subst hx hy hz; exact swapRange_any W O N S a b n D w h hab hbn hN

set_option maxHeartbeats 1000000 in
theorem rotate_any (W : World) (O N S a m b : Nat) (D : Nat → Nat) (w : World) (h : St W O N D w) (ham : a < m) (hmb : m < b) (hbN : b ≤ N) (hN : N ≤ 1048576) :
    Calls Try.prog 47 #[.slice (some ⟨O, 0, none⟩) N N, .int .i64 a, .int .i64 m, .int .i64 b, cv S] w fun e w' => e = .returned (.tuple #[]) ∧ St W O N (rot a m b D) w' := by
  have H0 : Hid (St W O N D w) := h
  clear h
  go_enter Try.func47, Try.ntmps47
  go_wp2
  go_loopw [10, 11] (fun i j wr => ∃ I J : Nat, 0 < I ∧ 0 < J ∧ a + I ≤ m ∧ m + J ≤ b ∧ i = .int .i64 I ∧ j = .int .i64 J ∧ ∃ E, St W O N E wr ∧ rot (m - I) m (m + J) E = rot a m b D) (fun i j _ => (intOf i).toNat + (intOf j).toNat)
  case atStart => exact ⟨m - a, b - m, by omega, by omega, by omega, by omega, by go_num, by go_num, D, H0.out, by rw [show m - (m - a) = a by omega, show m + (b - m) = b by omega]⟩
  case round =>
    obtain ⟨I, J, hI, hJ, haI, hJb, rfl, rfl, E, hst, hrot⟩ := hrel
    have HS : Hid (St W O N E wr) := hst
    have HR : Hid (rot (m - I) m (m + J) E = rot a m b D) := hrot
    clear hst hrot H0
    rcases Nat.lt_trichotomy I J with hc | hc | hc
    · have hne : ((I : Int) == (J : Int)) = false := by simp; omega
      have hne2 : ((I : Int) != (J : Int)) = true := by simp; omega
      go_wp2_with fail
      refine (swapRange_int W O N S (m - I) (m + J - I) I E _ _ _ _ HS.out (by omega) (by omega) rfl (by omega) (by omega) hN).mono ?_
      rintro e w1 ⟨rfl, hst1⟩
      have H1 : Hid (St W O N (swp (m - I) (m + J - I) I E) w1) := hst1
      have H2 : Hid (rot (m - I) m (m + (J - I)) (swp (m - I) (m + J - I) I E) = rot a m b D) := by
        have := rot_less (lo := m - I) (m := m) (hi := m + J) (by omega) (by omega) (by omega) E
        rw [show m - (m - I) = I by omega] at this
        show _ = _
        rw [show m + (J - I) = m + J - I by omega, this]
        exact HR.out
      clear hst1 HS HR
      go_wp2
      go_roundw
      case rel => exact ⟨I, J - I, hI, by omega, haI, by omega, rfl, by go_num, _, H1.out, H2.out⟩
      case measure => simp [intOf]; omega
    · subst hc
      have HE : Hid (swp (m - I) m I E = rot a m b D) := by
        have := rot_even (lo := m - I) (m := m) (hi := m + I) (by omega) (by omega) (by omega) E
        rw [show m - (m - I) = I by omega] at this
        show _ = _
        rw [this]; exact HR.out
      go_wp2_with fail
      refine (swapRange_int W O N S (m - I) m I E _ _ _ _ HS.out (by omega) rfl rfl (by omega) (by omega) hN).mono ?_
      rintro e w1 ⟨rfl, hst1⟩
      have H1 : Hid (St W O N (rot a m b D) w1) := by rw [← HE.out]; exact hst1
      clear hst1 HS HR HE
      go_wp2
      go_end0
      exact ⟨rfl, H1.out⟩
    · have hne : ((I : Int) == (J : Int)) = false := by simp; omega
      have hne2 : ((I : Int) != (J : Int)) = true := by simp; omega
      go_wp2_with fail
      refine (swapRange_int W O N S (m - I) m J E _ _ _ _ HS.out (by omega) rfl rfl (by omega) (by omega) hN).mono ?_
      rintro e w1 ⟨rfl, hst1⟩
      have H1 : Hid (St W O N (swp (m - I) m J E) w1) := hst1
      have H2 : Hid (rot (m - (I - J)) m (m + J) (swp (m - I) m J E) = rot a m b D) := by
        have := rot_more (lo := m - I) (m := m) (hi := m + J) (by omega) (by omega) (by omega) E
        rw [show m + J - m = J by omega] at this
        show _ = _
        rw [show m - (I - J) = m - I + J by omega, this]
        exact HR.out
      clear hst1 HS HR
      go_wp2
      go_roundw
      case rel => exact ⟨I - J, J, by omega, hJ, by omega, hJb, by go_num, rfl, _, H1.out, H2.out⟩
      case measure => simp [intOf]; omega
end Go.Proofs.Qxb6609296a

import Derived.Test.Qxb6609296aRows
import Derived.Test.Qxb6609296aMem
import Derived.Test.Qxb6609296aSortM
import Derived.Deep.QuietTactic
import Derived.BigQuiet
namespace Go.Proofs.Qxb6609296a
open Go.RowKit

theorem ret_i {k : IntKind} {a b : Int} (h : a = b) : Ending.returned (.int k a) = .returned (.int k b) := by rw [h]

/-- What cmp.Compare answers. -/
def cmp3 (x y : Nat) : Int := if x < y then -1 else if y < x then 1 else 0

theorem isNaN_any (x : Int) (w : World) : Calls Try.prog 40 #[.int .u32 x] w fun e w' => e = .returned (.bool false) ∧ w' = w := by
  go_enter Try.func40, Try.ntmps40
  go_wp2
  go_ret
  exact ⟨by simp, rfl⟩

theorem compare_any (x y : Nat) (w : World) : Calls Try.prog 33 #[.int .u32 x, .int .u32 y] w fun e w' => e = .returned (.int .i64 (cmp3 x y)) ∧ w' = w := by
  rcases Nat.lt_trichotomy x y with h | h | h
  · go_enter Try.func33, Try.ntmps33
    go_wp2_with (go_at_call 40; refine (isNaN_any _ _).mono ?_; rintro e w' ⟨rfl, rfl⟩)
    go_ret
    exact ⟨ret_i (by simp [cmp3, h]), rfl⟩
  · subst h
    go_enter Try.func33, Try.ntmps33
    go_wp2_with (go_at_call 40; refine (isNaN_any _ _).mono ?_; rintro e w' ⟨rfl, rfl⟩)
    go_ret
    exact ⟨ret_i (by simp [cmp3]), rfl⟩
  · go_enter Try.func33, Try.ntmps33
    go_wp2_with (go_at_call 40; refine (isNaN_any _ _).mono ?_; rintro e w' ⟨rfl, rfl⟩)
    go_ret
    exact ⟨ret_i (by unfold cmp3; rw [if_neg (by omega), if_pos h]), rfl⟩

/-- The variable 'sets' at block S: a slice over block T whose cell i holds key i. -/
structure Sets (S T n : Nat) (key : Nat → Nat) (w : World) : Prop where
  var : w.cell? ⟨S, 0, none⟩ = some (.slice (some ⟨T, 0, none⟩) n n)
  cell : ∀ i, i < n → w.cell? ⟨T, i, none⟩ = some (.int .u32 (key i))
  len : n ≤ 1048576
theorem Sets.kq {S T n : Nat} {key : Nat → Nat} {Q : Nat → Prop} {w w' : World} (h : Sets S T n key w) (k : Kq Q w w') (hS : Q S) (hT : Q T) : Sets S T n key w' :=
  ⟨(k.cell (p := ⟨S, 0, none⟩) hS).trans h.var, fun i hi => (k.cell (p := ⟨T, i, none⟩) hT).trans (h.cell i hi), h.len⟩
theorem Sets.drewN {S T n : Nat} {key : Nat → Nat} {w : World} (h : Sets S T n key w) (m : Nat) : Sets S T n key (w.drewN m) := ⟨h.var, h.cell, h.len⟩

set_option maxHeartbeats 1000000 in
/-- The comparison that appendHeld hands to the sort. -/
theorem cl2 (S T n : Nat) (key : Nat → Nat) (x y : Nat) (w : World) (h : Sets S T n key w) (hx : x < n) (hy : y < n) :
    Calls Try.prog 32 #[.int .i64 x, .int .i64 y, .pointer (some ⟨S, 0, none⟩)] w fun e w' => e = .returned (.int .i64 (cmp3 (key x) (key y))) ∧ ∃ m, w' = w.drewN m := by
  have c0 := h.var
  have c1 := h.cell x hx
  have c2 := h.cell y hy
  have hl := h.len
  have hx' : (x : Int) < (n : Int) := by omega
  have hy' : (y : Int) < (n : Int) := by omega
  clear h
  go_enter Try.func32, Try.ntmps32
  go_wp2
  go_quiet ((go_at_call 33; exact Calls.quiet_of_same (compare_any _ _ _)))
  go_wp2
  go_ret
  exact ⟨rfl, nq, rfl⟩
end Go.Proofs.Qxb6609296a

import Derived.Test.Qxb6609300aRows
import Derived.WalkKit
import Derived.WalkSpells
import Derived.WalkLawsBesides
import Derived.Deep.QuietTactic
import Derived.BigQuiet
namespace Go.Proofs.Qxb6609300a.Holds
open Go.RowKit

theorem Grown.trans {a b c : World} (h : Grown a b) (k : Grown b c) : Grown a c :=
  ⟨World.keptBut_trans h.1 k.1, fun x => (k.2.1 x).trans (h.2.1 x), Nat.le_trans h.2.2 k.2.2⟩
theorem Grown.drewN {a b : World} (h : Grown a b) (n : Nat) : Grown a (b.drewN n) := h
theorem ret_bool {a b : Bool} (h : a = b) : Ending.returned (.bool a) = .returned (.bool b) := by rw [h]

set_option maxHeartbeats 1000000 in
theorem holds_any (f b x t : Int) (w : World) : Calls Try.prog 4 #[.int .i64 f, .int .i64 b, .int .i64 x, .int .i64 t] w fun e w' => e = .returned (.bool (decide (b ≤ x))) ∧ Grown w w' := by
  go_enter Try.func4, Try.ntmps4
  go_wp2
  go_quiet (fail)
  go_wp2
  go_ret
  exact ⟨rfl, Grown.drewN (((Grown.refl _).alloc _ _).alloc _ _) nq⟩

theorem yes (W : World) (f b x t : Int) (w : World) (hW : Grown W w) (h : b ≤ x) : Calls Try.prog 4 #[.int .i64 f, .int .i64 b, .int .i64 x, .int .i64 t] w fun e w' => e = .returned (.bool true) ∧ Grown W w' :=
  (holds_any f b x t w).mono fun e w' ⟨he, hg⟩ => ⟨by rw [he, decide_eq_true h], Grown.trans hW hg⟩
theorem no (W : World) (f b x t : Int) (w : World) (hW : Grown W w) (h : x < b) : Calls Try.prog 4 #[.int .i64 f, .int .i64 b, .int .i64 x, .int .i64 t] w fun e w' => e = .returned (.bool false) ∧ Grown W w' :=
  (holds_any f b x t w).mono fun e w' ⟨he, hg⟩ => ⟨by rw [he, decide_eq_false (by omega)], Grown.trans hW hg⟩

set_option maxHeartbeats 4000000 in
theorem law (f b x t k : Int) (w : World) (b0 : -9223372036854775808 ≤ b) (b1 : b ≤ 9223372036854775807) (x0 : -9223372036854775808 ≤ x) (x1 : x ≤ 9223372036854775807) (k1 : k ≤ 9223372036854775807) (k0 : -9223372036854775808 ≤ k) :
    Calls Try.prog 3 #[.int .i64 f, .int .i64 b, .int .i64 x, .int .i64 t, .int .i64 k] w fun e w' => e = .returned (.bool true) ∧ Grown w w' := by
  have hg0 := Grown.refl w
  by_cases c1 : k < 0
  · go_enter Try.func3, Try.ntmps3
    go_wp2
    go_ret
    exact ⟨rfl, hg0⟩
  by_cases c2 : 9223372036854775807 - k < b
  · go_enter Try.func3, Try.ntmps3
    go_wp2
    go_ret
    exact ⟨rfl, hg0⟩
  by_cases c3 : 9223372036854775807 - k < x
  · go_enter Try.func3, Try.ntmps3
    go_wp2
    go_ret
    exact ⟨rfl, hg0⟩
  have hk : 0 ≤ k := by omega
  have hb : b + k ≤ 9223372036854775807 := by omega
  have hx : x + k ≤ 9223372036854775807 := by omega
  by_cases hbx : b ≤ x
  · by_cases hm : -9223372036854775808 + k ≤ x
    · by_cases hl : b ≤ x - k
      · go_enter Try.func3, Try.ntmps3
        go_wp2_with (first | (go_at_call 4; refine (yes w _ _ _ _ _ (by assumption) (by omega)).mono ?_; rintro e w' ⟨rfl, hg⟩) | (go_at_call 4; refine (no w _ _ _ _ _ (by assumption) (by omega)).mono ?_; rintro e w' ⟨rfl, hg⟩))
        go_ret
        exact ⟨rfl, by assumption⟩
      · go_enter Try.func3, Try.ntmps3
        go_wp2_with (first | (go_at_call 4; refine (yes w _ _ _ _ _ (by assumption) (by omega)).mono ?_; rintro e w' ⟨rfl, hg⟩) | (go_at_call 4; refine (no w _ _ _ _ _ (by assumption) (by omega)).mono ?_; rintro e w' ⟨rfl, hg⟩))
        go_ret
        exact ⟨rfl, by assumption⟩
    · go_enter Try.func3, Try.ntmps3
      go_wp2_with (first | (go_at_call 4; refine (yes w _ _ _ _ _ (by assumption) (by omega)).mono ?_; rintro e w' ⟨rfl, hg⟩) | (go_at_call 4; refine (no w _ _ _ _ _ (by assumption) (by omega)).mono ?_; rintro e w' ⟨rfl, hg⟩))
      go_ret
      exact ⟨rfl, by assumption⟩
  · by_cases hr : b ≤ x + k
    · by_cases hm : -9223372036854775808 + k ≤ x
      · go_enter Try.func3, Try.ntmps3
        go_wp2_with (first | (go_at_call 4; refine (yes w _ _ _ _ _ (by assumption) (by omega)).mono ?_; rintro e w' ⟨rfl, hg⟩) | (go_at_call 4; refine (no w _ _ _ _ _ (by assumption) (by omega)).mono ?_; rintro e w' ⟨rfl, hg⟩))
        go_ret
        exact ⟨rfl, by assumption⟩
      · go_enter Try.func3, Try.ntmps3
        go_wp2_with (first | (go_at_call 4; refine (yes w _ _ _ _ _ (by assumption) (by omega)).mono ?_; rintro e w' ⟨rfl, hg⟩) | (go_at_call 4; refine (no w _ _ _ _ _ (by assumption) (by omega)).mono ?_; rintro e w' ⟨rfl, hg⟩))
        go_ret
        exact ⟨rfl, by assumption⟩
    · by_cases hm : -9223372036854775808 + k ≤ x
      · go_enter Try.func3, Try.ntmps3
        go_wp2_with (first | (go_at_call 4; refine (yes w _ _ _ _ _ (by assumption) (by omega)).mono ?_; rintro e w' ⟨rfl, hg⟩) | (go_at_call 4; refine (no w _ _ _ _ _ (by assumption) (by omega)).mono ?_; rintro e w' ⟨rfl, hg⟩))
        go_ret
        exact ⟨rfl, by assumption⟩
      · go_enter Try.func3, Try.ntmps3
        go_wp2_with (first | (go_at_call 4; refine (yes w _ _ _ _ _ (by assumption) (by omega)).mono ?_; rintro e w' ⟨rfl, hg⟩) | (go_at_call 4; refine (no w _ _ _ _ _ (by assumption) (by omega)).mono ?_; rintro e w' ⟨rfl, hg⟩))
        go_ret
        exact ⟨rfl, by assumption⟩
end Go.Proofs.Qxb6609300a.Holds

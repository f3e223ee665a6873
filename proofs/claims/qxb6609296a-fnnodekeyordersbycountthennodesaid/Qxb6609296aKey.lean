import Derived.Test.Qxb6609296aRows
import Derived.WalkKit
import Derived.WalkSpells
import Derived.WalkLawsBesides
import Derived.Laws.BitsLemmas
namespace Go.Proofs.Qxb6609296a.Key
open Go.RowKit

theorem ret_int {k : IntKind} {a b : Int} (h : a = b) : Ending.returned (.int k a) = .returned (.int k b) := by rw [h]
theorem ret_bool {a b : Bool} (h : a = b) : Ending.returned (.bool a) = .returned (.bool b) := by rw [h]

theorem key_join (c n : Int) (h0 : 0 ≤ c) (h1 : c ≤ 4294967295) (h2 : 0 ≤ n) (h3 : n ≤ 4294967295) : bits .or .u64 (c * 4294967296) n = c * 4294967296 + n :=
  bits_join .u64 64 (by decide) (fun m h0 h1 => by rw [IntKind.wrap_u64]; omega) 32 (c * 4294967296) n (by omega) (by omega) (by omega) h2 (by omega) (by omega)

theorem key_any (c n : Int) (w : World) (h0 : 0 ≤ c) (h1 : c ≤ 4294967295) (h2 : 0 ≤ n) (h3 : n ≤ 4294967295) : Calls Try.prog 22 #[.int .u32 c, .int .u32 n] w fun e w' => e = .returned (.int .u64 (c * 4294967296 + n)) ∧ w' = w := by
  go_enter Try.func22, Try.ntmps22
  go_wp2
  go_ret
  exact ⟨ret_int (key_join c n h0 h1 h2 h3), rfl⟩

theorem zzKey_any (c n : Int) (w : World) (h0 : 0 ≤ c) (h1 : c ≤ 4294967295) (h2 : 0 ≤ n) (h3 : n ≤ 4294967295) : Calls Try.prog 10 #[.int .u32 c, .int .u32 n] w fun e w' => e = .returned (.int .u64 (c * 4294967296 + n)) ∧ w' = w := by
  go_enter Try.func10, Try.ntmps10
  go_wp2_with fail
  refine (key_any c n _ h0 h1 h2 h3).mono ?_
  rintro e w' ⟨rfl, hw⟩
  subst w'
  go_wp2
  go_ret
  exact ⟨rfl, rfl⟩

theorem round_walk (c n : Int) (w : World) (h0 : 0 ≤ c) (h1 : c ≤ 4294967295) (h2 : 0 ≤ n) (h3 : n ≤ 4294967295) : Calls Try.prog 5 #[.int .u32 c, .int .u32 n] w fun e w' => e = .returned (.bool true) ∧ w' = w := by
  have e1 : (c * 4294967296 + n) / 4294967296 = c := by omega
  have e2 : (c * 4294967296 + n) % 4294967296 = n := by omega
  go_enter Try.func5, Try.ntmps5
  go_wp2_with fail
  refine (zzKey_any c n _ h0 h1 h2 h3).mono ?_
  rintro e w' ⟨rfl, hw⟩
  subst w'
  go_wp2
  all_goals
    go_ret
    exact ⟨rfl, rfl⟩

set_option maxHeartbeats 1000000 in
theorem order_walk (c n d m : Int) (w : World) (h0 : 0 ≤ c) (h1 : c ≤ 4294967295) (h2 : 0 ≤ n) (h3 : n ≤ 4294967295) (g0 : 0 ≤ d) (g1 : d ≤ 4294967295) (g2 : 0 ≤ m) (g3 : m ≤ 4294967295) :
    Calls Try.prog 6 #[.int .u32 c, .int .u32 n, .int .u32 d, .int .u32 m] w fun e w' => e = .returned (.bool true) ∧ w' = w := by
  have k1 := fun w => zzKey_any c n w h0 h1 h2 h3
  have k2 := fun w => zzKey_any d m w g0 g1 g2 g3
  obtain ⟨K, hK⟩ : ∃ K, K = c * 4294967296 + n := ⟨_, rfl⟩
  obtain ⟨J, hJ⟩ : ∃ J, J = d * 4294967296 + m := ⟨_, rfl⟩
  rw [← hK] at k1
  rw [← hJ] at k2
  have K1 := (show Hid _ from k1)
  have K2 := (show Hid _ from k2)
  clear k1 k2
  have HK : Hid (K = c * 4294967296 + n ∧ J = d * 4294967296 + m) := ⟨hK, hJ⟩
  rcases Int.lt_trichotomy c d with hcd | rfl | hcd
  · have hKJ : K < J := by omega
    have hn : (c == d) = false := by simpa using Int.ne_of_lt hcd
    have hm : (K == J) = false := by simpa using Int.ne_of_lt hKJ
    clear hK hJ
    go_enter Try.func6, Try.ntmps6
    go_wp2_with fail
    refine (K1.out _).mono ?_
    rintro e w' ⟨rfl, hw⟩
    subst w'
    go_wp2_with fail
    refine (K2.out _).mono ?_
    rintro e w' ⟨rfl, hw⟩
    subst w'
    go_wp2
    go_ret
    exact ⟨rfl, rfl⟩
  · rcases Int.lt_trichotomy n m with hcd | rfl | hcd
    · have hKJ : K < J := by omega
      have hn : (n == m) = false := by simpa using Int.ne_of_lt hcd
      have hm : (K == J) = false := by simpa using Int.ne_of_lt hKJ
      clear hK hJ
      go_enter Try.func6, Try.ntmps6
      go_wp2_with fail
      refine (K1.out _).mono ?_
      rintro e w' ⟨rfl, hw⟩
      subst w'
      go_wp2_with fail
      refine (K2.out _).mono ?_
      rintro e w' ⟨rfl, hw⟩
      subst w'
      go_wp2
      go_ret
      exact ⟨rfl, rfl⟩
    · obtain rfl : K = J := by omega
      clear hK hJ
      go_enter Try.func6, Try.ntmps6
      go_wp2_with fail
      refine (K1.out _).mono ?_
      rintro e w' ⟨rfl, hw⟩
      subst w'
      go_wp2_with fail
      refine (K2.out _).mono ?_
      rintro e w' ⟨rfl, hw⟩
      subst w'
      go_wp2
      go_ret
      exact ⟨rfl, rfl⟩
    · have hKJ : J < K := by omega
      have hn : (n == m) = false := by simpa using Int.ne_of_gt hcd
      have hm : (K == J) = false := by simpa using Int.ne_of_gt hKJ
      clear hK hJ
      go_enter Try.func6, Try.ntmps6
      go_wp2_with fail
      refine (K1.out _).mono ?_
      rintro e w' ⟨rfl, hw⟩
      subst w'
      go_wp2_with fail
      refine (K2.out _).mono ?_
      rintro e w' ⟨rfl, hw⟩
      subst w'
      go_wp2
      go_ret
      exact ⟨rfl, rfl⟩
  · have hKJ : J < K := by omega
    have hn : (c == d) = false := by simpa using Int.ne_of_gt hcd
    have hm : (K == J) = false := by simpa using Int.ne_of_gt hKJ
    clear hK hJ
    go_enter Try.func6, Try.ntmps6
    go_wp2_with fail
    refine (K1.out _).mono ?_
    rintro e w' ⟨rfl, hw⟩
    subst w'
    go_wp2_with fail
    refine (K2.out _).mono ?_
    rintro e w' ⟨rfl, hw⟩
    subst w'
    go_wp2
    go_ret
    exact ⟨rfl, rfl⟩
end Go.Proofs.Qxb6609296a.Key

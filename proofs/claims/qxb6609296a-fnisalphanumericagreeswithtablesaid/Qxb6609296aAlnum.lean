import Derived.Test.Qxb6609296aRows
import Derived.WalkKit
import Derived.WalkSpells
import Derived.WalkLawsBesides
namespace Go.Proofs.Qxb6609296a
open Go.RowKit

/-- A byte is one of the 62 digits and letters. -/
def alB (a : Int) : Bool := decide ((97 ≤ a ∧ a ≤ 122) ∨ (65 ≤ a ∧ a ≤ 90) ∨ (48 ≤ a ∧ a ≤ 57))

theorem ret_bool {a b : Bool} (h : a = b) : Ending.returned (.bool a) = .returned (.bool b) := by rw [h]

theorem alnum_any (a : Int) (w : World) (h0 : 0 ≤ a) (h1 : a ≤ 255) : Calls Try.prog 21 #[.int .u8 a] w fun e w' => e = .returned (.bool (alB a)) ∧ w' = w := by
  go_enter Try.func21, Try.ntmps21
  go_wp2
  all_goals
    go_ret
    refine ⟨ret_bool ?_, rfl⟩
    rw [Bool.eq_iff_iff]
    simp [alB]
    omega

theorem zzAlnum_any (a : Int) (w : World) (h0 : 0 ≤ a) (h1 : a ≤ 255) : Calls Try.prog 8 #[.int .u8 a] w fun e w' => e = .returned (.bool (alB a)) ∧ w' = w := by
  go_enter Try.func8, Try.ntmps8
  go_wp2_with (go_at_call 21; refine (alnum_any a _ h0 h1).mono ?_; rintro e w' ⟨rfl, rfl⟩)
  go_ret
  exact ⟨rfl, rfl⟩

/-- The table's bytes. -/
abbrev tabB : ByteArray := ⟨#[48, 49, 50, 51, 52, 53, 54, 55, 56, 57, 65, 66, 67, 68, 69, 70, 71, 72, 73, 74, 75, 76, 77, 78, 79, 80, 81, 82, 83, 84, 85, 86, 87, 88, 89, 90, 97, 98, 99, 100, 101, 102, 103, 104, 105, 106, 107, 108, 109, 110, 111, 112, 113, 114, 115, 116, 117, 118, 119, 120, 121, 122]⟩
def inTab (k : Nat) (a : Int) : Bool := (List.range k).any fun j => ((tabB.data.toList.getD j 0).toNat : Int) == a
theorem tab_at {k : Nat} (h : k < tabB.size) : tabB.data.toList.getD k 0 = tabB[k]'h := by
  rw [List.getD_eq_getElem?_getD, List.getElem?_eq_getElem (show k < tabB.data.toList.length from h)]
  rfl
theorem inTab_hit {k : Nat} {a : Int} (h : k < tabB.size) (e : (((tabB[k]'h).toNat : Int) == a) = true) : inTab (k + 1) a = true := by
  simp only [inTab, List.range_succ, List.any_append, List.any_cons, List.any_nil, Bool.or_false, tab_at h, e, Bool.or_true]
theorem inTab_miss {k : Nat} {a : Int} (h : k < tabB.size) (e : (((tabB[k]'h).toNat : Int) == a) = false) : inTab (k + 1) a = inTab k a := by
  simp only [inTab, List.range_succ, List.any_append, List.any_cons, List.any_nil, Bool.or_false, tab_at h, e]
theorem inTab_all : ∀ n : Nat, n < 256 → inTab 62 (n : Int) = alB (n : Int) := by decide +kernel
theorem inTab_eq (a : Int) (h0 : 0 ≤ a) (h1 : a ≤ 255) : inTab 62 a = alB a := by
  have := inTab_all a.toNat (by omega)
  rwa [Int.toNat_of_nonneg h0] at this

set_option maxHeartbeats 1000000 in
theorem table_walk (a : Int) (w : World) (h0 : 0 ≤ a) (h1 : a ≤ 255) : Calls Try.prog 3 #[.int .u8 a] w fun e w' => e = .returned (.bool true) ∧ w' = w := by
  go_enter Try.func3, Try.ntmps3
  go_wp2
  go_loop [3, 4] (fun t i => ∃ k : Nat, k ≤ 62 ∧ i = .int .i64 k ∧ t = .bool (inTab k a)) (fun _ i => 62 - (intOf i).toNat)
  case atStart => exact ⟨0, by omega, rfl, rfl⟩
  case round =>
    obtain ⟨k, hk, rfl, rfl⟩ := hrel
    by_cases hlt : k < 62
    · have hlt' : (k : Int) < 62 := by omega
      have hs : k < tabB.size := hlt
      go_wp2
      · have e : (((tabB[k]'hs).toNat : Int) == a) = true := by assumption
        go_round
        case rel => exact ⟨k + 1, by omega, by go_num, by rw [inTab_hit hs e]⟩
        case measure => simp [intOf]; omega
      · have e : (((tabB[k]'hs).toNat : Int) == a) = false := by assumption
        go_round
        case rel => exact ⟨k + 1, by omega, by go_num, by rw [inTab_miss hs e]⟩
        case measure => simp [intOf]; omega
    · obtain rfl : k = 62 := by omega
      rw [inTab_eq a h0 h1]
      go_wp2_with fail
      refine (zzAlnum_any a _ h0 h1).mono ?_
      rintro e w' ⟨rfl, rfl⟩
      go_wp2
      go_ret
      exact ⟨ret_bool (by simp), rfl⟩

/-! ### the rank -/
def cntAl (k : Nat) : Nat := ((List.range k).filter fun j : Nat => alB (j : Int)).length
theorem cntAl_le (k : Nat) : cntAl k ≤ k := by
  have := List.length_filter_le (fun j => alB ((j : Nat) : Int)) (List.range k)
  simpa [cntAl] using this
theorem cntAl_hit {k : Nat} (h : alB (k : Int) = true) : cntAl (k + 1) = cntAl k + 1 := by simp [cntAl, List.range_succ, h]
theorem cntAl_miss {k : Nat} (h : alB (k : Int) = false) : cntAl (k + 1) = cntAl k := by simp [cntAl, List.range_succ, h]
def rk (a : Int) : Int :=
  if a < 48 then 0 else if a ≤ 57 then a - 48 + 1 else if a < 65 then 10 else if a ≤ 90 then 10 + a - 65 + 1 else if a < 97 then 36 else if a ≤ 122 then 36 + a - 97 + 1 else 62
theorem rank_all : ∀ n : Nat, n < 256 → ((cntAl (n + 1) : Nat) : Int) = rk (n : Int) := by decide +kernel

theorem ret_int {k : IntKind} {a b : Int} (h : a = b) : Ending.returned (.int k a) = .returned (.int k b) := by rw [h]

set_option maxHeartbeats 1000000 in
theorem rank_any (a : Int) (w : World) (h0 : 0 ≤ a) (h1 : a ≤ 255) : Calls Try.prog 9 #[.int .u8 a] w fun e w' => e = .returned (.int .i64 (rk a)) ∧ w' = w := by
  go_enter Try.func9, Try.ntmps9
  go_wp2
  all_goals
    go_ret
    refine ⟨ret_int ?_, rfl⟩
    unfold rk
    split <;> (try split) <;> (try split) <;> (try split) <;> (try split) <;> (try split) <;> omega

set_option maxHeartbeats 1000000 in
theorem rank_walk (n : Nat) (w : World) (h1 : n ≤ 255) : Calls Try.prog 4 #[.int .u8 n] w fun e w' => e = .returned (.bool true) ∧ w' = w := by
  go_enter Try.func4, Try.ntmps4
  go_wp2
  go_loop [3, 4] (fun t i => ∃ k : Nat, k ≤ n + 1 ∧ i = .int .i64 k ∧ t = .int .i64 (cntAl k)) (fun _ i => n + 1 - (intOf i).toNat)
  case atStart => exact ⟨0, by omega, rfl, rfl⟩
  case round =>
    obtain ⟨k, hk, rfl, rfl⟩ := hrel
    have hc := cntAl_le k
    by_cases hlt : k ≤ n
    · have hlt' : (k : Int) ≤ (n : Int) := by omega
      have e1 := @cntAl_hit k
      have e2 := @cntAl_miss k
      obtain ⟨c, hcc⟩ : ∃ c, c = cntAl k := ⟨_, rfl⟩
      obtain ⟨d, hdd⟩ : ∃ d, d = cntAl (k + 1) := ⟨_, rfl⟩
      rw [← hcc, ← hdd] at e1 e2
      rw [← hcc] at hc ⊢
      obtain ⟨b, hb⟩ : ∃ b, b = alB (k : Int) := ⟨_, rfl⟩
      rw [← hb] at e1 e2
      have HH := (show Hid _ from (⟨e1, e2, hb, hdd⟩ : (b = true → d = c + 1) ∧ (b = false → d = c) ∧ b = alB (k : Int) ∧ d = cntAl (k + 1)))
      clear e1 e2 hb hcc hdd
      go_wp2_with fail
      refine (zzAlnum_any (k : Int) _ (by omega) (by omega)).mono ?_
      rintro e w' ⟨rfl, rfl⟩
      rw [← HH.out.2.2.1]
      cases b
      · have hd := HH.out.2.1 rfl
        have HD := HH.out.2.2.2
        have HX : Hid (d = c ∧ d = cntAl (k + 1)) := ⟨hd, HD⟩
        clear hd HD HH
        go_wp2
        go_round
        case rel => exact ⟨k + 1, by omega, by go_num, by rw [← HX.out.2, HX.out.1]⟩
        case measure => simp [intOf]; omega
      · have hd := HH.out.1 rfl
        have HD := HH.out.2.2.2
        have HX : Hid (d = c + 1 ∧ d = cntAl (k + 1)) := ⟨hd, HD⟩
        clear hd HD HH
        go_wp2
        go_round
        case rel => exact ⟨k + 1, by omega, by go_num, by rw [← HX.out.2, HX.out.1]; go_num⟩
        case measure => simp [intOf]; omega
    · obtain rfl : k = n + 1 := by omega
      rw [rank_all n (by omega)]
      go_wp2_with fail
      refine (rank_any (n : Int) _ (by omega) (by omega)).mono ?_
      rintro e w' ⟨rfl, rfl⟩
      go_wp2
      go_ret
      exact ⟨ret_bool (by simp), rfl⟩
end Go.Proofs.Qxb6609296a

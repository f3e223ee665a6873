import Derived.Test.Qxb6609296aOne
namespace Go.Proofs.Qxb6609296a
open Go.RowKit Srt

theorem q31 : ∀ (w : World) (a : Option Addr) (n c n' c' : Nat), (binOp .eql 31 (.slice a n c) (.slice none n' c')).run Try.prog w = .ok (.bool a.isNone) w := fun w a n c n' c' => Lib.run_eql_slice_nil w _ _ a n c n' c' Try.underlying31
theorem q30 : ∀ (w : World) (a : Option Addr) (n c n' c' : Nat), (binOp .eql 30 (.slice a n c) (.slice none n' c')).run Try.prog w = .ok (.bool a.isNone) w := fun w a n c n' c' => Lib.run_eql_slice_nil w _ _ a n c n' c' Try.underlying30

set_option maxHeartbeats 1000000 in
theorem copyStrings_any (Q : Nat → Prop) (x : Value) (l : List ByteArray) (w : World) (hQ : ∀ k, Q k → k < w.heap.size) (hx : Rd Q w x (l.map .string)) (hl : l.length ≤ 1048576) :
    Calls Try.prog 23 #[x] w fun e w' => ∃ v, e = .returned v ∧ Rd (fun k => w.heap.size ≤ k) w' v (l.map .string) ∧ Kq (· < w.heap.size) w w' := by
  obtain ⟨ax, cx, rfl, hlx, hmx, hnil, hcx⟩ := hx
  rw [List.length_map] at hlx hcx ⊢
  have hmk := run_make_row' (P := Try.prog) 31 9 (.string ⟨#[]⟩) 16 Try.underlying31 Try.info9 rfl .i64 .i64 l.length (by omega) (by omega)
  have hq := q31
  cases ax with
  | none =>
    have hc0 := hnil rfl
    have hl0 : l = [] := List.eq_nil_of_length_eq_zero (by omega)
    subst hl0; subst hc0
    clear hmk hcx hnil
    go_enter Try.func23, Try.ntmps23
    go_wp2_with fail
    go_ret
    exact ⟨_, rfl, Rd.nil _ _, Kq.refl _ _⟩
  | some a =>
    obtain ⟨N, hN⟩ : ∃ N, N = l.length := ⟨_, rfl⟩
    have HN : Hid (N = l.length) := hN
    have HC : Hid (0 < N → ∃ b off, a = ⟨b, off, none⟩ ∧ Q b ∧ ∀ i, i < N → w.cell? ⟨b, off + i, none⟩ = some (.string (l.getD i ByteArray.empty))) := by
      intro h0
      obtain ⟨b, off, ha, hb, hc⟩ := hcx (by omega)
      injection ha with ha
      exact ⟨b, off, ha, hb, fun i hi => hc i _ (map_getD_string _ _ (by omega))⟩
    have HQ : Hid (∀ k, Q k → k < w.heap.size) := hQ
    rw [← hN] at hlx hmk hl ⊢
    clear hcx hN hnil hQ
    go_enter Try.func23, Try.ntmps23
    go_wp2_with fail
    go_loopw [4] (fun p x => ∃ (k : Nat) (g : Nat → Value), k ≤ N ∧ p = .int .i64 k ∧ Rw (w.alloc (.cells (madeCells #[.string ⟨#[]⟩] N) 9)) w.heap.size 9 N g x ∧ (∀ i, i < k → g i = .string (l.getD i ByteArray.empty))) (fun p _ => N - (intOf p).toNat)
    case atStart => exact ⟨0, _, Nat.zero_le _, rfl, Rw.made _ _ _ _, fun i hi => by omega⟩
    case round =>
      obtain ⟨k, g, hk, rfl, hst, hlo⟩ := hrel
      have H : Hid (Rw (w.alloc (.cells (madeCells #[.string ⟨#[]⟩] N) 9)) w.heap.size 9 N g wr ∧ ∀ i, i < k → g i = .string (l.getD i ByteArray.empty)) := ⟨hst, hlo⟩
      clear hst hlo hmk
      have HK : Hid (Kq (· < w.heap.size) w wr) := by
        have h1 : Kq (· < w.heap.size) w (w.alloc (.cells (madeCells #[.string ⟨#[]⟩] N) 9)) := (Kq.refl _ _).alloc (fun _ h => h) _
        exact h1.trans (H.out.1.kq.mono (fun k hk => ⟨by omega, by simp; omega⟩))
      by_cases hlt : k < N
      · have hlt' : (k : Int) < (N : Int) := by omega
        obtain ⟨b, off, rfl, hbQ, hcs⟩ := HC.out (by omega)
        have c1 := (HK.out.cell (p := ⟨b, off + k, none⟩) (HQ.out b hbQ)).trans (hcs k hlt)
        obtain ⟨s, hs⟩ : ∃ s, s = l.getD k ByteArray.empty := ⟨_, rfl⟩
        rw [← hs] at c1
        have HS : Hid (s = l.getD k ByteArray.empty) := hs
        have c2 := H.out.1.cell hlt
        have f2 := H.out.1.free k
        clear hcs hs
        go_wp2_with fail
        go_roundw
        case rel =>
          refine ⟨k + 1, upd g k (.string s), by omega, by go_num, H.out.1.set, fun i hi => ?_⟩
          by_cases e : i = k
          · rw [e, upd_same, HS.out]
          · rw [upd_other e]; exact H.out.2 i (by omega)
        case measure => simp [intOf]; omega
      · obtain rfl : k = N := by omega
        clear hlt
        go_wp2_with fail
        go_ret
        refine ⟨_, rfl, ?_, HK.out⟩
        have h5 := (H.out.1.ext H.out.2).rd (by unfold maxLen; omega) (Q := fun k => w.heap.size ≤ k) (Nat.le_refl _)
        have h6 : rowF k (fun i => .string (l.getD i ByteArray.empty)) = l.map .string := by
          apply List.ext_getElem?
          intro i
          by_cases hi : i < k
          · rw [rowF_get hi, map_getD_string _ _ (by rw [← HN.out]; exact hi)]
          · simp [rowF, ← HN.out, hi]
        rw [h6] at h5
        exact h5

/-! ### zzIndexOf -/
theorem map_getD_int (l : List Int) (i : Nat) (h : i < l.length) : (l.map (Value.int .i64))[i]? = some (.int .i64 (l.getD i 0)) := by simp [h]

set_option maxHeartbeats 1000000 in
theorem indexOf_any (Q : Nat → Prop) (x : Value) (l : List Int) (z : Int) (w : World) (hx : Rd Q w x (l.map (.int .i64))) (hl : l.length ≤ 1048576) :
    Calls Try.prog 14 #[x, .int .i64 z] w fun e w' => w' = w ∧ ((e = .returned (.int .i64 (-1)) ∧ z ∉ l) ∨ ∃ i : Nat, e = .returned (.int .i64 i) ∧ i < l.length ∧ l.getD i 0 = z) := by
  obtain ⟨ax, cx, rfl, hlx, hmx, hnil, hcx⟩ := hx
  rw [List.length_map] at hlx hcx ⊢
  obtain ⟨N, hN⟩ : ∃ N, N = l.length := ⟨_, rfl⟩
  have HN : Hid (N = l.length) := hN
  have HC : Hid (0 < N → ∃ b off, ax = some ⟨b, off, none⟩ ∧ Q b ∧ ∀ i, i < N → w.cell? ⟨b, off + i, none⟩ = some (.int .i64 (l.getD i 0))) := by
    intro h0
    obtain ⟨b, off, ha, hb, hc⟩ := hcx (by omega)
    exact ⟨b, off, ha, hb, fun i hi => hc i _ (map_getD_int _ _ (by omega))⟩
  rw [← hN] at hlx hl ⊢
  clear hcx hN hnil
  go_enter Try.func14, Try.ntmps14
  go_wp2_with fail
  go_loop [5] (fun p => ∃ k : Nat, k ≤ N ∧ p = .int .i64 k ∧ ∀ i, i < k → l.getD i 0 ≠ z) (fun p => N - (intOf p).toNat)
  case atStart => exact ⟨0, Nat.zero_le _, rfl, fun i hi => by omega⟩
  case round =>
    obtain ⟨k, hk, rfl, hlo⟩ := hrel
    have H : Hid (∀ i, i < k → l.getD i 0 ≠ z) := hlo
    clear hlo
    by_cases hlt : k < N
    · have hlt' : (k : Int) < (N : Int) := by omega
      obtain ⟨b, off, rfl, hbQ, hcs⟩ := HC.out (by omega)
      have c1 := hcs k hlt
      obtain ⟨s, hs⟩ : ∃ s, s = l.getD k 0 := ⟨_, rfl⟩
      rw [← hs] at c1
      have HS : Hid (s = l.getD k 0) := hs
      clear hcs hs
      by_cases he : s = z
      · subst he
        go_wp2_with fail
        go_ret
        exact ⟨rfl, .inr ⟨k, rfl, hlt, HS.out.symm⟩⟩
      · have HE : Hid (s ≠ z) := he
        have hb : (s == z) = false := by simpa using he
        clear he
        go_wp2_with fail
        go_round
        case rel =>
          refine ⟨k + 1, by omega, by go_num, fun i hi => ?_⟩
          by_cases e : i = k
          · rw [e, ← HS.out]; exact HE.out
          · exact H.out i (by omega)
        case measure => simp [intOf]; omega
    · obtain rfl : k = N := by omega
      clear hlt
      go_wp2_with fail
      go_ret
      refine ⟨rfl, .inl ⟨rfl, fun hm => ?_⟩⟩
      obtain ⟨i, hi, he⟩ := List.getElem_of_mem hm
      exact H.out i (by rw [HN.out]; exact hi) (by simp [hi, he])
end Go.Proofs.Qxb6609296a

import Derived.Test.Qxb6609296aSwap
namespace Go.Proofs.Qxb6609296a
open Go.RowKit Srt

theorem cl2c (S T n : Nat) (key : Nat → Nat) (x y : Nat) (c : Int) (w : World) (h : Sets S T n key w) (hx : x < n) (hy : y < n) (hc : cmp3 (key x) (key y) = c) :
    Calls Try.prog 32 #[.int .i64 x, .int .i64 y, .pointer (some ⟨S, 0, none⟩)] w fun e w' => e = .returned (.int .i64 c) ∧ ∃ m, w' = w.drewN m := by
  subst hc; exact cl2 S T n key x y w h hx hy
theorem cmp3_neg {x y : Nat} (h : x < y) : cmp3 x y < 0 := by unfold cmp3; rw [if_pos h]; decide
theorem cmp3_pos {x y : Nat} (h : ¬ x < y) : 0 ≤ cmp3 x y := by unfold cmp3; rw [if_neg h]; split <;> decide

/-- What the sort is handed, beside its row: the variable 'sets', apart from the row. -/
structure Env (W : World) (O S T N : Nat) (key : Nat → Nat) : Prop where
  sets : Sets S T N key W
  sO : S ≠ O
  tO : T ≠ O
theorem Env.at {W : World} {O S T N : Nat} {key : Nat → Nat} (h : Env W O S T N key) {D : Nat → Nat} {w : World} (hs : St W O N D w) (hN : 0 < N) : Sets S T N key w :=
  h.sets.kq hs.kq ⟨h.sO, World.block_lt_of_cell? _ _ h.sets.var⟩ ⟨h.tO, World.block_lt_of_cell? _ _ (h.sets.cell 0 hN)⟩

set_option maxHeartbeats 2000000 in
theorem insertion_any (W : World) (O S T N a b : Nat) (key D : Nat → Nat) (w : World) (henv : Env W O S T N key) (h : St W O N D w) (hab : a ≤ b) (hbN : b ≤ N) (hid : ∀ k, a ≤ k → k < b → D k = k) :
    Calls Try.prog 44 #[.slice (some ⟨O, 0, none⟩) N N, .int .i64 a, .int .i64 b, cv S] w fun e w' => e = .returned (.tuple #[]) ∧ ∃ E, St W O N E w' ∧ Prm a b D E ∧ Sorted key E a b := by
  have hN := henv.sets.len
  have H0 : Hid (St W O N D w) := h
  have HE : Hid (Env W O S T N key) := henv
  have HI : Hid (∀ k, a ≤ k → k < b → D k = k) := hid
  clear h henv hid
  go_enter Try.func44, Try.ntmps44
  go_wp2
  go_loopw [8] (fun i wr => ∃ k : Nat, a + 1 ≤ k ∧ (k ≤ b ∨ k = a + 1) ∧ i = .int .i64 k ∧ ∃ E, St W O N E wr ∧ Prm a k D E ∧ Sorted key E a k) (fun i _ => b - (intOf i).toNat)
  case atStart => exact ⟨a + 1, by omega, .inr rfl, by go_num, D, H0.out, Prm.refl _ _ _, fun i j h1 h2 h3 => by omega⟩
  case round =>
    obtain ⟨k, hk, hkb, rfl, E, hst, hprm, hsrt⟩ := hrel
    have HS : Hid (St W O N E wr ∧ Prm a k D E ∧ Sorted key E a k) := ⟨hst, hprm, hsrt⟩
    clear hst hprm hsrt H0
    by_cases hlt : k < b
    · have hlt' : (k : Int) < (b : Int) := by omega
      have hEk : Hid (E k = k) := by rw [HS.out.2.1.out (.inr (Nat.le_refl _))]; exact HI.out k (by omega) hlt
      have hEl : Hid (∀ t, a ≤ t → t < k → E t < k ∧ a ≤ E t) := by
        intro t h1 h2
        obtain ⟨j, j1, j2, e⟩ := HS.out.2.1.mem h1 h2
        rw [e, HI.out j j1 (by omega)]; omega
      go_wp2
      obtain ⟨wo, hwo⟩ : ∃ wo : World, wo = wr := ⟨_, rfl⟩
      subst hwo
      go_loopw [9] (fun i wr => ∃ q : Nat, a ≤ q ∧ q ≤ k ∧ i = .int .i64 q ∧ St W O N (rot q k (k + 1) E) wr ∧ ∀ t, q ≤ t → t < k → lt key (E k) (E t)) (fun i _ => (intOf i).toNat)
      case atStart => exact ⟨k, by omega, Nat.le_refl _, rfl, by rw [rot_none]; exact HS.out.1, fun t h1 h2 => by omega⟩
      case round =>
        obtain ⟨q, haq, hqk, rfl, hst, hgt⟩ := hrel
        have cq := hst.cell (k := q) (by omega)
        rw [rot2 E (Nat.le_refl _) (by omega), show q - q + k = k by omega, hEk.out] at cq
        have HSets : Hid (Sets S T N key wr) := HE.out.at hst (by omega)
        have HT : Hid (St W O N (rot q k (k + 1) E) wr ∧ ∀ t, q ≤ t → t < k → lt key (E k) (E t)) := ⟨hst, hgt⟩
        -- what is known when the loop is left at q
        have hleave : (q = a ∨ ¬ lt key (E k) (E (q - 1))) → Hid (∃ F, St W O N F wr ∧ Prm a (k + 1) D F ∧ Sorted key F a (k + 1)) := by
          intro hl
          refine ⟨rot q k (k + 1) E, hst, (HS.out.2.1.mono (Nat.le_refl _) (by omega)).trans ((Prm.rot (by omega) (by omega) E).mono haq (Nat.le_refl _)), ?_⟩
          refine rot_sorted ⟨haq, hqk, by omega, Nat.le_refl _, fun i j _ _ h1 h2 => by omega, fun i j h1 h2 h3 h4 => ?_⟩ HS.out.2.2 (fun i j h1 h2 h3 => by omega) (fun i j h1 h2 h3 h4 => ?_) (fun i j _ _ h1 h2 => by omega)
          · rw [show j = k by omega]; exact hgt i h1 h2
          · rw [show j = k by omega]
            rcases hl with rfl | hl
            · omega
            · have hne : E k ≠ E (q - 1) := by have := hEl.out (q - 1) (by omega) (by omega); rw [hEk.out]; omega
              have hlt1 := lt.of_not hl hne
              by_cases e : i = q - 1
              · rw [e]; exact hlt1
              · exact (HS.out.2.2 i (q - 1) h1 (by omega) (by omega)).trans hlt1
        clear hst hgt
        by_cases hq : q = a
        · have H9 := hleave (.inl hq)
          have hd : decide (a < q) = false := by simp; omega
          clear hleave hq
          go_wp2
          go_quiet (fail)
          go_wp2
          go_roundw
          case rel =>
            obtain ⟨F, f1, f2, f3⟩ := H9.out
            exact ⟨k + 1, by omega, .inl (by omega), by go_num, F, f1.drewN _, f2, f3⟩
          case measure => simp [intOf]; omega
        · have haq' : a < q := by omega
          have hd : decide (a < q) = true := by simp; omega
          obtain ⟨y, hy⟩ : ∃ y, y = E (q - 1) := ⟨_, rfl⟩
          have hyb := hEl.out (q - 1) (by omega) (by omega)
          rw [← hy] at hyb
          have cp := HT.out.1.cell (k := q - 1) (by omega)
          rw [rot1 E (by omega), ← hy] at cp
          have f1 := HT.out.1.free q
          have f2 := HT.out.1.free (q - 1)
          have k1 : IntKind.i64.wrap ((q : Int) - 1) = (q : Int) - 1 := by rw [IntKind.wrap_i64]; omega
          have z1 : (0 : Int) ≤ (q : Int) - 1 := by omega
          have l1 : (q : Int) - 1 < (N : Int) := by omega
          have l2 : (q : Int) < (N : Int) := by omega
          have t1 : ((q : Int) - 1).toNat = q - 1 := by omega
          have hEq : Hid (E k = k ∧ y = E (q - 1)) := ⟨hEk.out, hy⟩
          by_cases hkey : key k < key y
          · obtain ⟨c, hc⟩ : ∃ c, cmp3 (key k) (key y) = c := ⟨_, rfl⟩
            have hcneg : c < 0 := by rw [← hc]; exact cmp3_neg hkey
            have HC : Hid (cmp3 (key k) (key y) = c) := hc
            have HNX : Hid (St W O N (rot (q - 1) k (k + 1) E) ((wr.setCell ⟨O, q, none⟩ (.int .i64 y)).setCell ⟨O, q - 1, none⟩ (.int .i64 k)) ∧ ∀ t, q - 1 ≤ t → t < k → lt key (E k) (E t)) := by
              refine ⟨?_, fun t h1 h2 => ?_⟩
              · have h5 := HT.out.1.sw (i := q) (j := q - 1) (by omega) (by omega) (by omega)
                rw [rot1 E (show q - 1 < q by omega), rot2 E (Nat.le_refl _) (by omega), show q - q + k = k by omega, hEq.out.1, ← hEq.out.2] at h5
                have h6 := rot_left (m := k) (k := q - 1) (by omega) E
                rw [show q - 1 + 1 = q by omega] at h6
                rw [h6] at h5
                exact h5
              · by_cases e : t = q - 1
                · rw [e, ← hEq.out.2, hEq.out.1]; exact (lt_right hyb.1).2 hkey
                · exact HT.out.2 t (by omega) h2
            clear hleave hy hc hEq HT hkey
            have hne : ¬ (q = q - 1) := by omega
            have hne' : ¬ (q - 1 = q) := by omega
            go_wp2
            go_quiet ((go_at_call 32; refine Calls.quiet_of (cl2c S T N key k y c _ ?_ (by omega) (by omega) HC.out); exact HSets.out.drewN _))
            go_wp2
            go_region
            go_wp2
            go_roundw
            case rel => exact ⟨q - 1, by omega, by omega, by go_num, (HNX.out.1.drewN _).drew, HNX.out.2⟩
            case measure => simp [intOf]; omega
          · obtain ⟨c, hc⟩ : ∃ c, cmp3 (key k) (key y) = c := ⟨_, rfl⟩
            have hcneg : 0 ≤ c := by rw [← hc]; exact cmp3_pos hkey
            have HC : Hid (cmp3 (key k) (key y) = c) := hc
            have H9 := hleave (.inr (by rw [← hEq.out.2, hEq.out.1]; exact fun hh => hkey ((lt_right hyb.1).1 hh)))
            clear hleave hy hc hEq HT hkey
            go_wp2
            go_quiet ((go_at_call 32; refine Calls.quiet_of (cl2c S T N key k y c _ ?_ (by omega) (by omega) HC.out); exact HSets.out.drewN _))
            go_wp2
            go_roundw
            case rel =>
              obtain ⟨F, f1, f2, f3⟩ := H9.out
              exact ⟨k + 1, by omega, .inl (by omega), by go_num, F, f1.drewN _, f2, f3⟩
            case measure => simp [intOf]; omega
    · have H9 : Hid (∃ F, St W O N F wr ∧ Prm a b D F ∧ Sorted key F a b) := by
        rcases hkb with hkb | hkb
        · obtain rfl : k = b := by omega
          exact ⟨E, HS.out⟩
        · refine ⟨E, HS.out.1, ?_, HS.out.2.2.sub (Nat.le_refl _) (by omega)⟩
          by_cases e : k = b
          · rw [← e]; exact HS.out.2.1
          · obtain rfl : a = b := by omega
            have hDE : E = D := by
              funext x
              by_cases hx : x = a
              · obtain ⟨j, j1, j2, e⟩ := HS.out.2.1.mem (k := x) (by omega) (by omega)
                rw [e, show j = x by omega]
              · exact HS.out.2.1.out (by omega)
            rw [hDE]; exact Prm.refl _ _ _
      clear HS
      go_wp2
      go_end0
      exact ⟨rfl, H9.out⟩
end Go.Proofs.Qxb6609296a

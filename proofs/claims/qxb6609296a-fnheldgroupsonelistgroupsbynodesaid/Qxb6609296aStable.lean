import Derived.Test.Qxb6609296aMerge3
namespace Go.Proofs.Qxb6609296a
open Go.RowKit Srt

theorem insertion_int (W : World) (O S T N a b : Nat) (key D : Nat → Nat) (x y : Int) (w : World) (henv : Env W O S T N key) (h : St W O N D w) (hx : x = a) (hy : y = b) (hab : a ≤ b) (hbN : b ≤ N) (hid : ∀ k, a ≤ k → k < b → D k = k) :
    Calls Try.prog 44 #[.slice (some ⟨O, 0, none⟩) N N, .int .i64 x, .int .i64 y, cv S] w fun e w' => e = .returned (.tuple #[]) ∧ ∃ E, St W O N E w' ∧ Prm a b D E ∧ Seg key E a b := by
  subst hx hy
  refine (insertion_any W O S T N a b key D w henv h hab hbN hid).mono ?_
  rintro e w' ⟨rfl, E, h1, h2, h3⟩
  refine ⟨rfl, E, h1, h2, h3, fun k hk1 hk2 => ?_⟩
  obtain ⟨j, j1, j2, e⟩ := h2.mem hk1 hk2
  rw [e, hid j j1 j2]; exact ⟨j1, j2⟩

theorem merge_seg (W : World) (O S T N a m b : Nat) (key D : Nat → Nat) (x y z : Int) (w : World) (henv : Env W O S T N key) (h : St W O N D w) (hx : x = a) (hy : y = m) (hz : z = b) (ham : a < m) (hmb : m < b) (hbN : b ≤ N) (s1 : Seg key D a m) (s2 : Seg key D m b) :
    Calls Try.prog 45 #[.slice (some ⟨O, 0, none⟩) N N, .int .i64 x, .int .i64 y, .int .i64 z, cv S] w fun e w' => e = .returned (.tuple #[]) ∧ ∃ E, St W O N E w' ∧ Prm a b D E ∧ Seg key E a b := by
  refine (merge_any W O S T N key henv (b - a) a m b D x y z w hx hy hz (Nat.le_refl _) h ⟨ham, hmb, hbN, s1.1, s2.1, s1.LR s2, fun k k1 k2 => ?_⟩).mono ?_
  · by_cases c : k < m
    · have := s1.2 k k1 c; omega
    · have := s2.2 k (by omega) k2; omega
  · rintro e w' ⟨rfl, E, h1, h2, h3⟩
    exact ⟨rfl, E, h1, h2, Seg.merged s1 s2 (by omega) (by omega) h2 h3⟩

set_option maxRecDepth 100000 in
set_option maxHeartbeats 4000000 in
theorem stable_any (W : World) (O S T N : Nat) (key D : Nat → Nat) (w : World) (henv : Env W O S T N key) (h : St W O N D w) (h0N : 0 < N) (hid : ∀ k, k < N → D k = k) :
    Calls Try.prog 39 #[.slice (some ⟨O, 0, none⟩) N N, .int .i64 N, cv S] w fun e w' => e = .returned (.tuple #[]) ∧ ∃ E, St W O N E w' ∧ Prm 0 N D E ∧ Seg key E 0 N := by
  have hN := henv.sets.len
  have H0 : Hid (St W O N D w) := h
  have HE : Hid (Env W O S T N key) := henv
  have HI : Hid (∀ k, k < N → D k = k) := hid
  clear h henv hid
  go_enter Try.func39, Try.ntmps39
  go_wp2_with fail
  go_loopw [7, 8] (fun p q wr => ∃ c A : Nat, A = c * 20 ∧ A ≤ N ∧ p = .int .i64 A ∧ q = .int .i64 (A + 20 : Nat) ∧ ∃ E, St W O N E wr ∧ Prm 0 A D E ∧ Upto key E 20 A) (fun _ q _ => N + 20 - (intOf q).toNat)
  case atStart => exact ⟨0, 0, rfl, by omega, rfl, rfl, D, H0.out, Prm.refl _ _ _, Upto.zero _ _ _⟩
  case round =>
    as_aux_lemma =>
      clear H0
      obtain ⟨c, A, hA, hAN, rfl, rfl, E, hst, hprm, hup⟩ := hrel
      have HH : Hid (A = c * 20 ∧ St W O N E wr ∧ Prm 0 A D E ∧ Upto key E 20 A) := ⟨hA, hst, hprm, hup⟩
      have hEid : ∀ k, A ≤ k → k < N → E k = k := fun k k1 k2 => by rw [hprm.out (.inr k1)]; exact HI.out k k2
      have HEid := (show Hid _ from hEid)
      clear hA hst hprm hup hEid
      by_cases hlt : A + 20 ≤ N
      · have hlt' : ((A + 20 : Nat) : Int) ≤ (N : Int) := by omega
        go_wp2_with fail
        refine (insertion_int W O S T N A (A + 20) key E _ _ _ HE.out HH.out.2.1 rfl rfl (by omega) hlt (fun k k1 k2 => HEid.out k k1 (by omega))).mono ?_
        rintro e w1 ⟨rfl, F, f1, f2, f3⟩
        have HF : Hid (St W O N F w1 ∧ Prm 0 (A + 20) D F ∧ Upto key F 20 (A + 20)) := ⟨f1, (HH.out.2.2.1.mono (Nat.le_refl _) (by omega)).trans (f2.mono (Nat.zero_le _) (Nat.le_refl _)), HH.out.2.2.2.step HH.out.1 f2 f3⟩
        clear f1 f2 f3
        go_wp2_with fail
        go_roundw
        case rel => exact ⟨c + 1, A + 20, by have := HH.out.1; omega, hlt, by go_num, by go_num, F, HF.out⟩
        case measure => simp [intOf]; omega
      · go_wp2_with fail
        refine (insertion_int W O S T N A N key E _ _ _ HE.out HH.out.2.1 rfl rfl hAN (Nat.le_refl _) HEid.out).mono ?_
        rintro e w1 ⟨rfl, F, f1, f2, f3⟩
        have HF : Hid (St W O N F w1 ∧ Prm 0 N D F ∧ From key F 20 0 N) := ⟨f1, (HH.out.2.2.1.mono (Nat.le_refl _) hAN).trans (f2.mono (Nat.zero_le _) (Nat.le_refl _)), HH.out.2.2.2.done HH.out.1 hAN (by omega) f2 f3⟩
        clear f1 f2 f3 HH HEid
        go_wp2_with fail
        go_loopw [6] (fun p wr => ∃ B : Nat, 20 ≤ B ∧ B ≤ 2097152 ∧ p = .int .i64 B ∧ ∃ E, St W O N E wr ∧ Prm 0 N D E ∧ From key E B 0 N) (fun p _ => N - (intOf p).toNat)
        case atStart => exact ⟨20, by omega, by omega, rfl, F, HF.out⟩
        case round =>
          as_aux_lemma =>
            clear HF
            obtain ⟨B, hB, hBm, rfl, E, hst, hprm, hfrom⟩ := hrel
            have HH : Hid (St W O N E wr ∧ Prm 0 N D E ∧ From key E B 0 N) := ⟨hst, hprm, hfrom⟩
            clear hst hprm hfrom
            by_cases hlt : B < N
            · have hlt' : (B : Int) < (N : Int) := by omega
              go_wp2_with fail
              obtain ⟨wo, hwo⟩ : ∃ wo : World, wo = wr := ⟨_, rfl⟩
              subst hwo
              go_loopw [7, 8] (fun p q wr => ∃ c A : Nat, A = c * (2 * B) ∧ A ≤ N ∧ p = .int .i64 A ∧ q = .int .i64 (A + 2 * B : Nat) ∧ ∃ E, St W O N E wr ∧ Prm 0 N D E ∧ Upto key E (2 * B) A ∧ From key E B A N) (fun _ q _ => N + 2 * B - (intOf q).toNat)
              case atStart => exact ⟨0, 0, by simp, by omega, rfl, by go_num, E, HH.out.1, HH.out.2.1, Upto.zero _ _ _, HH.out.2.2⟩
              case round =>
                as_aux_lemma =>
                  clear HH
                  obtain ⟨c, A, hA, hAN, rfl, rfl, E, hst, hprm, hup, hfr⟩ := hrel
                  have HH : Hid (A = c * (2 * B) ∧ St W O N E wr ∧ Prm 0 N D E ∧ Upto key E (2 * B) A ∧ From key E B A N) := ⟨hA, hst, hprm, hup, hfr⟩
                  clear hA hst hprm hup hfr
                  by_cases hlt2 : A + 2 * B ≤ N
                  · have hlt2' : ((A + 2 * B : Nat) : Int) ≤ (N : Int) := by omega
                    have HSeg : Hid (Seg key E A (A + B) ∧ Seg key E (A + B) (A + 2 * B)) := by
                      have h1 := HH.out.2.2.2.2.first (by omega)
                      have h2 := HH.out.2.2.2.2.step.first (by omega)
                      rw [show min (A + B) N = A + B by omega] at h1
                      rw [show min (A + B + B) N = A + 2 * B by omega] at h2
                      exact ⟨h1, h2⟩
                    go_wp2_with fail
                    refine (merge_seg W O S T N A (A + B) (A + 2 * B) key E _ _ _ _ HE.out HH.out.2.1 (by omega) (by omega) (by omega) (by omega) (by omega) hlt2 HSeg.out.1 HSeg.out.2).mono ?_
                    rintro e w1 ⟨rfl, F, f1, f2, f3⟩
                    have HF : Hid (St W O N F w1 ∧ Prm 0 N D F ∧ Upto key F (2 * B) (A + 2 * B) ∧ From key F B (A + 2 * B) N) := by
                      refine ⟨f1, HH.out.2.2.1.trans (f2.mono (Nat.zero_le _) hlt2), HH.out.2.2.2.1.step HH.out.1 f2 f3, ?_⟩
                      have h5 := HH.out.2.2.2.2.step.step
                      rw [show A + B + B = A + 2 * B by omega] at h5
                      exact h5.kept f2
                    clear f1 f2 f3
                    go_wp2_with fail
                    go_roundw
                    case rel => exact ⟨c + 1, A + 2 * B, by rw [Nat.succ_mul c (2 * B), ← HH.out.1], hlt2, by go_num, by go_num, F, HF.out⟩
                    case measure => simp [intOf]; omega
                  · have hlt2' : ¬ ((A + 2 * B : Nat) : Int) ≤ (N : Int) := by omega
                    by_cases hm : A + B < N
                    · have HSeg : Hid (Seg key E A (A + B) ∧ Seg key E (A + B) N) := by
                        have h1 := HH.out.2.2.2.2.first (by omega)
                        have h2 := HH.out.2.2.2.2.step.first (by omega)
                        rw [show min (A + B) N = A + B by omega] at h1
                        rw [show min (A + B + B) N = N by omega] at h2
                        exact ⟨h1, h2⟩
                      go_wp2_with fail
                      refine (merge_seg W O S T N A (A + B) N key E _ _ _ _ HE.out HH.out.2.1 (by omega) (by omega) (by omega) (by omega) (by omega) (Nat.le_refl _) HSeg.out.1 HSeg.out.2).mono ?_
                      rintro e w1 ⟨rfl, F, f1, f2, f3⟩
                      have HF : Hid (St W O N F w1 ∧ Prm 0 N D F ∧ From key F (2 * B) 0 N) := ⟨f1, HH.out.2.2.1.trans (f2.mono (Nat.zero_le _) (Nat.le_refl _)), HH.out.2.2.2.1.done HH.out.1 hAN (by omega) f2 f3⟩
                      clear f1 f2 f3
                      go_wp2_with fail
                      go_roundw
                      case rel => exact ⟨2 * B, by omega, by omega, by go_num, F, HF.out⟩
                      case measure => simp [intOf]; omega
                    · have HF : Hid (St W O N E wr ∧ Prm 0 N D E ∧ From key E (2 * B) 0 N) := by
                        refine ⟨HH.out.2.1, HH.out.2.2.1, HH.out.2.2.2.1.done HH.out.1 hAN (by omega) (Prm.refl _ _ _) ?_⟩
                        by_cases e : A < N
                        · have h1 := HH.out.2.2.2.2.first e
                          rw [show min (A + B) N = N by omega] at h1
                          exact h1
                        · exact Seg.nil _ _ (by omega)
                      go_wp2_with fail
                      go_roundw
                      case rel => exact ⟨2 * B, by omega, by omega, by go_num, E, HF.out⟩
                      case measure => simp [intOf]; omega
            · have HF : Hid (St W O N E wr ∧ Prm 0 N D E ∧ Seg key E 0 N) := by
                have h1 := HH.out.2.2.first h0N
                rw [show min (0 + B) N = N by omega] at h1
                exact ⟨HH.out.1, HH.out.2.1, h1⟩
              clear HH
              go_wp2_with fail
              go_end0
              exact ⟨rfl, E, HF.out⟩

theorem sortStable_any (W : World) (O S T N : Nat) (key D : Nat → Nat) (w : World) (henv : Env W O S T N key) (h : St W O N D w) (h0N : 0 < N) (hid : ∀ k, k < N → D k = k) :
    Calls Try.prog 31 #[.slice (some ⟨O, 0, none⟩) N N, cv S] w fun e w' => e = .returned (.tuple #[]) ∧ ∃ E, St W O N E w' ∧ Prm 0 N D E ∧ Seg key E 0 N := by
  have hN := henv.sets.len
  go_enter Try.func31, Try.ntmps31
  go_wp2_with fail
  refine (stable_any W O S T N key D _ henv h h0N hid).mono ?_
  rintro e w1 ⟨rfl, hE⟩
  have HF := (show Hid _ from hE)
  clear hE h henv hid
  go_wp2_with fail
  go_end0
  exact ⟨rfl, HF.out⟩
end Go.Proofs.Qxb6609296a

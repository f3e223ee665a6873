import Derived.Test.Qxb6609296aMerge2
import Derived.Deep.DeepCutAuto
namespace Go.Proofs.Qxb6609296a
open Go.RowKit Srt

theorem rotate_int (W : World) (O N S a m b : Nat) (D : Nat → Nat) (x y z : Int) (w : World) (h : St W O N D w) (hx : x = a) (hy : y = m) (hz : z = b) (ham : a < m) (hmb : m < b) (hbN : b ≤ N) (hN : N ≤ 1048576) :
    Calls Try.prog 47 #[.slice (some ⟨O, 0, none⟩) N N, .int .i64 x, .int .i64 y, .int .i64 z, cv S] w fun e w' => e = .returned (.tuple #[]) ∧ St W O N (rot a m b D) w' := by
  subst hx hy hz; exact rotate_any W O N S a m b D w h ham hmb hbN hN

def MergeSays (W : World) (O S N : Nat) (key : Nat → Nat) (n : Nat) : Prop :=
  ∀ (a m b : Nat) (D : Nat → Nat) (x y z : Int) (w : World), x = a → y = m → z = b → b - a ≤ n → St W O N D w → MPre key D a m b N →
    Calls Try.prog 45 #[.slice (some ⟨O, 0, none⟩) N N, .int .i64 x, .int .i64 y, .int .i64 z, cv S] w fun e w' => e = .returned (.tuple #[]) ∧ ∃ E, St W O N E w' ∧ Prm a b D E ∧ Sorted key E a b

/-- One half, merged or left as it is. -/
theorem half {key D : Nat → Nat} {a s m : Nat} (h1 : Sorted key D a s) (h2 : Sorted key D s m) (h : ¬ (a < s ∧ s < m)) (ha : a ≤ s) (hs : s ≤ m) : Sorted key D a m := by
  by_cases c : s = a
  · rw [← c]; exact h2
  · rw [show m = s by omega]; exact h1

set_option maxRecDepth 100000 in
set_option maxHeartbeats 4000000 in
theorem merge_step (W : World) (O S T N : Nat) (key : Nat → Nat) (henv : Env W O S T N key) (n a m b : Nat) (D : Nat → Nat) (w : World) (ih : MergeSays W O S N key n) (hn : b - a ≤ n + 1) (h : St W O N D w) (hp : MPre key D a m b N) (ham : a + 1 < m) (hmb : m + 1 < b) :
    Calls Try.prog 45 #[.slice (some ⟨O, 0, none⟩) N N, .int .i64 a, .int .i64 m, .int .i64 b, cv S] w fun e w' => e = .returned (.tuple #[]) ∧ ∃ E, St W O N E w' ∧ Prm a b D E ∧ Sorted key E a b := by
  have hN := henv.sets.len
  have hbN := hp.bN
  have H0 : Hid (St W O N D w) := h
  have HE : Hid (Env W O S T N key) := henv
  have HP : Hid (MPre key D a m b N) := hp
  clear h henv hp
  have e1 : ((m : Int) - (a : Int) == 1) = false := by simp; omega
  have e2 : ((b : Int) - (m : Int) == 1) = false := by simp; omega
  obtain ⟨mid, hmid⟩ : ∃ mid, mid = (a + b) / 2 := ⟨_, rfl⟩
  have HMid : Hid (mid = (a + b) / 2) := hmid
  have hmid1 : ((a : Int) + (b : Int)) / 2 = (mid : Int) := by omega
  have hmid2 : a < mid ∧ mid < b := by omega
  obtain ⟨lo, hlo⟩ : ∃ lo, lo = if m > mid then mid + m - b else a := ⟨_, rfl⟩
  obtain ⟨hi, hhi⟩ : ∃ hi, hi = if m > mid then mid else m := ⟨_, rfl⟩
  have HLo : Hid (lo = if m > mid then mid + m - b else a) := hlo
  have HHi : Hid (hi = if m > mid then mid else m) := hhi
  have hlh : a ≤ lo ∧ lo ≤ hi ∧ hi ≤ m ∧ hi ≤ mid ∧ mid + m ≤ b + lo := by split at hlo <;> split at hhi <;> omega
  clear hmid hlo hhi
  go_enter Try.func45, Try.ntmps45
  go_upto_if 140 with fail
  go_cut [20, 21] (fun s r wc => s = .int .i64 (lo : Nat) ∧ r = .int .i64 (hi : Nat) ∧ St W O N D wc)
  case first =>
    as_aux_lemma =>
      by_cases hc : mid < m
      · have e3 : Hid (lo = mid + m - b ∧ hi = mid) := by
          have h1 := HLo.out; have h2 := HHi.out
          rw [if_pos hc] at h1 h2; exact ⟨h1, h2⟩
        have hmm : b ≤ mid + m := by have := HMid.out; omega
        go_wp2_with fail
        go_meet
        case rel => exact ⟨by rw [e3.out.1]; go_num, by rw [e3.out.2], H0.out⟩
      · have e3 : Hid (lo = a ∧ hi = m) := by
          have h1 := HLo.out; have h2 := HHi.out
          rw [if_neg hc] at h1 h2; exact ⟨h1, h2⟩
        go_wp2_with fail
        go_meet
        case rel => exact ⟨by rw [e3.out.1], by rw [e3.out.2], H0.out⟩
  case rest =>
    as_aux_lemma =>
      obtain ⟨rfl, rfl, hst⟩ := hcut
      have H1 : Hid (St W O N D wc) := hst
      clear hst H0
      go_wp2_with fail
      go_loopw [20, 21] (fun p q wr => ∃ i j : Nat, lo ≤ i ∧ i ≤ j ∧ j ≤ hi ∧ p = .int .i64 i ∧ q = .int .i64 j ∧ St W O N D wr ∧ (∀ c, lo ≤ c → c < i → ¬ lt key (D (mid + m - 1 - c)) (D c)) ∧ (∀ c, j ≤ c → c < hi → lt key (D (mid + m - 1 - c)) (D c))) (fun p q _ => (intOf q - intOf p).toNat)
      case atStart => exact ⟨lo, hi, Nat.le_refl _, by omega, Nat.le_refl _, rfl, rfl, H1.out, fun t h1 h2 => by omega, fun t h1 h2 => by omega⟩
      case round =>
        as_aux_lemma =>
          clear H1
          obtain ⟨i, j, h1, h2, h3, rfl, rfl, hst, hl, hh⟩ := hrel
          have HS : Hid (St W O N D wr ∧ (∀ c, lo ≤ c → c < i → ¬ lt key (D (mid + m - 1 - c)) (D c)) ∧ (∀ c, j ≤ c → c < hi → lt key (D (mid + m - 1 - c)) (D c))) := ⟨hst, hl, hh⟩
          by_cases hlt : i < j
          · have hlt' : (i : Int) < (j : Int) := by omega
            obtain ⟨g, hg⟩ : ∃ g, g = (i + j) / 2 := ⟨_, rfl⟩
            have hg1 : ((i : Int) + (j : Int)) / 2 = (g : Int) := by omega
            have hg2 : i ≤ g ∧ g < j := by omega
            have cg := hst.cell (k := g) (by omega)
            have ca := hst.cell (k := mid + m - 1 - g) (by omega)
            obtain ⟨x, hx⟩ : ∃ x, x = D (mid + m - 1 - g) := ⟨_, rfl⟩
            obtain ⟨y, hy⟩ : ∃ y, y = D g := ⟨_, rfl⟩
            rw [← hy] at cg
            rw [← hx] at ca
            have hyx : y < x := by rw [hx, hy]; exact HP.out.lr g (mid + m - 1 - g) (by omega) (by omega) (by omega) (by omega)
            have hxN : x < N := by rw [hx]; exact HP.out.val _ (by omega) (by omega)
            have HSets : Hid (Sets S T N key wr) := HE.out.at hst (by omega)
            have l1 : (g : Int) < (N : Int) := by omega
            have k1 : IntKind.i64.wrap ((mid : Int) + (m : Int) - 1 - (g : Int)) = (mid : Int) + (m : Int) - 1 - (g : Int) := by rw [IntKind.wrap_i64]; omega
            have z1 : (0 : Int) ≤ (mid : Int) + (m : Int) - 1 - (g : Int) := by omega
            have l2 : (mid : Int) + (m : Int) - 1 - (g : Int) < (N : Int) := by omega
            have t1 : ((mid : Int) + (m : Int) - 1 - (g : Int)).toNat = mid + m - 1 - g := by omega
            obtain ⟨c, hc⟩ : ∃ c, cmp3 (key x) (key y) = c := ⟨_, rfl⟩
            have HC : Hid (cmp3 (key x) (key y) = c) := hc
            have Hxy : Hid (x = D (mid + m - 1 - g) ∧ y = D g) := ⟨hx, hy⟩
            by_cases hkey : key x < key y
            · have hcn : c < 0 := by rw [← hc]; exact cmp3_neg hkey
              have hdc : decide (c < 0) = true := decide_eq_true hcn
              have HX : Hid (∀ c, g ≤ c → c < hi → lt key (D (mid + m - 1 - c)) (D c)) := by
                intro t t1 t2
                have hg : lt key (D (mid + m - 1 - g)) (D g) := by rw [← Hxy.out.1, ← Hxy.out.2]; exact (lt_right hyx).2 hkey
                by_cases e : t = g
                · rw [e]; exact hg
                · exact (HP.out.s2 (mid + m - 1 - t) (mid + m - 1 - g) (by omega) (by omega) (by omega)).trans (hg.trans (HP.out.s1 g t (by omega) (by omega) (by omega)))
              clear hst hl hh hg hx hy hc hkey
              go_wp2_with fail
              go_quiet ((go_at_call 32; refine Calls.quiet_of (cl2c S T N key x y c _ ?_ (by omega) (by omega) HC.out); exact HSets.out.drewN _))
              go_wp2_with fail
              go_roundw
              case rel => exact ⟨i, g, h1, by omega, by omega, rfl, by go_num, HS.out.1.drewN _, HS.out.2.1, HX.out⟩
              case measure => simp [intOf]; omega
            · have hcn : 0 ≤ c := by rw [← hc]; exact cmp3_pos hkey
              have hdc : decide (c < 0) = false := decide_eq_false (by omega)
              have HX : Hid (∀ c, lo ≤ c → c < g + 1 → ¬ lt key (D (mid + m - 1 - c)) (D c)) := by
                intro t t1 t2 hbad
                apply hkey
                apply (lt_right hyx).1
                rw [Hxy.out.1, Hxy.out.2]
                by_cases e : t = g
                · rw [e] at hbad; exact hbad
                · exact (HP.out.s2 (mid + m - 1 - g) (mid + m - 1 - t) (by omega) (by omega) (by omega)).trans (hbad.trans (HP.out.s1 t g (by omega) (by omega) (by omega)))
              clear hst hl hh hg hx hy hc hkey
              go_wp2_with fail
              go_quiet ((go_at_call 32; refine Calls.quiet_of (cl2c S T N key x y c _ ?_ (by omega) (by omega) HC.out); exact HSets.out.drewN _))
              go_wp2_with fail
              go_roundw
              case rel => exact ⟨g + 1, j, by omega, by omega, h3, by go_num, rfl, HS.out.1.drewN _, HX.out, HS.out.2.2⟩
              case measure => simp [intOf]; omega
          · obtain rfl : i = j := by omega
            have hcut := cut_of_search (start := i) HMid.out HP.out.am HP.out.mb HP.out.s1 HP.out.s2 HP.out.lr HLo.out HHi.out h1 h3 hl hh
            obtain ⟨o1, o2, o3, o4, _, _⟩ := id hcut
            obtain ⟨e, he⟩ : ∃ e, e = mid + m - i := ⟨_, rfl⟩
            rw [← he] at hcut o3 o4
            have hee : i + (e - m) = mid := by omega
            obtain ⟨p1, p2, p3, p4, px⟩ := rot_pieces hcut HP.out.s1 HP.out.s2
            have hLR := rot_LR o1 o2 o3 o4 HP.out.lr
            rw [hee] at p2 p3 px hLR
            have hval : ∀ k, a ≤ k → k < b → rot i m e D k < N := fun k k1 k2 => by
              obtain ⟨t, t1, t2, et⟩ := ((Prm.rot o2 o3 D).mono o1 o4).mem k1 k2
              rw [et]; exact HP.out.val t t1 t2
            have HQ : Hid (Sorted key (rot i m e D) a i ∧ Sorted key (rot i m e D) i mid ∧ Sorted key (rot i m e D) mid e ∧ Sorted key (rot i m e D) e b ∧ (∀ x y, a ≤ x → x < mid → mid ≤ y → y < b → lt key (rot i m e D x) (rot i m e D y)) ∧ LR (rot i m e D) a i mid ∧ LR (rot i m e D) mid e b ∧ (∀ k, a ≤ k → k < b → rot i m e D k < N) ∧ Prm a b D (rot i m e D)) :=
              ⟨p1, p2, p3, p4, px, hLR.1, hLR.2, hval, (Prm.rot o2 o3 D).mono o1 o4⟩
            have he1 : (mid : Int) + (m : Int) - (i : Int) = (e : Int) := by omega
            have him : i ≤ mid := by omega
            have hme : mid ≤ e := by omega
            clear hcut p1 p2 p3 p4 px hLR hval hst hl hh hlt h2 he hee HLo HHi
            go_upto_region 39 with fail
            go_cut [185] (fun s wc => s = .bool (decide (i < m ∧ m < e)) ∧ St W O N D wc)
            case first =>
              as_aux_lemma =>
                rcases (show (i < m ∧ m < e) ∨ m ≤ i ∨ (i < m ∧ e ≤ m) from by omega) with c1 | c1 | c1
                · have hb : Hid (decide (i < m ∧ m < e) = true) := decide_eq_true c1
                  obtain ⟨c1, c2⟩ := c1
                  go_wp2_with fail
                  go_meet
                  case rel => exact ⟨by rw [hb.out] <;> (simp; omega), HS.out.1⟩
                · have hb : Hid (decide (i < m ∧ m < e) = false) := decide_eq_false (by omega)
                  go_wp2_with fail
                  go_meet
                  case rel => exact ⟨by rw [hb.out] <;> (simp; omega), HS.out.1⟩
                · have hb : Hid (decide (i < m ∧ m < e) = false) := decide_eq_false (by omega)
                  obtain ⟨c1, c2⟩ := c1
                  go_wp2_with fail
                  go_meet
                  case rel => exact ⟨by rw [hb.out] <;> (simp; omega), HS.out.1⟩
            case rest =>
              as_aux_lemma =>
                obtain ⟨rfl, hst⟩ := hcut
                have H1 : Hid (St W O N D wc) := hst
                clear hst HS
                obtain ⟨bb, hbb⟩ : ∃ bb, bb = decide (i < m ∧ m < e) := ⟨_, rfl⟩
                rw [← hbb]
                have HB : Hid (bb = decide (i < m ∧ m < e)) := hbb
                clear hbb
                go_upto_if 185 with fail
                go_cut [] (fun wx => St W O N (rot i m e D) wx)
                case first =>
                  as_aux_lemma =>
                    cases bb
                    · have H5 : Hid (St W O N (rot i m e D) wc) := by
                        have h5 : ¬ (i < m ∧ m < e) := of_decide_eq_false HB.out.symm
                        rcases (show i = m ∨ e = m from by omega) with c1 | c1
                        · rw [c1, rot_none]; exact H1.out
                        · rw [c1, rot_self]; exact H1.out
                      go_wp2_with fail
                      go_meet
                      case rel => exact H5.out
                    · have h5 : i < m ∧ m < e := of_decide_eq_true HB.out.symm
                      go_wp2_with fail
                      refine (rotate_int W O N S i m e D _ _ _ _ H1.out rfl rfl (by omega) h5.1 h5.2 (by omega) hN).mono ?_
                      rintro e' w1 ⟨rfl, hst1⟩
                      have H5 := (show Hid _ from hst1)
                      clear hst1
                      go_wp2_with fail
                      go_meet
                      case rel => exact H5.out
                case rest =>
                  as_aux_lemma =>
                    have H2 : Hid (St W O N (rot i m e D) wc) := hcut
                    clear hcut H1 HB
                    go_upto_region 41 with fail
                    go_cut [199] (fun s wx => s = .bool (decide (a < i ∧ i < mid)) ∧ St W O N (rot i m e D) wx)
                    case first =>
                      as_aux_lemma =>
                        rcases (show (a < i ∧ i < mid) ∨ i ≤ a ∨ (a < i ∧ mid ≤ i) from by omega) with c1 | c1 | c1
                        · have hb : Hid (decide (a < i ∧ i < mid) = true) := decide_eq_true c1
                          obtain ⟨c1, c2⟩ := c1
                          go_wp2_with fail
                          go_meet
                          case rel => exact ⟨by rw [hb.out] <;> (simp; omega), H2.out⟩
                        · have hb : Hid (decide (a < i ∧ i < mid) = false) := decide_eq_false (by omega)
                          go_wp2_with fail
                          go_meet
                          case rel => exact ⟨by rw [hb.out] <;> (simp; omega), H2.out⟩
                        · have hb : Hid (decide (a < i ∧ i < mid) = false) := decide_eq_false (by omega)
                          obtain ⟨c1, c2⟩ := c1
                          go_wp2_with fail
                          go_meet
                          case rel => exact ⟨by rw [hb.out] <;> (simp; omega), H2.out⟩
                    case rest =>
                      as_aux_lemma =>
                        obtain ⟨rfl, hst⟩ := hcut
                        have H3 : Hid (St W O N (rot i m e D) wc) := hst
                        clear hst H2
                        obtain ⟨bb, hbb⟩ : ∃ bb, bb = decide (a < i ∧ i < mid) := ⟨_, rfl⟩
                        rw [← hbb]
                        have HB : Hid (bb = decide (a < i ∧ i < mid)) := hbb
                        clear hbb
                        go_upto_if 199 with fail
                        go_cut [] (fun wx => ∃ E, St W O N E wx ∧ Prm a mid (rot i m e D) E ∧ Sorted key E a mid)
                        case first =>
                          as_aux_lemma =>
                            cases bb
                            · have H5 : Hid (∃ E, St W O N E wc ∧ Prm a mid (rot i m e D) E ∧ Sorted key E a mid) :=
                                ⟨_, H3.out, Prm.refl _ _ _, half HQ.out.1 HQ.out.2.1 (of_decide_eq_false HB.out.symm) o1 him⟩
                              go_wp2_with fail
                              go_meet
                              case rel => exact H5.out
                            · have h5 : a < i ∧ i < mid := of_decide_eq_true HB.out.symm
                              go_wp2_with fail
                              refine (ih a i mid (rot i m e D) _ _ _ _ rfl rfl rfl (by omega) H3.out ⟨h5.1, h5.2, by omega, HQ.out.1, HQ.out.2.1, HQ.out.2.2.2.2.2.1, fun k k1 k2 => HQ.out.2.2.2.2.2.2.2.1 k k1 (by omega)⟩).mono ?_
                              rintro e' w1 ⟨rfl, hst1⟩
                              have H5 := (show Hid _ from hst1)
                              clear hst1
                              go_wp2_with fail
                              go_meet
                              case rel => exact H5.out
                        case rest =>
                          as_aux_lemma =>
                            obtain ⟨E, hst, hprm, hsrt⟩ := hcut
                            have HSE : Hid (Sorted key E mid e ∧ Sorted key E e b ∧ LR E mid e b ∧ ∀ k, mid ≤ k → k < b → E k < N) := by
                              have eq : ∀ k, mid ≤ k → E k = rot i m e D k := fun k hk => hprm.out (.inr hk)
                              refine ⟨fun x y x1 x2 x3 => ?_, fun x y x1 x2 x3 => ?_, fun x y x1 x2 y1 y2 => ?_, fun k k1 k2 => ?_⟩
                              · rw [eq x x1, eq y (by omega)]; exact HQ.out.2.2.1 x y x1 x2 x3
                              · rw [eq x (by omega), eq y (by omega)]; exact HQ.out.2.2.2.1 x y x1 x2 x3
                              · rw [eq x x1, eq y (by omega)]; exact HQ.out.2.2.2.2.2.2.1 x y x1 x2 y1 y2
                              · rw [eq k k1]; exact HQ.out.2.2.2.2.2.2.2.1 k (by omega) k2
                            have H4 : Hid (St W O N E wc ∧ Prm a mid (rot i m e D) E ∧ Sorted key E a mid) := ⟨hst, hprm, hsrt⟩
                            clear hst hprm hsrt H3 HB
                            have HFin : Hid (∀ w' F, St W O N F w' → Prm mid b E F → Sorted key F mid b → ∃ G, St W O N G w' ∧ Prm a b D G ∧ Sorted key G a b) := by
                              intro w' F f1 f2 f3
                              exact ⟨F, f1, HQ.out.2.2.2.2.2.2.2.2.trans ((H4.out.2.1.mono (Nat.le_refl _) (by omega)).trans (f2.mono (by omega) (Nat.le_refl _))), merged HQ.out.2.2.2.2.1 H4.out.2.1 H4.out.2.2 f2 f3⟩
                            go_upto_region 43 with fail
                            go_cut [213] (fun s wx => s = .bool (decide (mid < e ∧ e < b)) ∧ St W O N E wx)
                            case first =>
                              as_aux_lemma =>
                                rcases (show (mid < e ∧ e < b) ∨ e ≤ mid ∨ (mid < e ∧ b ≤ e) from by omega) with c1 | c1 | c1
                                · have hb : Hid (decide (mid < e ∧ e < b) = true) := decide_eq_true c1
                                  obtain ⟨c1, c2⟩ := c1
                                  go_wp2_with fail
                                  go_meet
                                  case rel => exact ⟨by rw [hb.out] <;> (simp; omega), H4.out.1⟩
                                · have hb : Hid (decide (mid < e ∧ e < b) = false) := decide_eq_false (by omega)
                                  go_wp2_with fail
                                  go_meet
                                  case rel => exact ⟨by rw [hb.out] <;> (simp; omega), H4.out.1⟩
                                · have hb : Hid (decide (mid < e ∧ e < b) = false) := decide_eq_false (by omega)
                                  obtain ⟨c1, c2⟩ := c1
                                  go_wp2_with fail
                                  go_meet
                                  case rel => exact ⟨by rw [hb.out] <;> (simp; omega), H4.out.1⟩
                            case rest =>
                              as_aux_lemma =>
                                obtain ⟨rfl, hst⟩ := hcut
                                have H6 : Hid (St W O N E wc) := hst
                                clear hst H4
                                obtain ⟨bb, hbb⟩ : ∃ bb, bb = decide (mid < e ∧ e < b) := ⟨_, rfl⟩
                                rw [← hbb]
                                have HB : Hid (bb = decide (mid < e ∧ e < b)) := hbb
                                clear hbb
                                cases bb
                                · have H7 := (show Hid _ from HFin.out wc E H6.out (Prm.refl _ _ _) (half HSE.out.1 HSE.out.2.1 (of_decide_eq_false HB.out.symm) hme o4))
                                  clear HFin HSE H6 HB HQ
                                  go_wp2_with fail
                                  go_end0
                                  exact ⟨rfl, H7.out⟩
                                · have h5 : mid < e ∧ e < b := of_decide_eq_true HB.out.symm
                                  go_wp2_with fail
                                  refine (ih mid e b E _ _ _ _ rfl (by omega) rfl (by omega) H6.out ⟨h5.1, h5.2, hbN, HSE.out.1, HSE.out.2.1, HSE.out.2.2.1, HSE.out.2.2.2⟩).mono ?_
                                  rintro e' w1 ⟨rfl, F, f1, f2, f3⟩
                                  have H7 := (show Hid _ from HFin.out w1 F f1 f2 f3)
                                  clear HFin HSE H6 HB HQ f1 f2 f3
                                  go_wp2_with fail
                                  go_end0
                                  exact ⟨rfl, H7.out⟩

theorem merge_any (W : World) (O S T N : Nat) (key : Nat → Nat) (henv : Env W O S T N key) (n : Nat) : MergeSays W O S N key n := by
  induction n with
  | zero => intro a m b D x y z w _ _ _ hn _ hp; have := hp.am; have := hp.mb; omega
  | succ n ih =>
    intro a m b D x y z w hx hy hz hn hst hp
    subst hx hy hz
    have h1 := hp.am
    have h2 := hp.mb
    by_cases c1 : m = a + 1
    · subst c1; exact merge_one W O S T N a b key D w henv hst hp
    by_cases c2 : b = m + 1
    · subst c2; exact merge_last W O S T N a m key D w henv hst hp (by omega)
    exact merge_step W O S T N key henv n a m b D w ih hn hst hp (by omega) (by omega)
end Go.Proofs.Qxb6609296a

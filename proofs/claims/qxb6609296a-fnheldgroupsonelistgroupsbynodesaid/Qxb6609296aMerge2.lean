import Derived.Test.Qxb6609296aMerge1
namespace Go.Proofs.Qxb6609296a
open Go.RowKit Srt

set_option maxRecDepth 100000 in
set_option maxHeartbeats 2000000 in
theorem merge_last (W : World) (O S T N a m : Nat) (key D : Nat → Nat) (w : World) (henv : Env W O S T N key) (h : St W O N D w) (hp : MPre key D a m (m + 1) N) (ham : a + 1 < m) :
    Calls Try.prog 45 #[.slice (some ⟨O, 0, none⟩) N N, .int .i64 a, .int .i64 m, .int .i64 (m + 1 : Nat), cv S] w fun e w' => e = .returned (.tuple #[]) ∧ ∃ E, St W O N E w' ∧ Prm a (m + 1) D E ∧ Sorted key E a (m + 1) := by
  have hN := henv.sets.len
  have hbN := hp.bN
  have H0 : Hid (St W O N D w) := h
  have HE : Hid (Env W O S T N key) := henv
  have HP : Hid (MPre key D a m (m + 1) N) := hp
  clear h henv hp
  obtain ⟨b, hb⟩ : ∃ b, b = m + 1 := ⟨_, rfl⟩
  rw [← hb] at HP hbN ⊢
  have hb1 : b ≤ m + 1 := by omega
  have hb2 : m + 1 ≤ b := by omega
  clear hb
  have e1 : ((m : Int) - (a : Int) == 1) = false := by simp; omega
  have e2 : ((b : Int) - (m : Int) == 1) = true := by simp; omega
  go_enter Try.func45, Try.ntmps45
  go_wp2
  go_loopw [14, 15] (fun p q wr => ∃ i j : Nat, a ≤ i ∧ i ≤ j ∧ j ≤ m ∧ p = .int .i64 i ∧ q = .int .i64 j ∧ St W O N D wr ∧ (∀ t, a ≤ t → t < i → lt key (D t) (D m)) ∧ (∀ t, j ≤ t → t < m → lt key (D m) (D t))) (fun p q _ => (intOf q - intOf p).toNat)
  case atStart => exact ⟨a, m, Nat.le_refl _, by omega, Nat.le_refl _, rfl, rfl, H0.out, fun t h1 h2 => by omega, fun t h1 h2 => by omega⟩
  case round =>
    obtain ⟨i, j, h1, h2, h3, rfl, rfl, hst, hlo, hhi⟩ := hrel
    have HS : Hid (St W O N D wr ∧ (∀ t, a ≤ t → t < i → lt key (D t) (D m)) ∧ (∀ t, j ≤ t → t < m → lt key (D m) (D t))) := ⟨hst, hlo, hhi⟩
    by_cases hlt : i < j
    · have hlt' : (i : Int) < (j : Int) := by omega
      obtain ⟨g, hg⟩ : ∃ g, g = (i + j) / 2 := ⟨_, rfl⟩
      have hg1 : ((i : Int) + (j : Int)) / 2 = (g : Int) := by omega
      have hg2 : i ≤ g ∧ g < j := by omega
      have cg := hst.cell (k := g) (by omega)
      have ca := hst.cell (k := m) (by omega)
      obtain ⟨x, hx⟩ : ∃ x, x = D m := ⟨_, rfl⟩
      obtain ⟨y, hy⟩ : ∃ y, y = D g := ⟨_, rfl⟩
      rw [← hy] at cg
      rw [← hx] at ca
      have hyx : y < x := by rw [hx, hy]; exact HP.out.lr g m (by omega) (by omega) (by omega) (by omega)
      have hxN : x < N := by rw [hx]; exact HP.out.val m (by omega) (by omega)
      have HSets : Hid (Sets S T N key wr) := HE.out.at hst (by omega)
      have l1 : (g : Int) < (N : Int) := by omega
      have l2 : (m : Int) < (N : Int) := by omega
      obtain ⟨c, hc⟩ : ∃ c, cmp3 (key x) (key y) = c := ⟨_, rfl⟩
      have HC : Hid (cmp3 (key x) (key y) = c) := hc
      have Hxy : Hid (x = D m ∧ y = D g) := ⟨hx, hy⟩
      by_cases hkey : key x < key y
      · have hcn : c < 0 := by rw [← hc]; exact cmp3_neg hkey
        have HX : Hid (∀ t, g ≤ t → t < m → lt key (D m) (D t)) := by
          intro t t1 t2
          have hg : lt key (D m) (D g) := by rw [← Hxy.out.1, ← Hxy.out.2]; exact (lt_right hyx).2 hkey
          by_cases e : t = g
          · rw [e]; exact hg
          · exact hg.trans (HP.out.s1 g t (by omega) (by omega) t2)
        clear hst hlo hhi hg hx hy hc hkey
        go_wp2
        go_quiet ((go_at_call 32; refine Calls.quiet_of (cl2c S T N key x y c _ ?_ (by omega) (by omega) HC.out); exact HSets.out.drewN _))
        go_wp2
        go_roundw
        case rel => exact ⟨i, g, h1, by omega, by omega, rfl, by go_num, HS.out.1.drewN _, HS.out.2.1, HX.out⟩
        case measure => simp [intOf]; omega
      · have hcn : 0 ≤ c := by rw [← hc]; exact cmp3_pos hkey
        have hdc : decide (c < 0) = false := decide_eq_false (by omega)
        have HX : Hid (∀ t, a ≤ t → t < g + 1 → lt key (D t) (D m)) := by
          intro t t1 t2
          have hg : lt key (D g) (D m) := by
            refine lt.of_not (fun hh => hkey ?_) (by rw [← Hxy.out.1, ← Hxy.out.2]; omega)
            rw [← Hxy.out.1, ← Hxy.out.2] at hh; exact (lt_right hyx).1 hh
          by_cases e : t = g
          · rw [e]; exact hg
          · exact (HP.out.s1 t g t1 (by omega) (by omega)).trans hg
        clear hst hlo hhi hg hx hy hc hkey
        go_wp2
        go_quiet ((go_at_call 32; refine Calls.quiet_of (cl2c S T N key x y c _ ?_ (by omega) (by omega) HC.out); exact HSets.out.drewN _))
        go_wp2
        go_roundw
        case rel => exact ⟨g + 1, j, by omega, by omega, h3, by go_num, rfl, HS.out.1.drewN _, HX.out, HS.out.2.2⟩
        case measure => simp [intOf]; omega
    · obtain rfl : i = j := by omega
      have HF : Hid (∀ w', St W O N (rot i m (m + 1) D) w' → ∃ E, St W O N E w' ∧ Prm a b D E ∧ Sorted key E a b) := by
        intro w' hs
        rw [show m + 1 = b by omega] at hs
        refine ⟨_, hs, (Prm.rot h3 (by omega) D).mono h1 (Nat.le_refl _), ?_⟩
        exact rot_sorted ⟨h1, h3, by omega, Nat.le_refl _, fun x y _ _ _ _ => by omega, fun x y x1 x2 y1 y2 => by rw [show y = m by omega]; exact hhi x x1 x2⟩ HP.out.s1 HP.out.s2 (fun x y x1 x2 y1 y2 => by rw [show y = m by omega]; exact hlo x x1 x2) (fun x y _ _ _ _ => by omega)
      clear hst hlo hhi HE HP hlt h2
      go_wp2
      go_loopw [17] (fun p wr => ∃ k : Nat, i ≤ k ∧ k ≤ m ∧ p = .int .i64 k ∧ St W O N (rot k m (m + 1) D) wr) (fun p _ => (intOf p).toNat)
      case atStart => exact ⟨m, h3, Nat.le_refl _, rfl, by rw [rot_none]; exact HS.out.1⟩
      case round =>
        clear HS
        obtain ⟨k, hk1, hk2, rfl, hst⟩ := hrel
        by_cases hlt : i < k
        · have hlt' : (i : Int) < (k : Int) := by omega
          have c1 := hst.cell (k := k) (by omega)
          have c2 := hst.cell (k := k - 1) (by omega)
          have f1 := hst.free k
          have f2 := hst.free (k - 1)
          have HNX : Hid (St W O N (rot (k - 1) m (m + 1) D) ((wr.setCell ⟨O, k, none⟩ (.int .i64 (rot k m (m + 1) D (k - 1)))).setCell ⟨O, k - 1, none⟩ (.int .i64 (rot k m (m + 1) D k)))) := by
            have h5 := hst.sw (i := k) (j := k - 1) (by omega) (by omega) (by omega)
            have h6 := rot_left (m := m) (k := k - 1) (by omega) D
            rw [show k - 1 + 1 = k by omega] at h6
            rw [h6] at h5
            exact h5
          obtain ⟨x, hx⟩ : ∃ x, x = rot k m (m + 1) D k := ⟨_, rfl⟩
          obtain ⟨y, hy⟩ : ∃ y, y = rot k m (m + 1) D (k - 1) := ⟨_, rfl⟩
          rw [← hx] at c1 HNX
          rw [← hy] at c2 HNX
          have k1 : IntKind.i64.wrap ((k : Int) - 1) = (k : Int) - 1 := by rw [IntKind.wrap_i64]; omega
          have z1 : (0 : Int) ≤ (k : Int) - 1 := by omega
          have l1 : (k : Int) - 1 < (N : Int) := by omega
          have l2 : (k : Int) < (N : Int) := by omega
          have t1 : ((k : Int) - 1).toNat = k - 1 := by omega
          have hne : ¬ (k = k - 1) := by omega
          have hne' : ¬ (k - 1 = k) := by omega
          clear hst hx hy
          go_wp2
          go_region
          go_wp2
          go_roundw
          case rel => exact ⟨k - 1, by omega, by omega, by go_num, HNX.out.drew⟩
          case measure => simp [intOf]; omega
        · obtain rfl : k = i := by omega
          have H9 := (show Hid _ from HF.out wr hst)
          clear hst HF
          go_wp2
          exact bodyPost_ret (v := .tuple #[]) (by simp [results, Try.results45, go_sem]) rfl ⟨rfl, H9.out⟩
end Go.Proofs.Qxb6609296a

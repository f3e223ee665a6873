import Derived.Test.Qxb6609296aInsert
namespace Go.Proofs.Qxb6609296a
open Go.RowKit Srt

/-- What a merge is handed. -/
structure MPre (key D : Nat → Nat) (a m b N : Nat) : Prop where
  am : a < m
  mb : m < b
  bN : b ≤ N
  s1 : Sorted key D a m
  s2 : Sorted key D m b
  lr : LR D a m b
  val : ∀ k, a ≤ k → k < b → D k < N

set_option maxRecDepth 100000 in
set_option maxHeartbeats 2000000 in
theorem merge_one (W : World) (O S T N a b : Nat) (key D : Nat → Nat) (w : World) (henv : Env W O S T N key) (h : St W O N D w) (hp : MPre key D a (a + 1) b N) :
    Calls Try.prog 45 #[.slice (some ⟨O, 0, none⟩) N N, .int .i64 a, .int .i64 (a + 1 : Nat), .int .i64 b, cv S] w fun e w' => e = .returned (.tuple #[]) ∧ ∃ E, St W O N E w' ∧ Prm a b D E ∧ Sorted key E a b := by
  have hN := henv.sets.len
  have hab := hp.mb
  have hbN := hp.bN
  have H0 : Hid (St W O N D w) := h
  have HE : Hid (Env W O S T N key) := henv
  have HP : Hid (MPre key D a (a + 1) b N) := hp
  clear h henv hp
  obtain ⟨m, hm⟩ : ∃ m, m = a + 1 := ⟨_, rfl⟩
  rw [← hm] at HP hab ⊢
  have hm1 : m ≤ a + 1 := by omega
  have hm2 : a + 1 ≤ m := by omega
  clear hm
  have e1 : ((m : Int) - (a : Int) == 1) = true := by simp; omega
  go_enter Try.func45, Try.ntmps45
  go_wp2
  go_loopw [10, 11] (fun p q wr => ∃ i j : Nat, m ≤ i ∧ i ≤ j ∧ j ≤ b ∧ p = .int .i64 i ∧ q = .int .i64 j ∧ St W O N D wr ∧ (∀ t, m ≤ t → t < i → lt key (D t) (D a)) ∧ (∀ t, j ≤ t → t < b → lt key (D a) (D t))) (fun p q _ => (intOf q - intOf p).toNat)
  case atStart => exact ⟨m, b, Nat.le_refl _, by omega, Nat.le_refl _, rfl, rfl, H0.out, fun t h1 h2 => by omega, fun t h1 h2 => by omega⟩
  case round =>
    obtain ⟨i, j, h1, h2, h3, rfl, rfl, hst, hlo, hhi⟩ := hrel
    have HS : Hid (St W O N D wr ∧ (∀ t, m ≤ t → t < i → lt key (D t) (D a)) ∧ (∀ t, j ≤ t → t < b → lt key (D a) (D t))) := ⟨hst, hlo, hhi⟩
    by_cases hlt : i < j
    · have hlt' : (i : Int) < (j : Int) := by omega
      obtain ⟨g, hg⟩ : ∃ g, g = (i + j) / 2 := ⟨_, rfl⟩
      have hg1 : ((i : Int) + (j : Int)) / 2 = (g : Int) := by omega
      have hg2 : i ≤ g ∧ g < j := by omega
      have cg := hst.cell (k := g) (by omega)
      have ca := hst.cell (k := a) (by omega)
      obtain ⟨x, hx⟩ : ∃ x, x = D g := ⟨_, rfl⟩
      obtain ⟨y, hy⟩ : ∃ y, y = D a := ⟨_, rfl⟩
      rw [← hx] at cg
      rw [← hy] at ca
      have hyx : y < x := by rw [hx, hy]; exact HP.out.lr a g (Nat.le_refl _) (by omega) (by omega) (by omega)
      have hxN : x < N := by rw [hx]; exact HP.out.val g (by omega) (by omega)
      have HSets : Hid (Sets S T N key wr) := HE.out.at hst (by omega)
      have l1 : (g : Int) < (N : Int) := by omega
      have l2 : (a : Int) < (N : Int) := by omega
      obtain ⟨c, hc⟩ : ∃ c, cmp3 (key x) (key y) = c := ⟨_, rfl⟩
      have HC : Hid (cmp3 (key x) (key y) = c) := hc
      have Hxy : Hid (x = D g ∧ y = D a) := ⟨hx, hy⟩
      by_cases hkey : key x < key y
      · have hcn : c < 0 := by rw [← hc]; exact cmp3_neg hkey
        have HX : Hid (∀ t, m ≤ t → t < g + 1 → lt key (D t) (D a)) := by
          intro t t1 t2
          have hg : lt key (D g) (D a) := by rw [← Hxy.out.1, ← Hxy.out.2]; exact (lt_right hyx).2 hkey
          by_cases e : t = g
          · rw [e]; exact hg
          · exact (HP.out.s2 t g t1 (by omega) (by omega)).trans hg
        clear hst hlo hhi hg hx hy hc hkey
        go_wp2
        go_quiet ((go_at_call 32; refine Calls.quiet_of (cl2c S T N key x y c _ ?_ (by omega) (by omega) HC.out); exact HSets.out.drewN _))
        go_wp2
        go_roundw
        case rel => exact ⟨g + 1, j, by omega, by omega, h3, by go_num, rfl, HS.out.1.drewN _, HX.out, HS.out.2.2⟩
        case measure => simp [intOf]; omega
      · have hcn : 0 ≤ c := by rw [← hc]; exact cmp3_pos hkey
        have HX : Hid (∀ t, g ≤ t → t < b → lt key (D a) (D t)) := by
          intro t t1 t2
          have hg : lt key (D a) (D g) := by
            refine lt.of_not (fun hh => hkey ?_) (by rw [← Hxy.out.1, ← Hxy.out.2]; omega)
            rw [← Hxy.out.1, ← Hxy.out.2] at hh; exact (lt_right hyx).1 hh
          by_cases e : t = g
          · rw [e]; exact hg
          · exact hg.trans (HP.out.s2 g t (by omega) (by omega) t2)
        clear hst hlo hhi hg hx hy hc hkey
        go_wp2
        go_quiet ((go_at_call 32; refine Calls.quiet_of (cl2c S T N key x y c _ ?_ (by omega) (by omega) HC.out); exact HSets.out.drewN _))
        go_wp2
        go_roundw
        case rel => exact ⟨i, g, h1, by omega, by omega, rfl, by go_num, HS.out.1.drewN _, HS.out.2.1, HX.out⟩
        case measure => simp [intOf]; omega
    · obtain rfl : i = j := by omega
      have HF : Hid (∀ w', St W O N (rot a m i D) w' → ∃ E, St W O N E w' ∧ Prm a b D E ∧ Sorted key E a b) := by
        intro w' hs
        refine ⟨_, hs, (Prm.rot (by omega) h1 D).mono (Nat.le_refl _) h3, ?_⟩
        exact rot_sorted ⟨Nat.le_refl _, by omega, h1, h3, fun x y _ _ => by omega, fun x y x1 x2 y1 y2 => by rw [show x = a by omega]; exact hlo y y1 y2⟩ HP.out.s1 HP.out.s2 (fun x y _ _ => by omega) (fun x y x1 x2 y1 y2 => by rw [show x = a by omega]; exact hhi y y1 y2)
      clear hst hlo hhi HE HP hlt h2
      go_wp2
      go_loopw [13] (fun p wr => ∃ k : Nat, a ≤ k ∧ k + 1 ≤ i ∧ p = .int .i64 k ∧ St W O N (rot a m (k + 1) D) wr) (fun p _ => i - (intOf p).toNat)
      case atStart => exact ⟨a, Nat.le_refl _, by omega, rfl, by rw [show a + 1 = m by omega, rot_self]; exact HS.out.1⟩
      case round =>
        clear HS
        obtain ⟨k, hk1, hk2, rfl, hst⟩ := hrel
        by_cases hlt : k + 1 < i
        · have hlt' : (k : Int) < (i : Int) - 1 := by omega
          have c1 := hst.cell (k := k) (by omega)
          have c2 := hst.cell (k := k + 1) (by omega)
          have f1 := hst.free k
          have f2 := hst.free (k + 1)
          have HNX : Hid (St W O N (rot a m (k + 2) D) ((wr.setCell ⟨O, k, none⟩ (.int .i64 (rot a m (k + 1) D (k + 1)))).setCell ⟨O, k + 1, none⟩ (.int .i64 (rot a m (k + 1) D k)))) := by
            have h5 := hst.sw (i := k) (j := k + 1) (by omega) (by omega) (by omega)
            have h6 := rot_right (a := a) (k := k) hk1 D
            rw [show a + 1 = m by omega] at h6
            rw [h6] at h5
            exact h5
          obtain ⟨x, hx⟩ : ∃ x, x = rot a m (k + 1) D k := ⟨_, rfl⟩
          obtain ⟨y, hy⟩ : ∃ y, y = rot a m (k + 1) D (k + 1) := ⟨_, rfl⟩
          rw [← hx] at c1 HNX
          rw [← hy] at c2 HNX
          have k1 : IntKind.i64.wrap ((k : Int) + 1) = (k : Int) + 1 := by rw [IntKind.wrap_i64]; omega
          have z1 : (0 : Int) ≤ (k : Int) + 1 := by omega
          have l1 : (k : Int) + 1 < (N : Int) := by omega
          have l2 : (k : Int) < (N : Int) := by omega
          have t1 : ((k : Int) + 1).toNat = k + 1 := by omega
          clear hst hx hy
          go_wp2
          go_region
          go_wp2
          go_roundw
          case rel => exact ⟨k + 1, by omega, by omega, by go_num, HNX.out.drew⟩
          case measure => simp [intOf]; omega
        · obtain rfl : k + 1 = i := by omega
          have H9 := (show Hid _ from HF.out wr hst)
          clear hst HF
          go_wp2
          exact bodyPost_ret (v := .tuple #[]) (by simp [results, Try.results45, go_sem]) rfl ⟨rfl, H9.out⟩
end Go.Proofs.Qxb6609296a

import Derived.Test.Qxb6609296aSizes2
namespace Go.Proofs.Qxb6609296a
open Go.RowKit Srt

set_option maxRecDepth 100000 in
set_option maxHeartbeats 8000000 in
theorem zzBytes_any (Q : Nat → Prop) (x : Value) (xs : List As) (res : ByteArray) (y : Value) (ids : List ByteArray) (an ag : Option Addr) (ln cn lg cg : Nat) (w : World) (hx : Ass Q w x xs) (hf : ∀ (i : Nat) a, xs[i]? = some a → AsFit a) (hy : Rd Q w y (ids.map .string))
    (hn : ln ≤ maxLen) (hg : lg ≤ maxLen) (hr : res.size ≤ maxLen) (hi : ∀ i, i < ids.length → (ids.getD i ByteArray.empty).size ≤ maxLen) :
    Calls Try.prog 11 #[x, .string res, y, .slice an ln cn, .slice ag lg cg] w fun e w' => w' = w ∧ AnyBool e := by
  obtain ⟨ax, cx, rfl, hlx, hmx, hnil, hcx⟩ := hx
  obtain ⟨ay, cy, rfl, hly, hmy, _, hcy⟩ := hy
  rw [List.length_map] at hly hcy ⊢
  obtain ⟨N, hN⟩ : ∃ N, N = xs.length := ⟨_, rfl⟩
  obtain ⟨J, hJ⟩ : ∃ J, J = ids.length := ⟨_, rfl⟩
  have HN : Hid (N = xs.length) := hN
  have HC : Hid (0 < xs.length → ∃ b off, ax = some ⟨b, off, none⟩ ∧ Q b ∧ ∀ (i : Nat) a, xs[i]? = some a → ∃ dv, AsAt Q w b (off + i * 5) a dv) := hcx
  have HF : Hid (∀ (i : Nat) a, xs[i]? = some a → AsFit a) := hf
  have HCY : Hid (0 < J → ∃ b off, ay = some ⟨b, off, none⟩ ∧ Q b ∧ ∀ i, i < J → w.cell? ⟨b, off + i, none⟩ = some (.string (ids.getD i ByteArray.empty)) ∧ (ids.getD i ByteArray.empty).size ≤ maxLen) := by
    intro h0
    obtain ⟨b, off, ha, hb, hc⟩ := hcy (by omega)
    exact ⟨b, off, ha, hb, fun i hi' => ⟨hc i _ (map_getD_string _ _ (by omega)), hi i (by omega)⟩⟩
  rw [← hN] at hlx ⊢
  rw [← hJ] at hly ⊢
  unfold maxLen at hmx hmy hn hg hr
  clear hcx hcy hN hJ hnil hf hi
  by_cases h0 : 1048576 < N
  · go_enter Try.func11, Try.ntmps11
    go_wp2_with fail
    go_ret
    exact ⟨rfl, AnyBool.is rfl⟩
  go_enter Try.func11, Try.ntmps11
  go_wp2_with fail
  go_loop [11, 12] (fun t p => ∃ (k s : Nat), k ≤ N ∧ p = .int .i64 k ∧ t = .int .i64 s ∧ s ≤ 1048576) (fun _ p => N - (intOf p).toNat)
  case atStart => exact ⟨0, N, Nat.zero_le _, rfl, by go_num, by omega⟩
  case round =>
    obtain ⟨k, s, hk, rfl, rfl, hs⟩ := hrel
    by_cases hlt : k < N
    · clear hly hmy hn hg hr h0
      have hlt' : (k : Int) < (N : Int) := by omega
      obtain ⟨b, off, hab, hbQ, hcs⟩ := HC.out (by have := HN.out; omega)
      obtain ⟨a, hak⟩ : ∃ a, xs[k]? = some a := ⟨_, List.getElem?_eq_getElem (by have := HN.out; omega)⟩
      obtain ⟨dv, hat⟩ := hcs k a hak
      obtain ⟨fn, fm, fc, fr, fd, fs⟩ := HF.out k a hak
      subst hab
      obtain ⟨e0, e1, e2, e3, e4, hrd⟩ := id hat
      obtain ⟨da, dc, hdf, hd1, hd2, _, hd4⟩ := hrd
      rw [List.length_map] at hdf hd1 hd4
      clear hat hcs hak
      subst hdf
      obtain ⟨ns, nm, ct, rs, devs⟩ := a
      simp only at e0 e1 e2 e3 e4 fn fm fc fr fd fs hd1 hd4
      obtain ⟨M, hM⟩ : ∃ M, M = devs.length := ⟨_, rfl⟩
      have HDC : Hid (0 < M → ∃ b off, da = some ⟨b, off, none⟩ ∧ Q b ∧ ∀ i, i < M → w.cell? ⟨b, off + i, none⟩ = some (.string (devs.getD i ByteArray.empty)) ∧ (devs.getD i ByteArray.empty).size ≤ maxLen) := by
        intro h0
        obtain ⟨b, off, ha, hb, hc⟩ := hd4 (by omega)
        exact ⟨b, off, ha, hb, fun i hi => ⟨hc i _ (map_getD_string _ _ (by omega)), fs i (by omega)⟩⟩
      rw [← hM] at e4 fd hd1
      unfold maxLen at fn fm fc fr fd hd2
      clear fs hd4 hM
      by_cases a1 : 1048576 < ns.size
      · go_wp2_with fail
        go_ret
        exact ⟨rfl, AnyBool.is rfl⟩
      by_cases a2 : 1048576 < s + ns.size
      · go_wp2_with fail
        go_ret
        exact ⟨rfl, AnyBool.is rfl⟩
      by_cases a3 : 1048576 < nm.size
      · go_wp2_with fail
        go_ret
        exact ⟨rfl, AnyBool.is rfl⟩
      by_cases a4 : 1048576 < s + ns.size + nm.size
      · go_wp2_with fail
        go_ret
        exact ⟨rfl, AnyBool.is rfl⟩
      by_cases a5 : 1048576 < ct.size
      · go_wp2_with fail
        go_ret
        exact ⟨rfl, AnyBool.is rfl⟩
      by_cases a6 : 1048576 < s + ns.size + nm.size + ct.size
      · go_wp2_with fail
        go_ret
        exact ⟨rfl, AnyBool.is rfl⟩
      by_cases a7 : 1048576 < rs.size
      · go_wp2_with fail
        go_ret
        exact ⟨rfl, AnyBool.is rfl⟩
      by_cases a8 : 1048576 < s + ns.size + nm.size + ct.size + rs.size
      · go_wp2_with fail
        go_ret
        exact ⟨rfl, AnyBool.is rfl⟩
      by_cases a9 : 1048576 < M
      · go_wp2_with fail
        go_ret
        exact ⟨rfl, AnyBool.is rfl⟩
      by_cases a10 : 1048576 < s + ns.size + nm.size + ct.size + rs.size + M
      · go_wp2_with fail
        go_ret
        exact ⟨rfl, AnyBool.is rfl⟩
      obtain ⟨T, hT⟩ : ∃ T, T = s + ns.size + nm.size + ct.size + rs.size + M := ⟨_, rfl⟩
      have HT : Hid (T = s + ns.size + nm.size + ct.size + rs.size + M) := hT
      clear hT
      go_wp2_with fail
      go_loop [11, 13] (fun t p => ∃ (j s2 : Nat), j ≤ M ∧ p = .int .i64 j ∧ t = .int .i64 s2 ∧ s2 ≤ 1048576) (fun _ p => M - (intOf p).toNat)
      case atStart => exact ⟨0, T, Nat.zero_le _, rfl, by rw [HT.out]; go_num, by rw [HT.out]; omega⟩
      case round =>
        clear a1 a2 a3 a4 a5 a6 a7 a8 a9 a10 fn fm fc fr
        obtain ⟨j, s2, hj, rfl, rfl, hs2⟩ := hrel
        by_cases hlt2 : j < M
        · have hlt2' : (j : Int) < (M : Int) := by omega
          obtain ⟨b2, off2, rfl, hb2, hcs2⟩ := HDC.out (by omega)
          obtain ⟨c1, hiz⟩ := hcs2 j hlt2
          obtain ⟨u, hu⟩ : ∃ u, u = devs.getD j ByteArray.empty := ⟨_, rfl⟩
          rw [← hu] at c1 hiz
          unfold maxLen at hiz
          clear hcs2 hu
          by_cases b1 : 1048576 < u.size
          · go_wp2_with fail
            go_ret
            exact ⟨rfl, AnyBool.is rfl⟩
          by_cases b3 : 1048576 < s2 + u.size
          · go_wp2_with fail
            go_ret
            exact ⟨rfl, AnyBool.is rfl⟩
          go_wp2_with fail
          go_round
          case rel => exact ⟨j + 1, s2 + u.size, by omega, by go_num, by go_num, by omega⟩
          case measure => simp [intOf]; omega
        · obtain rfl : j = M := by omega
          clear hlt2
          go_wp2_with fail
          go_round
          case rel => exact ⟨k + 1, s2, by omega, by go_num, rfl, hs2⟩
          case measure => simp [intOf]; omega
    · obtain rfl : k = N := by omega
      clear hlt h0
      by_cases a1 : 1048576 < res.size
      · go_wp2_with fail
        go_ret
        exact ⟨rfl, AnyBool.is rfl⟩
      by_cases a2 : 1048576 < s + res.size
      · go_wp2_with fail
        go_ret
        exact ⟨rfl, AnyBool.is rfl⟩
      by_cases a3 : 1048576 < J
      · go_wp2_with fail
        go_ret
        exact ⟨rfl, AnyBool.is rfl⟩
      by_cases a4 : 1048576 < s + res.size + J
      · go_wp2_with fail
        go_ret
        exact ⟨rfl, AnyBool.is rfl⟩
      obtain ⟨T, hT⟩ : ∃ T, T = s + res.size + J := ⟨_, rfl⟩
      have HT : Hid (T = s + res.size + J) := hT
      clear hT
      go_wp2_with fail
      go_loop [11, 14] (fun t p => ∃ (j s2 : Nat), j ≤ J ∧ p = .int .i64 j ∧ t = .int .i64 s2 ∧ s2 ≤ 1048576) (fun _ p => J - (intOf p).toNat)
      case atStart => exact ⟨0, T, Nat.zero_le _, rfl, by rw [HT.out]; go_num, by rw [HT.out]; omega⟩
      case round =>
        clear a1 a2 a3 a4 hr
        obtain ⟨j, s2, hj, rfl, rfl, hs2⟩ := hrel
        by_cases hlt2 : j < J
        · have hlt2' : (j : Int) < (J : Int) := by omega
          obtain ⟨b2, off2, rfl, hb2, hcs2⟩ := HCY.out (by omega)
          obtain ⟨c1, hiz⟩ := hcs2 j hlt2
          obtain ⟨u, hu⟩ : ∃ u, u = ids.getD j ByteArray.empty := ⟨_, rfl⟩
          rw [← hu] at c1 hiz
          unfold maxLen at hiz
          clear hcs2 hu
          by_cases b1 : 1048576 < u.size
          · go_wp2_with fail
            go_ret
            exact ⟨rfl, AnyBool.is rfl⟩
          by_cases b3 : 1048576 < s2 + u.size
          · go_wp2_with fail
            go_ret
            exact ⟨rfl, AnyBool.is rfl⟩
          go_wp2_with fail
          go_round
          case rel => exact ⟨j + 1, s2 + u.size, by omega, by go_num, by go_num, by omega⟩
          case measure => simp [intOf]; omega
        · obtain rfl : j = J := by omega
          clear hlt2
          by_cases b1 : 1048576 < ln
          · go_wp2_with fail
            go_ret
            exact ⟨rfl, AnyBool.is rfl⟩
          by_cases b2 : 1048576 < s2 + ln
          · go_wp2_with fail
            go_ret
            exact ⟨rfl, AnyBool.is rfl⟩
          by_cases b3 : 1048576 < lg
          · go_wp2_with fail
            go_ret
            exact ⟨rfl, AnyBool.is rfl⟩
          by_cases b4 : 1048576 < s2 + ln + lg
          · go_wp2_with fail
            go_ret
            exact ⟨rfl, AnyBool.is rfl⟩
          go_wp2_with fail
          go_ret
          exact ⟨rfl, AnyBool.is rfl⟩
end Go.Proofs.Qxb6609296a

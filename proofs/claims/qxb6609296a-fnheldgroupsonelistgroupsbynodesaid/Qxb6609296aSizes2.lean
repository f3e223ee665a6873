import Derived.Test.Qxb6609296aSizes
namespace Go.Proofs.Qxb6609296a
open Go.RowKit Srt

/-- Strings that can be. -/
structure AsFit (a : As) : Prop where
  ns : a.ns.size ≤ maxLen
  nm : a.nm.size ≤ maxLen
  ct : a.ct.size ≤ maxLen
  rs : a.rs.size ≤ maxLen
  dl : a.devs.length ≤ maxLen
  ds : ∀ i, i < a.devs.length → (a.devs.getD i ByteArray.empty).size ≤ maxLen

set_option maxRecDepth 100000 in
set_option maxHeartbeats 4000000 in
theorem assBytes_any (Q : Nat → Prop) (x : Value) (xs : List As) (w : World) (hQ : ∀ k, Q k → k < w.heap.size) (hx : Ass Q w x xs) (hf : ∀ (i : Nat) a, xs[i]? = some a → AsFit a) (hl : xs.length ≤ 65536) :
    Calls Try.prog 12 #[x] w fun e w' => Kq (· < w.heap.size) w w' ∧ Num (xs.length ≤ 16384 ∧ ∀ (i : Nat) a, xs[i]? = some a → a.devs.length ≤ 65536) e := by
  obtain ⟨ax, cx, rfl, hlx, hmx, hnil, hcx⟩ := hx
  obtain ⟨N, hN⟩ : ∃ N, N = xs.length := ⟨_, rfl⟩
  have HN : Hid (N = xs.length) := hN
  have HC : Hid (0 < xs.length → ∃ b off, ax = some ⟨b, off, none⟩ ∧ Q b ∧ ∀ (i : Nat) a, xs[i]? = some a → ∃ dv, AsAt Q w b (off + i * 5) a dv) := hcx
  have HQ : Hid (∀ k, Q k → k < w.heap.size) := hQ
  have HF : Hid (∀ (i : Nat) a, xs[i]? = some a → AsFit a) := hf
  rw [← hN] at hlx hl ⊢
  unfold maxLen at hmx
  clear hcx hN hnil hQ hf
  go_enter Try.func12, Try.ntmps12
  go_wp2_with fail
  go_loopw [3, 4] (fun t p x => ∃ (k s : Nat), k ≤ N ∧ p = .int .i64 k ∧ t = .int .i64 s ∧ Kq (· < w.heap.size) w x ∧ s ≤ 1048576 ∧ 64 * k ≤ s ∧ (∀ (i : Nat) a, i < k → xs[i]? = some a → a.devs.length ≤ 65536)) (fun _ p _ => N - (intOf p).toNat)
  case atStart => exact ⟨0, 0, Nat.zero_le _, rfl, rfl, Kq.refl _ _, by omega, by omega, fun i a hi => by omega⟩
  case round =>
    obtain ⟨k, s, hk, rfl, rfl, hkq, hs, hks, hlo⟩ := hrel
    have HK : Hid (Kq (· < w.heap.size) w wr ∧ ∀ (i : Nat) a, i < k → xs[i]? = some a → a.devs.length ≤ 65536) := ⟨hkq, hlo⟩
    clear hkq hlo
    by_cases hlt : k < N
    · have hlt' : (k : Int) < (N : Int) := by omega
      obtain ⟨b, off, hab, hbQ, hcs⟩ := HC.out (by have := HN.out; omega)
      obtain ⟨a, hak⟩ : ∃ a, xs[k]? = some a := ⟨_, List.getElem?_eq_getElem (by have := HN.out; omega)⟩
      obtain ⟨dv, hdv⟩ := hcs k a hak
      have hat := hdv.kq (HK.out.1.mono HQ.out) (fun _ h => h) hbQ
      obtain ⟨fn, fm, fc, fr, fd, fs⟩ := HF.out k a hak
      subst hab
      obtain ⟨e0, e1, e2, e3, e4, hrd⟩ := id hat
      obtain ⟨da, dc, hdf, hd1, hd2, _, hd4⟩ := hrd
      rw [List.length_map] at hdf hd1 hd4
      have HA : Hid (xs[k]? = some a) := hak
      clear hdv hat hcs hak
      subst hdf
      obtain ⟨ns, nm, ct, rs, devs⟩ := a
      simp only at e0 e1 e2 e3 e4 fn fm fc fr fd fs hd1 hd4
      have HS : Hid (∀ i, i < devs.length → (devs.getD i ByteArray.empty).size ≤ maxLen) := fs
      obtain ⟨M, hM⟩ : ∃ M, M = devs.length := ⟨_, rfl⟩
      have HM : Hid (M = devs.length) := hM
      have HDC : Hid (0 < M → ∃ b off, da = some ⟨b, off, none⟩ ∧ Q b ∧ ∀ i, i < M → wr.cell? ⟨b, off + i, none⟩ = some (.string (devs.getD i ByteArray.empty))) := by
        intro h0
        obtain ⟨b, off, ha, hb, hc⟩ := hd4 (by omega)
        exact ⟨b, off, ha, hb, fun i hi => hc i _ (map_getD_string _ _ (by omega))⟩
      have HKA : Hid (Kq (· < wr.heap.size) wr (wr.alloc (.cells #[.string ns, .string nm, .string ct, .string rs, .slice da devs.length dc] 38)) ∧ Kq (· < w.heap.size) w (wr.alloc (.cells #[.string ns, .string nm, .string ct, .string rs, .slice da devs.length dc] 38))) := by
        have h1 : Kq (· < wr.heap.size) wr (wr.alloc (.cells #[.string ns, .string nm, .string ct, .string rs, .slice da devs.length dc] 38)) := (Kq.refl _ _).alloc (fun _ h => h) _
        exact ⟨h1, HK.out.1.trans (h1.mono (fun j hj => by have := HK.out.1.size; omega))⟩
      rw [← hM] at e4 fd hd1 HKA
      unfold maxLen at fn fm fc fr fd hd2
      clear fs hd4 hM
      by_cases h1 : 1048576 < ns.size
      · go_wp2_with fail
        go_ret
        exact ⟨HKA.out.2, Num.big rfl⟩
      by_cases h2 : 1048576 < nm.size
      · go_wp2_with fail
        go_ret
        exact ⟨HKA.out.2, Num.big rfl⟩
      by_cases h3 : 1048576 < ct.size
      · go_wp2_with fail
        go_ret
        exact ⟨HKA.out.2, Num.big rfl⟩
      by_cases h4 : 1048576 < rs.size
      · go_wp2_with fail
        go_ret
        exact ⟨HKA.out.2, Num.big rfl⟩
      by_cases h5 : 1048576 < M
      · go_wp2_with fail
        go_ret
        exact ⟨HKA.out.2, Num.big rfl⟩
      by_cases h6 : 1048576 < s + (64 + ns.size + nm.size + ct.size + rs.size + 16 * M)
      · go_wp2_with fail
        go_ret
        exact ⟨HKA.out.2, Num.big rfl⟩
      obtain ⟨T, hT⟩ : ∃ T, T = s + (64 + ns.size + nm.size + ct.size + rs.size + 16 * M) := ⟨_, rfl⟩
      have HT : Hid (T = s + (64 + ns.size + nm.size + ct.size + rs.size + 16 * M)) := hT
      have HM2 : Hid (M ≤ 65536) := by show _ ≤ _; omega
      clear hT
      go_wp2_with fail
      obtain ⟨W, hW⟩ : ∃ W, W = wr.alloc (.cells #[.string ns, .string nm, .string ct, .string rs, .slice da M dc] 38) := ⟨_, rfl⟩
      have t4 := cell_in (heap_alloc_new wr (.cells #[.string ns, .string nm, .string ct, .string rs, .slice da M dc] 38)) (k := 4) rfl
      rw [← hW] at t4 HKA ⊢
      clear hW
      go_loop [3, 6] (fun t p => ∃ (j s2 : Nat), j ≤ M ∧ p = .int .i64 j ∧ t = .int .i64 s2 ∧ s2 ≤ 1048576 ∧ 64 * (k + 1) ≤ s2) (fun _ p => M - (intOf p).toNat)
      case atStart => exact ⟨0, T, Nat.zero_le _, rfl, by rw [HT.out]; go_num, by rw [HT.out]; omega, by rw [HT.out]; omega⟩
      case round =>
        obtain ⟨j, s2, hj, rfl, rfl, hs2, hks2⟩ := hrel
        clear h1 h2 h3 h4 h5 h6 fn fm fc fr
        by_cases hlt2 : j < M
        · have hlt2' : (j : Int) < (M : Int) := by omega
          obtain ⟨b2, off2, rfl, hb2, hcs2⟩ := HDC.out (by omega)
          have c1 := (HKA.out.1.cell (p := ⟨b2, off2 + j, none⟩) (World.block_lt_of_cell? _ _ (hcs2 j hlt2))).trans (hcs2 j hlt2)
          have hiz := HS.out j (by rw [← HM.out]; exact hlt2)
          obtain ⟨u, hu⟩ : ∃ u, u = devs.getD j ByteArray.empty := ⟨_, rfl⟩
          rw [← hu] at c1 hiz
          unfold maxLen at hiz
          clear hcs2 hu
          by_cases hb1 : 1048576 < u.size
          · go_wp2_with fail
            go_ret
            exact ⟨HKA.out.2, Num.big rfl⟩
          by_cases hb2 : 1048576 < s2 + u.size
          · go_wp2_with fail
            go_ret
            exact ⟨HKA.out.2, Num.big rfl⟩
          go_wp2_with fail
          go_round
          case rel => exact ⟨j + 1, s2 + u.size, by omega, by go_num, by go_num, by omega, by omega⟩
          case measure => simp [intOf]; omega
        · obtain rfl : j = M := by omega
          clear hlt2
          go_wp2_with fail
          go_roundw
          case rel =>
            refine ⟨k + 1, s2, by omega, by go_num, rfl, HKA.out.2, hs2, hks2, fun i a hi ha => ?_⟩
            by_cases e : i = k
            · rw [e, HA.out] at ha
              injection ha with ha
              rw [← ha]
              have := HM2.out; rw [HM.out] at this; exact this
            · exact HK.out.2 i a (by omega) ha
          case measure => simp [intOf]; omega
    · obtain rfl : k = N := by omega
      clear hlt
      go_wp2_with fail
      go_ret
      refine ⟨HK.out.1, s, rfl, by omega, fun _ => ⟨by omega, fun i a ha => HK.out.2 i a ?_ ha⟩⟩
      have := (List.getElem?_eq_some_iff.1 ha).1
      rw [HN.out]; exact this
end Go.Proofs.Qxb6609296a

import Derived.Test.Qxb6609296aTo
namespace Go.Proofs.Qxb6609296a
open Go.RowKit Srt

/-- A bool came back. -/
def AnyBool (e : Ending) : Prop := ∃ r, e = .returned (.bool r)
theorem AnyBool.is {e : Ending} {r : Bool} (h : e = .returned (.bool r)) : AnyBool e := ⟨r, h⟩
/-- A number came back, at most 1<<20 + 1; and if at most 1<<20, then P. -/
def Num (P : Prop) (e : Ending) : Prop := ∃ t : Nat, e = .returned (.int .i64 t) ∧ t ≤ 1048577 ∧ (t ≤ 1048576 → P)
theorem Num.big {P : Prop} {e : Ending} (h : e = .returned (.int .i64 1048577)) : Num P e := ⟨1048577, h, Nat.le_refl _, fun h => by omega⟩

def sumSz (L : List ByteArray) : Nat := (L.map ByteArray.size).sum
theorem sumSz_take {L : List ByteArray} {k : Nat} (h : k < L.length) : sumSz (L.take (k + 1)) = sumSz (L.take k) + (L.getD k ByteArray.empty).size := by
  rw [List.take_succ_eq_append_getElem h]
  simp only [sumSz, List.map_append, List.sum_append, List.map_cons, List.map_nil, List.sum_cons, List.sum_nil, Nat.add_zero]
  simp [h]
theorem sumSz_all (L : List ByteArray) : sumSz (L.take L.length) = sumSz L := by simp

set_option maxHeartbeats 2000000 in
theorem listBytes_any (Q : Nat → Prop) (res : ByteArray) (x : Value) (ids : List ByteArray) (an ag : Option Addr) (ln cn lg cg : Nat) (w : World) (hx : Rd Q w x (ids.map .string)) (hn : ln ≤ maxLen) (hg : lg ≤ maxLen) (hr : res.size ≤ maxLen) (hi : ∀ i, i < ids.length → (ids.getD i ByteArray.empty).size ≤ maxLen) :
    Calls Try.prog 13 #[.string res, x, .slice an ln cn, .slice ag lg cg] w fun e w' => w' = w ∧ Num (ids.length ≤ 65536 ∧ sumSz ids ≤ 1048576) e := by
  obtain ⟨ax, cx, rfl, hlx, hmx, hnil, hcx⟩ := hx
  rw [List.length_map] at hlx hcx ⊢
  obtain ⟨N, hN⟩ : ∃ N, N = ids.length := ⟨_, rfl⟩
  have HN : Hid (N = ids.length) := hN
  have HC : Hid (0 < N → ∃ b off, ax = some ⟨b, off, none⟩ ∧ Q b ∧ ∀ i, i < N → w.cell? ⟨b, off + i, none⟩ = some (.string (ids.getD i ByteArray.empty))) := by
    intro h0
    obtain ⟨b, off, ha, hb, hc⟩ := hcx (by omega)
    exact ⟨b, off, ha, hb, fun i hi => hc i _ (map_getD_string _ _ (by omega))⟩
  have HI : Hid (∀ i, i < ids.length → (ids.getD i ByteArray.empty).size ≤ maxLen) := hi
  rw [← hN] at hlx ⊢
  unfold maxLen at hn hg hr hmx
  clear hcx hN hnil hi
  obtain ⟨r, hrr⟩ : ∃ r, r = res.size := ⟨_, rfl⟩
  rw [← hrr] at hr
  by_cases h1 : 1048576 < r
  · rw [hrr] at h1 hr
    go_enter Try.func13, Try.ntmps13
    go_wp2_with fail
    go_ret
    exact ⟨rfl, Num.big rfl⟩
  by_cases h2 : 1048576 < N
  · rw [hrr] at h1 hr
    go_enter Try.func13, Try.ntmps13
    go_wp2_with fail
    go_ret
    exact ⟨rfl, Num.big rfl⟩
  by_cases h3 : 1048576 < ln
  · rw [hrr] at h1 hr
    go_enter Try.func13, Try.ntmps13
    go_wp2_with fail
    go_ret
    exact ⟨rfl, Num.big rfl⟩
  by_cases h4 : 1048576 < lg
  · rw [hrr] at h1 hr
    go_enter Try.func13, Try.ntmps13
    go_wp2_with fail
    go_ret
    exact ⟨rfl, Num.big rfl⟩
  by_cases h5 : 1048576 < r + 16 * N + 8 * ln + lg
  · rw [hrr] at h1 hr h5
    go_enter Try.func13, Try.ntmps13
    go_wp2_with fail
    go_ret
    exact ⟨rfl, Num.big rfl⟩
  have HT : Hid (16 * N ≤ r + 16 * N + 8 * ln + lg) := by show _ ≤ _; omega
  obtain ⟨T, hT⟩ : ∃ T, T = r + 16 * N + 8 * ln + lg := ⟨_, rfl⟩
  have HT2 : Hid (T = r + 16 * N + 8 * ln + lg) := hT
  rw [hrr] at h1 hr h5
  go_enter Try.func13, Try.ntmps13
  go_wp2_with fail
  go_loop [9, 10] (fun t i => ∃ k s : Nat, k ≤ N ∧ i = .int .i64 k ∧ t = .int .i64 (s : Nat) ∧ s ≤ 1048576 ∧ 16 * N + sumSz (ids.take k) ≤ s) (fun _ i => N - (intOf i).toNat)
  case atStart => exact ⟨0, T, Nat.zero_le _, rfl, by rw [HT2.out, hrr]; go_num, by omega, by simp [sumSz]; omega⟩
  case round =>
    obtain ⟨k, s, hk, rfl, rfl, hle, hsum⟩ := hrel
    have HS : Hid (16 * N + sumSz (ids.take k) ≤ s) := hsum
    clear hsum
    by_cases hlt : k < N
    · have hlt' : (k : Int) < (N : Int) := by omega
      obtain ⟨b, off, rfl, hbQ, hcs⟩ := HC.out (by omega)
      have c1 := hcs k hlt
      have hiz := HI.out k (by rw [← HN.out]; exact hlt)
      obtain ⟨u, hu⟩ : ∃ u, u = ids.getD k ByteArray.empty := ⟨_, rfl⟩
      rw [← hu] at c1 hiz
      have HU : Hid (u = ids.getD k ByteArray.empty) := hu
      unfold maxLen at hiz
      clear hcs hu h1 h2 h3 h4 h5 hT
      by_cases hb1 : 1048576 < u.size
      · go_wp2_with fail
        go_ret
        exact ⟨rfl, Num.big rfl⟩
      by_cases hb2 : 1048576 < s + u.size
      · go_wp2_with fail
        go_ret
        exact ⟨rfl, Num.big rfl⟩
      go_wp2_with fail
      go_round
      case rel => exact ⟨k + 1, s + u.size, by omega, by go_num, by go_num, by omega, by have := HS.out; rw [sumSz_take (by rw [← HN.out]; exact hlt), ← HU.out]; omega⟩
      case measure => simp [intOf]; omega
    · obtain rfl : k = N := by omega
      clear hlt h1 h2 h3 h4 h5 hT
      go_wp2_with fail
      go_ret
      refine ⟨rfl, s, rfl, by omega, fun _ => ?_⟩
      have h7 := HS.out
      have h8 := HN.out
      rw [h8, sumSz_all] at h7
      exact ⟨by omega, by omega⟩
end Go.Proofs.Qxb6609296a

import Derived.Test.Qxb6609252aCmp
namespace Go.Proofs.Qxb6609252a
open Go.RowKit

/-- A bool came back. -/
def AnyBool (e : Ending) : Prop := ∃ r, e = .returned (.bool r)
theorem AnyBool.is {e : Ending} {r : Bool} (h : e = .returned (.bool r)) : AnyBool e := ⟨r, h⟩

def sumLen (L : List (List Int)) : Nat := (L.map List.length).sum
theorem sumLen_take {L : List (List Int)} {k : Nat} (h : k < L.length) : sumLen (L.take (k + 1)) = sumLen (L.take k) + (L.getD k []).length := by
  rw [List.take_succ_eq_append_getElem h]
  simp only [sumLen, List.map_append, List.sum_append, List.map_cons, List.map_nil, List.sum_cons, List.sum_nil, Nat.add_zero]
  simp [h]
theorem sumLen_all (L : List (List Int)) : sumLen (L.take L.length) = sumLen L := by simp

/-- What a walk reads of one row of a list of byte strings. -/
theorem Blobs.cells {Q : Nat → Prop} {w : World} {v : Value} {L : List (List Int)} (h : Blobs Q w v L) :
    ∃ (ao : Option Addr) (c : Nat), v = .slice ao L.length c ∧ L.length ≤ c ∧ c ≤ maxLen ∧ (ao = none → c = 0) ∧
      (0 < L.length → ∃ b off, ao = some ⟨b, off, none⟩ ∧ Q b ∧ ∀ i, i < L.length → ∃ (a : Option Addr) (ci : Nat), w.cell? ⟨b, off + i, none⟩ = some (.slice a (L.getD i []).length ci)) := by
  obtain ⟨ao, c, V, hv, hl, hm, hn, hc, hV⟩ := h.rows
  refine ⟨ao, c, hv, hl, hm, hn, fun hp => ?_⟩
  obtain ⟨b, off, ha, hb, hx⟩ := hc hp
  refine ⟨b, off, ha, hb, fun i hi => ?_⟩
  obtain ⟨a, ci, he, _⟩ := (hV i hi).bytes
  exact ⟨a, ci, by rw [← he]; exact hx i hi⟩

set_option maxHeartbeats 1000000 in
theorem blob_any (Q : Nat → Prop) (x : Value) (L : List (List Int)) (tot : Nat) (w : World) (hx : Blobs Q w x L) (ht : tot ≤ 1048576) :
    Calls Try.prog 11 #[x, .int .i64 tot] w fun e w' => w' = w ∧ (e = .returned (.tuple #[.int .i64 0, .bool false]) ∨
      (e = .returned (.tuple #[.int .i64 (tot + 24 * L.length + sumLen L : Nat), .bool true]) ∧ tot + 24 * L.length + sumLen L ≤ 1048576)) := by
  obtain ⟨ax, cx, rfl, hlx, hmx, _, hcx⟩ := hx.cells
  have hm : L.length ≤ 9223372036854775807 := by unfold maxLen at hmx; omega
  clear hlx hmx hx
  by_cases hbig : 65536 < L.length
  · have hb' : (65536 : Int) < (L.length : Int) := by omega
    go_enter Try.func11, Try.ntmps11
    go_wp2
    go_ret2
    exact ⟨rfl, .inl rfl⟩
  by_cases hbig2 : 1048576 < tot + 24 * L.length
  · have hb' : (1048576 : Int) < (tot : Int) + 24 * (L.length : Int) := by omega
    go_enter Try.func11, Try.ntmps11
    go_wp2
    go_ret2
    exact ⟨rfl, .inl rfl⟩
  go_enter Try.func11, Try.ntmps11
  go_wp2
  go_loop [1, 6] (fun t i => ∃ k : Nat, k ≤ L.length ∧ i = .int .i64 k ∧ t = .int .i64 (tot + 24 * L.length + sumLen (L.take k) : Nat) ∧ tot + 24 * L.length + sumLen (L.take k) ≤ 1048576) (fun _ i => L.length - (intOf i).toNat)
  case atStart => exact ⟨0, Nat.zero_le _, rfl, by simp [sumLen], by simp [sumLen]; omega⟩
  case round =>
    obtain ⟨k, hk, rfl, rfl, hle⟩ := hrel
    by_cases hlt : k < L.length
    · obtain ⟨b1, o1, rfl, _, h1⟩ := hcx (by omega)
      obtain ⟨a1, c1, g1⟩ := h1 k hlt
      have HS : Hid (sumLen (L.take (k + 1)) = sumLen (L.take k) + (L.getD k []).length) := sumLen_take hlt
      obtain ⟨n, hn⟩ : ∃ n, n = (L.getD k []).length := ⟨_, rfl⟩
      obtain ⟨s, hs⟩ : ∃ s, s = tot + 24 * L.length + sumLen (L.take k) := ⟨_, rfl⟩
      rw [← hn] at g1 HS
      rw [← hs] at hle ⊢
      have HSs : Hid (s = tot + 24 * L.length + sumLen (L.take k)) := hs
      clear h1 hcx hn hs
      by_cases hb1 : 1048576 < n
      · go_wp2
        go_ret2
        exact ⟨rfl, .inl rfl⟩
      by_cases hb2 : 1048576 < s + n
      · go_wp2
        go_ret2
        exact ⟨rfl, .inl rfl⟩
      go_wp2
      go_round
      case rel =>
        have e := HS.out
        have e2 := HSs.out
        exact ⟨k + 1, by omega, by go_num, by rw [e, ← Nat.add_assoc, ← e2]; go_num, by omega⟩
      case measure => simp [intOf]; omega
    · obtain rfl : k = L.length := by omega
      rw [sumLen_all] at *
      go_wp2
      go_ret2
      exact ⟨rfl, .inr rfl⟩

set_option maxHeartbeats 1000000 in
theorem zz_frames (Q : Nat → Prop) (p x : Value) (bs : List Int) (L : List (List Int)) (w : World) (hp : Rd Q w p (U8 bs)) (hx : Blobs Q w x L) :
    Calls Try.prog 10 #[p, x] w fun e w' => w' = w ∧ AnyBool e := by
  obtain ⟨ap, cp, rfl, hlp, hmp, _, _⟩ := hp.bytes
  obtain ⟨ax, cx, rfl, hlx, hmx, _, hcx⟩ := hx.cells
  have hm : L.length ≤ 9223372036854775807 := by unfold maxLen at hmx; omega
  have hm2 : bs.length ≤ 9223372036854775807 := by unfold maxLen at hmp; omega
  clear hlx hmx hx hlp hmp hp
  by_cases h1 : 1048576 < bs.length
  · go_enter Try.func10, Try.ntmps10
    go_wp2
    go_ret
    exact ⟨rfl, AnyBool.is rfl⟩
  by_cases h2 : 1048576 < L.length
  · go_enter Try.func10, Try.ntmps10
    go_wp2
    go_ret
    exact ⟨rfl, AnyBool.is rfl⟩
  by_cases h3 : 1048576 < bs.length + L.length
  · go_enter Try.func10, Try.ntmps10
    go_wp2
    go_ret
    exact ⟨rfl, AnyBool.is rfl⟩
  go_enter Try.func10, Try.ntmps10
  go_wp2
  go_loop [5, 6] (fun t i => ∃ k s : Nat, k ≤ L.length ∧ i = .int .i64 k ∧ t = .int .i64 (s : Nat) ∧ s ≤ 1048576) (fun _ i => L.length - (intOf i).toNat)
  case atStart => exact ⟨0, bs.length + L.length, Nat.zero_le _, rfl, by go_num, by omega⟩
  case round =>
    obtain ⟨k, s, hk, rfl, rfl, hle⟩ := hrel
    by_cases hlt : k < L.length
    · obtain ⟨b1, o1, rfl, _, g⟩ := hcx (by omega)
      obtain ⟨a1, c1, g1⟩ := g k hlt
      obtain ⟨n, hn⟩ : ∃ n, n = (L.getD k []).length := ⟨_, rfl⟩
      rw [← hn] at g1
      clear g hcx hn
      by_cases hb1 : 1048576 < n
      · go_wp2
        go_ret
        exact ⟨rfl, AnyBool.is rfl⟩
      by_cases hb2 : 1048576 < s + n
      · go_wp2
        go_ret
        exact ⟨rfl, AnyBool.is rfl⟩
      go_wp2
      go_round
      case rel => exact ⟨k + 1, s + n, by omega, by go_num, by go_num, by omega⟩
      case measure => simp [intOf]; omega
    · go_wp2
      go_ret
      exact ⟨rfl, AnyBool.is rfl⟩

set_option maxHeartbeats 2000000 in
theorem zz_two (Q : Nat → Prop) (y x : Value) (M L : List (List Int)) (w : World) (hy : Blobs Q w y M) (hx : Blobs Q w x L) :
    Calls Try.prog 20 #[y, x] w fun e w' => w' = w ∧ AnyBool e := by
  obtain ⟨ay, cy, rfl, hly, hmy, _, hcy⟩ := hy.cells
  obtain ⟨ax, cx, rfl, hlx, hmx, _, hcx⟩ := hx.cells
  have hm : L.length ≤ 9223372036854775807 := by unfold maxLen at hmx; omega
  have hm2 : M.length ≤ 9223372036854775807 := by unfold maxLen at hmy; omega
  clear hlx hmx hx hly hmy hy
  by_cases h1 : 1048576 < M.length
  · go_enter Try.func20, Try.ntmps20
    go_wp2
    go_ret
    exact ⟨rfl, AnyBool.is rfl⟩
  go_enter Try.func20, Try.ntmps20
  go_wp2
  go_loop [5, 6] (fun t i => ∃ k s : Nat, k ≤ M.length ∧ i = .int .i64 k ∧ t = .int .i64 (s : Nat) ∧ s ≤ 1048576) (fun _ i => M.length - (intOf i).toNat)
  case atStart => exact ⟨0, M.length, Nat.zero_le _, rfl, by go_num, by omega⟩
  case round =>
    obtain ⟨k, s, hk, rfl, rfl, hle⟩ := hrel
    by_cases hlt : k < M.length
    · obtain ⟨b1, o1, rfl, _, g⟩ := hcy (by omega)
      obtain ⟨a1, c1, g1⟩ := g k hlt
      obtain ⟨n, hn⟩ : ∃ n, n = (M.getD k []).length := ⟨_, rfl⟩
      rw [← hn] at g1
      clear g hcy hn hcx
      by_cases hb1 : 1048576 < n
      · go_wp2
        go_ret
        exact ⟨rfl, AnyBool.is rfl⟩
      by_cases hb2 : 1048576 < s + n
      · go_wp2
        go_ret
        exact ⟨rfl, AnyBool.is rfl⟩
      go_wp2
      go_round
      case rel => exact ⟨k + 1, s + n, by omega, by go_num, by go_num, by omega⟩
      case measure => simp [intOf]; omega
    · by_cases h2 : 1048576 < L.length
      · go_wp2
        go_ret
        exact ⟨rfl, AnyBool.is rfl⟩
      by_cases h3 : 1048576 < s + L.length
      · go_wp2
        go_ret
        exact ⟨rfl, AnyBool.is rfl⟩
      go_wp2
      go_loop [5, 7] (fun t i => ∃ k s : Nat, k ≤ L.length ∧ i = .int .i64 k ∧ t = .int .i64 (s : Nat) ∧ s ≤ 1048576) (fun _ i => L.length - (intOf i).toNat)
      case atStart => exact ⟨0, s + L.length, Nat.zero_le _, rfl, by go_num, by omega⟩
      case round =>
        clear hk hlt hle h3 hcy
        obtain ⟨k, s, hk, rfl, rfl, hle⟩ := hrel
        by_cases hlt : k < L.length
        · obtain ⟨b1, o1, rfl, _, g⟩ := hcx (by omega)
          obtain ⟨a1, c1, g1⟩ := g k hlt
          obtain ⟨n, hn⟩ : ∃ n, n = (L.getD k []).length := ⟨_, rfl⟩
          rw [← hn] at g1
          clear g hcx hn
          by_cases hb1 : 1048576 < n
          · go_wp2
            go_ret
            exact ⟨rfl, AnyBool.is rfl⟩
          by_cases hb2 : 1048576 < s + n
          · go_wp2
            go_ret
            exact ⟨rfl, AnyBool.is rfl⟩
          go_wp2
          go_round
          case rel => exact ⟨k + 1, s + n, by omega, by go_num, by go_num, by omega⟩
          case measure => simp [intOf]; omega
        · go_wp2
          go_ret
          exact ⟨rfl, AnyBool.is rfl⟩
end Go.Proofs.Qxb6609252a

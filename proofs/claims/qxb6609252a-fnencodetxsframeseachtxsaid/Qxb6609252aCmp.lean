import Derived.Test.Qxb6609252aRows
import Derived.Test.Qxb6609252aMem
import Derived.Deep.QuietTactic
import Derived.BigQuiet
namespace Go.Proofs.Qxb6609252a
open Go.RowKit

abbrev U8 (bs : List Int) : List Value := bs.map (Value.int .u8)
theorem Rd.bytes {Q : Nat → Prop} {w : World} {v : Value} {bs : List Int} (h : Rd Q w v (U8 bs)) :
    ∃ ao c, v = .slice ao bs.length c ∧ bs.length ≤ c ∧ c ≤ maxLen ∧ (ao = none → c = 0) ∧
      (0 < bs.length → ∃ b off, ao = some ⟨b, off, none⟩ ∧ Q b ∧ ∀ i, i < bs.length → w.cell? ⟨b, off + i, none⟩ = some (.int .u8 (bs.getD i 0))) := by
  obtain ⟨ao, c, hv, hl, hm, hn, hc⟩ := h
  simp only [U8, List.length_map] at hv hl hc
  refine ⟨ao, c, hv, hl, hm, hn, fun hp => ?_⟩
  obtain ⟨b, off, ha, hb, hx⟩ := hc hp
  exact ⟨b, off, ha, hb, fun i hi => hx i _ (by simp [hi])⟩

set_option maxHeartbeats 400000 in
theorem cmp_eq (Q : Nat → Prop) (x y : Value) (bs : List Int) (w : World) (hx : Rd Q w x (U8 bs)) (hy : Rd Q w y (U8 bs)) :
    Calls Try.prog 9 #[x, y] w fun e w' => e = .returned (.int .i64 0) ∧ ∃ n, w' = w.drewN n := by
  obtain ⟨ax, cx, rfl, hlx, hmx, _, hcx⟩ := hx.bytes
  obtain ⟨ay, cy, rfl, hly, hmy, _, hcy⟩ := hy.bytes
  have hm : bs.length ≤ 9223372036854775807 := by unfold maxLen at hmx; omega
  clear hlx hly hmx hmy hx hy
  go_enter Try.func9, Try.ntmps9
  go_wp2
  go_loopw [6] (fun i wr => ∃ k nq : Nat, k ≤ bs.length ∧ i = .int .i64 k ∧ wr = w.drewN nq) (fun i _ => bs.length - (intOf i).toNat)
  case atStart => exact ⟨0, 0, Nat.zero_le _, rfl, rfl⟩
  case round =>
    obtain ⟨k, nq, hk, rfl, rfl⟩ := hrel
    by_cases hlt : k < bs.length
    · obtain ⟨b1, o1, rfl, _, h1⟩ := hcx (by omega)
      obtain ⟨b2, o2, rfl, _, h2⟩ := hcy (by omega)
      have g1 := h1 k hlt
      have g2 := h2 k hlt
      clear h1 h2 hcx hcy
      have hlt' : (k : Int) < (bs.length : Int) := by omega
      go_wp2
      go_quiet (fail)
      go_wp2
      go_quiet (fail)
      go_wp2
      go_roundw
      case rel => exact ⟨k + 1, _, by omega, by go_num, rfl⟩
      case measure => simp [intOf]; omega
    · go_wp2
      go_ret
      exact ⟨rfl, nq, rfl⟩

/-- The slice v is a list of byte strings. -/
def Blobs (Q : Nat → Prop) (w : World) (v : Value) (L : List (List Int)) : Prop :=
  ∃ V : Nat → Value, Rd Q w v ((List.range L.length).map V) ∧ ∀ i, i < L.length → Rd Q w (V i) (U8 (L.getD i []))

theorem Blobs.rows {Q : Nat → Prop} {w : World} {v : Value} {L : List (List Int)} (h : Blobs Q w v L) :
    ∃ (ao : Option Addr) (c : Nat) (V : Nat → Value), v = .slice ao L.length c ∧ L.length ≤ c ∧ c ≤ maxLen ∧ (ao = none → c = 0) ∧
      (0 < L.length → ∃ b off, ao = some ⟨b, off, none⟩ ∧ Q b ∧ ∀ i, i < L.length → w.cell? ⟨b, off + i, none⟩ = some (V i)) ∧ ∀ i, i < L.length → Rd Q w (V i) (U8 (L.getD i [])) := by
  obtain ⟨V, ⟨ao, c, hv, hl, hm, hn, hc⟩, hV⟩ := h
  simp only [List.length_map, List.length_range] at hv hl hc
  refine ⟨ao, c, V, hv, hl, hm, hn, fun hp => ?_, hV⟩
  obtain ⟨b, off, ha, hb, hx⟩ := hc hp
  exact ⟨b, off, ha, hb, fun i hi => hx i _ (by simp [hi])⟩

theorem Blobs.kq {Q : Nat → Prop} {w w' : World} {v : Value} {L : List (List Int)} (h : Blobs Q w v L) (k : Kq Q w w') : Blobs Q w' v L := by
  obtain ⟨V, h1, h2⟩ := h
  exact ⟨V, h1.kq k, fun i hi => (h2 i hi).kq k⟩

set_option maxHeartbeats 400000 in
theorem same_eq (Q : Nat → Prop) (x y : Value) (L : List (List Int)) (w : World) (hx : Blobs Q w x L) (hy : Blobs Q w y L) :
    Calls Try.prog 19 #[x, y] w fun e w' => e = .returned (.bool true) ∧ ∃ n, w' = w.drewN n := by
  obtain ⟨ax, cx, V, rfl, hlx, hmx, _, hcx, hV⟩ := hx.rows
  obtain ⟨ay, cy, U, rfl, hly, hmy, _, hcy, hU⟩ := hy.rows
  have hm : L.length ≤ 9223372036854775807 := by unfold maxLen at hmx; omega
  clear hlx hly hmx hmy hx hy
  go_enter Try.func19, Try.ntmps19
  go_wp2
  go_loopw [5] (fun i wr => ∃ k nq : Nat, k ≤ L.length ∧ i = .int .i64 k ∧ wr = w.drewN nq) (fun i _ => L.length - (intOf i).toNat)
  case atStart => exact ⟨0, 0, Nat.zero_le _, rfl, rfl⟩
  case round =>
    obtain ⟨k, nq, hk, rfl, hwr⟩ := hrel
    have HW : Hid (wr = w.drewN nq) := hwr
    have hkq : Kq Q w wr := by rw [hwr]; exact (Kq.refl _ _).drewN nq
    clear hwr
    by_cases hlt : k < L.length
    · obtain ⟨b1, o1, rfl, _, h1⟩ := hcx (by omega)
      obtain ⟨b2, o2, rfl, _, h2⟩ := hcy (by omega)
      have g1 : wr.cell? ⟨b1, o1 + k, none⟩ = some (V k) := (hkq.cell (p := ⟨b1, o1 + k, none⟩) ‹Q b1›).trans (h1 k hlt)
      have g2 : wr.cell? ⟨b2, o2 + k, none⟩ = some (U k) := (hkq.cell (p := ⟨b2, o2 + k, none⟩) ‹Q b2›).trans (h2 k hlt)
      have r1 := (hV k hlt).kq hkq
      have r2 := (hU k hlt).kq hkq
      clear h1 h2 hcx hcy hV hU hkq
      have hlt' : (k : Int) < (L.length : Int) := by omega
      go_wp2
      go_quiet ((go_at_call 9; refine Calls.quiet_of (cmp_eq Q _ _ (L.getD k []) _ ?_ ?_); exact r1.kq ((Kq.refl _ _).drewN _); exact r2.kq ((Kq.refl _ _).drewN _)))
      go_wp2
      go_roundw
      case rel => exact ⟨k + 1, _, by omega, by go_num, by rw [HW.out, World.drewN_drewN]⟩
      case measure => simp [intOf]; omega
    · go_wp2
      go_ret
      exact ⟨rfl, nq, HW.out⟩
end Go.Proofs.Qxb6609252a

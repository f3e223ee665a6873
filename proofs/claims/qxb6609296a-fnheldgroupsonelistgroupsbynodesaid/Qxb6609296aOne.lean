import Derived.Test.Qxb6609296aGroups
namespace Go.Proofs.Qxb6609296a
open Go.RowKit Srt

set_option maxHeartbeats 1000000 in
theorem oneList_any (Q : Nat → Prop) (d : Dl) (res : ByteArray) (av : Value) (xs : List As) (w : World) (hQ : ∀ k, Q k → k < w.heap.size) (hd : d.At Q w) (ha : Ass Q w av xs)
    (hne : ∀ (i : Nat) a, xs[i]? = some a → a.rs = res → 0 < a.devs.length) (hb : ∀ (i : Nat) a, xs[i]? = some a → a.devs.length ≤ 1048576) (hn : xs.length ≤ 16384) (hv : d.v ≤ 4096) :
    Calls Try.prog 16 #[av, .string res, .pointer (some ⟨d.L, 0, none⟩)] w fun e w' => ∃ (Q' : Nat → Prop) (r : Value) (gs : List Gv), e = .returned r ∧ (∀ k, Q k → Q' k) ∧ (∀ k, Q' k → k < w'.heap.size) ∧ OwnG Q' w' r gs ∧ Kq Q w w' ∧ GsOk Q' w' d.vals gs (wantAll d.dk d.v res xs) := by
  have hmm := @run_makeMap Try.prog
  obtain ⟨W, hW⟩ : ∃ W : World, W = { w.alloc (.map #[] 0) with heap := (w.alloc (.map #[] 0)).heap.setIfInBounds w.heap.size (.map #[{ key := .string res, val := .pointer (some ⟨d.L, 0, none⟩), born := 0 }] (0 + 1)) } := ⟨_, rfl⟩
  have hins := run_mapUpdate_first (P := Try.prog) (w.alloc (.map #[] 0)) 62 9 46 w.heap.size 0 res (.pointer (some ⟨d.L, 0, none⟩)) Try.underlying62 Try.underlying9 (heap_alloc_new _ _)
  rw [← hW] at hins
  have hkq : Kq Q w W := by
    rw [hW]
    refine ⟨rfl, rfl, rfl, by simp, fun k hk => ?_⟩
    have hk' := hQ k hk
    show (Array.setIfInBounds _ _ _)[k]? = _
    rw [Array.getElem?_setIfInBounds_ne (by omega)]
    exact Below.heap_alloc _ _ _ hk'
  have hmap : MapAt W w.heap.size res (.pointer (some ⟨d.L, 0, none⟩)) := by
    refine ⟨0, 0 + 1, ?_⟩
    rw [hW]
    show (Array.setIfInBounds _ _ _)[w.heap.size]? = _
    rw [Array.getElem?_setIfInBounds_self_of_lt (by simp)]
  have hsz : w.heap.size < W.heap.size := by rw [hW]; simp
  have HC : Hid (Calls Try.prog 24 #[av, .map (some w.heap.size)] W fun e w' => ∃ (Q' : Nat → Prop) (r : Value) (gs : List Gv), e = .returned r ∧ (∀ k, Q k → Q' k) ∧ (∀ k, Q' k → k < w'.heap.size) ∧ OwnG Q' w' r gs ∧ Kq Q w w' ∧ GsOk Q' w' d.vals gs (wantAll d.dk d.v res xs)) := by
    refine (groups_any (fun k => Q k ∨ k = w.heap.size) d w.heap.size res av xs W (fun k hk => ?_) ((hd.kq hkq).mono (fun _ h => .inl h)) hmap (.inr rfl) ((ha.kq hkq).mono (fun _ _ h => .inl h)) hne hb hn hv).mono ?_
    · rcases hk with hk | hk
      · have := hQ k hk; omega
      · omega
    · rintro e w' ⟨Q', r, gs, rfl, h1, h2, h3, h4, h5⟩
      exact ⟨Q', r, gs, rfl, fun k hk => h1 k (.inl hk), h2, h3, hkq.trans (h4.mono (fun _ h => .inl h)), h5⟩
  clear hkq hmap hsz hW hQ hd ha hne hb
  go_enter Try.func16, Try.ntmps16
  go_wp2_with fail
  refine HC.out.mono ?_
  rintro e w1 ⟨Q', r, gs, rfl, h1, h2, h3, h4, h5⟩
  have HZ : Hid ((∀ k, Q k → Q' k) ∧ (∀ k, Q' k → k < w1.heap.size) ∧ OwnG Q' w1 r gs ∧ Kq Q w w1 ∧ GsOk Q' w1 d.vals gs (wantAll d.dk d.v res xs)) := ⟨h1, h2, h3, h4, h5⟩
  clear h1 h2 h3 h4 h5 HC
  go_wp2_with fail
  go_ret
  exact ⟨Q', r, gs, rfl, HZ.out⟩
end Go.Proofs.Qxb6609296a

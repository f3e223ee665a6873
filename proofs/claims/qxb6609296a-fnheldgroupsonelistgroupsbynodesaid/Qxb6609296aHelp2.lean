import Derived.Test.Qxb6609296aHelp
namespace Go.Proofs.Qxb6609296a
open Go.RowKit Srt

set_option maxHeartbeats 1000000 in
theorem sameStrings_any (Q Q' : Nat → Prop) (x y : Value) (l : List ByteArray) (w : World) (hx : Rd Q w x (l.map .string)) (hy : Rd Q' w y (l.map .string)) (hl : l.length ≤ 1048576) :
    Calls Try.prog 20 #[x, y] w fun e w' => e = .returned (.bool true) ∧ ∃ m, w' = w.drewN m := by
  obtain ⟨ax, cx, rfl, hlx, hmx, _, hcx⟩ := hx
  obtain ⟨ay, cy, rfl, hly, hmy, _, hcy⟩ := hy
  rw [List.length_map] at *
  obtain ⟨N, hN⟩ : ∃ N, N = l.length := ⟨_, rfl⟩
  have HC : Hid (0 < N → ∃ b off b' off', ax = some ⟨b, off, none⟩ ∧ ay = some ⟨b', off', none⟩ ∧ ∀ i, i < N → w.cell? ⟨b, off + i, none⟩ = some (.string (l.getD i ByteArray.empty)) ∧ w.cell? ⟨b', off' + i, none⟩ = some (.string (l.getD i ByteArray.empty))) := by
    intro h0
    obtain ⟨b, off, ha, hb, hc⟩ := hcx (by omega)
    obtain ⟨b', off', ha', hb', hc'⟩ := hcy (by omega)
    exact ⟨b, off, b', off', ha, ha', fun i hi => ⟨hc i _ (map_getD_string _ _ (by omega)), hc' i _ (map_getD_string _ _ (by omega))⟩⟩
  rw [← hN] at hlx hly hl ⊢
  clear hcx hcy hN
  go_enter Try.func20, Try.ntmps20
  go_wp2_with fail
  go_loopw [5] (fun p x => ∃ k m : Nat, k ≤ N ∧ p = .int .i64 k ∧ x = w.drewN m) (fun p _ => N - (intOf p).toNat)
  case atStart => exact ⟨0, 0, Nat.zero_le _, rfl, rfl⟩
  case round =>
    obtain ⟨k, m, hk, rfl, hx⟩ := hrel
    have HX : Hid (wr = w.drewN m) := hx
    by_cases hlt : k < N
    · have hlt' : (k : Int) < (N : Int) := by omega
      obtain ⟨b, off, b', off', rfl, rfl, hcs⟩ := HC.out (by omega)
      have c1 : wr.cell? ⟨b, off + k, none⟩ = some (.string (l.getD k ByteArray.empty)) := by rw [hx]; exact (hcs k hlt).1
      have c2 : wr.cell? ⟨b', off' + k, none⟩ = some (.string (l.getD k ByteArray.empty)) := by rw [hx]; exact (hcs k hlt).2
      obtain ⟨s, hs⟩ : ∃ s, s = l.getD k ByteArray.empty := ⟨_, rfl⟩
      rw [← hs] at c1 c2
      have hbe := ba_same s
      have hbn : (s != s) = false := by simp [bne, hbe]
      clear hcs hs hx
      go_wp2_with fail
      go_quiet (fail)
      go_wp2_with fail
      go_roundw
      case rel => exact ⟨k + 1, m + nq, by omega, by go_num, by rw [HX.out, World.drewN_drewN]⟩
      case measure => simp [intOf]; omega
    · obtain rfl : k = N := by omega
      clear hlt hx
      go_wp2_with fail
      go_ret
      exact ⟨rfl, m, HX.out⟩

set_option maxHeartbeats 1000000 in
theorem sameHeader_any (ns nm ct rs : ByteArray) (nv iv dv : Value) (_hn : nv.oneCell' = true) (_hi : iv.oneCell' = true) (_hd : dv.oneCell' = true) (w : World) :
    Calls Try.prog 19 #[.agg #[.string ns, .string nm, .string ct, .string rs, nv, iv], .agg #[.string ns, .string nm, .string ct, .string rs, dv]] w fun e w' => e = .returned (.bool true) ∧ Kq (· < w.heap.size) w w' := by
  have h1 := ba_same ns
  have h2 := ba_same nm
  have h3 := ba_same ct
  have h4 := ba_same rs
  go_enter Try.func19, Try.ntmps19
  go_wp2_with fail
  go_ret
  exact ⟨rfl, ((Kq.refl _ _).alloc (fun _ h => h) _).alloc (fun k hk => by simp; omega) _⟩

theorem alloc2_fst (w : World) (o p : Obj) : ((w.alloc o).alloc p).heap[w.heap.size]? = some o := by
  rw [Below.heap_alloc _ _ _ (by simp), heap_alloc_new]
theorem alloc2_snd (w : World) (o p : Obj) : ((w.alloc o).alloc p).heap[w.heap.size + 1]? = some p := heap_alloc_at _ _ (by simp)
theorem alloc3_fst (w : World) (o p q : Obj) : (((w.alloc o).alloc p).alloc q).heap[w.heap.size]? = some o := by
  rw [Below.heap_alloc _ _ _ (by simp; omega), alloc2_fst]
theorem alloc3_snd (w : World) (o p q : Obj) : (((w.alloc o).alloc p).alloc q).heap[w.heap.size + 1]? = some p := by
  rw [Below.heap_alloc _ _ _ (by simp), alloc2_snd]
theorem alloc3_thd (w : World) (o p q : Obj) : (((w.alloc o).alloc p).alloc q).heap[w.heap.size + 2]? = some q := heap_alloc_at _ _ (by simp)
theorem cell_in {w : World} {b k : Nat} {cs : Array Value} {t : TypeId} {f : Nat × Nat} {u : Value} (h : w.heap[b]? = some (.cells cs t f)) (hu : cs[k]? = some u) : w.cell? ⟨b, k, none⟩ = some u := by rw [cell_of_row w b k cs t f h, hu]

set_option maxHeartbeats 1000000 in
theorem noNodes_any (cat : ByteArray) (ae ar : Option Addr) (le ce lr cr : Nat) (w : World) :
    Calls Try.prog 17 #[.string cat, .slice ae le ce, .slice ar lr cr] w fun e w' => ∃ A L : Nat, e = .returned (.pointer (some ⟨L, 0, none⟩)) ∧ A = w.heap.size ∧ L = w.heap.size + 1 ∧ w'.heap.size = w.heap.size + 2 ∧ Kq (· < w.heap.size) w w' ∧
      w'.cell? ⟨A, 0, none⟩ = some (.string cat) ∧ w'.cell? ⟨A, 1, none⟩ = some (.slice ae le ce) ∧ w'.cell? ⟨A, 2, none⟩ = some (.slice ar lr cr) ∧ w'.cell? ⟨L, 0, none⟩ = some (.pointer (some ⟨A, 0, none⟩)) ∧ w'.cell? ⟨L, 1, none⟩ = some (.pointer none) := by
  go_enter Try.func17, Try.ntmps17
  go_wp2_with fail
  go_ret
  have h1 := alloc2_fst w (.cells #[.string cat, .slice ae le ce, .slice ar lr cr] 65) (.cells #[.pointer (some ⟨w.heap.size, 0, none⟩), .pointer none, .pointer none, .slice none 0 0, .int .i64 0] 71)
  have h2 := alloc2_snd w (.cells #[.string cat, .slice ae le ce, .slice ar lr cr] 65) (.cells #[.pointer (some ⟨w.heap.size, 0, none⟩), .pointer none, .pointer none, .slice none 0 0, .int .i64 0] 71)
  exact ⟨w.heap.size, w.heap.size + 1, rfl, rfl, rfl, by simp, ((Kq.refl _ _).alloc (fun _ h => h) _).alloc (fun k hk => by simp; omega) _, cell_in h1 rfl, cell_in h1 rfl, cell_in h1 rfl, cell_in h2 rfl, cell_in h2 rfl⟩

set_option maxHeartbeats 1000000 in
theorem withNodes_any (cat : ByteArray) (ae ar av as' af : Option Addr) (le ce lr cr lv cv' ls cs lf cf : Nat) (w : World) :
    Calls Try.prog 18 #[.string cat, .slice ae le ce, .slice ar lr cr, .slice av lv cv', .slice as' ls cs, .slice af lf cf] w fun e w' => ∃ A P L : Nat, e = .returned (.pointer (some ⟨L, 0, none⟩)) ∧ A = w.heap.size ∧ P = w.heap.size + 1 ∧ L = w.heap.size + 2 ∧ w'.heap.size = w.heap.size + 3 ∧ Kq (· < w.heap.size) w w' ∧
      w'.cell? ⟨A, 0, none⟩ = some (.string cat) ∧ w'.cell? ⟨A, 1, none⟩ = some (.slice ae le ce) ∧ w'.cell? ⟨A, 2, none⟩ = some (.slice ar lr cr) ∧ w'.cell? ⟨L, 0, none⟩ = some (.pointer (some ⟨A, 0, none⟩)) ∧ w'.cell? ⟨L, 1, none⟩ = some (.pointer (some ⟨P, 0, none⟩)) ∧
      w'.cell? ⟨P, 0, none⟩ = some (.slice av lv cv') ∧ w'.cell? ⟨P, 1, none⟩ = some (.slice as' ls cs) ∧ w'.cell? ⟨P, 2, none⟩ = some (.slice af lf cf) := by
  go_enter Try.func18, Try.ntmps18
  go_wp2_with fail
  go_ret
  have h1 := alloc3_fst w (.cells #[.string cat, .slice ae le ce, .slice ar lr cr] 65) (.cells #[.slice av lv cv', .slice as' ls cs, .slice af lf cf] 75) (.cells #[.pointer (some ⟨w.heap.size, 0, none⟩), .pointer (some ⟨w.heap.size + 1, 0, none⟩), .pointer none, .slice none 0 0, .int .i64 0] 71)
  have h2 := alloc3_snd w (.cells #[.string cat, .slice ae le ce, .slice ar lr cr] 65) (.cells #[.slice av lv cv', .slice as' ls cs, .slice af lf cf] 75) (.cells #[.pointer (some ⟨w.heap.size, 0, none⟩), .pointer (some ⟨w.heap.size + 1, 0, none⟩), .pointer none, .slice none 0 0, .int .i64 0] 71)
  have h3 := alloc3_thd w (.cells #[.string cat, .slice ae le ce, .slice ar lr cr] 65) (.cells #[.slice av lv cv', .slice as' ls cs, .slice af lf cf] 75) (.cells #[.pointer (some ⟨w.heap.size, 0, none⟩), .pointer (some ⟨w.heap.size + 1, 0, none⟩), .pointer none, .slice none 0 0, .int .i64 0] 71)
  exact ⟨w.heap.size, w.heap.size + 1, w.heap.size + 2, rfl, rfl, rfl, rfl, by simp, (((Kq.refl _ _).alloc (fun _ h => h) _).alloc (fun k hk => by simp; omega) _).alloc (fun k hk => by simp; omega) _, cell_in h1 rfl, cell_in h1 rfl, cell_in h1 rfl, cell_in h3 rfl, cell_in h3 rfl, cell_in h2 rfl, cell_in h2 rfl, cell_in h2 rfl⟩
end Go.Proofs.Qxb6609296a

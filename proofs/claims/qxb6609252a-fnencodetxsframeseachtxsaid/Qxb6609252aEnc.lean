import Derived.Test.Qxb6609252aClone
import Derived.Deep.RegionWith
namespace Go.Proofs.Qxb6609252a
open Go.RowKit

theorem Own.lt {Q : Nat → Prop} {e : TypeId} {w : World} {v : Value} {xs : List Value} (h : Own Q e w v xs) : ∀ k, v.ownBlock = some k → k < w.heap.size := fun k hk => (h.1.lt k hk).2
theorem Own.alloc {Q : Nat → Prop} {e : TypeId} {w : World} {v : Value} {xs : List Value} (h : Own Q e w v xs) (o : Obj) : Own Q e (w.alloc o) v xs := ⟨h.1.alloc o, h.2⟩

def be4 (n : Nat) : List Int := [(n : Int) / 16777216, (n : Int) / 65536 % 256, (n : Int) / 256 % 256, (n : Int) % 256]

theorem heap_alloc_at (w : World) (o : Obj) {k : Nat} (h : k = w.heap.size) : (w.alloc o).heap[k]? = some o := by subst h; exact heap_alloc_new w o

theorem U8_one (bs : List Int) : ∀ u ∈ U8 bs, u.oneCell' = true := by
  intro v hv; simp [U8] at hv; obtain ⟨_, _, rfl⟩ := hv; rfl

theorem Rd.block {Q : Nat → Prop} {w : World} {g : Nat} {xs : List Value} {t : TypeId} {f : Nat × Nat} {n : Nat} (h : w.heap[g]? = some (.cells xs.toArray t f)) (hm : xs.length ≤ maxLen) (hQ : Q g) (hn : xs.length = n) : Rd Q w (.slice (some ⟨g, 0, none⟩) n n) xs := by
  subst hn; exact Rd.row h hm hQ

/-- The value of an encoder's buffer has moved to its old block or to a new one. -/
def Moved (w : World) (v v' : Value) : Prop := v'.ownBlock = v.ownBlock ∨ ∃ k, v'.ownBlock = some k ∧ w.heap.size ≤ k

set_option maxHeartbeats 400000 in
theorem app32 (Q : Nat → Prop) (v : Value) (xs : List Int) (n : Nat) (w : World) (hQ : ∀ k, Q k → k < w.heap.size) (hown : Own Q 5 w v (U8 xs)) (hn : n < 4294967296) (hl : xs.length + 4 ≤ 1099511627776) :
    Calls Try.prog 30 #[.agg #[], v, .int .u32 n] w fun e w' => ∃ v', e = .returned v' ∧ Own Q 5 w' v' (U8 (xs ++ be4 n)) ∧ Kq Q w w' ∧ Moved w v v' := by
  obtain ⟨i0, hi, hz0, hz1, hz2⟩ := info_parts Try.info5
  have HN : Hid (n < 4294967296) := hn
  go_enter Try.func30, Try.ntmps30
  go_wp2_with (at_builtin; refine wpList_append_q _ rfl (.tmp 7) (.tmp 19) 23 rfl 5 i0 (.int .u8 0) 1 Try.underlying23 hi hz0 hz1 hz2 rfl Q ?hq v (U8 xs) rfl ((hown.alloc _).alloc _) (fun _ => True) _ (U8 (be4 n)) rfl ?hsrc (U8_one _) ?h63 ?hby ?_)
  case hq => intro k hk; have := hQ k hk; simp; omega
  case hsrc => exact Rd.block (t := 5) (f := (0, 0)) (heap_alloc_at _ _ (by simp)) (by simp [be4, maxLen]) trivial rfl
  case h63 => simp [be4, maxLen]; omega
  case hby => simp [be4]; omega
  intro v' w' hown' hkq hmv
  go_wp2
  go_ret
  have h0 : Kq Q w ((w.alloc (.cells #[] 68)).alloc (.cells (U8 (be4 n)).toArray 5)) := ((Kq.refl _ _).alloc hQ _).alloc (fun k hk => by have := hQ k hk; simp; omega) _
  refine ⟨_, rfl, by simpa [U8] using hown', h0.trans (by simpa [U8, be4] using hkq), ?_⟩
  rcases hmv with h | ⟨k, h, hk⟩
  · exact .inl h
  · exact .inr ⟨k, h, by omega⟩

theorem Own.form {Q : Nat → Prop} {e : TypeId} {w : World} {v : Value} {xs : List Value} (h : Own Q e w v xs) : ∃ a n c, v = .slice a n c := by
  rcases h.1.2 with ⟨hv, _⟩ | ⟨g, cap, cur, hv, _⟩
  · exact ⟨_, _, _, hv⟩
  · exact ⟨_, _, _, hv⟩
theorem Own.drew {Q : Nat → Prop} {e : TypeId} {w : World} {v : Value} {xs : List Value} (h : Own Q e w v xs) : Own Q e w.drew v xs := h
theorem Own.notOther {Q : Nat → Prop} {e t : TypeId} {w : World} {v : Value} {xs : List Value} {E : Nat} {cs : Array Value} {f : Nat × Nat} (h : Own Q e w v xs) (hE : w.heap[E]? = some (.cells cs t f)) (hne : e ≠ t) : v.ownBlock ≠ some E := by
  intro hb
  rcases h.1.2 with ⟨hv, _⟩ | ⟨g, cap, cur, hv, _, hg, _⟩
  · rw [hv] at hb; simp [Value.ownBlock] at hb
  · rw [hv] at hb
    simp only [Value.ownBlock, Option.some.injEq] at hb
    subst hb
    rw [hg] at hE
    simp only [Option.some.injEq, Obj.cells.injEq] at hE
    exact hne hE.2.1

/-- AN ENCODER AT BLOCK E whose buffer holds xs; the buffer lies apart from Q and from E. -/
def EncOk (Q : Nat → Prop) (w : World) (E : Nat) (xs : List Int) : Prop :=
  ∃ v, w.heap[E]? = some (.cells #[v] 42 (0, 0)) ∧ Own Q 5 w v (U8 xs) ∧ ¬ Q E ∧ ∀ k, Q k → k < w.heap.size

theorem EncOk.plus {Q : Nat → Prop} {w : World} {E : Nat} {v : Value} {xs : List Int} (hE : w.heap[E]? = some (.cells #[v] 42 (0, 0))) (hown : Own Q 5 w v (U8 xs)) (hQ : ∀ k, Q k → k < w.heap.size) :
    Own (fun k => Q k ∨ k = E) 5 w v (U8 xs) ∧ ∀ k, (Q k ∨ k = E) → k < w.heap.size := by
  have hne := hown.notOther hE (by decide)
  refine ⟨⟨hown.1, fun k hk hq => ?_⟩, fun k hq => ?_⟩
  · rcases hq with hq | rfl
    · exact hown.2 k hk hq
    · exact hne hk
  · rcases hq with hq | rfl
    · exact hQ k hq
    · exact (Array.getElem?_eq_some_iff.1 hE).1

/-- The encoder's cell behind the store of its new buffer. -/
theorem EncOk.stored {Q : Nat → Prop} {w w1 : World} {E : Nat} {v v' : Value} {xs : List Int} (hE : w.heap[E]? = some (.cells #[v] 42 (0, 0))) (hQE : ¬ Q E) (hQ : ∀ k, Q k → k < w.heap.size)
    (ho : Own (fun k => Q k ∨ k = E) 5 w1 v' (U8 xs)) (hk : Kq (fun k => Q k ∨ k = E) w w1) :
    w1.cell? ⟨E, 0, none⟩ = some v ∧ w1.frozen? ⟨E, 0, none⟩ = false ∧ EncOk Q (w1.setCell ⟨E, 0, none⟩ v') E xs ∧ Kq Q w (w1.setCell ⟨E, 0, none⟩ v') := by
  have hE1 : w1.heap[E]? = some (.cells [v].toArray 42 (0, 0)) := by rw [hk.block E (.inr rfl)]; exact hE
  refine ⟨cell_row hE1 (k := 0) (by simp), free_row hE1 0, ⟨v', ?_, ?_, hQE, fun k h => Nat.lt_of_lt_of_le (hQ k h) (Nat.le_trans hk.size (by simp [World.setCell]))⟩, (hk.mono (fun k h => .inl h)).setCell hQE v'⟩
  · simpa using set_row hE1 0 v'
  · refine Own.kq (R := fun k => k ≠ E) ⟨ho.1, fun k h hq => ho.2 k h (.inl hq)⟩ ((Kq.refl _ _).setCell (by simp) v') (fun k h e => ho.2 k h (.inr e))

set_option maxHeartbeats 1000000 in
theorem enc32 (Q : Nat → Prop) (E : Nat) (xs : List Int) (n : Nat) (w : World) (hok : EncOk Q w E xs) (hn : n < 4294967296) (hl : xs.length + 4 ≤ 1099511627776) :
    Calls Try.prog 25 #[.pointer (some ⟨E, 0, none⟩), .int .u32 n] w fun e w' => e = .returned (.tuple #[]) ∧ EncOk Q w' E (xs ++ be4 n) ∧ Kq Q w w' := by
  obtain ⟨v, hE, hown, hQE, hQ⟩ := hok
  have c0 : w.cell? ⟨E, 0, none⟩ = some v := by simp [World.cell?, hE]
  have HO : Hid _ := EncOk.plus hE hown hQ
  have HE : Hid (w.heap[E]? = some (.cells #[v] 42 (0, 0))) := hE
  have HQ : Hid (∀ k, Q k → k < w.heap.size) := hQ
  have HQE : Hid (¬ Q E) := hQE
  clear hE hown hQE hQ
  go_enter Try.func25, Try.ntmps25
  go_wp2
  go_region_with (go_at_call 30; refine (app32 (fun k => Q k ∨ k = E) v xs n w.drew HO.out.2 HO.out.1 hn hl).mono ?_; rintro e w1 ⟨v', rfl, ho, hk, _⟩; obtain ⟨q1, q2, q3, q4⟩ := EncOk.stored (w := w.drew) HE.out HQE.out HQ.out ho hk; have H3 := (show Hid _ from q3); have H4 := (show Hid _ from q4); obtain ⟨a', n', c', rfl⟩ := ho.form; clear q3 q4 ho hk)
  all_goals
    go_wp2
    go_end0
    exact ⟨rfl, H3.out, (Kq.refl Q w).drew.trans H4.out⟩

set_option maxHeartbeats 1000000 in
theorem fixed_any (Q Q' : Nat → Prop) (E : Nat) (xs bs : List Int) (b : Value) (w : World) (hok : EncOk Q w E xs) (hb : Rd Q' w b (U8 bs)) (hl : xs.length + bs.length ≤ 1099511627776) :
    Calls Try.prog 14 #[.pointer (some ⟨E, 0, none⟩), b] w fun e w' => e = .returned (.tuple #[]) ∧ EncOk Q w' E (xs ++ bs) ∧ Kq Q w w' := by
  obtain ⟨i0, hi, hz0, hz1, hz2⟩ := info_parts Try.info5
  obtain ⟨v, hE, hown, hQE, hQ⟩ := hok
  have c0 : w.cell? ⟨E, 0, none⟩ = some v := by simp [World.cell?, hE]
  have HO : Hid _ := EncOk.plus hE hown hQ
  have HE : Hid (w.heap[E]? = some (.cells #[v] 42 (0, 0))) := hE
  have HQ : Hid (∀ k, Q k → k < w.heap.size) := hQ
  have HQE : Hid (¬ Q E) := hQE
  have HB : Hid (Rd Q' w b (U8 bs)) := hb
  clear hE hown hQE hQ hb
  go_enter Try.func14, Try.ntmps14
  go_wp2_with (at_builtin; refine wpList_append_q _ rfl (.tmp 8) (.tmp 9) 23 rfl 5 i0 (.int .u8 0) 1 Try.underlying23 hi hz0 hz1 hz2 rfl (fun k => Q k ∨ k = E) HO.out.2 v (U8 xs) rfl HO.out.1 Q' b (U8 bs) rfl HB.out (U8_one _) ?h63 ?hby ?_)
  case h63 => simp [maxLen]; omega
  case hby => simp; omega
  intro v' w1 ho hk _
  obtain ⟨q1, q2, q3, q4⟩ := EncOk.stored (xs := xs ++ bs) HE.out HQE.out HQ.out (by simpa [U8] using ho) hk
  have H3 := (show Hid _ from q3)
  have H4 := (show Hid _ from q4)
  obtain ⟨a', n', c', rfl⟩ := ho.form
  clear q3 q4 ho hk
  go_wp2
  go_end0
  exact ⟨rfl, H3.out, H4.out⟩

set_option maxHeartbeats 1000000 in
theorem txBytes (T : Nat) (v : Value) (w : World) (hc : w.cell? ⟨T, 39, none⟩ = some v) :
    Calls Try.prog 27 #[.pointer (some ⟨T, 0, none⟩)] w fun e w' => e = .returned v ∧ w' = w := by
  go_enter Try.func27, Try.ntmps27
  go_wp2
  go_ret
  exact ⟨rfl, rfl⟩

theorem newTx (a : Option Addr) (n c : Nat) (w : World) :
    Calls Try.prog 15 #[.slice a n c] w fun e w' => e = .returned (.pointer (some ⟨w.heap.size, 0, none⟩)) ∧ Below w.heap.size w w' ∧ w'.heap.size = w.heap.size + 1 ∧ w'.cell? ⟨w.heap.size, 39, none⟩ = some (.slice a n c) := by
  go_enter Try.func15, Try.ntmps15
  go_wp2
  go_ret
  refine ⟨rfl, (Below.refl _ _).alloc (Nat.le_refl _) _, by simp, ?_⟩
  rw [cell_of_row _ _ _ _ _ _ (heap_alloc_new w _)]
  rfl

end Go.Proofs.Qxb6609252a

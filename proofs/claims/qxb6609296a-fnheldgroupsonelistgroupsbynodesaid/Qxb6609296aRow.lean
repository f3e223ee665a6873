import Derived.Test.Qxb6609296aGrp
import Derived.Test.Qxb6609296aGroupM
namespace Go.Proofs.Qxb6609296a
open Go.RowKit

def rowF (n : Nat) (f : Nat → Value) : List Value := (List.range n).map f
theorem rowF_len (n : Nat) (f : Nat → Value) : (rowF n f).length = n := by simp [rowF]
theorem rowF_get {n : Nat} {f : Nat → Value} {k : Nat} (h : k < n) : (rowF n f)[k]? = some (f k) := by simp [rowF, h]
theorem rowF_ext {n : Nat} {f g : Nat → Value} (h : ∀ k, k < n → f k = g k) : rowF n f = rowF n g := List.map_congr_left (fun k hk => h k (by simpa using hk))
theorem rowF_const (n : Nat) (z : Value) : Array.replicate n z = (rowF n fun _ => z).toArray := by
  apply Array.ext
  · simp [rowF]
  · intro i h1 h2; simp [rowF]
theorem rowF_succ (n : Nat) (f : Nat → Value) : rowF (n + 1) f = rowF n f ++ [f n] := by simp [rowF, List.range_succ]
theorem rowF_list (l : List Value) (d : Value) : rowF l.length (fun i => l.getD i d) = l := by
  apply List.ext_getElem?
  intro i
  by_cases hi : i < l.length
  · rw [rowF_get hi]; simp [hi]
  · simp [rowF, hi]

def upd (f : Nat → Value) (i : Nat) (u : Value) : Nat → Value := fun k => if k = i then u else f k
theorem upd_same (f : Nat → Value) (i : Nat) (u : Value) : upd f i u i = u := by simp [upd]
theorem upd_other {f : Nat → Value} {i k : Nat} {u : Value} (h : k ≠ i) : upd f i u k = f k := by simp [upd, h]

/-- A row of n cells of type e at block O; all else as in W. -/
structure Rw (W : World) (O : Nat) (e : TypeId) (n : Nat) (f : Nat → Value) (w : World) : Prop where
  row : w.heap[O]? = some (.cells (rowF n f).toArray e (0, 0))
  kq : Kq (fun k => k ≠ O ∧ k < W.heap.size) W w

theorem Rw.cell {W : World} {O : Nat} {e : TypeId} {n : Nat} {f : Nat → Value} {w : World} (h : Rw W O e n f w) {k : Nat} (hk : k < n) : w.cell? ⟨O, k, none⟩ = some (f k) := by
  rw [cell_of_row w O k _ e _ h.row]; simpa using rowF_get hk
theorem Rw.free {W : World} {O : Nat} {e : TypeId} {n : Nat} {f : Nat → Value} {w : World} (h : Rw W O e n f w) (k : Nat) : w.frozen? ⟨O, k, none⟩ = false := by simp [World.frozen?, h.row]
theorem Rw.drewN {W : World} {O : Nat} {e : TypeId} {n : Nat} {f : Nat → Value} {w : World} (h : Rw W O e n f w) (m : Nat) : Rw W O e n f (w.drewN m) := ⟨h.row, h.kq.drewN m⟩
theorem Rw.drew {W : World} {O : Nat} {e : TypeId} {n : Nat} {f : Nat → Value} {w : World} (h : Rw W O e n f w) : Rw W O e n f w.drew := ⟨h.row, h.kq.drew⟩
theorem Rw.lt {W : World} {O : Nat} {e : TypeId} {n : Nat} {f : Nat → Value} {w : World} (h : Rw W O e n f w) : O < w.heap.size := (Array.getElem?_eq_some_iff.1 h.row).1
theorem Rw.set {W : World} {O : Nat} {e : TypeId} {n : Nat} {f : Nat → Value} {w : World} (h : Rw W O e n f w) {i : Nat} {u : Value} : Rw W O e n (upd f i u) (w.setCell ⟨O, i, none⟩ u) := by
  refine ⟨?_, h.kq.setCell (by simp) _⟩
  show (w.heap.modify O _)[O]? = _
  rw [Array.getElem?_modify, if_pos rfl, h.row]
  simp only [Option.map_some, Option.isSome_none, Bool.false_eq_true, if_false, Option.some.injEq, Obj.cells.injEq, and_true]
  apply Array.ext
  · simp [rowF]
  · intro k h1 h2
    simp only [rowF, upd, List.setIfInBounds_toArray, List.getElem_toArray, List.getElem_map, List.getElem_range, List.getElem_set]
    split <;> split <;> first | rfl | omega
theorem Rw.ext {W : World} {O : Nat} {e : TypeId} {n : Nat} {f g : Nat → Value} {w : World} (h : Rw W O e n f w) (hg : ∀ k, k < n → f k = g k) : Rw W O e n g w := ⟨by rw [← rowF_ext hg]; exact h.row, h.kq⟩
theorem Rw.rd {W : World} {O : Nat} {e : TypeId} {n : Nat} {f : Nat → Value} {w : World} (h : Rw W O e n f w) (hn : n ≤ maxLen) {Q : Nat → Prop} (hQ : Q O) : Rd Q w (.slice (some ⟨O, 0, none⟩) n n) (rowF n f) := by
  refine ⟨_, n, by rw [rowF_len], by rw [rowF_len]; exact Nat.le_refl _, hn, (fun h => by cases h), fun _ => ⟨O, 0, rfl, hQ, fun i x hi => ?_⟩⟩
  have hi' : i < n := by have := (List.getElem?_eq_some_iff.1 hi).1; rwa [rowF_len] at this
  rw [rowF_get hi'] at hi
  injection hi with hi
  rw [← hi]
  simpa using h.cell hi'

theorem made_rowF (z : Value) (n : Nat) : madeCells #[z] n = (rowF n fun _ => z).toArray := by
  apply Array.ext
  · simp [rowF, madeCells]
  · intro i h1 h2; simp [rowF, madeCells, Nat.mod_one]
theorem Rw.made (w : World) (e : TypeId) (n : Nat) (z : Value) : Rw (w.alloc (.cells (madeCells #[z] n) e)) w.heap.size e n (fun _ => z) (w.alloc (.cells (madeCells #[z] n) e)) :=
  ⟨by rw [heap_alloc_new, made_rowF], Kq.refl _ _⟩
end Go.Proofs.Qxb6609296a

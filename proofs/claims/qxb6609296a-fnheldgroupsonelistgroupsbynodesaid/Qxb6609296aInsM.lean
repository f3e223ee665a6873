/-
  THE PLAIN THEORY OF AN INSERTION SORT THAT MOVES A HOLE: an element is taken out, those greater are shifted up by one, it is laid into the hole.
-/
import Derived.Test.Qxb6609296aSortM
namespace Go.Proofs.Qxb6609296a.Srt

structure Ord (lt : Nat → Nat → Prop) : Prop where
  asymm : ∀ x y, lt x y → ¬ lt y x
  trans : ∀ x y z, ¬ lt y x → ¬ lt z y → ¬ lt z x

def SortedTo (lt : Nat → Nat → Prop) (D : Nat → Nat) (i : Nat) : Prop := ∀ a b, a < b → b < i → ¬ lt (D b) (D a)

theorem ins_at {k i : Nat} (_hk : k ≤ i) (D : Nat → Nat) : rot k i (i + 1) D k = D i := by
  rw [rot2 D (Nat.le_refl _) (by omega)]; congr 1; omega
theorem ins_up {k i t : Nat} (h1 : k < t) (h2 : t ≤ i) (D : Nat → Nat) : rot k i (i + 1) D t = D (t - 1) := by
  rw [rot3 D (by omega) (by omega)]; congr 1; omega
theorem ins_low {k i t : Nat} (h1 : t < k) (D : Nat → Nat) : rot k i (i + 1) D t = D t := rot1 D h1
theorem ins_high {k i t : Nat} (hk : k ≤ i) (h1 : i < t) (D : Nat → Nat) : rot k i (i + 1) D t = D t := rot4 D hk (by omega) (by omega)

theorem ins_sorted {lt : Nat → Nat → Prop} (o : Ord lt) {D : Nat → Nat} {i k : Nat} (h : SortedTo lt D i) (hk : k ≤ i) (hgt : ∀ t, k ≤ t → t < i → lt (D i) (D t)) (hle : k = 0 ∨ ¬ lt (D i) (D (k - 1))) : SortedTo lt (rot k i (i + 1) D) (i + 1) := by
  intro a b hab hb
  rcases Nat.lt_trichotomy b k with c | c | c
  · rw [ins_low c, ins_low (by omega)]; exact h a b hab (by omega)
  · subst c
    rw [ins_at hk, ins_low hab]
    have hb' : ¬ lt (D i) (D (b - 1)) := hle.resolve_left (by omega)
    by_cases e : a = b - 1
    · rw [e]; exact hb'
    · exact o.trans _ _ _ (h a (b - 1) (by omega) (by omega)) hb'
  · rw [ins_up c (by omega)]
    rcases Nat.lt_trichotomy a k with d | d | d
    · rw [ins_low d]; exact h a (b - 1) (by omega) (by omega)
    · subst d; rw [ins_at hk]; exact o.asymm _ _ (hgt (b - 1) (by omega) (by omega))
    · rw [ins_up d (by omega)]; exact h (a - 1) (b - 1) (by omega) (by omega)

/-- The row with a stale cell at k. -/
def hole (k i : Nat) (D : Nat → Nat) : Nat → Nat := fun t => if t = k then D k else rot k i (i + 1) D t
theorem hole_start (i : Nat) (D : Nat → Nat) : hole i i D = D := by
  funext t; unfold hole; rw [rot_none]; split
  · next e => rw [e]
  · rfl
theorem hole_low {k i t : Nat} (h : t < k) (D : Nat → Nat) : hole k i D t = D t := by
  unfold hole; rw [if_neg (by omega), ins_low h]
theorem hole_next {k i : Nat} (h1 : 0 < k) (h2 : k ≤ i) (D : Nat → Nat) (t : Nat) : (if t = k then D (k - 1) else hole k i D t) = hole (k - 1) i D t := by
  unfold hole
  by_cases c : t = k
  · subst c
    rw [if_pos rfl, if_neg (by omega), ins_up (by omega) h2]
  · rw [if_neg c, if_neg c]
    by_cases d : t = k - 1
    · subst d; rw [if_pos rfl, ins_low (by omega)]
    · rw [if_neg d]
      by_cases e : t < k - 1
      · rw [ins_low (by omega), ins_low e]
      · by_cases f : t ≤ i
        · rw [ins_up (by omega) f, ins_up (by omega) f]
        · rw [ins_high h2 (by omega), ins_high (by omega) (by omega)]
theorem hole_done {k i : Nat} (h2 : k ≤ i) (D : Nat → Nat) (t : Nat) : (if t = k then D i else hole k i D t) = rot k i (i + 1) D t := by
  unfold hole
  by_cases c : t = k
  · subst c; rw [if_pos rfl, ins_at h2]
  · rw [if_neg c, if_neg c]
end Go.Proofs.Qxb6609296a.Srt

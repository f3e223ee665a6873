import Derived.Test.Qxb6609296aPlain
namespace Go.Proofs.Qxb6609296a
open Go.RowKit Srt

/-- The place of z among the values. -/
def idxOf (vals : Nat → Int) (m : Nat) (z : Int) : Nat := ((List.range m).find? fun i => vals i == z).getD 0
theorem find_range {p : Nat → Bool} {m i : Nat} (hi : i < m) (hp : p i = true) (hu : ∀ j, j < m → p j = true → j = i) : (List.range m).find? p = some i := by
  have h1 : ((List.range m).find? p).isSome := by
    rw [List.find?_isSome]; exact ⟨i, by simpa using hi, hp⟩
  obtain ⟨j, hj⟩ := Option.isSome_iff_exists.1 h1
  have h2 := List.find?_some hj
  have h3 : j ∈ List.range m := List.mem_of_find?_eq_some hj
  rw [hj, hu j (by simpa using h3) h2]
theorem idxOf_eq {vals : Nat → Int} {m i : Nat} (hinj : ∀ a b, a < m → b < m → vals a = vals b → a = b) (hi : i < m) : idxOf vals m (vals i) = i := by
  unfold idxOf
  rw [find_range hi (by simp) (fun j hj hp => hinj j i hj hi (by simpa using hp))]
  rfl

/-- All that the list is. -/
structure ListIs (ids : List ByteArray) (nodes : List Int) (given : List Bool) (D : Nat → Nat) (m : Nat) (vals : Nat → Int) : Prop where
  prm : Prm 0 ids.length id D
  strict : ∀ a b, a < b → b < ids.length → idLt ids (D a) (D b)
  inc : ∀ a b, a < b → b < m → vals a < vals b
  node : ∀ j, j < ids.length → given.getD j false = true → ∃ i, i < m ∧ vals i = nodes.getD j 0

def ofJ (nodes : List Int) (given : List Bool) (m : Nat) (vals : Nat → Int) (j : Nat) : Nat := if given.getD j false = true then 1 + idxOf vals m (nodes.getD j 0) else 0
/-- The key of an ID: of the first device that bears it. -/
def dkOf (ids : List ByteArray) (nodes : List Int) (given : List Bool) (m : Nat) (vals : Nat → Int) (s : ByteArray) : Nat :=
  match (List.range ids.length).find? (fun j => decide (ids.getD j ByteArray.empty = s)) with
  | some j => ofJ nodes given m vals j
  | none => 0

section
variable {ids : List ByteArray} {nodes : List Int} {given : List Bool} {D : Nat → Nat} {m : Nat} {vals : Nat → Int}
theorem ListIs.inj (h : ListIs ids nodes given D m vals) : ∀ a b, a < m → b < m → vals a = vals b → a = b := by
  intro a b ha hb e
  rcases Nat.lt_trichotomy a b with c | c | c
  · have := h.inc a b c hb; omega
  · exact c
  · have := h.inc b a c ha; omega
theorem ListIs.rank (h : ListIs ids nodes given D m vals) {j : Nat} (hj : j < ids.length) : ∃ k, k < ids.length ∧ D k = j := by
  obtain ⟨k, _, h2, e⟩ := h.prm.mem' (k := j) (Nat.zero_le _) hj
  exact ⟨k, h2, e.symm⟩
theorem ListIs.lt (h : ListIs ids nodes given D m vals) {k : Nat} (hk : k < ids.length) : D k < ids.length := by
  obtain ⟨j, _, h2, e⟩ := h.prm.mem (k := k) (Nat.zero_le _) hk
  rw [e]; exact h2
theorem ListIs.dist (h : ListIs ids nodes given D m vals) {i j : Nat} (hi : i < ids.length) (hj : j < ids.length) (e : ids.getD i ByteArray.empty = ids.getD j ByteArray.empty) : i = j := by
  obtain ⟨a, ha, rfl⟩ := h.rank hi
  obtain ⟨b, hb, rfl⟩ := h.rank hj
  rcases Nat.lt_trichotomy a b with c | c | c
  · have := h.strict a b c hb; unfold idLt at this; rw [e] at this; exact absurd this (slt.irrefl _)
  · rw [c]
  · have := h.strict b a c ha; unfold idLt at this; rw [e] at this; exact absurd this (slt.irrefl _)
theorem ListIs.dk (h : ListIs ids nodes given D m vals) {j : Nat} (hj : j < ids.length) : dkOf ids nodes given m vals (ids.getD j ByteArray.empty) = ofJ nodes given m vals j := by
  unfold dkOf
  rw [find_range hj (by simp) (fun i hi hp => h.dist hi hj (of_decide_eq_true hp))]
theorem dk_none {s : ByteArray} (hs : ∀ j, j < ids.length → ids.getD j ByteArray.empty ≠ s) : dkOf ids nodes given m vals s = 0 := by
  unfold dkOf
  have : (List.range ids.length).find? (fun j => decide (ids.getD j ByteArray.empty = s)) = none := by
    rw [List.find?_eq_none]
    intro j hj
    simp only [decide_eq_true_eq]
    exact hs j (by simpa using hj)
  rw [this]
theorem ListIs.of_le (h : ListIs ids nodes given D m vals) {j : Nat} (hj : j < ids.length) : ofJ nodes given m vals j ≤ m := by
  unfold ofJ
  split
  · next hg =>
    obtain ⟨i, hi, e⟩ := h.node j hj hg
    rw [← e, idxOf_eq h.inj hi]; omega
  · exact Nat.zero_le _
theorem ListIs.ofg (h : ListIs ids nodes given D m vals) {j i : Nat} (hg : given.getD j false = true) (hi : i < m) (e : vals i = nodes.getD j 0) : ofJ nodes given m vals j = 1 + i := by
  unfold ofJ
  rw [if_pos hg, ← e, idxOf_eq h.inj hi]
theorem ofn {j : Nat} (hg : given.getD j false = false) : ofJ nodes given m vals j = 0 := by unfold ofJ; rw [hg]; rfl
theorem ListIs.dk_le (h : ListIs ids nodes given D m vals) (s : ByteArray) : dkOf ids nodes given m vals s ≤ m := by
  by_cases hs : ∃ j, j < ids.length ∧ ids.getD j ByteArray.empty = s
  · obtain ⟨j, hj, rfl⟩ := hs
    rw [h.dk hj]; exact h.of_le hj
  · rw [dk_none (fun j hj e => hs ⟨j, hj, e⟩)]; exact Nat.zero_le _

theorem ListIs.key (h : ListIs ids nodes given D m vals) : KeyOf ids.length m (catOf ids) (endOf ids) D (ofJ nodes given m vals) (dkOf ids nodes given m vals) := by
  refine ⟨fun k hk => ?_, fun s hs => ?_, h.dk_le⟩
  · rw [idAt_cat (h.lt hk), h.dk (h.lt hk)]
  · refine dk_none (fun j hj e => ?_)
    obtain ⟨k, hk, rfl⟩ := h.rank hj
    exact hs k hk (by rw [idAt_cat (h.lt hk)]; exact e)
theorem ListIs.ranked (h : ListIs ids nodes given D m vals) : Ranked ids.length (catOf ids) (endOf ids) D := by
  intro i j hij hj
  rw [idAt_cat (h.lt (by omega)), idAt_cat (h.lt hj)]
  exact h.strict i j hij hj
end
end Go.Proofs.Qxb6609296a

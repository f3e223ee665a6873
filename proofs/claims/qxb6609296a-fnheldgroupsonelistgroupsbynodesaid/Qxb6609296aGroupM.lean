/-
  THE PLAIN THEORY OF GROUPING: the runs of a row that is sorted by key (and within a key by place) are the groups 'those of key q, in their own order', q ascending.
-/
import Derived.Test.Qxb6609296aSortM
namespace Go.Proofs.Qxb6609296a.Srt

theorem sorted_ext : ∀ (l m : List Nat), l.Pairwise (· < ·) → m.Pairwise (· < ·) → (∀ x, x ∈ l ↔ x ∈ m) → l = m
  | [], [], _, _, _ => rfl
  | [], b :: m, _, _, h => absurd ((h b).2 (by simp)) (by simp)
  | a :: l, [], _, _, h => absurd ((h a).1 (by simp)) (by simp)
  | a :: l, b :: m, h1, h2, h => by
    rw [List.pairwise_cons] at h1 h2
    have hab : a = b := by
      have ha := (h a).1 (by simp)
      have hb := (h b).2 (by simp)
      rw [List.mem_cons] at ha hb
      rcases ha with ha | ha
      · exact ha
      · rcases hb with hb | hb
        · exact hb.symm
        · have := h1.1 b hb; have := h2.1 a ha; omega
    subst hab
    congr 1
    refine sorted_ext l m h1.2 h2.2 (fun x => ⟨fun hx => ?_, fun hx => ?_⟩)
    · have := (h x).1 (by simp [hx])
      rw [List.mem_cons] at this
      rcases this with rfl | this
      · have := h1.1 x hx; omega
      · exact this
    · have := (h x).2 (by simp [hx])
      rw [List.mem_cons] at this
      rcases this with rfl | this
      · have := h2.1 x hx; omega
      · exact this

theorem range_pairwise (n : Nat) : (List.range n).Pairwise (· < ·) := by
  induction n with
  | zero => simp
  | succ n ih => rw [List.range_succ, List.pairwise_append]; exact ⟨ih, by simp, fun a ha b hb => by simp at ha hb; omega⟩

theorem map_pairwise {f : Nat → Nat} {n : Nat} (h : ∀ i j, i < j → j < n → f i < f j) : ((List.range n).map f).Pairwise (· < ·) := by
  rw [List.pairwise_map]
  have := range_pairwise n
  induction n with
  | zero => simp
  | succ n ih =>
    rw [List.range_succ, List.pairwise_append]
    exact ⟨ih (fun i j h1 h2 => h i j h1 (by omega)) (range_pairwise n), by simp, fun a ha b hb => by simp at ha hb; subst hb; exact h a b (by omega) (by omega)⟩

/-- A run of one key in a sorted permutation of [0, N): the places of that key, ascending. -/
theorem run_eq {key D : Nat → Nat} {N s e q : Nat} (hD : Seg key D 0 N) (hp : Prm 0 N id D) (hse : s < e) (heN : e ≤ N) (hq : ∀ t, s ≤ t → t < e → key (D t) = q) (hend : e < N → key (D e) ≠ q) (hbeg : 0 < s → key (D (s - 1)) ≠ q) :
    (List.range N).filter (fun i => key i == q) = (List.range (e - s)).map (fun t => D (s + t)) := by
  have hs := hD.1
  refine sorted_ext _ _ ((range_pairwise N).filter _) (map_pairwise (fun i j h1 h2 => ?_)) (fun x => ⟨fun hx => ?_, fun hx => ?_⟩)
  · have := hs (s + i) (s + j) (Nat.zero_le _) (by omega) (by omega)
    unfold lt at this
    have h3 := hq (s + i) (by omega) (by omega)
    have h4 := hq (s + j) (by omega) (by omega)
    omega
  · simp only [List.mem_filter, List.mem_range, beq_iff_eq] at hx
    obtain ⟨t, t1, t2, et⟩ := hp.mem' (k := x) (Nat.zero_le _) hx.1
    simp only [id] at et
    subst et
    have hst : s ≤ t := by
      apply Classical.byContradiction
      intro hn
      have h0 : 0 < s := by omega
      have hb := hbeg h0
      have hks := hq s (Nat.le_refl _) hse
      have h1 : key (D t) ≤ key (D (s - 1)) := by
        by_cases c : t = s - 1
        · rw [c]; exact Nat.le_refl _
        · have := hs t (s - 1) (Nat.zero_le _) (by omega) (by omega); unfold lt at this; omega
      have h2 := hs (s - 1) s (Nat.zero_le _) (by omega) (by omega)
      unfold lt at h2
      omega
    have hte : t < e := by
      apply Classical.byContradiction
      intro hn
      have hb := hend (by omega)
      have hks := hq (e - 1) (by omega) (by omega)
      have h1 : key (D e) ≤ key (D t) := by
        by_cases c : t = e
        · rw [c]; exact Nat.le_refl _
        · have := hs e t (Nat.zero_le _) (by omega) (by omega); unfold lt at this; omega
      have h2 := hs (e - 1) e (Nat.zero_le _) (by omega) (by omega)
      unfold lt at h2
      omega
    simp only [List.mem_map, List.mem_range]
    exact ⟨t - s, by omega, by congr 1; omega⟩
  · simp only [List.mem_map, List.mem_range] at hx
    obtain ⟨t, t1, rfl⟩ := hx
    simp only [List.mem_filter, List.mem_range, beq_iff_eq]
    exact ⟨(hD.2 (s + t) (Nat.zero_le _) (by omega)).2, hq _ (by omega) (by omega)⟩

/-! ### groups -/
section
variable {α : Type}
/-- Those of key q, in their own order. -/
def those (dk : α → Nat) (l : List α) (q : Nat) : List α := l.filter fun x => dk x == q
/-- The groups of keys below q, the empty ones left out. -/
def grp (dk : α → Nat) (l : List α) (q : Nat) : List (Nat × List α) := (List.range q).filterMap fun x => if (those dk l x).isEmpty then none else some (x, those dk l x)

theorem grp_zero (dk : α → Nat) (l : List α) : grp dk l 0 = [] := rfl
theorem grp_hit {dk : α → Nat} {l : List α} {q : Nat} (h : those dk l q ≠ []) : grp dk l (q + 1) = grp dk l q ++ [(q, those dk l q)] := by
  simp [grp, List.range_succ, List.filterMap_append, h]
theorem grp_miss {dk : α → Nat} {l : List α} {q : Nat} (h : those dk l q = []) : grp dk l (q + 1) = grp dk l q := by
  simp [grp, List.range_succ, List.filterMap_append, h]
theorem grp_skip {dk : α → Nat} {l : List α} {q r : Nat} (hqr : q ≤ r) (h : ∀ x, q ≤ x → x < r → those dk l x = []) : grp dk l r = grp dk l q := by
  induction r with
  | zero => rw [show q = 0 by omega]
  | succ r ih =>
    by_cases c : q = r + 1
    · rw [c]
    · rw [grp_miss (h r (by omega) (by omega)), ih (by omega) (fun x h1 h2 => h x h1 (by omega))]

theorem those_nil {dk : α → Nat} {l : List α} {q : Nat} (h : ∀ x, x ∈ l → dk x ≠ q) : those dk l q = [] := by
  simp only [those, List.filter_eq_nil_iff, beq_iff_eq]
  exact h
theorem those_all {dk : α → Nat} {l : List α} {q : Nat} (h : ∀ x, x ∈ l → dk x = q) : those dk l q = l := by
  simp only [those, List.filter_eq_self, beq_iff_eq]
  exact h
theorem those_mem {dk : α → Nat} {l : List α} {q : Nat} {x : α} (h : x ∈ those dk l q) : x ∈ l ∧ dk x = q := by
  simpa [those] using h

/-- By places. -/
theorem those_range (dk : α → Nat) (l : List α) (d : α) (q : Nat) : those dk l q = ((List.range l.length).filter fun i => dk (l.getD i d) == q).map fun i => l.getD i d := by
  have e : l = (List.range l.length).map fun i => l.getD i d := by
    apply List.ext_getElem?
    intro i
    by_cases hi : i < l.length
    · simp [hi]
    · simp [hi]
  conv => lhs; rw [e]
  simp only [those, List.filter_map]
  rfl
end
/-! ### the groups as the sorted row gives them -/
section
variable {α : Type} {dk : α → Nat} {l : List α} {d : α} {D : Nat → Nat} {N v : Nat}
/-- Where no place of the sorted row has a key in [q, r), the groups below q and those below r are the same. -/
theorem grp_gap (hN : N = l.length) (hp : Prm 0 N id D) {q r : Nat} (hqr : q ≤ r) (h : ∀ t, t < N → dk (l.getD (D t) d) < q ∨ r ≤ dk (l.getD (D t) d)) : grp dk l r = grp dk l q := by
  refine grp_skip hqr (fun x h1 h2 => those_nil (fun y hy => ?_))
  obtain ⟨i, hi, rfl⟩ := List.getElem_of_mem hy
  obtain ⟨t, t1, t2, et⟩ := hp.mem' (k := i) (Nat.zero_le _) (by omega)
  simp only [id] at et
  have := h t t2
  rw [← et, List.getD_eq_getElem?_getD, List.getElem?_eq_getElem hi] at this
  simp only [Option.getD_some] at this
  omega

/-- At the start of the sorted row there is no group yet. -/
theorem grp_first (hN : N = l.length) (hp : Prm 0 N id D) (hs : Seg (fun i => dk (l.getD i d)) D 0 N) : grp dk l (dk (l.getD (D 0) d)) = [] := by
  rw [grp_gap (d := d) (q := 0) hN hp (Nat.zero_le _) (fun t ht => ?_), grp_zero]
  right
  by_cases c : t = 0
  · rw [c]; exact Nat.le_refl _
  · have := hs.1 0 t (Nat.le_refl _) (by omega) ht
    unfold lt at this
    simp only at this
    omega

/-- One run of the sorted row is one group more. -/
theorem grp_run (hN : N = l.length) (hp : Prm 0 N id D) (hs : Seg (fun i => dk (l.getD i d)) D 0 N) {s e q : Nat} (hse : s < e) (heN : e ≤ N) (hq : ∀ t, s ≤ t → t < e → dk (l.getD (D t) d) = q)
    (hend : e < N → dk (l.getD (D e) d) ≠ q) (hbeg : 0 < s → dk (l.getD (D (s - 1)) d) ≠ q) :
    grp dk l (q + 1) = grp dk l q ++ [(q, (List.range (e - s)).map fun t => l.getD (D (s + t)) d)] := by
  have h1 : those dk l q = (List.range (e - s)).map fun t => l.getD (D (s + t)) d := by
    rw [those_range dk l d q, ← hN, run_eq hs hp hse heN hq hend hbeg, List.map_map]
    rfl
  rw [← h1]
  refine grp_hit (fun h => ?_)
  rw [h1] at h
  have := congrArg List.length h
  simp at this
  omega

/-- Behind a run the next key is the next group's. -/
theorem grp_after (hN : N = l.length) (hp : Prm 0 N id D) (hs : Seg (fun i => dk (l.getD i d)) D 0 N) {e q : Nat} (he0 : 0 < e) (heN : e < N) (hq : dk (l.getD (D (e - 1)) d) = q) (hne : dk (l.getD (D e) d) ≠ q) :
    grp dk l (dk (l.getD (D e) d)) = grp dk l (q + 1) := by
  have hle := hs.1 (e - 1) e (Nat.zero_le _) (by omega) heN
  unfold lt at hle
  simp only at hle
  refine grp_gap (d := d) (q := q + 1) hN hp (by omega) (fun t ht => ?_)
  by_cases c : t < e
  · left
    by_cases c2 : t = e - 1
    · rw [c2]; omega
    · have := hs.1 t (e - 1) (Nat.zero_le _) (by omega) (by omega)
      unfold lt at this
      simp only at this
      omega
  · right
    by_cases c2 : t = e
    · rw [c2]; exact Nat.le_refl _
    · have := hs.1 e t (Nat.zero_le _) (by omega) ht
      unfold lt at this
      simp only at this
      omega

/-- Behind the last run all is told. -/
theorem grp_last (hN : N = l.length) (hp : Prm 0 N id D) (hs : Seg (fun i => dk (l.getD i d)) D 0 N) {q : Nat} (h0 : 0 < N) (hq : dk (l.getD (D (N - 1)) d) = q) (hv : q ≤ v) : grp dk l (v + 1) = grp dk l (q + 1) := by
  refine grp_gap (d := d) (q := q + 1) hN hp (by omega) (fun t ht => ?_)
  left
  by_cases c2 : t = N - 1
  · rw [c2]; omega
  · have := hs.1 t (N - 1) (Nat.zero_le _) (by omega) (by omega)
    unfold lt at this
    simp only at this
    omega

/-- All of one key: one group. -/
theorem grp_one {q : Nat} (hq : ∀ x, x ∈ l → dk x = q) (hl : l ≠ []) (hv : q ≤ v) : grp dk l (v + 1) = [(q, l)] := by
  rw [grp_skip (q := q + 1) (by omega) (fun x h1 h2 => those_nil (fun y hy => by rw [hq y hy]; omega)), grp_hit (by rw [those_all hq]; exact hl), those_all hq, grp_skip (q := 0) (Nat.zero_le _) (fun x h1 h2 => those_nil (fun y hy => by rw [hq y hy]; omega)), grp_zero]
  rfl
end
end Go.Proofs.Qxb6609296a.Srt


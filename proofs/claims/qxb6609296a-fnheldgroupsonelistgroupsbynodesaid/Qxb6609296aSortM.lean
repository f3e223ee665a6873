/-
  THE PLAIN THEORY OF THE LIBRARY's STABLE SORT: swaps, rotations, the symmetric merge, blocks. No Go in sight. A row of numbers is a function D; 'lt key' orders numbers by their keys, and among equal keys by themselves.
-/
namespace Go.Proofs.Qxb6609296a.Srt

def lt (key : Nat → Nat) (x y : Nat) : Prop := key x < key y ∨ (key x = key y ∧ x < y)
theorem lt.trans {key : Nat → Nat} {x y z : Nat} (h : lt key x y) (k : lt key y z) : lt key x z := by unfold lt at *; omega
theorem lt.of_not {key : Nat → Nat} {x y : Nat} (h : ¬ lt key x y) (hne : x ≠ y) : lt key y x := by unfold lt at *; omega
theorem lt.asymm {key : Nat → Nat} {x y : Nat} (h : lt key x y) : ¬ lt key y x := by unfold lt at *; omega
/-- A right element (a greater number) is less than a left one just if its key is. -/
theorem lt_right {key : Nat → Nat} {x y : Nat} (h : x < y) : lt key y x ↔ key y < key x := by unfold lt; omega

def Sorted (key : Nat → Nat) (D : Nat → Nat) (a b : Nat) : Prop := ∀ i j, a ≤ i → i < j → j < b → lt key (D i) (D j)
theorem Sorted.sub {key D : Nat → Nat} {a b a' b' : Nat} (h : Sorted key D a b) (h1 : a ≤ a') (h2 : b' ≤ b) : Sorted key D a' b' := fun i j hi hij hj => h i j (by omega) hij (by omega)

/-- D' is D with its places in [a, b) permuted. -/
def Prm (a b : Nat) (D D' : Nat → Nat) : Prop :=
  ∃ s t : Nat → Nat, (∀ k, D' k = D (s k)) ∧ (∀ k, s (t k) = k) ∧ (∀ k, t (s k) = k) ∧ (∀ k, a ≤ k → k < b → a ≤ s k ∧ s k < b) ∧ (∀ k, a ≤ k → k < b → a ≤ t k ∧ t k < b) ∧ (∀ k, k < a ∨ b ≤ k → s k = k)

theorem Prm.refl (a b : Nat) (D : Nat → Nat) : Prm a b D D := ⟨id, id, fun _ => rfl, fun _ => rfl, fun _ => rfl, fun _ h1 h2 => ⟨h1, h2⟩, fun _ h1 h2 => ⟨h1, h2⟩, fun _ _ => rfl⟩
theorem Prm.trans {a b : Nat} {D E F : Nat → Nat} (h : Prm a b D E) (k : Prm a b E F) : Prm a b D F := by
  obtain ⟨s, t, h1, h2, h3, h4, h5, h6⟩ := h
  obtain ⟨s', t', k1, k2, k3, k4, k5, k6⟩ := k
  refine ⟨fun x => s (s' x), fun x => t' (t x), fun x => by rw [k1, h1], fun x => by simp only [k2, h2], fun x => by simp only [h3, k3], fun x hx hy => ?_, fun x hx hy => ?_, fun x hx => by show s (s' x) = x; rw [k6 x hx, h6 x hx]⟩
  · have := k4 x hx hy; exact h4 _ this.1 this.2
  · have := h5 x hx hy; exact k5 _ this.1 this.2
theorem Prm.mono {a b a' b' : Nat} {D E : Nat → Nat} (h : Prm a b D E) (h1 : a' ≤ a) (h2 : b ≤ b') : Prm a' b' D E := by
  obtain ⟨s, t, k1, k2, k3, k4, k5, k6⟩ := h
  have ht : ∀ k, k < a ∨ b ≤ k → t k = k := fun k hk => by have := k3 k; rw [k6 k hk] at this; exact this
  refine ⟨s, t, k1, k2, k3, fun x hx hy => ?_, fun x hx hy => ?_, fun x hx => k6 x (by omega)⟩
  · by_cases hc : a ≤ x ∧ x < b
    · have := k4 x hc.1 hc.2; omega
    · have := k6 x (by omega); omega
  · by_cases hc : a ≤ x ∧ x < b
    · have := k5 x hc.1 hc.2; omega
    · have := ht x (by omega); omega
theorem Prm.out {a b : Nat} {D E : Nat → Nat} (h : Prm a b D E) {k : Nat} (hk : k < a ∨ b ≤ k) : E k = D k := by
  obtain ⟨s, t, k1, _, _, _, _, k6⟩ := h
  rw [k1, k6 k hk]
theorem Prm.mem {a b : Nat} {D E : Nat → Nat} (h : Prm a b D E) {k : Nat} (h1 : a ≤ k) (h2 : k < b) : ∃ j, a ≤ j ∧ j < b ∧ E k = D j := by
  obtain ⟨s, t, k1, _, _, k4, _, _⟩ := h
  exact ⟨s k, (k4 k h1 h2).1, (k4 k h1 h2).2, k1 k⟩
theorem Prm.mem' {a b : Nat} {D E : Nat → Nat} (h : Prm a b D E) {k : Nat} (h1 : a ≤ k) (h2 : k < b) : ∃ j, a ≤ j ∧ j < b ∧ D k = E j := by
  obtain ⟨s, t, k1, k2, _, _, k5, _⟩ := h
  exact ⟨t k, (k5 k h1 h2).1, (k5 k h1 h2).2, by rw [k1, k2]⟩

def sw2 (i j : Nat) (D : Nat → Nat) : Nat → Nat := fun k => if k = i then D j else if k = j then D i else D k
def swp (a b n : Nat) (D : Nat → Nat) : Nat → Nat := fun k => if a ≤ k ∧ k < a + n then D (k - a + b) else if b ≤ k ∧ k < b + n then D (k - b + a) else D k
def rot (a m b : Nat) (D : Nat → Nat) : Nat → Nat := fun k => if a ≤ k ∧ k < a + (b - m) then D (k - a + m) else if a + (b - m) ≤ k ∧ k < b then D (k - (b - m)) else D k

theorem swp_zero (a b : Nat) (D : Nat → Nat) : swp a b 0 D = D := by
  funext k; unfold swp; rw [if_neg (by omega), if_neg (by omega)]
theorem swp_succ {a b n : Nat} (h : a + n < b) (D : Nat → Nat) : sw2 (a + n) (b + n) (swp a b n D) = swp a b (n + 1) D := by
  funext k; unfold sw2 swp
  by_cases h1 : k = a + n
  · subst h1
    rw [if_pos rfl, if_neg (by omega), if_neg (by omega), if_pos (by omega)]
    congr 1; omega
  rw [if_neg h1]
  by_cases h2 : k = b + n
  · subst h2
    rw [if_pos rfl, if_neg (by omega), if_neg (by omega), if_neg (by omega), if_pos (by omega)]
    congr 1; omega
  rw [if_neg h2]
  by_cases h3 : a ≤ k ∧ k < a + n
  · rw [if_pos h3, if_pos (by omega)]
  rw [if_neg h3]
  by_cases h4 : b ≤ k ∧ k < b + n
  · rw [if_pos h4, if_neg (by omega), if_pos (by omega)]
  rw [if_neg h4, if_neg (by omega), if_neg (by omega)]

theorem rot_self (a m : Nat) (D : Nat → Nat) : rot a m m D = D := by
  funext k; unfold rot; rw [if_neg (by omega)]
  split
  · congr 1; omega
  · rfl
theorem rot_none (m b : Nat) (D : Nat → Nat) : rot m m b D = D := by
  funext k; unfold rot
  split
  · congr 1; omega
  · rw [if_neg (by omega)]

theorem rot_more {lo m hi : Nat} (h1 : lo ≤ m) (h2 : m ≤ hi) (h : hi - m < m - lo) (D : Nat → Nat) : rot (lo + (hi - m)) m hi (swp lo m (hi - m) D) = rot lo m hi D := by
  funext k; unfold rot swp
  by_cases c1 : lo ≤ k ∧ k < lo + (hi - m)
  · rw [if_neg (by omega), if_neg (by omega), if_pos (by omega), if_pos (by omega)]
  simp only [if_neg c1]
  by_cases c2 : lo + (hi - m) ≤ k ∧ k < hi
  · by_cases c3 : k < lo + (hi - m) + (hi - m)
    · rw [if_pos (by omega), if_neg (by omega), if_pos (by omega), if_pos (by omega)]
      congr 1; omega
    · rw [if_neg (by omega), if_pos (by omega), if_neg (by omega), if_neg (by omega), if_pos (by omega)]
  · rw [if_neg (by omega), if_neg (by omega), if_neg (by omega), if_neg (by omega)]

theorem rot_less {lo m hi : Nat} (h1 : lo ≤ m) (h2 : m ≤ hi) (h : m - lo < hi - m) (D : Nat → Nat) : rot lo m (hi - (m - lo)) (swp lo (hi - (m - lo)) (m - lo) D) = rot lo m hi D := by
  funext k; unfold rot swp
  by_cases c1 : lo ≤ k ∧ k < lo + (hi - m)
  · rw [if_pos (c := lo ≤ k ∧ k < lo + (hi - m)) c1]
    by_cases c3 : k < lo + (hi - (m - lo) - m)
    · rw [if_pos (by omega), if_neg (by omega), if_neg (by omega)]
    · rw [if_neg (by omega), if_pos (by omega), if_pos (by omega)]
      congr 1; omega
  rw [if_neg (c := lo ≤ k ∧ k < lo + (hi - m)) c1]
  by_cases c2 : lo + (hi - m) ≤ k ∧ k < hi
  · rw [if_pos (c := lo + (hi - m) ≤ k ∧ k < hi) c2, if_neg (by omega), if_neg (by omega), if_neg (by omega), if_pos (by omega)]
    congr 1; omega
  · rw [if_neg (c := lo + (hi - m) ≤ k ∧ k < hi) c2, if_neg (by omega), if_neg (by omega), if_neg (by omega), if_neg (by omega)]

theorem rot_even {lo m hi : Nat} (h1 : lo ≤ m) (h2 : m ≤ hi) (h : m - lo = hi - m) (D : Nat → Nat) : swp lo m (m - lo) D = rot lo m hi D := by
  funext k; unfold rot swp
  by_cases c1 : lo ≤ k ∧ k < lo + (hi - m)
  · rw [if_pos (c := lo ≤ k ∧ k < lo + (hi - m)) c1, if_pos (by omega)]
  rw [if_neg (c := lo ≤ k ∧ k < lo + (hi - m)) c1]
  by_cases c2 : lo + (hi - m) ≤ k ∧ k < hi
  · rw [if_pos (c := lo + (hi - m) ≤ k ∧ k < hi) c2, if_neg (by omega), if_pos (by omega)]
    congr 1; omega
  · rw [if_neg (c := lo + (hi - m) ≤ k ∧ k < hi) c2, if_neg (by omega), if_neg (by omega)]

/-- One element moved to the right, a step. -/
theorem rot_right {a k : Nat} (h : a ≤ k) (D : Nat → Nat) : sw2 k (k + 1) (rot a (a + 1) (k + 1) D) = rot a (a + 1) (k + 2) D := by
  funext x; unfold sw2 rot
  by_cases c1 : x = k
  · subst c1
    rw [if_pos rfl, if_neg (by omega), if_neg (by omega), if_pos (by omega)]
    congr 1; omega
  rw [if_neg c1]
  by_cases c2 : x = k + 1
  · subst c2
    rw [if_pos rfl, if_neg (by omega), if_pos (by omega), if_neg (by omega), if_pos (by omega)]
    congr 1; omega
  rw [if_neg c2]
  by_cases c3 : a ≤ x ∧ x < k
  · rw [if_pos (by omega), if_pos (by omega)]
  · rw [if_neg (by omega), if_neg (by omega), if_neg (by omega), if_neg (by omega)]
/-- One element moved to the left, a step. -/
theorem rot_left {m k : Nat} (h : k < m) (D : Nat → Nat) : sw2 (k + 1) k (rot (k + 1) m (m + 1) D) = rot k m (m + 1) D := by
  funext x; unfold sw2 rot
  by_cases c1 : x = k + 1
  · subst c1
    rw [if_pos rfl, if_neg (by omega), if_neg (by omega), if_neg (by omega), if_pos (by omega)]
    congr 1; omega
  rw [if_neg c1]
  by_cases c2 : x = k
  · subst c2
    rw [if_pos rfl, if_pos (by omega), if_pos (by omega)]
    congr 1; omega
  rw [if_neg c2]
  by_cases c3 : k + 1 < x ∧ x < m + 1
  · rw [if_neg (by omega), if_pos (by omega), if_neg (by omega), if_pos (by omega)]
  · rw [if_neg (by omega), if_neg (by omega), if_neg (by omega), if_neg (by omega)]

theorem Prm.rot {a m b : Nat} (h1 : a ≤ m) (h2 : m ≤ b) (D : Nat → Nat) : Prm a b D (rot a m b D) := by
  refine ⟨fun k => if a ≤ k ∧ k < a + (b - m) then k - a + m else if a + (b - m) ≤ k ∧ k < b then k - (b - m) else k, fun k => if a ≤ k ∧ k < m then k + (b - m) else if m ≤ k ∧ k < b then k - m + a else k, fun k => ?_, fun k => ?_, fun k => ?_, fun k _ _ => ?_, fun k _ _ => ?_, fun k _ => ?_⟩
  · simp only [Srt.rot]
    split
    · rfl
    · split <;> rfl
  · dsimp only
    split
    · rw [if_neg (by omega), if_pos (by omega)]; omega
    · split
      · rw [if_pos (by omega)]; omega
      · rw [if_neg (by omega), if_neg (by omega)]
  · dsimp only
    split
    · rw [if_neg (by omega), if_pos (by omega)]; omega
    · split
      · rw [if_pos (by omega)]; omega
      · rw [if_neg (by omega), if_neg (by omega)]
  · dsimp only
    split
    · omega
    · split <;> omega
  · dsimp only
    split
    · omega
    · split <;> omega
  · dsimp only
    rw [if_neg (by omega), if_neg (by omega)]

/-! ### the merge -/
theorem rot1 {a m b k : Nat} (D : Nat → Nat) (h : k < a) : rot a m b D k = D k := by unfold rot; rw [if_neg (by omega), if_neg (by omega)]
theorem rot2 {a m b k : Nat} (D : Nat → Nat) (h1 : a ≤ k) (h2 : k < a + (b - m)) : rot a m b D k = D (k - a + m) := by unfold rot; rw [if_pos (by omega)]
theorem rot3 {a m b k : Nat} (D : Nat → Nat) (h1 : a + (b - m) ≤ k) (h2 : k < b) : rot a m b D k = D (k - (b - m)) := by unfold rot; rw [if_neg (by omega), if_pos (by omega)]
theorem rot4 {a m b k : Nat} (D : Nat → Nat) (h0 : a ≤ m) (h1 : m ≤ b) (h : b ≤ k) : rot a m b D k = D k := by unfold rot; rw [if_neg (by omega), if_neg (by omega)]

/-- What stands left of 's' and behind 'm' below 'e' is less than what stands in [s, m) and behind e. -/
structure Cut (key D : Nat → Nat) (a s m e b : Nat) : Prop where
  o1 : a ≤ s
  o2 : s ≤ m
  o3 : m ≤ e
  o4 : e ≤ b
  low : ∀ i j, a ≤ i → i < s → e ≤ j → j < b → lt key (D i) (D j)
  high : ∀ i j, s ≤ i → i < m → m ≤ j → j < e → lt key (D j) (D i)

theorem rot_pieces {key D : Nat → Nat} {a s m e b : Nat} (c : Cut key D a s m e b) (h1 : Sorted key D a m) (h2 : Sorted key D m b) :
    Sorted key (rot s m e D) a s ∧ Sorted key (rot s m e D) s (s + (e - m)) ∧ Sorted key (rot s m e D) (s + (e - m)) e ∧ Sorted key (rot s m e D) e b ∧
      ∀ i j, a ≤ i → i < s + (e - m) → s + (e - m) ≤ j → j < b → lt key (rot s m e D i) (rot s m e D j) := by
  obtain ⟨o1, o2, o3, o4, low, high⟩ := c
  refine ⟨fun i j hi hij hj => ?_, fun i j hi hij hj => ?_, fun i j hi hij hj => ?_, fun i j hi hij hj => ?_, fun i j hi hi2 hj hj2 => ?_⟩
  · rw [rot1 D (by omega), rot1 D hj]; exact h1 i j hi hij (by omega)
  · rw [rot2 D hi (by omega), rot2 D (by omega) hj]; exact h2 _ _ (by omega) (by omega) (by omega)
  · rw [rot3 D hi (by omega), rot3 D (by omega) hj]; exact h1 _ _ (by omega) (by omega) (by omega)
  · rw [rot4 D o2 o3 (by omega), rot4 D o2 o3 (by omega)]; exact h2 i j (by omega) hij hj
  · by_cases ci : i < s
    · rw [rot1 D ci]
      by_cases cj : j < e
      · rw [rot3 D hj cj]; exact h1 _ _ hi (by omega) (by omega)
      · rw [rot4 D o2 o3 (by omega)]; exact low _ _ hi ci (by omega) hj2
    · rw [rot2 D (by omega) hi2]
      by_cases cj : j < e
      · rw [rot3 D hj cj]; exact high _ _ (by omega) (by omega) (by omega) (by omega)
      · rw [rot4 D o2 o3 (by omega)]; exact h2 _ _ (by omega) (by omega) hj2

theorem Sorted.join {key D : Nat → Nat} {a m b : Nat} (h1 : Sorted key D a m) (h2 : Sorted key D m b) (hx : ∀ i j, a ≤ i → i < m → m ≤ j → j < b → lt key (D i) (D j)) : Sorted key D a b := by
  intro i j hi hij hj
  by_cases c1 : j < m
  · exact h1 i j hi hij c1
  · by_cases c2 : i < m
    · exact hx i j hi c2 (by omega) hj
    · exact h2 i j (by omega) hij hj

/-- Where a cut leaves nothing on two sides, the rotated row is sorted. -/
theorem rot_sorted {key D : Nat → Nat} {a s m e b : Nat} (c : Cut key D a s m e b) (h1 : Sorted key D a m) (h2 : Sorted key D m b)
    (hA : ∀ i j, a ≤ i → i < s → m ≤ j → j < e → lt key (D i) (D j)) (hB : ∀ i j, s ≤ i → i < m → e ≤ j → j < b → lt key (D i) (D j)) : Sorted key (rot s m e D) a b := by
  obtain ⟨p1, p2, p3, p4, px⟩ := rot_pieces c h1 h2
  obtain ⟨o1, o2, o3, o4, low, high⟩ := c
  refine Sorted.join (m := s + (e - m)) (Sorted.join p1 p2 ?_) (Sorted.join p3 p4 ?_) px
  · intro i j hi hi2 hj hj2
    rw [rot1 D hi2, rot2 D hj hj2]; exact hA _ _ hi hi2 (by omega) (by omega)
  · intro i j hi hi2 hj hj2
    rw [rot3 D hi hi2, rot4 D o2 o3 hj]; exact hB _ _ (by omega) (by omega) hj hj2

/-- Left of m stand smaller numbers than right of it. -/
def LR (D : Nat → Nat) (a m b : Nat) : Prop := ∀ i j, a ≤ i → i < m → m ≤ j → j < b → D i < D j

theorem rot_LR {D : Nat → Nat} {a s m e b : Nat} (o1 : a ≤ s) (o2 : s ≤ m) (o3 : m ≤ e) (o4 : e ≤ b) (h : LR D a m b) : LR (rot s m e D) a s (s + (e - m)) ∧ LR (rot s m e D) (s + (e - m)) e b := by
  refine ⟨fun i j hi hi2 hj hj2 => ?_, fun i j hi hi2 hj hj2 => ?_⟩
  · rw [rot1 D hi2, rot2 D hj hj2]; exact h _ _ hi (by omega) (by omega) (by omega)
  · rw [rot3 D hi hi2, rot4 D o2 o3 hj]; exact h _ _ (by omega) (by omega) (by omega) hj2

/-- What the search for 'start' knows: below start the pair stands right, from start on wrong. -/
theorem cut_of_search {key D : Nat → Nat} {a m b mid start lo hi : Nat} (hmid : mid = (a + b) / 2) (ham : a < m) (_hmb : m < b) (h1 : Sorted key D a m) (h2 : Sorted key D m b) (hLR : LR D a m b)
    (hlo : lo = if m > mid then mid + m - b else a) (hhi : hi = if m > mid then mid else m) (hs1 : lo ≤ start) (hs2 : start ≤ hi)
    (hlow : ∀ c, lo ≤ c → c < start → ¬ lt key (D (mid + m - 1 - c)) (D c)) (hhigh : ∀ c, start ≤ c → c < hi → lt key (D (mid + m - 1 - c)) (D c)) :
    Cut key D a start m (mid + m - start) b := by
  have o1 : a ≤ start := by split at hlo <;> omega
  have o2 : start ≤ m := by split at hhi <;> omega
  have o3 : m ≤ mid + m - start := by split at hhi <;> omega
  have o4 : mid + m - start ≤ b := by split at hlo <;> omega
  refine ⟨o1, o2, o3, o4, fun i j hi1 hi2 hj1 hj2 => ?_, fun i j hi1 hi2 hj1 hj2 => ?_⟩
  · -- start - 1 is at least lo, or one side is empty
    have hge : lo ≤ start - 1 := by split at hlo <;> omega
    have hp : mid + m - 1 - (start - 1) = mid + m - start := by omega
    have hne := hlow (start - 1) hge (by omega)
    rw [hp] at hne
    have hlr := hLR (start - 1) (mid + m - start) (by omega) (by omega) (by omega) (by omega)
    have hlt := lt.of_not hne (by omega)
    have e1 : i = start - 1 ∨ lt key (D i) (D (start - 1)) := by
      by_cases e : i = start - 1
      · exact .inl e
      · exact .inr (h1 i (start - 1) hi1 (by omega) (by omega))
    have e2 : j = mid + m - start ∨ lt key (D (mid + m - start)) (D j) := by
      by_cases e : j = mid + m - start
      · exact .inl e
      · exact .inr (h2 _ j (by omega) (by omega) hj2)
    have h3 : lt key (D i) (D (mid + m - start)) := by
      rcases e1 with rfl | e1
      · exact hlt
      · exact e1.trans hlt
    rcases e2 with rfl | e2
    · exact h3
    · exact h3.trans e2
  · have hlt1 : start < hi := by split at hhi <;> omega
    have hl := hhigh start (Nat.le_refl _) hlt1
    have hp : mid + m - 1 - start = mid + m - start - 1 := by omega
    rw [hp] at hl
    have h3 : lt key (D j) (D start) := by
      by_cases e : j = mid + m - start - 1
      · rw [e]; exact hl
      · exact (h2 j (mid + m - start - 1) hj1 (by omega) (by omega)).trans hl
    by_cases e : i = start
    · rw [e]; exact h3
    · exact h3.trans (h1 start i o1 (by omega) hi2)

/-- Both halves merged: the whole is sorted. -/
theorem merged {key D1 D2 D3 : Nat → Nat} {a mid b : Nat} (hx : ∀ i j, a ≤ i → i < mid → mid ≤ j → j < b → lt key (D1 i) (D1 j)) (p2 : Prm a mid D1 D2) (s2 : Sorted key D2 a mid) (p3 : Prm mid b D2 D3) (s3 : Sorted key D3 mid b) : Sorted key D3 a b := by
  refine Sorted.join (m := mid) (fun i j hi hij hj => ?_) s3 (fun i j hi hi2 hj hj2 => ?_)
  · rw [p3.out (.inl hj), p3.out (.inl (by omega))]; exact s2 i j hi hij hj
  · rw [p3.out (.inl hi2)]
    obtain ⟨j', hj1', hj2', e⟩ := p3.mem hj hj2
    rw [e, p2.out (.inr hj1')]
    obtain ⟨i', hi1', hi2', e'⟩ := p2.mem hi hi2
    rw [e']
    exact hx _ _ hi1' hi2' hj1' hj2'

/-! ### blocks -/
/-- [lo, hi) is sorted and holds just the numbers of [lo, hi). -/
def Seg (key D : Nat → Nat) (lo hi : Nat) : Prop := Sorted key D lo hi ∧ ∀ k, lo ≤ k → k < hi → lo ≤ D k ∧ D k < hi

theorem Seg.LR {key D : Nat → Nat} {a m b : Nat} (h1 : Seg key D a m) (h2 : Seg key D m b) : LR D a m b := fun i j hi hi2 hj hj2 => by
  have := h1.2 i hi hi2; have := h2.2 j hj hj2; omega
theorem Seg.merged {key D D' : Nat → Nat} {a m b : Nat} (h1 : Seg key D a m) (h2 : Seg key D m b) (ham : a ≤ m) (hmb : m ≤ b) (p : Prm a b D D') (s : Sorted key D' a b) : Seg key D' a b := by
  refine ⟨s, fun k hk hk2 => ?_⟩
  obtain ⟨j, hj, hj2, e⟩ := p.mem hk hk2
  rw [e]
  by_cases c : j < m
  · have := h1.2 j hj c; omega
  · have := h2.2 j (by omega) hj2; omega
theorem Seg.kept {key D D' : Nat → Nat} {lo hi a b : Nat} (h : Seg key D lo hi) (p : Prm a b D D') (hd : hi ≤ a ∨ b ≤ lo) : Seg key D' lo hi := by
  refine ⟨fun i j h1 h2 h3 => ?_, fun k h1 h2 => ?_⟩
  · rw [p.out (by omega), p.out (by omega)]; exact h.1 i j h1 h2 h3
  · rw [p.out (by omega)]; exact h.2 k h1 h2
theorem Seg.nil (key D : Nat → Nat) {lo hi : Nat} (h : hi ≤ lo) : Seg key D lo hi := ⟨fun i j h1 h2 h3 => by omega, fun k h1 h2 => by omega⟩

/-- From a on the row lies in sorted blocks of B, the last one cut at N. -/
def From (key D : Nat → Nat) (B a N : Nat) : Prop := ∀ q lo, lo = a + q * B → lo < N → Seg key D lo (min (lo + B) N)
/-- Up to a the row lies in sorted blocks of B. -/
def Upto (key D : Nat → Nat) (B a : Nat) : Prop := ∀ q lo, lo = q * B → lo < a → Seg key D lo (lo + B)

theorem From.step {key D : Nat → Nat} {B a N : Nat} (h : From key D B a N) : From key D B (a + B) N := by
  intro q lo hlo hN
  refine h (q + 1) lo ?_ hN
  rw [Nat.succ_mul]; omega
theorem From.kept {key D D' : Nat → Nat} {B a N b : Nat} (h : From key D B b N) (p : Prm a b D D') : From key D' B b N := by
  intro q lo hlo hN
  exact (h q lo hlo hN).kept p (.inr (by omega))
theorem Upto.zero (key D : Nat → Nat) (B : Nat) : Upto key D B 0 := fun q lo _ h => by omega
/-- A block more is done: [a, a + B). -/
theorem Upto.step {key D D' : Nat → Nat} {B c a : Nat} (h : Upto key D B a) (ha : a = c * B) (p : Prm a (a + B) D D') (s : Seg key D' a (a + B)) : Upto key D' B (a + B) := by
  intro q lo hlo hlt
  by_cases hc : lo < a
  · have hqc : q + 1 ≤ c := by
      apply Classical.byContradiction
      intro hn
      have : c ≤ q := by omega
      have := Nat.mul_le_mul_right B this
      omega
    have h1 := Nat.mul_le_mul_right B hqc
    rw [Nat.succ_mul] at h1
    exact (h q lo hlo hc).kept p (.inl (by omega))
  · have hq : q = c := by
      apply Classical.byContradiction
      intro hn
      rcases Nat.lt_or_gt_of_ne hn with h1 | h1
      · have := Nat.mul_le_mul_right B (show q + 1 ≤ c by omega)
        rw [Nat.succ_mul] at this
        have hB : B = 0 := by omega
        subst hB
        omega
      · have := Nat.mul_le_mul_right B (show c + 1 ≤ q by omega)
        rw [Nat.succ_mul] at this
        omega
    have : lo = a := by rw [hlo, hq, ← ha]
    rw [this]
    exact s
/-- All blocks are done, the last one cut at N. -/
theorem Upto.done {key D D' : Nat → Nat} {B c a N : Nat} (h : Upto key D B a) (ha : a = c * B) (haN : a ≤ N) (hN : N < a + B) (p : Prm a N D D') (s : Seg key D' a N) : From key D' B 0 N := by
  intro q lo hlo hlt
  rw [Nat.zero_add] at hlo
  by_cases hc : lo < a
  · have hqc : q + 1 ≤ c := by
      apply Classical.byContradiction
      intro hn
      have : c ≤ q := by omega
      have := Nat.mul_le_mul_right B this
      omega
    have h1 := Nat.mul_le_mul_right B hqc
    rw [Nat.succ_mul] at h1
    have e : min (lo + B) N = lo + B := by omega
    rw [e]
    exact (h q lo hlo hc).kept p (.inl (by omega))
  · have hq : q = c := by
      apply Classical.byContradiction
      intro hn
      rcases Nat.lt_or_gt_of_ne hn with h1 | h1
      · have := Nat.mul_le_mul_right B (show q + 1 ≤ c by omega)
        rw [Nat.succ_mul] at this
        omega
      · have := Nat.mul_le_mul_right B (show c + 1 ≤ q by omega)
        rw [Nat.succ_mul] at this
        omega
    have : lo = a := by rw [hlo, hq, ← ha]
    rw [this]
    have e : min (a + B) N = N := by omega
    rw [e]
    exact s
theorem From.first {key D : Nat → Nat} {B a N : Nat} (h : From key D B a N) (ha : a < N) : Seg key D a (min (a + B) N) := h 0 a (by simp) ha
end Go.Proofs.Qxb6609296a.Srt

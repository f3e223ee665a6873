import Derived.Test.Qxb6609296aPlain2
namespace Go.Proofs.Qxb6609296a
open Go.RowKit Srt

/-- The values, as a list. -/
def valL (vals : Nat → Int) (m : Nat) : List Int := (List.range m).map vals
theorem valL_len (vals : Nat → Int) (m : Nat) : (valL vals m).length = m := by simp [valL]
theorem valL_get {vals : Nat → Int} {m i : Nat} (h : i < m) : (valL vals m).getD i 0 = vals i := by simp [valL, h]
theorem valL_mem {vals : Nat → Int} {m : Nat} {z : Int} : z ∈ valL vals m ↔ ∃ i, i < m ∧ vals i = z := by simp [valL]

/-! ### the places of the checking loop in the code -/
def inS : Code → Code
  | .block _ c => c
  | .loop c => c
  | c => c
noncomputable def body23 : Code := inS (headS (dropS 1 (inS (inS (dropS 1 (headS (dropS 23 body7)))))))
noncomputable def bodyG : Code := inS (headS (dropS 1 (inS (inS (dropS 1 (dropS 4 body23))))))

/-! ### plain facts -/
theorem those_take {α : Type} (dk : α → Nat) (l : List α) (z : α) (q d : Nat) (h : d < l.length) : those dk (l.take (d + 1)) q = those dk (l.take d) q ++ (if dk (l.getD d z) = q then [l.getD d z] else []) := by
  have e : l.take (d + 1) = l.take d ++ [l.getD d z] := by rw [List.take_succ_eq_append_getElem h]; simp [h]
  rw [e]
  unfold those
  rw [List.filter_append]
  congr 1
  by_cases c : dk (l.getD d z) = q
  · rw [if_pos c]
    have : (dk (l.getD d z) == q) = true := by simpa using c
    simp only [List.filter_cons, this, if_true, List.filter_nil]
  · rw [if_neg c]
    have : (dk (l.getD d z) == q) = false := by simpa using c
    simp only [List.filter_cons, this, List.filter_nil, Bool.false_eq_true, if_false]
theorem those_len {α : Type} (dk : α → Nat) (l : List α) (q : Nat) : (those dk l q).length ≤ l.length := List.length_filter_le _ _
theorem grp_prefix {α : Type} (dk : α → Nat) (l : List α) {q r : Nat} (h : q ≤ r) : ∃ t, grp dk l r = grp dk l q ++ t := by
  induction r with
  | zero => exact ⟨[], by rw [show q = 0 by omega, List.append_nil]⟩
  | succ r ih =>
    by_cases c : q = r + 1
    · exact ⟨[], by rw [c, List.append_nil]⟩
    · obtain ⟨t, ht⟩ := ih (by omega)
      by_cases e : those dk l r = []
      · exact ⟨t, by rw [grp_miss e, ht]⟩
      · exact ⟨t ++ [(r, those dk l r)], by rw [grp_hit e, ht, List.append_assoc]⟩
theorem wantAll_prefix (dk : ByteArray → Nat) (v : Nat) (res : ByteArray) (xs : List As) (k : Nat) : ∃ t, wantAll dk v res xs = wantAll dk v res (xs.take k) ++ t := by
  refine ⟨wantAll dk v res (xs.drop k), ?_⟩
  unfold wantAll
  rw [← List.flatMap_append, List.take_append_drop]
theorem wantAll_at (dk : ByteArray → Nat) (v : Nat) (res : ByteArray) (xs : List As) (k : Nat) (a : As) (hk : xs[k]? = some a) (hr : a.rs = res) (q : Nat) (hq : q ≤ v) (hne : those dk a.devs q ≠ []) :
    (wantAll dk v res xs)[(wantAll dk v res (xs.take k)).length + (grp dk a.devs q).length]? = some ⟨a.ns, a.nm, a.ct, a.rs, q, those dk a.devs q⟩ := by
  obtain ⟨t, ht⟩ := wantAll_prefix dk v res xs (k + 1)
  obtain ⟨u, hu⟩ := grp_prefix dk a.devs (show q + 1 ≤ v + 1 by omega)
  rw [ht, wantAll_snoc dk v res xs k a hk]
  unfold wantOf wants
  rw [if_pos hr, hu, grp_hit hne, List.append_assoc, List.getElem?_append_right (Nat.le_add_right _ _)]
  rw [show (wantAll dk v res (xs.take k)).length + (grp dk a.devs q).length - (wantAll dk v res (xs.take k)).length = (grp dk a.devs q).length by omega]
  simp
theorem wantAll_other (dk : ByteArray → Nat) (v : Nat) (res : ByteArray) (xs : List As) (k : Nat) (a : As) (hk : xs[k]? = some a) (hr : a.rs ≠ res) :
    (wantAll dk v res xs)[(wantAll dk v res (xs.take k)).length]? = some ⟨a.ns, a.nm, a.ct, a.rs, 0, a.devs⟩ := by
  obtain ⟨t, ht⟩ := wantAll_prefix dk v res xs (k + 1)
  rw [ht, wantAll_snoc dk v res xs k a hk]
  unfold wantOf
  rw [if_neg hr, List.append_assoc, List.getElem?_append_right (Nat.le_refl _)]
  simp
theorem wantOf_lenO {dk : ByteArray → Nat} {v : Nat} {res : ByteArray} {a : As} (hr : a.rs ≠ res) : (wantOf dk v res a).length = 1 := by unfold wantOf; rw [if_neg hr]; rfl
theorem wantOf_lenS {dk : ByteArray → Nat} {v : Nat} {res : ByteArray} {a : As} (hr : a.rs = res) : (wantOf dk v res a).length = (grp dk a.devs (v + 1)).length := by unfold wantOf wants; rw [if_pos hr, List.length_map]

/-- The groups that came, cell by cell. -/
def Gots (W : World) (ga : Option Addr) (gs : List Gv) : Prop :=
  0 < gs.length → ∃ b, ga = some ⟨b, 0, none⟩ ∧ b < W.heap.size ∧ ∀ (i : Nat) g, gs[i]? = some g →
    W.cell? ⟨b, i * 6, none⟩ = some (.string g.ns) ∧ W.cell? ⟨b, i * 6 + 1, none⟩ = some (.string g.nm) ∧ W.cell? ⟨b, i * 6 + 2, none⟩ = some (.string g.ct) ∧ W.cell? ⟨b, i * 6 + 3, none⟩ = some (.string g.rs) ∧ W.cell? ⟨b, i * 6 + 4, none⟩ = some g.nv ∧ W.cell? ⟨b, i * 6 + 5, none⟩ = some g.iv
theorem gall_get : ∀ (gs : List Gv) (i j : Nat) (g : Gv), gs[i]? = some g → j < 6 → (gall gs)[i * 6 + j]? = (gcells g)[j]?
  | [], i, j, g, h, _ => by simp at h
  | x :: gs, 0, j, g, h, hj => by
    simp at h
    subst h
    show (gcells x ++ gall gs)[0 * 6 + j]? = _
    rw [show 0 * 6 + j = j by omega, List.getElem?_append_left (by simpa [gcells] using hj)]
  | x :: gs, i + 1, j, g, h, hj => by
    show (gcells x ++ gall gs)[(i + 1) * 6 + j]? = _
    have hl : (gcells x).length = 6 := rfl
    rw [List.getElem?_append_right (by rw [hl]; omega), hl, show (i + 1) * 6 + j - 6 = i * 6 + j by omega]
    exact gall_get gs i j g (by simpa using h) hj
theorem OwnG.gots {Q : Nat → Prop} {w : World} {ga : Option Addr} {G c : Nat} {gs : List Gv} (h : OwnG Q w (.slice ga G c) gs) : G = gs.length ∧ Gots w ga gs ∧ G ≤ c ∧ c ≤ maxLen := by
  rcases h.1.2 with ⟨hv, h0⟩ | ⟨g, cap, cur, hv, _, hg, hl, hm, _, ht⟩
  · injection hv with e1 e2 e3
    subst e1 e2 e3
    exact ⟨h0.symm, fun hp => by omega, Nat.le_refl _, Nat.zero_le _⟩
  · injection hv with e1 e2 e3
    subst e1 e2 e3
    refine ⟨rfl, fun hp => ⟨g, rfl, (Array.getElem?_eq_some_iff.1 hg).1, fun i x hi => ?_⟩, hl, hm⟩
    have hc : ∀ j, j < 6 → w.cell? ⟨g, i * 6 + j, none⟩ = (gcells x)[j]? := by
      intro j hj
      have e := gall_get gs i j x hi hj
      have hlt : j < (gcells x).length := hj
      rw [List.getElem?_eq_getElem hlt] at e ⊢
      have := h.1.cells (g := g) rfl (i * 6 + j) _ e
      have hadd : (⟨g, 0, none⟩ : Addr).add (i * 6 + j) = ⟨g, i * 6 + j, none⟩ := by unfold Addr.add; split <;> simp_all
      rw [hadd] at this
      exact this
    exact ⟨hc 0 (by omega), hc 1 (by omega), hc 2 (by omega), hc 3 (by omega), hc 4 (by omega), hc 5 (by omega)⟩
end Go.Proofs.Qxb6609296a

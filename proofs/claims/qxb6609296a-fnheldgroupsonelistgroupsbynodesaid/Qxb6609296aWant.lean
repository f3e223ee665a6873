import Derived.Test.Qxb6609296aRow
import Derived.Deep.DeepCutAuto
namespace Go.Proofs.Qxb6609296a
open Go.RowKit Srt

/-- A group that is wanted. -/
structure Wt where
  ns : ByteArray
  nm : ByteArray
  ct : ByteArray
  rs : ByteArray
  q : Nat
  ids : List ByteArray

/-- The group g is the wanted x, read in blocks of Q. -/
structure GOk (Q : Nat → Prop) (w : World) (vals : Nat → Int) (g : Gv) (x : Wt) : Prop where
  ns : g.ns = x.ns
  nm : g.nm = x.nm
  ct : g.ct = x.ct
  rs : g.rs = x.rs
  nv : Rd Q w g.nv (numa vals x.q)
  iv : Rd Q w g.iv (x.ids.map .string)

def GsOk (Q : Nat → Prop) (w : World) (vals : Nat → Int) (gs : List Gv) (ws : List Wt) : Prop :=
  gs.length = ws.length ∧ ∀ (i : Nat) g x, gs[i]? = some g → ws[i]? = some x → GOk Q w vals g x

theorem GsOk.nil (Q : Nat → Prop) (w : World) (vals : Nat → Int) : GsOk Q w vals [] [] := ⟨rfl, fun i g x h => by simp at h⟩
theorem GsOk.kq {Q : Nat → Prop} {w w' : World} {vals : Nat → Int} {gs : List Gv} {ws : List Wt} (h : GsOk Q w vals gs ws) (k : Kq Q w w') : GsOk Q w' vals gs ws :=
  ⟨h.1, fun i g x h1 h2 => let o := h.2 i g x h1 h2; ⟨o.ns, o.nm, o.ct, o.rs, o.nv.kq k, o.iv.kq k⟩⟩
theorem GsOk.mono {Q Q' : Nat → Prop} {w : World} {vals : Nat → Int} {gs : List Gv} {ws : List Wt} (h : GsOk Q w vals gs ws) (hq : ∀ k, k < w.heap.size → Q k → Q' k) : GsOk Q' w vals gs ws :=
  ⟨h.1, fun i g x h1 h2 => let o := h.2 i g x h1 h2; ⟨o.ns, o.nm, o.ct, o.rs, o.nv.mono hq, o.iv.mono hq⟩⟩
theorem GsOk.snoc {Q : Nat → Prop} {w : World} {vals : Nat → Int} {gs : List Gv} {ws : List Wt} (h : GsOk Q w vals gs ws) {g : Gv} {x : Wt} (o : GOk Q w vals g x) : GsOk Q w vals (gs ++ [g]) (ws ++ [x]) := by
  refine ⟨by simp [h.1], fun i g' x' h1 h2 => ?_⟩
  by_cases c : i < gs.length
  · rw [List.getElem?_append_left c] at h1
    rw [List.getElem?_append_left (by rw [← h.1]; exact c)] at h2
    exact h.2 i g' x' h1 h2
  · have hi : i = gs.length := by
      have := (List.getElem?_eq_some_iff.1 h1).1
      simp at this
      omega
    subst hi
    rw [List.getElem?_append_right (Nat.le_refl _)] at h1
    rw [List.getElem?_append_right (by rw [h.1]; exact Nat.le_refl _)] at h2
    simp at h1
    rw [h.1] at h2
    simp at h2
    subst h1 h2
    exact o

theorem Rd.form {Q : Nat → Prop} {w : World} {v : Value} {xs : List Value} (h : Rd Q w v xs) : ∃ ao c, v = .slice ao xs.length c := by
  obtain ⟨ao, c, hv, _⟩ := h; exact ⟨ao, c, hv⟩
theorem Rd.one {Q : Nat → Prop} {w : World} {v : Value} {xs : List Value} (h : Rd Q w v xs) : v.oneCell' = true := by
  obtain ⟨ao, c, rfl⟩ := h.form; rfl
/-- A slice that reads at least one cell is no nil slice. -/
theorem Rd.some {Q : Nat → Prop} {w : World} {v : Value} {xs : List Value} (h : Rd Q w v xs) (h0 : 0 < xs.length) : ∃ b off c, v = .slice (some ⟨b, off, none⟩) xs.length c ∧ xs.length ≤ c ∧ c ≤ maxLen ∧ Q b ∧ ∀ i x, xs[i]? = some x → w.cell? ⟨b, off + i, none⟩ = some x := by
  obtain ⟨ao, c, hv, h1, h2, _, h3⟩ := h
  obtain ⟨b, off, rfl, h4, h5⟩ := h3 h0
  exact ⟨b, off, c, hv, h1, h2, h4, h5⟩

/-- The wanted groups of one assignment of the list's resource. -/
def wants (ns nm ct rs : ByteArray) (L : List (Nat × List ByteArray)) : List Wt := L.map fun p => ⟨ns, nm, ct, rs, p.1, p.2⟩

theorem map_getD_string (l : List ByteArray) (i : Nat) (h : i < l.length) : (l.map Value.string)[i]? = some (.string (l.getD i ByteArray.empty)) := by simp [h]
end Go.Proofs.Qxb6609296a

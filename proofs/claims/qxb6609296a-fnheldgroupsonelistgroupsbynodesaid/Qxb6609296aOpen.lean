import Derived.Test.Qxb6609296aBytes
import Derived.ProofKit
import Derived.OpenShut
import Derived.ShutString
import Derived.ChangeOld
import Derived.Deep.Matrix
import Derived.Deep.Strs
import Derived.Deep.Grids
namespace Go.Proofs.Qxb6609296a
open Go.ChangeShapes Go.WideShapes Go.ChangeAt Go.RowKit Go.Deep

/-- A row of one-cell values. -/
theorem rd_of_cells {W : World} {a : Addr} {len cap : Nat} {V : List Value} (hV : V.length = len) (hl : len ≤ cap) (hm : cap ≤ maxLen) (h : ∀ i x, V[i]? = some x → W.cell? (a.add i) = some x) : Rd (· < W.heap.size) W (.slice (some a) len cap) V := by
  subst hV
  refine ⟨some a, cap, rfl, hl, hm, (fun h => by cases h), fun hp => ?_⟩
  have h0 := h 0 _ (List.getElem?_eq_getElem hp)
  obtain ⟨b, off, spot⟩ := a
  have hspot : spot = none := by simpa [Addr.add] using World.cell?_spot h0
  subst hspot
  refine ⟨b, off, rfl, ?_, fun i y hi => ?_⟩
  · have := World.block_lt_of_cell? _ _ h0
    simpa [Addr.add] using this
  · have e := h i y hi
    rw [add_plain] at e
    exact e

section
variable {H : Type} {enc : TypeId × Value → H} {W : World}
theorem openStrs {fuel : Nat} {v : Value} {x : DataW H × List MemPlace} (h : DataW.trod enc Try.prog W 0 (fun _ => true) true fuel 31 [v] = some x) : ∃ L : List ByteArray, Rd (· < W.heap.size) W v (L.map .string) ∧ L.length ≤ maxLen ∧ ∀ i, i < L.length → (L.getD i ByteArray.empty).size ≤ maxLen := by
  rcases open_strs Try.underlying31 Try.underlying9 (by kernel_rfl) h with ⟨hcs, _⟩ | ⟨a, len, cap, m, Sx, hcs, _, hl, hm, hmm, _, hx⟩
  · simp at hcs
    subst hcs
    exact ⟨[], by simpa using Rd.nil _ _, Nat.zero_le _, fun i hi => absurd hi (by simp)⟩
  · simp at hcs
    subst hcs
    simp only [if_true] at hmm
    refine ⟨(List.range len).map Sx, rd_of_cells (by simp) hl hm (fun i y hi => ?_), by simp; omega, fun i hi => ?_⟩
    · have hi' : i < len := by have := (List.getElem?_eq_some_iff.1 hi).1; simpa using this
      rw [(hx i (by omega)).1]
      simpa [hi'] using hi
    · have hi' : i < len := by simpa using hi
      have := (hx i (by omega)).2
      simpa [hi'] using this

theorem openInts {fuel : Nat} {v : Value} {x : DataW H × List MemPlace} (h : DataW.trod enc Try.prog W 0 (fun _ => true) true fuel 32 [v] = some x) : ∃ L : List Int, Rd (· < W.heap.size) W v (L.map (.int .i64)) ∧ L.length ≤ maxLen := by
  rcases open_ints Try.underlying32 Try.underlying2 (by kernel_rfl) h with ⟨hcs, _⟩ | ⟨a, len, cap, zs, hcs, _, hl, hm, hz, _, hx, _⟩
  · simp at hcs
    subst hcs
    exact ⟨[], by simpa using Rd.nil _ _, Nat.zero_le _⟩
  · simp at hcs
    subst hcs
    simp only [if_true] at hz
    refine ⟨zs.take len, rd_of_cells (by simp; omega) hl hm (fun i y hi => ?_), by simp; omega⟩
    have hi' : i < len := by have := (List.getElem?_eq_some_iff.1 hi).1; simp at this; omega
    rw [hx i (by omega)]
    have hz' : i < zs.length := by omega
    simpa [hi', hz'] using hi

theorem openBools {fuel : Nat} {v : Value} {x : DataW H × List MemPlace} (h : DataW.trod enc Try.prog W 0 (fun _ => true) true fuel 33 [v] = some x) : ∃ L : List Bool, Rd (· < W.heap.size) W v (L.map .bool) ∧ L.length ≤ maxLen := by
  rcases open_bools Try.underlying33 Try.underlying4 (by kernel_rfl) h with ⟨hcs, _⟩ | ⟨a, len, cap, B, hcs, _, hl, hm, _, hx⟩
  · simp at hcs
    subst hcs
    exact ⟨[], by simpa using Rd.nil _ _, Nat.zero_le _⟩
  · simp at hcs
    subst hcs
    refine ⟨(List.range len).map B, rd_of_cells (by simp) hl hm (fun i y hi => ?_), by simp; omega⟩
    have hi' : i < len := by have := (List.getElem?_eq_some_iff.1 hi).1; simpa using this
    rw [hx i (by omega)]
    simpa [hi'] using hi

theorem len5 {l : List Value} (h : l.length = 5) : ∃ a b c d e, l = [a, b, c, d, e] := by
  obtain _ | ⟨a, _ | ⟨b, _ | ⟨c, _ | ⟨d, _ | ⟨e, _ | ⟨f, l⟩⟩⟩⟩⟩⟩ := l <;> simp at h
  exact ⟨a, b, c, d, e, rfl⟩
instance : Inhabited As := ⟨⟨ByteArray.empty, ByteArray.empty, ByteArray.empty, ByteArray.empty, []⟩⟩

theorem openAss {fuel : Nat} {v : Value} {x : DataW H × List MemPlace} (h : DataW.trod enc Try.prog W 0 (fun _ => true) true fuel 30 [v] = some x) : ∃ xs : List As, Ass (· < W.heap.size) W v xs ∧ ∀ (i : Nat) a, xs[i]? = some a → AsFit a := by
  have hc : Try.prog.cellsOf 38 = 5 := by kernel_rfl
  rcases open_slice Try.underlying30 h with ⟨hcs, _⟩ | ⟨a, len, cap, m, n, D, Pl, hcs, _, hl, hm, hmm, _, hx⟩
  · simp at hcs
    subst hcs
    exact ⟨[], ⟨none, 0, rfl, Nat.le_refl _, Nat.zero_le _, fun _ => rfl, fun h => absurd h (by simp)⟩, fun i a hi => by simp at hi⟩
  · simp at hcs
    subst hcs
    simp only [if_true] at hmm
    have each : ∀ i, i < len → ∃ q : As, (∃ dv, (W.cell? (a.add (i * 5)) = some (.string q.ns) ∧ W.cell? (a.add (i * 5 + 1)) = some (.string q.nm) ∧ W.cell? (a.add (i * 5 + 2)) = some (.string q.ct) ∧ W.cell? (a.add (i * 5 + 3)) = some (.string q.rs) ∧ W.cell? (a.add (i * 5 + 4)) = some dv) ∧ Rd (· < W.heap.size) W dv (q.devs.map .string)) ∧ AsFit q := by
      intro i hi
      obtain ⟨cs', h1, h2⟩ := hx i (by omega)
      rw [hc] at h1
      obtain ⟨_, hlen, hcell⟩ := World.cells?_some h1
      obtain ⟨ys, k, _, _, _, hyl, hf⟩ := DataW.trod_struct Try.underlying38 h2
      obtain ⟨v0, v1, v2, v3, v4, rfl⟩ := len5 hlen
      have g0 := hf 0 _ rfl
      have g1 := hf 1 _ rfl
      have g2 := hf 2 _ rfl
      have g3 := hf 3 _ rfl
      have g4 := hf 4 _ rfl
      have c9 : Try.prog.cellsOf 9 = 1 := by kernel_rfl
      have c31 : Try.prog.cellsOf 31 = 1 := by kernel_rfl
      simp [c9, c31] at g0 g1 g2 g3 g4
      have hy : ys.length = 5 := by simpa using hyl
      rw [List.getElem?_eq_getElem (by omega)] at g0 g1 g2 g3 g4
      obtain ⟨s0, t0, _, z0⟩ := DataW.trod_string Try.underlying9 g0
      obtain ⟨s1, t1, _, z1⟩ := DataW.trod_string Try.underlying9 g1
      obtain ⟨s2, t2, _, z2⟩ := DataW.trod_string Try.underlying9 g2
      obtain ⟨s3, t3, _, z3⟩ := DataW.trod_string Try.underlying9 g3
      obtain ⟨L, hL, hLl, hLs⟩ := openStrs g4
      simp at t0 t1 t2 t3
      subst t0 t1 t2 t3
      have e0 := hcell 0 (by omega)
      have e1 := hcell 1 (by omega)
      have e2 := hcell 2 (by omega)
      have e3 := hcell 3 (by omega)
      have e4 := hcell 4 (by omega)
      rw [add_add] at e0 e1 e2 e3 e4
      exact ⟨⟨s0, s1, s2, s3, L⟩, ⟨v4, ⟨by simpa using e0, by simpa using e1, by simpa using e2, by simpa using e3, by simpa using e4⟩, hL⟩, ⟨z0, z1, z2, z3, hLl, hLs⟩⟩
    obtain ⟨q, hq⟩ := choose_lt each
    refine ⟨(List.range len).map q, ⟨some a, cap, by simp, by simpa using hl, hm, (fun h => by cases h), fun hp => ?_⟩, fun i b hi => ?_⟩
    · have hp' : 0 < len := by simpa using hp
      obtain ⟨dv0, ⟨h0, _⟩, _⟩ := (hq 0 hp').1
      obtain ⟨b, off, spot⟩ := a
      have hspot : spot = none := by simpa [Addr.add] using World.cell?_spot h0
      subst hspot
      refine ⟨b, off, rfl, ?_, fun i y hi => ?_⟩
      · have := World.block_lt_of_cell? _ _ h0
        simpa [Addr.add] using this
      · have hi' : i < len := by have := (List.getElem?_eq_some_iff.1 hi).1; simpa using this
        have hy : q i = y := by simpa [hi'] using hi
        obtain ⟨dv, ⟨e0, e1, e2, e3, e4⟩, hd⟩ := (hq i hi').1
        rw [add_plain] at e0 e1 e2 e3 e4
        rw [hy] at e0 e1 e2 e3 hd
        exact ⟨dv, e0, e1, e2, e3, e4, hd⟩
    · have hi' : i < len := by have := (List.getElem?_eq_some_iff.1 hi).1; simpa using this
      have hy : q i = b := by simpa [hi'] using hi
      rw [← hy]; exact (hq i hi').2
end
end Go.Proofs.Qxb6609296a

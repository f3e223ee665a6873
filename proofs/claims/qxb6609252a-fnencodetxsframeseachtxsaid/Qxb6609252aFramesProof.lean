import Derived.Test.Qxb6609252aFrames
import Derived.ProofKit
import Derived.OpenShut
import Derived.ShutString
import Derived.ChangeOld
import Derived.Deep.Matrix
namespace Go.Proofs.Qxb6609252a.fnEncodeTxsFramesEachTx
open Go.ChangeShapes Go.WideShapes Go.ChangeAt Go.RowKit Go.Deep

theorem own : ownKnob Try.prog.godebug = none := by kernel_rfl
theorem laidOut : laidOutB Try.prog = true := by kernel_rfl

/-- A list of byte strings that came in. -/
theorem openBlobs {H : Type} {enc : TypeId × Value → H} {W : World} {v : Value} {d : DataW H} {p : List MemPlace} {a : Option Addr} {len cap : Nat} (hv : v = .slice a len cap)
    (h : DataW.Trod enc Try.prog W 0 (fun _ => true) true 35 v d p) : ∃ L, Blobs (fun k => k < W.heap.size) W v L := by
  obtain ⟨fuel, hf⟩ := h
  rcases open_int_rows Try.underlying35 Try.underlying23 Try.underlying5 (by kernel_rfl) (by kernel_rfl) hf with ⟨hcs, _⟩ | ⟨x, l, c, A, Ln, C, Z, hcs, _, hl, hm, _, hr⟩
  · subst hv
    simp [Value.cells] at hcs
    obtain ⟨rfl, rfl, rfl⟩ := hcs
    exact ⟨[], fun _ => .bool false, by simpa using Rd.nil _ _, fun i hi => absurd hi (by simp)⟩
  · subst hv
    simp [Value.cells] at hcs
    obtain ⟨rfl, rfl, rfl⟩ := hcs
    refine ⟨(List.range len).map fun r => (Z r).take (Ln r), fun i => .slice (A i) (Ln i) (C i), ?_, fun i hi => ?_⟩
    · refine ⟨some x, cap, by simp, by simpa using hl, hm, (fun h => by cases h), fun hp => ?_⟩
      have hp' : 0 < len := by simpa using hp
      have h0 := (hr 0 (by omega)).1
      obtain ⟨b, off, spot⟩ := x
      have hspot : spot = none := by simpa [Addr.add] using World.cell?_spot h0
      subst hspot
      refine ⟨b, off, rfl, ?_, fun i y hi => ?_⟩
      · have := World.block_lt_of_cell? _ _ h0
        simpa [Addr.add] using this
      · have hi' : i < len := by have := (List.getElem?_eq_some_iff.1 hi).1; simpa using this
        have e := (hr i (by omega)).1
        rw [add_plain] at e
        rw [e]
        simpa [hi'] using hi
    · have hi' : i < len := by simpa using hi
      obtain ⟨h1, h2, h3, h4, _, h6, h7⟩ := hr i (by omega)
      have e1 : ((List.range len).map fun r => (Z r).take (Ln r)).getD i [] = (Z i).take (Ln i) := by simp [hi']
      rw [e1]
      have e2 : (U8 ((Z i).take (Ln i))).length = Ln i := by simp [U8]; omega
      refine ⟨A i, C i, by rw [e2], by rw [e2]; exact h2, h3, h6, fun hp => ?_⟩
      rw [e2] at hp
      cases hA : A i with
      | none => have := h6 hA; omega
      | some a' =>
        obtain ⟨hb, hc⟩ := h7 a' hA
        have h0 := hc 0 (by omega)
        obtain ⟨b, off, spot⟩ := a'
        have hspot : spot = none := by simpa [Addr.add] using World.cell?_spot h0
        subst hspot
        refine ⟨b, off, rfl, ?_, fun j y hj => ?_⟩
        · have := World.block_lt_of_cell? _ _ h0
          simpa [Addr.add] using this
        · have hj' : j < Ln i := by have := (List.getElem?_eq_some_iff.1 hj).1; omega
          have e := hc j (by omega)
          rw [add_plain] at e
          rw [e]
          have hz : j < (Z i).length := by omega
          simpa [U8, hj', hz] using hj

/-- A byte string that came in. -/
theorem openBytes {H : Type} {enc : TypeId × Value → H} {W : World} {v : Value} {d : DataW H} {p : List MemPlace} {a : Option Addr} {len cap : Nat} (hv : v = .slice a len cap)
    (h : DataW.Trod enc Try.prog W 0 (fun _ => true) true 23 v d p) : ∃ L, Rd (fun k => k < W.heap.size) W v (U8 L) := by
  obtain ⟨fuel, hf⟩ := h
  rcases open_ints Try.underlying23 Try.underlying5 (by kernel_rfl) hf with ⟨hcs, _⟩ | ⟨x, l, c, zs, hcs, _, hl, hm, hz, _, hcell, hwz⟩
  · subst hv
    simp [Value.cells] at hcs
    obtain ⟨rfl, rfl, rfl⟩ := hcs
    exact ⟨[], Rd.nil _ _⟩
  · subst hv
    simp [Value.cells] at hcs
    obtain ⟨rfl, rfl, rfl⟩ := hcs
    simp only [if_true] at hz
    have e2 : (U8 (zs.take len)).length = len := by simp [U8]; omega
    refine ⟨zs.take len, some x, cap, by rw [e2], by rw [e2]; exact hl, hm, (fun h => by cases h), fun hp => ?_⟩
    rw [e2] at hp
    have h0 := hcell 0 (by omega)
    obtain ⟨b, off, spot⟩ := x
    have hspot : spot = none := by simpa [Addr.add] using World.cell?_spot h0
    subst hspot
    refine ⟨b, off, rfl, ?_, fun j y hj => ?_⟩
    · have := World.block_lt_of_cell? _ _ h0
      simpa [Addr.add] using this
    · have hj' : j < len := by have := (List.getElem?_eq_some_iff.1 hj).1; omega
      have e := hcell j (by omega)
      rw [add_plain] at e
      rw [e]
      have hz' : j < zs.length := by omega
      simpa [U8, hj', hz'] using hj

set_option maxRecDepth 100000 in
theorem lifted (os : Os) (started : os.Started) (H : Type) (enc : TypeId × Value → H) :
    ReturnsInHanded {} Try.checked os 5 .any (Rows.fnEncodeTxsFramesEachTxSpec.pre6 enc Try.prog Try.f5 Rows.fnEncodeTxsFramesEachTxRow.domain false) (Rows.fnEncodeTxsFramesEachTxSpec.post enc Try.prog Try.f5 false true false false) := by
  refine returnsInHanded_of_change (C := Try.checked) own started (by kernel_rfl) Try.func5
    (ChangeSpec.witness6 (enc := enc) (C := Try.checked) false ⟨#[], #[.slice none 0 0, .slice none 0 0], []⟩ 8 (by kernel_rfl) (by kernel_rfl) (by kernel_rfl) (by kernel_rfl)) ?_
  intro W base args ds gs before hval0 hW hcnd _
  have hval : ∀ (j : Nat) t v, Try.f5.params[j]? = some t → args[j]? = some v → Value.okWide Try.prog W .any base t v := hval0
  have hW' := hW
  obtain ⟨p, q, hA0, hV, rfl, hfz, hnd⟩ := hW
  have hA : DataW.TrodAll enc Try.prog W 0 (fun _ => true) true Try.f5.params.toList args.toList ds p := hA0
  rw [Try.params5] at hA hval
  obtain ⟨v0, vs0, d0, ds0, p0, q0, hargs, rfl, rfl, h0, r0⟩ := trodAll_cons hA
  obtain ⟨v1, vs1, d1, ds1, p1, q1, rfl, rfl, rfl, h1, r1⟩ := trodAll_cons r0
  obtain ⟨rfl, rfl, rfl⟩ := trodAll_nil r1
  obtain rfl : args = #[v0, v1] := by cases args; simp_all
  obtain ⟨rfl, rfl⟩ := trodVars_none hV
  obtain ⟨a0, len0, cap0, hv0⟩ := okWide_slice Try.underlying23 (hval 0 23 v0 rfl rfl)
  obtain ⟨a1, len1, cap1, hv1⟩ := okWide_slice Try.underlying35 (hval 1 35 v1 rfl rfl)
  have k0 := h0
  have k1 := h1
  have lt0 : ∀ x ∈ p0, x.block < W.heap.size := by obtain ⟨m, hm⟩ := k0; exact DataW.trod_lt m _ _ _ hm
  have lt1 : ∀ x ∈ p1, x.block < W.heap.size := by obtain ⟨m, hm⟩ := k1; exact DataW.trod_lt m _ _ _ hm
  obtain ⟨P, hP⟩ := openBytes hv0 h0
  obtain ⟨B, hB⟩ := openBlobs hv1 h1
  clear hA0 hval0
  refine (frames_walk v0 v1 P B W hP hB).mono fun e W' ⟨he, bel⟩ => ?_
  subst he
  exact ⟨_, rfl, _, _, _, [], _, [], hW', trodAll_mk1 (shut_bool Try.underlying4 _), (trodAll_cons_mk (Below.trod laidOut (by kernel_rfl) (of_decide_eq_true (by kernel_rfl)) k0 bel lt0) (trodAll_cons_mk (Below.trod laidOut (by kernel_rfl) (of_decide_eq_true (by kernel_rfl)) k1 bel lt1) trodAll_mk0)), rfl, bel.frame _, fun h => by cases h⟩

theorem over : Rows.fnEncodeTxsFramesEachTxRow.holds Try.pinned (OpenSpec.ofChange Rows.fnEncodeTxsFramesEachTxSpec) :=
  OpenClaim.holds_of_wide 5 Try.f5 rfl rfl rfl rfl rfl rfl rfl ⟨rfl, rfl, rfl, rfl, rfl⟩ rfl rfl rfl rfl rfl (by kernel_rfl) Try.func5 (by kernel_rfl)
    (of_decide_eq_true (by kernel_rfl)) (by unfold Func.isWrapper; first | (rw [if_pos (by decide +kernel)]; kernel_rfl) | (rw [if_neg (by decide +kernel)]; exact ⟨rfl, rfl⟩))
    (fun os started H enc _ => lifted os started H enc)

/-- THE STATEMENT -/
theorem proved : Rows.FnEncodeTxsFramesEachTxSaid := over
#print axioms proved
end Go.Proofs.Qxb6609252a.fnEncodeTxsFramesEachTx

import Derived.Test.Qxb6609296aFind
namespace Go.Proofs.Qxb6609296a
open Go.RowKit

/-- A topology at block P: vals in block VB, the sets' ends 0, 1, .. in block SB, each device's set in block FB. -/
structure TopAt (w : World) (P VB SB FB n v cV : Nat) (vals : Nat → Int) (of : Nat → Nat) : Prop where
  nodes : w.cell? ⟨P, 0, none⟩ = some (.slice (some ⟨VB, 0, none⟩) v cV)
  ends : w.cell? ⟨P, 1, none⟩ = some (.slice (some ⟨SB, 0, none⟩) (v + 1) (v + 1))
  ofs : w.cell? ⟨P, 2, none⟩ = some (.slice (some ⟨FB, 0, none⟩) n n)
  valc : ∀ i, i < v → w.cell? ⟨VB, i, none⟩ = some (.int .i64 (vals i))
  endc : ∀ i, i < v + 1 → w.cell? ⟨SB, i, none⟩ = some (.int .u32 i)
  ofc : ∀ j, j < n → w.cell? ⟨FB, j, none⟩ = some (.int .u32 (of j))
  vc : v ≤ cV
  cm : cV ≤ maxLen
  vs : v ≤ 4096
  ns : n ≤ 4096
  ofv : ∀ j, j < n → of j ≤ v

theorem TopAt.kq {w w' : World} {P VB SB FB n v cV : Nat} {vals : Nat → Int} {of : Nat → Nat} {Q : Nat → Prop} (h : TopAt w P VB SB FB n v cV vals of) (k : Kq Q w w') (hP : Q P) (hV : Q VB) (hS : Q SB) (hF : Q FB) : TopAt w' P VB SB FB n v cV vals of :=
  ⟨(k.cell (p := ⟨P, 0, none⟩) hP).trans h.nodes, (k.cell (p := ⟨P, 1, none⟩) hP).trans h.ends, (k.cell (p := ⟨P, 2, none⟩) hP).trans h.ofs, fun j hj => (k.cell (p := ⟨VB, j, none⟩) hV).trans (h.valc j hj), fun j hj => (k.cell (p := ⟨SB, j, none⟩) hS).trans (h.endc j hj), fun j hj => (k.cell (p := ⟨FB, j, none⟩) hF).trans (h.ofc j hj), h.vc, h.cm, h.vs, h.ns, h.ofv⟩

theorem topAt_nil (j : Int) (w : World) : Calls Try.prog 36 #[.pointer none, .int .i64 j] w fun e w' => e = .returned (.int .u32 0) ∧ w' = w := by
  go_enter Try.func36, Try.ntmps36
  go_wp2
  go_ret
  exact ⟨rfl, rfl⟩

theorem topAt_any (P VB SB FB n v cV : Nat) (vals : Nat → Int) (of : Nat → Nat) (j : Nat) (w : World) (h : TopAt w P VB SB FB n v cV vals of) (hj : j < n) : Calls Try.prog 36 #[.pointer (some ⟨P, 0, none⟩), .int .i64 j] w fun e w' => e = .returned (.int .u32 (of j)) ∧ w' = w := by
  have c1 := h.ofs
  have c2 := h.ofc j hj
  have hns := h.ns
  have hj' : (j : Int) < (n : Int) := by omega
  clear h
  go_enter Try.func36, Try.ntmps36
  go_wp2
  go_ret
  exact ⟨rfl, rfl⟩

/-- The nodes of set i. -/
def numa (vals : Nat → Int) (i : Nat) : List Value := if i = 0 then [] else [.int .i64 (vals (i - 1))]

theorem topSet_nil (i : Int) (w : World) : Calls Try.prog 30 #[.pointer none, .int .u32 i] w fun e w' => e = .returned (.slice none 0 0) ∧ w' = w := by
  go_enter Try.func30, Try.ntmps30
  go_wp2
  go_ret
  exact ⟨rfl, rfl⟩

set_option maxHeartbeats 1000000 in
theorem bounds_any (P VB SB FB n v cV : Nat) (vals : Nat → Int) (of : Nat → Nat) (i : Nat) (w : World) (h : TopAt w P VB SB FB n v cV vals of) (hi : i ≤ v) :
    Calls Try.prog 43 #[.pointer (some ⟨P, 0, none⟩), .int .u32 i] w fun e w' => e = .returned (.tuple #[.int .u32 (i - 1 : Nat), .int .u32 i]) ∧ ∃ m, w' = w.drewN m := by
  have c1 := h.ends
  have c2 := h.endc i (by omega)
  have hvs := h.vs
  have hi' : (i : Int) < ((v + 1 : Nat) : Int) := by omega
  have hi2 : (i : Int) < (v : Int) + 1 := by omega
  by_cases h0 : i = 0
  · subst h0
    clear h
    go_enter Try.func43, Try.ntmps43
    go_wp2
    go_quiet (fail)
    go_wp2
    go_ret2
    exact ⟨rfl, nq, rfl⟩
  · have c3 := h.endc (i - 1) (by omega)
    obtain ⟨k, rfl⟩ : ∃ k, i = k + 1 := ⟨i - 1, by omega⟩
    simp only [Nat.add_sub_cancel] at c3 ⊢
    have e1 : ((k + 1 : Nat) : Int) = (k : Int) + 1 := by omega
    rw [e1] at c2 hi' hi2 ⊢
    clear h e1 h0
    go_enter Try.func43, Try.ntmps43
    go_wp2
    go_quiet (fail)
    go_wp2
    go_ret2
    exact ⟨rfl, nq, rfl⟩

theorem bounds_zero (P VB SB FB n v cV : Nat) (vals : Nat → Int) (of : Nat → Nat) (w : World) (h : TopAt w P VB SB FB n v cV vals of) :
    Calls Try.prog 43 #[.pointer (some ⟨P, 0, none⟩), .int .u32 0] w fun e w' => e = .returned (.tuple #[.int .u32 0, .int .u32 0]) ∧ ∃ m, w' = w.drewN m :=
  bounds_any P VB SB FB n v cV vals of 0 w h (Nat.zero_le _)

set_option maxHeartbeats 1000000 in
theorem nodeSet_any (P VB SB FB n v cV : Nat) (vals : Nat → Int) (of : Nat → Nat) (i : Nat) (w : World) (h : TopAt w P VB SB FB n v cV vals of) (hi : i ≤ v) :
    Calls Try.prog 38 #[.pointer (some ⟨P, 0, none⟩), .int .u32 i] w fun e w' => ∃ r, e = .returned r ∧ Rd (fun k => k = VB) w r (numa vals i) ∧ ∃ m, w' = w.drewN m := by
  have c1 := h.nodes
  have hvc := h.vc
  have hcm := h.cm
  have hvs := h.vs
  unfold maxLen at hcm
  have H : Hid (TopAt w P VB SB FB n v cV vals of) := h
  clear h
  by_cases h0 : i = 0
  · subst h0
    have HR : ∀ a, Hid (a ≠ none → Rd (fun k => k = VB) w (.slice a 0 cV) (numa vals 0)) := fun a ha => ⟨a, cV, rfl, Nat.zero_le _, by unfold maxLen; omega, fun h => absurd h ha, fun h => absurd h (by simp [numa])⟩
    go_enter Try.func38, Try.ntmps38
    go_wp2_with fail
    refine (bounds_zero P VB SB FB n v cV vals of _ H.out).mono ?_
    rintro e w1 ⟨rfl, m1, rfl⟩
    go_wp2
    go_ret
    refine ⟨_, rfl, (HR _).out (by simp), m1, rfl⟩
  · have c2 := H.out.valc (i - 1) (by omega)
    obtain ⟨k, rfl⟩ : ∃ k, i = k + 1 := ⟨i - 1, by omega⟩
    simp only [Nat.add_sub_cancel] at c2
    have HR : Hid (Rd (fun k => k = VB) w (.slice (some ⟨VB, k, none⟩) 1 (cV - k)) (numa vals (k + 1))) := by
      refine ⟨some ⟨VB, k, none⟩, cV - k, by simp [numa], by simp [numa]; omega, by unfold maxLen; omega, (fun h => by cases h), fun _ => ⟨VB, k, rfl, rfl, fun t x ht => ?_⟩⟩
      have ht0 : t = 0 := by have := (List.getElem?_eq_some_iff.1 ht).1; simpa [numa] using this
      subst ht0
      simp [numa] at ht
      rw [← ht]; exact c2
    have hne : ¬ (cV = k) := by omega
    have hkv : k < cV := by omega
    have hb := fun (w : World) (hw : TopAt w P VB SB FB n v cV vals of) => bounds_any P VB SB FB n v cV vals of (k + 1) w hw hi
    simp only [Nat.add_sub_cancel] at hb
    have HB := (show Hid _ from hb)
    clear hb c2
    go_enter Try.func38, Try.ntmps38
    go_wp2_with fail
    refine (HB.out _ H.out).mono ?_
    rintro e w1 ⟨rfl, m1, rfl⟩
    go_wp2
    go_ret
    exact ⟨_, rfl, by simpa using HR.out, m1, rfl⟩

theorem topSet_any (P VB SB FB n v cV : Nat) (vals : Nat → Int) (of : Nat → Nat) (i : Nat) (w : World) (h : TopAt w P VB SB FB n v cV vals of) (hi : i ≤ v) :
    Calls Try.prog 30 #[.pointer (some ⟨P, 0, none⟩), .int .u32 i] w fun e w' => ∃ r, e = .returned r ∧ Rd (fun k => k = VB) w r (numa vals i) ∧ ∃ m, w' = w.drewN m := by
  have c1 := h.nodes
  have H : Hid (TopAt w P VB SB FB n v cV vals of) := h
  clear h
  go_enter Try.func30, Try.ntmps30
  go_wp2_with fail
  refine (nodeSet_any P VB SB FB n v cV vals of i _ H.out hi).mono ?_
  rintro e w1 ⟨r, rfl, hr, hw⟩
  have HR := (show Hid _ from (⟨hr, hw⟩ : Rd (fun k => k = VB) w r (numa vals i) ∧ ∃ m, w1 = w.drewN m))
  clear hr hw
  go_wp2_with fail
  go_ret
  exact ⟨r, rfl, HR.out⟩
end Go.Proofs.Qxb6609296a

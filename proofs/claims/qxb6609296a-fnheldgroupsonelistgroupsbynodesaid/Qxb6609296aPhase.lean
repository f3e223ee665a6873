import Derived.Test.Qxb6609296aBytes
namespace Go.Proofs.Qxb6609296a
open Go.RowKit Srt

/-- The code behind the first n statements. -/
def dropS : Nat → Code → Code
  | 0, c => c
  | n + 1, .seq _ b => dropS n b
  | _ + 1, c => c
/-- The first statement. -/
def headS : Code → Code
  | .seq a _ => a
  | c => c
noncomputable def body7 : Code := (Try.f7.body).getD .skip

theorem dropS_nil (n : Nat) (c : Code) (h : ∀ x y, c ≠ .seq x y) : dropS n c = c := by
  cases n with
  | zero => rfl
  | succ n => cases c <;> first | rfl | exact absurd rfl (h _ _)
theorem dropS_succ : ∀ (n : Nat) (c : Code), dropS (n + 1) c = dropS 1 (dropS n c)
  | 0, _ => rfl
  | n + 1, c => by
    cases c with
    | seq a b => exact dropS_succ n b
    | _ => rfl
/-- One statement of the law. -/
theorem step7 (n : Nat) (hs : ∃ x y, dropS n body7 = .seq x y) {Q : Exit → Act → World → Prop} {a : Act} {w : World}
    (h : (headS (dropS n body7)).wp Try.prog (Exit.then ((dropS (n + 1) body7).wp Try.prog Q) Q) a w) : (dropS n body7).wp Try.prog Q a w := by
  rw [dropS_succ] at h
  obtain ⟨x, y, e⟩ := hs
  rw [e] at h ⊢
  exact wp_seq h
end Go.Proofs.Qxb6609296a

import Derived.Test.Qxb6609296aCmp
import Derived.Lib.Strings
import Derived.Lib.Bytealg
import Derived.Laws.Externs
namespace Go.Proofs.Qxb6609296a
open Go.RowKit

/-! ### strings in byte order -/
def slt (a b : ByteArray) : Prop := a.data.toList < b.data.toList
theorem slt.trans {a b c : ByteArray} (h : slt a b) (k : slt b c) : slt a c := List.lt_trans h k
theorem slt.irrefl (a : ByteArray) : ¬ slt a a := List.lt_irrefl _
theorem ba_ext {a b : ByteArray} (h : a.data.toList = b.data.toList) : a = b := by
  cases a; cases b; simp only [ByteArray.mk.injEq]; exact Array.toList_inj.1 h
theorem slt.of_not {a b : ByteArray} (h : ¬ slt a b) (hne : a ≠ b) : slt b a := by
  rcases List.le_iff_lt_or_eq.1 (List.not_lt.1 h) with h | h
  · exact h
  · exact absurd (ba_ext h.symm) hne

theorem bytesLess_lt : ∀ (x y : List UInt8), Op.bytesLess x y = decide (x < y)
  | [], [] => by simp [Op.bytesLess]
  | _ :: _, [] => by simp [Op.bytesLess]
  | [], _ :: _ => by simp [Op.bytesLess]
  | a :: x, b :: y => by
    rw [Op.bytesLess, bytesLess_lt x y]
    simp only [List.cons_lt_cons_iff]
    by_cases h1 : a < b <;> by_cases h2 : a = b <;> by_cases h3 : x < y <;> simp [h1, h2, h3]

theorem cmpB_spec : ∀ (x y : List UInt8), (Lib.compareBytes x y < 0 ↔ x < y) ∧ (Lib.compareBytes x y = 0 ↔ x = y)
  | [], [] => by simp [Lib.compareBytes]
  | _ :: _, [] => by simp [Lib.compareBytes]
  | [], _ :: _ => by simp [Lib.compareBytes]
  | a :: x, b :: y => by
    have ih := cmpB_spec x y
    unfold Lib.compareBytes
    rw [List.cons_lt_cons_iff]
    by_cases h1 : a < b
    · have hne : a ≠ b := UInt8.ne_of_lt h1
      simp [h1, hne]
    · by_cases h2 : b < a
      · have hne : a ≠ b := (UInt8.ne_of_lt h2).symm
        simp [h1, h2, hne]
      · have he : a = b := UInt8.le_antisymm (UInt8.not_lt.1 h2) (UInt8.not_lt.1 h1)
        subst he
        simp [h1, ih]

/-- What strings.Compare answers. -/
def scmp (a b : ByteArray) : Int := Lib.compareBytes a.data.toList b.data.toList
theorem scmp_neg {a b : ByteArray} : scmp a b < 0 ↔ slt a b := (cmpB_spec _ _).1
theorem scmp_zero {a b : ByteArray} : scmp a b = 0 ↔ a = b := ⟨fun h => ba_ext ((cmpB_spec _ _).2.1 h), fun h => (cmpB_spec _ _).2.2 (by rw [h])⟩

set_option maxHeartbeats 1000000 in
set_option maxRecDepth 100000 in
theorem compareString_any (a b : ByteArray) (w : World) : Calls Try.prog 46 #[.string a, .string b] w fun e w' => e = .returned (.int .i64 (scmp a b)) ∧ w' = w := by
  go_enter Try.func46, Try.ntmps46
  go_wp2
  rw [run_callFunc_extern Try.func48 (by kernel_rfl) (by kernel_rfl) (by kernel_rfl) (e := Extern.BytealgCompare.compare) (by kernel_rfl), Lib.run_compareString]
  simp only [Result.andThen]
  rw [Oper.upon_value]
  go_wp2
  go_ret
  exact ⟨rfl, rfl⟩

theorem stringsCompare_any (a b : ByteArray) (w : World) : Calls Try.prog 41 #[.string a, .string b] w fun e w' => e = .returned (.int .i64 (scmp a b)) ∧ w' = w := by
  go_enter Try.func41, Try.ntmps41
  go_wp2_with (go_at_call 46; refine (compareString_any _ _ _).mono ?_; rintro e w' ⟨rfl, rfl⟩)
  go_ret
  exact ⟨rfl, rfl⟩

/-! ### the arrangement of a device list -/
/-- Where the ID at position j begins. -/
def beg (E : Nat → Nat) (j : Nat) : Nat := if j = 0 then 0 else E (j - 1)
def idAt (cat : ByteArray) (E : Nat → Nat) (j : Nat) : ByteArray := cat.extract (beg E j) (E j)

structure ArrAt (w : World) (A EB RB n : Nat) (cat : ByteArray) (E rk : Nat → Nat) : Prop where
  ids : w.cell? ⟨A, 0, none⟩ = some (.string cat)
  ends : w.cell? ⟨A, 1, none⟩ = some (.slice (some ⟨EB, 0, none⟩) n n)
  ranks : w.cell? ⟨A, 2, none⟩ = some (.slice (some ⟨RB, 0, none⟩) n n)
  endc : ∀ j, j < n → w.cell? ⟨EB, j, none⟩ = some (.int .u32 (E j))
  rankc : ∀ i, i < n → w.cell? ⟨RB, i, none⟩ = some (.int .u32 (rk i))
  mono : ∀ j, j < n → beg E j ≤ E j
  le : ∀ j, j < n → E j ≤ cat.size
  cs : cat.size ≤ 1048576
  ns : n ≤ 4096
  rkn : ∀ i, i < n → rk i < n
theorem ArrAt.kq {w w' : World} {A EB RB n : Nat} {cat : ByteArray} {E rk : Nat → Nat} {Q : Nat → Prop} (h : ArrAt w A EB RB n cat E rk) (k : Kq Q w w') (hA : Q A) (hE : Q EB) (hR : Q RB) : ArrAt w' A EB RB n cat E rk :=
  ⟨(k.cell (p := ⟨A, 0, none⟩) hA).trans h.ids, (k.cell (p := ⟨A, 1, none⟩) hA).trans h.ends, (k.cell (p := ⟨A, 2, none⟩) hA).trans h.ranks, fun j hj => (k.cell (p := ⟨EB, j, none⟩) hE).trans (h.endc j hj), fun j hj => (k.cell (p := ⟨RB, j, none⟩) hR).trans (h.rankc j hj), h.mono, h.le, h.cs, h.ns, h.rkn⟩
theorem ArrAt.drewN {w : World} {A EB RB n : Nat} {cat : ByteArray} {E rk : Nat → Nat} (h : ArrAt w A EB RB n cat E rk) (m : Nat) : ArrAt (w.drewN m) A EB RB n cat E rk := ⟨h.ids, h.ends, h.ranks, h.endc, h.rankc, h.mono, h.le, h.cs, h.ns, h.rkn⟩

set_option maxHeartbeats 1000000 in
theorem at_any (A EB RB n : Nat) (cat : ByteArray) (E rk : Nat → Nat) (j : Nat) (w : World) (h : ArrAt w A EB RB n cat E rk) (hj : j < n) :
    Calls Try.prog 42 #[.pointer (some ⟨A, 0, none⟩), .int .i64 j] w fun e w' => e = .returned (.string (idAt cat E j)) ∧ ∃ m, w' = w.drewN m := by
  have c0 := h.ids
  have c1 := h.ends
  have c2 := h.endc j hj
  have m1 := h.mono j hj
  have m2 := h.le j hj
  have hcs := h.cs
  have hns := h.ns
  have hj' : (j : Int) < (n : Int) := by omega
  by_cases h0 : j = 0
  · subst h0
    obtain ⟨b, hb⟩ : ∃ b, b = E 0 := ⟨_, rfl⟩
    have HB : Hid (b = E 0) := hb
    rw [← hb] at c2 m2
    clear h m1 hb
    go_enter Try.func42, Try.ntmps42
    go_wp2
    go_quiet (fail)
    go_wp2
    go_ret
    exact ⟨by unfold idAt beg; rw [← HB.out]; rfl, nq, rfl⟩
  · have c3 := h.endc (j - 1) (by omega)
    unfold beg at m1
    rw [if_neg h0] at m1
    obtain ⟨b, hb⟩ : ∃ b, b = E j := ⟨_, rfl⟩
    obtain ⟨a, ha⟩ : ∃ a, a = E (j - 1) := ⟨_, rfl⟩
    have HB : Hid (b = E j ∧ a = E (j - 1) ∧ ¬ j = 0) := ⟨hb, ha, h0⟩
    rw [← hb] at c2 m2 m1
    rw [← ha] at c3 m1
    have h1 : 0 < j := by omega
    clear h hb ha h0
    go_enter Try.func42, Try.ntmps42
    go_wp2
    go_quiet (fail)
    go_wp2
    go_ret
    exact ⟨by unfold idAt beg; rw [if_neg HB.out.2.2, ← HB.out.1, ← HB.out.2.1]; rfl, nq, rfl⟩
end Go.Proofs.Qxb6609296a

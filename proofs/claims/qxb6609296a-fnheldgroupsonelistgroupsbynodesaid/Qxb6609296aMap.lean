import Derived.Test.Qxb6609296aHeld
import Derived.WideMake
namespace Go.Proofs.Qxb6609296a
open Go.RowKit Srt

theorem zero46 (w : World) : (zeroValue 46).run Try.prog w = .ok (.pointer none) w := by kernel_rfl

/-- The one list, kept under one resource. -/
def MapAt (w : World) (M : Nat) (res : ByteArray) (p : Value) : Prop := ∃ born clock, w.heap[M]? = some (.map #[{ key := .string res, val := p, born := born }] clock)

theorem ba_same (a : ByteArray) : (a == a) = true := (MapKept.bytes_beq a a).2 rfl
theorem ba_diff {a b : ByteArray} (h : a ≠ b) : (a == b) = false := by
  cases e : a == b with
  | false => rfl
  | true => exact absurd ((MapKept.bytes_beq a b).1 e) h

theorem lookup_hit {w : World} {M : Nat} {res : ByteArray} {p : Value} (h : MapAt w M res p) : (Instr.lookup 62 (.map (some M)) (.string res) true).run Try.prog w = .ok (.tuple #[p, .bool true]) w := by
  obtain ⟨born, clock, hb⟩ := h
  have hf : Instr.findNow .string (.string res) [({ key := .string res, val := p, born := born } : MapEntry)] 0 = some (some (0, p)) := by simp [Instr.findNow, Instr.sameNow, ba_same]
  have hc' : (Instr.checkKey false 10000 9 (.string res)).run Try.prog w = .ok () w := MapKept.run_checkKey (k := .string res) Try.underlying9 (by simp [MapKept.IsKey]) false 9999
  simp [Instr.lookup, run_underlying Try.underlying62, MapKept.run_getObj_map hb, hc', MapKept.run_findKey Try.underlying9 hf, Result.andThen]

theorem lookup_miss {w : World} {M : Nat} {res s : ByteArray} {p : Value} (h : MapAt w M res p) (hne : s ≠ res) : (Instr.lookup 62 (.map (some M)) (.string s) true).run Try.prog w = .ok (.tuple #[.pointer none, .bool false]) w := by
  obtain ⟨born, clock, hb⟩ := h
  have hf : Instr.findNow .string (.string s) [({ key := .string res, val := p, born := born } : MapEntry)] 0 = some none := by simp [Instr.findNow, Instr.sameNow, ba_diff hne]
  have hc' : (Instr.checkKey false 10000 9 (.string s)).run Try.prog w = .ok () w := MapKept.run_checkKey (k := .string s) Try.underlying9 (by simp [MapKept.IsKey]) false 9999
  simp [Instr.lookup, run_underlying Try.underlying62, MapKept.run_getObj_map hb, hc', MapKept.run_findKey Try.underlying9 hf, Result.andThen]
end Go.Proofs.Qxb6609296a

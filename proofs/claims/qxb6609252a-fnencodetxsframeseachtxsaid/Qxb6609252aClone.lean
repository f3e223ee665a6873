import Derived.Test.Qxb6609252aSizes
namespace Go.Proofs.Qxb6609252a
open Go.RowKit

theorem Try.info5 : (Try.prog.info? 5).map (fun i => (i.zero, i.size, i.bytes)) = some (some (.int .u8 0), 1, 1) := by kernel_rfl
theorem Try.info23 : (Try.prog.info? 23).map (fun i => (i.zero, i.size, i.bytes)) = some (some (.slice none 0 0), 1, 24) := by kernel_rfl
theorem Try.size5 : (Try.prog.info? 5).map (·.size) = some 1 := by kernel_rfl

theorem q23 : ∀ (w : World) (a : Option Addr) (n c n' c' : Nat), (binOp .eql 23 (.slice a n c) (.slice none n' c')).run Try.prog w = .ok (.bool a.isNone) w := fun w a n c n' c' => Lib.run_eql_slice_nil w _ _ a n c n' c' Try.underlying23
theorem q35 : ∀ (w : World) (a : Option Addr) (n c n' c' : Nat), (binOp .eql 35 (.slice a n c) (.slice none n' c')).run Try.prog w = .ok (.bool a.isNone) w := fun w a n c n' c' => Lib.run_eql_slice_nil w _ _ a n c n' c' Try.underlying35

/-- A row that is known whole reads. -/
theorem Rd.row {Q : Nat → Prop} {w : World} {g : Nat} {xs : List Value} {t : TypeId} {f : Nat × Nat} (h : w.heap[g]? = some (.cells xs.toArray t f)) (hm : xs.length ≤ maxLen) (hQ : Q g) : Rd Q w (.slice (some ⟨g, 0, none⟩) xs.length xs.length) xs := by
  refine ⟨_, _, rfl, Nat.le_refl _, hm, (fun h => by cases h), fun _ => ⟨g, 0, rfl, hQ, fun i x hi => ?_⟩⟩
  rw [cell_of_row w g _ _ t f h]
  simpa using hi

/-- 'copy' of a whole slice into a new row of its length. -/
theorem copy_new (Q : Nat → Prop) (w : World) (a : Addr) (bs : List Int) (cx : Nat) (hx : Rd Q w (.slice (some a) bs.length cx) (U8 bs)) (M : List Value) (hM : M.length = bs.length) :
    ∃ w1, (Builtin.copy_ #[23, 23] 3 #[.slice (some ⟨w.heap.size, 0, none⟩) bs.length bs.length, .slice (some a) bs.length cx]).run Try.prog (w.alloc (.cells M.toArray 5)) = .ok (.int .i64 bs.length) w1 ∧
      w1.heap[w.heap.size]? = some (.cells (U8 bs).toArray 5 (0, 0)) ∧ Below w.heap.size w w1 := by
  obtain ⟨ao, c, hv, _, _, _, hcx⟩ := hx.bytes
  simp only [Value.slice.injEq, true_and] at hv
  obtain ⟨rfl, rfl⟩ := hv
  have hrun := run_copy_row (P := Try.prog) (w.alloc (.cells M.toArray 5)) 23 23 3 5 w.heap.size 0 bs.length bs.length a bs.length cx M.toArray 5 (U8 bs) Try.underlying23 Try.size5 (heap_alloc_new w _) (by simp [U8]) ?_ (by simp [U8, hM]) ?_
  · refine ⟨_, by simpa [U8, goInt] using hrun, ?_, ?_⟩
    · rw [setRow_heap _ _ _ _ _ _ (heap_alloc_new w _)]
      simp [U8, hM]
    · exact below_setRow ((Below.refl _ _).alloc (Nat.le_refl _) _) (Nat.le_refl _) _
  · intro j v hv
    have hj : j < bs.length := by have := (List.getElem?_eq_some_iff.1 hv).1; simpa [U8] using this
    obtain ⟨b, off, hab, _, hx'⟩ := hcx (by omega)
    injection hab with hab
    subst hab
    have hadd : (⟨b, off, none⟩ : Addr).add j = ⟨b, off + j, none⟩ := by unfold Addr.add; split <;> simp_all
    rw [hadd]
    have hc := hx' j hj
    have hv' : v = .int .u8 (bs.getD j 0) := by simpa [U8, hj] using hv.symm
    rw [hv', ← hc]
    exact World.cell?_of_block (Below.heap_alloc _ _ _ (World.block_lt_of_cell? _ _ hc))
  · intro v hv; simp [U8] at hv; obtain ⟨_, _, rfl⟩ := hv; rfl

set_option maxHeartbeats 400000 in
theorem clone_any (Q : Nat → Prop) (x : Value) (bs : List Int) (w : World) (hx : Rd Q w x (U8 bs)) (hb : bs.length ≤ 1048576) :
    Calls Try.prog 12 #[x] w fun e w' => ∃ v, e = .returned v ∧ Rd (fun k => w.heap.size ≤ k) w' v (U8 bs) ∧ Below w.heap.size w w' := by
  obtain ⟨ax, cx, rfl, hlx, hmx, hnil, hcx⟩ := hx.bytes
  have hmk := run_make_row' (P := Try.prog) 23 5 (.int .u8 0) 1 Try.underlying23 Try.info5 rfl .i64 .i64 bs.length (by omega) (by omega)
  have hq := q23
  clear hcx
  cases ax with
  | none =>
    have hc0 := hnil rfl
    have hb0 : bs = [] := List.eq_nil_of_length_eq_zero (by omega)
    subst hb0; subst hc0
    clear hmk
    go_enter Try.func12, Try.ntmps12
    go_wp2
    go_ret
    exact ⟨_, rfl, Rd.nil _ _, Below.refl _ _⟩
  | some a =>
    obtain ⟨M, hM, hMs⟩ : ∃ M : List Value, madeCells #[.int .u8 0] bs.length = M.toArray ∧ M.length = bs.length := ⟨(madeCells #[.int .u8 0] bs.length).toList, by simp, by simp [size_madeCells]⟩
    rw [hM] at hmk
    obtain ⟨w1, hcp, hrow, hbel⟩ := copy_new Q w a bs cx hx M hMs
    have HR := (show Hid _ from hrow)
    have HB := (show Hid _ from hbel)
    clear hM hMs hx hnil hrow hbel
    go_enter Try.func12, Try.ntmps12
    go_wp2
    go_ret
    have := Rd.row (Q := fun k => w.heap.size ≤ k) HR.out (by simp [U8]; unfold maxLen; omega) (Nat.le_refl _)
    rw [show (U8 bs).length = bs.length from by simp [U8]] at this
    exact ⟨_, rfl, this, HB.out⟩

theorem cell_row {w : World} {g : Nat} {xs : List Value} {t : TypeId} (h : w.heap[g]? = some (.cells xs.toArray t (0, 0))) {k : Nat} (hk : k < xs.length) : w.cell? ⟨g, k, none⟩ = some (xs.getD k (.bool false)) := by
  rw [cell_of_row w g _ _ t _ h]; simp [hk]
theorem free_row {w : World} {g : Nat} {xs : List Value} {t : TypeId} (h : w.heap[g]? = some (.cells xs.toArray t (0, 0))) (k : Nat) : w.frozen? ⟨g, k, none⟩ = false := by
  simp [World.frozen?, h]
theorem set_row {w : World} {g : Nat} {xs : List Value} {t : TypeId} (h : w.heap[g]? = some (.cells xs.toArray t (0, 0))) (k : Nat) (v : Value) : (w.setCell ⟨g, k, none⟩ v).heap[g]? = some (.cells (xs.set k v).toArray t (0, 0)) := by
  show (w.heap.modify g _)[g]? = _
  rw [Array.getElem?_modify, if_pos rfl, h]
  simp

/-- What the loop of cloneList has made after k rounds: the row at block G, its first k cells clones. -/
def Made (G n : Nat) (L : List (List Int)) (k : Nat) (w : World) : Prop :=
  ∃ xs : List Value, xs.length = n ∧ w.heap[G]? = some (.cells xs.toArray 23 (0, 0)) ∧ ∀ i, i < k → Rd (fun b => G < b) w (xs.getD i (.bool false)) (U8 (L.getD i []))

theorem Made.next {G n k : Nat} {L : List (List Int)} {w w1 : World} {v : Value} (h : Made G n L k w) (hb : Below w.heap.size w w1) (hv : Rd (fun b => w.heap.size ≤ b) w1 v (U8 (L.getD k []))) (hk : k < n) : Made G n L (k + 1) (w1.setCell ⟨G, k, none⟩ v) := by
  obtain ⟨xs, hl, hg, hx⟩ := h
  have hG : G < w.heap.size := (Array.getElem?_eq_some_iff.1 hg).1
  have hg1 : w1.heap[G]? = some (.cells xs.toArray 23 (0, 0)) := by rw [hb.block G hG]; exact hg
  have kq2 : Kq (fun b => G < b) w1 (w1.setCell ⟨G, k, none⟩ v) := (Kq.refl _ _).setCell (by simp) v
  refine ⟨xs.set k v, by simp [hl], set_row hg1 k v, fun i hi => ?_⟩
  by_cases hik : i = k
  · subst hik
    have e : (xs.set i v).getD i (.bool false) = v := by simp [hl, hk]
    rw [e]
    exact (hv.mono (fun b _ hb' => by omega)).kq kq2
  · have e : (xs.set k v).getD i (.bool false) = xs.getD i (.bool false) := by simp [List.getElem?_set_ne (Ne.symm hik)]
    rw [e]
    have h0 := hx i (by omega)
    obtain ⟨ao, c, hv0, hl0, hm0, hn0, hc0⟩ := h0
    refine Rd.kq (w := w1) ⟨ao, c, hv0, hl0, hm0, hn0, fun hp => ?_⟩ kq2
    obtain ⟨b, off, ha, hbG, hcell⟩ := hc0 hp
    refine ⟨b, off, ha, hbG, fun j x hj => ?_⟩
    have := hcell j x hj
    rw [← this]
    exact hb.cell (p := ⟨b, off + j, none⟩) (World.block_lt_of_cell? _ _ this)

set_option maxHeartbeats 1000000 in
theorem cloneList_any (Q : Nat → Prop) (x : Value) (L : List (List Int)) (w : World) (hx : Blobs Q w x L) (hQw : ∀ k, Q k → k < w.heap.size) (hb : ∀ i, i < L.length → (L.getD i []).length ≤ 1048576) (hL : L.length ≤ 1048576) :
    Calls Try.prog 13 #[x] w fun e w' => ∃ v, e = .returned v ∧ Blobs (fun k => w.heap.size ≤ k) w' v L ∧ Below w.heap.size w w' := by
  obtain ⟨ax, cx, V, rfl, hlx, hmx, hnil, hcx, hV⟩ := hx.rows
  have hmk := run_make_row' (P := Try.prog) 35 23 (.slice none 0 0) 24 Try.underlying35 Try.info23 rfl .i64 .i64 L.length (by omega) (by omega)
  have hq := q35
  cases ax with
  | none =>
    have hc0 := hnil rfl
    have hb0 : L = [] := List.eq_nil_of_length_eq_zero (by omega)
    subst hb0; subst hc0
    clear hmk
    go_enter Try.func13, Try.ntmps13
    go_wp2
    go_ret
    exact ⟨_, rfl, ⟨fun _ => .bool false, by simpa using Rd.nil _ _, fun i hi => absurd hi (by simp)⟩, Below.refl _ _⟩
  | some a =>
    obtain ⟨M, hM, hMs⟩ : ∃ M : List Value, madeCells #[.slice none 0 0] L.length = M.toArray ∧ M.length = L.length := ⟨(madeCells #[.slice none 0 0] L.length).toList, by simp, by simp [size_madeCells]⟩
    rw [hM] at hmk
    have H0 : Hid (Made w.heap.size L.length L 0 (w.alloc (.cells M.toArray 23))) := ⟨M, hMs, heap_alloc_new w _, fun i hi => absurd hi (by omega)⟩
    clear hM hMs hx hnil
    go_enter Try.func13, Try.ntmps13
    go_wp2
    go_loopw [4] (fun i wr => ∃ k : Nat, k ≤ L.length ∧ i = .int .i64 k ∧ Made w.heap.size L.length L k wr ∧ Below w.heap.size w wr) (fun i _ => L.length - (intOf i).toNat)
    case atStart => exact ⟨0, Nat.zero_le _, rfl, H0.out, (Below.refl _ _).alloc (Nat.le_refl _) _⟩
    case round =>
      obtain ⟨k, hk, rfl, hmade, hbel⟩ := hrel
      by_cases hlt : k < L.length
      · obtain ⟨b1, o1, hab, hqb, h1⟩ := hcx (by omega)
        injection hab with hab
        subst hab
        have hlt' : (k : Int) < (L.length : Int) := by omega
        have g1 : wr.cell? ⟨b1, o1 + k, none⟩ = some (V k) := (hbel.cell (p := ⟨b1, o1 + k, none⟩) (hQw _ hqb)).trans (h1 k hlt)
        have r1 : Rd Q wr (V k) (U8 (L.getD k [])) := (hV k hlt).kq (Kq.ofBelow hbel hQw)
        have r2 := hb k hlt
        clear h1 hcx hV hb
        go_wp2_with fail
        refine (clone_any Q (V k) (L.getD k []) _ r1 r2).mono ?_
        rintro e w1 ⟨v, rfl, hv, hb1⟩
        have hnext := hmade.next hb1 hv hlt
        obtain ⟨xs, hxl, hxg, _⟩ := hmade
        have hG := (Array.getElem?_eq_some_iff.1 hxg).1
        have hg1 : w1.heap[w.heap.size]? = some (.cells xs.toArray 23 (0, 0)) := by rw [hb1.block _ hG]; exact hxg
        have c1 := cell_row hg1 (k := k) (by omega)
        have f1 := free_row hg1 k
        have hex : ∃ a n c, v = .slice a n c := by obtain ⟨a, c, hv, _⟩ := hv; exact ⟨a, _, c, hv⟩
        have hbel2 : Below w.heap.size w (w1.setCell ⟨w.heap.size, k, none⟩ v) := (hbel.trans (hb1.mono hbel.size)).setCell (Nat.le_refl _) v
        have HX := (show Hid _ from hnext)
        have HB := (show Hid _ from hbel2)
        clear hg1 hxg hnext hbel2 hb1 hv hbel g1 r1 r2 hxl
        obtain ⟨va, vn, vc, rfl⟩ := hex
        go_wp2
        go_roundw
        case rel => exact ⟨k + 1, by omega, by go_num, HX.out, HB.out⟩
        case measure => simp [intOf]; omega
      · obtain rfl : k = L.length := by omega
        go_wp2
        go_ret
        refine ⟨_, rfl, ?_, hbel⟩
        obtain ⟨xs, hxl, hxg, hxs⟩ := hmade
        refine ⟨fun i => xs.getD i (.bool false), ?_, fun i hi => (hxs i hi).mono (fun b _ hb => by omega)⟩
        have e : (List.range L.length).map (fun i => xs.getD i (.bool false)) = xs := by
          apply List.ext_getElem?
          intro i
          by_cases hi : i < L.length
          · simp [hi, hxl]
          · simp [hi, hxl]
        rw [e]
        have := Rd.row (Q := fun k => w.heap.size ≤ k) hxg (by unfold maxLen; omega) (Nat.le_refl _)
        rw [hxl] at this
        exact this
end Go.Proofs.Qxb6609252a

import Derived.Test.Qxb6609252aList
import Derived.Deep.Slices
namespace Go.Proofs.Qxb6609252a
open Go.RowKit

theorem Try.info45 : (Try.prog.info? 45).map (fun i => (i.zero, i.size, i.bytes)) = some (some (.pointer none), 1, 8) := by kernel_rfl

theorem row_le {L : List (List Int)} {i : Nat} (h : i < L.length) : (L.getD i []).length ≤ sumLen L := by
  have h1 := sumLen_take h
  have h2 := sumLen_take_le L (i + 1)
  omega

/-- The row of pointers at block G, the first k of them to new transactions. -/
def TxMade (G : Nat) (V : Nat → Value) (n k : Nat) (w : World) : Prop :=
  ∃ xs : List Value, xs.length = n ∧ w.heap[G]? = some (.cells xs.toArray 45 (0, 0)) ∧ ∀ i, i < k → ∃ T, xs.getD i (.bool false) = .pointer (some ⟨T, 0, none⟩) ∧ G < T ∧ w.cell? ⟨T, 39, none⟩ = some (V i)

theorem TxMade.next {G n k : Nat} {V : Nat → Value} {w w1 : World} (h : TxMade G V n k w) (hb : Below w.heap.size w w1) (hc : w1.cell? ⟨w.heap.size, 39, none⟩ = some (V k)) (hk : k < n) :
    w1.cell? ⟨G, k, none⟩ ≠ none ∧ w1.frozen? ⟨G, k, none⟩ = false ∧ TxMade G V n (k + 1) (w1.setCell ⟨G, k, none⟩ (.pointer (some ⟨w.heap.size, 0, none⟩))) := by
  obtain ⟨xs, hl, hg, hx⟩ := h
  have hG : G < w.heap.size := (Array.getElem?_eq_some_iff.1 hg).1
  have hg1 : w1.heap[G]? = some (.cells xs.toArray 45 (0, 0)) := by rw [hb.block G hG]; exact hg
  have kq2 : Kq (fun b => G < b) w1 (w1.setCell ⟨G, k, none⟩ (.pointer (some ⟨w.heap.size, 0, none⟩))) := (Kq.refl _ _).setCell (by simp) _
  refine ⟨by rw [cell_row hg1 (k := k) (by omega)]; simp, free_row hg1 k, xs.set k (.pointer (some ⟨w.heap.size, 0, none⟩)), by simp [hl], set_row hg1 k _, fun i hi => ?_⟩
  by_cases hik : i = k
  · subst hik
    exact ⟨w.heap.size, by simp [hl, hk], hG, (kq2.cell (p := ⟨w.heap.size, 39, none⟩) hG).trans hc⟩
  · obtain ⟨T, h1, h2, h3⟩ := hx i (by omega)
    refine ⟨T, by simpa [List.getElem?_set_ne (Ne.symm hik)] using h1, h2, ?_⟩
    rw [kq2.cell (p := ⟨T, 39, none⟩) h2, ← h3]
    exact hb.cell (p := ⟨T, 39, none⟩) (World.block_lt_of_cell? _ _ h3)

theorem TxMade.txs {G : Nat} {V : Nat → Value} {L : List (List Int)} {w : World} {Q : Nat → Prop} (h : TxMade G V L.length L.length w) (hm : L.length ≤ maxLen) (hQ : ∀ k, G ≤ k → k < w.heap.size → Q k) (hV : ∀ i, i < L.length → Rd Q w (V i) (U8 (L.getD i []))) :
    Txs Q w (.slice (some ⟨G, 0, none⟩) L.length L.length) L := by
  obtain ⟨xs, hl, hg, hx⟩ := h
  obtain ⟨T, hT⟩ := Deep.choose_lt hx
  refine ⟨T, V, ?_, fun i hi => ⟨hQ _ (Nat.le_of_lt (hT i hi).2.1) (World.block_lt_of_cell? _ _ (hT i hi).2.2), (hT i hi).2.2, hV i hi⟩⟩
  have e : (List.range L.length).map (fun i => Value.pointer (some ⟨T i, 0, none⟩)) = xs := by
    apply List.ext_getElem?
    intro i
    by_cases hi : i < L.length
    · have := (hT i hi).1
      simp [hi, hl] at this ⊢
      exact this.symm
    · simp [hi, hl]
  rw [e]
  exact Rd.block hg (by omega) (hQ G (Nat.le_refl _) (Array.getElem?_eq_some_iff.1 hg).1) hl

theorem TxMade.start {V : Nat → Value} {n : Nat} {w : World} {M : List Value} (hM : M.length = n) : TxMade w.heap.size V n 0 (w.alloc (.cells M.toArray 45)) :=
  ⟨M, hM, heap_alloc_new w _, fun i hi => absurd hi (by omega)⟩

theorem blob_zero (Q : Nat → Prop) (x : Value) (L : List (List Int)) (w : World) (hx : Blobs Q w x L) :
    Calls Try.prog 11 #[x, .int .i64 0] w fun e w' => w' = w ∧ (e = .returned (.tuple #[.int .i64 0, .bool false]) ∨
      (e = .returned (.tuple #[.int .i64 (24 * L.length + sumLen L : Nat), .bool true]) ∧ 24 * L.length + sumLen L ≤ 1048576)) := by
  have h := blob_any Q x L 0 w hx (by omega)
  rw [Nat.zero_add] at h
  exact h

theorem Blobs.mono {Q Q' : Nat → Prop} {w : World} {v : Value} {L : List (List Int)} (h : Blobs Q w v L) (hq : ∀ k, k < w.heap.size → Q k → Q' k) : Blobs Q' w v L := by
  obtain ⟨V, h1, h2⟩ := h
  exact ⟨V, h1.mono hq, fun i hi => (h2 i hi).mono hq⟩
/-- What reads reads in the set of all blocks that are there; and goes on to do so. -/
theorem Blobs.later {Q : Nat → Prop} {w w' : World} {v : Value} {L : List (List Int)} (h : Blobs Q w v L) (hb : Below w.heap.size w w') : Blobs (fun k => k < w'.heap.size) w' v L :=
  ((h.mono (Q' := fun k => k < w.heap.size) (fun _ hk _ => hk)).kq (Kq.ofBelow hb (fun _ h => h))).mono (fun _ hk _ => hk)
theorem Rd.later {Q : Nat → Prop} {w w' : World} {v : Value} {xs : List Value} (h : Rd Q w v xs) (hb : Below w.heap.size w w') : Rd (fun k => k < w'.heap.size) w' v xs :=
  ((h.mono (Q' := fun k => k < w.heap.size) (fun _ hk _ => hk)).kq (Kq.ofBelow hb (fun _ h => h))).mono (fun _ hk _ => hk)
theorem Txs.mono {Q Q' : Nat → Prop} {w : World} {v : Value} {L : List (List Int)} (h : Txs Q w v L) (hq : ∀ k, k < w.heap.size → Q k → Q' k) : Txs Q' w v L := by
  obtain ⟨T, V, h1, h2⟩ := h
  exact ⟨T, V, h1.mono hq, fun i hi => ⟨hq _ (World.block_lt_of_cell? _ _ (h2 i hi).2.1) (h2 i hi).1, (h2 i hi).2.1, (h2 i hi).2.2.mono hq⟩⟩
theorem Txs.later {Q : Nat → Prop} {w w' : World} {v : Value} {L : List (List Int)} (h : Txs Q w v L) (hb : Below w.heap.size w w') : Txs (fun k => k < w'.heap.size) w' v L :=
  ((h.mono (Q' := fun k => k < w.heap.size) (fun _ hk _ => hk)).kq (Kq.ofBelow hb (fun _ h => h))).mono (fun _ hk _ => hk)

/-- A fresh encoder. -/
theorem EncOk.fresh (w : World) : EncOk (fun k => k < w.heap.size) (w.alloc (.cells #[.slice none 0 0] 42)) w.heap.size [] :=
  ⟨.slice none 0 0, heap_alloc_new w _, Own.nil _ _ _, (fun h => by omega), fun k hk => by simp; omega⟩

/-- What an encoder holds, read. -/
theorem EncOk.out {Q : Nat → Prop} {w : World} {E : Nat} {xs : List Int} (h : EncOk Q w E xs) : ∃ v, w.cell? ⟨E, 0, none⟩ = some v ∧ Rd (fun k => k < w.heap.size) w v (U8 xs) := by
  obtain ⟨v, hE, hown, _, _⟩ := h
  exact ⟨v, by simp [World.cell?, hE], hown.rd (fun _ _ h => h)⟩

/-- readList at a place that is a number p; the position behind it a number q; the set of blocks: all that are there. -/
theorem readList_at (v : Value) (pre post bs : List Int) (L : List (List Int)) (p q : Nat) (w : World) (hv : Rd (fun k => k < w.heap.size) w v (U8 bs)) (hbs : bs = pre ++ (encL L ++ post)) (hp : p = pre.length) (hq : q = pre.length + (encL L).length)
    (hb : bs.length ≤ 1073741824) (hL : L.length ≤ 1048576) (hrow : sumLen L ≤ 8388608) :
    Calls Try.prog 18 #[v, .int .i64 p] w fun e w' => ∃ r, e = .returned (.tuple #[r, .int .i64 q, .bool true]) ∧ Blobs (fun k => k < w'.heap.size) w' r L ∧ Below w.heap.size w w' := by
  subst hbs hp hq
  refine (readList_any _ v pre post L w hv (fun _ h => h) hb hL (fun i hi => by have := row_le hi; omega)).mono ?_
  rintro e w' ⟨r, rfl, h1, h2⟩
  exact ⟨r, rfl, h1.mono (fun _ h _ => h), h2⟩
theorem readList_zero (v : Value) (post bs : List Int) (L : List (List Int)) (q : Nat) (w : World) (hv : Rd (fun k => k < w.heap.size) w v (U8 bs)) (hbs : bs = encL L ++ post) (hq : q = (encL L).length)
    (hb : bs.length ≤ 1073741824) (hL : L.length ≤ 1048576) (hrow : sumLen L ≤ 8388608) :
    Calls Try.prog 18 #[v, .int .i64 0] w fun e w' => ∃ r, e = .returned (.tuple #[r, .int .i64 q, .bool true]) ∧ Blobs (fun k => k < w'.heap.size) w' r L ∧ Below w.heap.size w w' :=
  readList_at v [] post bs L 0 q w hv (by simpa using hbs) rfl (by simpa using hq) hb hL hrow

theorem encL_len (L : List (List Int)) : (encL L).length = 4 + 4 * L.length + sumLen L := by
  have := encRows_len L; simp [encL, be4]; omega
end Go.Proofs.Qxb6609252a

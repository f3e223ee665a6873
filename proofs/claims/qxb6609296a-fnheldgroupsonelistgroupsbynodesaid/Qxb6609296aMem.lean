/-
  MEMORY, TOLD BY BLOCKS THAT ARE KEPT. 'Kq Q w w'': the blocks of Q are in w' as they were in w. 'Rd Q w v xs': the slice v reads, in w, as the cells xs, which lie in a block of Q. 'Own Q e w v xs': the slice v owns the cells xs, in a block that is none of Q's.
  The one law that the library lacks: behind an append the new value lies in the old block or in a new one ('run_append_q'), so that it stays apart from Q.
-/
import Derived.WalkKit
import Derived.WalkSpells
import Derived.WalkLawsBesides
import Derived.Laws.CopyOwn
import Derived.Laws.AppendOwnNone
import Derived.Deep.OwnRows
import Derived.Deep.LoopGhost
namespace Go.Proofs.Qxb6609296a
open Go.RowKit

structure Kq (Q : Nat → Prop) (w w' : World) : Prop where
  os : w'.os = w.os
  tape : w'.tape = w.tape
  output : w'.output = w.output
  size : w.heap.size ≤ w'.heap.size
  block : ∀ k, Q k → w'.heap[k]? = w.heap[k]?

theorem Kq.refl (Q : Nat → Prop) (w : World) : Kq Q w w := ⟨rfl, rfl, rfl, Nat.le_refl _, fun _ _ => rfl⟩
theorem Kq.trans {Q : Nat → Prop} {a b c : World} (h : Kq Q a b) (k : Kq Q b c) : Kq Q a c :=
  ⟨k.os.trans h.os, k.tape.trans h.tape, k.output.trans h.output, Nat.le_trans h.size k.size, fun i hi => (k.block i hi).trans (h.block i hi)⟩
theorem Kq.mono {Q Q' : Nat → Prop} {a b : World} (h : Kq Q a b) (hq : ∀ k, Q' k → Q k) : Kq Q' a b :=
  ⟨h.os, h.tape, h.output, h.size, fun i hi => h.block i (hq i hi)⟩
theorem Kq.drew {Q : Nat → Prop} {a b : World} (h : Kq Q a b) : Kq Q a b.drew := ⟨h.os, h.tape, h.output, h.size, h.block⟩
theorem Kq.drewN {Q : Nat → Prop} {a b : World} (h : Kq Q a b) (n : Nat) : Kq Q a (b.drewN n) := ⟨h.os, h.tape, h.output, h.size, h.block⟩
theorem Kq.below {B : Nat} {a b : World} (h : Kq (· < B) a b) : Below B a b := ⟨h.os, h.tape, h.output, h.size, h.block⟩
theorem Kq.ofBelow {B : Nat} {Q : Nat → Prop} {a b : World} (h : Below B a b) (hq : ∀ k, Q k → k < B) : Kq Q a b := ⟨h.os, h.tape, h.output, h.size, fun k hk => h.block k (hq k hk)⟩
theorem Kq.alloc {Q : Nat → Prop} {a b : World} (h : Kq Q a b) (hq : ∀ k, Q k → k < b.heap.size) (o : Obj) : Kq Q a (b.alloc o) :=
  h.trans ⟨rfl, rfl, rfl, by simp, fun k hk => Below.heap_alloc _ _ _ (hq k hk)⟩
theorem Kq.setCell {Q : Nat → Prop} {a b : World} (h : Kq Q a b) {p : Addr} (hp : ¬ Q p.block) (u : Value) : Kq Q a (b.setCell p u) :=
  h.trans ⟨rfl, rfl, rfl, by simp [World.setCell], fun k hk => Below.heap_setCell _ _ _ _ (fun e => hp (e ▸ hk))⟩
theorem Kq.cell {Q : Nat → Prop} {w w' : World} (h : Kq Q w w') {p : Addr} (hp : Q p.block) : w'.cell? p = w.cell? p := World.cell?_of_block (w := w) (h.block p.block hp)
theorem Kq.frozen {Q : Nat → Prop} {w w' : World} (h : Kq Q w w') {p : Addr} (hp : Q p.block) : w'.frozen? p = w.frozen? p := World.frozen?_of_block (w := w) (h.block p.block hp)

/-- The slice v reads as the cells xs, in a block of Q. -/
def Rd (Q : Nat → Prop) (w : World) (v : Value) (xs : List Value) : Prop :=
  ∃ ao c, v = .slice ao xs.length c ∧ xs.length ≤ c ∧ c ≤ maxLen ∧ (ao = none → c = 0) ∧
    (0 < xs.length → ∃ b off, ao = some ⟨b, off, none⟩ ∧ Q b ∧ ∀ i x, xs[i]? = some x → w.cell? ⟨b, off + i, none⟩ = some x)

theorem Rd.nil (Q : Nat → Prop) (w : World) : Rd Q w (.slice none 0 0) [] := ⟨none, 0, rfl, Nat.le_refl _, Nat.zero_le _, fun _ => rfl, fun h => absurd h (by simp)⟩
theorem Rd.kq {Q : Nat → Prop} {w w' : World} {v : Value} {xs : List Value} (h : Rd Q w v xs) (k : Kq Q w w') : Rd Q w' v xs := by
  obtain ⟨ao, c, hv, hl, hm, hn, hc⟩ := h
  refine ⟨ao, c, hv, hl, hm, hn, fun hp => ?_⟩
  obtain ⟨b, off, ha, hb, hx⟩ := hc hp
  exact ⟨b, off, ha, hb, fun i x hi => (k.cell (p := ⟨b, off + i, none⟩) hb).trans (hx i x hi)⟩
theorem Rd.mono {Q Q' : Nat → Prop} {w : World} {v : Value} {xs : List Value} (h : Rd Q w v xs) (hq : ∀ k, k < w.heap.size → Q k → Q' k) : Rd Q' w v xs := by
  obtain ⟨ao, c, hv, hl, hm, hn, hc⟩ := h
  refine ⟨ao, c, hv, hl, hm, hn, fun hp => ?_⟩
  obtain ⟨b, off, ha, hb, hx⟩ := hc hp
  refine ⟨b, off, ha, hq b ?_ hb, hx⟩
  exact World.block_lt_of_cell? _ _ (hx 0 _ (List.getElem?_eq_getElem hp))

/-- The slice v owns the cells xs, in a block that is none of Q's. -/
def Own (Q : Nat → Prop) (e : TypeId) (w : World) (v : Value) (xs : List Value) : Prop :=
  w.ownsRow 0 e 1 v xs.length xs ∧ ∀ k, v.ownBlock = some k → ¬ Q k

theorem Own.nil (Q : Nat → Prop) (e : TypeId) (w : World) : Own Q e w (.slice none 0 0) [] := ⟨World.ownsRow_nil _ _ _ _, fun k h => by simp [Value.ownBlock] at h⟩

/-- What is owned reads; in whatever set of blocks its own block lies. -/
theorem Own.rd {Q Q' : Nat → Prop} {e : TypeId} {w : World} {v : Value} {xs : List Value} (h : Own Q e w v xs) (hq : ∀ k, v.ownBlock = some k → k < w.heap.size → Q' k) : Rd Q' w v xs := by
  rcases h.1.2 with ⟨hv, h0⟩ | ⟨g, cap, cur, hv, _, hg, hl, hm, _, ht⟩
  · have : xs = [] := List.eq_nil_of_length_eq_zero h0
    subst this; subst hv
    exact Rd.nil _ _
  · subst hv
    refine ⟨_, cap, rfl, hl, hm, (fun h => by cases h), fun hp => ⟨g, 0, rfl, hq g rfl (Array.getElem?_eq_some_iff.1 hg).1, fun i x hi => ?_⟩⟩
    have := h.1.cells (g := g) rfl i x hi
    have hadd : (⟨g, 0, none⟩ : Addr).add i = ⟨g, i, none⟩ := by unfold Addr.add; split <;> simp_all
    rw [hadd] at this
    simpa using this

/-- It stays owned while everything but the blocks of a set apart from it may turn. -/
theorem Own.kq {Q R : Nat → Prop} {e : TypeId} {w w' : World} {v : Value} {xs : List Value} (h : Own Q e w v xs) (k : Kq R w w') (hr : ∀ k, v.ownBlock = some k → R k) : Own Q e w' v xs := by
  refine ⟨⟨h.1.1, ?_⟩, h.2⟩
  rcases h.1.2 with hn | ⟨g, cap, cur, hv, hb, hg, rest⟩
  · exact .inl hn
  · exact .inr ⟨g, cap, cur, hv, hb, by rw [k.block g (hr g (by rw [hv]; rfl))]; exact hg, rest⟩

theorem Own.sub {Q Q' : Nat → Prop} {e : TypeId} {w : World} {v : Value} {xs : List Value} (h : Own Q e w v xs) (hq : ∀ k, v.ownBlock = some k → Q' k → Q k) : Own Q' e w v xs :=
  ⟨h.1, fun k hk hq' => h.2 k hk (hq k hk hq')⟩

section
variable {P : Program} (w : World)

/-- AN APPEND ONTO AN OWNED ROW: the new value lies in the old block or in a new one; all of Q is kept. -/
theorem run_append_q (t ty e : TypeId) (i : TypeInfo) (z : Value) (bytes : Nat) (ht : P.underlying t = some (.slice e)) (hi : P.info? e = some i) (hz : i.zero = some z)
    (hsize : i.size = 1) (hby : i.bytes = bytes) (hzs : z.cells.size = 1)
    (Q : Nat → Prop) (hQ : ∀ k, Q k → k < w.heap.size) (v : Value) (xs : List Value) (hown : Own Q e w v xs)
    (Q' : Nat → Prop) (src : Value) (news : List Value) (hsrc : Rd Q' w src news) (h1 : ∀ u ∈ news, u.oneCell' = true)
    (h63 : xs.length + news.length ≤ maxLen) (hbytes : (xs.length + news.length) * bytes ≤ 140737488355328) :
    ∃ v' w', (Builtin.append_ #[t, t] ty #[v, src]).run P w = .ok v' w' ∧ Own Q e w' v' (xs ++ news) ∧ Kq Q w w' ∧ (v'.ownBlock = v.ownBlock ∨ ∃ k, v'.ownBlock = some k ∧ w.heap.size ≤ k) := by
  obtain ⟨ao, c, rfl, hlc, hcm, hnil, hcells⟩ := hsrc
  by_cases hn0 : ao = none
  · subst hn0
    have hc0 := hnil rfl
    subst hc0
    have : news = [] := List.eq_nil_of_length_eq_zero (by omega)
    subst this
    refine ⟨v, w, run_append_owned_none (P := P) (w := w) 0 t ty e i 1 ht hi v _ xs hown.1, by simpa using hown, Kq.refl _ _, .inl rfl⟩
  obtain ⟨ad, rfl⟩ : ∃ ad, ao = some ad := by cases ao with | none => exact absurd rfl hn0 | some a => exact ⟨a, rfl⟩
  have hnews : ∀ j u, news[j]? = some u → w.cell? (ad.add j) = some u := by
    intro j u hu
    have hj := (List.getElem?_eq_some_iff.1 hu).1
    obtain ⟨b, off, hb, _, hx⟩ := hcells (by omega)
    simp only [Option.some.injEq] at hb
    subst hb
    have hadd : (⟨b, off, none⟩ : Addr).add j = ⟨b, off + j, none⟩ := by unfold Addr.add; split <;> simp_all
    rw [hadd]
    exact hx j u hu
  have hl : news.length = news.length * 1 := by omega
  obtain ⟨v', w', hr, hown', hgrow, _⟩ := run_append_own (P := P) w 0 t ty e i z 1 bytes ht hi hz hsize hby hzs (by decide) v xs.length xs hown.1 ad news.length c news hl hnews h1 h63 hbytes (Nat.zero_le _)
  have hblk : v'.ownBlock = v.ownBlock ∨ ∃ k, v'.ownBlock = some k ∧ w.heap.size ≤ k := by
    rcases hown.1.2 with ⟨rfl, h0⟩ | ⟨g, cap, cur, rfl, hbg, hg, hnc, hcmx, hcs, htake⟩
    · have hx0 : xs = [] := List.eq_nil_of_length_eq_zero h0
      subst hx0
      obtain ⟨v2, w2, hr2, hown2, _, _⟩ := run_append_own (P := P) w w.heap.size t ty e i z 1 bytes ht hi hz hsize hby hzs (by decide) (.slice none 0 0) 0 [] (World.ownsRow_nil _ _ _ _) ad news.length c news hl hnews h1 (by simpa using h63) (by simpa using hbytes) (Nat.le_refl _)
      rw [hr] at hr2
      injection hr2 with e1 e2
      subst e1; subst e2
      cases hb : v'.ownBlock with
      | none => left; rfl
      | some k => exact .inr ⟨k, rfl, (hown2.lt k hb).1⟩
    · by_cases hroom : xs.length + news.length ≤ cap
      · have hfit : xs.length * i.size + news.length ≤ cur.size := by rw [hsize, hcs]; omega
        have hr2 := run_append_room (P := P) w t ty e i ht hi g xs.length cap cur hg ad news.length c news (by rw [hsize]; exact hl) hnews h1 hroom hfit
        rw [hr] at hr2
        injection hr2 with e1 e2
        rw [e1]
        left; rfl
      · have holds : ∀ j u, xs[j]? = some u → w.cell? ((⟨g, 0, none⟩ : Addr).add j) = some u := hown.1.cells (g := g) rfl
        have hr2 := run_append_grow (P := P) w t ty e i z ht hi hz ⟨g, 0, none⟩ xs.length cap xs (by rw [hsize]; omega) holds ad news.length c news (by rw [hsize]; exact hl) hnews (by omega) (by simp only [maxLen] at h63; omega) (growslice_fits (by omega) (by rw [hby]; exact hbytes))
        rw [hr] at hr2
        injection hr2 with e1 e2
        rw [e1]
        exact .inr ⟨w.heap.size, rfl, Nat.le_refl _⟩
  have hkq : Kq Q w w' := ⟨hgrow.os, hgrow.tape, hgrow.output, hgrow.size, fun k hk => hgrow.block k (hQ k hk) (fun e => hown.2 k e.symm hk)⟩
  refine ⟨v', w', hr, ⟨by simpa using hown', fun k hk hq => ?_⟩, hkq, hblk⟩
  rcases hblk with hb | ⟨k', hb, hge⟩
  · exact hown.2 k (by rw [← hb]; exact hk) hq
  · rw [hk] at hb
    injection hb with hb
    have := hQ k hq
    omega

theorem wpList_append_q {ops : Array Oper} {rest : List Oper} {o : Oper} {a : Act} {R : Exit → Act → World → Prop} (hgd : o.guard = none) (s x : Operand) (t : TypeId)
    (ho : o.op = .call { callee := .builtin .append, args := #[s, x], argTypes := #[t, t] })
    (e : TypeId) (i : TypeInfo) (z : Value) (bytes : Nat) (ht : P.underlying t = some (.slice e)) (hi : P.info? e = some i) (hz : i.zero = some z)
    (hsize : i.size = 1) (hby : i.bytes = bytes) (hzs : z.cells.size = 1)
    (Q : Nat → Prop) (hQ : ∀ k, Q k → k < w.heap.size) (v : Value) (xs : List Value) (hs : a.eval s = v) (hown : Own Q e w v xs)
    (Q' : Nat → Prop) (src : Value) (news : List Value) (hx : a.eval x = src) (hsrc : Rd Q' w src news) (h1 : ∀ u ∈ news, u.oneCell' = true)
    (h63 : xs.length + news.length ≤ maxLen) (hbytes : (xs.length + news.length) * bytes ≤ 140737488355328)
    (h : ∀ v' w', Own Q e w' v' (xs ++ news) → Kq Q w w' → (v'.ownBlock = v.ownBlock ∨ ∃ k, v'.ownBlock = some k ∧ w.heap.size ≤ k) → wpList P ops R rest (a.put o.dst v') w') : wpList P ops R (o :: rest) a w := by
  refine wpList_plain hgd fun K hK => ?_
  obtain ⟨v', w', hr, h2, h3, h4⟩ := run_append_q (P := P) w t o.type e i z bytes ht hi hz hsize hby hzs Q hQ v xs hown Q' src news hsrc h1 h63 hbytes
  unfold Oper.wp execOp
  simp only [ho, resolve, invoke, builtin, Sem.run_bind, Sem.run_pure, Result.andThen_ok, List.map_toArray, List.map_cons, List.map_nil, hs, hx, hr]
  exact hK _ _ (h v' w' h2 h3 h4)
end

#print axioms wpList_append_q
end Go.Proofs.Qxb6609296a

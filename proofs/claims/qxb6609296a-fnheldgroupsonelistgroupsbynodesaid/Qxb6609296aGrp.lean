import Derived.Test.Qxb6609296aDev
import Derived.Deep.RegionHeld3
namespace Go.Proofs.Qxb6609296a
open Go.RowKit

theorem Try.info54 : (Try.prog.info? 54).map (fun i => (i.zero, i.size, i.bytes)) = some (some (.agg #[.string ⟨#[]⟩, .string ⟨#[]⟩, .string ⟨#[]⟩, .string ⟨#[]⟩, .slice none 0 0, .slice none 0 0]), 6, 112) := by kernel_rfl
theorem Try.info60 : (Try.prog.info? 60).map (fun i => (i.zero, i.size, i.bytes)) = some (some (.agg #[.string ⟨#[]⟩, .string ⟨#[]⟩, .string ⟨#[]⟩, .string ⟨#[]⟩, .slice none 0 0]), 5, 88) := by kernel_rfl
theorem Try.info24 : (Try.prog.info? 24).map (fun i => (i.zero, i.size, i.bytes)) = some (some (.int .u32 0), 1, 4) := by kernel_rfl
theorem Try.info9 : (Try.prog.info? 9).map (fun i => (i.zero, i.size, i.bytes)) = some (some (.string ⟨#[]⟩), 1, 16) := by kernel_rfl
theorem Try.info3 : (Try.prog.info? 3).map (fun i => (i.zero, i.size, i.bytes)) = some (some (.int .i64 0), 1, 8) := by kernel_rfl
theorem Try.info2 : (Try.prog.info? 2).map (fun i => (i.zero, i.size, i.bytes)) = some (some (.int .i64 0), 1, 8) := by kernel_rfl
theorem Try.info5 : (Try.prog.info? 5).map (fun i => (i.zero, i.size, i.bytes)) = some (some (.int .u8 0), 1, 1) := by kernel_rfl

/-- A held group's six cells. -/
structure Gv where
  ns : ByteArray
  nm : ByteArray
  ct : ByteArray
  rs : ByteArray
  nv : Value
  iv : Value
def gcells (g : Gv) : List Value := [.string g.ns, .string g.nm, .string g.ct, .string g.rs, g.nv, g.iv]
def gall (gs : List Gv) : List Value := gs.flatMap gcells
theorem gall_len (gs : List Gv) : (gall gs).length = gs.length * 6 := by
  induction gs with
  | nil => rfl
  | cons g gs ih => simp [gall, gcells] at *; omega
theorem gall_snoc (gs : List Gv) (g : Gv) : gall (gs ++ [g]) = gall gs ++ gcells g := by simp [gall]

/-- The slice v owns the groups gs, in a block that is none of Q's. -/
def OwnG (Q : Nat → Prop) (w : World) (v : Value) (gs : List Gv) : Prop :=
  w.ownsRow 0 54 6 v gs.length (gall gs) ∧ ∀ k, v.ownBlock = some k → ¬ Q k
theorem OwnG.lt {Q : Nat → Prop} {w : World} {v : Value} {gs : List Gv} (h : OwnG Q w v gs) : ∀ k, v.ownBlock = some k → k < w.heap.size := fun k hk => (h.1.lt k hk).2
theorem OwnG.form {Q : Nat → Prop} {w : World} {v : Value} {gs : List Gv} (h : OwnG Q w v gs) : ∃ a c, v = .slice a gs.length c := by
  rcases h.1.2 with ⟨hv, h0⟩ | ⟨g, cap, cur, hv, _⟩
  · exact ⟨_, _, by rw [hv, h0]⟩
  · exact ⟨_, _, hv⟩
theorem OwnG.kq {Q R : Nat → Prop} {w w' : World} {v : Value} {gs : List Gv} (h : OwnG Q w v gs) (k : Kq R w w') (hr : ∀ k, v.ownBlock = some k → R k) : OwnG Q w' v gs := by
  refine ⟨⟨h.1.1, ?_⟩, h.2⟩
  rcases h.1.2 with hn | ⟨g, cap, cur, hv, hb, hg, rest⟩
  · exact .inl hn
  · exact .inr ⟨g, cap, cur, hv, hb, by rw [k.block g (hr g (by rw [hv]; rfl))]; exact hg, rest⟩
theorem OwnG.sub {Q Q' : Nat → Prop} {w : World} {v : Value} {gs : List Gv} (h : OwnG Q w v gs) (hq : ∀ k, v.ownBlock = some k → Q' k → Q k) : OwnG Q' w v gs :=
  ⟨h.1, fun k hk hq' => h.2 k hk (hq k hk hq')⟩
/-- It stays owned, and apart from what is new, while everything old is kept. -/
theorem OwnG.below {Q : Nat → Prop} {w w' : World} {v : Value} {gs : List Gv} (h : OwnG Q w v gs) (hb : Below w.heap.size w w') : OwnG (fun k => Q k ∨ (w.heap.size ≤ k ∧ k < w'.heap.size)) w' v gs := by
  refine ⟨(h.kq (R := fun k => k < w.heap.size) (Kq.ofBelow hb (fun _ h => h)) (fun k hk => h.lt k hk)).1, fun k hk hq => ?_⟩
  rcases hq with hq | ⟨hq, _⟩
  · exact h.2 k hk hq
  · have := h.lt k hk; omega
theorem OwnG.drewN {Q : Nat → Prop} {w : World} {v : Value} {gs : List Gv} (h : OwnG Q w v gs) (n : Nat) : OwnG Q (w.drewN n) v gs := h
theorem OwnG.drew {Q : Nat → Prop} {w : World} {v : Value} {gs : List Gv} (h : OwnG Q w v gs) : OwnG Q w.drew v gs := h
theorem OwnG.alloc {Q : Nat → Prop} {w : World} {v : Value} {gs : List Gv} (h : OwnG Q w v gs) (o : Obj) : OwnG Q (w.alloc o) v gs := ⟨h.1.alloc o, h.2⟩

section
variable (w : World)
/-- AN APPEND OF ONE GROUP, which lies in a block of its own. -/
theorem run_append_g (ty : TypeId) (Q : Nat → Prop) (hQ : ∀ k, Q k → k < w.heap.size) (v : Value) (gs : List Gv) (hown : OwnG Q w v gs) (b : Nat) (g : Gv) (hsrc : w.heap[b]? = some (.cells (gcells g).toArray 54 (0, 0)))
    (h1 : g.nv.oneCell' = true) (h2 : g.iv.oneCell' = true) (hlen : gs.length ≤ 268435456) :
    ∃ v' w', (Builtin.append_ #[44, 44] ty #[v, .slice (some ⟨b, 0, none⟩) 1 1]).run Try.prog w = .ok v' w' ∧ OwnG Q w' v' (gs ++ [g]) ∧ Kq Q w w' ∧ (v'.ownBlock = v.ownBlock ∨ ∃ k, v'.ownBlock = some k ∧ w.heap.size ≤ k) := by
  obtain ⟨i, hi, hz, hsize, hby⟩ := info_parts Try.info54
  have hnews : ∀ j u, (gcells g)[j]? = some u → w.cell? ((⟨b, 0, none⟩ : Addr).add j) = some u := by
    intro j u hu
    have hadd : (⟨b, 0, none⟩ : Addr).add j = ⟨b, j, none⟩ := by unfold Addr.add; split <;> simp_all
    rw [hadd, cell_of_row w b j _ 54 (0, 0) hsrc]
    simpa using hu
  have hl : (gcells g).length = 1 * 6 := rfl
  have hone : ∀ u ∈ gcells g, u.oneCell' = true := by
    intro u hu
    simp only [gcells, List.mem_cons, List.not_mem_nil, or_false] at hu
    rcases hu with rfl | rfl | rfl | rfl | rfl | rfl
    · rfl
    · rfl
    · rfl
    · rfl
    · exact h1
    · exact h2
  obtain ⟨v', w', hr, hown', hgrow, _⟩ := run_append_own (P := Try.prog) w 0 44 ty 54 i _ 6 112 Try.underlying44 hi hz hsize hby rfl (by decide) v gs.length (gall gs) hown.1 ⟨b, 0, none⟩ 1 1 (gcells g) hl hnews hone (by unfold maxLen; omega) (by omega) (Nat.zero_le _)
  have hblk : v'.ownBlock = v.ownBlock ∨ ∃ k, v'.ownBlock = some k ∧ w.heap.size ≤ k := by
    rcases hown.1.2 with ⟨rfl, h0⟩ | ⟨g0, cap, cur, rfl, hbg, hg, hnc, hcmx, hcs, htake⟩
    · have hx0 : gs = [] := List.eq_nil_of_length_eq_zero h0
      subst hx0
      obtain ⟨v2, w2, hr2, hown2, _, _⟩ := run_append_own (P := Try.prog) w w.heap.size 44 ty 54 i _ 6 112 Try.underlying44 hi hz hsize hby rfl (by decide) (.slice none 0 0) 0 [] (World.ownsRow_nil _ _ _ _) ⟨b, 0, none⟩ 1 1 (gcells g) hl hnews hone (by unfold maxLen; omega) (by omega) (Nat.le_refl _)
      rw [hr] at hr2
      injection hr2 with e1 e2
      subst e1; subst e2
      cases hb : v'.ownBlock with
      | none => left; rfl
      | some k => exact .inr ⟨k, rfl, (hown2.lt k hb).1⟩
    · by_cases hroom : gs.length + 1 ≤ cap
      · have hfit : gs.length * i.size + (gcells g).length ≤ cur.size := by rw [hsize, hcs, hl]; omega
        have hr2 := run_append_room (P := Try.prog) w 44 ty 54 i Try.underlying44 hi g0 gs.length cap cur hg ⟨b, 0, none⟩ 1 1 (gcells g) (by rw [hsize]; exact hl) hnews hone hroom hfit
        rw [hr] at hr2
        injection hr2 with e1 e2
        rw [e1]
        left; rfl
      · have holds : ∀ j u, (gall gs)[j]? = some u → w.cell? ((⟨g0, 0, none⟩ : Addr).add j) = some u := hown.1.cells (g := g0) rfl
        have hr2 := run_append_grow (P := Try.prog) w 44 ty 54 i _ Try.underlying44 hi hz ⟨g0, 0, none⟩ gs.length cap (gall gs) (by rw [hsize]; exact gall_len gs) holds ⟨b, 0, none⟩ 1 1 (gcells g) (by rw [hsize]; exact hl) hnews (by omega) (by omega) (growslice_fits (by omega) (by rw [hby]; omega))
        rw [hr] at hr2
        injection hr2 with e1 e2
        rw [e1]
        exact .inr ⟨w.heap.size, rfl, Nat.le_refl _⟩
  have hkq : Kq Q w w' := ⟨hgrow.os, hgrow.tape, hgrow.output, hgrow.size, fun k hk => hgrow.block k (hQ k hk) (fun e => hown.2 k e.symm hk)⟩
  refine ⟨v', w', hr, ⟨by rw [gall_snoc]; simpa using hown', fun k hk hq => ?_⟩, hkq, hblk⟩
  rcases hblk with hb | ⟨k', hb, hge⟩
  · exact hown.2 k (by rw [← hb]; exact hk) hq
  · rw [hk] at hb
    injection hb with hb
    have := hQ k hq
    omega

theorem wpList_append_g {ops : Array Oper} {rest : List Oper} {o : Oper} {a : Act} {R : Exit → Act → World → Prop} (hgd : o.guard = none) (s x : Operand)
    (ho : o.op = .call { callee := .builtin .append, args := #[s, x], argTypes := #[44, 44] })
    (Q : Nat → Prop) (hQ : ∀ k, Q k → k < w.heap.size) (v : Value) (gs : List Gv) (hs : a.eval s = v) (hown : OwnG Q w v gs) (b : Nat) (hx : a.eval x = .slice (some ⟨b, 0, none⟩) 1 1) (g : Gv) (hsrc : w.heap[b]? = some (.cells (gcells g).toArray 54 (0, 0)))
    (h1 : g.nv.oneCell' = true) (h2 : g.iv.oneCell' = true) (hlen : gs.length ≤ 268435456)
    (h : ∀ v' w', OwnG Q w' v' (gs ++ [g]) → Kq Q w w' → (v'.ownBlock = v.ownBlock ∨ ∃ k, v'.ownBlock = some k ∧ w.heap.size ≤ k) → wpList Try.prog ops R rest (a.put o.dst v') w') : wpList Try.prog ops R (o :: rest) a w := by
  refine wpList_plain hgd fun K hK => ?_
  obtain ⟨v', w', hr, h2, h3, h4⟩ := run_append_g w o.type Q hQ v gs hown b g hsrc h1 h2 hlen
  unfold Oper.wp execOp
  simp only [ho, resolve, invoke, builtin, Sem.run_bind, Sem.run_pure, Result.andThen_ok, List.map_toArray, List.map_cons, List.map_nil, hs, hx, hr]
  exact hK _ _ (h v' w' h2 h3 h4)

/-- The same as one step of a region that draws its order. -/
theorem step_append_g {ops : Array Oper} {o : Oper} {a : Act} {K : Act → World → Prop} {R : Exit → Act → World → Prop} {Z : Prop} (hgd : o.guard = none) (s x : Operand)
    (ho : o.op = .call { callee := .builtin .append, args := #[s, x], argTypes := #[44, 44] })
    (Q : Nat → Prop) (hQ : ∀ k, Q k → k < w.heap.size) (v : Value) (gs : List Gv) (hs : a.eval s = v) (hown : OwnG Q w v gs) (b : Nat) (hx : a.eval x = .slice (some ⟨b, 0, none⟩) 1 1) (g : Gv) (hsrc : w.heap[b]? = some (.cells (gcells g).toArray 54 (0, 0)))
    (h1 : g.nv.oneCell' = true) (h2 : g.iv.oneCell' = true) (hlen : gs.length ≤ 268435456)
    (h : ∀ v' w', OwnG Q w' v' (gs ++ [g]) → Kq Q w w' → (v'.ownBlock = v.ownBlock ∨ ∃ k, v'.ownBlock = some k ∧ w.heap.size ≤ k) → K (a.put o.dst v') w') :
    if Region.wanted o (yielded ops a.tmps) = true then Oper.wp Try.prog o a w K R else Z := by
  have hw : Region.wanted o (yielded ops a.tmps) = true := by simp [Region.wanted, hgd]
  rw [if_pos hw]
  obtain ⟨v', w', hr, h2, h3, h4⟩ := run_append_g w o.type Q hQ v gs hown b g hsrc h1 h2 hlen
  unfold Oper.wp execOp
  simp only [ho, resolve, invoke, builtin, Sem.run_bind, Sem.run_pure, Result.andThen_ok, List.map_toArray, List.map_cons, List.map_nil, hs, hx, hr]
  exact h v' w' h2 h3 h4
end
end Go.Proofs.Qxb6609296a

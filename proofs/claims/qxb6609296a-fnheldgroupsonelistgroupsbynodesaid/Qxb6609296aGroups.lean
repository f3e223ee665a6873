import Derived.Test.Qxb6609296aMap
namespace Go.Proofs.Qxb6609296a
open Go.RowKit Srt

/-- An assignment. -/
structure As where
  ns : ByteArray
  nm : ByteArray
  ct : ByteArray
  rs : ByteArray
  devs : List ByteArray

/-- An assignment's five cells, at block b from cell o on. -/
structure AsAt (Q : Nat → Prop) (w : World) (b o : Nat) (a : As) (dv : Value) : Prop where
  ns : w.cell? ⟨b, o, none⟩ = some (.string a.ns)
  nm : w.cell? ⟨b, o + 1, none⟩ = some (.string a.nm)
  ct : w.cell? ⟨b, o + 2, none⟩ = some (.string a.ct)
  rs : w.cell? ⟨b, o + 3, none⟩ = some (.string a.rs)
  dc : w.cell? ⟨b, o + 4, none⟩ = some dv
  dv : Rd Q w dv (a.devs.map .string)
theorem AsAt.kq {Q R : Nat → Prop} {w w' : World} {b o : Nat} {a : As} {dv : Value} (h : AsAt Q w b o a dv) (k : Kq R w w') (hR : ∀ k, Q k → R k) (hb : R b) : AsAt Q w' b o a dv :=
  ⟨(k.cell (p := ⟨b, o, none⟩) hb).trans h.ns, (k.cell (p := ⟨b, o + 1, none⟩) hb).trans h.nm, (k.cell (p := ⟨b, o + 2, none⟩) hb).trans h.ct, (k.cell (p := ⟨b, o + 3, none⟩) hb).trans h.rs, (k.cell (p := ⟨b, o + 4, none⟩) hb).trans h.dc, h.dv.kq (k.mono hR)⟩
theorem AsAt.mono {Q Q' : Nat → Prop} {w : World} {b o : Nat} {a : As} {dv : Value} (h : AsAt Q w b o a dv) (hq : ∀ k, k < w.heap.size → Q k → Q' k) : AsAt Q' w b o a dv := ⟨h.ns, h.nm, h.ct, h.rs, h.dc, h.dv.mono hq⟩

/-- The slice v reads as the assignments xs. -/
def Ass (Q : Nat → Prop) (w : World) (v : Value) (xs : List As) : Prop :=
  ∃ ao c, v = .slice ao xs.length c ∧ xs.length ≤ c ∧ c ≤ maxLen ∧ (ao = none → c = 0) ∧ (0 < xs.length → ∃ b off, ao = some ⟨b, off, none⟩ ∧ Q b ∧ ∀ (i : Nat) a, xs[i]? = some a → ∃ dv, AsAt Q w b (off + i * 5) a dv)
theorem Ass.kq {Q : Nat → Prop} {w w' : World} {v : Value} {xs : List As} (h : Ass Q w v xs) (k : Kq Q w w') : Ass Q w' v xs := by
  obtain ⟨ao, c, hv, h1, h2, hn, h3⟩ := h
  refine ⟨ao, c, hv, h1, h2, hn, fun h0 => ?_⟩
  obtain ⟨b, off, ha, hb, hx⟩ := h3 h0
  refine ⟨b, off, ha, hb, fun i a hi => ?_⟩
  obtain ⟨dv, hd⟩ := hx i a hi
  exact ⟨dv, hd.kq k (fun _ h => h) hb⟩
theorem Ass.mono {Q Q' : Nat → Prop} {w : World} {v : Value} {xs : List As} (h : Ass Q w v xs) (hq : ∀ k, k < w.heap.size → Q k → Q' k) : Ass Q' w v xs := by
  obtain ⟨ao, c, hv, h1, h2, hn, h3⟩ := h
  refine ⟨ao, c, hv, h1, h2, hn, fun h0 => ?_⟩
  obtain ⟨b, off, ha, hb, hx⟩ := h3 h0
  refine ⟨b, off, ha, hq b ?_ hb, fun i a hi => ?_⟩
  · obtain ⟨dv, hd⟩ := hx 0 _ (List.getElem?_eq_getElem h0)
    exact World.block_lt_of_cell? _ _ hd.ns
  · obtain ⟨dv, hd⟩ := hx i a hi
    exact ⟨dv, hd.mono hq⟩

/-- A device list, all that is said of it. -/
structure Dl where
  L : Nat
  A : Nat
  EB : Nat
  RB : Nat
  n : Nat
  cat : ByteArray
  E : Nat → Nat
  rk : Nat → Nat
  tp : Value
  v : Nat
  vals : Nat → Int
  of : Nat → Nat
  dk : ByteArray → Nat
structure Dl.At (d : Dl) (Q : Nat → Prop) (w : World) : Prop where
  dev : DevAt Q w d.L d.A d.EB d.RB d.n d.cat d.E d.rk d.tp d.v d.vals d.of
  key : KeyOf d.n d.v d.cat d.E d.rk d.of d.dk
theorem Dl.At.kq {d : Dl} {Q : Nat → Prop} {w w' : World} (h : d.At Q w) (k : Kq Q w w') : d.At Q w' := ⟨h.dev.kq k, h.key⟩
theorem Topo.mono {Q Q' : Nat → Prop} {w : World} {tp : Value} {n v : Nat} {vals : Nat → Int} {of : Nat → Nat} (h : Topo Q w tp n v vals of) (hq : ∀ k, Q k → Q' k) : Topo Q' w tp n v vals of := by
  rcases h with h | ⟨P, VB, SB, FB, cV, e, h, hP, hV, hS, hF⟩
  · exact .inl h
  · exact .inr ⟨P, VB, SB, FB, cV, e, h, hq _ hP, hq _ hV, hq _ hS, hq _ hF⟩
theorem Dl.At.mono {d : Dl} {Q Q' : Nat → Prop} {w : World} (h : d.At Q w) (hq : ∀ k, Q k → Q' k) : d.At Q' w :=
  ⟨⟨h.dev.arrp, h.dev.top, h.dev.arr, h.dev.ranked, h.dev.topo.mono hq, hq _ h.dev.qL, hq _ h.dev.qA, hq _ h.dev.qE, hq _ h.dev.qR⟩, h.key⟩

/-- What is wanted of one assignment. -/
def wantOf (dk : ByteArray → Nat) (v : Nat) (res : ByteArray) (a : As) : List Wt := if a.rs = res then wants a.ns a.nm a.ct a.rs (grp dk a.devs (v + 1)) else [⟨a.ns, a.nm, a.ct, a.rs, 0, a.devs⟩]
def wantAll (dk : ByteArray → Nat) (v : Nat) (res : ByteArray) (xs : List As) : List Wt := xs.flatMap (wantOf dk v res)
theorem grp_len {α : Type} (dk : α → Nat) (l : List α) (q : Nat) : (grp dk l q).length ≤ q := by
  unfold grp
  exact Nat.le_trans (List.length_filterMap_le _ _) (by simp)
theorem wantOf_len (dk : ByteArray → Nat) (v : Nat) (res : ByteArray) (a : As) : (wantOf dk v res a).length ≤ v + 1 := by
  unfold wantOf
  split
  · simp only [wants, List.length_map]; exact grp_len _ _ _
  · simp
theorem wantAll_len (dk : ByteArray → Nat) (v : Nat) (res : ByteArray) (xs : List As) : (wantAll dk v res xs).length ≤ xs.length * (v + 1) := by
  induction xs with
  | nil => simp [wantAll]
  | cons a xs ih =>
    have h1 := wantOf_len dk v res a
    simp only [wantAll, List.flatMap_cons, List.length_append, List.length_cons, Nat.succ_mul] at *
    omega
theorem wantAll_snoc (dk : ByteArray → Nat) (v : Nat) (res : ByteArray) (xs : List As) (k : Nat) (a : As) (h : xs[k]? = some a) : wantAll dk v res (xs.take (k + 1)) = wantAll dk v res (xs.take k) ++ wantOf dk v res a := by
  rw [List.take_add_one, h]; simp [wantAll]
theorem MapAt.kq {Q : Nat → Prop} {w w' : World} {M : Nat} {res : ByteArray} {p : Value} (h : MapAt w M res p) (k : Kq Q w w') (hM : Q M) : MapAt w' M res p := by
  obtain ⟨born, clock, hb⟩ := h
  exact ⟨born, clock, by rw [k.block M hM]; exact hb⟩

theorem heap_alloc_at (w : World) (o : Obj) {k : Nat} (h : k = w.heap.size) : (w.alloc o).heap[k]? = some o := by subst h; exact heap_alloc_new w o

set_option maxRecDepth 100000 in
set_option maxHeartbeats 4000000 in
theorem groups_any (Q : Nat → Prop) (d : Dl) (M : Nat) (res : ByteArray) (av : Value) (xs : List As) (w : World) (hQ : ∀ k, Q k → k < w.heap.size) (hd : d.At Q w) (hm : MapAt w M res (.pointer (some ⟨d.L, 0, none⟩))) (hM : Q M) (ha : Ass Q w av xs)
    (hne : ∀ (i : Nat) a, xs[i]? = some a → a.rs = res → 0 < a.devs.length) (hb : ∀ (i : Nat) a, xs[i]? = some a → a.devs.length ≤ 1048576) (hn : xs.length ≤ 16384) (hv : d.v ≤ 4096) :
    Calls Try.prog 24 #[av, .map (some M)] w fun e w' => ∃ (Q' : Nat → Prop) (r : Value) (gs : List Gv), e = .returned r ∧ (∀ k, Q k → Q' k) ∧ (∀ k, Q' k → k < w'.heap.size) ∧ OwnG Q' w' r gs ∧ Kq Q w w' ∧ GsOk Q' w' d.vals gs (wantAll d.dk d.v res xs) := by
  obtain ⟨ao, c, rfl, hc1, hc2, hnl, hcells⟩ := ha
  obtain ⟨N, hN⟩ : ∃ N, N = xs.length := ⟨_, rfl⟩
  obtain ⟨i54, hi54, hz54, hs54, hb54⟩ := info_parts Try.info54
  obtain ⟨w0, hmk, hown0, hgr⟩ := run_makeSlice_owned (P := Try.prog) w 0 44 54 i54 _ 6 Try.underlying44 hi54 hz54 hs54 .i64 .i64 N (by omega) (by rw [hb54]; omega) (by unfold maxLen; omega) (Nat.zero_le _)
  have HG0 : Hid (OwnG Q w0 (.slice (some ⟨w.heap.size, 0, none⟩) 0 N) [] ∧ Kq Q w w0) := by
    refine ⟨⟨by simpa [gall] using hown0, fun k hk hq => ?_⟩, ⟨hgr.os, hgr.tape, hgr.output, hgr.size, fun k hk => hgr.block k (hQ k hk) (by simp)⟩⟩
    simp only [Value.ownBlock, Option.some.injEq] at hk
    have := hQ k hq; omega
  have HQ : Hid (∀ k, Q k → k < w.heap.size) := hQ
  have HD : Hid (d.At Q w ∧ MapAt w M res (.pointer (some ⟨d.L, 0, none⟩)) ∧ Q M) := ⟨hd, hm, hM⟩
  have HC : Hid (0 < xs.length → ∃ b off, ao = some ⟨b, off, none⟩ ∧ Q b ∧ ∀ (i : Nat) a, xs[i]? = some a → ∃ dv, AsAt Q w b (off + i * 5) a dv) := hcells
  have HB : Hid ((∀ (i : Nat) a, xs[i]? = some a → a.rs = res → 0 < a.devs.length) ∧ (∀ (i : Nat) a, xs[i]? = some a → a.devs.length ≤ 1048576)) := ⟨hne, hb⟩
  have HN : Hid (N = xs.length) := hN
  rw [← hN] at hc1 hn ⊢
  clear hQ hd hm hM hcells hne hb hN hnl hown0 hgr hi54 hz54 hs54 hb54
  go_enter Try.func24, Try.ntmps24
  go_wp2_with fail
  go_loopw [5, 15] (fun r p x => ∃ (k : Nat) (Q' : Nat → Prop) (gs : List Gv), k ≤ N ∧ p = .int .i64 k ∧ (∀ j, Q j → Q' j) ∧ (∀ j, Q' j → j < x.heap.size) ∧ Kq Q w x ∧ OwnG Q' x r gs ∧ GsOk Q' x d.vals gs (wantAll d.dk d.v res (xs.take k))) (fun _ p _ => N - (intOf p).toNat)
  case atStart => exact ⟨0, Q, [], Nat.zero_le _, rfl, fun _ h => h, fun j hj => Nat.lt_of_lt_of_le (HQ.out j hj) HG0.out.2.size, HG0.out.2, HG0.out.1, by simpa [wantAll] using GsOk.nil _ _ _⟩
  case round =>
    obtain ⟨k, Q', gs, hk, rfl, hq1, hq2, hkq, hown, hgs⟩ := hrel
    have HX : Hid ((∀ j, Q j → Q' j) ∧ (∀ j, Q' j → j < wr.heap.size) ∧ Kq Q w wr ∧ OwnG Q' wr u5 gs ∧ GsOk Q' wr d.vals gs (wantAll d.dk d.v res (xs.take k))) := ⟨hq1, hq2, hkq, hown, hgs⟩
    clear hq1 hq2 hkq hown hgs HG0 hmk
    by_cases hlt : k < N
    · have hlt' : (k : Int) < (N : Int) := by omega
      obtain ⟨b, off, hao, hbQ, hcs⟩ := HC.out (by have := HN.out; omega)
      obtain ⟨a, hak⟩ : ∃ a, xs[k]? = some a := ⟨_, List.getElem?_eq_getElem (by have := HN.out; omega)⟩
      obtain ⟨dv, hdv⟩ := hcs k a hak
      have hat := hdv.kq HX.out.2.2.1 (fun _ h => h) hbQ
      subst hao
      obtain ⟨e0, e1, e2, e3, e4, hrd⟩ := id hat
      obtain ⟨da, dc, hdf⟩ := hrd.form
      have HR : Hid (Rd Q wr dv (a.devs.map .string)) := hrd
      have HA : Hid (xs[k]? = some a) := hak
      clear hdv hat hrd hcs hak hbQ
      subst hdf
      have hgl : gs.length ≤ 67125248 := by
        have h1 := HX.out.2.2.2.2.1
        have h2 := wantAll_len d.dk d.v res (xs.take k)
        have h3 : (xs.take k).length ≤ 16384 := by rw [List.length_take]; omega
        have h4 : (xs.take k).length * (d.v + 1) ≤ 16384 * 4097 := Nat.mul_le_mul h3 (by omega)
        omega
      obtain ⟨ns, nm, ct, rs, devs⟩ := a
      simp only at e0 e1 e2 e3 e4
      obtain ⟨W, hW⟩ : ∃ W, W = wr.alloc (.cells #[.string ns, .string nm, .string ct, .string rs, .slice da (devs.map Value.string).length dc] 60) := ⟨_, rfl⟩
      have hkW : Kq Q' wr W := by rw [hW]; exact (Kq.refl _ _).alloc HX.out.2.1 _
      have hmW : MapAt W M res (.pointer (some ⟨d.L, 0, none⟩)) := (HD.out.2.1.kq HX.out.2.2.1 HD.out.2.2).kq (hkW.mono HX.out.1) HD.out.2.2
      have HW : Hid (Kq Q' wr W ∧ OwnG Q' W u5 gs) := ⟨hkW, by rw [hW]; exact HX.out.2.2.2.1.alloc _⟩
      have HWd : Hid (d.At Q' W) := (((HD.out.1.kq HX.out.2.2.1).mono HX.out.1).kq hkW)
      have hmap : (devs.map Value.string).length = devs.length := List.length_map _
      rw [hmap] at hW e4
      by_cases hrs : rs = res
      · subst hrs
        have hlk := lookup_hit hmW
        rw [hW] at hlk
        have HWe : Hid (W = wr.alloc (.cells #[.string ns, .string nm, .string ct, .string rs, .slice da devs.length dc] 60)) := hW
        clear hW hkW hmW
        go_wp2_with fail
        rw [← HWe.out]
        refine (held_any Q' d.L d.A d.EB d.RB d.n d.cat d.E d.rk d.tp d.v d.vals d.of d.dk ns nm ct rs (.slice da devs.length dc) u5 devs gs (wantAll d.dk d.v rs (xs.take k)) W ?p1 HWd.out.dev HWd.out.key ?p2 HW.out.2 ?p3 ?p4 ?p5 ?p6).mono ?_
        case p1 => intro j hj; have := HX.out.2.1 j hj; have := HW.out.1.size; omega
        case p2 =>
          have h5 : Rd Q wr (.slice da devs.length dc) (devs.map .string) := by have := HR.out; rw [hmap] at this; exact this
          exact (h5.mono (fun j _ hj => HX.out.1 j hj)).kq HW.out.1
        case p3 => exact HX.out.2.2.2.2.kq HW.out.1
        case p4 => exact HB.out.1 k _ HA.out rfl
        case p5 => exact HB.out.2 k _ HA.out
        case p6 => have := HB.out.2 k _ HA.out; simp only at this; omega
        rintro e w1 ⟨I, r, gs', rfl, hI1, hI2, ho, hk1, hg1⟩
        have HZ : Hid (W.heap.size ≤ I ∧ I < w1.heap.size ∧ OwnG (fun k => Q' k ∨ k = I) w1 r gs' ∧ Kq Q' W w1 ∧ GsOk (fun k => Q' k ∨ k = I) w1 d.vals gs' (wantAll d.dk d.v rs (xs.take k) ++ wants ns nm ct rs (grp d.dk devs (d.v + 1)))) := ⟨hI1, hI2, ho, hk1, hg1⟩
        clear hI1 hI2 ho hk1 hg1 hlk
        go_wp2_with fail
        go_roundw
        case rel =>
          obtain ⟨x1, x2, x3, x4, x5⟩ := HX.out
          obtain ⟨z1, z2, z3, z4, z5⟩ := HZ.out
          have hkk : Kq Q' wr w1 := HW.out.1.trans z4
          refine ⟨k + 1, fun j => Q' j ∨ j = I, gs', by omega, by go_num, fun j hj => .inl (x1 j hj), fun j hj => ?_, x3.trans (hkk.mono x1), z3, ?_⟩
          · rcases hj with hj | hj
            · have := x2 j hj; have := hkk.size; omega
            · omega
          · rw [wantAll_snoc d.dk d.v rs xs k _ HA.out]
            simpa [wantOf] using z5
        case measure => simp [intOf]; omega
      · have hlk := lookup_miss hmW hrs
        rw [hW] at hlk
        have HWe : Hid (W = wr.alloc (.cells #[.string ns, .string nm, .string ct, .string rs, .slice da devs.length dc] 60)) := hW
        have HRS : Hid (rs ≠ res) := hrs
        clear hW hkW hmW hrs
        go_wp2_with (at_builtin; refine wpList_append_g _ rfl (.tmp 31) (.tmp 42) rfl Q' ?hq u5 gs rfl ((HX.out.2.2.2.1.alloc _).alloc _) _ rfl ⟨ns, nm, ct, rs, .slice none 0 0, .slice da devs.length dc⟩ (heap_alloc_at _ _ (by simp)) rfl rfl ?hlen ?_)
        case hq => intro j hj; have := HX.out.2.1 j hj; simp; omega
        case hlen => omega
        intro v' w1 ho hk1 hb1
        have HZ : Hid (OwnG Q' w1 v' (gs ++ [⟨ns, nm, ct, rs, .slice none 0 0, .slice da devs.length dc⟩]) ∧ Kq Q' wr w1) := by
          refine ⟨ho, Kq.trans ?_ hk1⟩
          exact ((Kq.refl _ _).alloc HX.out.2.1 _).alloc (fun j hj => by have := HX.out.2.1 j hj; simp; omega) _
        clear ho hk1 hb1 hlk
        go_wp2_with fail
        go_roundw
        case rel =>
          obtain ⟨x1, x2, x3, x4, x5⟩ := HX.out
          obtain ⟨z3, z4⟩ := HZ.out
          refine ⟨k + 1, Q', _, by omega, by go_num, x1, fun j hj => ?_, x3.trans (z4.mono x1), z3, ?_⟩
          · have := x2 j hj; have := z4.size; omega
          · rw [wantAll_snoc d.dk d.v res xs k _ HA.out, show wantOf d.dk d.v res ⟨ns, nm, ct, rs, devs⟩ = [⟨ns, nm, ct, rs, 0, devs⟩] from by simp [wantOf, HRS.out]]
            refine (x5.kq z4).snoc ⟨rfl, rfl, rfl, rfl, Rd.nil _ _, ?_⟩
            have h5 : Rd Q wr (.slice da devs.length dc) (devs.map .string) := by have := HR.out; rw [hmap] at this; exact this
            exact (h5.mono (fun j _ hj => x1 j hj)).kq z4
        case measure => simp [intOf]; omega
    · obtain rfl : k = N := by omega
      have HY : Hid (xs.take k = xs) := by rw [HN.out]; exact List.take_length
      clear hk hlt
      go_wp2_with fail
      go_ret
      obtain ⟨x1, x2, x3, x4, x5⟩ := HX.out
      exact ⟨Q', u5, gs, rfl, x1, x2, x4, x3, by rw [HY.out] at x5; exact x5⟩
end Go.Proofs.Qxb6609296a

import Derived.Test.Qxb6609296aHelp2
namespace Go.Proofs.Qxb6609296a
open Go.RowKit Srt

/-- The cells that 'make([]Assignment, n)' lays. -/
theorem make60 (n : Nat) (hn : n ≤ 1048576) (w : World) : (Instr.makeSlice 42 (.int .i64 (n : Int)) (.int .i64 (n : Int))).run Try.prog w = .ok (.slice (some ⟨w.heap.size, 0, none⟩) n n) (w.alloc (.cells (madeCells #[.string ⟨#[]⟩, .string ⟨#[]⟩, .string ⟨#[]⟩, .string ⟨#[]⟩, .slice none 0 0] (n * 5)) 60)) := by
  obtain ⟨i, hi, hz, hs, hb⟩ := info_parts Try.info60
  have h := run_makeSlice (P := Try.prog) w 42 60 i _ Try.underlying42 hi hz .i64 .i64 n n (by omega) (Int.le_refl _) (by rw [hs]; simp; omega) (by rw [hb]; omega) (by omega)
  rw [hs] at h
  have hc : (Value.agg #[.string ⟨#[]⟩, .string ⟨#[]⟩, .string ⟨#[]⟩, .string ⟨#[]⟩, .slice none 0 0]).cells = #[.string ⟨#[]⟩, .string ⟨#[]⟩, .string ⟨#[]⟩, .string ⟨#[]⟩, .slice none 0 0] := rfl
  rw [hc] at h
  simpa using h

theorem keepT {R : Nat → Prop} {B : Nat} {v0 v1 v2 v3 v4 : Value} {x x' : World} (h : Kq R x x') (hR : R B)
    (hS : x.cell? ⟨B, 0, none⟩ = some v0 ∧ x.cell? ⟨B, 1, none⟩ = some v1 ∧ x.cell? ⟨B, 2, none⟩ = some v2 ∧ x.cell? ⟨B, 3, none⟩ = some v3 ∧ x.cell? ⟨B, 4, none⟩ = some v4) :
    x'.cell? ⟨B, 0, none⟩ = some v0 ∧ x'.cell? ⟨B, 1, none⟩ = some v1 ∧ x'.cell? ⟨B, 2, none⟩ = some v2 ∧ x'.cell? ⟨B, 3, none⟩ = some v3 ∧ x'.cell? ⟨B, 4, none⟩ = some v4 := by
  obtain ⟨h0, h1, h2, h3, h4⟩ := hS
  exact ⟨(h.cell (p := ⟨B, 0, none⟩) hR).trans h0, (h.cell (p := ⟨B, 1, none⟩) hR).trans h1, (h.cell (p := ⟨B, 2, none⟩) hR).trans h2, (h.cell (p := ⟨B, 3, none⟩) hR).trans h3, (h.cell (p := ⟨B, 4, none⟩) hR).trans h4⟩

theorem hk3' {Q : Nat → Prop} {a b : World} (h : Kq Q a b) : Kq Q a.drew b := ⟨h.os, h.tape, h.output, h.size, h.block⟩

/-- What the loop has laid: the first k assignments of the row at block O are copies. -/
structure ToAt (W : World) (xs : List As) (k : Nat) (w : World) : Prop where
  row : ∃ cs : List Value, cs.length = xs.length * 5 ∧ w.heap[W.heap.size]? = some (.cells cs.toArray 60 (0, 0))
  done : ∀ (i : Nat) a, i < k → xs[i]? = some a → ∃ dv, AsAt (fun b => W.heap.size < b) w W.heap.size (i * 5) a dv
  kq : Kq (· < W.heap.size) W w

theorem set_row {w : World} {g : Nat} {xs : List Value} {t : TypeId} (h : w.heap[g]? = some (.cells xs.toArray t (0, 0))) (k : Nat) (v : Value) : (w.setCell ⟨g, k, none⟩ v).heap[g]? = some (.cells (xs.set k v).toArray t (0, 0)) := by
  show (w.heap.modify g _)[g]? = _
  rw [Array.getElem?_modify, if_pos rfl, h]
  simp
theorem cell_same {w w' : World} {B i : Nat} {cs ds : List Value} {t t' : TypeId} {f f' : Nat × Nat} (h : w.heap[B]? = some (.cells cs.toArray t f)) (h' : w'.heap[B]? = some (.cells ds.toArray t' f')) (e : ds[i]? = cs[i]?) : w'.cell? ⟨B, i, none⟩ = w.cell? ⟨B, i, none⟩ := by
  rw [cell_of_row w B i _ t f h, cell_of_row w' B i _ t' f' h']; simpa using e

def set5 (w : World) (B o : Nat) (v0 v1 v2 v3 v4 : Value) : World := ((((w.setCell ⟨B, o, none⟩ v0).setCell ⟨B, o + 1, none⟩ v1).setCell ⟨B, o + 2, none⟩ v2).setCell ⟨B, o + 3, none⟩ v3).setCell ⟨B, o + 4, none⟩ v4
theorem set5_row {w : World} {B o : Nat} {cs : List Value} {t : TypeId} (h : w.heap[B]? = some (.cells cs.toArray t (0, 0))) (ho : o + 5 ≤ cs.length) (v0 v1 v2 v3 v4 : Value) :
    ∃ ds : List Value, ds.length = cs.length ∧ (set5 w B o v0 v1 v2 v3 v4).heap[B]? = some (.cells ds.toArray t (0, 0)) ∧ ds[o]? = some v0 ∧ ds[o + 1]? = some v1 ∧ ds[o + 2]? = some v2 ∧ ds[o + 3]? = some v3 ∧ ds[o + 4]? = some v4 ∧ ∀ i, i < o → ds[i]? = cs[i]? := by
  refine ⟨((((cs.set o v0).set (o + 1) v1).set (o + 2) v2).set (o + 3) v3).set (o + 4) v4, by simp, set_row (set_row (set_row (set_row (set_row h _ _) _ _) _ _) _ _) _ _, ?_, ?_, ?_, ?_, ?_, fun i hi => ?_⟩
  · rw [List.getElem?_set_ne (by omega), List.getElem?_set_ne (by omega), List.getElem?_set_ne (by omega), List.getElem?_set_ne (by omega), List.getElem?_set_self (by omega)]
  · rw [List.getElem?_set_ne (by omega), List.getElem?_set_ne (by omega), List.getElem?_set_ne (by omega), List.getElem?_set_self (by simp; omega)]
  · rw [List.getElem?_set_ne (by omega), List.getElem?_set_ne (by omega), List.getElem?_set_self (by simp; omega)]
  · rw [List.getElem?_set_ne (by omega), List.getElem?_set_self (by simp; omega)]
  · rw [List.getElem?_set_self (by simp; omega)]
  · rw [List.getElem?_set_ne (by omega), List.getElem?_set_ne (by omega), List.getElem?_set_ne (by omega), List.getElem?_set_ne (by omega), List.getElem?_set_ne (by omega)]
theorem set5_kq {Q : Nat → Prop} {w : World} {B : Nat} (hB : ¬ Q B) (o : Nat) (v0 v1 v2 v3 v4 : Value) : Kq Q w (set5 w B o v0 v1 v2 v3 v4) :=
  (((((Kq.refl _ _).setCell hB _).setCell hB _).setCell hB _).setCell hB _).setCell hB _

/-- One assignment more. -/
theorem ToAt.next {w : World} {xs : List As} {k : Nat} {wr w3 : World} {a : As} {dv : Value} (h : ToAt w xs k wr) (hk : xs[k]? = some a) (kq : Kq (· < wr.heap.size) wr w3) (hr : Rd (fun b => w.heap.size < b) w3 dv (a.devs.map .string)) :
    ToAt w xs (k + 1) (set5 w3 w.heap.size (k * 5) (.string a.ns) (.string a.nm) (.string a.ct) (.string a.rs) dv) := by
  obtain ⟨cs, hcl, hrow⟩ := h.row
  have hsz : w.heap.size < wr.heap.size := (Array.getElem?_eq_some_iff.1 hrow).1
  have hkx : k < xs.length := (List.getElem?_eq_some_iff.1 hk).1
  have hrow3 := (kq.block _ hsz).trans hrow
  obtain ⟨ds, hdl, hd, d0, d1, d2, d3, d4, dlt⟩ := set5_row hrow3 (o := k * 5) (by omega) (.string a.ns) (.string a.nm) (.string a.ct) (.string a.rs) dv
  have kq5 : Kq (fun b => b ≠ w.heap.size) w3 (set5 w3 w.heap.size (k * 5) (.string a.ns) (.string a.nm) (.string a.ct) (.string a.rs) dv) := set5_kq (by simp) _ _ _ _ _ _
  refine ⟨⟨ds, by omega, hd⟩, fun i b hi hb => ?_, h.kq.trans ((kq.mono (fun j hj => by omega)).trans (kq5.mono (fun j hj => by omega)))⟩
  by_cases e : i = k
  · subst e
    rw [hk] at hb
    injection hb with hb
    subst hb
    exact ⟨dv, cell_in hd (by simpa using d0), cell_in hd (by simpa using d1), cell_in hd (by simpa using d2), cell_in hd (by simpa using d3), cell_in hd (by simpa using d4), hr.kq (kq5.mono (fun j hj => by omega))⟩
  · obtain ⟨dv', hat⟩ := h.done i b (by omega) hb
    have hc : ∀ j, j < 5 → (set5 w3 w.heap.size (k * 5) (.string a.ns) (.string a.nm) (.string a.ct) (.string a.rs) dv).cell? ⟨w.heap.size, i * 5 + j, none⟩ = wr.cell? ⟨w.heap.size, i * 5 + j, none⟩ := fun j hj => cell_same hrow hd (dlt _ (by omega))
    have hr' : Rd (fun b => w.heap.size < b ∧ b < wr.heap.size) wr dv' (b.devs.map .string) := hat.dv.mono (fun j h1 h2 => ⟨h2, h1⟩)
    refine ⟨dv', (hc 0 (by omega)).trans hat.ns, (hc 1 (by omega)).trans hat.nm, (hc 2 (by omega)).trans hat.ct, (hc 3 (by omega)).trans hat.rs, (hc 4 (by omega)).trans hat.dc, ?_⟩
    exact ((hr'.kq (kq.mono (fun j hj => hj.2))).kq (kq5.mono (fun j hj => by omega))).mono (fun j _ hj => hj.1)

set_option maxHeartbeats 1000000 in
theorem toAss_any (Q : Nat → Prop) (x : Value) (xs : List As) (w : World) (hQ : ∀ k, Q k → k < w.heap.size) (hx : Ass Q w x xs) (hl : xs.length ≤ 65536) (hdl : ∀ (i : Nat) a, xs[i]? = some a → a.devs.length ≤ 1048576) :
    Calls Try.prog 15 #[x] w fun e w' => ∃ v, e = .returned v ∧ Ass (fun k => w.heap.size ≤ k) w' v xs ∧ Kq (· < w.heap.size) w w' := by
  obtain ⟨ax, cx, rfl, hlx, hmx, hnil, hcx⟩ := hx
  have hmk := make60 xs.length (by omega)
  have hq := q30
  cases ax with
  | none =>
    have hc0 := hnil rfl
    have hl0 : xs = [] := List.eq_nil_of_length_eq_zero (by omega)
    subst hl0; subst hc0
    clear hmk hcx hnil hdl
    go_enter Try.func15, Try.ntmps15
    go_wp2_with fail
    go_ret
    exact ⟨_, rfl, ⟨none, 0, rfl, Nat.le_refl _, by simp, fun _ => rfl, fun h => absurd h (by simp)⟩, Kq.refl _ _⟩
  | some ad =>
    obtain ⟨N, hN⟩ : ∃ N, N = xs.length := ⟨_, rfl⟩
    have HN : Hid (N = xs.length) := hN
    have HC : Hid (0 < xs.length → ∃ b off, some ad = some ⟨b, off, none⟩ ∧ Q b ∧ ∀ (i : Nat) a, xs[i]? = some a → ∃ dv, AsAt Q w b (off + i * 5) a dv) := hcx
    have HQ : Hid (∀ k, Q k → k < w.heap.size) := hQ
    have HL : Hid (∀ (i : Nat) a, xs[i]? = some a → a.devs.length ≤ 1048576) := hdl
    rw [← hN] at hlx hmk hl ⊢
    have HM : Hid (ToAt w xs 0 (w.alloc (.cells (madeCells #[.string ⟨#[]⟩, .string ⟨#[]⟩, .string ⟨#[]⟩, .string ⟨#[]⟩, .slice none 0 0] (N * 5)) 60))) := by
      refine ⟨⟨(madeCells _ (N * 5)).toList, by simp [size_madeCells, hN], by rw [heap_alloc_new]⟩, fun i a hi => by omega, (Kq.refl _ _).alloc (fun _ h => h) _⟩
    clear hcx hN hnil hQ hdl
    go_enter Try.func15, Try.ntmps15
    go_wp2_with fail
    go_loopw [4] (fun p x => ∃ (k : Nat), k ≤ N ∧ p = .int .i64 k ∧ ToAt w xs k x) (fun p _ => N - (intOf p).toNat)
    case atStart => exact ⟨0, Nat.zero_le _, rfl, HM.out⟩
    case round =>
      obtain ⟨k, hk, rfl, hst⟩ := hrel
      have H : Hid (ToAt w xs k wr) := hst
      clear hst hmk HM
      by_cases hlt : k < N
      · have hlt' : (k : Int) < (N : Int) := by omega
        obtain ⟨b, off, hab, hbQ, hcs⟩ := HC.out (by have := HN.out; omega)
        obtain ⟨a, hak⟩ : ∃ a, xs[k]? = some a := ⟨_, List.getElem?_eq_getElem (by have := HN.out; omega)⟩
        obtain ⟨dv, hdv⟩ := hcs k a hak
        have hkq : Kq Q w wr := H.out.kq.mono HQ.out
        have hat := hdv.kq hkq (fun _ h => h) hbQ
        injection hab with hab
        subst hab
        obtain ⟨e0, e1, e2, e3, e4, hrd⟩ := id hat
        obtain ⟨da, dc, hdf⟩ := hrd.form
        have HR : Hid (Rd Q wr dv (a.devs.map .string)) := hrd
        have HA : Hid (xs[k]? = some a) := hak
        clear hdv hat hrd hcs hak
        subst hdf
        obtain ⟨ns, nm, ct, rs, devs⟩ := a
        simp only at e0 e1 e2 e3 e4
        have hmap : (devs.map Value.string).length = devs.length := List.length_map _
        rw [hmap] at e4
        have HR2 : Hid (Rd Q wr (.slice da devs.length dc) (devs.map .string)) := by have := HR.out; rw [hmap] at this; exact this
        obtain ⟨cs, hcl, hrow⟩ := H.out.row
        have hsz : w.heap.size < wr.heap.size := (Array.getElem?_eq_some_iff.1 hrow).1
        have hne : ¬ (wr.heap.size = w.heap.size) := by omega
        have hne' : ¬ (w.heap.size = wr.heap.size) := by omega
        have HRow : Hid (cs.length = xs.length * 5 ∧ wr.heap[w.heap.size]? = some (.cells cs.toArray 60 (0, 0))) := ⟨hcl, hrow⟩
        have HKA : Hid (Kq (· < wr.heap.size) wr (wr.alloc (.cells #[.string ns, .string nm, .string ct, .string rs, .slice da devs.length dc] 38))) := (Kq.refl _ _).alloc (fun _ h => h) _
        have HDL : Hid (devs.length ≤ 1048576) := HL.out k _ HA.out
        have HQ2 : Hid (∀ j, Q j → j < wr.heap.size) := fun j hj => by have := HQ.out j hj; omega
        clear hcl hrow hkq HR
        go_wp2_with fail
        have t0 := cell_in (heap_alloc_new wr (.cells #[.string ns, .string nm, .string ct, .string rs, .slice da devs.length dc] 38)) (k := 0) rfl
        have t1 := cell_in (heap_alloc_new wr (.cells #[.string ns, .string nm, .string ct, .string rs, .slice da devs.length dc] 38)) (k := 1) rfl
        have t2 := cell_in (heap_alloc_new wr (.cells #[.string ns, .string nm, .string ct, .string rs, .slice da devs.length dc] 38)) (k := 2) rfl
        have t3 := cell_in (heap_alloc_new wr (.cells #[.string ns, .string nm, .string ct, .string rs, .slice da devs.length dc] 38)) (k := 3) rfl
        have t4 := cell_in (heap_alloc_new wr (.cells #[.string ns, .string nm, .string ct, .string rs, .slice da devs.length dc] 38)) (k := 4) rfl
        obtain ⟨W, hW⟩ : ∃ W, W = wr.alloc (.cells #[.string ns, .string nm, .string ct, .string rs, .slice da devs.length dc] 38) := ⟨_, rfl⟩
        rw [← hW] at t0 t1 t2 t3 t4 HKA ⊢
        have HWs : Hid (wr.heap.size < W.heap.size) := by show _ < _; rw [hW]; simp
        clear hW
        have hk5 : k * 5 + 5 ≤ cs.length := by rw [HRow.out.1, ← HN.out]; omega
        have HC23 : Hid (Calls Try.prog 23 #[.slice da devs.length dc] W.drew fun e w3 => ∃ va vc, e = .returned (.slice va devs.length vc) ∧ Rd (fun k => W.heap.size ≤ k) w3 (.slice va devs.length vc) (devs.map .string) ∧ Kq (· < W.heap.size) W.drew w3 ∧ w3.heap[w.heap.size]? = some (.cells cs.toArray 60 (0, 0)) ∧ ((∃ u, w3.cell? ⟨w.heap.size, k * 5, none⟩ = some u) ∧ (∃ u, w3.cell? ⟨w.heap.size, k * 5 + 1, none⟩ = some u) ∧ (∃ u, w3.cell? ⟨w.heap.size, k * 5 + 2, none⟩ = some u) ∧ (∃ u, w3.cell? ⟨w.heap.size, k * 5 + 3, none⟩ = some u) ∧ (∃ u, w3.cell? ⟨w.heap.size, k * 5 + 4, none⟩ = some u)) ∧ (w3.frozen? ⟨w.heap.size, k * 5, none⟩ = false ∧ w3.frozen? ⟨w.heap.size, k * 5 + 1, none⟩ = false ∧ w3.frozen? ⟨w.heap.size, k * 5 + 2, none⟩ = false ∧ w3.frozen? ⟨w.heap.size, k * 5 + 3, none⟩ = false ∧ w3.frozen? ⟨w.heap.size, k * 5 + 4, none⟩ = false)) := by
          refine (copyStrings_any Q (.slice da devs.length dc) devs W.drew (fun j hj => Nat.lt_trans (HQ2.out j hj) HWs.out) (HR2.out.kq (HKA.out.mono HQ2.out).drew) HDL.out).mono ?_
          rintro e w3 ⟨v3, rfl, hr3, hk3⟩
          obtain ⟨va, vc, hvf⟩ := hr3.form
          rw [hmap] at hvf
          subst hvf
          have h3 := (hk3.block _ (Nat.lt_trans hsz HWs.out)).trans ((HKA.out.block _ hsz).trans HRow.out.2)
          have hc : ∀ j, j < 5 → ∃ u, w3.cell? ⟨w.heap.size, k * 5 + j, none⟩ = some u := fun j hj => ⟨cs[k * 5 + j]'(by omega), cell_in h3 (by rw [List.getElem?_toArray, List.getElem?_eq_getElem])⟩
          have hf : ∀ j, w3.frozen? ⟨w.heap.size, k * 5 + j, none⟩ = false := fun j => by simp [World.frozen?, h3]
          exact ⟨va, vc, rfl, hr3, hk3, h3, ⟨hc 0 (by omega), hc 1 (by omega), hc 2 (by omega), hc 3 (by omega), hc 4 (by omega)⟩, hf 0, hf 1, hf 2, hf 3, hf 4⟩
        go_region_held3 (fun x => x.cell? ⟨wr.heap.size, 0, none⟩ = some (.string ns) ∧ x.cell? ⟨wr.heap.size, 1, none⟩ = some (.string nm) ∧ x.cell? ⟨wr.heap.size, 2, none⟩ = some (.string ct) ∧ x.cell? ⟨wr.heap.size, 3, none⟩ = some (.string rs) ∧ x.cell? ⟨wr.heap.size, 4, none⟩ = some (.slice da devs.length dc))
          (first | (go_keep; done) | (exact keepT (x := W.drew) HK3.out HWs.out (by assumption)) | fail "keep")
          (first | (go_at_call 23; refine HC23.out.mono ?_; rintro e w3 ⟨va, vc, rfl, hr3, hk3, hrow3, ⟨⟨x0, y0⟩, ⟨x1, y1⟩, ⟨x2, y2⟩, ⟨x3, y3⟩, ⟨x4, y4⟩⟩, z0, z1, z2, z3, z4⟩; have HR3 : Hid (Rd (fun k => W.heap.size ≤ k) w3 (.slice va devs.length vc) (devs.map .string)) := hr3; have HK3 : Hid (Kq (· < W.heap.size) W.drew w3) := hk3; clear hr3 hk3) | (fail "no"))
        go_wp2_with fail
        refine ⟨⟨k + 1, by omega, by simp, ?_⟩, by simp [intOf]; omega⟩
        have kq1 : Kq (· < wr.heap.size) wr w3 := HKA.out.trans ⟨HK3.out.os, HK3.out.tape, HK3.out.output, HK3.out.size, fun j hj => HK3.out.block j (Nat.lt_trans hj HWs.out)⟩
        have hr5 : Rd (fun b => w.heap.size < b) w3 (.slice va devs.length vc) (devs.map .string) := HR3.out.mono (fun j _ hj => by have := HWs.out; omega)
        have h5 : ToAt w xs (k + 1) (set5 w3 w.heap.size (k * 5) (.string ns) (.string nm) (.string ct) (.string rs) (.slice va devs.length vc)) := ToAt.next (a := ⟨ns, nm, ct, rs, devs⟩) H.out HA.out kq1 hr5
        unfold set5 at h5
        exact h5
      · obtain rfl : k = N := by omega
        clear hlt
        go_wp2_with fail
        go_ret
        refine ⟨_, rfl, ⟨some ⟨w.heap.size, 0, none⟩, k, by rw [← HN.out]; rfl, by rw [← HN.out]; exact Nat.le_refl _, by unfold maxLen; omega, (fun h => by cases h), fun h0 => ⟨w.heap.size, 0, rfl, Nat.le_refl _, fun i a hi => ?_⟩⟩, H.out.kq⟩
        have := H.out.done i a (by have := (List.getElem?_eq_some_iff.1 hi).1; rw [HN.out]; exact this) hi
        obtain ⟨dv, hd⟩ := this
        exact ⟨dv, by simpa using hd.mono (fun j _ hj => Nat.le_of_lt hj)⟩
end Go.Proofs.Qxb6609296a

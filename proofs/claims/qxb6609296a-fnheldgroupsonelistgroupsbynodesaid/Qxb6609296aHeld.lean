import Derived.Test.Qxb6609296aWant
import Derived.Test.Qxb6609296aStable
namespace Go.Proofs.Qxb6609296a
open Go.RowKit Srt

/-- The key that a device list gives an ID. -/
structure KeyOf (n v : Nat) (cat : ByteArray) (E rk of : Nat → Nat) (dk : ByteArray → Nat) : Prop where
  hit : ∀ k, k < n → dk (idAt cat E (rk k)) = of (rk k)
  miss : ∀ id, (∀ k, k < n → idAt cat E (rk k) ≠ id) → dk id = 0
  le : ∀ id, dk id ≤ v

/-- appendHeld's memory: the boxed assignment at block B, the row of sets behind it, the variable behind that. -/
structure H1 (w : World) (B : Nat) (bx : Array Value) (N : Nat) (f : Nat → Value) (x : World) : Prop where
  box : x.heap[B]? = some (.cells bx 60 (0, 0))
  row : x.heap[B + 1]? = some (.cells (rowF N f).toArray 24 (0, 0))
  var : x.heap[B + 1 + 1]? = some (.cells #[.slice (some ⟨B + 1, 0, none⟩) N N] 39 (0, 0))
  kq : Kq (· < B) w x
theorem H1.start (w : World) (bx : Array Value) (N : Nat) : H1 w w.heap.size bx N (fun _ => .int .u32 0) (((w.alloc (.cells bx 60)).alloc (.cells (madeCells #[.int .u32 0] N) 24)).alloc (.cells #[.slice (some ⟨w.heap.size + 1, 0, none⟩) N N] 39)) := by
  have e1 : (w.alloc (.cells bx 60)).heap.size = w.heap.size + 1 := by simp
  have e2 : ((w.alloc (.cells bx 60)).alloc (.cells (madeCells #[.int .u32 0] N) 24)).heap.size = w.heap.size + 1 + 1 := by simp
  refine ⟨?_, ?_, ?_, ?_⟩
  · rw [Below.heap_alloc _ _ _ (by omega), Below.heap_alloc _ _ _ (by omega), heap_alloc_new]
  · rw [Below.heap_alloc _ _ _ (by omega), ← e1, heap_alloc_new, made_rowF]
  · rw [← e2, heap_alloc_new]
  · exact (((Kq.refl _ _).alloc (fun k hk => hk) _).alloc (fun k hk => by omega) _).alloc (fun k hk => by omega) _
theorem H1.keep {w : World} {B : Nat} {bx : Array Value} {N : Nat} {f : Nat → Value} {x x' : World} (h : H1 w B bx N f x) {R : Nat → Prop} (k : Kq R x x') (hR : ∀ k, k < B + 3 → R k) : H1 w B bx N f x' :=
  ⟨by rw [k.block _ (hR _ (by omega))]; exact h.box, by rw [k.block _ (hR _ (by omega))]; exact h.row, by rw [k.block _ (hR _ (by omega))]; exact h.var, h.kq.trans (k.mono (fun j hj => hR j (by omega)))⟩
theorem H1.drewN {w : World} {B : Nat} {bx : Array Value} {N : Nat} {f : Nat → Value} {x : World} (h : H1 w B bx N f x) (m : Nat) : H1 w B bx N f (x.drewN m) := ⟨h.box, h.row, h.var, h.kq.drewN m⟩
theorem H1.drew {w : World} {B : Nat} {bx : Array Value} {N : Nat} {f : Nat → Value} {x : World} (h : H1 w B bx N f x) : H1 w B bx N f x.drew := ⟨h.box, h.row, h.var, h.kq.drew⟩
theorem H1.set {w : World} {B : Nat} {bx : Array Value} {N : Nat} {f : Nat → Value} {x : World} (h : H1 w B bx N f x) {i : Nat} {u : Value} : H1 w B bx N (upd f i u) (x.setCell ⟨B + 1, i, none⟩ u) := by
  have h1 : Rw x (B + 1) 24 N f x := ⟨h.row, Kq.refl _ _⟩
  have k : Kq (fun k => k ≠ B + 1) x (x.setCell ⟨B + 1, i, none⟩ u) := (Kq.refl _ _).setCell (by simp) _
  exact ⟨by rw [k.block _ (by omega)]; exact h.box, h1.set.row, by rw [k.block _ (by omega)]; exact h.var, h.kq.trans (k.mono (fun j hj => by omega))⟩
theorem H1.cvar {w : World} {B : Nat} {bx : Array Value} {N : Nat} {f : Nat → Value} {x : World} (h : H1 w B bx N f x) : x.cell? ⟨B + 1 + 1, 0, none⟩ = some (.slice (some ⟨B + 1, 0, none⟩) N N) := by
  rw [cell_of_row x _ _ _ _ _ h.var]; rfl
theorem H1.crow {w : World} {B : Nat} {bx : Array Value} {N : Nat} {f : Nat → Value} {x : World} (h : H1 w B bx N f x) {i : Nat} (hi : i < N) : x.cell? ⟨B + 1, i, none⟩ = some (f i) := by
  rw [cell_of_row x _ _ _ _ _ h.row]; simpa using rowF_get hi
theorem H1.frow {w : World} {B : Nat} {bx : Array Value} {N : Nat} {f : Nat → Value} {x : World} (h : H1 w B bx N f x) (i : Nat) : x.frozen? ⟨B + 1, i, none⟩ = false := by simp [World.frozen?, h.row]
theorem H1.cbox {w : World} {B : Nat} {bx : Array Value} {N : Nat} {f : Nat → Value} {x : World} (h : H1 w B bx N f x) (i : Nat) : x.cell? ⟨B, i, none⟩ = bx[i]? := by rw [cell_of_row x _ _ _ _ _ h.box]
theorem H1.sets {w : World} {B : Nat} {bx : Array Value} {N : Nat} {f : Nat → Value} {x : World} (h : H1 w B bx N f x) {key : Nat → Nat} (hk : ∀ i, i < N → f i = .int .u32 (key i)) (hN : N ≤ 1048576) : Sets (B + 1 + 1) (B + 1) N key x :=
  ⟨h.cvar, fun i hi => by rw [h.crow hi, hk i hi], hN⟩
theorem H1.size {w : World} {B : Nat} {bx : Array Value} {N : Nat} {f : Nat → Value} {x : World} (h : H1 w B bx N f x) : B + 3 ≤ x.heap.size := (Array.getElem?_eq_some_iff.1 h.var).1

/-- The same, with the order at block O and the ordered IDs at block I. -/
structure H5 (w : World) (B : Nat) (bx : Array Value) (N : Nat) (f : Nat → Value) (O : Nat) (D : Nat → Nat) (I : Nat) (g : Nat → Value) (x : World) : Prop where
  h1 : H1 w B bx N f x
  ord : x.heap[O]? = some (.cells (rowN N D).toArray 3 (0, 0))
  ids : x.heap[I]? = some (.cells (rowF N g).toArray 9 (0, 0))
  hO : B + 3 ≤ O
  hI : O < I
theorem H5.keep {w : World} {B : Nat} {bx : Array Value} {N : Nat} {f : Nat → Value} {O : Nat} {D : Nat → Nat} {I : Nat} {g : Nat → Value} {x x' : World} (h : H5 w B bx N f O D I g x) {R : Nat → Prop} (k : Kq R x x') (hR : ∀ k, k < B + 3 ∨ k = O ∨ k = I → R k) : H5 w B bx N f O D I g x' :=
  ⟨h.h1.keep k (fun j hj => hR j (.inl hj)), by rw [k.block _ (hR _ (.inr (.inl rfl)))]; exact h.ord, by rw [k.block _ (hR _ (.inr (.inr rfl)))]; exact h.ids, h.hO, h.hI⟩
theorem H5.drewN {w : World} {B : Nat} {bx : Array Value} {N : Nat} {f : Nat → Value} {O : Nat} {D : Nat → Nat} {I : Nat} {g : Nat → Value} {x : World} (h : H5 w B bx N f O D I g x) (m : Nat) : H5 w B bx N f O D I g (x.drewN m) := ⟨h.h1.drewN m, h.ord, h.ids, h.hO, h.hI⟩
theorem H5.set {w : World} {B : Nat} {bx : Array Value} {N : Nat} {f : Nat → Value} {O : Nat} {D : Nat → Nat} {I : Nat} {g : Nat → Value} {x : World} (h : H5 w B bx N f O D I g x) {i : Nat} {u : Value} : H5 w B bx N f O D I (upd g i u) (x.setCell ⟨I, i, none⟩ u) := by
  have hO := h.hO
  have hI := h.hI
  have h1 : Rw x I 9 N g x := ⟨h.ids, Kq.refl _ _⟩
  have k : Kq (fun k => k ≠ I) x (x.setCell ⟨I, i, none⟩ u) := (Kq.refl _ _).setCell (by simp) _
  exact ⟨h.h1.keep k (fun j hj => by omega), by rw [k.block _ (by omega)]; exact h.ord, h1.set.row, hO, hI⟩
theorem H5.cord {w : World} {B : Nat} {bx : Array Value} {N : Nat} {f : Nat → Value} {O : Nat} {D : Nat → Nat} {I : Nat} {g : Nat → Value} {x : World} (h : H5 w B bx N f O D I g x) {k : Nat} (hk : k < N) : x.cell? ⟨O, k, none⟩ = some (.int .i64 (D k)) := by
  rw [cell_of_row x O k _ 3 _ h.ord]; simpa using rowN_get hk
theorem H5.cids {w : World} {B : Nat} {bx : Array Value} {N : Nat} {f : Nat → Value} {O : Nat} {D : Nat → Nat} {I : Nat} {g : Nat → Value} {x : World} (h : H5 w B bx N f O D I g x) {k : Nat} (hk : k < N) : x.cell? ⟨I, k, none⟩ = some (g k) := by
  rw [cell_of_row x I k _ 9 _ h.ids]; simpa using rowF_get hk
theorem H5.fids {w : World} {B : Nat} {bx : Array Value} {N : Nat} {f : Nat → Value} {O : Nat} {D : Nat → Nat} {I : Nat} {g : Nat → Value} {x : World} (h : H5 w B bx N f O D I g x) (k : Nat) : x.frozen? ⟨I, k, none⟩ = false := by simp [World.frozen?, h.ids]
theorem H5.size {w : World} {B : Nat} {bx : Array Value} {N : Nat} {f : Nat → Value} {O : Nat} {D : Nat → Nat} {I : Nat} {g : Nat → Value} {x : World} (h : H5 w B bx N f O D I g x) : I < x.heap.size := (Array.getElem?_eq_some_iff.1 h.ids).1

theorem H5.move {w : World} {B : Nat} {bx : Array Value} {N : Nat} {f : Nat → Value} {O : Nat} {D : Nat → Nat} {I : Nat} {g : Nat → Value} {x x' : World} (h : H5 w B bx N f O D I g x) {R : Nat → Prop} (k : Kq R x x') (hR : ∀ k, (B ≤ k ∧ k < B + 3) ∨ k = O ∨ k = I → R k) : H5 x' B bx N f O D I g x' :=
  ⟨⟨by rw [k.block _ (hR _ (.inl ⟨by omega, by omega⟩))]; exact h.h1.box, by rw [k.block _ (hR _ (.inl ⟨by omega, by omega⟩))]; exact h.h1.row, by rw [k.block _ (hR _ (.inl ⟨by omega, by omega⟩))]; exact h.h1.var, Kq.refl _ _⟩,
    by rw [k.block _ (hR _ (.inr (.inl rfl)))]; exact h.ord, by rw [k.block _ (hR _ (.inr (.inr rfl)))]; exact h.ids, h.hO, h.hI⟩
theorem H5.rdids {w : World} {B : Nat} {bx : Array Value} {N : Nat} {f : Nat → Value} {O : Nat} {D : Nat → Nat} {I : Nat} {g : Nat → Value} {x : World} (h : H5 w B bx N f O D I g x) {devs : List ByteArray} (hg : ∀ t, t < N → g t = .string (devs.getD (D t) ByteArray.empty)) {s e : Nat} (heN : e ≤ N) (hN : N ≤ 1048576) {R : Nat → Prop} (hR : R I) :
    Rd R x (.slice (some ⟨I, s, none⟩) (e - s) (e - s)) (((List.range (e - s)).map fun t => devs.getD (D (s + t)) ByteArray.empty).map .string) := by
  refine ⟨_, e - s, by simp, by simp, by unfold maxLen; omega, (fun h => by cases h), fun _ => ⟨I, s, rfl, hR, fun i u hi => ?_⟩⟩
  have hi' : i < e - s := by have := (List.getElem?_eq_some_iff.1 hi).1; simpa using this
  simp [hi'] at hi
  rw [h.cids (by omega), hg _ (by omega), ← hi]
  simp

theorem keep5 {R : Nat → Prop} {B L : Nat} {ns nm ct rs : ByteArray} {tp : Value} {x x' : World} (h : Kq R x x') (hR : R B ∧ R L)
    (hS : x.cell? ⟨B, 0, none⟩ = some (.string ns) ∧ x.cell? ⟨B, 1, none⟩ = some (.string nm) ∧ x.cell? ⟨B, 2, none⟩ = some (.string ct) ∧ x.cell? ⟨B, 3, none⟩ = some (.string rs) ∧ x.cell? ⟨L, 1, none⟩ = some tp) :
    x'.cell? ⟨B, 0, none⟩ = some (.string ns) ∧ x'.cell? ⟨B, 1, none⟩ = some (.string nm) ∧ x'.cell? ⟨B, 2, none⟩ = some (.string ct) ∧ x'.cell? ⟨B, 3, none⟩ = some (.string rs) ∧ x'.cell? ⟨L, 1, none⟩ = some tp := by
  obtain ⟨r0, r3⟩ := hR
  obtain ⟨h0, h1, h2, h3, h7⟩ := hS
  exact ⟨(h.cell (p := ⟨B, 0, none⟩) r0).trans h0, (h.cell (p := ⟨B, 1, none⟩) r0).trans h1, (h.cell (p := ⟨B, 2, none⟩) r0).trans h2, (h.cell (p := ⟨B, 3, none⟩) r0).trans h3, (h.cell (p := ⟨L, 1, none⟩) r3).trans h7⟩

theorem keep8 {R : Nat → Prop} {B L k dc DB off q : Nat} {ns nm ct rs : ByteArray} {tp : Value} {x x' : World} (h : Kq R x x') (hR : R B ∧ R (B + 1) ∧ R (B + 1 + 1) ∧ R L)
    (hS : x.cell? ⟨B, 0, none⟩ = some (.string ns) ∧ x.cell? ⟨B, 1, none⟩ = some (.string nm) ∧ x.cell? ⟨B, 2, none⟩ = some (.string ct) ∧ x.cell? ⟨B, 3, none⟩ = some (.string rs) ∧ x.cell? ⟨B, 4, none⟩ = some (.slice (some ⟨DB, off, none⟩) k dc) ∧ x.cell? ⟨B + 1 + 1, 0, none⟩ = some (.slice (some ⟨B + 1, 0, none⟩) k k) ∧ x.cell? ⟨B + 1, 0, none⟩ = some (.int .u32 (q : Nat)) ∧ x.cell? ⟨L, 1, none⟩ = some tp) :
    x'.cell? ⟨B, 0, none⟩ = some (.string ns) ∧ x'.cell? ⟨B, 1, none⟩ = some (.string nm) ∧ x'.cell? ⟨B, 2, none⟩ = some (.string ct) ∧ x'.cell? ⟨B, 3, none⟩ = some (.string rs) ∧ x'.cell? ⟨B, 4, none⟩ = some (.slice (some ⟨DB, off, none⟩) k dc) ∧ x'.cell? ⟨B + 1 + 1, 0, none⟩ = some (.slice (some ⟨B + 1, 0, none⟩) k k) ∧ x'.cell? ⟨B + 1, 0, none⟩ = some (.int .u32 (q : Nat)) ∧ x'.cell? ⟨L, 1, none⟩ = some tp := by
  obtain ⟨r0, r1, r2, r3⟩ := hR
  obtain ⟨h0, h1, h2, h3, h4, h5, h6, h7⟩ := hS
  exact ⟨(h.cell (p := ⟨B, 0, none⟩) r0).trans h0, (h.cell (p := ⟨B, 1, none⟩) r0).trans h1, (h.cell (p := ⟨B, 2, none⟩) r0).trans h2, (h.cell (p := ⟨B, 3, none⟩) r0).trans h3, (h.cell (p := ⟨B, 4, none⟩) r0).trans h4, (h.cell (p := ⟨B + 1 + 1, 0, none⟩) r2).trans h5, (h.cell (p := ⟨B + 1, 0, none⟩) r1).trans h6, (h.cell (p := ⟨L, 1, none⟩) r3).trans h7⟩

set_option maxRecDepth 100000 in
set_option maxHeartbeats 40000000 in
theorem held_any (Q : Nat → Prop) (L A EB RB n : Nat) (cat : ByteArray) (E rk : Nat → Nat) (tp : Value) (v : Nat) (vals : Nat → Int) (of : Nat → Nat) (dk : ByteArray → Nat) (ns nm ct rs : ByteArray) (dv gv : Value) (devs : List ByteArray) (gs : List Gv) (ws : List Wt) (w : World)
    (hQ : ∀ k, Q k → k < w.heap.size) (h : DevAt Q w L A EB RB n cat E rk tp v vals of) (hkey : KeyOf n v cat E rk of dk) (hdv : Rd Q w dv (devs.map .string)) (hown : OwnG Q w gv gs) (hgs : GsOk Q w vals gs ws)
    (h0 : 0 < devs.length) (hN : devs.length ≤ 1048576) (hlen : gs.length + devs.length ≤ 268435456) :
    Calls Try.prog 25 #[.pointer (some ⟨L, 0, none⟩), gv, .agg #[.string ns, .string nm, .string ct, .string rs, dv]] w fun e w' =>
      ∃ I r gs', e = .returned r ∧ w.heap.size ≤ I ∧ I < w'.heap.size ∧ OwnG (fun k => Q k ∨ k = I) w' r gs' ∧ Kq Q w w' ∧ GsOk (fun k => Q k ∨ k = I) w' vals gs' (ws ++ wants ns nm ct rs (grp dk devs (v + 1))) := by
  obtain ⟨N, hNd⟩ : ∃ N, N = devs.length := ⟨_, rfl⟩
  rw [← hNd] at h0 hN hlen
  obtain ⟨DB, off, dc, hdve, hd1, hd2, hdQ, hdc⟩ := hdv.some (by rw [List.length_map, ← hNd]; exact h0)
  rw [List.length_map, ← hNd] at hdve hd1
  have HD : Hid (DevAt Q w L A EB RB n cat E rk tp v vals of ∧ KeyOf n v cat E rk of dk) := ⟨h, hkey⟩
  have HV : Hid (Rd Q w dv (devs.map .string)) := hdv
  have HO : Hid (OwnG Q w gv gs ∧ GsOk Q w vals gs ws) := ⟨hown, hgs⟩
  have HNd : Hid (N = devs.length) := hNd
  have HQ : Hid (∀ k, Q k → k < w.heap.size) := hQ
  have HC : Hid (∀ i, i < N → w.cell? ⟨DB, off + i, none⟩ = some (.string (devs.getD i ByteArray.empty))) := fun i hi => hdc i _ (map_getD_string _ _ (by omega))
  have HdQ : Hid (Q DB) := hdQ
  subst hdve
  clear h hkey hdv hown hgs hQ hdc hNd hdQ
  have hmk := run_make_row' (P := Try.prog) 39 24 (.int .u32 0) 4 Try.underlying39 Try.info24 rfl .i64 .i64 N (by omega) (by omega)
  have hmf : ∀ (fn : Fn) (first cap : Array Value) (w : World), (Instr.makeFunc fn first cap).run Try.prog w = .ok (.func fn first cap) w := fun _ _ _ _ => rfl
  have HL : Hid (L < w.heap.size ∧ DB < w.heap.size) := ⟨HQ.out _ HD.out.1.qL, HQ.out _ HdQ.out⟩
  go_enter Try.func25, Try.ntmps25
  go_wp2_with fail
  go_loopw [27] (fun p x => ∃ (k : Nat) (f : Nat → Value), k ≤ N ∧ p = .int .i64 k ∧ H1 w w.heap.size #[.string ns, .string nm, .string ct, .string rs, .slice (some ⟨DB, off, none⟩) N dc] N f x ∧ (∀ i, i < k → f i = .int .u32 (dk (devs.getD i ByteArray.empty))) ∧ (∀ i, k ≤ i → f i = .int .u32 0)) (fun p _ => N - (intOf p).toNat)
  case atStart => exact ⟨0, _, Nat.zero_le _, rfl, H1.start _ _ _, fun i hi => by omega, fun i hi => rfl⟩
  case round =>
    obtain ⟨k, f, hk, rfl, hst, hlo, hhi⟩ := hrel
    have H : Hid (H1 w w.heap.size #[.string ns, .string nm, .string ct, .string rs, .slice (some ⟨DB, off, none⟩) N dc] N f wr ∧ (∀ i, i < k → f i = .int .u32 (dk (devs.getD i ByteArray.empty))) ∧ (∀ i, k ≤ i → f i = .int .u32 0)) := ⟨hst, hlo, hhi⟩
    clear hst hlo hhi hmk
    by_cases hlt : k < N
    · as_aux_lemma =>
        have hlt' : (k : Int) < (N : Int) := by omega
        have hkq : Kq Q w wr := H.out.1.kq.mono HQ.out
        have hdev := HD.out.1.kq hkq
        have c0 := hdev.arrp
        have c1 := (hkq.cell (p := ⟨DB, off + k, none⟩) HdQ.out).trans (HC.out k hlt)
        obtain ⟨id, hid⟩ : ∃ id, id = devs.getD k ByteArray.empty := ⟨_, rfl⟩
        rw [← hid] at c1
        have HI : Hid (id = devs.getD k ByteArray.empty) := hid
        have HV2 : Hid (DevAt Q wr L A EB RB n cat E rk tp v vals of) := hdev
        clear hkq hdev hid
        go_wp2_with fail
        refine (find_any A EB RB n cat E rk id _ HV2.out.arr HV2.out.ranked).mono ?_
        rintro e w1 ⟨j, bb, rfl, ⟨m, hw1⟩, ht, hf⟩
        subst w1
        cases bb with
        | false =>
          have HX : Hid (dk id = 0) := HD.out.2.miss id (hf rfl)
          clear ht hf c0 c1
          go_wp2_with fail
          go_roundw
          case rel =>
            refine ⟨k + 1, f, by omega, by go_num, H.out.1.drewN _, fun i hi => ?_, fun i hi => H.out.2.2 i (by omega)⟩
            by_cases e : i = k
            · rw [e, H.out.2.2 k (Nat.le_refl _), ← HI.out, HX.out]; rfl
            · exact H.out.2.1 i (by omega)
          case measure => simp [intOf]; omega
        | true =>
          obtain ⟨hj, hje⟩ := ht rfl
          have HX : Hid (dk id = of (rk j)) := by rw [← hje]; exact HD.out.2.hit j hj
          have H5 : Hid (H1 w w.heap.size #[.string ns, .string nm, .string ct, .string rs, .slice (some ⟨DB, off, none⟩) N dc] N f (wr.drewN m)) := H.out.1.drewN _
          have HV3 : Hid (DevAt Q (wr.drewN m) L A EB RB n cat E rk tp v vals of) := HV2.out.kq ((Kq.refl _ _).drewN _)
          obtain ⟨w2, hw2⟩ : ∃ w2, w2 = wr.drewN m := ⟨_, rfl⟩
          rw [← hw2] at H5 HV3 ⊢
          have c2 := H5.out.cvar
          have c3 := H5.out.frow k
          have c4 := H5.out.crow hlt
          clear ht hf hje hw2 c0 c1 HV2
          go_wp2_with fail
          go_region_held3 (fun x => x.cell? ⟨w.heap.size + 1 + 1, 0, none⟩ = some (.slice (some ⟨w.heap.size + 1, 0, none⟩) N N) ∧ x.frozen? ⟨w.heap.size + 1, k, none⟩ = false) (go_keep) ((go_at_call 27; refine (setOf_any Q L A EB RB n cat E rk tp v vals of j _ (HV3.out.kq ((Kq.refl _ _).drew)) hj).mono ?_; rintro e w3 ⟨rfl, m3, hw3⟩; subst w3))
          go_wp2_with fail
          go_roundw
          case rel =>
            refine ⟨k + 1, upd f k (.int .u32 (of (rk j))), by omega, by go_num, (H5.out.drewN _).set, fun i hi => ?_, fun i hi => by rw [upd_other (by omega)]; exact H.out.2.2 i (by omega)⟩
            by_cases e : i = k
            · rw [e, upd_same, ← HI.out, HX.out]
            · rw [upd_other e]; exact H.out.2.1 i (by omega)
          case measure => simp [intOf]; omega
    · obtain rfl : k = N := by omega
      have H2 : Hid (H1 w w.heap.size #[.string ns, .string nm, .string ct, .string rs, .slice (some ⟨DB, off, none⟩) k dc] k f wr) := H.out.1
      have hsets := H2.out.sets (key := fun i => dk (devs.getD i ByteArray.empty)) H.out.2.1 hN
      have c0 := H2.out.cvar
      have HS := (show Hid _ from hsets)
      have HF : Hid (∀ i, i < k → f i = .int .u32 (dk (devs.getD i ByteArray.empty))) := H.out.2.1
      clear H hlt hk hsets
      go_wp2_with fail
      refine (contains_any _ _ _ _ _ HS.out h0).mono ?_
      rintro e w1 ⟨hw1, hr⟩
      subst w1
      rcases hr with ⟨rfl, hall⟩ | ⟨rfl, hmix⟩
      · skip
        · obtain ⟨q, hq⟩ : ∃ q, q = dk (devs.getD 0 ByteArray.empty) := ⟨_, rfl⟩
          have HA : Hid (∀ i, i < k → dk (devs.getD i ByteArray.empty) = q) := fun i hi => by rw [hq]; exact hall i hi
          have hqv : q ≤ v := by rw [hq]; exact HD.out.2.le _
          have r0 := HS.out.cell 0 h0
          try simp only at r0
          rw [← hq] at r0
          have b0 := H2.out.cbox 0
          have b1 := H2.out.cbox 1
          have b2 := H2.out.cbox 2
          have b3 := H2.out.cbox 3
          have b4 := H2.out.cbox 4
          simp only [List.getElem?_toArray, List.getElem?_cons_zero, List.getElem?_cons_succ] at b0 b1 b2 b3 b4
          have hkq : Kq Q w wr := H2.out.kq.mono HQ.out
          have HKQ : Hid (Kq Q w wr) := hkq
          have HTP : Hid (Topo Q wr tp n v vals of) := HD.out.1.topo.kq hkq
          have l1 := (HD.out.1.kq hkq).top
          have HSZ : Hid (w.heap.size + 3 ≤ wr.heap.size) := H2.out.size
          obtain ⟨R, hR⟩ : ∃ R : Nat → Prop, R = fun k => Q k ∨ (w.heap.size ≤ k ∧ k < w.heap.size + 3) := ⟨_, rfl⟩
          have HRR : Hid (R w.heap.size ∧ R (w.heap.size + 1) ∧ R (w.heap.size + 1 + 1) ∧ R L) := by
            rw [hR]; exact ⟨.inr ⟨by omega, by omega⟩, .inr ⟨by omega, by omega⟩, .inr ⟨by omega, by omega⟩, .inl HD.out.1.qL⟩
          have HRQ : Hid (∀ j, Q j → R j) := fun j hj => by rw [hR]; exact .inl hj
          have HRlt : Hid (∀ j, R j → j < wr.heap.size) := fun j hj => by
            rw [hR] at hj
            have h3 := HSZ.out
            rcases hj with hj | hj
            · have := HQ.out j hj; omega
            · omega
          have HOW : Hid (OwnG R wr gv gs) := by
            rw [hR]
            have h1 := HO.out.1
            exact (h1.kq H2.out.kq (fun j hj => h1.lt j hj)).sub (fun j hj hjq => hjq.elim id (fun h => by have := h1.lt j hj; omega))
          have hgl : gs.length ≤ 268435456 := by omega
          clear hall hq hkq H2 HS hmf hR
          go_wp2_with fail
          go_region_held3 (fun x => x.cell? ⟨w.heap.size, 0, none⟩ = some (.string ns) ∧ x.cell? ⟨w.heap.size, 1, none⟩ = some (.string nm) ∧ x.cell? ⟨w.heap.size, 2, none⟩ = some (.string ct) ∧ x.cell? ⟨w.heap.size, 3, none⟩ = some (.string rs) ∧ x.cell? ⟨w.heap.size, 4, none⟩ = some (.slice (some ⟨DB, off, none⟩) k dc) ∧ x.cell? ⟨w.heap.size + 1 + 1, 0, none⟩ = some (.slice (some ⟨w.heap.size + 1, 0, none⟩) k k) ∧ x.cell? ⟨w.heap.size + 1, 0, none⟩ = some (.int .u32 (q : Nat)) ∧ x.cell? ⟨L, 1, none⟩ = some tp)
            (first | (go_keep; done) | (exact keep8 hk HRR.out (by assumption)))
            (first
              | (go_at_call 30; refine (topSet' Q tp n v vals of q _ (HTP.out.kq ((Kq.refl _ _).drew)) hqv).mono ?_; rintro e w3 ⟨r, rfl, hr, m3, hw3⟩; subst w3; obtain ⟨ra, rc, hrf⟩ := hr.form; have HR := (show Hid _ from hr); clear hr; subst hrf)
              | (refine step_append_g _ rfl _ _ rfl R (fun j hj => by have := HRlt.out j hj; simp; omega) gv gs rfl ((HOW.out.drewN _).alloc _) _ rfl ⟨ns, nm, ct, rs, .slice ra (numa vals q).length rc, .slice (some ⟨DB, off, none⟩) k dc⟩ (heap_alloc_new _ _) rfl rfl hgl ?_; intro v' w' ho hk hb))
          go_wp2_with fail
          go_ret
          have kq1 : Kq R wr w' := (((Kq.refl _ _).drewN _).alloc HRlt.out _).trans hk
          have kq2 : Kq Q w w' := HKQ.out.trans (kq1.mono HRQ.out)
          refine ⟨w.heap.size, v', _, rfl, Nat.le_refl _, ?_, ho.sub (fun j _ hj => hj.elim (HRQ.out j) (fun e => e ▸ HRR.out.1)), kq2, ?_⟩
          · have := kq1.size; have := HSZ.out; omega
          · have hone : grp dk devs (v + 1) = [(q, devs)] := by
              refine grp_one (fun x hx => ?_) (fun h => by rw [h] at HNd; have := HNd.out; simp at this; omega) hqv
              obtain ⟨i, hi, rfl⟩ := List.getElem_of_mem hx
              have := HA.out i (by rw [HNd.out]; exact hi)
              simpa [hi] using this
            rw [hone]
            refine ((HO.out.2.kq kq2).mono (fun _ _ h => .inl h)).snoc ⟨rfl, rfl, rfl, rfl, ?_, ?_⟩
            · have hR1 : Rd Q wr (.slice ra (numa vals q).length rc) (numa vals q) := HR.out
              exact (hR1.kq (kq1.mono HRQ.out)).mono (fun _ _ h => .inl h)
            · exact (HV.out.kq kq2).mono (fun _ _ h => .inl h)
      · have HX : Hid (∀ i, i < k → f i = .int .u32 (dk (devs.getD i ByteArray.empty))) := HF.out
        have hO : Hid (w.heap.size + 3 ≤ wr.heap.size) := H2.out.size
        have hmk2 := run_make_row' (P := Try.prog) 57 3 (.int .i64 0) 8 Try.underlying57 Try.info3 rfl .i64 .i64 k (by omega) (by omega)
        have hmk3 := run_make_row' (P := Try.prog) 31 9 (.string ⟨#[]⟩) 16 Try.underlying31 Try.info9 rfl .i64 .i64 k (by omega) (by omega)
        obtain ⟨wa, hwa⟩ : ∃ wa : World, wa = wr := ⟨_, rfl⟩
        subst hwa
        clear hmix
        obtain ⟨O, hOe⟩ : ∃ O, O = wa.heap.size := ⟨_, rfl⟩
        have HOe : Hid (O = wa.heap.size) := hOe
        clear hOe
        obtain ⟨W2, hW2⟩ : ∃ W2, W2 = wa.alloc (.cells (madeCells #[.int .i64 0] k) 3) := ⟨_, rfl⟩
        have HW2 : Hid (W2 = wa.alloc (.cells (madeCells #[.int .i64 0] k) 3)) := hW2
        have HM : Hid (Rw W2 O 3 k (fun _ => .int .i64 0) W2) := by rw [hW2, HOe.out]; exact Rw.made _ _ _ _
        go_wp2_with fail
        rw [← hW2, ← HOe.out]
        clear hW2 hmk2
        go_loopw [79] (fun p x => ∃ (j : Nat) (g : Nat → Value), j ≤ k ∧ p = .int .i64 j ∧ Rw W2 O 3 k g x ∧ (∀ i, i < j → g i = .int .i64 i)) (fun p _ => k - (intOf p).toNat)
        case atStart => exact ⟨0, _, Nat.zero_le _, rfl, HM.out, fun i hi => by omega⟩
        case round =>
          obtain ⟨j, g, hj, rfl, hst, hlo⟩ := hrel
          have H3 : Hid (Rw W2 O 3 k g wr ∧ ∀ i, i < j → g i = .int .i64 i) := ⟨hst, hlo⟩
          clear hst hlo
          by_cases hlt : j < k
          · have hlt' : (j : Int) < (k : Int) := by omega
            have f3 := H3.out.1.free j
            have c3 := H3.out.1.cell hlt
            clear hmk3 hmf c0
            go_wp2_with fail
            go_roundw
            case rel =>
              refine ⟨j + 1, upd g j (.int .i64 j), by omega, by go_num, H3.out.1.set, fun i hi => ?_⟩
              by_cases e : i = j
              · rw [e, upd_same]
              · rw [upd_other e]; exact H3.out.2 i (by omega)
            case measure => simp [intOf]; omega
          · obtain rfl : j = k := by omega
            have HE : Hid (Env W2 O (w.heap.size + 1 + 1) (w.heap.size + 1) j (fun i => dk (devs.getD i ByteArray.empty))) := by
              have h3 := hO.out
              have h4 := HOe.out
              refine ⟨HS.out.kq (Q := fun i => i < wa.heap.size) ?_ (by omega) (by omega), by omega, by omega⟩
              rw [HW2.out]
              exact (Kq.refl _ _).alloc (fun _ h => h) _
            have H4 : Hid (St W2 O j (fun i => i) wr) := by
              have h5 := H3.out.1.ext (g := fun i => .int .i64 ((fun i => i) i : Nat)) H3.out.2
              exact ⟨h5.row, h5.kq⟩
            clear hlt hj H3 HM c0
            go_wp2_with fail
            refine (sortStable_any W2 O (w.heap.size + 1 + 1) (w.heap.size + 1) j (fun i => dk (devs.getD i ByteArray.empty)) (fun i => i) _ HE.out H4.out h0 (fun _ _ => rfl)).mono ?_
            rintro e w1 ⟨rfl, D, hst, hprm, hseg⟩
            have HP : Hid (Prm 0 j id D ∧ Seg (fun i => dk (devs.getD i ByteArray.empty)) D 0 j) := ⟨hprm, hseg⟩
            obtain ⟨I, hIe⟩ : ∃ I, I = w1.heap.size := ⟨_, rfl⟩
            have HIe : Hid (I = w1.heap.size) := hIe
            clear hIe
            obtain ⟨W3, hW3⟩ : ∃ W3, W3 = w1.alloc (.cells (madeCells #[.string ⟨#[]⟩] j) 9) := ⟨_, rfl⟩
            have HN5 : Hid (H5 w w.heap.size #[.string ns, .string nm, .string ct, .string rs, .slice (some ⟨DB, off, none⟩) j dc] j f O D I (fun _ => .string ⟨#[]⟩) W3) := by
              have hO' := hO.out
              have hOe := HOe.out
              have e2 : W2.heap.size = wa.heap.size + 1 := by rw [HW2.out]; simp
              have hsz := hst.kq.size
              have k1 : Kq (fun k => k < w.heap.size + 3) wa w1 := by
                refine Kq.trans (b := W2) ?_ (hst.kq.mono (fun i hi => ⟨by omega, by omega⟩))
                rw [HW2.out]; exact (Kq.refl _ _).alloc (fun i hi => by omega) _
              have k2 : Kq (fun k => k < w1.heap.size) w1 W3 := by rw [hW3]; exact (Kq.refl _ _).alloc (fun _ h => h) _
              have hI' := HIe.out
              refine ⟨(H2.out.keep k1 (fun _ h => h)).keep k2 (fun i hi => by omega), ?_, ?_, by omega, by omega⟩
              · rw [k2.block _ (by omega)]; exact hst.row
              · rw [hW3, HIe.out, heap_alloc_new, made_rowF]
            clear hst hprm hseg H2 HS HE H4 HW2
            go_wp2_with fail
            rw [← hW3, ← HIe.out]
            clear hW3 hmk3
            go_loopw [95] (fun p x => ∃ (i : Nat) (g : Nat → Value), i ≤ j ∧ p = .int .i64 i ∧ H5 w w.heap.size #[.string ns, .string nm, .string ct, .string rs, .slice (some ⟨DB, off, none⟩) j dc] j f O D I g x ∧ (∀ t, t < i → g t = .string (devs.getD (D t) ByteArray.empty))) (fun p _ => j - (intOf p).toNat)
            case atStart => exact ⟨0, _, Nat.zero_le _, rfl, HN5.out, fun i hi => by omega⟩
            case round =>
              obtain ⟨i, g, hi, rfl, hst, hlo⟩ := hrel
              have H6 : Hid (H5 w w.heap.size #[.string ns, .string nm, .string ct, .string rs, .slice (some ⟨DB, off, none⟩) j dc] j f O D I g wr ∧ ∀ t, t < i → g t = .string (devs.getD (D t) ByteArray.empty)) := ⟨hst, hlo⟩
              clear hst hlo HN5
              by_cases hlt : i < j
              · have hlt' : (i : Int) < (j : Int) := by omega
                have c1 := H6.out.1.cord hlt
                obtain ⟨d, hd⟩ : ∃ d, d = D i := ⟨_, rfl⟩
                have hdj : d < j := by rw [hd]; exact (HP.out.2.2 i (Nat.zero_le _) hlt).2
                have hdj' : (d : Int) < (j : Int) := by omega
                have c2 := (H6.out.1.h1.kq.cell (p := ⟨DB, off + d, none⟩) HL.out.2).trans (HC.out d hdj)
                rw [← hd] at c1
                have c3 := H6.out.1.h1.cbox 4
                simp only [List.getElem?_toArray, List.getElem?_cons_zero, List.getElem?_cons_succ] at c3
                have c4 := H6.out.1.cids hlt
                have f4 := H6.out.1.fids i
                have HDI : Hid (d = D i) := hd
                clear hd hmf
                go_wp2_with fail
                go_roundw
                case rel =>
                  refine ⟨i + 1, upd g i (.string (devs.getD d ByteArray.empty)), by omega, by go_num, H6.out.1.set, fun t ht => ?_⟩
                  by_cases e : t = i
                  · rw [e, upd_same, HDI.out]
                  · rw [upd_other e]; exact H6.out.2 t (by omega)
                case measure => simp [intOf]; omega
              · obtain rfl : i = j := by omega
                obtain ⟨R, hR⟩ : ∃ R : Nat → Prop, R = fun k => Q k ∨ ((w.heap.size ≤ k ∧ k < w.heap.size + 3) ∨ k = O ∨ k = I) := ⟨_, rfl⟩
                have HRX : Hid (∀ k, (w.heap.size ≤ k ∧ k < w.heap.size + 3) ∨ k = O ∨ k = I → R k) := fun k hk => by rw [hR]; exact .inr hk
                have HRQ : Hid (∀ k, Q k → R k) := fun k hk => by rw [hR]; exact .inl hk
                have HRlt : Hid (∀ k, R k → k < wr.heap.size) := fun k hk => by
                  rw [hR] at hk
                  have h1 := H6.out.1.hO; have h2 := H6.out.1.hI; have h3 := H6.out.1.size
                  rcases hk with hk | hk
                  · have := HQ.out k hk; omega
                  · omega
                have HRI : Hid (∀ k, Q k ∨ k = I → R k) := fun k hk => hk.elim (HRQ.out k) (fun e => HRX.out k (.inr (.inr e)))
                have HKQ : Hid (Kq Q w wr) := H6.out.1.h1.kq.mono HQ.out
                have HOW : Hid (OwnG R wr gv gs ∧ GsOk (fun k => Q k ∨ k = I) wr vals gs ws) := by
                  have h1 := HO.out.1
                  have h2 := H6.out.1.hO; have h3 := H6.out.1.hI
                  refine ⟨?_, (HO.out.2.kq HKQ.out).mono (fun _ _ h => .inl h)⟩
                  rw [hR]
                  exact (h1.kq H6.out.1.h1.kq (fun j hj => h1.lt j hj)).sub (fun j hj hjq => hjq.elim id (fun h => by have := h1.lt j hj; omega))
                have HB : Hid (H5 wr w.heap.size #[.string ns, .string nm, .string ct, .string rs, .slice (some ⟨DB, off, none⟩) i dc] i f O D I g wr) := H6.out.1.move (Kq.refl (fun _ => True) _) (fun _ _ => trivial)
                have HG : Hid (∀ t, t < i → g t = .string (devs.getD (D t) ByteArray.empty)) := H6.out.2
                have HIw : Hid (w.heap.size ≤ I) := by have h1 := H6.out.1.hO; have h2 := H6.out.1.hI; show _ ≤ _; omega
                obtain ⟨wb, hwb⟩ : ∃ wb : World, wb = wr := ⟨_, rfl⟩
                subst hwb
                clear hlt hi H6 hmf hR
                go_wp2_with fail
                go_loopw [1, 17] (fun r p x => ∃ (s : Nat) (gs2 : List Gv) (L2 : List (Nat × List ByteArray)), s ≤ i ∧ p = .int .i64 s ∧ H5 x w.heap.size #[.string ns, .string nm, .string ct, .string rs, .slice (some ⟨DB, off, none⟩) i dc] i f O D I g x ∧ Kq Q w x ∧ wb.heap.size ≤ x.heap.size ∧ OwnG R x r gs2 ∧ gs2.length ≤ gs.length + s ∧ GsOk (fun k => Q k ∨ k = I) x vals gs2 (ws ++ wants ns nm ct rs L2) ∧ (s < i → grp dk devs (dk (devs.getD (D s) ByteArray.empty)) = L2) ∧ (s = i → grp dk devs (v + 1) = L2) ∧ (0 < s → s < i → dk (devs.getD (D (s - 1)) ByteArray.empty) ≠ dk (devs.getD (D s) ByteArray.empty))) (fun _ p _ => i - (intOf p).toNat)
                case atStart =>
                  refine ⟨0, gs, [], Nat.zero_le _, rfl, HB.out, HKQ.out, Nat.le_refl _, HOW.out.1, Nat.le_refl _, ?_, fun _ => ?_, fun h => by omega, fun h => by omega⟩
                  · simpa [wants] using HOW.out.2
                  · exact grp_first HNd.out HP.out.1 HP.out.2
                case round =>
                  obtain ⟨s, gs2, L2, hs, rfl, hB, hkq, hsz, hown, hgl, hgs, hg1, hg2, hg3⟩ := hrel
                  by_cases hlt : s < i
                  · have hlt' : (s : Int) < (i : Int) := by omega
                    have c1 := hB.cord hlt
                    obtain ⟨d, hd⟩ : ∃ d, d = D s := ⟨_, rfl⟩
                    have hdi : d < i := by rw [hd]; exact (HP.out.2.2 s (Nat.zero_le _) hlt).2
                    have hdi' : (d : Int) < (i : Int) := by omega
                    obtain ⟨q, hq⟩ : ∃ q, q = dk (devs.getD d ByteArray.empty) := ⟨_, rfl⟩
                    have c2 := hB.h1.crow hdi
                    rw [HF.out d hdi, ← hq] at c2
                    rw [← hd] at c1
                    have c3 := hB.h1.cvar
                    have HDQ : Hid (d = D s ∧ q = dk (devs.getD (D s) ByteArray.empty)) := ⟨hd, by rw [hq, hd]⟩
                    have HZ : Hid (H5 wr w.heap.size #[.string ns, .string nm, .string ct, .string rs, .slice (some ⟨DB, off, none⟩) i dc] i f O D I g wr ∧ Kq Q w wr ∧ wb.heap.size ≤ wr.heap.size ∧ OwnG R wr u1 gs2 ∧ gs2.length ≤ gs.length + s ∧ GsOk (fun k => Q k ∨ k = I) wr vals gs2 (ws ++ wants ns nm ct rs (grp dk devs q)) ∧ (0 < s → dk (devs.getD (D (s - 1)) ByteArray.empty) ≠ q)) :=
                      ⟨hB, hkq, hsz, hown, hgl, by rw [HDQ.out.2, hg1 hlt]; exact hgs, fun h => by rw [HDQ.out.2]; exact hg3 h hlt⟩
                    clear hB hkq hsz hown hgl hgs hg1 hg2 hg3 hd hq HB HOW HKQ
                    obtain ⟨wq, hwq⟩ : ∃ wq : World, wq = wr := ⟨_, rfl⟩
                    subst hwq
                    go_wp2_with fail
                    go_quiet (fail)
                    go_wp2_with fail
                    go_loopw [19] (fun p x => ∃ e m : Nat, s < e ∧ e ≤ i ∧ p = .int .i64 e ∧ x = wq.drewN m ∧ ∀ t, s ≤ t → t < e → dk (devs.getD (D t) ByteArray.empty) = q) (fun p _ => i - (intOf p).toNat)
                    case atStart => exact ⟨s + 1, _, by omega, by omega, by go_num, rfl, fun t h1 h2 => by rw [show t = s by omega]; exact HDQ.out.2.symm⟩
                    case round =>
                      obtain ⟨e, m, he1, he2, rfl, hx, hall⟩ := hrel
                      have HE : Hid (∀ t, s ≤ t → t < e → dk (devs.getD (D t) ByteArray.empty) = q) := hall
                      have HB2 : Hid (H5 wq w.heap.size #[.string ns, .string nm, .string ct, .string rs, .slice (some ⟨DB, off, none⟩) i dc] i f O D I g wr) := by rw [hx]; exact HZ.out.1.drewN _
                      have HXe : Hid (wr = wq.drewN m) := hx
                      clear hx hall c1 c2 c3 hlt' hdi' hdi
                      go_upto_region 28 with fail
                      go_cut [136] (fun p wc => ∃ m2 : Nat, p = .bool (decide (e < i ∧ dk (devs.getD (D e) ByteArray.empty) = q)) ∧ wc = wq.drewN m2)
                      case first =>
                        by_cases hei : e < i
                        · have hei' : (e : Int) < (i : Int) := by omega
                          have hdt : decide (e < i) = true := decide_eq_true hei
                          have c1 := HB2.out.cord hei
                          obtain ⟨d2, hd2⟩ : ∃ d2, d2 = D e := ⟨_, rfl⟩
                          have hdi2 : d2 < i := by rw [hd2]; exact (HP.out.2.2 e (Nat.zero_le _) hei).2
                          have hdi2' : (d2 : Int) < (i : Int) := by omega
                          obtain ⟨q2, hq2⟩ : ∃ q2, q2 = dk (devs.getD d2 ByteArray.empty) := ⟨_, rfl⟩
                          have c2 := HB2.out.h1.crow hdi2
                          rw [HF.out d2 hdi2, ← hq2] at c2
                          rw [← hd2] at c1
                          have c3 := HB2.out.h1.cvar
                          have HQ2 : Hid (q2 = dk (devs.getD (D e) ByteArray.empty)) := by show _ = _; rw [hq2, hd2]
                          clear hd2 hq2
                          go_wp2_with fail
                          go_quiet (fail)
                          go_wp2_with fail
                          go_meet
                          case rel =>
                            refine ⟨m + nq, ?_, by rw [HXe.out, World.drewN_drewN]⟩
                            rw [← HQ2.out]
                            have : decide (e < i ∧ q2 = q) = ((q2 : Int) == (q : Int)) := by
                              rw [Bool.eq_iff_iff]; simp; omega
                            rw [this]
                        · have hdt : decide (e < i) = false := decide_eq_false hei
                          have HD2 : Hid (decide (e < i ∧ dk (devs.getD (D e) ByteArray.empty) = q) = false) := decide_eq_false (fun h => hei h.1)
                          go_wp2_with fail
                          go_quiet (fail)
                          go_wp2_with fail
                          go_meet
                          case rel => exact ⟨m + nq, by rw [HD2.out], by rw [HXe.out, World.drewN_drewN]⟩
                      case rest =>
                        obtain ⟨m2, rfl, hx2⟩ := hcut
                        obtain ⟨bb, hbb⟩ : ∃ bb, bb = decide (e < i ∧ dk (devs.getD (D e) ByteArray.empty) = q) := ⟨_, rfl⟩
                        rw [← hbb]
                        have HBB : Hid (bb = decide (e < i ∧ dk (devs.getD (D e) ByteArray.empty) = q)) := hbb
                        have HX2 : Hid (wc = wq.drewN m2) := hx2
                        clear hbb hx2 HB2 HXe
                        cases bb with
                        | true =>
                          have h5 : e < i ∧ dk (devs.getD (D e) ByteArray.empty) = q := of_decide_eq_true HBB.out.symm
                          have h6 : e < i := h5.1
                          have H5q : Hid (dk (devs.getD (D e) ByteArray.empty) = q) := h5.2
                          clear h5
                          go_wp2_with fail
                          go_roundw
                          case rel =>
                            refine ⟨e + 1, m2, by omega, by omega, by go_num, HX2.out, fun t h1 h2 => ?_⟩
                            by_cases c : t = e
                            · rw [c]; exact H5q.out
                            · exact HE.out t h1 (by omega)
                          case measure => simp [intOf]; omega
                        | false =>
                          have HEnd : Hid (e < i → dk (devs.getD (D e) ByteArray.empty) ≠ q) := fun h1 h2 => of_decide_eq_false HBB.out.symm ⟨h1, h2⟩
                          have HY : Hid (H5 wq w.heap.size #[.string ns, .string nm, .string ct, .string rs, .slice (some ⟨DB, off, none⟩) i dc] i f O D I g wc ∧ Kq Q w wc ∧ wb.heap.size ≤ wc.heap.size ∧ OwnG R wc u1 gs2 ∧ gs2.length ≤ gs.length + s ∧ GsOk (fun k => Q k ∨ k = I) wc vals gs2 (ws ++ wants ns nm ct rs (grp dk devs q)) ∧ (0 < s → dk (devs.getD (D (s - 1)) ByteArray.empty) ≠ q)) := by
                            obtain ⟨z1, z2, z3, z4, z5, z6, z7⟩ := HZ.out
                            show _ ∧ _
                            rw [HX2.out]
                            exact ⟨z1.drewN _, z2.drewN _, z3, z4.drewN _, z5, z6.kq ((Kq.refl _ _).drewN _), z7⟩
                          clear HZ HX2 HBB
                          have b0 := HY.out.1.h1.cbox 0
                          have b1 := HY.out.1.h1.cbox 1
                          have b2 := HY.out.1.h1.cbox 2
                          have b3 := HY.out.1.h1.cbox 3
                          simp only [List.getElem?_toArray, List.getElem?_cons_zero, List.getElem?_cons_succ] at b0 b1 b2 b3
                          have l1 := (HD.out.1.kq HY.out.2.1).top
                          have HTP : Hid (Topo Q wc tp n v vals of) := HD.out.1.topo.kq HY.out.2.1
                          have HRR : Hid (R w.heap.size ∧ R L) := ⟨HRX.out _ (.inl ⟨Nat.le_refl _, by omega⟩), HRQ.out _ HD.out.1.qL⟩
                          have HRlt2 : Hid (∀ k, R k → k < wc.heap.size) := fun k hk => by have := HRlt.out k hk; have := HY.out.2.2.1; omega
                          have hqv : q ≤ v := by rw [HDQ.out.2]; exact HD.out.2.le _
                          have hgl2 : gs2.length ≤ 268435456 := by have := HY.out.2.2.2.2.1; omega
                          have n1 : (s : Int) ≤ (e : Int) := by omega
                          have n2 : (e : Int) ≤ (i : Int) := by omega
                          have n3 : (0 : Int) ≤ (s : Int) := by omega
                          have n4 : (0 : Int) ≤ (e : Int) := by omega
                          go_wp2_with fail
                          go_region_held3 (fun x => x.cell? ⟨w.heap.size, 0, none⟩ = some (.string ns) ∧ x.cell? ⟨w.heap.size, 1, none⟩ = some (.string nm) ∧ x.cell? ⟨w.heap.size, 2, none⟩ = some (.string ct) ∧ x.cell? ⟨w.heap.size, 3, none⟩ = some (.string rs) ∧ x.cell? ⟨L, 1, none⟩ = some tp)
                            (first | (go_keep; done) | (exact keep5 hk HRR.out (by assumption)))
                            (first
                              | (go_at_call 30; refine (topSet' Q tp n v vals of q _ (HTP.out.kq ((Kq.refl _ _).drew)) hqv).mono ?_; rintro e w3 ⟨r, rfl, hr, m3, hw3⟩; subst w3; obtain ⟨ra, rc, hrf⟩ := hr.form; have HR : Hid (Rd Q wc.drew r (numa vals q)) := hr; clear hr; subst hrf)
                              | (refine step_append_g _ rfl _ _ rfl R (fun j hj => by have := HRlt2.out j hj; simp; omega) u1 gs2 rfl ((HY.out.2.2.2.1.drewN _).alloc _) _ rfl ⟨ns, nm, ct, rs, .slice ra (numa vals q).length rc, .slice (some ⟨I, s, none⟩) (e - s) (e - s)⟩ (heap_alloc_new _ _) rfl rfl hgl2 ?_; intro v' w' ho hk hb))
                          clear b0 b1 b2 b3 l1 n1 n2 n3 n4
                          go_wp2_with fail
                          go_roundw
                          case rel =>
                            have kq1 : Kq R wc w' := (((Kq.refl _ _).drewN _).alloc HRlt2.out _).trans hk
                            obtain ⟨y1, y2, y3, y4, y5, y6, y7⟩ := HY.out
                            have hN5 := HNd.out
                            have hrun := grp_run (s := s) (e := e) (q := q) hN5 HP.out.1 HP.out.2 he1 he2 HE.out HEnd.out y7
                            have hqe : dk (devs.getD (D (e - 1)) ByteArray.empty) = q := HE.out (e - 1) (by omega) (by omega)
                            refine ⟨e, gs2 ++ [⟨ns, nm, ct, rs, .slice ra (numa vals q).length rc, .slice (some ⟨I, s, none⟩) (e - s) (e - s)⟩], grp dk devs (q + 1), he2, rfl, y1.move kq1 HRX.out, y2.trans (kq1.mono HRQ.out), Nat.le_trans y3 kq1.size, ho, ?_, ?_, fun h => ?_, fun h => ?_, fun h1 h2 => ?_⟩
                            · simp; omega
                            · rw [hrun, show wants ns nm ct rs (grp dk devs q ++ [(q, (List.range (e - s)).map fun t => devs.getD (D (s + t)) ByteArray.empty)]) = wants ns nm ct rs (grp dk devs q) ++ [⟨ns, nm, ct, rs, q, (List.range (e - s)).map fun t => devs.getD (D (s + t)) ByteArray.empty⟩] from by simp [wants], ← List.append_assoc]
                              have hR1 : Rd Q wc (.slice ra (numa vals q).length rc) (numa vals q) := HR.out
                              refine (y6.kq (kq1.mono HRI.out)).snoc ⟨rfl, rfl, rfl, rfl, ?_, ?_⟩
                              · exact (hR1.kq (kq1.mono HRQ.out)).mono (fun _ _ h => .inl h)
                              · exact (y1.rdids (R := fun k => Q k ∨ k = I) HG.out he2 hN (.inr rfl)).kq (kq1.mono HRI.out)
                            · exact grp_after hN5 HP.out.1 HP.out.2 (by omega) h hqe (HEnd.out h)
                            · exact grp_last hN5 HP.out.1 HP.out.2 h0 (by rw [← h]; exact hqe) hqv
                            · rw [hqe]; exact fun hh => HEnd.out h2 hh.symm
                          case measure => simp [intOf]; omega
                  · obtain rfl : s = i := by omega
                    have HZ : Hid (Kq Q w wr ∧ wb.heap.size ≤ wr.heap.size ∧ OwnG R wr u1 gs2 ∧ GsOk (fun k => Q k ∨ k = I) wr vals gs2 (ws ++ wants ns nm ct rs (grp dk devs (v + 1)))) := ⟨hkq, hsz, hown, by rw [hg2 rfl]; exact hgs⟩
                    clear hB hkq hsz hown hgl hgs hg1 hg2 hg3
                    go_wp2_with fail
                    go_ret
                    obtain ⟨z1, z2, z3, z4⟩ := HZ.out
                    exact ⟨I, u1, gs2, rfl, HIw.out, by have := HB.out.size; omega, z3.sub (fun j _ hj => HRI.out j hj), z1, z4⟩
end Go.Proofs.Qxb6609296a

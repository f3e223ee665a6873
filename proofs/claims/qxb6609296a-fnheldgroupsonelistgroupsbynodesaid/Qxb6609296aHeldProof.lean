import Derived.Test.Qxb6609296aMain
import Derived.Test.Qxb6609296aOpen
import Derived.Test.Qxb6609296aRows
namespace Go.Proofs.Qxb6609296a.fnHeldGroupsOneListGroupsByNode
open Go.ChangeShapes Go.WideShapes Go.ChangeAt Go.RowKit Go.Deep
open Go.ChangeMaps (open_string shut_string)

theorem own : ownKnob Try.prog.godebug = none := by kernel_rfl
theorem laidOut : laidOutB Try.prog = true := by kernel_rfl

theorem ret7 {post : Ending → World → Prop} (t : Array Value) (w' : World) (ht : t.toList[10]? = some (.bool true)) (h : post (.returned (.bool true)) w') : bodyPost Try.prog Try.f7 post .ret { tmps := t, defers := [] } w' := by
  refine ⟨rfl, .bool true, ?_, h⟩
  rw [Array.getElem?_toList] at ht
  have hr : Try.f7.results = #[.tmp 10] := rfl
  unfold results
  rw [hr]
  simp
  rw [ht]
  rfl

set_option maxRecDepth 100000 in
/-- The law returns true, and what was there before stays as it was. -/
theorem walk (W : World) (v0 v2 v3 v4 : Value) (res : ByteArray) (xs : List As) (ids : List ByteArray) (nodes : List Int) (given : List Bool)
    (hx : Ass (· < W.heap.size) W v0 xs) (hf : ∀ (i : Nat) a, xs[i]? = some a → AsFit a) (hid : Rd (· < W.heap.size) W v2 (ids.map .string)) (hsz : ∀ i, i < ids.length → (ids.getD i ByteArray.empty).size ≤ maxLen) (hres : res.size ≤ maxLen)
    (hnod : Rd (· < W.heap.size) W v3 (nodes.map (.int .i64))) (hgiv : Rd (· < W.heap.size) W v4 (given.map .bool)) :
    Calls Try.prog 7 #[v0, .string res, v2, v3, v4] W fun e W' => e = .returned (.bool true) ∧ Below W.heap.size W W' := by
  obtain ⟨ax, cx, e0, _⟩ := id hx
  obtain ⟨ai, ci, e2⟩ := hid.form
  obtain ⟨an, cn, e3⟩ := hnod.form
  obtain ⟨ag, cg, e4⟩ := hgiv.form
  rw [List.length_map] at e2 e3 e4
  subst e0 e2 e3 e4
  go_enter Try.func7, Try.ntmps7
  exact main7 W ax ai an ag xs.length cx ids.length ci nodes.length cn given.length cg res xs ids nodes given hx hf rfl hid rfl hsz hres hnod rfl hgiv rfl _ (fun t w' ht hk => ret7 t w' ht ⟨rfl, hk.below⟩)

set_option maxRecDepth 100000 in
theorem lifted (os : Os) (started : os.Started) (H : Type) (enc : TypeId × Value → H) :
    ReturnsInHanded {} Try.checked os 7 .any (Rows.fnHeldGroupsOneListGroupsByNodeSpec.pre6 enc Try.prog Try.f7 Rows.fnHeldGroupsOneListGroupsByNodeRow.domain false) (Rows.fnHeldGroupsOneListGroupsByNodeSpec.post enc Try.prog Try.f7 false true false false) := by
  refine returnsInHanded_of_change (C := Try.checked) own started (by kernel_rfl) Try.func7
    (ChangeSpec.witness6 (enc := enc) (C := Try.checked) false ⟨#[], #[.slice none 0 0, .string ⟨#[]⟩, .slice none 0 0, .slice none 0 0, .slice none 0 0], []⟩ 8 (by kernel_rfl) (by kernel_rfl) (by kernel_rfl) (by kernel_rfl)) ?_
  intro W base args ds gs before hval0 hW hcnd _
  have hval : ∀ (j : Nat) t v, Try.f7.params[j]? = some t → args[j]? = some v → Value.okWide Try.prog W .any base t v := hval0
  have hW' := hW
  obtain ⟨p, q, hA0, hV, rfl, hfz, hnd⟩ := hW
  have hA : DataW.TrodAll enc Try.prog W 0 (fun _ => true) true Try.f7.params.toList args.toList ds p := hA0
  rw [Try.params7] at hA hval
  obtain ⟨v0, vs0, d0, ds0, p0, q0, hargs, rfl, rfl, h0, r0⟩ := trodAll_cons hA
  obtain ⟨v1, vs1, d1, ds1, p1, q1, rfl, rfl, rfl, h1, r1⟩ := trodAll_cons r0
  obtain ⟨v2, vs2, d2, ds2, p2, q2, rfl, rfl, rfl, h2, r2⟩ := trodAll_cons r1
  obtain ⟨v3, vs3, d3, ds3, p3, q3, rfl, rfl, rfl, h3, r3⟩ := trodAll_cons r2
  obtain ⟨v4, vs4, d4, ds4, p4, q4, rfl, rfl, rfl, h4, r4⟩ := trodAll_cons r3
  obtain ⟨rfl, rfl, rfl⟩ := trodAll_nil r4
  obtain rfl : args = #[v0, v1, v2, v3, v4] := by cases args; simp_all
  obtain ⟨rfl, rfl⟩ := trodVars_none hV
  obtain ⟨a0, len0, cap0, hv0⟩ := okWide_slice Try.underlying30 (hval 0 30 v0 rfl rfl)
  obtain ⟨a2, len2, cap2, hv2⟩ := okWide_slice Try.underlying31 (hval 2 31 v2 rfl rfl)
  obtain ⟨a3, len3, cap3, hv3⟩ := okWide_slice Try.underlying32 (hval 3 32 v3 rfl rfl)
  obtain ⟨a4, len4, cap4, hv4⟩ := okWide_slice Try.underlying33 (hval 4 33 v4 rfl rfl)
  have k0 := h0
  have k1 := h1
  have k2 := h2
  have k3 := h3
  have k4 := h4
  have lt0 : ∀ x ∈ p0, x.block < W.heap.size := by obtain ⟨m, hm⟩ := k0; exact DataW.trod_lt m _ _ _ hm
  have lt1 : ∀ x ∈ p1, x.block < W.heap.size := by obtain ⟨m, hm⟩ := k1; exact DataW.trod_lt m _ _ _ hm
  have lt2 : ∀ x ∈ p2, x.block < W.heap.size := by obtain ⟨m, hm⟩ := k2; exact DataW.trod_lt m _ _ _ hm
  have lt3 : ∀ x ∈ p3, x.block < W.heap.size := by obtain ⟨m, hm⟩ := k3; exact DataW.trod_lt m _ _ _ hm
  have lt4 : ∀ x ∈ p4, x.block < W.heap.size := by obtain ⟨m, hm⟩ := k4; exact DataW.trod_lt m _ _ _ hm
  obtain ⟨n0, f0⟩ := h0
  obtain ⟨n2, f2⟩ := h2
  obtain ⟨n3, f3⟩ := h3
  obtain ⟨n4, f4⟩ := h4
  obtain ⟨xs, hxs, hfit⟩ := openAss (v := v0) (by rw [hv0] at f0 ⊢; exact f0)
  obtain ⟨ids, hids, _, hsz⟩ := openStrs (v := v2) (by rw [hv2] at f2 ⊢; exact f2)
  obtain ⟨nodes, hnod, _⟩ := openInts (v := v3) (by rw [hv3] at f3 ⊢; exact f3)
  obtain ⟨given, hgiv, _⟩ := openBools (v := v4) (by rw [hv4] at f4 ⊢; exact f4)
  obtain ⟨res, hv1, _, _, hrs⟩ := open_string Try.underlying9 (hval 1 9 v1 rfl rfl) k1
  subst hv1
  clear hA0 hval0
  refine (walk W v0 v2 v3 v4 res xs ids nodes given hxs hfit hids hsz hrs hnod hgiv).mono fun e W' ⟨he, bel⟩ => ?_
  subst he
  exact ⟨_, rfl, _, _, _, [], _, [], hW', trodAll_mk1 (shut_bool Try.underlying4 _), (trodAll_cons_mk (Below.trod laidOut (by kernel_rfl) (of_decide_eq_true (by kernel_rfl)) k0 bel lt0) (trodAll_cons_mk (Below.trod laidOut (by kernel_rfl) (of_decide_eq_true (by kernel_rfl)) k1 bel lt1) (trodAll_cons_mk (Below.trod laidOut (by kernel_rfl) (of_decide_eq_true (by kernel_rfl)) k2 bel lt2) (trodAll_cons_mk (Below.trod laidOut (by kernel_rfl) (of_decide_eq_true (by kernel_rfl)) k3 bel lt3) (trodAll_cons_mk (Below.trod laidOut (by kernel_rfl) (of_decide_eq_true (by kernel_rfl)) k4 bel lt4) trodAll_mk0))))), rfl, bel.frame _, fun h => by cases h⟩

theorem over : Rows.fnHeldGroupsOneListGroupsByNodeRow.holds Try.pinned (OpenSpec.ofChange Rows.fnHeldGroupsOneListGroupsByNodeSpec) :=
  OpenClaim.holds_of_wide 7 Try.f7 rfl rfl rfl rfl rfl rfl rfl ⟨rfl, rfl, rfl, rfl, rfl⟩ rfl rfl rfl rfl rfl (by kernel_rfl) Try.func7 (by kernel_rfl)
    (of_decide_eq_true (by kernel_rfl)) (by unfold Func.isWrapper; first | (rw [if_pos (by decide +kernel)]; kernel_rfl) | (rw [if_neg (by decide +kernel)]; exact ⟨rfl, rfl⟩))
    (fun os started H enc _ => lifted os started H enc)

/-- THE STATEMENT -/
theorem proved : Rows.FnHeldGroupsOneListGroupsByNodeSaid := over
#print axioms proved
end Go.Proofs.Qxb6609296a.fnHeldGroupsOneListGroupsByNode

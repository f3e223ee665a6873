import Derived.Test.Qxb6609296aTopo
namespace Go.Proofs.Qxb6609296a
open Go.RowKit

/-- The topology that a device list bears: none, or one in blocks of Q. -/
def Topo (Q : Nat → Prop) (w : World) (tp : Value) (n v : Nat) (vals : Nat → Int) (of : Nat → Nat) : Prop :=
  (tp = .pointer none ∧ v = 0 ∧ ∀ j, j < n → of j = 0) ∨
  ∃ P VB SB FB cV, tp = .pointer (some ⟨P, 0, none⟩) ∧ TopAt w P VB SB FB n v cV vals of ∧ Q P ∧ Q VB ∧ Q SB ∧ Q FB
theorem Topo.kq {Q : Nat → Prop} {w w' : World} {tp : Value} {n v : Nat} {vals : Nat → Int} {of : Nat → Nat} (h : Topo Q w tp n v vals of) (k : Kq Q w w') : Topo Q w' tp n v vals of := by
  rcases h with h | ⟨P, VB, SB, FB, cV, e, h, hP, hV, hS, hF⟩
  · exact .inl h
  · exact .inr ⟨P, VB, SB, FB, cV, e, h.kq k hP hV hS hF, hP, hV, hS, hF⟩
theorem Topo.ofv {Q : Nat → Prop} {w : World} {tp : Value} {n v : Nat} {vals : Nat → Int} {of : Nat → Nat} (h : Topo Q w tp n v vals of) : ∀ j, j < n → of j ≤ v := by
  rcases h with ⟨_, rfl, h⟩ | ⟨P, VB, SB, FB, cV, e, h, _⟩
  · intro j hj; rw [h j hj]; exact Nat.le_refl _
  · exact h.ofv

theorem topAt' (Q : Nat → Prop) (tp : Value) (n v : Nat) (vals : Nat → Int) (of : Nat → Nat) (j : Nat) (w : World) (h : Topo Q w tp n v vals of) (hj : j < n) : Calls Try.prog 36 #[tp, .int .i64 j] w fun e w' => e = .returned (.int .u32 (of j)) ∧ w' = w := by
  rcases h with ⟨rfl, _, h⟩ | ⟨P, VB, SB, FB, cV, rfl, h, _⟩
  · rw [h j hj]; exact topAt_nil j w
  · exact topAt_any P VB SB FB n v cV vals of j w h hj
theorem topSet' (Q : Nat → Prop) (tp : Value) (n v : Nat) (vals : Nat → Int) (of : Nat → Nat) (i : Nat) (w : World) (h : Topo Q w tp n v vals of) (hi : i ≤ v) : Calls Try.prog 30 #[tp, .int .u32 i] w fun e w' => ∃ r, e = .returned r ∧ Rd Q w r (numa vals i) ∧ ∃ m, w' = w.drewN m := by
  rcases h with ⟨rfl, hv, _⟩ | ⟨P, VB, SB, FB, cV, rfl, h, _, hV, _⟩
  · refine (topSet_nil i w).mono ?_
    rintro e w' ⟨rfl, rfl⟩
    have : i = 0 := by omega
    subst this
    exact ⟨_, rfl, Rd.nil _ _, 0, rfl⟩
  · refine (topSet_any P VB SB FB n v cV vals of i w h hi).mono ?_
    rintro e w' ⟨r, rfl, hr, hm⟩
    exact ⟨r, rfl, hr.mono (fun k _ hk => by rw [hk]; exact hV), hm⟩

/-- A device list at block L, all of it in blocks of Q. -/
structure DevAt (Q : Nat → Prop) (w : World) (L A EB RB n : Nat) (cat : ByteArray) (E rk : Nat → Nat) (tp : Value) (v : Nat) (vals : Nat → Int) (of : Nat → Nat) : Prop where
  arrp : w.cell? ⟨L, 0, none⟩ = some (.pointer (some ⟨A, 0, none⟩))
  top : w.cell? ⟨L, 1, none⟩ = some tp
  arr : ArrAt w A EB RB n cat E rk
  ranked : Ranked n cat E rk
  topo : Topo Q w tp n v vals of
  qL : Q L
  qA : Q A
  qE : Q EB
  qR : Q RB
theorem DevAt.kq {Q : Nat → Prop} {w w' : World} {L A EB RB n : Nat} {cat : ByteArray} {E rk : Nat → Nat} {tp : Value} {v : Nat} {vals : Nat → Int} {of : Nat → Nat} (h : DevAt Q w L A EB RB n cat E rk tp v vals of) (k : Kq Q w w') : DevAt Q w' L A EB RB n cat E rk tp v vals of :=
  ⟨(k.cell (p := ⟨L, 0, none⟩) h.qL).trans h.arrp, (k.cell (p := ⟨L, 1, none⟩) h.qL).trans h.top, h.arr.kq k h.qA h.qE h.qR, h.ranked, h.topo.kq k, h.qL, h.qA, h.qE, h.qR⟩

set_option maxHeartbeats 1000000 in
theorem setOf_any (Q : Nat → Prop) (L A EB RB n : Nat) (cat : ByteArray) (E rk : Nat → Nat) (tp : Value) (v : Nat) (vals : Nat → Int) (of : Nat → Nat) (k : Nat) (w : World) (h : DevAt Q w L A EB RB n cat E rk tp v vals of) (hk : k < n) :
    Calls Try.prog 27 #[.pointer (some ⟨L, 0, none⟩), .int .i64 k] w fun e w' => e = .returned (.int .u32 (of (rk k))) ∧ ∃ m, w' = w.drewN m := by
  have c0 := h.arrp
  have c1 := h.top
  have c2 := h.arr.ranks
  have c3 := h.arr.rankc k hk
  have hr := h.arr.rkn k hk
  have hns := h.arr.ns
  have HT : Hid (Topo Q w tp n v vals of) := h.topo
  have hk' : (k : Int) < (n : Int) := by omega
  obtain ⟨r, hrr⟩ : ∃ r, r = rk k := ⟨_, rfl⟩
  rw [← hrr] at c3 hr ⊢
  clear h hrr
  go_enter Try.func27, Try.ntmps27
  go_wp2
  go_quiet ((go_at_call 36; refine Calls.quiet_of_same (topAt' Q tp n v vals of r _ ?_ hr); exact HT.out.kq ((Kq.refl _ _).drewN _)))
  go_wp2
  go_ret
  exact ⟨rfl, nq, rfl⟩

/-! ### slices.ContainsFunc(sets, func(i uint32) bool { return i != sets[0] }) -/
theorem cl1 (S T n : Nat) (key : Nat → Nat) (x : Nat) (w : World) (h : Sets S T n key w) (hn : 0 < n) : Calls Try.prog 29 #[.int .u32 x, .pointer (some ⟨S, 0, none⟩)] w fun e w' => e = .returned (.bool ((x : Int) != (key 0 : Int))) ∧ w' = w := by
  have c0 := h.var
  have c1 := h.cell 0 hn
  have hn' : (0 : Int) < (n : Int) := by omega
  clear h
  go_enter Try.func29, Try.ntmps29
  go_wp2
  go_ret
  exact ⟨rfl, rfl⟩

abbrev neV (S : Nat) : Value := .func (.func 29) #[] #[.pointer (some ⟨S, 0, none⟩)]

set_option maxHeartbeats 1000000 in
theorem indexFunc_any (S T n : Nat) (key : Nat → Nat) (w : World) (h : Sets S T n key w) (hn : 0 < n) :
    Calls Try.prog 37 #[.slice (some ⟨T, 0, none⟩) n n, neV S] w fun e w' => w' = w ∧ ((e = .returned (.int .i64 (-1)) ∧ ∀ i, i < n → key i = key 0) ∨ ∃ r : Nat, e = .returned (.int .i64 r) ∧ r < n ∧ key r ≠ key 0) := by
  have hlen := h.len
  have H : Hid (Sets S T n key w) := h
  clear h
  go_enter Try.func37, Try.ntmps37
  go_wp2
  go_loop [8] (fun p => ∃ k : Nat, k ≤ n ∧ p = .int .i64 k ∧ ∀ i, i < k → key i = key 0) (fun p => n - (intOf p).toNat)
  case atStart => exact ⟨0, Nat.zero_le _, rfl, fun i hi => by omega⟩
  case round =>
    obtain ⟨k, hk, rfl, hall⟩ := hrel
    have HA : Hid (∀ i, i < k → key i = key 0) := hall
    clear hall
    by_cases hlt : k < n
    · have hlt' : (k : Int) < (n : Int) := by omega
      have c1 := H.out.cell k hlt
      by_cases he : key k = key 0
      · obtain ⟨x, hx⟩ : ∃ x, x = key k := ⟨_, rfl⟩
        obtain ⟨y, hy⟩ : ∃ y, y = key 0 := ⟨_, rfl⟩
        have hb : ((x : Int) != (y : Int)) = false := by rw [hx, hy, he]; simp
        have hcl := fun w hw => cl1 S T n key x w hw hn
        rw [← hx] at c1
        rw [← hy] at hcl
        rw [hb] at hcl
        have HC := (show Hid _ from hcl)
        have HX : Hid (∀ i, i < k + 1 → key i = key 0) := by
          intro i hi
          by_cases e : i = k
          · rw [e]; exact he
          · exact HA.out i (by omega)
        clear hx hy he hb hcl
        go_wp2_with fail
        refine (HC.out _ H.out).mono ?_
        rintro e w1 ⟨rfl, rfl⟩
        go_wp2_with fail
        go_round
        case rel => exact ⟨k + 1, by omega, by go_num, HX.out⟩
        case measure => simp [intOf]; omega
      · obtain ⟨x, hx⟩ : ∃ x, x = key k := ⟨_, rfl⟩
        obtain ⟨y, hy⟩ : ∃ y, y = key 0 := ⟨_, rfl⟩
        have hb : ((x : Int) != (y : Int)) = true := by rw [hx, hy]; simp; omega
        have hcl := fun w hw => cl1 S T n key x w hw hn
        rw [← hx] at c1
        rw [← hy] at hcl
        rw [hb] at hcl
        have HC := (show Hid _ from hcl)
        have HX : Hid (key k ≠ key 0) := he
        clear hx hy he hb hcl
        go_wp2_with fail
        refine (HC.out _ H.out).mono ?_
        rintro e w1 ⟨rfl, rfl⟩
        go_wp2_with fail
        go_ret
        exact ⟨rfl, .inr ⟨k, rfl, hlt, HX.out⟩⟩
    · obtain rfl : k = n := by omega
      go_wp2_with fail
      go_ret
      exact ⟨rfl, .inl ⟨rfl, HA.out⟩⟩

/-- Not all keys are alike. -/
def Mixed (n : Nat) (key : Nat → Nat) : Prop := ∃ r, r < n ∧ key r ≠ key 0

theorem contains_any (S T n : Nat) (key : Nat → Nat) (w : World) (h : Sets S T n key w) (hn : 0 < n) :
    Calls Try.prog 28 #[.slice (some ⟨T, 0, none⟩) n n, neV S] w fun e w' => w' = w ∧ ((e = .returned (.bool false) ∧ ∀ i, i < n → key i = key 0) ∨ (e = .returned (.bool true) ∧ Mixed n key)) := by
  have hlen := h.len
  have H : Hid (Sets S T n key w) := h
  clear h
  go_enter Try.func28, Try.ntmps28
  go_wp2_with fail
  refine (indexFunc_any S T n key _ H.out hn).mono ?_
  rintro e w1 ⟨hw, he⟩
  subst w1
  rcases he with ⟨rfl, hall⟩ | ⟨r, rfl, hr, hne⟩
  · have HA : Hid (∀ i, i < n → key i = key 0) := hall
    clear hall
    go_wp2_with fail
    go_ret
    exact ⟨rfl, .inl ⟨rfl, HA.out⟩⟩
  · have HA : Hid (Mixed n key) := ⟨r, hr, hne⟩
    clear hne
    go_wp2_with fail
    go_ret
    exact ⟨rfl, .inr ⟨by simp, HA.out⟩⟩
end Go.Proofs.Qxb6609296a

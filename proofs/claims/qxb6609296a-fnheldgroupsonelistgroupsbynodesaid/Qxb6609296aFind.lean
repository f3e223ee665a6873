import Derived.Test.Qxb6609296aArr
namespace Go.Proofs.Qxb6609296a
open Go.RowKit

theorem compareAt_any (A EB RB n : Nat) (cat : ByteArray) (E rk : Nat → Nat) (j : Nat) (id : ByteArray) (c : Int) (w : World) (h : ArrAt w A EB RB n cat E rk) (hj : j < n) (hc : scmp (idAt cat E j) id = c) :
    Calls Try.prog 35 #[.pointer (some ⟨A, 0, none⟩), .int .u32 j, .string id] w fun e w' => e = .returned (.int .i64 c) ∧ ∃ m, w' = w.drewN m := by
  have hns := h.ns
  have H := (show Hid _ from h)
  subst hc
  clear h
  go_enter Try.func35, Try.ntmps35
  go_wp2_with fail
  refine (at_any A EB RB n cat E rk j _ H.out hj).mono ?_
  rintro e w1 ⟨rfl, m1, rfl⟩
  go_wp2_with fail
  refine (stringsCompare_any _ _ _).mono ?_
  rintro e w2 ⟨rfl, rfl⟩
  go_wp2_with fail
  go_ret
  exact ⟨rfl, m1, rfl⟩

/-- The IDs ascend with their ranks. -/
def Ranked (n : Nat) (cat : ByteArray) (E rk : Nat → Nat) : Prop := ∀ i j, i < j → j < n → slt (idAt cat E (rk i)) (idAt cat E (rk j))

abbrev cmpV (A : Nat) : Value := .func (.func 35) #[.pointer (some ⟨A, 0, none⟩)] #[]

set_option maxHeartbeats 1000000 in
theorem search_any (A EB RB n : Nat) (cat : ByteArray) (E rk : Nat → Nat) (id : ByteArray) (w : World) (h : ArrAt w A EB RB n cat E rk) (hr : Ranked n cat E rk) :
    Calls Try.prog 34 #[.slice (some ⟨RB, 0, none⟩) n n, .string id, cmpV A] w fun e w' => ∃ (k : Nat) (b : Bool), e = .returned (.tuple #[.int .i64 k, .bool b]) ∧ (∃ m, w' = w.drewN m) ∧ (b = true → k < n ∧ idAt cat E (rk k) = id) ∧ (b = false → ∀ i, i < n → idAt cat E (rk i) ≠ id) := by
  have hns := h.ns
  have H : Hid (ArrAt w A EB RB n cat E rk) := h
  have HR : Hid (Ranked n cat E rk) := hr
  clear h hr
  go_enter Try.func34, Try.ntmps34
  go_wp2
  go_loopw [9, 10] (fun p q wr => ∃ i j nq : Nat, i ≤ j ∧ j ≤ n ∧ p = .int .i64 i ∧ q = .int .i64 j ∧ wr = w.drewN nq ∧ (∀ t, t < i → slt (idAt cat E (rk t)) id) ∧ (∀ t, j ≤ t → t < n → ¬ slt (idAt cat E (rk t)) id)) (fun p q _ => (intOf q - intOf p).toNat)
  case atStart => exact ⟨0, n, 0, Nat.zero_le _, Nat.le_refl _, rfl, rfl, rfl, fun t h1 => by omega, fun t h1 h2 => by omega⟩
  case round =>
    obtain ⟨i, j, nq, h1, h2, rfl, rfl, hwr, hlo, hhi⟩ := hrel
    have HW : Hid (wr = w.drewN nq) := hwr
    have HA : Hid (ArrAt wr A EB RB n cat E rk) := by rw [hwr]; exact H.out.drewN nq
    have HS : Hid ((∀ t, t < i → slt (idAt cat E (rk t)) id) ∧ (∀ t, j ≤ t → t < n → ¬ slt (idAt cat E (rk t)) id)) := ⟨hlo, hhi⟩
    clear hwr
    by_cases hlt : i < j
    · have hlt' : (i : Int) < (j : Int) := by omega
      obtain ⟨g, hg⟩ : ∃ g, g = (i + j) / 2 := ⟨_, rfl⟩
      have hg1 : ((i : Int) + (j : Int)) / 2 = (g : Int) := by omega
      have hg2 : i ≤ g ∧ g < j := by omega
      have cg := HA.out.rankc g (by omega)
      have hrk := HA.out.rkn g (by omega)
      obtain ⟨r, hr⟩ : ∃ r, r = rk g := ⟨_, rfl⟩
      rw [← hr] at cg hrk
      have l1 : (g : Int) < (n : Int) := by omega
      obtain ⟨c, hc⟩ : ∃ c, scmp (idAt cat E r) id = c := ⟨_, rfl⟩
      have HC : Hid (scmp (idAt cat E r) id = c ∧ r = rk g) := ⟨hc, hr⟩
      by_cases hs : slt (idAt cat E r) id
      · have hcn : c < 0 := by rw [← hc]; exact scmp_neg.2 hs
        have HX : Hid (∀ t, t < g + 1 → slt (idAt cat E (rk t)) id) := by
          intro t ht
          rw [HC.out.2] at hs
          by_cases e : t = g
          · rw [e]; exact hs
          · exact (HR.out t g (by omega) (by omega)).trans hs
        clear hlo hhi hg hc hr hs
        go_wp2_with fail
        refine (compareAt_any A EB RB n cat E rk r id c _ HA.out hrk HC.out.1).mono ?_
        rintro e w1 ⟨rfl, m1, rfl⟩
        go_wp2_with fail
        go_roundw
        case rel => exact ⟨g + 1, j, nq + m1, by omega, h2, by go_num, rfl, by rw [HW.out, World.drewN_drewN], HX.out, HS.out.2⟩
        case measure => simp [intOf]; omega
      · have hcn : 0 ≤ c := by
          rw [← hc]
          exact Int.not_lt.1 (fun hh => hs (scmp_neg.1 hh))
        have HX : Hid (∀ t, g ≤ t → t < n → ¬ slt (idAt cat E (rk t)) id) := by
          intro t ht htn hbad
          apply hs
          rw [HC.out.2]
          by_cases e : t = g
          · rw [← e]; exact hbad
          · exact (HR.out g t (by omega) htn).trans hbad
        clear hlo hhi hg hc hr hs
        go_wp2_with fail
        refine (compareAt_any A EB RB n cat E rk r id c _ HA.out hrk HC.out.1).mono ?_
        rintro e w1 ⟨rfl, m1, rfl⟩
        go_wp2_with fail
        go_roundw
        case rel => exact ⟨i, g, nq + m1, by omega, by omega, rfl, by go_num, by rw [HW.out, World.drewN_drewN], HS.out.1, HX.out⟩
        case measure => simp [intOf]; omega
    · obtain rfl : i = j := by omega
      clear hlo hhi
      by_cases hin : i < n
      · have hin' : (i : Int) < (n : Int) := by omega
        have cg := HA.out.rankc i hin
        have hrk := HA.out.rkn i hin
        obtain ⟨r, hr⟩ : ∃ r, r = rk i := ⟨_, rfl⟩
        rw [← hr] at cg hrk
        obtain ⟨c, hc⟩ : ∃ c, scmp (idAt cat E r) id = c := ⟨_, rfl⟩
        have HC : Hid (scmp (idAt cat E r) id = c ∧ r = rk i) := ⟨hc, hr⟩
        clear hc hr
        go_wp2_with fail
        refine (compareAt_any A EB RB n cat E rk r id c _ HA.out hrk HC.out.1).mono ?_
        rintro e w1 ⟨rfl, m1, rfl⟩
        have HW2 : Hid (wr.drewN m1 = w.drewN (nq + m1)) := by show _ = _; rw [HW.out, World.drewN_drewN]
        go_wp2_with fail
        go_ret2
        refine ⟨i, (c == 0), rfl, ⟨_, HW2.out⟩, fun hb => ⟨hin, ?_⟩, fun hb t ht he => ?_⟩
        · have h0 : c = 0 := by simpa using hb
          rw [← HC.out.2]
          exact scmp_zero.1 (by rw [HC.out.1]; exact h0)
        · have h0 : c ≠ 0 := by simpa using hb
          by_cases e1 : t < i
          · have := HS.out.1 t e1; rw [he] at this; exact slt.irrefl _ this
          · by_cases e2 : t = i
            · apply h0; rw [← HC.out.1, HC.out.2, ← e2, he]; exact scmp_zero.2 rfl
            · have := HR.out i t (by omega) ht
              rw [he] at this
              exact HS.out.2 i (Nat.le_refl _) hin this
      · go_wp2_with fail
        go_ret2
        refine ⟨i, false, rfl, ⟨_, HW.out⟩, (fun hb => by cases hb), fun _ t ht he => ?_⟩
        have := HS.out.1 t (by omega)
        rw [he] at this
        exact slt.irrefl _ this

theorem find_any (A EB RB n : Nat) (cat : ByteArray) (E rk : Nat → Nat) (id : ByteArray) (w : World) (h : ArrAt w A EB RB n cat E rk) (hr : Ranked n cat E rk) :
    Calls Try.prog 26 #[.pointer (some ⟨A, 0, none⟩), .string id] w fun e w' => ∃ (k : Nat) (b : Bool), e = .returned (.tuple #[.int .i64 k, .bool b]) ∧ (∃ m, w' = w.drewN m) ∧ (b = true → k < n ∧ idAt cat E (rk k) = id) ∧ (b = false → ∀ i, i < n → idAt cat E (rk i) ≠ id) := by
  have c1 := h.ranks
  have hmf : ∀ (fn : Fn) (first cap : Array Value) (w : World), (Instr.makeFunc fn first cap).run Try.prog w = .ok (.func fn first cap) w := fun _ _ _ _ => rfl
  have H : Hid (ArrAt w A EB RB n cat E rk) := h
  have HR : Hid (Ranked n cat E rk) := hr
  clear h hr
  go_enter Try.func26, Try.ntmps26
  go_wp2_with fail
  refine (search_any A EB RB n cat E rk id _ H.out HR.out).mono ?_
  rintro e w1 ⟨k, b, rfl, h1, h2, h3⟩
  have HH := (show Hid _ from (⟨h1, h2, h3⟩ : (∃ m, w1 = w.drewN m) ∧ (b = true → k < n ∧ idAt cat E (rk k) = id) ∧ (b = false → ∀ i, i < n → idAt cat E (rk i) ≠ id)))
  clear h1 h2 h3
  go_wp2_with fail
  go_ret2
  exact ⟨k, b, rfl, HH.out⟩
end Go.Proofs.Qxb6609296a

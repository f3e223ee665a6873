import Derived.Test.Qxb6609296aChk
namespace Go.Proofs.Qxb6609296a
open Go.RowKit Srt

theorem prm_inj {a b : Nat} {P : Nat → Nat} (h : Prm a b id P) {i j : Nat} (e : P i = P j) : i = j := by
  obtain ⟨s, t, k1, _, k3, _⟩ := h
  have e1 : s i = s j := by
    have hi := k1 i
    have hj := k1 j
    simp only [id] at hi hj
    rw [← hi, ← hj]; exact e
  have := congrArg t e1
  rwa [k3, k3] at this

/-- From what the law's first half does to what the list is. -/
theorem listIs_of {ids : List ByteArray} {nodes : List Int} {given : List Bool} {D P : Nat → Nat} {l : List Int} {m n : Nat} (hn : n = ids.length) (hm : m = l.length) (hp : Prm 0 n id D) (hs : ∀ a b, a < b → b < n → idLt ids (D a) (D b))
    (hd : Dist nodes given n l) (hP : Prm 0 m id P) (hS : SortedTo (vLt fun t => l.getD t 0) P m) : ListIs ids nodes given D m (fun t => l.getD (P t) 0) := by
  subst hn
  have hlt : ∀ t, t < m → P t < m := by
    intro t ht
    obtain ⟨j, _, h2, e⟩ := hP.mem (k := t) (Nat.zero_le _) ht
    rw [e]; exact h2
  refine ⟨hp, hs, fun a b hab hb => ?_, fun j hj hg => ?_⟩
  · have h1 := hS a b hab hb
    unfold vLt at h1
    simp only at h1
    have hne : l.getD (P a) 0 ≠ l.getD (P b) 0 := by
      intro e
      have ha' := hlt a (by omega)
      have hb' := hlt b hb
      have ha2 : P a < l.length := by omega
      have hb2 : P b < l.length := by omega
      rw [List.getD_eq_getElem?_getD, List.getD_eq_getElem?_getD, List.getElem?_eq_getElem ha2, List.getElem?_eq_getElem hb2] at e
      simp only [Option.getD_some] at e
      have := (List.getElem_inj hd.nodup).1 e
      have := prm_inj hP this
      omega
    show l.getD (P a) 0 < l.getD (P b) 0
    omega
  · have hmem := (hd.mem (nodes.getD j 0)).2 ⟨j, hj, hg, rfl⟩
    obtain ⟨t, ht, e⟩ := List.getElem_of_mem hmem
    obtain ⟨i, _, hi, e2⟩ := hP.mem' (k := t) (Nat.zero_le _) (by omega)
    simp only [id] at e2
    refine ⟨i, hi, ?_⟩
    show l.getD (P i) 0 = _
    rw [← e2, List.getD_eq_getElem?_getD, List.getElem?_eq_getElem ht, Option.getD_some, e]

/-- The row of the values, as the sorting takes it. -/
theorem own_row {Q : Nat → Prop} {w : World} {vv : Value} {l : List Int} (h : Own Q 2 w vv (I64 l)) : ∃ (av : Option Addr) (VB cap : Nat) (g : Nat → Value), vv = .slice av l.length cap ∧ l.length ≤ cap ∧ cap ≤ maxLen ∧ (av = none → cap = 0) ∧ (0 < l.length → av = some ⟨VB, 0, none⟩ ∧ ¬ Q VB ∧ Rw w VB 2 cap (vRow (fun t => l.getD t 0) g l.length id) w) := by
  have hlen : (I64 l).length = l.length := by simp [I64]
  rcases h.1.2 with ⟨hv, h0⟩ | ⟨b, cap, cur, hv, _, hb, hl, hm, hs, ht⟩
  · rw [hlen] at h0
    refine ⟨none, 0, 0, fun _ => .bool false, by rw [hv, h0], by omega, Nat.zero_le _, fun _ => rfl, fun hp => by omega⟩
  · rw [hlen] at hl hv ht
    refine ⟨some ⟨b, 0, none⟩, b, cap, fun t => cur.toList.getD t (.bool false), hv, hl, hm, (fun h => by cases h), fun hp => ⟨rfl, h.2 b (by rw [hv]; rfl), ?_, Kq.refl _ _⟩⟩
    rw [hb]
    congr 2
    apply Array.ext'
    apply List.ext_getElem?
    intro i
    have hcs : cur.toList.length = cap := by rw [Array.length_toList, hs, Nat.mul_one]
    show cur.toList[i]? = (rowF cap (vRow (fun t => l.getD t 0) (fun t => cur.toList.getD t (.bool false)) l.length id))[i]?
    by_cases hi : i < cap
    · rw [rowF_get hi]
      unfold vRow
      by_cases hil : i < l.length
      · rw [if_pos hil]
        have ht' : cur.toList.take l.length = I64 l := by simpa using ht
        have : (cur.toList.take l.length)[i]? = (I64 l)[i]? := by rw [ht']
        rw [List.getElem?_take_of_lt hil] at this
        rw [this]
        simp [I64, hil]
      · rw [if_neg hil]
        show cur.toList[i]? = some (cur.toList.getD i (.bool false))
        rw [List.getD_eq_getElem?_getD, List.getElem?_eq_getElem (by omega)]
        rfl
    · rw [List.getElem?_eq_none (by omega), List.getElem?_eq_none (by rw [rowF_len]; omega)]
end Go.Proofs.Qxb6609296a

/- Bits written: the plain law. -/
import Derived.Test.YtdhehnjidakfcaaDoorFields
import Derived.Deep.RegionHeld3
namespace Go.Proofs.YtdhehnjidakfcaaDoor
open Go.RowKit
set_option maxHeartbeats 400000
set_option maxRecDepth 4000
set_option linter.unusedVariables false
set_option linter.unusedSimpArgs false
theorem getD_lt' {l : List Nat} {n : Nat} (hb : ∀ x ∈ l, x < n) {k : Nat} (hk : k < l.length) : l.getD k 0 < n := by
  have : l.getD k 0 = l[k] := by simp [List.getD_eq_getElem?_getD, List.getElem?_eq_getElem hk]
  rw [this]; exact hb _ (List.getElem_mem hk)
theorem bt_test (l : List Nat) (i : Nat) : Fld.bt l i = if (l.getD (i / 8) 0).testBit (7 - i % 8) then 1 else 0 := by
  unfold Fld.bt
  rw [Nat.testBit_eq_decide_div_mod_eq]
  have := Nat.mod_lt (l.getD (i / 8) 0 / 2 ^ (7 - i % 8)) (show 0 < 2 by omega)
  generalize l.getD (i / 8) 0 / 2 ^ (7 - i % 8) % 2 = z at this
  have h2 : z = 0 ∨ z = 1 := by omega
  rcases h2 with rfl | rfl <;> rfl
theorem getD_set (F : List Nat) (j v x : Nat) (hj : j < F.length) : (F.set j v).getD x 0 = if x = j then v else F.getD x 0 := by
  by_cases e : x = j
  · subst e; simp [List.getD_eq_getElem?_getD, hj]
  · rw [if_neg e, List.getD_eq_getElem?_getD, List.getElem?_set_ne (Ne.symm e), ← List.getD_eq_getElem?_getD]
/-- one bit set -/
theorem bt_set (l : List Nat) (p i : Nat) (hp : p / 8 < l.length) : Fld.bt (l.set (p / 8) (l.getD (p / 8) 0 ||| 2 ^ (7 - p % 8))) i = if i = p then 1 else Fld.bt l i := by
  rw [bt_test, bt_test, getD_set _ _ _ _ hp]
  by_cases e : i / 8 = p / 8
  · rw [if_pos e, Nat.testBit_or, Nat.testBit_two_pow, e]
    by_cases e2 : i = p
    · subst e2; simp
    · have h3 : ¬ 7 - p % 8 = 7 - i % 8 := by omega
      simp [e2, h3]
  · rw [if_neg e]
    have e2 : ¬ i = p := fun h => e (by rw [h])
    simp [e2]
theorem bt_push (l : List Nat) (i : Nat) : Fld.bt (l ++ [0]) i = Fld.bt l i := by
  have : (l ++ [0]).getD (i / 8) 0 = l.getD (i / 8) 0 := by
    rcases Nat.lt_trichotomy (i / 8) l.length with h | h | h
    · simp [List.getD_eq_getElem?_getD, List.getElem?_append_left h]
    · simp [List.getD_eq_getElem?_getD, h]
    · simp [List.getD_eq_getElem?_getD, List.getElem?_append_right (Nat.le_of_lt h), List.getElem?_eq_none (Nat.le_of_lt h)]
      rw [List.getElem?_eq_none (by simp; omega)]; rfl
  unfold Fld.bt
  rw [this]
theorem bt_out (l : List Nat) (i : Nat) (h : 8 * l.length ≤ i) : Fld.bt l i = 0 := by
  unfold Fld.bt
  rw [List.getD_eq_getElem?_getD, List.getElem?_eq_none (by omega)]
  simp
theorem fld_congr (l l2 : List Nat) (s w : Nat) (h : ∀ i, s ≤ i → i < s + w → Fld.bt l i = Fld.bt l2 i) : Fld.fld l s w = Fld.fld l2 s w := by
  induction w with
  | zero => rfl
  | succ w ih =>
    rw [Fld.fld, Fld.fld, ih (fun i h1 h2 => h i h1 (by omega)), h (s + w) (by omega) (by omega)]
/-- what is written: so many bits, noughts behind them -/
structure Wr (l : List Nat) (m : Nat) : Prop where
  len : l.length = (m + 7) / 8
  lt : ∀ x ∈ l, x < 256
  rest : ∀ i, m ≤ i → Fld.bt l i = 0
theorem Wr.nil : Wr [] 0 := ⟨rfl, by simp, fun i _ => by simp [Fld.bt]⟩
/-- with room for one bit more -/
structure Wr' (l : List Nat) (m : Nat) : Prop where
  len : l.length = m / 8 + 1
  lt : ∀ x ∈ l, x < 256
  rest : ∀ i, m ≤ i → Fld.bt l i = 0
theorem Wr.grow {l : List Nat} {m : Nat} (h : Wr l m) (h8 : m % 8 = 0) : Wr' (l ++ [0]) m :=
  ⟨by rw [List.length_append, h.len]; simp; omega, fun x hx => by
    rcases List.mem_append.1 hx with h1 | h1
    · exact h.lt x h1
    · obtain rfl := List.mem_singleton.1 h1; omega, fun i hi => by rw [bt_push]; exact h.rest i hi⟩
theorem Wr.same {l : List Nat} {m : Nat} (h : Wr l m) (h8 : ¬ m % 8 = 0) : Wr' l m := ⟨by rw [h.len]; omega, h.lt, h.rest⟩
theorem Wr'.nought {l : List Nat} {m : Nat} (h : Wr' l m) : Wr l (m + 1) ∧ Fld.bt l m = 0 := ⟨⟨by rw [h.len]; omega, h.lt, fun i hi => h.rest i (by omega)⟩, h.rest m (Nat.le_refl _)⟩
theorem Wr'.one {l : List Nat} {m : Nat} (h : Wr' l m) : Wr (l.set (m / 8) (l.getD (m / 8) 0 ||| 2 ^ (7 - m % 8))) (m + 1) ∧ Fld.bt (l.set (m / 8) (l.getD (m / 8) 0 ||| 2 ^ (7 - m % 8))) m = 1 ∧
    ∀ i, i < m → Fld.bt (l.set (m / 8) (l.getD (m / 8) 0 ||| 2 ^ (7 - m % 8))) i = Fld.bt l i := by
  have hp : m / 8 < l.length := by rw [h.len]; omega
  refine ⟨⟨by rw [List.length_set, h.len]; omega, fun x hx => ?_, fun i hi => by rw [bt_set l m i hp, if_neg (by omega)]; exact h.rest i (by omega)⟩, by rw [bt_set l m m hp, if_pos rfl], fun i hi => by rw [bt_set l m i hp, if_neg (by omega)]⟩
  rcases List.mem_or_eq_of_mem_set hx with h1 | h1
  · exact h.lt x h1
  · subst h1
    have h2 : l.getD (m / 8) 0 < 256 := getD_lt' h.lt hp
    have h3 : 2 ^ (7 - m % 8) < 2 ^ 8 := Nat.pow_lt_pow_right (by omega) (by omega)
    exact Nat.or_lt_two_pow (n := 8) h2 h3
end Go.Proofs.YtdhehnjidakfcaaDoor

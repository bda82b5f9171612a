/- Two numbers are the parts of one: the law's walk. -/
import Derived.Test.YtdhehnjidakfcaaDoorBitsLaw
namespace Go.Proofs.YtdhehnjidakfcaaDoor
open Go.RowKit
set_option maxHeartbeats 400000
set_option maxRecDepth 4000
set_option linter.unusedVariables false
set_option linter.unusedSimpArgs false
theorem place_nat (y : Int) (n : Nat) (h0 : 0 < n) : ∃ j : Nat, y % (n : Int) = j ∧ j < n := by
  have e1 := Int.emod_nonneg y (show (n : Int) ≠ 0 by omega)
  have e2 := Int.emod_lt_of_pos y (show (0 : Int) < (n : Int) by omega)
  exact ⟨(y % (n : Int)).toNat, by omega, by omega⟩
theorem run_two (l : List Nat) (n a b : Nat) : run l n 0 [a, b] = if a + b ≤ 8 * n then ([Fld.fld l 0 a, Fld.fld l a b], false) else (if a ≤ 8 * n then ([Fld.fld l 0 a], true) else ([], true)) := by
  simp only [run, Nat.zero_add]
  by_cases h1 : a ≤ 8 * n
  · by_cases h2 : a + b ≤ 8 * n
    · simp [h1, h2]
    · simp [h1, h2]
  · have h2 : ¬ a + b ≤ 8 * n := by omega
    simp [h1, h2]
theorem run_sum (l : List Nat) (n c : Nat) : run l n 0 [c] = if c ≤ 8 * n then ([Fld.fld l 0 c], false) else ([], true) := by
  simp only [run, Nat.zero_add]
theorem shl_or (f g b : Nat) (hf : f < 2 ^ 24) (hb : b ≤ 24) (hg : g < 2 ^ b) : bits .or .u64 (IntKind.u64.wrap ((f : Int) * 2 ^ b)) (g : Int) = ((f * 2 ^ b + g : Nat) : Int) := by
  have h1 : 2 ^ b ≤ 2 ^ 24 := Nat.pow_le_pow_right (by omega) hb
  have h2 : f * 2 ^ b < 2 ^ 24 * 2 ^ 24 := Nat.mul_lt_mul_of_lt_of_le hf h1 (by omega)
  have e : (f : Int) * 2 ^ b = ((f * 2 ^ b : Nat) : Int) := by simp
  rw [e]
  have e2 : f * 2 ^ b = f <<< b := by rw [Nat.shiftLeft_eq]
  generalize hz : f * 2 ^ b = z at h2 e2
  have e3 : IntKind.u64.wrap (z : Int) = (z : Int) := by rw [IntKind.wrap_u64]; omega
  rw [e3, u64_or_nat _ _ (by omega) (by omega), e2, ← Nat.shiftLeft_add_eq_or_of_lt hg]
theorem own_two (w : World) (B : Nat) (k : IntKind) (e : TypeId) (y z : Nat) (hB : B ≤ w.heap.size) : Own (w.alloc (.cells #[.int k (y : Int), .int k (z : Int)] e)) B e 1 (some ⟨w.heap.size, 0, none⟩) 2 2 (cellsN k [y, z]) :=
  World.ownsRow_lit w #[.int k (y : Int), .int k (z : Int)] 2 hB (by unfold maxLen; omega) rfl
theorem fnBitsTwo_walk (A1 : Option Addr) (c1 : Nat) (z1 : List Int) (x y : Int) (w : World) (hEE : ∃ a0 a1, Errs w a0 a1)
    (h1 : Arg .u8 w A1 z1 c1) (m1 : z1.length * 1 ≤ 140737488351232) (hx : (Lit.int .i64 x).wf = true) (hy : (Lit.int .i64 y).wf = true) :
    Calls Tryd.prog 5 #[.slice A1 z1.length c1, .int .i64 x, .int .i64 y] w fun e w' => e = .returned (.bool true) ∧ Below w.heap.size w w' := by
  obtain ⟨a0, a1, hE⟩ := hEE
  obtain ⟨l, hl, hA, hb, hm⟩ := bytes_of h1
  have HE := Lib.hid hE
  have hs1 : 1 < w.heap.size := lt_of_cell hE.2
  have hdom : Hid (0 < z1.length → ∀ g, blockOf A1 = some g → g < w.heap.size) := fun h0 => ints_dom hA (by omega)
  have HL := Lib.hid hl; have HB := Lib.hid hb; have HA := Lib.hid hA
  have n1 : z1.length ≤ 140737488351232 := by omega
  clear hE hl hb hm h1 hA m1
  obtain ⟨a, ha, ha25⟩ := place_nat x 25 (by omega)
  obtain ⟨b, hb, hb25⟩ := place_nat y 25 (by omega)
  have HPA := Lib.hid ha; have HPB := Lib.hid hb
  clear ha hb
  generalize z1.length = n at n1 HL hdom ⊢
  go_enter Tryd.func5, Tryd.ntmps5
  go_wp2_with fail
  refine (place_any x (25 : Nat) w hx (by omega) (by omega)).mono ?_
  rintro e w' ⟨rfl, rfl⟩
  rw [HPA.out]
  go_wp2_with fail
  refine (place_any y (25 : Nat) w hy (by omega) (by omega)).mono ?_
  rintro e w' ⟨rfl, rfl⟩
  rw [HPB.out]
  go_wp2_with fail
  have b1 : Below w.heap.size w (w.alloc (.cells #[.int .i64 (a : Int), .int .i64 (b : Int)] 3)) := (Below.refl _ _).alloc (Nat.le_refl _) _
  have o1 := own_two w w.heap.size .i64 3 a b (Nat.le_refl _)
  have hs2 := b1.size
  refine (implBits_any A1 (some ⟨w.heap.size, 0, none⟩) c1 2 n 2 l [a, b] a0 a1 _ (HA.out.below b1) o1.ints HL.out rfl n1 (by omega) HB.out (by simp; omega) (HE.out.below b1) (by omega) (fun h g hg => Nat.lt_of_lt_of_le (hdom.out h g hg) hs2)).mono ?_
  rintro e w2 ⟨A4, c4, o, en, rfl, hr, hol, own2, b2⟩
  have b12 := b1.trans (b2.mono hs2)
  have hs3 := b12.size
  have HR := Lib.hid (hr.symm.trans (run_two l n a b))
  clear hr
  go_wp2_with fail
  have b3 := b12.alloc hs3 (.cells #[.int .i64 ((a : Int) + (b : Int))] 3)
  have o3 : Own (w2.alloc (.cells #[.int .i64 ((a : Int) + (b : Int))] 3)) w2.heap.size 3 1 (some ⟨w2.heap.size, 0, none⟩) 1 1 (cellsN .i64 [a + b]) := by
    have := own_one w2 w2.heap.size .i64 3 (a + b) (Nat.le_refl _)
    rw [Int.natCast_add] at this
    exact this
  have hs4 := b3.size
  refine (implBits_any A1 (some ⟨w2.heap.size, 0, none⟩) c1 1 n 1 l [a + b] a0 a1 _ (HA.out.below b3) o3.ints HL.out rfl n1 (by omega) HB.out (by simp; omega) (HE.out.below b3) (by omega) (fun h g hg => Nat.lt_of_lt_of_le (hdom.out h g hg) hs4)).mono ?_
  rintro e w4 ⟨A5, c5, o', en', rfl, hr2, hol2, own4, b4⟩
  have HR2 := Lib.hid (hr2.symm.trans (run_sum l n (a + b)))
  clear hr2
  have b14 := b3.trans (b4.mono hs4)
  have hs5 := b14.size
  have own2' := (own2.alloc (.cells #[.int .i64 ((a : Int) + (b : Int))] 3)).below b4
  go_wp2_with fail
  refine (one_any a0 a1 w4 (HE.out.below b14) (by omega) rfl rfl).mono ?_
  rintro e w5 ⟨A6, c6, rfl, own5, b5⟩
  have b15 := b14.trans (b5.mono hs5)
  have hs6 := b15.size
  have ownA := own2'.below b5
  have ownB := own4.below b5
  by_cases hfit : a + b ≤ 8 * n
  · have hr1 := HR.out
    have hr2 := HR2.out
    rw [if_pos hfit] at hr1 hr2
    injection hr1 with e1 e2
    injection hr2 with e3 e4
    subst e1; subst e2; subst e3; subst e4
    clear HR HR2 hol hol2
    have hfa := Fld.fld_lt l 0 a
    have hfb := Fld.fld_lt l a b
    have hadd := Fld.fld_add l 0 a b
    rw [Nat.zero_add] at hadd
    generalize Fld.fld l 0 a = f at hfa hadd ownA
    generalize Fld.fld l a b = g at hfb hadd ownA
    rw [hadd] at ownB
    have HV := Lib.hid (shl_or f g b (Nat.lt_of_lt_of_le hfa (Nat.pow_le_pow_right (by omega) (by omega))) (by omega) hfb)
    have hv := HV.out
    generalize hvv : f * 2 ^ b + g = v at ownB hv
    obtain ⟨gA, rfl, _, _, hA0, _⟩ := ownA.cell 0 (by simp)
    obtain ⟨gA', eA, _, _, hA1, _⟩ := ownA.cell 1 (by simp)
    obtain rfl : gA = gA' := by simpa using eA
    obtain ⟨gB, rfl, _, _, hB0, _⟩ := ownB.cell 0 (by simp)
    have kA0 : w5.cell? ⟨gA, 0, none⟩ = some (.int .u64 (f : Int)) := hA0
    have kA1 : w5.cell? ⟨gA, 1, none⟩ = some (.int .u64 (g : Int)) := hA1
    have kB0 : w5.cell? ⟨gB, 0, none⟩ = some (.int .u64 (v : Int)) := hB0
    clear hA0 hA1 hB0 eA hvv hfa hfb hadd HV
    have p1 : (0 : Int) ≤ (b : Int) := by omega
    go_wp2_with fail
    go_quiet (fail)
    go_wp2_with fail
    go_ret
    exact ⟨rfl, ⟨b15.os, b15.tape, b15.output, b15.size, b15.block⟩⟩
  · have hr1 := HR.out
    have hr2 := HR2.out
    rw [if_neg hfit] at hr1 hr2
    have e1 : en = true := by
      by_cases h3 : a ≤ 8 * n
      · rw [if_pos h3] at hr1; injection hr1
      · rw [if_neg h3] at hr1; injection hr1
    injection hr2 with e3 e4
    subst e1; subst e3; subst e4
    clear HR HR2 hr1
    go_wp2_with fail
    refine (same_self A6 (some ⟨w5.heap.size, 0, none⟩) c6 1 1 [1] rfl _ (own5.ints.alloc _) (Ints.one w5 .u64 1 29 rfl rfl) (by omega)).mono ?_
    rintro e w' ⟨rfl, rfl⟩
    go_wp2_with fail
    go_ret
    exact ⟨rfl, b15.alloc hs6 _⟩
end Go.Proofs.YtdhehnjidakfcaaDoor

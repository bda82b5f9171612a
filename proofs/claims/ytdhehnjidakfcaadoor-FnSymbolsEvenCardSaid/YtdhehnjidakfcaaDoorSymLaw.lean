/- The first law of symbols: walked. -/
import Derived.Test.YtdhehnjidakfcaaDoorDecoded
import Derived.Test.YtdhehnjidakfcaaDoorBitsLaw
namespace Go.Proofs.YtdhehnjidakfcaaDoor
open Go.RowKit Huff
set_option maxHeartbeats 1000000
set_option maxRecDepth 4000
set_option linter.unusedVariables false
set_option linter.unusedSimpArgs false
theorem samei_any (A1 A2 : Option Addr) (c1 c2 : Nat) (l1 l2 : List Nat) (w : World) (h1 : Ints w .i64 A1 l1) (h2 : Ints w .i64 A2 l2) (hl1 : l1.length ≤ 9223372036854775807) (hl2 : l2.length ≤ 9223372036854775807) :
    Calls Tryd.prog 19 #[.slice A1 l1.length c1, .slice A2 l2.length c2] w fun e w' => e = .returned (.bool (l1 == l2)) ∧ w = w' := by
  by_cases hlen : l1.length = l2.length
  · have HB := Lib.hid hlen
    have hne : ((l1.length : Int) != (l2.length : Int)) = false := by simp [hlen]
    clear hlen
    go_enter Tryd.func19, Tryd.ntmps19
    go_wp2
    go_loop [14] (fun i => ∃ k : Nat, k ≤ l1.length ∧ i = .int .i64 k ∧ Hid (l1.take k = l2.take k)) (fun i => l1.length - (intOf i).toNat)
    case atStart => exact ⟨0, by omega, rfl, rfl⟩
    case round =>
      obtain ⟨k, hk, rfl, heq⟩ := hrel
      by_cases hlt : k < l1.length
      · have hlt2 : k < l2.length := by have := HB.out; omega
        obtain ⟨b1, o1, rfl, _, hc1⟩ := h1 k hlt
        obtain ⟨b2, o2, rfl, _, hc2⟩ := h2 k hlt2
        by_cases hx : l1[k] = l2[k]
        · have hneq : ((l1[k] : Int) != (l2[k] : Int)) = false := by simp [hx]
          have HX := Lib.hid hx
          clear hx
          go_wp2
          go_round
          case rel => exact ⟨k + 1, by omega, by go_num, take_eq_succ _ _ k hlt hlt2 heq HX⟩
          case measure => simp [intOf]; omega
        · have hneq : ((l1[k] : Int) != (l2[k] : Int)) = true := by simp; omega
          have HX : Hid (l1 ≠ l2) := by
            intro e
            subst e
            exact hx rfl
          clear hx
          go_wp2
          go_ret
          exact ⟨ret_bool (by have := HX.out; simp [this]), rfl⟩
      · have HE : Hid (l1 = l2) := by
          have e1 : l1.take k = l1 := List.take_of_length_le (by omega)
          have e2 : l2.take k = l2 := List.take_of_length_le (by have := HB.out; omega)
          have := heq.out
          rw [e1, e2] at this
          exact this
        go_wp2
        go_ret
        exact ⟨ret_bool (by have := HE.out; simp [this]), rfl⟩
  · have hne : ((l1.length : Int) != (l2.length : Int)) = true := by simp; omega
    have HB := Lib.hid hlen
    clear hlen
    go_enter Tryd.func19, Tryd.ntmps19
    go_wp2
    go_ret
    exact ⟨ret_bool (by
      have : l1 ≠ l2 := fun e => HB.out (by rw [e])
      simp [this]), rfl⟩
theorem samei_self (A1 A2 : Option Addr) (c1 c2 n : Nat) (l : List Nat) (hn : l.length = n) (w : World) (h1 : Ints w .i64 A1 l) (h2 : Ints w .i64 A2 l) (hl : n ≤ 9223372036854775807) :
    Calls Tryd.prog 19 #[.slice A1 n c1, .slice A2 n c2] w fun e w' => e = .returned (.bool true) ∧ w = w' := by
  subst hn
  refine (samei_any A1 A2 c1 c2 l l w h1 h2 hl hl).mono ?_
  rintro e w' ⟨rfl, rfl⟩
  exact ⟨by simp, rfl⟩
theorem one_full : Full [1, 1] := ⟨by decide, by decide, by rw [sums_range]; decide⟩
theorem one_decs : decs (tree [1, 1]) 1 (bl [128] 1 0) = ([1], false) := by
  have h := decs_words [1, 1] one_full [1] (List.replicate 7 false) (by simp)
  have e : ([1].flatMap fun v => bitsOf (code [1, 1] v) ([1, 1].getD v 0)) ++ List.replicate 7 false = bl [128] 1 0 := by decide
  rw [e] at h
  exact h
/-- 'one, _, _ := impl.Symbols([]int{1, 1}, []byte{1 << 7}, 1)' -/
theorem sone_any (a0 a1 : Addr) (w : World) (hE : Errs w a0 a1) (hs : 1 < w.heap.size) {B1 B2 : Nat} (h1 : B1 = w.heap.size) (h2 : B2 = w.heap.size + 1) :
    Calls Tryd.prog 17 #[.slice (some ⟨B1, 0, none⟩) 2 2, .slice (some ⟨B2, 0, none⟩) 1 1, .int .i64 1] ((w.alloc (.cells #[.int .i64 1, .int .i64 1] 3)).alloc (.cells #[.int .u8 128] 5)) fun e w' => ∃ A1 c1, e = .returned (.tuple #[.slice A1 1 c1, .bool false, .bool false]) ∧ Own w' w.heap.size 3 1 A1 1 c1 (cellsN .i64 [1]) ∧ Below w.heap.size w w' := by
  subst h1; subst h2
  have o1 : Own ((w.alloc (.cells #[.int .i64 1, .int .i64 1] 3)).alloc (.cells #[.int .u8 128] 5)) w.heap.size 3 1 (some ⟨w.heap.size, 0, none⟩) 2 2 (cellsN .i64 [1, 1]) := Own.alloc (own_box w w.heap.size 3 2 #[.int .i64 1, .int .i64 1] rfl (Nat.le_refl _) (by omega)) _
  have b1 : Below w.heap.size w (w.alloc (.cells #[.int .i64 1, .int .i64 1] 3)) := (Below.refl _ _).alloc (Nat.le_refl _) _
  have z1 : (w.alloc (.cells #[.int .i64 1, .int .i64 1] 3)).heap.size = w.heap.size + 1 := by simp
  have o2 : Own ((w.alloc (.cells #[.int .i64 1, .int .i64 1] 3)).alloc (.cells #[.int .u8 128] 5)) w.heap.size 5 1 (some ⟨(w.alloc (.cells #[.int .i64 1, .int .i64 1] 3)).heap.size, 0, none⟩) 1 1 (cellsN .u8 [128]) := own_one (w.alloc (.cells #[.int .i64 1, .int .i64 1] 3)) w.heap.size .u8 5 128 (by omega)
  have b2 := b1.alloc b1.size (.cells #[.int .u8 128] 5)
  rw [z1] at o2
  have z2 : ((w.alloc (.cells #[.int .i64 1, .int .i64 1] 3)).alloc (.cells #[.int .u8 128] 5)).heap.size = w.heap.size + 2 := by simp
  refine (implSymbols_any _ _ 2 1 2 1 1 [1, 1] [128] a0 a1 _ o1.ints rfl one_full (by omega) o2.ints rfl (by omega) (by simp) (by omega) (hE.below b2) (by omega) (fun _ g hg => ?_)).mono ?_
  · have : w.heap.size + 1 = g := by simpa [blockOf] using hg
    omega
  · rintro e w' ⟨A1, c1, o, en, rfl, hr, _, own, bel⟩
    rw [one_decs] at hr
    injection hr with h1 h2
    subst h1; subst h2
    exact ⟨A1, c1, rfl, own.mono (by omega), b2.trans (bel.mono (by omega))⟩
theorem ints2 (w : World) (B : Nat) (hB : B = w.heap.size) : Ints (w.alloc (.cells #[.int .i64 1] 3)) .i64 (some ⟨B, 0, none⟩) [1] := Ints.one w .i64 1 3 rfl hB
theorem rest_nat (a : Int) (k : Nat) (hk : 0 < k) : ∃ m : Nat, a % (k : Int) = (m : Int) ∧ m < k := by
  have h1 := Int.emod_nonneg a (show (k : Int) ≠ 0 by omega)
  have h2 := Int.emod_lt_of_pos a (show (0 : Int) < (k : Int) by omega)
  exact ⟨(a % (k : Int)).toNat, by omega, by omega⟩
set_option maxHeartbeats 4000000 in
theorem fnSymbols_walk (A0 : Option Addr) (c0 : Nat) (z0 : List Int) (n1 : Int) (A2 : Option Addr) (c2 : Nat) (z2 : List Int) (n3 : Int) (w : World) (hEE : ∃ a0 a1, Errs w a0 a1)
    (h0 : Arg .i64 w A0 z0 c0) (m0 : z0.length * 8 ≤ 140737488351232) (hn1 : (Lit.int .i64 n1).wf = true) (h2 : Arg .u8 w A2 z2 c2) (m2 : z2.length * 1 ≤ 140737488351232) (hn3 : (Lit.int .i64 n3).wf = true) :
    Calls Tryd.prog 6 #[.slice A0 z0.length c0, .int .i64 n1, .slice A2 z2.length c2, .int .i64 n3] w fun e w' => e = .returned (.bool true) ∧ Below w.heap.size w w' := by
  obtain ⟨a0, a1, hE⟩ := hEE
  obtain ⟨l, hl, hA, hb, hm⟩ := bytes_of h2
  have HE := Lib.hid hE
  have hs1 : 1 < w.heap.size := lt_of_cell hE.2
  have hdom : Hid (0 < z2.length → ∀ g, blockOf A2 = some g → g < w.heap.size) := fun h0 => ints_dom hA (by omega)
  have HL := Lib.hid hl; have HB := Lib.hid hb; have HA := Lib.hid hA
  have k2 : z2.length ≤ 140737488351232 := by omega
  obtain ⟨M, hM, hM2⟩ := rest_nat n1 257 (by omega)
  obtain ⟨N, hN, hN2⟩ := rest_nat n3 1000 (by omega)
  have HM := Lib.hid hM; have HN := Lib.hid hN
  clear hE hl hb hm h2 hA m2 hM hN
  go_enter Tryd.func6, Tryd.ntmps6
  go_wp2_with fail
  refine (place_any n1 257 w hn1 (by omega) (by omega)).mono ?_
  rintro e w' ⟨rfl, rfl⟩
  rw [show n1 % 257 = (M : Int) from HM.out]
  obtain ⟨K, hK⟩ : ∃ K, 2 + M = K := ⟨_, rfl⟩
  have i1 : (2 : Int) + (M : Int) = (K : Int) := by omega
  go_wp2_with fail
  refine (Lengths_any A0 z0.length c0 K z0 w h0.cells rfl h0.wf (by omega) (by omega) (by omega)).mono ?_
  rintro e w1 ⟨A3, c3, L, rfl, own3, hG, hL, b1⟩
  have HG := Lib.hid hG
  have HLL := Lib.hid hL
  have HF := Lib.hid (hG.isFull (by omega))
  have hs2 := b1.size
  clear hG hL
  go_wp2_with fail
  refine (place_any n3 1000 w1 hn3 (by omega) (by omega)).mono ?_
  rintro e w' ⟨rfl, rfl⟩
  rw [show n3 % 1000 = (N : Int) from HN.out]
  go_wp2_with fail
  refine (implSymbols_any A3 A2 c3 c2 K z2.length N L l a0 a1 w1 own3.ints HLL.out HF.out (by omega) (HA.out.below b1) HL.out k2 HB.out (by omega) (HE.out.below b1) (by omega) (fun h g hg => Nat.lt_of_lt_of_le (hdom.out h g hg) hs2)).mono ?_
  rintro e w2 ⟨A4, c4, o, en, rfl, hr, hol, o1, b2⟩
  have b12 := b1.trans (b2.mono hs2)
  have hs3 := b12.size
  have HR := Lib.hid hr
  clear hr
  go_wp2_with fail
  refine (decoded_any A3 A2 c3 c2 K z2.length N L l w2 (own3.ints.below b2) HLL.out HF.out (by omega) HG.out.le (HA.out.below b12) HL.out k2 HB.out (by omega)).mono ?_
  rintro e w3 ⟨A5, c5, o', en', rfl, hr2, _, o2, b3⟩
  rw [HR.out] at hr2
  injection hr2 with h1 h2
  subst h1; subst h2
  have b13 := b12.trans (b3.mono hs3)
  have hs4 := b13.size
  have ho1 := o1.below b3
  go_wp2_with fail
  refine (sone_any a0 a1 w3 (HE.out.below b13) (by omega) rfl rfl).mono ?_
  rintro e w4 ⟨A6, c6, rfl, o3, b4⟩
  have b14 := b13.trans (b4.mono hs4)
  have ho1' := ho1.below b4
  have ho2 := o2.below b4
  go_wp2_with fail
  refine (samei_self A4 A5 c4 c5 _ o rfl _ ho1'.ints ho2.ints (by omega)).mono ?_
  rintro e w' ⟨rfl, rfl⟩
  have hs5 := b14.size
  go_wp2_with fail
  refine (samei_self A6 (some ⟨w4.heap.size, 0, none⟩) c6 1 1 [1] rfl _ (o3.ints.alloc _) (ints2 w4 _ rfl) (by omega)).mono ?_
  rintro e w' ⟨rfl, rfl⟩
  go_wp2_with fail
  go_ret
  exact ⟨rfl, b14.alloc hs5 _⟩
end Go.Proofs.YtdhehnjidakfcaaDoor

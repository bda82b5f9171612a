/- The transform of whatever bytes undone: the law's walk. -/
import Derived.Test.YtdhehnjidakfcaaTurnedWalk
import Derived.Lib.SmallJoins
namespace Go.Proofs.Ytdhehnjidakfcaa
open Go.RowKit
set_option maxHeartbeats 400000
set_option linter.unusedVariables false
set_option linter.unusedSimpArgs false
theorem ints_ba (w : World) : Ints (w.alloc (.cells #[.int .u8 98, .int .u8 97] 5 (2, 3))) .u8 (some ⟨w.heap.size, 0, none⟩) [98, 97] := fun i hi => by
  refine ⟨_, _, rfl, by rw [World.size_alloc]; omega, ?_⟩
  rw [World.cell?_alloc_mark]
  have : i = 0 ∨ i = 1 := by simp at hi; omega
  rcases this with rfl | rfl <;> rfl
theorem block_any (A : Option Addr) (cap n : Nat) (l : List Nat) (w : World) (hA : Ints w .u8 A l) (hn : l.length = n) (hc : n ≤ cap) (hm : n ≤ 9223372036854775807) (hb : ∀ x ∈ l, x < 256) :
    Calls Try.prog 16 #[.slice A n cap] w fun e w' => ∃ A' n' cap' L, e = .returned (.slice A' n' cap') ∧ L.length = n' ∧ 0 < n' ∧ n' ≤ 900000 ∧ n' ≤ cap' ∧ cap' ≤ max cap 2 ∧ Ints w' .u8 A' L ∧ (∀ x ∈ L, x < 256) ∧ Below w.heap.size w w' := by
  have HB := Lib.hid hb
  have HN := Lib.hid hn
  clear hb hn
  by_cases h0 : n = 0
  · subst h0
    have hmx : 2 ≤ max cap 2 := by omega
    have HMX := Lib.hid hmx
    clear hmx
    have hcv := Lib.run_convert_bytes_const (P := Try.prog) w 22 5 #[.int .u8 98, .int .u8 97] 2 2 Try.underlying22 Try.underlying5
    go_enter Try.func16, Try.ntmps16
    go_wp2
    go_ret
    exact ⟨_, _, _, [98, 97], rfl, rfl, by omega, by omega, by omega, HMX.out, ints_ba w, by simp, (Below.refl _ _).alloc (Nat.le_refl _) _⟩
  · have HMX : Hid (cap ≤ max cap 2) := Nat.le_max_left _ _
    by_cases h256 : n ≤ 900000
    · go_enter Try.func16, Try.ntmps16
      go_wp2
      go_ret
      exact ⟨_, _, _, l, rfl, HN.out, by omega, by omega, by omega, HMX.out, hA, HB.out, Below.refl _ _⟩
    · go_enter Try.func16, Try.ntmps16
      go_wp2
      go_ret
      exact ⟨_, _, _, rfl, l.take 900000, by rw [List.length_take, HN.out]; omega, by omega, by omega, by omega, HMX.out, hA.take _, fun x hx => HB.out x (List.mem_of_mem_take hx), Below.refl _ _⟩
theorem place_nat (y : Int) (n : Nat) (h0 : 0 < n) : ∃ j : Nat, y % (n : Int) = j ∧ j < n := by
  have e1 := Int.emod_nonneg y (show (n : Int) ≠ 0 by omega)
  have e2 := Int.emod_lt_of_pos y (show (0 : Int) < (n : Int) by omega)
  exact ⟨(y % (n : Int)).toNat, by omega, by omega⟩
theorem fnTurnedAny_walk (A1 : Option Addr) (c1 : Nat) (z1 : List Int) (a : Int) (w : World) {P : Prop} (_ : P)
    (h1 : Arg .u8 w A1 z1 c1) (m1 : z1.length * 1 ≤ 140737488351232) (ha : (Lit.int .i64 a).wf = true) :
    Calls Try.prog 6 #[.slice A1 z1.length c1, .int .i64 a] w fun e w' => e = .returned (.bool true) ∧ Below w.heap.size w w' := by
  obtain ⟨l1, hl1, hA1, hb1, hm1⟩ := bytes_of h1
  have hc := h1.le
  go_enter Try.func6, Try.ntmps6
  go_wp2_with fail
  refine (block_any A1 c1 _ l1 _ hA1 hl1 hc (by omega) hb1).mono ?_
  rintro e w1 ⟨A3, n, c3, L, rfl, hL, h0, hn, hcap, _, hI, hb, b1⟩
  clear hb1 hA1 hl1
  obtain ⟨j, hj, hjn⟩ := place_nat a n h0
  have HJ := Lib.hid hj
  have HL := Lib.hid hL; have HB := Lib.hid hb
  clear hj hL hb
  go_wp2_with fail
  refine (place_any _ _ _ ha (by omega) (by omega)).mono ?_
  rintro e w' ⟨rfl, rfl⟩
  rw [HJ.out]
  go_wp2_with fail
  refine (implTurned_any A3 c3 n j L w1 hI HL.out h0 hn hjn HB.out).mono ?_
  rintro e w2 ⟨A4, c4, rfl, o1, b2⟩
  go_wp2_with fail
  refine (specBack_any A3 c3 n j L w2 (hI.below b2) HL.out h0 hn hjn HB.out).mono ?_
  rintro e w3 ⟨A5, c5, rfl, o2, b3⟩
  go_wp2_with fail
  refine (same_self A4 A5 c4 c5 _ _ (by rw [Bwt.back_length]) _ (o1.below b3).ints o2.ints (by omega)).mono ?_
  rintro e w' ⟨rfl, rfl⟩
  go_wp2_with fail
  go_ret
  exact ⟨rfl, b1.trans ((b2.trans (b3.mono b2.size)).mono b1.size)⟩
end Go.Proofs.Ytdhehnjidakfcaa

/- The places of a text give the text: the law's walk. -/
import Derived.Test.YtdhehnjidakfcaaFrontPlaces
namespace Go.Proofs.Ytdhehnjidakfcaa
open Go.RowKit
set_option maxHeartbeats 400000
set_option linter.unusedVariables false
set_option linter.unusedSimpArgs false
theorem own_lit (w : World) (B : Nat) (k : IntKind) (e : TypeId) (y : Nat) (hB : B ≤ w.heap.size) : Own (w.alloc (.cells #[.int k (y : Int)] e)) B e 1 (some ⟨w.heap.size, 0, none⟩) 1 1 (cellsN k [y]) :=
  World.ownsRow_lit w #[.int k (y : Int)] 1 hB (by unfold maxLen; omega) rfl
theorem Zints.atZ {w : World} {k : IntKind} {b off : Nat} {l : List Int} (h : Zints w k (some ⟨b, off, none⟩) l) (i : Nat) (hi : i < l.length) (y : Int) (hy : l.getD i 0 = y) : w.cell? ⟨b, off + i, none⟩ = some (.int k y) := by
  obtain ⟨b', off', e, _, hc⟩ := h i hi
  injection e with e
  injection e with e1 e2
  subst e1; subst e2; subst hy
  exact hc
theorem fnFrontBack_walk (A1 : Option Addr) (c1 : Nat) (z1 : List Int) (A2 : Option Addr) (c2 : Nat) (z2 : List Int) (w : World) {P : Prop} (_ : P)
    (h1 : Arg .u8 w A1 z1 c1) (m1 : z1.length * 1 ≤ 140737488351232) (h2 : Arg .i64 w A2 z2 c2) (m2 : z2.length * 8 ≤ 140737488351232) :
    Calls Try.prog 5 #[.slice A1 z1.length c1, .slice A2 z2.length c2] w fun e w' => e = .returned (.bool true) ∧ Below w.heap.size w w' := by
  obtain ⟨l1, hl1, hA1, hb1, hm1⟩ := bytes_of h1
  have hc := h1.le
  go_enter Try.func5, Try.ntmps5
  go_wp2_with fail
  refine (list_any A1 c1 _ l1 _ hA1 hl1 hc (by omega) hb1).mono ?_
  rintro e w1 ⟨A3, n, c3, L, rfl, hL, h0, h256, hcap, hI, hb, b1⟩
  clear hb1 hA1 hl1
  have hz2 := h2.cells.below b1
  have HW := Lib.hid h2.wf
  clear h1 h2
  obtain ⟨b3, o3, rfl, hb3, hc3⟩ := hI 0 (by omega)
  obtain ⟨y0, hy0⟩ : ∃ y, L.getD 0 0 = y := ⟨_, rfl⟩
  rw [hy0, Nat.add_zero] at hc3
  have HY0 : Hid (y0 ∈ L) := by
    show y0 ∈ L
    rw [← hy0]
    have : L.getD 0 0 = L[0]'(by omega) := by simp [List.getD_eq_getElem?_getD, List.getElem?_eq_getElem (show 0 < L.length by omega)]
    rw [this]; exact List.getElem_mem _
  clear hy0
  have HL := Lib.hid hL; have HB := Lib.hid hb; have HI := Lib.hid hI
  clear hL hb hI
  go_wp2_with fail
  have bl0 : Below w1.heap.size w1 (w1.alloc (.cells #[.int .u8 (y0 : Int)] 5)) := (Below.refl _ _).alloc (Nat.le_refl _) _
  have own0 := own_lit w1 w1.heap.size .u8 5 y0 (Nat.le_refl _)
  go_loopw [5, 18] (fun v i wr => ∃ (k : Nat) (A : Option Addr) (c : Nat) (W : List Nat), k ≤ z2.length ∧ i = .int .i64 k ∧ v = .slice A (k + 1) c ∧ Hid (W.length = k + 1) ∧ Hid (∀ x ∈ W, x ∈ L) ∧ Own wr w1.heap.size 5 1 A (k + 1) c (cellsN .u8 W) ∧ Below w1.heap.size w1 wr) (fun _ i _ => z2.length - (intOf i).toNat)
  case atStart => exact ⟨0, _, _, [y0], by omega, rfl, rfl, rfl, by intro x hx; obtain rfl := List.mem_singleton.1 hx; exact HY0.out, own0, bl0⟩
  case round =>
    obtain ⟨k, A, c, W, hk, rfl, rfl, hwl, HIn, own, bel⟩ := hrel
    by_cases hlt : k < z2.length
    · obtain ⟨b2, o2, rfl, hb2, hc2⟩ := hz2 k hlt
      have hd2 := (bel.cell (p := ⟨b2, o2 + k, none⟩) hb2).trans hc2
      generalize hy : z2.getD k 0 = y at hd2 hc2
      have hwy := wf_at HW.out hlt hy
      have e1 := Int.emod_nonneg y (show (n : Int) ≠ 0 by omega)
      have e2 := Int.emod_lt_of_pos y (show (0 : Int) < (n : Int) by omega)
      obtain ⟨j, hj⟩ : ∃ j : Nat, y % (n : Int) = j := ⟨(y % (n : Int)).toNat, by omega⟩
      have hjn : j < n := by omega
      have HJ := Lib.hid hj
      clear hj e1 e2 hy hc2
      obtain ⟨x, hx⟩ : ∃ x, L.getD j 0 = x := ⟨_, rfl⟩
      have hcx := HI.out.at j (by rw [HL.out]; exact hjn) x hx
      have hcx2 := (bel.cell (p := ⟨b3, o3 + j, none⟩) hb3).trans hcx
      have HXI : Hid (x ∈ L) := by
        show x ∈ L
        rw [← hx]
        have : L.getD j 0 = L[j]'(by rw [HL.out]; exact hjn) := by simp [List.getD_eq_getElem?_getD, List.getElem?_eq_getElem (show j < L.length by rw [HL.out]; exact hjn)]
        rw [this]; exact List.getElem_mem _
      clear hx hcx
      have hbs := bel.size
      go_wp2_with (first
        | (go_at_call 14; refine (place_any _ _ _ hwy (by omega) (by omega)).mono ?_; rintro e w3 ⟨rfl, rfl⟩; rw [HJ.out])
        | (at_builtin; refine app_nat rfl (.tmp 22) (.tmp 30) 22 rfl w1.heap.size 5 .u8 1 Try.underlying22 infoByte (by omega) rfl (own.alloc _) rfl (l2 := [x]) (srcAt_new wr _ _ _ _ rfl) rfl (by omega) (by simp; omega) ?_; intro A4 c4 w4 own4 grow4 _))
      go_roundw
      case rel =>
        refine ⟨k + 1, A4, c4, W ++ [x], by omega, by go_num, rfl, ?_, ?_, own4, below_grown (bel.alloc bel.size _) grow4 (bel.alloc bel.size _).size (fun g hg => (own.block g hg).1)⟩
        · show (W ++ [x]).length = k + 1 + 1
          rw [List.length_append, hwl.out]; rfl
        · intro u hu
          rcases List.mem_append.1 hu with h | h
          · exact HIn.out u h
          · obtain rfl := List.mem_singleton.1 h; exact HXI.out
      case measure => simp [intOf]; omega
    · obtain rfl : k = z2.length := by omega
      have IL := HI.out.below bel
      go_wp2_with fail
      refine (places_any (some ⟨b3, o3, none⟩) A c3 c n _ L W wr IL own.ints HL.out hwl.out h256 h0 HIn.out (by omega) (fun e => by cases e)).mono ?_
      rintro e w4 ⟨A5, c5, ps, rfl, hpl, hps, hM, own5, b4⟩
      have HPS := Lib.hid hps; have HM := Lib.hid hM; have HPL := Lib.hid hpl
      clear hps hM hpl
      go_wp2_with fail
      refine (implFront_any (some ⟨b3, o3, none⟩) A5 c3 c5 n _ L ps w4 (IL.below b4) own5.ints HL.out HPL.out h256 h0 HPS.out (by omega) HB.out (fun e => by cases e)).mono ?_
      rintro e w5 ⟨A6, c6, A7, c7, rfl, q1, q2, ap, b5⟩
      rw [HM.out] at q1
      have b5' := b4.trans (b5.mono b4.size)
      have ownW := own.below b5'
      go_wp2_with fail
      refine (same_self A6 A c6 c _ W hwl.out _ q1.ints ownW.ints (by omega)).mono ?_
      rintro e w' ⟨rfl, rfl⟩
      go_wp2_with fail
      go_ret
      exact ⟨rfl, b1.trans ((bel.trans (b5'.mono bel.size)).mono b1.size)⟩
end Go.Proofs.Ytdhehnjidakfcaa

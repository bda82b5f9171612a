/- The law of symbols written and read: walked. -/
import Derived.Test.YtdhehnjidakfcaaDoorSymLaw
import Derived.Test.YtdhehnjidakfcaaDoorCoded
namespace Go.Proofs.YtdhehnjidakfcaaDoor
open Go.RowKit Huff
set_option maxHeartbeats 1000000
set_option maxRecDepth 4000
set_option linter.unusedVariables false
set_option linter.unusedSimpArgs false
set_option maxHeartbeats 4000000 in
theorem fnSymbolsBack_walk (A0 : Option Addr) (c0 : Nat) (z0 : List Int) (n1 : Int) (A2 : Option Addr) (c2 : Nat) (z2 : List Int) (w : World) (hEE : ∃ a0 a1, Errs w a0 a1)
    (h0 : Arg .i64 w A0 z0 c0) (m0 : z0.length * 8 ≤ 140737488351232) (hn1 : (Lit.int .i64 n1).wf = true) (h2 : Arg .i64 w A2 z2 c2) (m2 : z2.length * 8 ≤ 140737488351232) :
    Calls Tryd.prog 7 #[.slice A0 z0.length c0, .int .i64 n1, .slice A2 z2.length c2] w fun e w' => e = .returned (.bool true) ∧ Below w.heap.size w w' := by
  obtain ⟨a0, a1, hE⟩ := hEE
  have HE := Lib.hid hE
  have hs1 : 1 < w.heap.size := lt_of_cell hE.2
  obtain ⟨M, hM, hM2⟩ := rest_nat n1 257 (by omega)
  have HM := Lib.hid hM
  clear hE hM
  go_enter Tryd.func7, Tryd.ntmps7
  go_wp2_with fail
  refine (place_any n1 257 w hn1 (by omega) (by omega)).mono ?_
  rintro e w' ⟨rfl, rfl⟩
  rw [show n1 % 257 = (M : Int) from HM.out]
  obtain ⟨K, hK⟩ : ∃ K, 2 + M = K := ⟨_, rfl⟩
  have i1 : (2 : Int) + (M : Int) = (K : Int) := by omega
  go_wp2_with fail
  refine (Lengths_any A0 z0.length c0 K z0 w h0.cells rfl h0.wf (by omega) (by omega) (by omega)).mono ?_
  rintro e w1 ⟨A3, c3, L, rfl, own3, hG, hL, b1⟩
  have HG := Lib.hid hG
  have HLL := Lib.hid hL
  have HF := Lib.hid (hG.isFull (by omega))
  have hs2 := b1.size
  clear hG hL
  go_wp2_with fail
  refine (rests_any A2 c2 _ K z2 w1 (h2.cells.below b1) rfl h2.wf (by omega) (by omega) m2).mono ?_
  rintro e w2 ⟨A4, c4, rfl, own4, b2⟩
  have hps := restsOf_lt z2 K (by omega)
  have hrl := restsOf_length z2 K
  generalize restsOf z2 K = ts at own4 hps hrl
  have HPS := Lib.hid hps
  have HRL := Lib.hid hrl
  obtain ⟨m, hm⟩ : ∃ m, z2.length = m := ⟨_, rfl⟩
  rw [hm] at own4 hrl m2 ⊢
  have HRL2 : Hid (ts.length = m) := hrl
  have b12 := b1.trans (b2.mono hs2)
  have hs3 := b12.size
  have own32 := own3.below b2
  clear hps hrl own3 HRL hm
  go_wp2_with fail
  refine (coded_any A3 A4 c3 c4 K m L ts w2 own32.ints HLL.out HF.out (by omega) HG.out.le own4.ints HRL2.out HPS.out m2).mono ?_
  rintro e w3 ⟨A5, c5, n5, l5, R, rfl, own5, hlt5, hn5, hbl, b3⟩
  have HBL := Lib.hid hbl
  have HLT5 := Lib.hid hlt5
  have b13 := b12.trans (b3.mono hs3)
  have hs4 := b13.size
  have own33 := own32.below b3
  have own43 := own4.below b3
  have h5l := Lib.hid (own_length' own5)
  clear hbl hlt5 own32 own4
  go_wp2_with fail
  refine (implSymbols_any A3 A5 c3 c5 K n5 m L l5 a0 a1 w3 own33.ints HLL.out HF.out (by omega) own5.ints h5l.out hn5 HLT5.out m2 (HE.out.below b13) (by omega) (fun _ g hg => (own5.block g hg).2)).mono ?_
  rintro e w4 ⟨A6, c6, o, en, rfl, hr, hol, own6, b4⟩
  have hd := decs_words L HF.out ts R (fun v hv => by have := HPS.out v hv; have := HLL.out; omega)
  rw [HRL2.out] at hd
  rw [HBL.out] at hr
  rw [show words L ts = ts.flatMap fun v => bitsOf (code L v) (L.getD v 0) from rfl, hd] at hr
  injection hr with e1 e2
  subst e1; subst e2
  have b14 := b13.trans (b4.mono hs4)
  have hs5 := b14.size
  have own44 := own43.below b4
  rw [HRL2.out] at own6 ⊢
  clear hd hol own43 own33 own5
  go_wp2_with fail
  refine (sone_any a0 a1 w4 (HE.out.below b14) (by omega) rfl rfl).mono ?_
  rintro e w5 ⟨A7, c7, rfl, own7, b5⟩
  have b15 := b14.trans (b5.mono hs5)
  have hs6 := b15.size
  have own6' := own6.below b5
  have own45 := own44.below b5
  clear own6 own44
  go_wp2_with fail
  refine (samei_self A6 A4 c6 c4 m ts HRL2.out _ own6'.ints own45.ints (by omega)).mono ?_
  rintro e w' ⟨rfl, rfl⟩
  go_wp2_with fail
  refine (samei_self A7 (some ⟨w5.heap.size, 0, none⟩) c7 1 1 [1] rfl _ (own7.ints.alloc _) (ints2 w5 _ rfl) (by omega)).mono ?_
  rintro e w' ⟨rfl, rfl⟩
  go_wp2_with fail
  go_ret
  exact ⟨rfl, b15.alloc hs6 _⟩
end Go.Proofs.YtdhehnjidakfcaaDoor

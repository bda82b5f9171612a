/- The first law of bits: walked. -/
import Derived.Test.YtdhehnjidakfcaaDoorFields
namespace Go.Proofs.YtdhehnjidakfcaaDoor
open Go.RowKit
set_option maxHeartbeats 400000
set_option maxRecDepth 4000
set_option linter.unusedVariables false
set_option linter.unusedSimpArgs false
theorem ints_dom {w : World} {k : IntKind} {A : Option Addr} {l : List Nat} (h : Ints w k A l) (h0 : 0 < l.length) : ∀ g, blockOf A = some g → g < w.heap.size := by
  intro g hg
  obtain ⟨b, o, rfl, hb, _⟩ := h 0 h0
  have : b = g := by simpa [blockOf] using hg
  omega
theorem own_one (w : World) (B : Nat) (k : IntKind) (e : TypeId) (y : Nat) (hB : B ≤ w.heap.size) : Own (w.alloc (.cells #[.int k (y : Int)] e)) B e 1 (some ⟨w.heap.size, 0, none⟩) 1 1 (cellsN k [y]) :=
  World.ownsRow_lit w #[.int k (y : Int)] 1 hB (by unfold maxLen; omega) rfl
theorem run_one : run [1] 1 0 [8] = ([1], false) := by decide
/-- 'one, _ := impl.Bits([]byte{1}, []int{8})' -/
theorem one_any (a0 a1 : Addr) (w : World) (hE : Errs w a0 a1) (hs : 1 < w.heap.size) {B1 B2 : Nat} (h1 : B1 = w.heap.size) (h2 : B2 = w.heap.size + 1) :
    Calls Tryd.prog 10 #[.slice (some ⟨B1, 0, none⟩) 1 1, .slice (some ⟨B2, 0, none⟩) 1 1] ((w.alloc (.cells #[.int .u8 1] 5)).alloc (.cells #[.int .i64 8] 3)) fun e w' => ∃ A1 c1, e = .returned (.tuple #[.slice A1 1 c1, .bool false]) ∧ Own w' w.heap.size 29 1 A1 1 c1 (cellsN .u64 [1]) ∧ Below w.heap.size w w' := by
  subst h1; subst h2
  have o1 : Own ((w.alloc (.cells #[.int .u8 1] 5)).alloc (.cells #[.int .i64 8] 3)) w.heap.size 5 1 (some ⟨w.heap.size, 0, none⟩) 1 1 (cellsN .u8 [1]) := (own_one w w.heap.size .u8 5 1 (Nat.le_refl _)).alloc (.cells #[.int .i64 8] 3)
  have b1 : Below w.heap.size w (w.alloc (.cells #[.int .u8 1] 5)) := (Below.refl _ _).alloc (Nat.le_refl _) _
  have z1 : (w.alloc (.cells #[.int .u8 1] 5)).heap.size = w.heap.size + 1 := by simp
  have o2 : Own ((w.alloc (.cells #[.int .u8 1] 5)).alloc (.cells #[.int .i64 8] 3)) w.heap.size 3 1 (some ⟨(w.alloc (.cells #[.int .u8 1] 5)).heap.size, 0, none⟩) 1 1 (cellsN .i64 [8]) := own_one (w.alloc (.cells #[.int .u8 1] 5)) w.heap.size .i64 3 8 (by omega)
  have b2 := b1.alloc b1.size (.cells #[.int .i64 8] 3)
  rw [z1] at o2
  have z2 : ((w.alloc (.cells #[.int .u8 1] 5)).alloc (.cells #[.int .i64 8] 3)).heap.size = w.heap.size + 2 := by simp
  refine (implBits_any _ _ 1 1 1 1 [1] [8] a0 a1 _ o1.ints o2.ints rfl rfl (by omega) (by omega) (by simp) (by simp) (hE.below b2) (by omega) (fun _ g hg => ?_)).mono ?_
  · have : w.heap.size = g := by simpa [blockOf] using hg
    omega
  · rintro e w' ⟨A1, c1, o, en, rfl, hr, _, own, bel⟩
    rw [run_one] at hr
    injection hr with h1 h2
    subst h1; subst h2
    exact ⟨A1, c1, rfl, own.mono (by omega), b2.trans (bel.mono (by omega))⟩
theorem fnBits_walk (A1 : Option Addr) (c1 : Nat) (z1 : List Int) (A2 : Option Addr) (c2 : Nat) (z2 : List Int) (w : World) (hEE : ∃ a0 a1, Errs w a0 a1)
    (h1 : Arg .u8 w A1 z1 c1) (m1 : z1.length * 1 ≤ 140737488351232) (h2 : Arg .i64 w A2 z2 c2) (m2 : z2.length * 8 ≤ 140737488351232) :
    Calls Tryd.prog 3 #[.slice A1 z1.length c1, .slice A2 z2.length c2] w fun e w' => e = .returned (.bool true) ∧ Below w.heap.size w w' := by
  obtain ⟨a0, a1, hE⟩ := hEE
  obtain ⟨l, hl, hA, hb, hm⟩ := bytes_of h1
  have HE := Lib.hid hE
  have hs1 : 1 < w.heap.size := lt_of_cell hE.2
  have hdom : Hid (0 < z1.length → ∀ g, blockOf A1 = some g → g < w.heap.size) := fun h0 => ints_dom hA (by omega)
  have HL := Lib.hid hl; have HB := Lib.hid hb; have HA := Lib.hid hA
  have n1 : z1.length ≤ 140737488351232 := by omega
  clear hE hl hb hm h1 hA m1
  go_enter Tryd.func3, Tryd.ntmps3
  go_wp2_with fail
  refine (rests_any A2 c2 _ 49 z2 w h2.cells rfl h2.wf (by omega) (by omega) m2).mono ?_
  rintro e w1 ⟨A3, c3, rfl, own3, b1⟩
  have hps := restsOf_lt z2 49 (by omega)
  have hrl := restsOf_length z2 49
  generalize restsOf z2 49 = ws at own3 hps hrl
  have HPS : Hid (∀ x ∈ ws, x ≤ 48) := fun x hx => by have := hps x hx; omega
  have HRL := Lib.hid hrl
  clear hps hrl
  have hs2 := b1.size
  go_wp2_with fail
  refine (implBits_any A1 A3 c1 c3 _ _ l ws a0 a1 w1 (HA.out.below b1) own3.ints HL.out HRL.out n1 m2 HB.out HPS.out (HE.out.below b1) (by omega) (fun h g hg => Nat.lt_of_lt_of_le (hdom.out h g hg) hs2)).mono ?_
  rintro e w2 ⟨A4, c4, o, en, rfl, hr, hol, o1, b2⟩
  have b12 := b1.trans (b2.mono hs2)
  have hs3 := b12.size
  go_wp2_with fail
  refine (fields_any A1 A3 c1 c3 _ _ l ws w2 (HA.out.below b12) (own3.ints.below b2) HL.out HRL.out n1 m2 HB.out HPS.out).mono ?_
  rintro e w3 ⟨A5, c5, o', en', rfl, hr2, _, o2, b3⟩
  rw [hr] at hr2
  injection hr2 with h1 h2
  subst h1; subst h2
  clear hr
  have b13 := b12.trans (b3.mono hs3)
  have hs4 := b13.size
  have ho1 := o1.below b3
  have HOL : Hid (o.length ≤ 140737488351232) := by show o.length ≤ _; omega
  clear hol
  go_wp2_with fail
  refine (one_any a0 a1 w3 (HE.out.below b13) (by omega) rfl rfl).mono ?_
  rintro e w4 ⟨A6, c6, rfl, o3, b4⟩
  have b14 := b13.trans (b4.mono hs4)
  have ho1' := ho1.below b4
  have ho2 := o2.below b4
  go_wp2_with fail
  refine (same_self A4 A5 c4 c5 _ o rfl _ ho1'.ints ho2.ints (by have := HOL.out; omega)).mono ?_
  rintro e w' ⟨rfl, rfl⟩
  go_wp2_with fail
  have hs5 := b14.size
  refine (same_self A6 (some ⟨w4.heap.size, 0, none⟩) c6 1 1 [1] rfl _ (o3.ints.alloc _) (Ints.one w4 .u64 1 29 rfl rfl) (by omega)).mono ?_
  rintro e w' ⟨rfl, rfl⟩
  go_wp2_with fail
  go_ret
  exact ⟨rfl, b14.alloc hs5 _⟩
end Go.Proofs.YtdhehnjidakfcaaDoor

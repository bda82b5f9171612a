/- The check sums: what the listed table gives at the call's entry, and the laws that make no memory but a byte or two. -/
import Derived.Test.YtgledbigkjlbmaaDoorSumWalk
import Derived.Test.YtgledbigkjlbmaaDoorRows
import Derived.ProofKit
import Derived.Lib.LaidTab
import Derived.LaidMore
namespace Go.Proofs.YtgledbigkjlbmaaDoor
open Go.RowKit Go.ChangeShapes Go.WideShapes
theorem gTab : Tryd.prog.globalNamed "barrowwheel/pub/bzip2.crctab" = some 0 := by kernel_rfl
theorem gTabType : (Tryd.prog.globals[0]?).map (·.type) = some 35 := by kernel_rfl
theorem cellsTab : Tryd.prog.cellsOf 35 = 256 := by kernel_rfl
theorem cellsWord : Tryd.prog.cellsOf 23 = 1 := by kernel_rfl
/-- the table as the row lists it -/
def tabNums : List Int := (List.range 256).map fun i => num (Crc.tab (BitVec.ofNat 32 i))
theorem tab_data {H : Type} : (Rows.laid_barrowwheel_pub_bzip2_crctab : DataW H) = Lib.tabData .u32 tabNums := by kernel_rfl
theorem entry_of {W : World} (h : laidMet Tryd.prog [("barrowwheel/pub/bzip2.crctab", Rows.laid_barrowwheel_pub_bzip2_crctab)] W) : Tab W := by
  rw [tab_data] at h
  have ht := Lib.tabIs_of_head (rest := []) gTab gTabType Tryd.underlying35 Tryd.underlying23 cellsWord cellsTab h
  intro i hi
  have hl : i < tabNums.length := by simp [tabNums]; exact hi
  rw [ht.cell gTab i hl]
  congr 2
  simp [tabNums, List.getD_eq_getElem?_getD, hi]
theorem entry {W : World} (_ : W.ShapedOpen Tryd.prog) (h : laidMetH Tryd.prog [("barrowwheel/pub/bzip2.crctab", Rows.laid_barrowwheel_pub_bzip2_crctab)] W) : Tab W := entry_of h
theorem bytes_of {w : World} {A : Option Addr} {l : List Int} {cap : Nat} (h : Arg .u8 w A l cap) : ∃ ln : List Nat, ln.length = l.length ∧ Ints w .u8 A ln ∧ (∀ x ∈ ln, x < 256) ∧ ln.length ≤ 9223372036854775807 := by
  obtain ⟨ln, h1, h2, h3⟩ := h.nat rfl
  refine ⟨ln, h1, h2, fun x hx => ?_, ?_⟩
  · have := h3 x hx
    have e : IntKind.u8.max = 255 := by decide
    omega
  · have a := h.le
    have b := h.cap_le
    unfold maxLen at b
    omega
theorem fnCheckSum_walk (A : Option Addr) (cap : Nat) (l : List Int) (w : World) (hT : Tab w) (h : Arg .u8 w A l cap) (_ : l.length * 1 ≤ 140737488351232) :
    Calls Tryd.prog 3 #[.slice A l.length cap] w fun e w' => e = .returned (.bool true) ∧ Below w.heap.size w w' := by
  obtain ⟨ln, hln, hA, hb, hl⟩ := bytes_of h
  rw [← hln]; clear hln h
  go_enter Tryd.func3, Tryd.ntmps3
  go_wp2_with fail
  refine (check_any (s := 0#32) rfl _ _ _ ln rfl _ hT hA hl hb).mono ?_
  rintro e w' ⟨rfl, rfl⟩
  go_wp2_with fail
  refine (spec_any (s := 0#32) rfl _ _ _ ln rfl _ hA hl hb).mono ?_
  rintro e w' ⟨rfl, rfl⟩
  go_wp2_with fail
  refine (check_any (s := 0#32) rfl _ _ _ [1] rfl _ (hT.alloc _) (Ints.one w .u8 1 _ rfl rfl) (by simp) (by simp)).mono ?_
  rintro e w' ⟨rfl, rfl⟩
  go_wp2_with fail
  refine (spec_any (s := 0#32) rfl _ _ _ [1] rfl _ (Ints.one _ .u8 1 _ rfl (by simp)) (by simp) (by simp)).mono ?_
  rintro e w' ⟨rfl, rfl⟩
  go_wp2_with fail
  go_ret
  exact ⟨rfl, ((Below.refl _ _).alloc (Nat.le_refl _) _).alloc (by simp) _⟩
theorem fnCheckSumOn_walk (s0 : Int) (A : Option Addr) (cap : Nat) (l : List Int) (w : World) (hT : Tab w) (hs : (Lit.int .u32 s0).wf = true) (h : Arg .u8 w A l cap) (_ : l.length * 1 ≤ 140737488351232) :
    Calls Tryd.prog 5 #[.int .u32 s0, .slice A l.length cap] w fun e w' => e = .returned (.bool true) ∧ Below w.heap.size w w' := by
  obtain ⟨ln, hln, hA, hb, hl⟩ := bytes_of h
  rw [← hln]; clear hln h
  obtain ⟨s, rfl⟩ : ∃ s : Crc.W, s0 = num s := by
    have := wf_range hs
    have e1 : IntKind.u32.max = 4294967295 := by decide
    have e2 : IntKind.u32.min = 0 := by decide
    refine ⟨BitVec.ofNat 32 s0.toNat, ?_⟩
    unfold num
    rw [BitVec.toNat_ofNat, Nat.mod_eq_of_lt (by omega)]
    omega
  clear hs
  go_enter Tryd.func5, Tryd.ntmps5
  go_wp2_with fail
  refine (check_any (s := s) rfl _ _ _ ln rfl _ hT hA hl hb).mono ?_
  rintro e w' ⟨rfl, rfl⟩
  go_wp2_with fail
  refine (spec_any (s := s) rfl _ _ _ ln rfl _ hA hl hb).mono ?_
  rintro e w' ⟨rfl, rfl⟩
  go_wp2_with fail
  refine (check_any (s := 0#32) rfl _ _ _ [1] rfl _ (hT.alloc _) (Ints.one w .u8 1 _ rfl rfl) (by simp) (by simp)).mono ?_
  rintro e w' ⟨rfl, rfl⟩
  go_wp2_with fail
  refine (spec_any (s := 0#32) rfl _ _ _ [1] rfl _ (Ints.one _ .u8 1 _ rfl (by simp)) (by simp) (by simp)).mono ?_
  rintro e w' ⟨rfl, rfl⟩
  go_wp2_with fail
  go_ret
  exact ⟨rfl, ((Below.refl _ _).alloc (Nat.le_refl _) _).alloc (by simp) _⟩
end Go.Proofs.YtgledbigkjlbmaaDoor

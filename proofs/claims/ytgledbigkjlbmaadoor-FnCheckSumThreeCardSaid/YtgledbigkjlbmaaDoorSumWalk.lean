/- The check sum: the walks of the reference's step and sum, and of the decompressor's table. -/
import Derived.Test.YtgledbigkjlbmaaDoorBase
import Derived.Test.YtgledbigkjlbmaaDoorCrc
namespace Go.Proofs.YtgledbigkjlbmaaDoor
open Go.RowKit
/-- a word as the walk's number -/
def num (x : Crc.W) : Int := (x.toNat : Int)
theorem num_range (x : Crc.W) : 0 ≤ num x ∧ num x < 4294967296 := by
  have := x.isLt
  unfold num; omega
theorem num_xor (x y : Crc.W) : bits .xor .u32 (num x) (num y) = num (x ^^^ y) := by
  unfold num
  rw [u32_xor_nat _ _ x.isLt y.isLt, BitVec.toNat_xor]
theorem num_not (x : Crc.W) : bits .xor .u32 IntKind.u32.max (num x) = num (~~~ x) := by
  have e : IntKind.u32.max = num (BitVec.allOnes 32) := by decide
  rw [e, num_xor, BitVec.allOnes_xor]
theorem num_byte (b : Nat) (hb : b < 256) : (b : Int) * (16777216 : Int) = num (BitVec.ofNat 32 b <<< 24) := by
  unfold num
  rw [BitVec.toNat_shiftLeft, BitVec.toNat_ofNat, Nat.shiftLeft_eq]
  omega
theorem num_shl1 (x : Crc.W) : num x * (2 : Int) % (4294967296 : Int) = num (x <<< 1) := by
  unfold num
  rw [BitVec.toNat_shiftLeft, Nat.shiftLeft_eq]
  omega
theorem sh_yes (x : Crc.W) (h : (num x / (2147483648 : Int) == 1) = true) : bits .xor .u32 (num x * (2 : Int) % (4294967296 : Int)) 79764919 = num (Crc.sh x) := by
  have hm : x.msb = true := by
    rw [BitVec.msb_eq_decide]
    have := beq_iff_eq.1 h
    unfold num at this
    simp; omega
  unfold Crc.sh
  rw [if_pos hm, ← num_xor, num_shl1]
  rfl
theorem sh_no (x : Crc.W) (h : (num x / (2147483648 : Int) == 1) = false) : num x * (2 : Int) % (4294967296 : Int) = num (Crc.sh x) := by
  have hx := x.isLt
  have hm : x.msb = false := by
    rw [BitVec.msb_eq_decide]
    have := beq_eq_false_iff_ne.1 h
    unfold num at this
    simp; omega
  unfold Crc.sh
  rw [hm, num_shl1]
  simp
theorem iter_step (k : Nat) (x t : Crc.W) (hk : k < 8) (h : Hid (Crc.iter (8 - k) x = t)) : Hid (Crc.iter (8 - (k + 1)) (Crc.sh x) = t) := by
  have e : 8 - k = 8 - (k + 1) + 1 := by omega
  have h' : Crc.iter (8 - k) x = t := h
  rw [e] at h'
  exact h'
theorem step_any (s : Crc.W) (b : Nat) (w : World) (hb : b < 256) :
    Calls Tryd.prog 15 #[.int .u32 (num s), .int .u8 (b : Int)] w fun e w' => e = .returned (.int .u32 (num (Crc.step s (BitVec.ofNat 32 b)))) ∧ w = w' := by
  have HS := Lib.hid ((congrArg (bits .xor .u32 (num s)) (num_byte b hb)).trans (num_xor _ _))
  have hr := num_range s
  go_enter Tryd.func15, Tryd.ntmps15
  go_wp2
  rw [HS.out]
  go_loop [0, 10] (fun v i => ∃ (k : Nat) (x : Crc.W), k ≤ 8 ∧ i = .int .i64 k ∧ v = .int .u32 (num x) ∧ Hid (Crc.iter (8 - k) x = Crc.step s (BitVec.ofNat 32 b))) (fun _ i => 8 - (intOf i).toNat)
  case atStart => exact ⟨0, _, by omega, rfl, rfl, rfl⟩
  case round =>
    obtain ⟨k, x, hk, rfl, rfl, hx⟩ := hrel
    have hxr := num_range x
    by_cases hlt : k < 8
    · go_wp2
      · have ht : (num x / (2147483648 : Int) == 1) = true := by assumption
        go_round
        case rel => exact ⟨k + 1, Crc.sh x, by omega, by go_num, by rw [sh_yes x ht], iter_step k x _ hlt hx⟩
        case measure => simp [intOf]; omega
      · have ht : (num x / (2147483648 : Int) == 1) = false := by assumption
        go_round
        case rel => exact ⟨k + 1, Crc.sh x, by omega, by go_num, by rw [sh_no x ht], iter_step k x _ hlt hx⟩
        case measure => simp [intOf]; omega
    · have hk8 : 8 - k = 0 := by omega
      have hx' : Crc.iter (8 - k) x = Crc.step s (BitVec.ofNat 32 b) := hx
      rw [hk8] at hx'
      have HX := Lib.hid hx'; clear hx' hk8
      go_wp2
      go_ret
      exact ⟨by rw [← HX.out]; rfl, rfl⟩
def bv (l : List Nat) : List Crc.W := l.map (BitVec.ofNat 32)
theorem steps_snoc (s : Crc.W) (l : List Nat) (k : Nat) (hk : k < l.length) : Crc.steps s (bv (l.take (k + 1))) = Crc.step (Crc.steps s (bv (l.take k))) (BitVec.ofNat 32 l[k]) := by
  rw [List.take_succ_eq_append_getElem hk]
  unfold bv Crc.steps
  rw [List.map_append, List.foldl_append]
  rfl
theorem sumon_any (s : Crc.W) (A : Option Addr) (cap : Nat) (l : List Nat) (w : World) (hA : Ints w .u8 A l) (hl : l.length ≤ 9223372036854775807) (hb : ∀ x ∈ l, x < 256) :
    Calls Tryd.prog 10 #[.int .u32 (num s), .slice A l.length cap] w fun e w' => e = .returned (.int .u32 (num (~~~ Crc.steps (~~~ s) (bv l)))) ∧ w = w' := by
  have HN := Lib.hid (num_not s)
  have HE := Lib.hid (num_not (Crc.steps (~~~ s) (bv l)))
  go_enter Tryd.func10, Tryd.ntmps10
  go_wp2
  rw [HN.out]
  go_loop [0, 11] (fun v i => ∃ (k : Nat), k ≤ l.length ∧ i = .int .i64 k ∧ v = .int .u32 (num (Crc.steps (~~~ s) (bv (l.take k))))) (fun _ i => l.length - (intOf i).toNat)
  case atStart => exact ⟨0, by omega, rfl, rfl⟩
  case round =>
    obtain ⟨k, hk, rfl, rfl⟩ := hrel
    by_cases hlt : k < l.length
    · obtain ⟨b, off, rfl, _, hc⟩ := hA k hlt
      have hx := getD_lt hb hlt
      clear hb hA
      go_wp2_with (go_at_call 15; refine (step_any _ _ _ (by omega)).mono ?_; rintro e w' ⟨rfl, rfl⟩)
      go_round
      case rel => exact ⟨k + 1, by omega, by go_num, by rw [steps_snoc _ _ _ hlt]⟩
      case measure => simp [intOf]; omega
    · have hk' : l.take k = l := List.take_of_length_le (by omega)
      rw [hk']; clear hk'
      go_wp2
      go_ret
      exact ⟨ret_int HE.out, rfl⟩
theorem num_idx (y : Crc.W) (b : Nat) (hb : b < 256) : ∃ j : Nat, j < 256 ∧ bits .xor .u8 (num y / (16777216 : Int)) (b : Int) = (j : Int) ∧ BitVec.ofNat 32 j = (y >>> 24) ^^^ BitVec.ofNat 32 b := by
  have hy := y.isLt
  have e : num y / (16777216 : Int) = ((y.toNat / 16777216 : Nat) : Int) := by unfold num; omega
  refine ⟨(y.toNat / 16777216) ^^^ b, Nat.xor_lt_two_pow (n := 8) (by omega) (by omega), ?_, ?_⟩
  · rw [e]; exact u8_xor_nat _ _ (by omega) hb
  · apply BitVec.eq_of_toNat_eq
    rw [BitVec.toNat_xor, BitVec.toNat_ushiftRight, BitVec.toNat_ofNat, BitVec.toNat_ofNat, Nat.shiftRight_eq_div_pow]
    rw [Nat.mod_eq_of_lt (show b < 2 ^ 32 by omega), Nat.mod_eq_of_lt]
    exact Nat.xor_lt_two_pow (by omega) (by omega)
theorem num_tab (y : Crc.W) (b j : Nat) (h : BitVec.ofNat 32 j = (y >>> 24) ^^^ BitVec.ofNat 32 b) :
    bits .xor .u32 (num (Crc.tab (BitVec.ofNat 32 j))) (num y * (256 : Int) % (4294967296 : Int)) = num (Crc.step y (BitVec.ofNat 32 b)) := by
  have e : num y * (256 : Int) % (4294967296 : Int) = num (y <<< 8) := by
    unfold num
    rw [BitVec.toNat_shiftLeft, Nat.shiftLeft_eq]
    omega
  rw [e, num_xor, Crc.step_tab, h]
/-- the decompressor's table lies in its variable -/
def Tab (w : World) : Prop := ∀ i : Nat, i < 256 → w.cell? ⟨0, i, none⟩ = some (.int .u32 (num (Crc.tab (BitVec.ofNat 32 i))))
theorem update_any (s : Crc.W) (A : Option Addr) (cap : Nat) (l : List Nat) (w : World) (hT : Tab w) (hA : Ints w .u8 A l) (hl : l.length ≤ 9223372036854775807) (hb : ∀ x ∈ l, x < 256) :
    Calls Tryd.prog 16 #[.int .u32 (num s), .slice A l.length cap] w fun e w' => e = .returned (.int .u32 (num (~~~ Crc.steps (~~~ s) (bv l)))) ∧ w = w' := by
  have HN := Lib.hid (num_not s)
  have HE := Lib.hid (num_not (Crc.steps (~~~ s) (bv l)))
  go_enter Tryd.func16, Tryd.ntmps16
  go_wp2
  rw [HN.out]
  go_loop [5, 12] (fun v i => ∃ (k : Nat), k ≤ l.length ∧ i = .int .i64 k ∧ v = .int .u32 (num (Crc.steps (~~~ s) (bv (l.take k))))) (fun _ i => l.length - (intOf i).toNat)
  case atStart => exact ⟨0, by omega, rfl, rfl⟩
  case round =>
    obtain ⟨k, hk, rfl, rfl⟩ := hrel
    by_cases hlt : k < l.length
    · obtain ⟨b, off, rfl, _, hc⟩ := hA k hlt
      have hx := getD_lt hb hlt
      have hs := steps_snoc (~~~ s) l k hlt
      generalize Crc.steps (~~~ s) (bv (l.take k)) = y at hs ⊢
      have HS := Lib.hid hs; clear hs
      have hr := num_range y
      obtain ⟨j, hj, ej, hjb⟩ := num_idx y l[k] hx
      have HJ := Lib.hid (num_tab y l[k] j hjb)
      have ht := hT j hj
      clear hb hA hjb hT
      go_wp2
      go_round
      case rel => exact ⟨k + 1, by omega, by go_num, by rw [HS.out, ← HJ.out]⟩
      case measure => simp [intOf]; omega
    · have hk' : l.take k = l := List.take_of_length_le (by omega)
      rw [hk']; clear hk'
      go_wp2
      go_ret
      exact ⟨ret_int HE.out, rfl⟩
/-- the sum of some bytes, going on from a sum -/
def sumOf (s : Crc.W) (l : List Nat) : Crc.W := ~~~ Crc.steps (~~~ s) (bv l)
theorem check_any {s : Crc.W} {v : Int} (hv : num s = v) (A : Option Addr) (cap n : Nat) (l : List Nat) (hn : l.length = n) (w : World) (hT : Tab w) (hA : Ints w .u8 A l) (hl : l.length ≤ 9223372036854775807) (hb : ∀ x ∈ l, x < 256) :
    Calls Tryd.prog 9 #[.int .u32 v, .slice A n cap] w fun e w' => e = .returned (.int .u32 (num (sumOf s l))) ∧ w = w' := by
  subst hv; subst hn
  go_enter Tryd.func9, Tryd.ntmps9
  go_wp2_with (first | (go_at_call 16; refine (update_any _ _ _ _ _ hT hA hl hb).mono ?_; rintro e w' ⟨rfl, rfl⟩) | go_in)
  go_ret
  exact ⟨rfl, rfl⟩
theorem Tab.alloc {w : World} (h : Tab w) (o : Obj) : Tab (w.alloc o) := fun i hi =>
  (World.cell?_alloc_lt w o _ (lt_of_cell (h i hi))).trans (h i hi)
theorem spec_any {s : Crc.W} {v : Int} (hv : num s = v) (A : Option Addr) (cap n : Nat) (l : List Nat) (hn : l.length = n) (w : World) (hA : Ints w .u8 A l) (hl : l.length ≤ 9223372036854775807) (hb : ∀ x ∈ l, x < 256) :
    Calls Tryd.prog 10 #[.int .u32 v, .slice A n cap] w fun e w' => e = .returned (.int .u32 (num (sumOf s l))) ∧ w = w' := by
  subst hv; subst hn
  exact sumon_any s A cap l w hA hl hb
theorem Tab.below {w w' : World} (h : Tab w) (hb : Below w.heap.size w w') : Tab w' := fun i hi =>
  (hb.cell (p := ⟨0, i, none⟩) (lt_of_cell (h i hi))).trans (h i hi)
end Go.Proofs.YtgledbigkjlbmaaDoor

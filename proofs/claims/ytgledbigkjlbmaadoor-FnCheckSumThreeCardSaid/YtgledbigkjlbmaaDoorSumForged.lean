/- The four bytes that force a check sum: the walks of Forged and of the law over it. -/
import Derived.Test.YtgledbigkjlbmaaDoorSumMake
namespace Go.Proofs.YtgledbigkjlbmaaDoor
open Go.RowKit
set_option maxHeartbeats 400000
theorem and_one (x : Crc.W) : (bits .and .u32 (num x) 1 == 1) = x.getLsbD 0 := by
  have e : bits .and .u32 (num x) 1 = ((x.toNat &&& 1 : Nat) : Int) := u32_and_nat _ 1 x.isLt (by omega)
  rw [e, Nat.and_one_is_mod, BitVec.getLsbD, Nat.testBit_zero]
  rw [Bool.eq_iff_iff]
  simp only [beq_iff_eq, decide_eq_true_eq]
  omega
theorem num_half (x : Crc.W) : num x / (2 : Int) = num (x >>> 1) := by
  unfold num
  rw [BitVec.toNat_ushiftRight, Nat.shiftRight_eq_div_pow]
  omega
theorem num_or (x y : Crc.W) : bits .or .u32 (num x) (num y) = num (x ||| y) := by
  unfold num
  rw [u32_or_nat _ _ x.isLt y.isLt, BitVec.toNat_or]
theorem unsh_yes (x : Crc.W) (h : (bits .and .u32 (num x) 1 == 1) = true) : bits .or .u32 (bits .xor .u32 (num x) 79764919 / (2 : Int)) 2147483648 = num (Crc.unsh x) := by
  rw [and_one] at h
  unfold Crc.unsh
  rw [if_pos h, ← num_or, ← num_half, ← num_xor]
  rfl
theorem unsh_no (x : Crc.W) (h : (bits .and .u32 (num x) 1 == 1) = false) : num x / (2 : Int) = num (Crc.unsh x) := by
  rw [and_one] at h
  unfold Crc.unsh
  rw [h, num_half]
  simp
theorem uniter_step (k : Nat) (x t : Crc.W) (hk : k < 32) (h : Hid (Crc.uniter (32 - k) x = t)) : Hid (Crc.uniter (32 - (k + 1)) (Crc.unsh x) = t) := by
  have e : 32 - k = 32 - (k + 1) + 1 := by omega
  have h' : Crc.uniter (32 - k) x = t := h
  rw [e] at h'
  exact h'
/-- a word's four bytes, the highest first -/
def bytes4 (y : Crc.W) : List Nat := [y.toNat / 16777216, y.toNat / 65536 % 256, y.toNat / 256 % 256, y.toNat % 256]
theorem byte_at (m k j : Nat) (hj : j < 32) : (BitVec.ofNat 32 (m / 2 ^ k % 2 ^ 8)).getLsbD j = (decide (j < 8) && m.testBit (k + j)) := by
  rw [BitVec.getLsbD_ofNat, Nat.testBit_mod_two_pow, Nat.testBit_div_two_pow]
  simp [hj, Nat.add_comm]
theorem word_bytes4 (y : Crc.W) : Crc.word 4 (bv (bytes4 y)) = y := by
  have hy := y.isLt
  have e3 : y.toNat / 16777216 = y.toNat / 2 ^ 24 % 2 ^ 8 := by omega
  have e2 : y.toNat / 65536 % 256 = y.toNat / 2 ^ 16 % 2 ^ 8 := rfl
  have e1 : y.toNat / 256 % 256 = y.toNat / 2 ^ 8 % 2 ^ 8 := rfl
  have e0 : y.toNat % 256 = y.toNat / 2 ^ 0 % 2 ^ 8 := by omega
  have hb : bytes4 y = [y.toNat / 2 ^ 24 % 2 ^ 8, y.toNat / 2 ^ 16 % 2 ^ 8, y.toNat / 2 ^ 8 % 2 ^ 8, y.toNat / 2 ^ 0 % 2 ^ 8] := by
    unfold bytes4
    rw [← e3, ← e2, ← e1, ← e0]
  rw [hb]
  clear hb e3 e2 e1 e0
  apply BitVec.eq_of_getLsbD_eq
  intro i hi
  simp only [bv, List.map_cons, List.map_nil, Crc.word, BitVec.getLsbD_xor, BitVec.getLsbD_shiftLeft, BitVec.getLsbD_zero]
  have h32 : decide (i < 32) = true := by simpa using hi
  rw [h32]
  have yt : ∀ j, y.toNat.testBit j = y.getLsbD j := fun _ => rfl
  have f0 := byte_at y.toNat 0 (i - 0) (by omega)
  have f1 := byte_at y.toNat 8 (i - 8) (by omega)
  have f2 := byte_at y.toNat 16 (i - 16) (by omega)
  have f3 := byte_at y.toNat 24 (i - 24) (by omega)
  simp only [Nat.reduceMul]
  rw [f0, f1, f2, f3, yt, yt, yt, yt]
  by_cases c1 : i < 8
  · simp [c1, show i < 16 by omega, show i < 24 by omega]
  · by_cases c2 : i < 16
    · have : 8 + (i - 8) = i := by omega
      simp [c1, c2, show i < 24 by omega, this, show i - 8 < 8 by omega]
    · by_cases c3 : i < 24
      · have : 16 + (i - 16) = i := by omega
        simp [c1, c2, c3, this, show i - 16 < 8 by omega, show ¬ i - 8 < 8 by omega]
      · have : 24 + (i - 24) = i := by omega
        simp [c1, c2, c3, this, show i - 24 < 8 by omega, show ¬ i - 16 < 8 by omega, show ¬ i - 8 < 8 by omega]
theorem bytes4_lt (y : Crc.W) : ∀ x ∈ bytes4 y, x < 256 := by
  have hy := y.isLt
  intro x hx
  simp only [bytes4, List.mem_cons, List.not_mem_nil, or_false] at hx
  omega
theorem cells_bytes4 (y : Crc.W) : #[Value.int IntKind.u8 (num y / 16777216), Value.int IntKind.u8 (num y / 65536 % 256), Value.int IntKind.u8 (num y / 256 % 256), Value.int IntKind.u8 (num y % 256)] = (cellsN .u8 (bytes4 y)).toArray := by
  have e3 : num y / (16777216 : Int) = ((y.toNat / 16777216 : Nat) : Int) := by unfold num; omega
  have e2 : num y / (65536 : Int) % (256 : Int) = ((y.toNat / 65536 % 256 : Nat) : Int) := by unfold num; omega
  have e1 : num y / (256 : Int) % (256 : Int) = ((y.toNat / 256 % 256 : Nat) : Int) := by unfold num; omega
  have e0 : num y % (256 : Int) = ((y.toNat % 256 : Nat) : Int) := by unfold num; omega
  rw [e3, e2, e1, e0]
  rfl
/-- the four bytes behind which a sum is what is asked for -/
def forged (l : List Nat) (s : Crc.W) : Crc.W := Crc.uniter 32 (~~~ s) ^^^ Crc.steps (~~~ 0#32) (bv l)
theorem forged_any (s : Crc.W) (A : Option Addr) (cap : Nat) (l : List Nat) (w : World) (hA : Ints w .u8 A l) (hl : l.length ≤ 9223372036854775807) (hb : ∀ x ∈ l, x < 256) :
    Calls Tryd.prog 11 #[.slice A l.length cap, .int .u32 (num s)] w fun e w' => e = .returned (.slice (some ⟨w.heap.size, 0, none⟩) 4 4) ∧ w' = w.alloc (.cells (cellsN .u8 (bytes4 (forged l s))).toArray 5) := by
  have HN := Lib.hid (num_not s)
  go_enter Tryd.func11, Tryd.ntmps11
  go_wp2
  rw [HN.out]
  go_loop [5, 8] (fun v i => ∃ (k : Nat) (x : Crc.W), k ≤ 32 ∧ i = .int .i64 k ∧ v = .int .u32 (num x) ∧ Hid (Crc.uniter (32 - k) x = Crc.uniter 32 (~~~ s))) (fun _ i => 32 - (intOf i).toNat)
  case atStart => exact ⟨0, _, by omega, rfl, rfl, rfl⟩
  case round =>
    obtain ⟨k, x, hk, rfl, rfl, hx⟩ := hrel
    have hxr := num_range x
    by_cases hlt : k < 32
    · go_wp2
      · have ht : (bits .and .u32 (num x) 1 == 1) = true := by assumption
        go_round
        case rel => exact ⟨k + 1, Crc.unsh x, by omega, by go_num, by rw [unsh_yes x ht], uniter_step k x _ hlt hx⟩
        case measure => simp [intOf]; omega
      · have ht : (bits .and .u32 (num x) 1 == 1) = false := by assumption
        go_round
        case rel => exact ⟨k + 1, Crc.unsh x, by omega, by go_num, by rw [unsh_no x ht], uniter_step k x _ hlt hx⟩
        case measure => simp [intOf]; omega
    · have hk8 : 32 - k = 0 := by omega
      have hx' : Crc.uniter (32 - k) x = Crc.uniter 32 (~~~ s) := hx
      rw [hk8] at hx'
      have hf : x ^^^ ~~~ (sumOf 0#32 l) = forged l s := by
        unfold forged sumOf
        rw [← hx', BitVec.not_not]
        rfl
      have h1 : bits .xor .u32 (num x) (bits .xor .u32 IntKind.u32.max (num (sumOf 0#32 l))) = num (forged l s) := by
        rw [num_not, num_xor, hf]
      clear hk8 hx' hf hx
      generalize hy : forged l s = y at h1
      have HY := Lib.hid hy; clear hy
      have hyr := num_range y
      go_wp2_with fail
      refine (spec_any (s := 0#32) rfl _ _ _ l rfl _ hA hl hb).mono ?_
      rintro e w' ⟨rfl, rfl⟩
      go_wp2_with fail
      go_ret
      exact ⟨rfl, by rw [HY.out, ← cells_bytes4]⟩
theorem bv_low (l : List Nat) (hb : ∀ x ∈ l, x < 256) : ∀ b ∈ bv l, ∀ j, 8 ≤ j → b.getLsbD j = false := by
  intro b hb' j hj
  obtain ⟨x, hx, rfl⟩ := List.mem_map.1 hb'
  have := hb x hx
  rw [BitVec.getLsbD_ofNat]
  rw [Nat.testBit_lt_two_pow (Nat.lt_of_lt_of_le this (Nat.pow_le_pow_right (by omega) hj : 2 ^ 8 ≤ 2 ^ j))]
  simp
theorem sum_forged (l : List Nat) (s : Crc.W) : sumOf 0#32 (l ++ bytes4 (forged l s)) = s := by
  have h : Crc.word 4 (bv (bytes4 (forged l s))) = Crc.uniter 32 (~~~ s) ^^^ Crc.steps (~~~ 0#32) (bv l) := word_bytes4 _
  unfold sumOf
  rw [steps_append, Crc.steps_forged _ (~~~ s) _ rfl (bv_low _ (bytes4_lt _)) h, BitVec.not_not]
theorem word_of {s0 : Int} (hs : (Lit.int .u32 s0).wf = true) : ∃ s : Crc.W, s0 = num s := by
  have := wf_range hs
  have e1 : IntKind.u32.max = 4294967295 := by decide
  have e2 : IntKind.u32.min = 0 := by decide
  refine ⟨BitVec.ofNat 32 s0.toNat, ?_⟩
  unfold num
  rw [BitVec.toNat_ofNat, Nat.mod_eq_of_lt (by omega)]
  omega
theorem fnCheckSumForged_walk (A1 : Option Addr) (cap1 : Nat) (z1 : List Int) (s0 : Int) (w : World) (hT : Tab w) (h1 : Arg .u8 w A1 z1 cap1) (hz : z1.length * 1 ≤ 140737488351232) (hs : (Lit.int .u32 s0).wf = true) :
    Calls Tryd.prog 4 #[.slice A1 z1.length cap1, .int .u32 s0] w fun e w' => e = .returned (.bool true) ∧ Below w.heap.size w w' := by
  obtain ⟨l1, hl1, hA1, hb1, hm1⟩ := bytes_of h1
  obtain ⟨s, rfl⟩ := word_of hs
  have n1 : A1 = none → l1 = [] ∧ cap1 = 0 := fun e => ⟨List.eq_nil_of_length_eq_zero (by rw [hl1, (h1.nil e).1]; rfl), (h1.nil e).2⟩
  rw [← hl1] at hz ⊢
  clear hl1 h1 hs
  have S1 := Lib.hid (srcAt_ints cap1 hA1 n1)
  have HB := Lib.hid hb1
  have HF := Lib.hid (sum_forged l1 s)
  clear n1
  go_enter Tryd.func4, Tryd.ntmps4
  go_wp2_with (first
    | (at_builtin; refine app_nat rfl (.const (.slice none 0 0)) (.tmp 5) 22 rfl w.heap.size 5 .u8 1 Tryd.underlying22 infoByte (by omega) (l := []) rfl (Own.nil _ _ _ _) rfl S1.out rfl (by omega) (Nat.le_refl _) ?_; intro A3 cap3 w3 own3 grow3 _; simp only [Nat.zero_add, List.nil_append] at own3 ⊢; have b3 := below_grown_nil grow3)
    | (go_at_call 11; refine (forged_any s _ _ l1 _ (hA1.below b3) hm1 hb1).mono ?_; rintro e w' ⟨rfl, rfl⟩; have b3' := b3.alloc b3.size (.cells (cellsN .u8 (bytes4 (forged l1 s))).toArray 5))
    | (at_builtin; refine app_nat rfl (.tmp 6) (.tmp 9) 22 rfl w.heap.size 5 .u8 1 Tryd.underlying22 infoByte (by omega) rfl (own3.alloc _) rfl (srcAt_new _ _ _ _ _ rfl) rfl (by omega) b3'.size ?_; intro A4 cap4 w4 own4 grow4 _; have b4 := below_grown b3' grow4 b3'.size (fun g hg => (own3.block g hg).1)))
  refine (check_any (s := 0#32) rfl _ _ _ (l1 ++ bytes4 (forged l1 s)) (by simp [bytes4]) _ (hT.below b4) own4.ints (by simp [bytes4]; omega) (by intro x hx; rcases List.mem_append.1 hx with h | h; exact HB.out x h; exact bytes4_lt _ x h)).mono ?_
  rintro e w' ⟨rfl, rfl⟩
  rw [HF.out]
  go_wp2_with fail
  refine (check_any (s := 0#32) rfl _ _ _ [1] rfl _ ((hT.below b4).alloc _) (Ints.one _ .u8 1 _ rfl rfl) (by simp) (by simp)).mono ?_
  rintro e w' ⟨rfl, rfl⟩
  have h1 := sum_one
  go_wp2_with fail
  go_ret
  exact ⟨rfl, b4.alloc b4.size _⟩
end Go.Proofs.YtgledbigkjlbmaaDoor

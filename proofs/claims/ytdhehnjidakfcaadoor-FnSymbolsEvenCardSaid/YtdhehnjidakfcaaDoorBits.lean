/- Bits of bytes, the highest of a byte first; the numbers that they are. -/
namespace Go.Proofs.YtdhehnjidakfcaaDoor.Fld
/-- the bit at a place -/
def bt (l : List Nat) (i : Nat) : Nat := l.getD (i / 8) 0 / 2 ^ (7 - i % 8) % 2
/-- the number that some bits are -/
def fld (l : List Nat) (s : Nat) : Nat → Nat
  | 0 => 0
  | w + 1 => 2 * fld l s w + bt l (s + w)
theorem bt_lt (l : List Nat) (i : Nat) : bt l i < 2 := Nat.mod_lt _ (by omega)
theorem fld_lt (l : List Nat) (s w : Nat) : fld l s w < 2 ^ w := by
  induction w with
  | zero => simp [fld]
  | succ w ih =>
    have := bt_lt l (s + w)
    rw [fld, Nat.pow_succ]; omega
theorem fld_add (l : List Nat) (s a b : Nat) : fld l s (a + b) = fld l s a * 2 ^ b + fld l (s + a) b := by
  induction b with
  | zero => simp [fld]
  | succ b ih =>
    rw [← Nat.add_assoc, fld, ih, fld, Nat.pow_succ, Nat.add_assoc s a b, Nat.mul_add, ← Nat.mul_assoc]
    have : 2 * fld l s a * 2 ^ b = fld l s a * (2 ^ b * 2) := by rw [Nat.mul_comm 2, Nat.mul_assoc, Nat.mul_comm 2]
    rw [this]; omega
theorem bt_at (l : List Nat) (p j y : Nat) (hj : j < 8) (hy : l.getD p 0 = y) : bt l (8 * p + j) = y / 2 ^ (7 - j) % 2 := by
  unfold bt
  have e1 : (8 * p + j) / 8 = p := by omega
  have e2 : (8 * p + j) % 8 = j := by omega
  rw [e1, e2, hy]
theorem fld_part (l : List Nat) (p y : Nat) (hy : l.getD p 0 = y) (hb : y < 256) : ∀ j, j ≤ 8 → fld l (8 * p) j = y / 2 ^ (8 - j) := by
  intro j
  induction j with
  | zero => intro _; rw [fld, Nat.div_eq_of_lt (by simpa using hb)]
  | succ j ih =>
    intro hj
    rw [fld, ih (by omega), bt_at l p j y (by omega) hy, show 8 - j = 7 - j + 1 by omega, show 8 - (j + 1) = 7 - j by omega, Nat.pow_succ, ← Nat.div_div_eq_div_mul]
    omega
theorem fld_byte (l : List Nat) (p : Nat) (hb : l.getD p 0 < 256) : fld l (8 * p) 8 = l.getD p 0 := by
  rw [fld_part l p _ rfl hb 8 (Nat.le_refl _)]
  simp
theorem fld_high (l : List Nat) (s w c : Nat) : fld l s (w + c) / 2 ^ c = fld l s w := by
  rw [fld_add]
  have := fld_lt l (s + w) c
  rw [Nat.mul_comm, Nat.mul_add_div (Nat.pos_of_ne_zero (by have := Nat.two_pow_pos c; omega)), Nat.div_eq_of_lt this, Nat.add_zero]
/-- one byte more in a register of 64 bits -/
theorem reg_byte (l : List Nat) (N b p : Nat) (hb : b + 8 ≤ 64) (hp : b ≤ 8 * p) (hN : N % 2 ^ b = fld l (8 * p - b) b) (hy : l.getD p 0 < 256) :
    ((N * 256) % 2 ^ 64 + l.getD p 0) % 2 ^ (b + 8) = fld l (8 * (p + 1) - (b + 8)) (b + 8) := by
  have e : 8 * (p + 1) - (b + 8) = 8 * p - b := by omega
  rw [e, fld_add, show 8 * p - b + b = 8 * p by omega, fld_byte l p hy, ← hN]
  generalize l.getD p 0 = y at hy
  have h1 : (N * 256) % 2 ^ 64 % 2 ^ (b + 8) = (N * 256) % 2 ^ (b + 8) := Nat.mod_mod_of_dvd _ (Nat.pow_dvd_pow 2 hb)
  have h2 : (N * 256) % 2 ^ (b + 8) = N % 2 ^ b * 2 ^ 8 := by
    rw [Nat.pow_add, show 256 = 2 ^ 8 from rfl, Nat.mul_mod_mul_right]
  rw [Nat.add_mod, h1, h2]
  have hlt : N % 2 ^ b < 2 ^ b := Nat.mod_lt _ (Nat.two_pow_pos b)
  have h3 : N % 2 ^ b * 2 ^ 8 + y < 2 ^ (b + 8) := by rw [Nat.pow_add]; omega
  have hy2 : y % 2 ^ (b + 8) = y := Nat.mod_eq_of_lt (by omega)
  rw [hy2, Nat.mod_eq_of_lt h3]
/-- what is taken of the register -/
theorem reg_take (l : List Nat) (N b s w : Nat) (hw : w ≤ b) (hN : N % 2 ^ b = fld l s b) : N / 2 ^ (b - w) % 2 ^ w = fld l s w := by
  have e1 : fld l s b / 2 ^ (b - w) = fld l s w := by
    have := fld_high l s w (b - w)
    rwa [show w + (b - w) = b by omega] at this
  rw [← e1, ← hN]
  have h1 : (2 : Nat) ^ b = 2 ^ (b - w) * 2 ^ w := by rw [← Nat.pow_add]; congr 1; omega
  rw [h1, Nat.mod_mul_right_div_self]
theorem reg_rest (l : List Nat) (N b s w : Nat) (hw : w ≤ b) (hN : N % 2 ^ b = fld l s b) : N % 2 ^ (b - w) = fld l (s + w) (b - w) := by
  have h := fld_add l s w (b - w)
  rw [show w + (b - w) = b by omega] at h
  have h1 : N % 2 ^ b % 2 ^ (b - w) = N % 2 ^ (b - w) := Nat.mod_mod_of_dvd _ (Nat.pow_dvd_pow 2 (by omega))
  rw [← h1, hN, h, Nat.mul_comm, Nat.mul_add_mod, Nat.mod_eq_of_lt (fld_lt _ _ _)]
end Go.Proofs.YtdhehnjidakfcaaDoor.Fld

namespace Go.Proofs.YtgledbigkjlbmaaDoor.Crc
abbrev W := BitVec 32
def poly : W := 0x04c11db7#32
/-- one bit -/
def sh (x : W) : W := if x.msb then (x <<< 1) ^^^ poly else x <<< 1
def iter : Nat → W → W
  | 0, x => x
  | n + 1, x => iter n (sh x)
/-- one byte into a sum -/
def step (s : W) (b : W) : W := iter 8 (s ^^^ (b <<< 24))
def steps (s : W) (l : List W) : W := l.foldl step s

theorem sh_xor (x y : W) : sh (x ^^^ y) = sh x ^^^ sh y := by
  unfold sh
  rw [BitVec.msb_xor, BitVec.shiftLeft_xor_distrib]
  have h : ∀ a : W, a ^^^ a = 0#32 := fun a => BitVec.xor_self
  cases x.msb <;> cases y.msb <;> simp only [Bool.xor_false, Bool.xor_true, Bool.not_true, Bool.not_false, Bool.false_eq_true, ↓reduceIte]
  · ac_rfl
  · ac_rfl
  · rw [show x <<< 1 ^^^ poly ^^^ (y <<< 1 ^^^ poly) = (x <<< 1 ^^^ y <<< 1) ^^^ (poly ^^^ poly) by ac_rfl, h, BitVec.xor_zero]
theorem iter_xor (n : Nat) : ∀ x y : W, iter n (x ^^^ y) = iter n x ^^^ iter n y := by
  induction n with
  | zero => intro x y; rfl
  | succ n ih => intro x y; simp only [iter, sh_xor, ih]
theorem sh_zero : sh 0#32 = 0#32 := by decide
theorem iter_zero (n : Nat) : iter n 0#32 = 0#32 := by
  induction n with
  | zero => rfl
  | succ n ih => simp only [iter, sh_zero, ih]
theorem iter_add (m n : Nat) : ∀ x, iter (m + n) x = iter n (iter m x) := by
  induction m with
  | zero => intro x; simp [iter]
  | succ m ih => intro x; rw [Nat.succ_add]; simp only [iter, ih]
theorem sh_low (x : W) (h : x.msb = false) : sh x = x <<< 1 := by simp [sh, h]
theorem iter_low (k : Nat) : ∀ x : W, (∀ j, j < k → x.getMsbD j = false) → iter k x = x <<< k := by
  induction k with
  | zero => intro x _; simp [iter]
  | succ k ih =>
    intro x h
    simp only [iter]
    rw [sh_low x (by have := h 0 (by omega); simpa [BitVec.msb] using this), ih]
    · rw [Nat.add_comm, BitVec.shiftLeft_add]
    · intro j hj
      have := h (j + 1) (by omega)
      simp [BitVec.getMsbD_shiftLeft] at this ⊢
      exact this
theorem sh_ker (x : W) (h : sh x = 0#32) : x = 0#32 := by
  unfold sh at h
  split at h
  · exfalso
    have := congrArg (fun y : W => y.getLsbD 0) h
    simp [poly] at this
  · rename_i hm
    apply BitVec.eq_of_getLsbD_eq
    intro i hi
    rw [BitVec.getLsbD_zero]
    by_cases h31 : i = 31
    · subst h31
      have h2 : x.msb = false := by simpa using hm
      rw [BitVec.msb_eq_getLsbD_last] at h2
      exact h2
    · have h2 := congrArg (fun y : W => y.getLsbD (i + 1)) h
      simp only [BitVec.getLsbD_shiftLeft, BitVec.getLsbD_zero] at h2
      have e1 : decide (i + 1 < 32) = true := by simp; omega
      have e2 : decide (i + 1 < 1) = false := by simp
      rw [e1, e2] at h2
      simpa only [Bool.not_false, Bool.true_and, Nat.add_sub_cancel] using h2
theorem iter_ker (n : Nat) : ∀ x : W, iter n x = 0#32 → x = 0#32 := by
  induction n with
  | zero => intro x h; exact h
  | succ n ih => intro x h; exact sh_ker x (ih _ h)
theorem xor_eq_zero {x y : W} (h : x ^^^ y = 0#32) : x = y := by
  have := congrArg (· ^^^ y) h
  simpa [BitVec.xor_assoc] using this
theorem xor4 (a b c d : W) : a ^^^ b ^^^ (c ^^^ d) = (a ^^^ c) ^^^ (b ^^^ d) := by ac_rfl
theorem step_xor (s t a b : W) : step (s ^^^ t) (a ^^^ b) = step s a ^^^ step t b := by
  unfold step
  rw [BitVec.shiftLeft_xor_distrib, xor4, iter_xor]

/-- the table's way -/
def tab (i : W) : W := iter 8 (i <<< 24)
theorem split_high (s b : W) : s ^^^ (b <<< 24) = (((s >>> 24) ^^^ b) <<< 24) ^^^ ((s <<< 8) >>> 8) := by
  apply BitVec.eq_of_getLsbD_eq
  intro i hi
  simp only [BitVec.getLsbD_xor, BitVec.getLsbD_shiftLeft, BitVec.getLsbD_ushiftRight]
  have h32 : decide (i < 32) = true := by simpa using hi
  by_cases h : i < 24
  · have e1 : decide (i < 24) = true := by simpa using h
    have e2 : decide (8 + i < 32) = true := by simp; omega
    have e3 : decide (8 + i < 8) = false := by simp
    have e4 : 8 + i - 8 = i := by omega
    rw [h32, e1, e2, e3, e4]
    simp only [Bool.not_true, Bool.and_false, Bool.false_and, Bool.not_false, Bool.true_and, Bool.xor_false, Bool.false_xor]
  · have e1 : decide (i < 24) = false := by simpa using h
    have e2 : decide (8 + i < 32) = false := by simp; omega
    have e4 : 24 + (i - 24) = i := by omega
    rw [h32, e1, e2, e4]
    simp only [Bool.false_and, Bool.not_false, Bool.true_and, Bool.xor_false]
theorem low_back (s : W) : ((s <<< 8) >>> 8) <<< 8 = s <<< 8 := by
  apply BitVec.eq_of_getLsbD_eq
  intro i hi
  simp only [BitVec.getLsbD_shiftLeft, BitVec.getLsbD_ushiftRight]
  by_cases h : i < 8
  · have e1 : decide (i < 8) = true := by simpa using h
    rw [e1]; simp only [Bool.not_true, Bool.and_false, Bool.false_and]
  · have e4 : 8 + (i - 8) = i := by omega
    rw [e4]
    cases decide (i < 32) <;> cases decide (i < 8) <;> simp
theorem step_tab (s b : W) : step s b = tab ((s >>> 24) ^^^ b) ^^^ (s <<< 8) := by
  unfold step tab
  rw [split_high, iter_xor]
  congr 1
  rw [iter_low, low_back]
  intro j hj
  rw [BitVec.getMsbD_eq_getLsbD, BitVec.getLsbD_ushiftRight, BitVec.getLsbD_shiftLeft]
  have e : decide (8 + (32 - 1 - j) < 32) = false := by simp; omega
  rw [e]; simp only [Bool.false_and, Bool.and_false]

/-- three texts -/
theorem steps_three : ∀ (a b c : List W) (s t u : W), a.length = b.length → b.length = c.length →
    steps (s ^^^ t ^^^ u) ((a.zip (b.zip c)).map fun x => x.1 ^^^ x.2.1 ^^^ x.2.2) = steps s a ^^^ steps t b ^^^ steps u c := by
  intro a
  induction a with
  | nil => intro b c s t u h1 h2; cases b <;> cases c <;> simp_all [steps]
  | cons x a ih =>
    intro b c s t u h1 h2
    match b, c, h1, h2 with
    | y :: b, z :: c, h1, h2 =>
      simp only [List.zip_cons_cons, List.map_cons, steps, List.foldl_cons]
      rw [step_xor, step_xor]
      exact ih b c _ _ _ (by simpa using h1) (by simpa using h2)

/-- four bytes undo -/
def unsh (x : W) : W := if x.getLsbD 0 then ((x ^^^ poly) >>> 1) ||| BitVec.twoPow 32 31 else x >>> 1
theorem sh_unsh (x : W) : sh (unsh x) = x := by
  unfold unsh
  split
  · rename_i h
    have hm : (((x ^^^ poly) >>> 1) ||| BitVec.twoPow 32 31).msb = true := by
      rw [BitVec.msb_or, show (BitVec.twoPow 32 31).msb = true by decide, Bool.or_true]
    unfold sh
    rw [hm, if_pos rfl]
    apply BitVec.eq_of_getLsbD_eq
    intro i hi
    have hp : poly.getLsbD 0 = true := by decide
    have h32 : decide (i < 32) = true := by simpa using hi
    simp only [BitVec.getLsbD_xor, BitVec.getLsbD_shiftLeft, BitVec.getLsbD_or, BitVec.getLsbD_ushiftRight, BitVec.getLsbD_twoPow]
    rw [h32]
    by_cases h0 : i = 0
    · subst h0
      rw [hp, h]
      rfl
    · have e1 : 1 + (i - 1) = i := by omega
      have e2 : decide (i < 1) = false := by simp; omega
      have e3 : decide (31 = i - 1) = false := by simp; omega
      rw [e1, e2, e3]
      cases x.getLsbD i <;> cases poly.getLsbD i <;> rfl
  · rename_i h
    have hm : (x >>> 1).msb = false := by simp
    rw [sh_low _ hm]
    apply BitVec.eq_of_getLsbD_eq
    intro i hi
    have h32 : decide (i < 32) = true := by simpa using hi
    simp only [BitVec.getLsbD_shiftLeft, BitVec.getLsbD_ushiftRight]
    rw [h32]
    by_cases h0 : i = 0
    · subst h0
      cases hx : x.getLsbD 0
      · rfl
      · exact absurd hx h
    · have e1 : 1 + (i - 1) = i := by omega
      have e2 : decide (i < 1) = false := by simp; omega
      rw [e1, e2]; cases x.getLsbD i <;> rfl
def uniter : Nat → W → W
  | 0, x => x
  | n + 1, x => uniter n (unsh x)
theorem iter_snoc (n : Nat) : ∀ x, iter (n + 1) x = sh (iter n x) := by
  intro x; rw [iter_add]; rfl
theorem iter_uniter (n : Nat) : ∀ x, iter n (uniter n x) = x := by
  induction n with
  | zero => intro x; rfl
  | succ n ih => intro x; rw [iter_snoc]; simp only [uniter]; rw [ih, sh_unsh]

/-- what some bytes are as a word, of so many bytes -/
def word : Nat → List W → W
  | 0, _ => 0#32
  | _ + 1, [] => 0#32
  | n + 1, b :: l => (b <<< (8 * n)) ^^^ word n l
theorem iter_32 (x : W) : iter 32 x = iter 8 (iter 8 (iter 8 (iter 8 x))) := by rw [← iter_add, ← iter_add, ← iter_add]
/-- so many bytes taken as a word, at the top -/
theorem steps_word : ∀ (l : List W) (s : W), l.length = 4 → (∀ b ∈ l, ∀ j, 8 ≤ j → b.getLsbD j = false) → steps s l = iter 32 (s ^^^ word 4 l) := by
  intro l s hl hb
  match l, hl with
  | [a, b, c, d], _ =>
    have low : ∀ (x : W) (k m : Nat), (∀ j, 8 ≤ j → x.getLsbD j = false) → m + 8 + k ≤ 32 → iter k (x <<< m) = x <<< (m + k) := by
      intro x k m hx hk
      rw [iter_low, BitVec.shiftLeft_add]
      intro j hj
      rw [BitVec.getMsbD_eq_getLsbD, BitVec.getLsbD_shiftLeft, hx _ (by omega)]
      simp
    have ha := hb a (by simp)
    have hb' := hb b (by simp)
    have hc := hb c (by simp)
    have hd := hb d (by simp)
    simp only [steps, List.foldl_cons, List.foldl_nil, step, word]
    rw [iter_32]
    simp only [iter_xor]
    rw [low b 8 16 hb' (by omega), low c 8 8 hc (by omega), low c 8 16 hc (by omega), low d 8 0 hd (by omega), low d 8 8 hd (by omega), low d 8 16 hd (by omega)]
    simp only [iter_zero, BitVec.xor_zero]
    simp only [BitVec.xor_assoc]
theorem steps_forged (s x : W) (l : List W) (h : l.length = 4) (hb : ∀ b ∈ l, ∀ j, 8 ≤ j → b.getLsbD j = false) (hw : word 4 l = uniter 32 x ^^^ s) : steps s l = x := by
  rw [steps_word l s h hb, hw, show s ^^^ (uniter 32 x ^^^ s) = uniter 32 x ^^^ (s ^^^ s) by ac_rfl, BitVec.xor_self, BitVec.xor_zero, iter_uniter]
theorem iter_inj (n : Nat) (x y : W) (h : iter n x = iter n y) : x = y := by
  apply xor_eq_zero
  apply iter_ker n
  rw [iter_xor, h, BitVec.xor_self]
theorem step_inj (s t b : W) (h : step s b = step t b) : s = t := by
  have := iter_inj 8 _ _ h
  apply xor_eq_zero
  have h2 := congrArg (· ^^^ (t ^^^ (b <<< 24))) this
  simp only [BitVec.xor_self] at h2
  rw [← h2, xor4, BitVec.xor_self, BitVec.xor_zero]
theorem steps_inj : ∀ (l : List W) (s t : W), steps s l = steps t l → s = t := by
  intro l
  induction l with
  | nil => intro s t h; exact h
  | cons b l ih => intro s t h; exact step_inj s t b (ih _ _ h)
theorem word_inj (l m : List W) (hl : l.length = 4) (hm : m.length = 4) (hbl : ∀ b ∈ l, ∀ j, 8 ≤ j → b.getLsbD j = false) (hbm : ∀ b ∈ m, ∀ j, 8 ≤ j → b.getLsbD j = false)
    (h : word 4 l = word 4 m) : l = m := by
  have key : ∀ l : List W, l.length = 4 → (∀ b ∈ l, ∀ j, 8 ≤ j → b.getLsbD j = false) → ∀ k (hk : k < 4) j, j < 8 → (word 4 l).getLsbD (8 * (3 - k) + j) = (l.getD k 0#32).getLsbD j := by
    intro l hl hb k hk j hj
    match l, hl with
    | [a, b, c, d], _ =>
      have ha := hb a (by simp)
      have hb' := hb b (by simp)
      have hc := hb c (by simp)
      have hd := hb d (by simp)
      simp only [word, BitVec.getLsbD_xor, BitVec.getLsbD_shiftLeft, BitVec.getLsbD_zero]
      match k, hk with
      | 0, _ =>
        have e1 : decide (8 * 3 + j < 32) = true := by simp; omega
        have e2 : decide (8 * 3 + j < 8 * 3) = false := by simp
        simp only [Nat.sub_zero, e1, e2, hb' (8 * 3 + j - 8 * 2) (by omega), hc (8 * 3 + j - 8 * 1) (by omega), hd (8 * 3 + j - 8 * 0) (by omega), Bool.and_false, Bool.xor_false, Bool.not_false, Bool.true_and, Nat.add_sub_cancel_left, List.getD_cons_zero]
      | 1, _ =>
        have e1 : decide (8 * 2 + j < 32) = true := by simp; omega
        have e2 : decide (8 * 2 + j < 8 * 2) = false := by simp
        have e3 : decide (8 * 2 + j < 8 * 3) = true := by simp; omega
        simp only [show 3 - 1 = 2 from rfl, e1, e2, e3, hc (8 * 2 + j - 8 * 1) (by omega), hd (8 * 2 + j - 8 * 0) (by omega), Bool.and_false, Bool.false_and, Bool.xor_false, Bool.false_xor, Bool.not_false, Bool.not_true, Bool.true_and, Nat.add_sub_cancel_left, List.getD_cons_succ, List.getD_cons_zero]
      | 2, _ =>
        have e1 : decide (8 * 1 + j < 32) = true := by simp; omega
        have e2 : decide (8 * 1 + j < 8 * 1) = false := by simp
        have e3 : decide (8 * 1 + j < 8 * 3) = true := by simp; omega
        have e4 : decide (8 * 1 + j < 8 * 2) = true := by simp; omega
        simp only [show 3 - 2 = 1 from rfl, e1, e2, e3, e4, hd (8 * 1 + j - 8 * 0) (by omega), Bool.and_false, Bool.false_and, Bool.xor_false, Bool.false_xor, Bool.not_false, Bool.not_true, Bool.true_and, Nat.add_sub_cancel_left, List.getD_cons_succ, List.getD_cons_zero]
      | 3, _ =>
        have e1 : decide (8 * 0 + j < 32) = true := by simp; omega
        have e2 : decide (8 * 0 + j < 8 * 0) = false := by simp
        have e3 : decide (8 * 0 + j < 8 * 3) = true := by simp; omega
        have e4 : decide (8 * 0 + j < 8 * 2) = true := by simp; omega
        have e5 : decide (8 * 0 + j < 8 * 1) = true := by simp; omega
        simp only [show 3 - 3 = 0 from rfl, e1, e2, e3, e4, e5, Bool.and_false, Bool.false_and, Bool.xor_false, Bool.false_xor, Bool.not_false, Bool.not_true, Bool.true_and, Nat.add_sub_cancel_left, List.getD_cons_succ, List.getD_cons_zero]
  apply List.ext_getElem (by omega)
  intro k h1 h2
  apply BitVec.eq_of_getLsbD_eq
  intro j hj
  by_cases h8 : j < 8
  · have a1 := key l hl hbl k (by omega) j h8
    have a2 := key m hm hbm k (by omega) j h8
    rw [h] at a1
    have a3 := a1.symm.trans a2
    simpa [List.getD_eq_getElem?_getD, List.getElem?_eq_getElem h1, List.getElem?_eq_getElem h2] using a3
  · rw [hbl _ (List.getElem_mem h1) j (by omega), hbm _ (List.getElem_mem h2) j (by omega)]
/-- other bytes within four: another sum -/
theorem steps_window (p q r u : List W) (s : W) (hl : q.length = r.length) (h4 : q.length ≤ 4) (hbq : ∀ b ∈ q, ∀ j, 8 ≤ j → b.getLsbD j = false) (hbr : ∀ b ∈ r, ∀ j, 8 ≤ j → b.getLsbD j = false)
    (h : steps s (p ++ (q ++ u)) = steps s (p ++ (r ++ u))) : q = r := by
  have app : ∀ (s : W) (l m : List W), steps s (l ++ m) = steps (steps s l) m := fun s l m => List.foldl_append
  rw [app, app, app, app] at h
  have h1 := steps_inj _ _ _ h
  have z0 : ∀ b ∈ List.replicate (4 - q.length) (0#32 : W), ∀ j, 8 ≤ j → b.getLsbD j = false := by
    intro b hb j _
    rw [(List.mem_replicate.1 hb).2, BitVec.getLsbD_zero]
  have h2 : steps (steps s p) (q ++ List.replicate (4 - q.length) 0#32) = steps (steps s p) (r ++ List.replicate (4 - q.length) 0#32) := by
    rw [app, app, h1]
  have bq : ∀ b ∈ q ++ List.replicate (4 - q.length) (0#32 : W), ∀ j, 8 ≤ j → b.getLsbD j = false := by
    intro b hb
    rcases List.mem_append.1 hb with hb | hb
    · exact hbq b hb
    · exact z0 b hb
  have br : ∀ b ∈ r ++ List.replicate (4 - q.length) (0#32 : W), ∀ j, 8 ≤ j → b.getLsbD j = false := by
    intro b hb
    rcases List.mem_append.1 hb with hb | hb
    · exact hbr b hb
    · exact z0 b hb
  rw [steps_word _ _ (by simp; omega) bq, steps_word _ _ (by simp; omega) br] at h2
  have h3 := iter_inj _ _ _ h2
  have h4' : word 4 (q ++ List.replicate (4 - q.length) 0#32) = word 4 (r ++ List.replicate (4 - q.length) 0#32) := by
    have := congrArg (steps s p ^^^ ·) h3
    simpa only [← BitVec.xor_assoc, BitVec.xor_self, BitVec.zero_xor] using this
  exact List.append_cancel_right (word_inj _ _ (by simp; omega) (by simp; omega) bq br h4')
end Go.Proofs.YtgledbigkjlbmaaDoor.Crc

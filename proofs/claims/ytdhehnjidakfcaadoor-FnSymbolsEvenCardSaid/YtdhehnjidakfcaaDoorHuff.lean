namespace Go.Proofs.YtdhehnjidakfcaaDoor.Huff
/-- a tree: left where the bit is 1 -/
inductive T where
  | leaf (v : Nat)
  | node (l r : T)
def T.at : T → List Bool → Option T
  | t, [] => some t
  | .leaf _, _ :: _ => none
  | .node l r, b :: p => if b then l.at p else r.at p
/-- one symbol -/
def T.dec : T → List Bool → Option (Nat × List Bool)
  | .leaf v, B => some (v, B)
  | .node _ _, [] => none
  | .node l r, b :: B => if b then l.dec B else r.dec B
/-- the number that bits are -/
def val (p : List Bool) : Nat := p.foldl (fun n b => 2 * n + b.toNat) 0
theorem val_snoc (p : List Bool) (b : Bool) : val (p ++ [b]) = 2 * val p + b.toNat := by simp [val]
theorem foldl_val (p : List Bool) : ∀ n, p.foldl (fun n b => 2 * n + b.toNat) n = n * 2 ^ p.length + val p := by
  induction p with
  | nil => intro n; simp [val]
  | cons b p ih =>
    intro n
    have h1 := ih (2 * n + b.toNat)
    have h2 := ih (2 * 0 + b.toNat)
    simp only [List.foldl_cons, List.length_cons, val] at *
    rw [h1, h2, Nat.pow_succ, Nat.add_mul, Nat.add_mul]
    have : 2 * n * 2 ^ p.length = n * (2 ^ p.length * 2) := by rw [Nat.mul_comm 2 n, Nat.mul_assoc, Nat.mul_comm 2]
    omega
theorem val_cons (b : Bool) (p : List Bool) : val (b :: p) = b.toNat * 2 ^ p.length + val p := by
  have := foldl_val p (2 * 0 + b.toNat)
  simpa [val] using this
theorem val_lt (p : List Bool) : val p < 2 ^ p.length := by
  induction p with
  | nil => simp [val]
  | cons b p ih =>
    rw [val_cons, List.length_cons, Nat.pow_succ]
    cases b <;> simp <;> omega

/-- a code: its bits from the highest of 32 on, how many, its symbol -/
structure E where
  code : Nat
  len : Nat
  sym : Nat
  deriving DecidableEq
def E.size (e : E) : Nat := 2 ^ (32 - e.len)
/-- codes that lie one behind the other, over so much room -/
def Tiles : Nat → Nat → List E → Prop
  | _, tot, [] => tot = 0
  | base, tot, e :: cs => e.code = base ∧ base % e.size = 0 ∧ e.size ≤ tot ∧ Tiles (base + e.size) (tot - e.size) cs
theorem size_pos (e : E) : 0 < e.size := Nat.two_pow_pos _
theorem Tiles.range : ∀ {cs : List E} {base tot : Nat}, Tiles base tot cs → ∀ e ∈ cs, base ≤ e.code ∧ e.code + e.size ≤ base + tot := by
  intro cs
  induction cs with
  | nil => intro _ _ _ e he; cases he
  | cons c cs ih =>
    intro base tot h e he
    obtain ⟨h1, _, h3, h4⟩ := h
    rcases List.mem_cons.1 he with rfl | he
    · omega
    · have := ih h4 e he
      have := size_pos c
      omega
theorem Tiles.split (k m : Nat) : ∀ (cs : List E) (base tot : Nat), Tiles base tot cs → (∀ e ∈ cs, 32 - e.len ≤ k) → m % 2 ^ k = 0 → base ≤ m → m ≤ base + tot →
    Tiles base (m - base) (cs.takeWhile fun e => decide (e.code < m)) ∧ Tiles m (base + tot - m) (cs.dropWhile fun e => decide (e.code < m)) := by
  intro cs
  induction cs with
  | nil =>
    intro base tot h _ _ h1 h2
    simp only [Tiles] at h
    simp only [List.takeWhile_nil, List.dropWhile_nil, Tiles]
    omega
  | cons c cs ih =>
    intro base tot h hk hm h1 h2
    obtain ⟨e1, e2, e3, e4⟩ := h
    by_cases hb : base < m
    · have hd : decide (c.code < m) = true := by simp; omega
      have hdv : m % c.size = 0 := by
        have hle : 32 - c.len ≤ k := hk c (by simp)
        have : c.size ∣ 2 ^ k := Nat.pow_dvd_pow 2 hle
        exact Nat.mod_eq_zero_of_dvd (Nat.dvd_trans this (Nat.dvd_of_mod_eq_zero hm))
      have hle : base + c.size ≤ m := by
        obtain ⟨a, ha⟩ := Nat.dvd_of_mod_eq_zero e2
        obtain ⟨b, hb'⟩ := Nat.dvd_of_mod_eq_zero hdv
        have hab : a < b := by
          rw [ha, hb'] at hb
          exact Nat.lt_of_mul_lt_mul_left hb
        have : c.size * (a + 1) ≤ c.size * b := Nat.mul_le_mul_left _ hab
        rw [Nat.mul_add] at this
        omega
      have := ih (base + c.size) (tot - c.size) e4 (fun e he => hk e (List.mem_cons_of_mem _ he)) hm hle (by omega)
      rw [List.takeWhile_cons, List.dropWhile_cons, hd]
      simp only [if_true]
      refine ⟨⟨e1, e2, by omega, ?_⟩, ?_⟩
      · have e : m - base - c.size = m - (base + c.size) := by omega
        rw [e]; exact this.1
      · have e : base + tot - m = base + c.size + (tot - c.size) - m := by omega
        rw [e]; exact this.2
    · have hmb : m = base := by omega
      subst hmb
      have hd : decide (c.code < m) = false := by simp; omega
      rw [List.takeWhile_cons, List.dropWhile_cons, hd]
      simp only [Bool.false_eq_true, if_false]
      refine ⟨?_, ?_⟩
      · simp [Tiles]
      · have e : m + tot - m = tot := by omega
        rw [e]; exact ⟨e1, e2, e3, e4⟩
/-- two codes at least: none is wider than a half -/
theorem Tiles.small (k base : Nat) (c d : E) (cs : List E) (h : Tiles base (2 ^ (k + 1)) (c :: d :: cs)) : ∀ e ∈ c :: d :: cs, 32 - e.len ≤ k := by
  obtain ⟨h1, _, h3, h4⟩ := h
  have hd := h4.range d (by simp)
  have key : ∀ e : E, e.size < 2 ^ (k + 1) → 32 - e.len ≤ k := by
    intro e he
    have := (Nat.pow_lt_pow_iff_right (a := 2) (by omega)).1 he
    omega
  intro e he
  apply key
  have pc := size_pos c
  have pd := size_pos d
  rcases List.mem_cons.1 he with rfl | he
  · omega
  · have := h4.range e he
    omega
/-- the tree of codes that lie one behind the other from base on, over 2^k -/
def build : Nat → Nat → List E → T
  | _, _, [] => .leaf 0
  | _, _, [e] => .leaf e.sym
  | 0, _, e :: _ :: _ => .leaf e.sym
  | k + 1, base, e :: d :: cs =>
    .node (build k base ((e :: d :: cs).takeWhile fun e => decide (e.code < base + 2 ^ k))) (build k (base + 2 ^ k) ((e :: d :: cs).dropWhile fun e => decide (e.code < base + 2 ^ k)))
/-- both halves hold codes -/
theorem Tiles.halves (k base : Nat) (c d : E) (cs : List E) (h : Tiles base (2 ^ (k + 1)) (c :: d :: cs)) (hb : base % 2 ^ (k + 1) = 0) :
    Tiles base (2 ^ k) ((c :: d :: cs).takeWhile fun e => decide (e.code < base + 2 ^ k)) ∧ Tiles (base + 2 ^ k) (2 ^ k) ((c :: d :: cs).dropWhile fun e => decide (e.code < base + 2 ^ k)) ∧
      base % 2 ^ k = 0 ∧ (base + 2 ^ k) % 2 ^ k = 0 := by
  have hs := Tiles.small k base c d cs h
  have hp : 2 ^ (k + 1) = 2 ^ k * 2 := Nat.pow_succ ..
  have hb' : base % 2 ^ k = 0 := by
    apply Nat.mod_eq_zero_of_dvd
    exact Nat.dvd_trans ⟨2, hp⟩ (Nat.dvd_of_mod_eq_zero hb)
  have hm : (base + 2 ^ k) % 2 ^ k = 0 := by rw [Nat.add_mod_right]; exact hb'
  have := Tiles.split k (base + 2 ^ k) (c :: d :: cs) base (2 ^ (k + 1)) h hs hm (by omega) (by omega)
  refine ⟨?_, ?_, hb', hm⟩
  · have e : base + 2 ^ k - base = 2 ^ k := by omega
    rw [e] at this; exact this.1
  · have e : base + 2 ^ (k + 1) - (base + 2 ^ k) = 2 ^ k := by omega
    rw [e] at this; exact this.2
theorem Tiles.ne_nil {base tot : Nat} {cs : List E} (h : Tiles base tot cs) (ht : 0 < tot) : cs ≠ [] := by
  intro e; subst e; simp only [Tiles] at h; omega
theorem Tiles.one {base k : Nat} {e : E} (h : Tiles base (2 ^ k) [e]) (hl : e.len ≤ 32) (_hk : k ≤ 32) : e.code = base ∧ e.len + k = 32 := by
  obtain ⟨h1, _, h3, h4⟩ := h
  refine ⟨h1, ?_⟩
  simp only [Tiles] at h4
  have : e.size = 2 ^ k := by omega
  have := (Nat.pow_right_inj (by omega : 1 < 2)).1 this
  omega
theorem size_of (e : E) (n k : Nat) (h : e.len = n + (32 - k)) (hl : e.len ≤ 32) (hk : k ≤ 32) : 2 ^ n * e.size = 2 ^ k := by
  unfold E.size
  rw [← Nat.pow_add]
  congr 1
  omega
theorem build_at : ∀ (k base : Nat) (cs : List E), Tiles base (2 ^ k) cs → base % 2 ^ k = 0 → (∀ e ∈ cs, e.len ≤ 32) → k ≤ 32 →
    ∀ (p : List Bool) (v : Nat), (build k base cs).at p = some (.leaf v) ↔ ∃ e ∈ cs, e.sym = v ∧ e.len = p.length + (32 - k) ∧ e.code = base + (2 ^ p.length - 1 - val p) * e.size := by
  intro k
  induction k with
  | zero =>
    intro base cs h hb hl hk p v
    match cs with
    | [] => exact absurd rfl (h.ne_nil (by omega))
    | e :: d :: cs =>
      exfalso
      obtain ⟨_, _, h3, h4⟩ := h
      have := h4.range d (by simp)
      have := size_pos e
      have := size_pos d
      omega
    | [e] =>
      have h1 := h.one (hl e (by simp)) hk
      match p with
      | [] =>
        simp only [build, T.at, Option.some.injEq, T.leaf.injEq, List.mem_singleton, exists_eq_left, List.length_nil, val, List.foldl_nil]
        constructor
        · intro hv; exact ⟨hv, by omega, by simp [h1.1]⟩
        · exact fun h => h.1
      | b :: p =>
        simp only [build, T.at, List.mem_singleton, exists_eq_left, List.length_cons]
        constructor
        · intro hv; cases hv
        · intro ⟨_, h2, _⟩; omega
  | succ k ih =>
    intro base cs h hb hl hk p v
    match cs with
    | [] => exact absurd rfl (h.ne_nil (Nat.two_pow_pos _))
    | [e] =>
      have h1 := h.one (hl e (by simp)) hk
      match p with
      | [] =>
        simp only [build, T.at, Option.some.injEq, T.leaf.injEq, List.mem_singleton, exists_eq_left, List.length_nil, val, List.foldl_nil]
        constructor
        · intro hv; exact ⟨hv, by omega, by simp [h1.1]⟩
        · exact fun h => h.1
      | b :: p =>
        simp only [build, T.at, List.mem_singleton, exists_eq_left, List.length_cons]
        constructor
        · intro hv; cases hv
        · intro ⟨_, h2, _⟩; omega
    | e :: d :: cs =>
      have hs := Tiles.small k base e d cs h
      obtain ⟨hL, hR, hb1, hb2⟩ := Tiles.halves k base e d cs h hb
      simp only [build]
      generalize e :: d :: cs = l at h hl hs hL hR ⊢
      have hsplit : ∀ x, x ∈ l ↔ x ∈ l.takeWhile (fun e => decide (e.code < base + 2 ^ k)) ∨ x ∈ l.dropWhile (fun e => decide (e.code < base + 2 ^ k)) := by
        intro x
        rw [← List.mem_append, List.takeWhile_append_dropWhile]
      generalize l.takeWhile (fun e => decide (e.code < base + 2 ^ k)) = lL at hL hsplit ⊢
      generalize l.dropWhile (fun e => decide (e.code < base + 2 ^ k)) = lR at hR hsplit ⊢
      have hp2 : 2 ^ (k + 1) = 2 ^ k * 2 := Nat.pow_succ ..
      match p with
      | [] =>
        simp only [T.at, Option.some.injEq, reduceCtorEq, false_iff, not_exists, not_and, List.length_nil]
        intro x hx _ h2 _
        have := hs x hx
        omega
      | b :: p =>
        have hv := val_lt p
        have hpp : 2 ^ (p.length + 1) = 2 ^ p.length * 2 := Nat.pow_succ ..
        have key : ∀ x ∈ l, x.len = (b :: p).length + (32 - (k + 1)) → x.len = p.length + (32 - k) ∧ 2 ^ p.length * x.size = 2 ^ k ∧ (2 ^ p.length - 1 - val p) * x.size + x.size ≤ 2 ^ k := by
          intro x hx h1
          rw [List.length_cons] at h1
          have h2 : x.len = p.length + (32 - k) := by omega
          have h3 := size_of x p.length k h2 (hl x hx) (by omega)
          refine ⟨h2, h3, ?_⟩
          rw [← h3]
          have h4 : (2 ^ p.length - 1 - val p) * x.size + x.size = (2 ^ p.length - 1 - val p + 1) * x.size := by rw [Nat.add_mul, Nat.one_mul]
          rw [h4]
          exact Nat.mul_le_mul_right _ (by omega)
        cases b with
        | true =>
          simp only [T.at, if_true]
          rw [ih base lL hL hb1 (fun x hx => hl x ((hsplit x).2 (.inl hx))) (by omega) p v]
          have e1 : 2 ^ (true :: p).length - 1 - val (true :: p) = 2 ^ p.length - 1 - val p := by
            rw [val_cons, List.length_cons, hpp]; simp; omega
          rw [e1]
          constructor
          · rintro ⟨x, hx, h1, h2, h3⟩
            exact ⟨x, (hsplit x).2 (.inl hx), h1, by rw [List.length_cons]; omega, h3⟩
          · rintro ⟨x, hx, h1, h2, h3⟩
            obtain ⟨k1, k2, k3⟩ := key x hx h2
            refine ⟨x, ?_, h1, k1, h3⟩
            rcases (hsplit x).1 hx with hx | hx
            · exact hx
            · have := (hR.range x hx).1
              have := size_pos x
              omega
        | false =>
          simp only [T.at, Bool.false_eq_true, if_false]
          rw [ih (base + 2 ^ k) lR hR hb2 (fun x hx => hl x ((hsplit x).2 (.inr hx))) (by omega) p v]
          have e1 : 2 ^ (false :: p).length - 1 - val (false :: p) = 2 ^ p.length + (2 ^ p.length - 1 - val p) := by
            rw [val_cons, List.length_cons, hpp]; simp; omega
          rw [e1]
          constructor
          · rintro ⟨x, hx, h1, h2, h3⟩
            refine ⟨x, (hsplit x).2 (.inr hx), h1, by rw [List.length_cons]; omega, ?_⟩
            obtain ⟨k1, k2, k3⟩ := key x ((hsplit x).2 (.inr hx)) (by rw [List.length_cons]; omega)
            rw [Nat.add_mul, k2]; omega
          · rintro ⟨x, hx, h1, h2, h3⟩
            obtain ⟨k1, k2, k3⟩ := key x hx h2
            rw [Nat.add_mul, k2] at h3
            refine ⟨x, ?_, h1, k1, by omega⟩
            rcases (hsplit x).1 hx with hx | hx
            · have := (hL.range x hx).2
              have := size_pos x
              omega
            · exact hx
end Go.Proofs.YtdhehnjidakfcaaDoor.Huff

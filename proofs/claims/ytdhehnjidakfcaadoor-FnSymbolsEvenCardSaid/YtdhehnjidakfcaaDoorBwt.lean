namespace Go.Proofs.YtdhehnjidakfcaaDoor.Bwt
theorem map_getD (l : List Nat) : (List.range l.length).map (fun a => l.getD a 0) = l := by
  apply List.ext_getElem
  · simp
  · intro i h1 h2
    simp [List.getD_eq_getElem?_getD, List.getElem?_eq_getElem h2]
theorem countP_range (l : List Nat) (p : Nat → Bool) : (List.range l.length).countP (fun a => p (l.getD a 0)) = l.countP p := by
  have h := congrArg (List.countP p) (map_getD l)
  rw [List.countP_map] at h
  exact h
theorem getD_take (l : List Nat) (k a : Nat) (h : a < k) : (l.take k).getD a 0 = l.getD a 0 := by
  simp [List.getD_eq_getElem?_getD, h]
theorem countP_take (l : List Nat) (p : Nat → Bool) (k : Nat) (hk : k ≤ l.length) : (List.range l.length).countP (fun a => p (l.getD a 0) && decide (a < k)) = (l.take k).countP p := by
  have h1 := countP_range (l.take k) p
  have hlen : (l.take k).length = k := by simp; omega
  rw [hlen] at h1
  rw [← h1]
  obtain ⟨m, hm⟩ : ∃ m, l.length = k + m := ⟨l.length - k, by omega⟩
  rw [hm, List.range_add, List.countP_append, List.countP_map]
  have h2 : (List.range m).countP ((fun a => p (l.getD a 0) && decide (a < k)) ∘ fun x => k + x) = 0 := by
    rw [List.countP_eq_zero]
    intro a _
    simp
  rw [h2, Nat.add_zero]
  apply List.countP_congr
  intro a ha
  have := List.mem_range.1 ha
  rw [getD_take l k a this]
  simp [this]

/-- row a stands ahead of row k by its byte -/
def ahead (l : List Nat) (a k : Nat) : Bool := decide (l.getD a 0 < l.getD k 0) || (l.getD a 0 == l.getD k 0 && decide (a < k))
/-- the place of row k in the column of sorted bytes: how many bytes are less, and how many like it stand ahead -/
def pos (l : List Nat) (k : Nat) : Nat := l.countP (fun x => decide (x < l.getD k 0)) + (l.take k).countP (fun x => x == l.getD k 0)
theorem countP_or (p q : Nat → Bool) (h : ∀ a, p a = true → q a = false) (r : List Nat) : r.countP (fun a => p a || q a) = r.countP p + r.countP q := by
  induction r with
  | nil => rfl
  | cons a r ih =>
    simp only [List.countP_cons, ih]
    cases hp : p a
    · simp; omega
    · rw [h a hp]; simp; omega
theorem pos_eq (l : List Nat) (k : Nat) (hk : k ≤ l.length) : pos l k = (List.range l.length).countP (fun a => ahead l a k) := by
  have h1 := countP_range l (fun x => decide (x < l.getD k 0))
  have h2 := countP_take l (fun x => x == l.getD k 0) k hk
  unfold pos ahead
  rw [← h1, ← h2]
  exact (countP_or (fun a => decide (l.getD a 0 < l.getD k 0)) (fun a => l.getD a 0 == l.getD k 0 && decide (a < k)) (by
    intro a ha
    have : (l.getD a 0 == l.getD k 0) = false := by simp at ha ⊢; omega
    rw [this]; rfl) _).symm
theorem ahead_irrefl (l : List Nat) (a : Nat) : ahead l a a = false := by simp [ahead]
theorem ahead_trans (l : List Nat) (a b c : Nat) (h : ahead l a b = true) (k : ahead l b c = true) : ahead l a c = true := by
  simp only [ahead, Bool.or_eq_true, Bool.and_eq_true, decide_eq_true_eq, beq_iff_eq] at *
  omega
theorem ahead_total (l : List Nat) (a b : Nat) (h : a ≠ b) : ahead l a b = true ∨ ahead l b a = true := by
  simp only [ahead, Bool.or_eq_true, Bool.and_eq_true, decide_eq_true_eq, beq_iff_eq]
  omega
/-- the rows in the order of their bytes -/
def order (l : List Nat) : List Nat := (List.range l.length).mergeSort fun a b => !ahead l b a
theorem order_perm (l : List Nat) : (order l).Perm (List.range l.length) := List.mergeSort_perm _ _
theorem order_length (l : List Nat) : (order l).length = l.length := by simpa using (order_perm l).length_eq
theorem order_nodup (l : List Nat) : (order l).Nodup := (order_perm l).symm.nodup List.nodup_range
theorem order_sorted (l : List Nat) : (order l).Pairwise fun a b => ahead l a b = true := by
  have h1 : (order l).Pairwise fun a b => (!ahead l b a) = true := by
    apply List.pairwise_mergeSort
    · intro a b c h k
      simp only [ahead, Bool.not_eq_true', Bool.or_eq_false_iff, Bool.and_eq_false_iff, decide_eq_false_iff_not, beq_eq_false_iff_ne] at *
      omega
    · intro a b
      simp only [ahead, Bool.or_eq_true, Bool.not_eq_true', Bool.or_eq_false_iff, Bool.and_eq_false_iff, decide_eq_false_iff_not, beq_eq_false_iff_ne]
      omega
  have h2 := order_nodup l
  exact (List.Pairwise.and h1 h2).imp fun {a b} ⟨x, y⟩ => by
    rcases ahead_total l a b y with h | h
    · exact h
    · rw [h] at x; cases x
theorem order_lt (l : List Nat) (i : Nat) (h : i < (order l).length) : (order l)[i] < l.length := by
  have := (order_perm l).mem_iff.1 (List.getElem_mem h)
  simpa using this
theorem pos_order (l : List Nat) (i : Nat) (h : i < (order l).length) : pos l (order l)[i] = i := by
  rw [pos_eq l _ (Nat.le_of_lt (order_lt l i h)), ← (order_perm l).countP_eq]
  have hs := order_sorted l
  generalize order l = L at h hs ⊢
  have e : L = L.take i ++ L[i] :: L.drop (i + 1) := by
    rw [List.getElem_cons_drop, List.take_append_drop]
  have hs' := hs
  rw [e, List.pairwise_append] at hs'
  obtain ⟨_, h2, h3⟩ := hs'
  rw [List.pairwise_cons] at h2
  have e2 := congrArg (List.countP fun a => ahead l a L[i]) e
  rw [e2, List.countP_append, List.countP_cons]
  have c1 : (L.take i).countP (fun a => ahead l a L[i]) = (L.take i).length := List.countP_eq_length.2 fun a ha => h3 a ha _ List.mem_cons_self
  have c2 : (L.drop (i + 1)).countP (fun a => ahead l a L[i]) = 0 := by
    rw [List.countP_eq_zero]
    intro a ha
    have := h2.1 a ha
    intro hc
    have := ahead_trans l _ _ _ hc this
    rw [ahead_irrefl] at this; cases this
  rw [c1, c2, ahead_irrefl]
  simp; omega
theorem pos_inj (l : List Nat) {a b : Nat} (ha : a < l.length) (hb : b < l.length) (h : pos l a = pos l b) : a = b := by
  have ia : a ∈ order l := (order_perm l).mem_iff.2 (by simpa using ha)
  have ib : b ∈ order l := (order_perm l).mem_iff.2 (by simpa using hb)
  obtain ⟨i, hi, ea⟩ := List.getElem_of_mem ia
  obtain ⟨j, hj, eb⟩ := List.getElem_of_mem ib
  have p1 := pos_order l i hi
  have p2 := pos_order l j hj
  rw [ea] at p1; rw [eb] at p2
  have : i = j := by omega
  subst this
  exact ea.symm.trans eb
theorem order_pos (l : List Nat) (k : Nat) (hk : k < l.length) : (order l).getD (pos l k) 0 = k := by
  have ia : k ∈ order l := (order_perm l).mem_iff.2 (by simpa using hk)
  obtain ⟨i, hi, ea⟩ := List.getElem_of_mem ia
  have p1 := pos_order l i hi
  rw [ea] at p1
  rw [p1]
  simp [List.getD_eq_getElem?_getD, List.getElem?_eq_getElem hi, ea]
theorem pos_lt (l : List Nat) (k : Nat) (hk : k < l.length) : pos l k < l.length := by
  have ia : k ∈ order l := (order_perm l).mem_iff.2 (by simpa using hk)
  obtain ⟨i, hi, ea⟩ := List.getElem_of_mem ia
  have p1 := pos_order l i hi
  rw [ea] at p1
  rw [p1, ← order_length l]; exact hi

/-- the rows laid place by place -/
def laid (l : List Nat) : Nat → List Nat
  | 0 => List.replicate l.length 0
  | k + 1 => (laid l k).set (pos l k) k
theorem laid_length (l : List Nat) (k : Nat) : (laid l k).length = l.length := by
  induction k with
  | zero => simp [laid]
  | succ k ih => simp [laid, ih]
theorem laid_at (l : List Nat) : ∀ k, k ≤ l.length → ∀ j, j < l.length → (laid l k).getD j 0 = if (order l).getD j 0 < k then (order l).getD j 0 else 0 := by
  intro k
  induction k with
  | zero => intro _ j hj; simp [laid, List.getD_eq_getElem?_getD, hj]
  | succ k ih =>
    intro hk j hj
    have hjo : j < (order l).length := by rw [order_length]; exact hj
    have ej : (order l).getD j 0 = (order l)[j] := by simp [List.getD_eq_getElem?_getD, List.getElem?_eq_getElem hjo]
    simp only [laid]
    by_cases e : pos l k = j
    · have : (order l).getD j 0 = k := by rw [← e]; exact order_pos l k (by omega)
      rw [this, if_pos (by omega)]
      rw [List.getD_eq_getElem?_getD, e, List.getElem?_set_self (by rw [laid_length]; exact hj)]
      rfl
    · have ne : (order l).getD j 0 ≠ k := by
        intro h
        apply e
        rw [← h, ej]
        exact pos_order l j hjo
      have ih' := ih (by omega) j hj
      rw [List.getD_eq_getElem?_getD, List.getElem?_set_ne e, ← List.getD_eq_getElem?_getD, ih']
      by_cases h : (order l).getD j 0 < k
      · rw [if_pos h, if_pos (by omega)]
      · rw [if_neg h, if_neg (by omega)]
/-- the place that is laid next is still empty -/
theorem laid_fresh (l : List Nat) (k : Nat) (hk : k < l.length) : (laid l k).getD (pos l k) 0 = 0 := by
  rw [laid_at l k (by omega) _ (pos_lt l k hk), order_pos l k hk, if_neg (by omega)]
theorem laid_order (l : List Nat) : laid l l.length = order l := by
  apply List.ext_getElem
  · rw [laid_length, order_length]
  · intro i h1 h2
    have hi : i < l.length := by rw [← laid_length l l.length]; exact h1
    have := laid_at l l.length (Nat.le_refl _) i hi
    have ej : (order l).getD i 0 = (order l)[i] := by simp [List.getD_eq_getElem?_getD, List.getElem?_eq_getElem h2]
    rw [ej, if_pos (order_lt l i h2), List.getD_eq_getElem?_getD, List.getElem?_eq_getElem h1] at this
    exact this

/-- the walk through the rows -/
def back (nx l : List Nat) : Nat → Nat → List Nat
  | 0, _ => []
  | m + 1, k => l.getD (nx.getD k 0) 0 :: back nx l m (nx.getD k 0)
theorem back_length (nx l : List Nat) : ∀ m k, (back nx l m k).length = m := by
  intro m
  induction m with
  | zero => intro k; rfl
  | succ m ih => intro k; simp [back, ih]

/-- the rotation of a text from a place on -/
def rot (T : List Nat) (i : Nat) : List Nat := (List.range T.length).map fun t => T.getD ((i + t) % T.length) 0
theorem rot_length (T : List Nat) (i : Nat) : (rot T i).length = T.length := by simp [rot]
theorem rot_at (T : List Nat) (i t : Nat) (h : t < T.length) : (rot T i).getD t 0 = T.getD ((i + t) % T.length) 0 := by
  simp [rot, List.getD_eq_getElem?_getD, h]
theorem rot_zero (T : List Nat) : rot T 0 = T := by
  apply List.ext_getElem
  · rw [rot_length]
  · intro i h1 h2
    have := rot_at T 0 i h2
    rw [Nat.zero_add, Nat.mod_eq_of_lt h2] at this
    simpa [List.getD_eq_getElem?_getD, List.getElem?_eq_getElem h1, List.getElem?_eq_getElem h2] using this
theorem rot_mod (T : List Nat) (i : Nat) : rot T (i % T.length) = rot T i := by
  simp [rot, Nat.add_mod]
/-- one place further on -/
theorem rot_succ (T : List Nat) (p q : Nat) (hT : 0 < T.length) (h : rot T p = rot T q) : rot T (p + 1) = rot T (q + 1) := by
  apply List.ext_getElem
  · rw [rot_length, rot_length]
  · intro t h1 h2
    rw [rot_length] at h1
    have e : ∀ p, (rot T (p + 1)).getD t 0 = if t + 1 = T.length then (rot T p).getD 0 0 else (rot T p).getD (t + 1) 0 := by
      intro p
      rw [rot_at T (p + 1) t h1]
      by_cases ht : t + 1 = T.length
      · rw [if_pos ht, rot_at T p 0 hT]
        congr 1
        have : p + 1 + t = p + 0 + T.length := by omega
        rw [this, Nat.add_mod_right]
      · rw [if_neg ht, rot_at T p (t + 1) (by omega)]
        congr 2
        omega
    have := (e p).trans ((congrArg (fun l : List Nat => if t + 1 = T.length then l.getD 0 0 else l.getD (t + 1) 0) h).trans (e q).symm)
    simpa [List.getD_eq_getElem?_getD, rot_length, h1] using this
/-- the place ahead -/
def pred (n p : Nat) : Nat := (p + n - 1) % n
theorem rot_pred (T : List Nat) (p : Nat) (hp : p < T.length) : rot T (pred T.length p) = T.getD (pred T.length p) 0 :: (rot T p).take (T.length - 1) := by
  have hn : 0 < T.length := by omega
  apply List.ext_getElem
  · rw [rot_length]; simp [rot_length]; omega
  · intro t h1 h2
    rw [rot_length] at h1
    have e := rot_at T (pred T.length p) t h1
    have hq : pred T.length p < T.length := Nat.mod_lt _ hn
    match t with
    | 0 =>
      rw [Nat.add_zero, Nat.mod_eq_of_lt hq] at e
      simpa [List.getD_eq_getElem?_getD, rot_length, h1, hn] using e
    | t + 1 =>
      have e2 := rot_at T p t (by omega)
      have e3 : (pred T.length p + (t + 1)) % T.length = (p + t) % T.length := by
        unfold pred
        rw [Nat.mod_add_mod]
        have : p + T.length - 1 + (t + 1) = (p + t) + T.length := by omega
        rw [this, Nat.add_mod_right]
      rw [e3, ← e2] at e
      have h3 : t < T.length := by omega
      have h4 : t + 1 < T.length := h1
      simpa [List.getD_eq_getElem?_getD, rot_length, h3, h4] using e
theorem take_le : ∀ (k : Nat) (l m : List Nat), l ≤ m → k ≤ l.length → k ≤ m.length → l.take k ≤ m.take k := by
  intro k
  induction k with
  | zero => intro l m _ _ _; simp
  | succ k ih =>
    intro l m h hl hm
    match l, m, hl, hm with
    | a :: l, b :: m, hl, hm =>
      rw [List.take_succ_cons, List.take_succ_cons, List.cons_le_cons_iff]
      rw [List.cons_le_cons_iff] at h
      rcases h with h | ⟨h1, h2⟩
      · exact .inl h
      · exact .inr ⟨h1, ih l m h2 (by simpa using hl) (by simpa using hm)⟩
theorem pred_perm (n : Nat) : ((List.range n).map (pred n)).Perm (List.range n) := by
  match n with
  | 0 => exact .refl _
  | n + 1 =>
    have e : (List.range (n + 1)).map (pred (n + 1)) = n :: List.range n := by
      apply List.ext_getElem
      · simp
      · intro i h1 h2
        simp at h1
        match i with
        | 0 =>
          simp only [List.getElem_map, List.getElem_range, List.getElem_cons_zero, pred]
          rw [Nat.zero_add, Nat.add_sub_cancel, Nat.mod_eq_of_lt (by omega)]
        | i + 1 =>
          simp only [List.getElem_map, List.getElem_range, List.getElem_cons_succ, pred]
          have : i + 1 + (n + 1) - 1 = i + (n + 1) := by omega
          rw [this, Nat.add_mod_right, Nat.mod_eq_of_lt (by omega)]
    rw [e, List.range_succ]
    exact (List.perm_append_singleton n (List.range n)).symm
/-- THE TRANSFORM UNDONE: P are the places of all rotations, in their order; l their last bytes -/
theorem rows_next (T P : List Nat) (hP : P.Perm (List.range T.length)) (hs : P.Pairwise fun a b => rot T a ≤ rot T b) (l : List Nat) (hl : l = P.map fun p => T.getD (pred T.length p) 0)
    (i : Nat) (hi : i < T.length) : rot T (P.getD i 0) = rot T (pred T.length (P.getD ((order l).getD i 0) 0)) := by
  have hPl : P.length = T.length := by simpa using hP.length_eq
  have hll : l.length = T.length := by rw [hl]; simpa using hPl
  have hPlt : ∀ j, j < T.length → P.getD j 0 < T.length := by
    intro j hj
    have : P.getD j 0 = P[j]'(by omega) := by simp [List.getD_eq_getElem?_getD, List.getElem?_eq_getElem (show j < P.length by omega)]
    rw [this]
    have := hP.mem_iff.1 (List.getElem_mem (show j < P.length by omega))
    simpa using this
  have hlat : ∀ j, j < T.length → l.getD j 0 = T.getD (pred T.length (P.getD j 0)) 0 := by
    intro j hj
    rw [hl]
    simp [List.getD_eq_getElem?_getD, List.getElem?_eq_getElem (show j < P.length by omega)]
  have hpair : ∀ a b, a < b → b < T.length → rot T (P.getD a 0) ≤ rot T (P.getD b 0) := by
    intro a b hab hb
    rw [List.pairwise_iff_getElem] at hs
    have := hs a b (by omega) (by omega) hab
    simpa [List.getD_eq_getElem?_getD, List.getElem?_eq_getElem (show a < P.length by omega), List.getElem?_eq_getElem (show b < P.length by omega)] using this
  have key : P.map (rot T) = (order l).map fun a => rot T (pred T.length (P.getD a 0)) := by
    apply List.Perm.eq_of_pairwise (le := fun a b => a ≤ b)
    · intro a b _ _ h1 h2
      exact List.le_antisymm h1 h2
    · rw [List.pairwise_map]
      exact hs
    · rw [List.pairwise_map, List.pairwise_iff_getElem]
      intro x y hx hy hxy
      have os := order_sorted l
      rw [List.pairwise_iff_getElem] at os
      have hah := os x y hx hy hxy
      have ha := order_lt l x hx
      have hb := order_lt l y hy
      generalize (order l)[x] = a at ha hah ⊢
      generalize (order l)[y] = b at hb hah ⊢
      rw [rot_pred T _ (hPlt a (by omega)), rot_pred T _ (hPlt b (by omega)), ← hlat a (by omega), ← hlat b (by omega), List.cons_le_cons_iff]
      simp only [ahead, Bool.or_eq_true, Bool.and_eq_true, decide_eq_true_eq, beq_iff_eq] at hah
      rcases hah with h | ⟨h1, h2⟩
      · exact .inl h
      · refine .inr ⟨h1, take_le _ _ _ (hpair a b h2 (by omega)) ?_ ?_⟩ <;> rw [rot_length] <;> omega
    · have p1 : ((order l).map fun a => rot T (pred T.length (P.getD a 0))).Perm ((List.range T.length).map fun a => rot T (pred T.length (P.getD a 0))) := by
        have := (order_perm l).map fun a => rot T (pred T.length (P.getD a 0))
        rwa [hll] at this
      have e1 : ((List.range T.length).map fun a => rot T (pred T.length (P.getD a 0))) = (P.map (pred T.length)).map (rot T) := by
        have := map_getD P
        rw [hPl] at this
        conv => rhs; rw [← this]
        simp
      have p2 : ((P.map (pred T.length)).map (rot T)).Perm ((List.range T.length).map (rot T)) := ((hP.map _).trans (pred_perm _)).map _
      exact (hP.map _).trans ((p1.trans (by rw [e1]; exact p2)).symm)
  have k1 := congrArg (fun l : List (List Nat) => l.getD i []) key
  have hio : i < (order l).length := by rw [order_length]; omega
  simpa [List.getD_eq_getElem?_getD, List.getElem?_eq_getElem (show i < P.length by omega), List.getElem?_eq_getElem hio] using k1
theorem rot_of_pred (T : List Nat) (p : Nat) (hp : p < T.length) : rot T (pred T.length p + 1) = rot T p := by
  rw [← rot_mod T (pred T.length p + 1)]
  congr 1
  unfold pred
  rw [Nat.mod_add_mod]
  have : p + T.length - 1 + 1 = p + T.length := by omega
  rw [this, Nat.add_mod_right, Nat.mod_eq_of_lt hp]
theorem back_rot (T P : List Nat) (hP : P.Perm (List.range T.length)) (hs : P.Pairwise fun a b => rot T a ≤ rot T b) (l : List Nat) (hl : l = P.map fun p => T.getD (pred T.length p) 0) (s : Nat) :
    ∀ m k t, k < T.length → rot T (P.getD k 0) = rot T (s + t) → back (order l) l m k = (List.range m).map fun j => T.getD ((s + t + j) % T.length) 0 := by
  have hPl : P.length = T.length := by simpa using hP.length_eq
  have hll : l.length = T.length := by rw [hl]; simpa using hPl
  intro m
  induction m with
  | zero => intro k t _ _; rfl
  | succ m ih =>
    intro k t hk hr
    have hT : 0 < T.length := by omega
    have hko : k < (order l).length := by rw [order_length]; omega
    have ek : (order l).getD k 0 = (order l)[k] := by simp [List.getD_eq_getElem?_getD, List.getElem?_eq_getElem hko]
    have hk' : (order l).getD k 0 < T.length := by rw [ek]; have := order_lt l k hko; omega
    have h1 := rows_next T P hP hs l hl k hk
    generalize hkk : (order l).getD k 0 = k' at hk' h1
    have hp' : P.getD k' 0 < T.length := by
      have : P.getD k' 0 = P[k']'(by omega) := by simp [List.getD_eq_getElem?_getD, List.getElem?_eq_getElem (show k' < P.length by omega)]
      rw [this]
      have := hP.mem_iff.1 (List.getElem_mem (show k' < P.length by omega))
      simpa using this
    have h2 : rot T (P.getD k' 0) = rot T (s + (t + 1)) := by
      rw [← rot_of_pred T _ hp']
      exact rot_succ T _ _ hT (h1.symm.trans hr)
    have h3 : l.getD k' 0 = T.getD ((s + t) % T.length) 0 := by
      have e1 : l.getD k' 0 = T.getD (pred T.length (P.getD k' 0)) 0 := by
        rw [hl]
        simp [List.getD_eq_getElem?_getD, List.getElem?_eq_getElem (show k' < P.length by omega)]
      have hq : pred T.length (P.getD k' 0) < T.length := Nat.mod_lt _ hT
      have e2 := rot_at T (pred T.length (P.getD k' 0)) 0 hT
      rw [Nat.add_zero, Nat.mod_eq_of_lt hq] at e2
      have e3 := rot_at T (s + t) 0 hT
      rw [Nat.add_zero] at e3
      rw [e1, ← e2, ← h1, hr, e3]
    simp only [back, hkk]
    rw [h3, ih k' (t + 1) hk' h2, List.range_succ_eq_map, List.map_cons, List.map_map]
    congr 1
    apply List.map_congr_left
    intro j _
    simp only [Function.comp]
    congr 2
    omega
/-- THE TRANSFORM IS UNDONE: from the row of the rotation at s on, the text comes from s on -/
theorem back_text (T P : List Nat) (hP : P.Perm (List.range T.length)) (hs : P.Pairwise fun a b => rot T a ≤ rot T b) (l : List Nat) (hl : l = P.map fun p => T.getD (pred T.length p) 0)
    (k : Nat) (hk : k < T.length) : back (order l) l T.length k = rot T (P.getD k 0) := by
  rw [back_rot T P hP hs l hl (P.getD k 0) T.length k 0 hk rfl]
  rfl
theorem rot_eq (T : List Nat) (k : Nat) (hk : k ≤ T.length) : rot T k = T.drop k ++ T.take k := by
  apply List.ext_getElem
  · rw [rot_length]; simp; omega
  · intro t h1 h2
    rw [rot_length] at h1
    have e := rot_at T k t h1
    have e1 : (rot T k)[t]'(by rw [rot_length]; exact h1) = T.getD ((k + t) % T.length) 0 := by
      simpa [List.getD_eq_getElem?_getD, rot_length, h1] using e
    rw [e1]
    by_cases h : t < T.length - k
    · rw [Nat.mod_eq_of_lt (by omega), List.getElem_append_left (by simp; omega)]
      simp [List.getD_eq_getElem?_getD, show k + t < T.length by omega]
    · rw [List.getElem_append_right (by simp; omega)]
      have : (k + t) % T.length = t - (T.length - k) := by
        rw [show k + t = t - (T.length - k) + T.length by omega, Nat.add_mod_right, Nat.mod_eq_of_lt (by omega)]
      rw [this]
      simp [List.getD_eq_getElem?_getD, show t - (T.length - k) < T.length by omega]
theorem merge_pairwise (R : Nat → Nat → Prop) (lt : Nat → Nat → Bool) (h1 : ∀ a b, lt a b = true → R a b) (h2 : ∀ a b, lt a b = false → R b a) (ht : ∀ a b c, R a b → R b c → R a c) :
    ∀ (n : Nat) (xs ys : List Nat), xs.length + ys.length = n → xs.Pairwise R → ys.Pairwise R → (xs.merge ys lt).Pairwise R := by
  intro n
  induction n with
  | zero =>
    intro xs ys hn _ _
    have hx : xs = [] := List.eq_nil_of_length_eq_zero (by omega)
    have hy : ys = [] := List.eq_nil_of_length_eq_zero (by omega)
    subst hx; subst hy; simp
  | succ n ih =>
    intro xs ys hn hx hy
    match xs, ys, hn, hx, hy with
    | [], ys, _, _, hy => simpa using hy
    | x :: xs, [], _, hx, _ => simpa using hx
    | x :: xs, y :: ys, hn, hx, hy =>
      rw [List.pairwise_cons] at hx hy
      rw [List.cons_merge_cons]
      by_cases hlt : lt x y = true
      · rw [if_pos hlt, List.pairwise_cons]
        refine ⟨fun a ha => ?_, ih xs (y :: ys) (by simp at hn ⊢; omega) hx.2 (List.pairwise_cons.2 hy)⟩
        have := (List.merge_perm_append lt).mem_iff.1 ha
        rcases List.mem_append.1 this with h | h
        · exact hx.1 a h
        · rcases List.mem_cons.1 h with h | h
          · subst h; exact h1 _ _ hlt
          · exact ht _ _ _ (h1 _ _ hlt) (hy.1 a h)
      · rw [if_neg hlt, List.pairwise_cons]
        have hlf : lt x y = false := by simpa using hlt
        refine ⟨fun a ha => ?_, ih (x :: xs) ys (by simp at hn ⊢; omega) (List.pairwise_cons.2 hx) hy.2⟩
        have := (List.merge_perm_append lt).mem_iff.1 ha
        rcases List.mem_append.1 this with h | h
        · rcases List.mem_cons.1 h with h | h
          · subst h; exact h2 _ _ hlf
          · exact ht _ _ _ (h2 _ _ hlf) (hx.1 a h)
        · exact hy.1 a h
/-- the rotation from i on comes before that from k on -/
def before (T : List Nat) (i k : Nat) : Bool := decide (rot T i < rot T k) || (rot T i == rot T k && decide (i < k))
/-- halves sorted, and merged -/
def msort (T : List Nat) : Nat → List Nat → List Nat
  | 0, l => l
  | f + 1, l => if l.length < 2 then l else (msort T f (l.take (l.length / 2))).merge (msort T f (l.drop (l.length / 2))) (before T)
theorem msort_perm (T : List Nat) : ∀ f l, (msort T f l).Perm l := by
  intro f
  induction f with
  | zero => intro l; exact .refl _
  | succ f ih =>
    intro l
    simp only [msort]
    split
    · exact .refl _
    · refine (List.merge_perm_append _).trans (((ih _).append (ih _)).trans ?_)
      rw [List.take_append_drop]
theorem msort_length (T : List Nat) (f : Nat) (l : List Nat) : (msort T f l).length = l.length := (msort_perm T f l).length_eq
theorem msort_sorted (T : List Nat) : ∀ f l, l.length ≤ 2 ^ f → (msort T f l).Pairwise fun a b => rot T a ≤ rot T b := by
  intro f
  induction f with
  | zero =>
    intro l h
    match l, h with
    | [], _ => simp [msort]
    | [a], _ => simp [msort]
    | a :: b :: l, h => simp at h
  | succ f ih =>
    intro l h
    simp only [msort]
    split
    · match l with
      | [] => simp
      | [a] => simp
      | a :: b :: l => rename_i h2; simp at h2; omega
    · rw [Nat.pow_succ] at h
      refine merge_pairwise _ _ ?_ ?_ ?_ _ _ _ rfl (ih _ (by simp; omega)) (ih _ (by simp; omega))
      · intro a b hab
        simp only [before, Bool.or_eq_true, Bool.and_eq_true, decide_eq_true_eq, beq_iff_eq] at hab
        rcases hab with h | h
        · exact List.le_of_lt h
        · rw [h.1]; exact List.le_refl _
      · intro a b hab
        simp only [before, Bool.or_eq_false_iff, decide_eq_false_iff_not] at hab
        exact List.not_lt.1 hab.1
      · intro a b c h1 h2
        exact List.le_trans h1 h2
end Go.Proofs.YtdhehnjidakfcaaDoor.Bwt

import Derived.Test.YtdhehnjidakfcaaDoorBwt
import Derived.Test.YtdhehnjidakfcaaDoorHuff
namespace Go.Proofs.YtdhehnjidakfcaaDoor.Huff
open Bwt (order ahead)
/-- the room of a symbol -/
def sz (L : List Nat) (j : Nat) : Nat := 2 ^ (32 - L.getD j 0)
def sums (L : List Nat) (r : List Nat) : Nat := (r.map (sz L)).sum
/-- the codes of the decompressor: the longest ones first -/
def asc (L : List Nat) : Nat → List Nat → List E
  | _, [] => []
  | base, i :: r => ⟨base, L.getD i 0, i⟩ :: asc L (base + sz L i) r
theorem sums_append (L r s : List Nat) : sums L (r ++ s) = sums L r + sums L s := by simp [sums]
theorem mem_asc (L : List Nat) (e : E) : ∀ (r : List Nat) (base : Nat), e ∈ asc L base r ↔ ∃ r1 v r2, r = r1 ++ v :: r2 ∧ e = ⟨base + sums L r1, L.getD v 0, v⟩ := by
  intro r
  induction r with
  | nil =>
    intro base
    simp only [asc, List.not_mem_nil, false_iff, not_exists, not_and]
    intro r1 v r2 h
    cases r1 <;> cases h
  | cons i r ih =>
    intro base
    simp only [asc, List.mem_cons, ih]
    constructor
    · rintro (h | ⟨r1, v, r2, h1, h2⟩)
      · exact ⟨[], i, r, rfl, by rw [h]; simp [sums]⟩
      · refine ⟨i :: r1, v, r2, by rw [h1]; rfl, ?_⟩
        rw [h2]; simp [sums, Nat.add_assoc]
    · rintro ⟨r1, v, r2, h1, h2⟩
      match r1 with
      | [] =>
        left
        simp only [List.nil_append, List.cons.injEq] at h1
        rw [h2, h1.1]; simp [sums]
      | x :: r1 =>
        right
        simp only [List.cons_append, List.cons.injEq] at h1
        refine ⟨r1, v, r2, h1.2, ?_⟩
        rw [h2, ← h1.1]; simp [sums, Nat.add_assoc]
theorem tiles_asc (L : List Nat) (top : Nat) : ∀ (r : List Nat) (base : Nat), base + sums L r = top → (∀ j ∈ r, sz L j ∣ top) → r.Pairwise (fun i j => L.getD j 0 ≤ L.getD i 0) → Tiles base (sums L r) (asc L base r) := by
  intro r
  induction r with
  | nil => intro base _ _ _; simp [asc, Tiles, sums]
  | cons i r ih =>
    intro base h hd hp
    rw [List.pairwise_cons] at hp
    have e : sums L (i :: r) = sz L i + sums L r := by simp [sums]
    simp only [asc, Tiles]
    have es : E.size ⟨base, L.getD i 0, i⟩ = sz L i := rfl
    rw [es, e]
    refine ⟨trivial, ?_, by omega, ?_⟩
    · have hr : sz L i ∣ sums L r := by
        have : ∀ s : List Nat, (∀ j ∈ s, L.getD j 0 ≤ L.getD i 0) → sz L i ∣ sums L s := by
          intro s
          induction s with
          | nil => intro _; simp [sums]
          | cons j s ihs =>
            intro hj
            have e2 : sums L (j :: s) = sz L j + sums L s := by simp [sums]
            rw [e2]
            have := hj j (by simp)
            exact Nat.dvd_add (Nat.pow_dvd_pow 2 (by omega)) (ihs fun k hk => hj k (by simp [hk]))
        exact this r hp.1
      have ht : sz L i ∣ base + (sz L i + sums L r) := by rw [← e, h]; exact hd i (by simp)
      have h2 : sz L i ∣ sz L i + sums L r := Nat.dvd_add (Nat.dvd_refl _) hr
      exact Nat.mod_eq_zero_of_dvd ((Nat.dvd_add_left h2).1 ht)
    · rw [Nat.add_sub_cancel_left]
      exact ih _ (by omega) (fun j hj => hd j (by simp [hj])) hp.2

/-- the published codes: of so many bits the first number -/
def start (L : List Nat) : Nat → Nat
  | 0 => 0
  | b + 1 => 2 * (start L b + L.countP (· == b))
/-- a symbol's number -/
def code (L : List Nat) (i : Nat) : Nat := start L (L.getD i 0) + (L.take i).countP (· == L.getD i 0)

theorem sum_or (L : List Nat) (p q : Nat → Bool) (h : ∀ a, p a = true → q a = false) (r : List Nat) : sums L (r.filter fun a => p a || q a) = sums L (r.filter p) + sums L (r.filter q) := by
  induction r with
  | nil => rfl
  | cons a r ih =>
    simp only [List.filter_cons]
    cases hp : p a
    · cases hq : q a
      · simpa using ih
      · simp [sums] at ih ⊢; omega
    · rw [h a hp]; simp [sums] at ih ⊢; omega
theorem sum_const (L : List Nat) (s : Nat) (r : List Nat) (h : ∀ a ∈ r, sz L a = s) : sums L r = r.length * s := by
  induction r with
  | nil => simp [sums]
  | cons a r ih =>
    have := ih fun b hb => h b (by simp [hb])
    have ha := h a (by simp)
    simp only [sums, List.map_cons, List.sum_cons, List.length_cons] at this ⊢
    rw [this, ha, Nat.add_mul, Nat.one_mul, Nat.add_comm]
theorem sum_less (L : List Nat) : ∀ b, b ≤ 32 → sums L ((List.range L.length).filter fun a => decide (L.getD a 0 < b)) = start L b * 2 ^ (32 - b) := by
  intro b
  induction b with
  | zero =>
    intro _
    have : ((List.range L.length).filter fun a => decide (L.getD a 0 < 0)) = [] := by simp
    rw [this]; simp [sums, start]
  | succ b ih =>
    intro hb
    have e1 : ((List.range L.length).filter fun a => decide (L.getD a 0 < b + 1)) = (List.range L.length).filter fun a => (decide (L.getD a 0 < b)) || (L.getD a 0 == b) := by
      apply List.filter_congr
      intro a _
      rw [Bool.eq_iff_iff]; simp; omega
    rw [e1, sum_or L _ _ (by intro a ha; simp at ha ⊢; omega), ih (by omega)]
    rw [sum_const L (2 ^ (32 - b)) _ (by
      intro a ha
      have := (List.mem_filter.1 ha).2
      simp only [beq_iff_eq] at this
      simp only [sz, this]), ← List.countP_eq_length_filter, Bwt.countP_range L (· == b)]
    simp only [start]
    have hp : 2 ^ (32 - b) = 2 ^ (32 - (b + 1)) * 2 := by rw [← Nat.pow_succ]; congr 1; omega
    rw [hp, ← Nat.add_mul, Nat.mul_comm 2, Nat.mul_assoc, Nat.mul_comm 2]
/-- the room of all symbols ahead of one -/
theorem sum_ahead (L : List Nat) (hL : ∀ x ∈ L, 1 ≤ x ∧ x ≤ 32) (v : Nat) (hv : v < L.length) : sums L ((List.range L.length).filter fun a => ahead L a v) = code L v * sz L v := by
  unfold ahead
  rw [sum_or L (fun a => decide (L.getD a 0 < L.getD v 0)) (fun a => L.getD a 0 == L.getD v 0 && decide (a < v)) (by intro a ha; simp at ha ⊢; omega)]
  have hLv : L.getD v 0 ≤ 32 := by
    have : L.getD v 0 = L[v] := by simp [List.getD_eq_getElem?_getD, List.getElem?_eq_getElem hv]
    rw [this]; exact (hL _ (List.getElem_mem hv)).2
  rw [sum_less L _ hLv]
  rw [sum_const L (sz L v) _ (by
    intro a ha
    have := (List.mem_filter.1 ha).2
    simp only [Bool.and_eq_true, beq_iff_eq] at this
    simp only [sz, this.1]), ← List.countP_eq_length_filter, Bwt.countP_take L (· == L.getD v 0) v (by omega)]
  unfold code
  rw [Nat.add_mul]
  rfl

/-- A FULL CODE's TREE: at a road lies a symbol just where the road is its published code -/
theorem tree_at (L : List Nat) (hL : ∀ x ∈ L, 1 ≤ x ∧ x ≤ 32) (hfull : sums L (List.range L.length) = 2 ^ 32) (p : List Bool) (v : Nat) :
    (build 32 0 (asc L 0 (order L).reverse)).at p = some (.leaf v) ↔ v < L.length ∧ L.getD v 0 = p.length ∧ code L v = val p := by
  have hperm := Bwt.order_perm L
  have hsum : sums L (order L) = 2 ^ 32 := by
    rw [← hfull]; exact (hperm.map (sz L)).sum_nat
  have hrev : sums L (order L).reverse = 2 ^ 32 := by
    rw [← hsum]; exact ((List.reverse_perm (order L)).map (sz L)).sum_nat
  have hmem : ∀ j, j ∈ order L ↔ j < L.length := by
    intro j; rw [hperm.mem_iff]; simp
  have hget : ∀ j, j < L.length → 1 ≤ L.getD j 0 ∧ L.getD j 0 ≤ 32 := by
    intro j hj
    have : L.getD j 0 = L[j] := by simp [List.getD_eq_getElem?_getD, List.getElem?_eq_getElem hj]
    rw [this]; exact hL _ (List.getElem_mem hj)
  have hT : Tiles 0 (2 ^ 32) (asc L 0 (order L).reverse) := by
    have := tiles_asc L (2 ^ 32) (order L).reverse 0 (by omega) (by
      intro j _
      exact Nat.pow_dvd_pow 2 (by omega)) (by
      rw [List.pairwise_reverse]
      refine (Bwt.order_sorted L).imp fun {a b} h => ?_
      simp only [ahead, Bool.or_eq_true, Bool.and_eq_true, decide_eq_true_eq, beq_iff_eq] at h
      omega)
    rwa [hrev] at this
  rw [build_at 32 0 _ hT (by simp) (by
    intro e he
    obtain ⟨r1, w, r2, h1, h2⟩ := (mem_asc L e _ _).1 he
    rw [h2]
    have : w ∈ order L := by
      rw [← List.mem_reverse, h1]; simp
    exact (hget w ((hmem w).1 this)).2) (Nat.le_refl _) p v]
  -- the room ahead of v, v's own, and behind v
  have key : ∀ r1 w r2, (order L).reverse = r1 ++ w :: r2 → w < L.length ∧ sums L r1 + sz L w + code L w * sz L w = 2 ^ 32 := by
    intro r1 w r2 h
    have hw : w ∈ order L := by rw [← List.mem_reverse, h]; simp
    have hw' := (hmem w).1 hw
    refine ⟨hw', ?_⟩
    have ho : order L = r2.reverse ++ w :: r1.reverse := by
      have := congrArg List.reverse h
      simpa using this
    have hs := Bwt.order_sorted L
    rw [ho, List.pairwise_append, List.pairwise_cons] at hs
    have hf : (order L).filter (fun a => ahead L a w) = r2.reverse := by
      rw [ho, List.filter_append, List.filter_cons, Bwt.ahead_irrefl]
      have f1 : r2.reverse.filter (fun a => ahead L a w) = r2.reverse := by
        rw [List.filter_eq_self]
        intro a ha
        exact hs.2.2 a ha w List.mem_cons_self
      have f2 : r1.reverse.filter (fun a => ahead L a w) = [] := by
        rw [List.filter_eq_nil_iff]
        intro a ha hc
        have := Bwt.ahead_trans L _ _ _ hc (hs.2.1.1 a ha)
        rw [Bwt.ahead_irrefl] at this; cases this
      rw [f1, f2]; simp
    have ha := sum_ahead L hL w hw'
    have hp2 : sums L ((order L).filter fun a => ahead L a w) = sums L ((List.range L.length).filter fun a => ahead L a w) := ((hperm.filter _).map (sz L)).sum_nat
    rw [hf, ha] at hp2
    have hall := hsum
    rw [ho] at hall
    have rr : ∀ r : List Nat, sums L r.reverse = sums L r := fun r => ((List.reverse_perm r).map (sz L)).sum_nat
    have e3 : sums L (r2.reverse ++ w :: r1.reverse) = sums L r2.reverse + (sz L w + sums L r1.reverse) := by
      rw [sums_append]; simp [sums]
    rw [e3, hp2, rr] at hall
    omega
  have pos : ∀ w, 0 < sz L w := fun w => Nat.two_pow_pos _
  have room : ∀ w, w < L.length → 2 ^ (L.getD w 0) * sz L w = 2 ^ 32 := by
    intro w hw
    unfold sz
    rw [← Nat.pow_add]
    congr 1
    have := (hget w hw).2
    omega
  constructor
  · rintro ⟨e, he, h1, h2, h3⟩
    obtain ⟨r1, w, r2, h4, h5⟩ := (mem_asc L e _ _).1 he
    obtain ⟨hw, hk⟩ := key r1 w r2 h4
    rw [h5] at h1 h2 h3
    simp only at h1 h2 h3
    subst h1
    have hs : E.size ⟨0 + sums L r1, L.getD w 0, w⟩ = sz L w := rfl
    rw [hs] at h3
    have hlen : L.getD w 0 = p.length := by omega
    refine ⟨hw, hlen, ?_⟩
    have hv := val_lt p
    have hr := room w hw
    rw [hlen] at hr
    have h6 : (2 ^ p.length - 1 - val p + 1 + code L w) * sz L w = 2 ^ p.length * sz L w := by
      rw [hr, Nat.add_mul, Nat.add_mul, Nat.one_mul]
      omega
    have := Nat.eq_of_mul_eq_mul_right (pos w) h6
    omega
  · rintro ⟨hv, hlen, hc⟩
    have hm : v ∈ (order L).reverse := by rw [List.mem_reverse]; exact (hmem v).2 hv
    obtain ⟨r1, r2, h4⟩ := List.append_of_mem hm
    obtain ⟨_, hk⟩ := key r1 v r2 h4
    refine ⟨⟨0 + sums L r1, L.getD v 0, v⟩, (mem_asc L _ _ _).2 ⟨r1, v, r2, h4, rfl⟩, rfl, by simp only; omega, ?_⟩
    have hs : E.size ⟨0 + sums L r1, L.getD v 0, v⟩ = sz L v := rfl
    rw [hs]
    simp only
    have hvl := val_lt p
    have hr := room v hv
    rw [hlen] at hr
    have h6 : (2 ^ p.length - 1 - val p) * sz L v + sz L v + code L v * sz L v = 2 ^ 32 := by
      rw [← hr, ← Nat.succ_mul, ← Nat.add_mul]
      congr 1
      omega
    omega

theorem at_append : ∀ (p q : List Bool) (t : T), t.at (p ++ q) = (t.at p).bind fun u => u.at q := by
  intro p
  induction p with
  | nil => intro q t; simp [T.at]
  | cons b p ih =>
    intro q t
    cases t with
    | leaf v => simp [T.at]
    | node l r => simp only [List.cons_append, T.at]; cases b <;> simp [ih]
theorem dec_at : ∀ (p : List Bool) (t : T) (v : Nat) (R : List Bool), t.at p = some (.leaf v) → t.dec (p ++ R) = some (v, R) := by
  intro p
  induction p with
  | nil => intro t v R h; simp only [T.at, Option.some.injEq] at h; subst h; simp [T.dec]
  | cons b p ih =>
    intro t v R h
    cases t with
    | leaf w => simp [T.at] at h
    | node l r => simp only [T.at] at h; simp only [List.cons_append, T.dec]; cases b <;> simp_all
/-- the first symbol of so many bits with this number -/
def hit (L : List Nat) (c n : Nat) : Option Nat := (List.range L.length).find? fun i => L.getD i 0 == n && code L i == c
/-- the reference's way: bit by bit; so many symbols are wanted -/
def sp (L : List Nat) : Nat → Nat → Nat → List Bool → List Nat × Bool
  | 0, _, _, _ => ([], false)
  | _ + 1, _, _, [] => ([], true)
  | n + 1, c, m, b :: B => match hit L (2 * c + b.toNat) (m + 1) with
    | some i => (i :: (sp L n 0 0 B).1, (sp L n 0 0 B).2)
    | none => sp L (n + 1) (2 * c + b.toNat) (m + 1) B
/-- the tree's way -/
def decs (t : T) : Nat → List Bool → List Nat × Bool
  | 0, _ => ([], false)
  | n + 1, B => match t.dec B with
    | none => ([], true)
    | some (v, B') => (v :: (decs t n B').1, (decs t n B').2)
/-- the tree of a full code -/
def tree (L : List Nat) : T := build 32 0 (asc L 0 (order L).reverse)
def Full (L : List Nat) : Prop := 2 ≤ L.length ∧ (∀ x ∈ L, 1 ≤ x ∧ x ≤ 32) ∧ sums L (List.range L.length) = 2 ^ 32
theorem hit_leaf (L : List Nat) (h : Full L) (p : List Bool) (v : Nat) (ht : (tree L).at p = some (.leaf v)) : hit L (val p) p.length = some v := by
  have h1 := (tree_at L h.2.1 h.2.2 p v).1 ht
  unfold hit
  cases hf : (List.range L.length).find? fun i => L.getD i 0 == p.length && code L i == val p with
  | none =>
    have := List.find?_eq_none.1 hf v (by simpa using h1.1)
    simp only [Bool.and_eq_true, beq_iff_eq, not_and] at this
    exact absurd h1.2.2 (this h1.2.1)
  | some w =>
    have h2 := List.find?_some hf
    have h3 := List.mem_of_find?_eq_some hf
    simp only [Bool.and_eq_true, beq_iff_eq] at h2
    have h4 := (tree_at L h.2.1 h.2.2 p w).2 ⟨by simpa using h3, h2.1, h2.2⟩
    rw [show build 32 0 (asc L 0 (order L).reverse) = tree L from rfl, ht] at h4
    simp only [Option.some.injEq, T.leaf.injEq] at h4
    rw [h4]
theorem hit_node (L : List Nat) (h : Full L) (p : List Bool) (l r : T) (ht : (tree L).at p = some (.node l r)) : hit L (val p) p.length = none := by
  unfold hit
  rw [List.find?_eq_none]
  intro v hv hc
  simp only [Bool.and_eq_true, beq_iff_eq] at hc
  have h4 := (tree_at L h.2.1 h.2.2 p v).2 ⟨by simpa using hv, hc.1, hc.2⟩
  rw [show build 32 0 (asc L 0 (order L).reverse) = tree L from rfl, ht] at h4
  cases h4
theorem asc_length (L : List Nat) : ∀ r base, (asc L base r).length = r.length := by
  intro r
  induction r with
  | nil => intro _; rfl
  | cons i r ih => intro base; simp [asc, ih]
theorem tree_node (L : List Nat) (h : Full L) : ∃ l r, tree L = .node l r := by
  unfold tree
  have hl : (asc L 0 (order L).reverse).length = L.length := by rw [asc_length, List.length_reverse, Bwt.order_length]
  have h2 := h.1
  match h3 : asc L 0 (order L).reverse, hl with
  | [], hl => simp at hl; omega
  | [_], hl => simp at hl; omega
  | e :: d :: cs, _ => exact ⟨_, _, rfl⟩
theorem sp_dec (L : List Nat) (h : Full L) : ∀ (B : List Bool) (n : Nat) (p : List Bool) (l r : T), (tree L).at p = some (.node l r) →
    sp L (n + 1) (val p) p.length B = match (T.node l r).dec B with
      | none => ([], true)
      | some (v, B') => (v :: (sp L n 0 0 B').1, (sp L n 0 0 B').2) := by
  intro B
  induction B with
  | nil => intro n p l r _; simp [sp, T.dec]
  | cons b B ih =>
    intro n p l r ht
    have e1 : val (p ++ [b]) = 2 * val p + b.toNat := val_snoc p b
    have e2 : (p ++ [b]).length = p.length + 1 := by simp
    have e3 : (tree L).at (p ++ [b]) = some (if b then l else r) := by
      rw [at_append, ht]; simp only [Option.bind_some, T.at]; cases b <;> rfl
    simp only [sp, T.dec]
    rw [← e1, ← e2]
    generalize p ++ [b] = q at e3 ⊢
    have e4 : (if b then l.dec B else r.dec B) = (if b then l else r).dec B := by cases b <;> rfl
    rw [e4]
    generalize (if b = true then l else r) = u at e3 ⊢
    cases u with
    | leaf v => rw [hit_leaf L h q v e3]; simp [T.dec]
    | node l' r' => rw [hit_node L h q l' r' e3]; exact ih n q l' r' e3
theorem sp_decs (L : List Nat) (h : Full L) : ∀ (n : Nat) (B : List Bool), sp L n 0 0 B = decs (tree L) n B := by
  intro n
  induction n with
  | zero => intro B; simp [sp, decs]
  | succ n ih =>
    intro B
    obtain ⟨l, r, ht⟩ := tree_node L h
    have := sp_dec L h B n [] l r (by rw [ht]; rfl)
    simp only [val, List.foldl_nil, List.length_nil] at this
    rw [this]
    simp only [decs, ← ht]
    cases (tree L).dec B with
    | none => rfl
    | some x => simp only [ih]
/-- the bits of a number -/
def bitsOf (n : Nat) : Nat → List Bool
  | 0 => []
  | k + 1 => n.testBit k :: bitsOf n k
theorem bitsOf_length (n : Nat) : ∀ k, (bitsOf n k).length = k := by
  intro k
  induction k with
  | zero => rfl
  | succ k ih => simp [bitsOf, ih]
theorem val_bitsOf (n : Nat) : ∀ k, val (bitsOf n k) = n % 2 ^ k := by
  intro k
  induction k with
  | zero => simp [bitsOf, val, Nat.mod_one]
  | succ k ih =>
    rw [bitsOf, val_cons, ih, bitsOf_length, Nat.testBit_eq_decide_div_mod_eq, Nat.pow_succ, Nat.mod_mul]
    have := Nat.mod_lt (n / 2 ^ k) (by omega : 2 > 0)
    by_cases h : n / 2 ^ k % 2 = 1
    · simp [h]; omega
    · have h0 : n / 2 ^ k % 2 = 0 := by omega
      simp [h0]
theorem bitsOf_val (p : List Bool) : bitsOf (val p) p.length = p := by
  induction p with
  | nil => rfl
  | cons b p ih =>
    have hv := val_lt p
    have e : ∀ k, k ≤ p.length → bitsOf (val (b :: p)) k = bitsOf (val p) k := by
      intro k
      induction k with
      | zero => intro _; rfl
      | succ k ihk =>
        intro hk
        simp only [bitsOf]
        rw [ihk (by omega), val_cons]
        congr 1
        cases b
        · simp
        · simp only [Bool.toNat_true, Nat.one_mul]
          rw [Nat.testBit_two_pow_add_gt (by omega)]
    rw [List.length_cons, bitsOf, e _ (Nat.le_refl _), ih, val_cons]
    congr 1
    cases b
    · simp only [Bool.toNat_false, Nat.zero_mul, Nat.zero_add]
      exact Nat.testBit_lt_two_pow hv
    · simp only [Bool.toNat_true, Nat.one_mul]
      rw [Nat.testBit_two_pow_add_eq, Nat.testBit_lt_two_pow hv]
      rfl
theorem code_lt (L : List Nat) (h : Full L) (v : Nat) (hv : v < L.length) : code L v < 2 ^ L.getD v 0 := by
  have ha := sum_ahead L h.2.1 v hv
  have hle : sums L ((List.range L.length).filter fun a => ahead L a v) + sz L v ≤ sums L (List.range L.length) := by
    have e : sums L ((List.range L.length).filter fun a => ahead L a v || a == v) = sums L ((List.range L.length).filter fun a => ahead L a v) + sums L ((List.range L.length).filter fun a => a == v) := by
      apply sum_or
      intro a hh
      by_cases hav : a = v
      · subst hav; rw [Bwt.ahead_irrefl] at hh; cases hh
      · simpa using hav
    have e2 : sums L ((List.range L.length).filter fun a => a == v) ≥ sz L v := by
      have hm : v ∈ (List.range L.length).filter fun a => a == v := by simp [hv]
      have : ∀ r : List Nat, v ∈ r → sz L v ≤ sums L r := by
        intro r
        induction r with
        | nil => intro h; cases h
        | cons a r ih =>
          intro h
          simp only [sums, List.map_cons, List.sum_cons]
          rcases List.mem_cons.1 h with rfl | h
          · omega
          · have := ih h; simp only [sums] at this; omega
      exact this _ hm
    have e3 : ∀ (q : Nat → Bool) (r : List Nat), sums L (r.filter q) ≤ sums L r := by
      intro q r
      induction r with
      | nil => simp [sums]
      | cons a r ih =>
        simp only [List.filter_cons]
        cases q a <;> simp [sums] at ih ⊢ <;> omega
    have := e3 (fun a => ahead L a v || a == v) (List.range L.length)
    omega
  rw [ha, h.2.2] at hle
  have hp : 0 < sz L v := Nat.two_pow_pos _
  have hLv : L.getD v 0 ≤ 32 := by
    have : L.getD v 0 = L[v] := by simp [List.getD_eq_getElem?_getD, List.getElem?_eq_getElem hv]
    rw [this]; exact (h.2.1 _ (List.getElem_mem hv)).2
  have hr : 2 ^ (L.getD v 0) * sz L v = 2 ^ 32 := by
    unfold sz
    rw [← Nat.pow_add]
    congr 1
    omega
  rw [← hr, ← Nat.succ_mul] at hle
  have := Nat.le_of_mul_le_mul_right hle hp
  omega
/-- a symbol's published word is read back -/
theorem dec_word (L : List Nat) (h : Full L) (v : Nat) (hv : v < L.length) (R : List Bool) : (tree L).dec (bitsOf (code L v) (L.getD v 0) ++ R) = some (v, R) := by
  apply dec_at
  rw [show tree L = build 32 0 (asc L 0 (order L).reverse) from rfl, tree_at L h.2.1 h.2.2]
  refine ⟨hv, by rw [bitsOf_length], ?_⟩
  rw [val_bitsOf, Nat.mod_eq_of_lt (code_lt L h v hv)]
theorem decs_words (L : List Nat) (h : Full L) : ∀ (text : List Nat) (R : List Bool), (∀ v ∈ text, v < L.length) →
    decs (tree L) text.length ((text.flatMap fun v => bitsOf (code L v) (L.getD v 0)) ++ R) = (text, false) := by
  intro text
  induction text with
  | nil => intro R _; simp [decs]
  | cons v text ih =>
    intro R ht
    simp only [List.length_cons, decs, List.flatMap_cons, List.append_assoc]
    rw [dec_word L h v (ht v (by simp))]
    simp only [ih R (fun w hw => ht w (by simp [hw]))]
end Go.Proofs.YtdhehnjidakfcaaDoor.Huff

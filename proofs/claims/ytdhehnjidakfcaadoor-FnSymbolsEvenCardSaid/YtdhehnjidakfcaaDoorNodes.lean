/- A tree laid as nodes; codes that are sorted: plain laws. -/
import Derived.Test.YtdhehnjidakfcaaDoorKraft
import Derived.Test.YtdhehnjidakfcaaDoorBitsWalk
namespace Go.Proofs.YtdhehnjidakfcaaDoor.Huff
open Bwt (order ahead)
theorem and_pow (c k : Nat) : c &&& 2 ^ k = (c.testBit k).toNat * 2 ^ k := by
  apply Nat.eq_of_testBit_eq
  intro i
  rw [Nat.testBit_and, Nat.testBit_two_pow]
  by_cases e : k = i
  · subst e; cases h : c.testBit k <;> simp
  · cases h : c.testBit k
    · simp [e]
    · simp [e]
theorem take_front {α : Type} (l1 l2 cs : List α) (h : l1 ++ l2 = cs) : cs.take l1.length = l1 ∧ cs.drop l1.length = l2 := by
  subst h; simp
/-- a tree laid as nodes between two places: left, right, left value, right value -/
def Rep (F : List Nat) (lo hi : Nat) : T → Nat → Nat → Prop
  | .leaf v, link, value => link = 65535 ∧ value = v
  | .node l r, link, _ => lo ≤ link ∧ link < hi ∧ Rep F lo hi l (F.getD (link * 4) 0) (F.getD (link * 4 + 2) 0) ∧ Rep F lo hi r (F.getD (link * 4 + 1) 0) (F.getD (link * 4 + 3) 0)
theorem Rep.frame {F F2 : List Nat} {lo hi : Nat} (h : ∀ x, lo * 4 ≤ x → x < hi * 4 → F2.getD x 0 = F.getD x 0) : ∀ (t : T) (a b : Nat), Rep F lo hi t a b → Rep F2 lo hi t a b := by
  intro t
  induction t with
  | leaf v => intro a b h; exact h
  | node l r ihl ihr =>
    intro a b hr
    obtain ⟨h1, h2, h3, h4⟩ := hr
    refine ⟨h1, h2, ?_, ?_⟩
    · rw [h _ (by omega) (by omega), h _ (by omega) (by omega)]; exact ihl _ _ h3
    · rw [h _ (by omega) (by omega), h _ (by omega) (by omega)]; exact ihr _ _ h4
theorem Rep.mono {F : List Nat} {lo hi lo2 hi2 : Nat} (h1 : lo2 ≤ lo) (h2 : hi ≤ hi2) : ∀ (t : T) (a b : Nat), Rep F lo hi t a b → Rep F lo2 hi2 t a b := by
  intro t
  induction t with
  | leaf v => intro a b h; exact h
  | node l r ihl ihr =>
    intro a b hr
    obtain ⟨g1, g2, g3, g4⟩ := hr
    exact ⟨by omega, by omega, ihl _ _ g3, ihr _ _ g4⟩
/-- whether a code lies in the upper half -/
theorem and_half (c base k : Nat) (hb : base % 2 ^ (k + 1) = 0) (h1 : base ≤ c) (h2 : c < base + 2 ^ (k + 1)) : c &&& 2 ^ k = if base + 2 ^ k ≤ c then 2 ^ k else 0 := by
  rw [and_pow, Nat.testBit_eq_decide_div_mod_eq]
  obtain ⟨q, hq⟩ := Nat.dvd_of_mod_eq_zero hb
  have hp : 2 ^ (k + 1) = 2 ^ k * 2 := Nat.pow_succ ..
  have hk := Nat.two_pow_pos k
  have e : c / 2 ^ k = 2 * q + (c - base) / 2 ^ k := by
    have : c = 2 ^ k * (2 * q) + (c - base) := by rw [← Nat.mul_assoc, ← hp, ← hq]; omega
    rw [this, Nat.mul_add_div hk]
    congr 2
    omega
  by_cases h : base + 2 ^ k ≤ c
  · rw [if_pos h, e]
    have : (c - base) / 2 ^ k = 1 := by
      apply Nat.div_eq_of_lt_le
      · omega
      · omega
    rw [this]
    have : (2 * q + 1) % 2 = 1 := by omega
    rw [this]; simp
  · rw [if_neg h, e, Nat.div_eq_of_lt (by omega)]
    have : (2 * q + 0) % 2 = 0 := by omega
    rw [this]; simp
/-- where the upper half begins -/
def mid (m : Nat) (cs : List E) : Nat := (cs.takeWhile fun e => decide (e.code < m)).length
theorem mid_take (m : Nat) (cs : List E) : cs.takeWhile (fun e => decide (e.code < m)) = cs.take (mid m cs) :=
  (take_front _ _ _ (List.takeWhile_append_dropWhile (p := fun e : E => decide (e.code < m)) (l := cs))).1.symm
theorem mid_drop (m : Nat) (cs : List E) : cs.dropWhile (fun e => decide (e.code < m)) = cs.drop (mid m cs) :=
  (take_front _ _ _ (List.takeWhile_append_dropWhile (p := fun e : E => decide (e.code < m)) (l := cs))).2.symm
theorem mid_le (m : Nat) (cs : List E) : mid m cs ≤ cs.length := by
  unfold mid
  have h := congrArg List.length (List.takeWhile_append_dropWhile (p := fun e : E => decide (e.code < m)) (l := cs))
  rw [List.length_append] at h; omega
theorem mid_below (m : Nat) : ∀ (cs : List E) (i : Nat) (e : E), cs[i]? = some e → i < mid m cs → e.code < m := by
  intro cs
  induction cs with
  | nil => intro i e h; simp at h
  | cons a cs ih =>
    intro i e h hi
    unfold mid at hi
    rw [List.takeWhile_cons] at hi
    by_cases ha : a.code < m
    · simp only [ha, decide_true, if_true, List.length_cons] at hi
      cases i with
      | zero => simp at h; subst h; exact ha
      | succ i => exact ih i e (by simpa using h) (by unfold mid; omega)
    · simp [ha] at hi
theorem mid_at (m : Nat) : ∀ (cs : List E) (e : E), cs[mid m cs]? = some e → m ≤ e.code := by
  intro cs
  induction cs with
  | nil => intro e h; simp at h
  | cons a cs ih =>
    intro e h
    unfold mid at h
    rw [List.takeWhile_cons] at h
    by_cases ha : a.code < m
    · simp only [ha, decide_true, if_true, List.length_cons, List.getElem?_cons_succ] at h
      exact ih e h
    · simp [ha] at h
      subst h; omega
theorem build_two (k base : Nat) (cs : List E) (h : 2 ≤ cs.length) : build (k + 1) base cs = .node (build k base (cs.take (mid (base + 2 ^ k) cs))) (build k (base + 2 ^ k) (cs.drop (mid (base + 2 ^ k) cs))) := by
  match cs, h with
  | e :: d :: r, _ => rw [build, mid_take, mid_drop]
theorem build_one (k base : Nat) (cs : List E) (e : E) (h : cs = [e]) : build k base cs = .leaf e.sym := by
  subst h
  cases k <;> rfl
/-- both halves of a code that lies one behind the other -/
theorem halves (k base : Nat) (cs : List E) (h : Tiles base (2 ^ (k + 1)) cs) (hb : base % 2 ^ (k + 1) = 0) (hn : 2 ≤ cs.length) :
    0 < mid (base + 2 ^ k) cs ∧ mid (base + 2 ^ k) cs < cs.length ∧ Tiles base (2 ^ k) (cs.take (mid (base + 2 ^ k) cs)) ∧ Tiles (base + 2 ^ k) (2 ^ k) (cs.drop (mid (base + 2 ^ k) cs)) ∧ base % 2 ^ k = 0 ∧ (base + 2 ^ k) % 2 ^ k = 0 := by
  match cs, hn with
  | e :: d :: r, _ =>
    obtain ⟨h1, h2, h3, h4⟩ := Tiles.halves k base e d r h hb
    rw [mid_take] at h1
    rw [mid_drop] at h2
    have n1 := h1.ne_nil (Nat.two_pow_pos k)
    have n2 := h2.ne_nil (Nat.two_pow_pos k)
    refine ⟨?_, ?_, h1, h2, h3, h4⟩
    · refine Nat.pos_of_ne_zero fun h0 => n1 ?_
      rw [h0]; rfl
    · refine Classical.byContradiction fun h0 => n2 ?_
      exact List.drop_of_length_le (Nat.le_of_not_lt h0)
/-- two codes do not lie in a room of one -/
theorem Tiles.succ {base k : Nat} {cs : List E} (h : Tiles base (2 ^ k) cs) (hn : 2 ≤ cs.length) : ∃ k', k = k' + 1 := by
  cases k with
  | succ k => exact ⟨k, rfl⟩
  | zero =>
    match cs, hn with
    | e :: d :: r, _ =>
      obtain ⟨_, _, h3, h4⟩ := h
      have := h4.range d (by simp)
      have := size_pos e
      have := size_pos d
      omega
theorem tiles_pairwise : ∀ (cs : List E) (base tot : Nat), Tiles base tot cs → cs.Pairwise fun a b => a.code < b.code := by
  intro cs
  induction cs with
  | nil => intro _ _ _; exact List.Pairwise.nil
  | cons c cs ih =>
    intro base tot h
    obtain ⟨h1, _, _, h4⟩ := h
    refine List.Pairwise.cons (fun e he => ?_) (ih _ _ h4)
    have := (h4.range e he).1
    have := size_pos c
    omega
/-- a sorted list of what is in a strictly sorted one is this one -/
theorem uniq_sorted {α : Type} (lt : α → α → Bool) : ∀ (l1 l2 : List α), l1.Perm l2 → l1.Pairwise (fun a b => lt b a = false) → l2.Pairwise (fun a b => lt a b = true) → l1 = l2 := by
  intro l1
  induction l1 with
  | nil => intro l2 hp _ _; exact (List.nil_perm.1 hp).symm
  | cons a l1 ih =>
    intro l2 hp h1 h2
    match l2, hp with
    | [], hp => exact absurd hp.length_eq (by simp)
    | b :: l2, hp =>
      rw [List.pairwise_cons] at h1 h2
      have hab : a = b := by
        refine Classical.byContradiction fun hne => ?_
        have ha : a ∈ b :: l2 := hp.mem_iff.1 (by simp)
        have hb : b ∈ a :: l1 := hp.mem_iff.2 (by simp)
        rcases List.mem_cons.1 ha with e | ha
        · exact hne e
        · rcases List.mem_cons.1 hb with e | hb
          · exact hne e.symm
          · have x := h1.1 b hb
            have y := h2.1 a ha
            rw [x] at y; cases y
      subst hab
      rw [ih l2 (List.perm_cons a |>.1 hp) h1.2 h2.2]
/-- the codes as they are laid: the shortest first -/
def dsc (L : List Nat) : List Nat → List E
  | [] => []
  | i :: o => ⟨sums L o, L.getD i 0, i⟩ :: dsc L o
theorem dsc_length (L : List Nat) (o : List Nat) : (dsc L o).length = o.length := by
  induction o with
  | nil => rfl
  | cons i o ih => simp [dsc, ih]
theorem asc_append (L : List Nat) (r s : List Nat) : ∀ base, asc L base (r ++ s) = asc L base r ++ asc L (base + sums L r) s := by
  induction r with
  | nil => intro base; simp [asc, sums]
  | cons i r ih =>
    intro base
    simp only [List.cons_append, asc, ih]
    congr 3
    simp [sums, Nat.add_assoc]
theorem sums_reverse (L : List Nat) (r : List Nat) : sums L r.reverse = sums L r := ((List.reverse_perm r).map (sz L)).sum_nat
theorem dsc_asc (L : List Nat) (o : List Nat) : asc L 0 o.reverse = (dsc L o).reverse := by
  induction o with
  | nil => rfl
  | cons i o ih =>
    rw [List.reverse_cons, asc_append, ih, dsc, List.reverse_cons]
    rw [show asc L (0 + sums L o.reverse) [i] = [⟨sums L o, L.getD i 0, i⟩] by simp [asc, sums_reverse]]
theorem full_tiles (L : List Nat) (h : Full L) : Tiles 0 (2 ^ 32) (asc L 0 (order L).reverse) := by
  have hperm := Bwt.order_perm L
  have hsum : sums L (order L) = 2 ^ 32 := by
    rw [← h.2.2]; exact (hperm.map (sz L)).sum_nat
  have hrev : sums L (order L).reverse = 2 ^ 32 := by rw [sums_reverse, hsum]
  have := tiles_asc L (2 ^ 32) (order L).reverse 0 (by omega) (by
    intro j _
    exact Nat.pow_dvd_pow 2 (by omega)) (by
    rw [List.pairwise_reverse]
    refine (Bwt.order_sorted L).imp fun {a b} hx => ?_
    simp only [Bwt.ahead, Bool.or_eq_true, Bool.and_eq_true, decide_eq_true_eq, beq_iff_eq] at hx
    omega)
  rwa [hrev] at this
end Go.Proofs.YtdhehnjidakfcaaDoor.Huff

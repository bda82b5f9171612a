/- Codes of full trees: plain laws of lengths, of bits and of the even code. -/
import Derived.Test.YtdhehnjidakfcaaDoorCanon
import Derived.Test.YtdhehnjidakfcaaDoorPut
namespace Go.Proofs.YtdhehnjidakfcaaDoor.Huff
/-- the room of all lengths -/
def kraft (L : List Nat) : Nat := (L.map fun x => 2 ^ (32 - x)).sum
theorem sums_range (L : List Nat) : sums L (List.range L.length) = kraft L := by
  unfold sums kraft
  have h := Bwt.map_getD L
  have e : (List.range L.length).map (sz L) = ((List.range L.length).map fun a => L.getD a 0).map fun x => 2 ^ (32 - x) := by
    rw [List.map_map]; rfl
  rw [e, h]
theorem kraft_append (L M : List Nat) : kraft (L ++ M) = kraft L + kraft M := by simp [kraft]
theorem kraft_set : ∀ (L : List Nat) (i x y : Nat), i < L.length → L.getD i 0 = x → kraft (L.set i y) + 2 ^ (32 - x) = kraft L + 2 ^ (32 - y) := by
  intro L
  induction L with
  | nil => intro i x y h; simp at h
  | cons a L ih =>
    intro i x y h hx
    cases i with
    | zero =>
      have : a = x := by simpa using hx
      subst this
      simp [kraft]; omega
    | succ i =>
      have := ih i x y (by simpa using h) (by simpa using hx)
      simp [kraft] at this ⊢; omega
theorem kraft_branch (L : List Nat) (i x : Nat) (hi : i < L.length) (hx : L.getD i 0 = x) (h : x < 32) : kraft (L.set i (x + 1) ++ [x + 1]) = kraft L := by
  have h1 := kraft_set L i x (x + 1) hi hx
  have h2 : 2 ^ (32 - x) = 2 ^ (32 - (x + 1)) * 2 := by rw [← Nat.pow_succ]; congr 1; omega
  rw [kraft_append]
  have h3 : kraft [x + 1] = 2 ^ (32 - (x + 1)) := by simp [kraft]
  omega
/-- the lengths of a tree that grows leaf by leaf -/
structure Grown (L : List Nat) : Prop where
  pos : 0 < L.length
  le : ∀ x ∈ L, x ≤ 20
  full : kraft L = 2 ^ 32
  one : 2 ≤ L.length → ∀ x ∈ L, 1 ≤ x
theorem Grown.start : Grown [0] := ⟨by simp, by simp, by simp [kraft], by simp⟩
theorem Grown.next {L : List Nat} (h : Grown L) (i x : Nat) (hi : i < L.length) (hx : L.getD i 0 = x) (hne : x ≠ 20) : Grown (L.set i (x + 1) ++ [x + 1]) := by
  have hxm : x ∈ L := by
    rw [← hx, List.getD_eq_getElem?_getD, List.getElem?_eq_getElem hi]
    exact List.getElem_mem hi
  have hle := h.le x hxm
  refine ⟨by simp, fun y hy => ?_, by rw [kraft_branch L i x hi hx (by omega), h.full], fun _ y hy => ?_⟩
  · rcases List.mem_append.1 hy with h1 | h1
    · rcases List.mem_or_eq_of_mem_set h1 with h2 | h2
      · exact h.le y h2
      · omega
    · have := List.mem_singleton.1 h1; omega
  · rcases List.mem_append.1 hy with h1 | h1
    · rcases Nat.lt_or_ge 1 L.length with h3 | h3
      · rcases List.mem_or_eq_of_mem_set h1 with h2 | h2
        · exact h.one h3 y h2
        · omega
      · have h4 : L.length = 1 := by have := h.pos; omega
        obtain ⟨a, rfl⟩ := List.length_eq_one_iff.1 h4
        have : i = 0 := by simpa using hi
        subst this
        simp at h1; omega
    · have := List.mem_singleton.1 h1; omega
/-- not all leaves lie at the deepest place -/
theorem Grown.room {L : List Nat} (h : Grown L) (hl : L.length ≤ 258) : ∃ j, j < L.length ∧ L.getD j 0 ≠ 20 := by
  refine Classical.byContradiction fun hn => ?_
  have h1 : ∀ x ∈ L, x = 20 := by
    intro x hx
    obtain ⟨i, hi, rfl⟩ := List.mem_iff_getElem.1 hx
    refine Classical.byContradiction fun hne => hn ⟨i, hi, ?_⟩
    rw [List.getD_eq_getElem?_getD, List.getElem?_eq_getElem hi]
    exact hne
  have h2 : kraft L = L.length * 4096 := by
    have : ∀ M : List Nat, (∀ x ∈ M, x = 20) → kraft M = M.length * 4096 := by
      intro M
      induction M with
      | nil => intro _; rfl
      | cons a M ih =>
        intro hM
        have h3 := hM a (by simp)
        have h4 := ih fun x hx => hM x (by simp [hx])
        subst h3
        simp [kraft] at h4 ⊢; omega
    exact this L h1
  have h3 := h.full
  rw [h2] at h3
  have : (2 : Nat) ^ 32 = 4294967296 := by decide
  omega
theorem Grown.isFull {L : List Nat} (h : Grown L) (h2 : 2 ≤ L.length) : Full L :=
  ⟨h2, fun x hx => ⟨h.one h2 x hx, by have := h.le x hx; omega⟩, by rw [sums_range, h.full]⟩
/-- how far a place is ahead, round and round -/
def far (n j i : Nat) : Nat := (j + n - i) % n
theorem far_next (n j i : Nat) (hi : i < n) (hj : j < n) (h : i ≠ j) : far n j ((i + 1) % n) + 1 = far n j i := by
  unfold far
  rcases Nat.lt_or_ge (i + 1) n with h1 | h1
  · rw [Nat.mod_eq_of_lt h1]
    rcases Nat.lt_or_ge j i with h2 | h2
    · rw [Nat.mod_eq_of_lt (show j + n - (i + 1) < n by omega), Nat.mod_eq_of_lt (show j + n - i < n by omega)]; omega
    · have e1 : j + n - (i + 1) = j - (i + 1) + n := by omega
      have e2 : j + n - i = j - i + n := by omega
      rw [e1, e2, Nat.add_mod_right, Nat.add_mod_right, Nat.mod_eq_of_lt (by omega), Nat.mod_eq_of_lt (by omega)]; omega
  · have e0 : i + 1 = n := by omega
    rw [e0, Nat.mod_self, Nat.sub_zero, Nat.add_mod_right, Nat.mod_eq_of_lt hj]
    rw [show j + n - i = j + 1 by omega, Nat.mod_eq_of_lt (by omega)]
/-- no code goes over its bits -/
theorem start_le (L : List Nat) (h : kraft L = 2 ^ 32) (b : Nat) (hb : b ≤ 32) : start L b ≤ 2 ^ b := by
  have h1 := sum_less L b hb
  have h2 : sums L ((List.range L.length).filter fun a => decide (L.getD a 0 < b)) ≤ sums L (List.range L.length) := by
    generalize List.range L.length = r
    induction r with
    | nil => simp
    | cons a r ih =>
      simp only [List.filter_cons]
      split <;> simp [sums] at ih ⊢ <;> omega
  rw [h1, sums_range, h, show (2 : Nat) ^ 32 = 2 ^ b * 2 ^ (32 - b) by rw [← Nat.pow_add]; congr 1; omega] at h2
  exact Nat.le_of_mul_le_mul_right h2 (Nat.two_pow_pos _)
/-- the bits of bytes from a place on -/
def bl (l : List Nat) (n s : Nat) : List Bool := (List.range (8 * n - s)).map fun i => Fld.bt l (s + i) == 1
theorem bl_length (l : List Nat) (n s : Nat) : (bl l n s).length = 8 * n - s := by simp [bl]
theorem bl_end (l : List Nat) (n s : Nat) (h : 8 * n ≤ s) : bl l n s = [] := by
  unfold bl; rw [show 8 * n - s = 0 by omega]; rfl
theorem bl_cons (l : List Nat) (n s : Nat) (h : s < 8 * n) : bl l n s = (Fld.bt l s == 1) :: bl l n (s + 1) := by
  unfold bl
  rw [show 8 * n - s = (8 * n - (s + 1)) + 1 by omega, List.range_succ_eq_map, List.map_cons, List.map_map, Nat.add_zero]
  congr 1
  apply List.map_congr_left
  intro i _
  simp only [Function.comp]
  rw [show s + i.succ = s + 1 + i by omega]
theorem val_bits (l : List Nat) (s w : Nat) : val ((List.range w).map fun i => Fld.bt l (s + i) == 1) = Fld.fld l s w := by
  induction w with
  | zero => rfl
  | succ w ih =>
    rw [List.range_succ, List.map_append, List.map_cons, List.map_nil, val_snoc, ih, Fld.fld]
    have := Fld.bt_lt l (s + w)
    have h2 : Fld.bt l (s + w) = 0 ∨ Fld.bt l (s + w) = 1 := by omega
    rcases h2 with h2 | h2 <;> rw [h2] <;> rfl
theorem bits_of (l : List Nat) (s w : Nat) : (List.range w).map (fun i => Fld.bt l (s + i) == 1) = bitsOf (Fld.fld l s w) w := by
  have h := bitsOf_val ((List.range w).map fun i => Fld.bt l (s + i) == 1)
  rw [val_bits] at h
  simpa using h.symm
theorem bl_split (l : List Nat) (n s w : Nat) (h : s + w ≤ 8 * n) : bl l n s = bitsOf (Fld.fld l s w) w ++ bl l n (s + w) := by
  rw [← bits_of]
  unfold bl
  have e : 8 * n - s = w + (8 * n - (s + w)) := by omega
  rw [e, List.range_add, List.map_append, List.map_map]
  congr 1
  apply List.map_congr_left
  intro i _
  simp only [Function.comp]
  rw [Nat.add_assoc]
/-- a symbol read: it stands there -/
theorem at_dec : ∀ (B : List Bool) (t : T) (v : Nat) (R : List Bool), t.dec B = some (v, R) → ∃ p, B = p ++ R ∧ t.at p = some (.leaf v) := by
  intro B
  induction B with
  | nil =>
    intro t v R h
    cases t with
    | leaf w => simp only [T.dec, Option.some.injEq, Prod.mk.injEq] at h; exact ⟨[], by simp [h.2], by simp [T.at, h.1]⟩
    | node l r => simp [T.dec] at h
  | cons b B ih =>
    intro t v R h
    cases t with
    | leaf w => simp only [T.dec, Option.some.injEq, Prod.mk.injEq] at h; exact ⟨[], by simp [h.2], by simp [T.at, h.1]⟩
    | node l r =>
      simp only [T.dec] at h
      cases b with
      | true => obtain ⟨p, h1, h2⟩ := ih l v R (by simpa using h); exact ⟨true :: p, by rw [h1]; rfl, by simpa [T.at] using h2⟩
      | false => obtain ⟨p, h1, h2⟩ := ih r v R (by simpa using h); exact ⟨false :: p, by rw [h1]; rfl, by simpa [T.at] using h2⟩
/-- below each place of a tree lies a leaf -/
theorem some_leaf : ∀ t : T, ∃ q v, t.at q = some (.leaf v) := by
  intro t
  induction t with
  | leaf v => exact ⟨[], v, rfl⟩
  | node l r ihl _ => obtain ⟨q, v, h⟩ := ihl; exact ⟨true :: q, v, by simpa [T.at] using h⟩
theorem node_depth (L : List Nat) (h : Full L) (h20 : ∀ x ∈ L, x ≤ 20) (p : List Bool) (l r : T) (ht : (tree L).at p = some (.node l r)) : p.length < 20 := by
  obtain ⟨q, v, hq⟩ := some_leaf (.node l r)
  have h1 : (tree L).at (p ++ q) = some (.leaf v) := by rw [at_append, ht]; exact hq
  have h2 := (tree_at L h.2.1 h.2.2 (p ++ q) v).1 h1
  have h3 : L.getD v 0 ≤ 20 := by
    have : L.getD v 0 = L[v] := by simp [List.getD_eq_getElem?_getD, List.getElem?_eq_getElem h2.1]
    rw [this]; exact h20 _ (List.getElem_mem h2.1)
  have h4 : 0 < q.length := by
    cases q with
    | nil => simp [T.at] at hq
    | cons b q => simp
  have h5 := h2.2.1
  rw [List.length_append] at h5
  omega
/-- each symbol that is read is one of the code's -/
theorem dec_lt (L : List Nat) (h : Full L) (B : List Bool) (v : Nat) (R : List Bool) (hd : (tree L).dec B = some (v, R)) : v < L.length := by
  obtain ⟨p, _, h2⟩ := at_dec B _ v R hd
  exact ((tree_at L h.2.1 h.2.2 p v).1 h2).1
/-- an even code -/
theorem even_full (k : Nat) (h1 : 1 ≤ k) (h8 : k ≤ 8) : Full (List.replicate (2 ^ k) k) := by
  refine ⟨?_, fun x hx => ?_, ?_⟩
  · rw [List.length_replicate]
    have := Nat.pow_le_pow_right (show 0 < 2 by omega) h1
    omega
  · have := List.eq_of_mem_replicate hx; omega
  · rw [sums_range]
    unfold kraft
    rw [List.map_replicate, List.sum_replicate_nat, ← Nat.pow_add]
    congr 1; omega
theorem even_start (m k : Nat) : ∀ b, b ≤ k → start (List.replicate m k) b = 0 := by
  intro b
  induction b with
  | zero => intro _; rfl
  | succ b ih =>
    intro hb
    have h : (List.replicate m k).countP (· == b) = 0 := by
      rw [List.countP_eq_zero]
      intro x hx
      have := List.eq_of_mem_replicate hx
      simp; omega
    rw [start, ih (by omega), h]
theorem even_code (m k v : Nat) (hv : v < m) : code (List.replicate m k) v = v := by
  have e : (List.replicate m k).getD v 0 = k := by simp [List.getD_eq_getElem?_getD, hv]
  unfold code
  rw [e, even_start m k k (Nat.le_refl _), List.take_replicate]
  have : (List.replicate (min v m) k).countP (· == k) = min v m := by
    rw [List.countP_replicate]; simp
  rw [this]; omega
theorem even_dec (k : Nat) (h1 : 1 ≤ k) (h8 : k ≤ 8) (l : List Nat) (n s : Nat) :
    (tree (List.replicate (2 ^ k) k)).dec (bl l n s) = if s + k ≤ 8 * n then some (Fld.fld l s k, bl l n (s + k)) else none := by
  have hF := even_full k h1 h8
  split
  · rename_i h
    rw [bl_split l n s k h]
    have hlt := Fld.fld_lt l s k
    have := dec_word (List.replicate (2 ^ k) k) hF (Fld.fld l s k) (by simpa using hlt) (bl l n (s + k))
    rw [even_code _ _ _ hlt] at this
    have e : (List.replicate (2 ^ k) k).getD (Fld.fld l s k) 0 = k := by simp [List.getD_eq_getElem?_getD, hlt]
    rwa [e] at this
  · rename_i h
    cases hd : (tree (List.replicate (2 ^ k) k)).dec (bl l n s) with
    | none => rfl
    | some x =>
      obtain ⟨v, R⟩ := x
      obtain ⟨p, h2, h3⟩ := at_dec _ _ _ _ hd
      have h4 := (tree_at _ hF.2.1 hF.2.2 p v).1 h3
      have e : (List.replicate (2 ^ k) k).getD v 0 = k := by
        have := h4.1
        rw [List.length_replicate] at this
        simp [List.getD_eq_getElem?_getD, this]
      have h5 := congrArg List.length h2
      rw [bl_length, List.length_append] at h5
      have := h4.2.1
      omega
end Go.Proofs.YtdhehnjidakfcaaDoor.Huff

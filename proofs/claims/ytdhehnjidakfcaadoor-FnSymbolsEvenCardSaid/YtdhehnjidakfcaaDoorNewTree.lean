/- The tree of code lengths made: walked. -/
import Derived.Test.YtdhehnjidakfcaaDoorSorts
import Derived.Laws.OwnMore
import Derived.OwnWalk
import Derived.Laws.ResultCell
namespace Go.Proofs.YtdhehnjidakfcaaDoor
open Go.RowKit Huff Go.Sort
set_option maxHeartbeats 400000
set_option maxRecDepth 4000
set_option linter.unusedVariables false
set_option linter.unusedSimpArgs false
theorem made_flat {α : Type} [Inhabited α] (enc : α → List Value) (k : Nat) (hk : ∀ x, (enc x).length = k) (h0 : 0 < k) (x : α) (n : Nat) : (madeCells (enc x).toArray (n * k)).toList = (List.replicate n x).flatMap enc := by
  apply List.ext_getElem?
  intro t
  by_cases h : t < n * k
  · rw [flat_at enc k hk h0 _ t (by simpa using h)]
    have h3 : t / k < n := by rw [Nat.div_lt_iff_lt_mul h0]; exact h
    simp [madeCells, h, h3, hk]
  · rw [List.getElem?_eq_none (by simp [madeCells]; omega), List.getElem?_eq_none (by rw [flat_length enc k hk]; simp; omega)]
/-- 'make([]T, n)', T of some cells -/
theorem make_k {P : Program} {w : World} {ops : Array Oper} {rest : List Oper} {o : Oper} {a : Act} {Q : Exit → Act → World → Prop} {α : Type} [Inhabited α]
    (hg : o.guard = none) (l c : Operand) (t : TypeId) (hop : o.op = Op.makeSlice t l c)
    (base : Nat) (e : TypeId) (z : Value) (k bytes : Nat) (h1 : P.underlying t = some (.slice e)) (hinfo : (P.info? e).map (fun i => (i.zero, i.size, i.bytes)) = some (some z, k, bytes)) (hby : 0 < bytes)
    (enc : α → List Value) (hk : ∀ x, (enc x).length = k) (h0 : 0 < k) (x : α) (hz : z.cells = (enc x).toArray)
    (n : Nat) (hl : a.eval l = .int .i64 n) (hc : a.eval c = .int .i64 n) (hb : bytes * n ≤ 281474976710656) (b4 : base ≤ w.heap.size)
    (hK : ∀ w', Own w' base e k (some ⟨w.heap.size, 0, none⟩) n n ((List.replicate n x).flatMap enc) → w.grownBy w' none → wpList P ops Q rest (a.put o.dst (.slice (some ⟨w.heap.size, 0, none⟩) n n)) w') :
    wpList P ops Q (o :: rest) a w := by
  obtain ⟨i, hi, hz0, hsize, hbytes⟩ := info_parts hinfo
  subst hbytes
  have h63 : n ≤ maxLen := by
    have : n ≤ i.bytes * n := Nat.le_mul_of_pos_left n hby
    unfold maxLen; omega
  refine wpList_make_full w hg l c t hop base e i z k h1 hi hz0 hsize .i64 .i64 n n n hl hc rfl rfl hb h63 b4 ?_
  intro w' h2 h3
  refine hK w' ?_ h3
  rw [hz, made_flat enc k hk h0] at h2
  exact h2
theorem ownK_some {w : World} {B : Nat} {e : TypeId} {size g n cap : Nat} {xs : List Value} (h : Own w B e size (some ⟨g, 0, none⟩) n cap xs) (j : Nat) (hj : j < n * size) : ∃ u, w.cell? ⟨g, j, none⟩ = some u ∧ w.frozen? ⟨g, j, none⟩ = false := by
  obtain ⟨g', hg, _, _, hc, hf⟩ := h.cell j hj
  injection hg with hg
  injection hg with hg _
  subst hg
  exact ⟨_, hc.trans (List.getElem?_eq_getElem (by rw [h.len]; exact hj)), hf⟩
theorem setP (l : List (Nat × Nat)) : ∀ (i x y : Nat), i < l.length → ((l.flatMap encP).set (i * 2) (.int .u16 (x : Int))).set (i * 2 + 1) (.int .u8 (y : Int)) = (l.set i (x, y)).flatMap encP := by
  induction l with
  | nil => intro i x y h; simp at h
  | cons a l ih =>
    intro i x y h
    cases i with
    | zero => simp [encP]
    | succ i =>
      have := ih i x y (by simpa using h)
      rw [List.set_cons_succ, List.flatMap_cons, List.flatMap_cons, ← this]
      simp [encP, Nat.add_mul]
theorem setE (l : List E) : ∀ (i x y z : Nat), i < l.length → (((l.flatMap encE).set (i * 3) (.int .u32 (x : Int))).set (i * 3 + 1) (.int .u8 (y : Int))).set (i * 3 + 2) (.int .u16 (z : Int)) = (l.set i ⟨x, y, z⟩).flatMap encE := by
  induction l with
  | nil => intro i x y z h; simp at h
  | cons a l ih =>
    intro i x y z h
    cases i with
    | zero => simp [encE]
    | succ i =>
      have := ih i x y z (by simpa using h)
      rw [List.set_cons_succ, List.flatMap_cons, List.flatMap_cons, ← this]
      simp [encE, Nat.add_mul]
theorem infoPair : (Tryd.prog.info? 83).map (fun i => (i.zero, i.size, i.bytes)) = some (some (.agg #[.int .u16 0, .int .u8 0]), 2, 4) := by kernel_rfl
theorem infoCode : (Tryd.prog.info? 91).map (fun i => (i.zero, i.size, i.bytes)) = some (some (.agg #[.int .u32 0, .int .u8 0, .int .u16 0]), 3, 8) := by kernel_rfl
theorem infoNode : (Tryd.prog.info? 100).map (fun i => (i.zero, i.size, i.bytes)) = some (some (.agg #[.int .u16 0, .int .u16 0, .int .u16 0, .int .u16 0]), 4, 8) := by kernel_rfl
/-- the pairs of lengths -/
def pairs (L : List Nat) : List (Nat × Nat) := (List.range L.length).map fun j => (j, L.getD j 0)
/-- the pairs, sorted -/
def spairs (L : List Nat) : List (Nat × Nat) := (Bwt.order L).map fun j => (j, L.getD j 0)
theorem sorted_pairs (L : List Nat) (l : List (Nat × Nat)) (hp : l.Perm (pairs L)) (hs : l.Pairwise fun a b => ltP b a = false) : l = spairs L := by
  refine uniq_sorted ltP l (spairs L) (hp.trans ((Bwt.order_perm L).symm.map _)) hs ?_
  unfold spairs
  rw [List.pairwise_map]
  exact Bwt.order_sorted L
theorem sorted_codes (L : List Nat) (h : Full L) (l : List E) (hp : l.Perm (dsc L (Bwt.order L))) (hs : l.Pairwise fun a b => ltE b a = false) : l = asc L 0 (Bwt.order L).reverse := by
  refine uniq_sorted ltE l _ (hp.trans ?_) hs ?_
  · rw [dsc_asc]; exact (List.reverse_perm _).symm
  · exact (tiles_pairwise _ _ _ (full_tiles L h)).imp fun {a b} hx => by simpa [ltE] using hx
theorem dsc_at (L : List Nat) : ∀ (o : List Nat) (q v : Nat), o[q]? = some v → (dsc L o)[q]? = some ⟨sums L (o.drop (q + 1)), L.getD v 0, v⟩ := by
  intro o
  induction o with
  | nil => intro q v h; simp at h
  | cons a o ih =>
    intro q v h
    cases q with
    | zero => simp at h; subst h; simp [dsc]
    | succ q => simpa [dsc] using ih q v (by simpa using h)
theorem room_step (L o : List Nat) (q v : Nat) (h : o[q]? = some v) : sums L (o.drop q) = sums L (o.drop (q + 1)) + sz L v := by
  obtain ⟨hq, hv⟩ := List.getElem?_eq_some_iff.1 h
  rw [List.drop_eq_getElem_cons hq, hv]
  simp [sums, Nat.add_comm]
theorem room_le (L : List Nat) (h : Full L) (q : Nat) : sums L ((Bwt.order L).drop q) ≤ 2 ^ 32 := by
  have hsum : sums L (Bwt.order L) = 2 ^ 32 := by
    rw [← h.2.2]; exact ((Bwt.order_perm L).map (sz L)).sum_nat
  have := List.take_append_drop q (Bwt.order L)
  rw [← this, sums_append] at hsum
  omega
theorem flatP_at : ∀ (l : List (Nat × Nat)) (q a b : Nat), l[q]? = some (a, b) → (l.flatMap encP)[q * 2]? = some (.int .u16 (a : Int)) ∧ (l.flatMap encP)[q * 2 + 1]? = some (.int .u8 (b : Int)) := by
  intro l
  induction l with
  | nil => intro q a b h; simp at h
  | cons e l ih =>
    intro q a b h
    cases q with
    | zero => simp at h; subst h; simp [encP]
    | succ q =>
      have := ih q a b (by simpa using h)
      simpa [encP, Nat.add_mul] using this
theorem flatE_at : ∀ (l : List E) (q : Nat) (e : E), l[q]? = some e → (l.flatMap encE)[q * 3]? = some (.int .u32 (e.code : Int)) ∧ (l.flatMap encE)[q * 3 + 1]? = some (.int .u8 (e.len : Int)) ∧ (l.flatMap encE)[q * 3 + 2]? = some (.int .u16 (e.sym : Int)) := by
  intro l
  induction l with
  | nil => intro q e h; simp at h
  | cons a l ih =>
    intro q e h
    cases q with
    | zero => simp at h; subst h; simp [encE]
    | succ q =>
      have := ih q e (by simpa using h)
      simpa [encE, Nat.add_mul] using this
theorem ownK_val {w : World} {B : Nat} {e : TypeId} {size g n cap : Nat} {xs : List Value} (h : Own w B e size (some ⟨g, 0, none⟩) n cap xs) (j : Nat) (v : Value) (hv : xs[j]? = some v) : w.cell? ⟨g, j, none⟩ = some v ∧ w.frozen? ⟨g, j, none⟩ = false := by
  have hj : j < n * size := by rw [← h.len]; exact (List.getElem?_eq_some_iff.1 hv).1
  obtain ⟨g', hg, _, _, hc, hf⟩ := h.cell j hj
  injection hg with hg
  injection hg with hg _
  subst hg
  exact ⟨hc.trans hv, hf⟩
def encN (_ : Unit) : List Value := [.int .u16 0, .int .u16 0, .int .u16 0, .int .u16 0]
theorem noughts4 (n : Nat) : (List.replicate n ()).flatMap encN = cellsN .u16 (List.replicate (n * 4) 0) := by
  induction n with
  | zero => rfl
  | succ n ih =>
    rw [List.replicate_succ, List.flatMap_cons, ih, Nat.add_mul, Nat.one_mul]
    simp [cellsN, encN, List.replicate_succ]
theorem own_codes {w : World} {B g n cap : Nat} {l : List E} (h : Own w B 91 3 (some ⟨g, 0, none⟩) n cap (l.flatMap encE)) (hl : ∀ e ∈ l, e.code < 4294967296 ∧ e.len < 256 ∧ e.sym < 65535) : Codes w g 0 l :=
  ⟨fun i e he => by
    obtain ⟨a1, a2, a3⟩ := flatE_at l i e he
    rw [Nat.zero_add]
    exact ⟨(ownK_val h _ _ a1).1, (ownK_val h _ _ a2).1, (ownK_val h _ _ a3).1⟩, hl⟩
theorem asc_lt (L : List Nat) (h : Full L) (hn : L.length ≤ 258) : ∀ e ∈ asc L 0 (Bwt.order L).reverse, e.code < 4294967296 ∧ e.len < 256 ∧ e.sym < 65535 := fun e he => by
  have hr := (full_tiles L h).range e he
  have hs := size_pos e
  have h32 : (2 : Nat) ^ 32 = 4294967296 := by decide
  obtain ⟨r1, v, r2, h1, h2⟩ := (mem_asc L e _ _).1 he
  have hv : v ∈ Bwt.order L := by rw [← List.mem_reverse, h1]; simp
  rw [(Bwt.order_perm L).mem_iff] at hv
  have hv' := List.mem_range.1 hv
  have hlen : L.getD v 0 ≤ 32 := by
    have : L.getD v 0 = L[v] := by simp [List.getD_eq_getElem?_getD, List.getElem?_eq_getElem hv']
    rw [this]; exact (h.2.1 _ (List.getElem_mem hv')).2
  rw [h2] at hr hs ⊢
  simp only at hr hs ⊢
  exact ⟨by omega, by omega, by omega⟩
set_option maxHeartbeats 2000000 in
theorem newTree_any (A : Option Addr) (cap n : Nat) (L : List Nat) (w : World) (hA : Ints w .u8 A L) (hn : L.length = n) (hF : Full L) (h258 : n ≤ 258) :
    Calls Tryd.prog 32 #[.slice A n cap] w fun e w' => ∃ (G j : Nat) (F : List Nat), e = .returned (.tuple #[.agg #[.slice (some ⟨G, 0, none⟩) n n, .int .i64 (j : Int)], .nilIface]) ∧ Own w' w.heap.size 100 4 (some ⟨G, 0, none⟩) n n (cellsN .u16 F) ∧ Rep F 0 n (tree L) 0 0 ∧ Below w.heap.size w w' := by
  have HL := Lib.hid hn
  have HF := Lib.hid hF
  have h2 : 2 ≤ n := by rw [← hn]; exact hF.1
  have h32 : Hid (∀ i, i < n → 1 ≤ L.getD i 0 ∧ L.getD i 0 ≤ 32) := fun i hi => by
    have hi' : i < L.length := by omega
    have : L.getD i 0 = L[i] := by simp [List.getD_eq_getElem?_getD, List.getElem?_eq_getElem hi']
    rw [this]; exact hF.2.1 _ (List.getElem_mem hi')
  clear hF hn
  have i0 : (2 : Int) ≤ (n : Int) := by omega
  go_enter Tryd.func32, Tryd.ntmps32
  have own0 : Own ((w.alloc (.cells #[.slice none 0 0, .int .i64 0] 72)).alloc (.cells #[.slice none 0 0, .int .i64 0] 72)) w.heap.size 72 1 (some ⟨w.heap.size, 0, none⟩) 2 2 [.slice none 0 0, .int .i64 0] := (own_box w w.heap.size 72 2 #[.slice none 0 0, .int .i64 0] rfl (Nat.le_refl _) (by omega)).alloc _
  have ownT : Own ((w.alloc (.cells #[.slice none 0 0, .int .i64 0] 72)).alloc (.cells #[.slice none 0 0, .int .i64 0] 72)) w.heap.size 72 1 (some ⟨w.heap.size + 1, 0, none⟩) 2 2 [.slice none 0 0, .int .i64 0] := by
    have := own_box (w.alloc (.cells #[.slice none 0 0, .int .i64 0] 72)) w.heap.size 72 2 #[.slice none 0 0, .int .i64 0] rfl (by simp) (by omega)
    simpa using this
  have bel0 : Below w.heap.size w ((w.alloc (.cells #[.slice none 0 0, .int .i64 0] 72)).alloc (.cells #[.slice none 0 0, .int .i64 0] 72)) := ((Below.refl _ _).alloc (Nat.le_refl _) _).alloc (by simp) _
  go_wp2_with (with_reducible refine make_k rfl (.tmp 19) (.tmp 19) 81 rfl w.heap.size 83 (.agg #[.int .u16 0, .int .u8 0]) 2 4 Tryd.underlying81 infoPair (by omega) encP (fun _ => rfl) (by omega) (0, 0) rfl n rfl rfl (by omega) (by simp; omega) ?_; intro w1 own1 grow1; simp only [World.size_alloc] at own1)
  have own01 := own0.kept grow1 (.inr (by simp [blockOf]))
  have ownT1 := ownT.kept grow1 (.inr (by simp [blockOf]))
  have bel1 := below_grown (A := none) bel0 grow1 (by simp; omega) (fun g hg => by cases hg)
  clear own0 ownT bel0 grow1
  obtain ⟨P0, hP0⟩ : ∃ P0, List.replicate n ((0, 0) : Nat × Nat) = P0 := ⟨_, rfl⟩
  rw [hP0] at own1
  have HP0 : Hid (P0.length = n) := by show P0.length = n; rw [← hP0]; simp
  clear hP0
  go_loopw [6, 7, 23] (fun u6 u7 iv wr => ∃ (i : Nat) (l : List (Nat × Nat)), i ≤ n ∧ iv = .int .i64 i ∧ Hid (l.length = n) ∧ Hid (∀ j, j < i → l[j]? = some (j, L.getD j 0)) ∧ Own wr w.heap.size 83 2 (some ⟨w.heap.size + 1 + 1, 0, none⟩) n n (l.flatMap encP) ∧ Own wr w.heap.size 72 1 (some ⟨w.heap.size, 0, none⟩) 2 2 [.slice none 0 0, .int .i64 0] ∧ Own wr w.heap.size 72 1 (some ⟨w.heap.size + 1, 0, none⟩) 2 2 [.slice none 0 0, .int .i64 0] ∧ Below w.heap.size w wr) (fun _ _ iv _ => n - (intOf iv).toNat)
  case atStart => exact ⟨0, P0, by omega, rfl, HP0, fun j hj => absurd hj (by omega), own1, own01, ownT1, bel1⟩
  case round =>
    clear own1 own01 ownT1 bel1 HP0
    obtain ⟨i, l, hi, rfl, HLL, HLV, own1, own0, ownT, bel⟩ := hrel
    by_cases hlt : i < n
    · obtain ⟨b1, o1, rfl, hb1, hc1⟩ := hA i (by rw [HL.out]; exact hlt)
      have hd1 := (bel.cell (p := ⟨b1, o1 + i, none⟩) hb1).trans hc1
      have hy := (h32.out i hlt).2
      obtain ⟨y, hye⟩ : ∃ y, L.getD i 0 = y := ⟨_, rfl⟩
      rw [hye] at hd1 hy
      have HYE := Lib.hid hye
      clear hye hc1
      have st1 := OwnK.stored own1 (i * 2) (.int .u16 (i : Int))
      have st2 := OwnK.stored st1.1 (i * 2 + 1) (.int .u8 (y : Int))
      obtain ⟨v1, k1, f1⟩ := ownK_some own1 (i * 2) (by omega)
      obtain ⟨v2, k2, f2⟩ := ownK_some own1 (i * 2 + 1) (by omega)
      have hsz := bel.size
      rw [setP l i i y (by rw [HLL.out]; exact hlt)] at st2
      have HST := Lib.hid (And.intro st2.1 (st1.2.trans st2.2))
      clear st1 st2
      go_wp2_with fail
      go_roundw
      case rel =>
        have hg := HST.out.2
        refine ⟨i + 1, _, by omega, by go_num, (by show (l.set i (i, y)).length = n; rw [List.length_set, HLL.out]), fun j hj => ?_, HST.out.1, own0.kept hg (.inr (by simp [blockOf]; omega)), ownT.kept hg (.inr (by simp [blockOf])), below_grown bel hg hsz (fun g hg => by simp [blockOf] at hg; omega)⟩
        by_cases e : j = i
        · subst e
          rw [List.getElem?_set_self (by rw [HLL.out]; exact hlt), HYE.out]
        · rw [List.getElem?_set_ne (Ne.symm e)]
          exact HLV.out j (by omega)
      case measure => simp [intOf]; omega
    · obtain rfl : i = n := by omega
      have HP : Hid (l = pairs L) := by
        apply List.ext_getElem?
        intro j
        by_cases hj : j < i
        · rw [HLV.out j hj]
          simp [pairs, HL.out, hj]
        · rw [List.getElem?_eq_none (by rw [HLL.out]; omega), List.getElem?_eq_none (by simp [pairs, HL.out]; omega)]
      rw [HP.out] at own1
      clear HLL HLV HP
      go_wp2_with fail
      refine (sortPair_any own1 (by omega)).mono ?_
      rintro e w3 ⟨rfl, l3, hp3, hs3, own3, grow3⟩
      have hl3 := sorted_pairs L l3 hp3 hs3
      subst hl3
      have hsz := bel.size
      have own03 := own0.kept grow3 (.inr (by simp [blockOf]; omega))
      have ownT3 := ownT.kept grow3 (.inr (by simp [blockOf]))
      have bel3 := below_grown (A := some ⟨w.heap.size + 1 + 1, 0, none⟩) bel grow3 hsz (fun g hg => by simp [blockOf] at hg; omega)
      clear own1 own0 ownT bel grow3 hp3 hs3 l hlt hi hsz
      have hsz := bel3.size
      obtain ⟨o, ho⟩ : ∃ o, Bwt.order L = o := ⟨_, rfl⟩
      have HO := Lib.hid ho
      go_wp2_with (with_reducible refine make_k rfl (.tmp 43) (.tmp 43) 89 rfl w.heap.size 91 (.agg #[.int .u32 0, .int .u8 0, .int .u16 0]) 3 8 Tryd.underlying89 infoCode (by omega) encE (fun _ => rfl) (by omega) (⟨0, 0, 0⟩ : E) rfl i rfl rfl (by omega) hsz ?_; intro w4 own4 grow4)
      have own34 := own3.kept grow4 (.inr (by simp [blockOf]))
      have own04 := own03.kept grow4 (.inr (by simp [blockOf]))
      have ownT4 := ownT3.kept grow4 (.inr (by simp [blockOf]))
      have bel4 := below_grown (A := none) bel3 grow4 hsz (fun g hg => by cases hg)
      have hg2 : w.heap.size + 1 + 1 < w3.heap.size := (own3.block _ rfl).2
      obtain ⟨g2, hge⟩ : ∃ g2, w3.heap.size = g2 := ⟨_, rfl⟩
      rw [hge] at own4 hg2 ⊢
      obtain ⟨C0, hC0⟩ : ∃ C0, List.replicate i (⟨0, 0, 0⟩ : E) = C0 := ⟨_, rfl⟩
      rw [hC0] at own4
      have HC0 : Hid (C0.length = i) := by show C0.length = i; rw [← hC0]; simp
      clear hC0 own3 own03 ownT3 bel3 grow4 hsz hge
      have hol : o.length = i := by rw [← ho, Bwt.order_length, HL.out]
      have HOL := Lib.hid hol
      have hroom := room_le L HF.out
      rw [ho] at hroom
      have HROOM := Lib.hid hroom
      have HSORT : Hid (o.Pairwise fun a b => Bwt.ahead L a b = true) := by
        show o.Pairwise _
        rw [← ho]; exact Bwt.order_sorted L
      have HOM : Hid (∀ q v, o[q]? = some v → v < i) := fun q v h => by
        have h1 := List.mem_of_getElem? h
        rw [← ho, (Bwt.order_perm L).mem_iff] at h1
        have := List.mem_range.1 h1
        rw [HL.out] at this; exact this
      have hnil : sums L (o.drop i) = 0 := by rw [List.drop_of_length_le (by omega)]; rfl
      have HNIL := Lib.hid hnil
      clear hol hroom hnil ho
      go_wp2_with fail
      go_loopw [8, 9, 11] (fun u8 u9 iv wr => ∃ (r y c : Nat) (C : List E), r ≤ i ∧ iv = .int .i64 ((r : Int) - 1) ∧ u8 = .int .u32 (c : Int) ∧ u9 = .int .u8 (y : Int) ∧ y ≤ 32 ∧ Hid (c = sums L (o.drop r) % 4294967296) ∧ Hid (∀ q v, q < r → o[q]? = some v → L.getD v 0 ≤ y) ∧ Hid (C.length = i) ∧ Hid (∀ q, r ≤ q → q < i → C[q]? = (dsc L o)[q]?) ∧ Own wr w.heap.size 83 2 (some ⟨w.heap.size + 1 + 1, 0, none⟩) i i ((spairs L).flatMap encP) ∧ Own wr w.heap.size 91 3 (some ⟨g2, 0, none⟩) i i (C.flatMap encE) ∧ Own wr w.heap.size 72 1 (some ⟨w.heap.size, 0, none⟩) 2 2 [.slice none 0 0, .int .i64 0] ∧ Own wr w.heap.size 72 1 (some ⟨w.heap.size + 1, 0, none⟩) 2 2 [.slice none 0 0, .int .i64 0] ∧ Below w.heap.size w wr) (fun _ _ iv _ => (intOf iv + 1).toNat)
      case atStart => exact ⟨i, 32, 0, C0, Nat.le_refl _, rfl, rfl, rfl, by omega, (by show 0 = _; rw [HNIL.out]), fun q v hq hv => (h32.out v (HOM.out q v hv)).2, HC0, fun q h1 h2 => absurd h2 (by omega), own34, own4, own04, ownT4, bel4⟩
      case round =>
        clear own34 own4 own04 ownT4 bel4 HC0
        obtain ⟨r, y, c, C, hr, hiv, rfl, rfl, hy32, HC, HY, HCL, HCV, own1, own2, own0, ownT, bel⟩ := hrel
        rcases Nat.eq_zero_or_pos r with h0 | hpos
        · subst h0
          subst hiv
          have hC : C = dsc L o := by
            apply List.ext_getElem?
            intro q
            by_cases hq : q < i
            · exact HCV.out q (Nat.zero_le _) hq
            · rw [List.getElem?_eq_none (by rw [HCL.out]; omega), List.getElem?_eq_none (by rw [dsc_length, HOL.out]; omega)]
          subst hC
          have hbs := bel.size
          have i6 : ¬ (0 : Int) ≤ ((0 : Nat) : Int) - 1 := by omega
          clear HC HY HCL HCV own1 hr
          go_wp2_with fail
          refine (sortCode_any own2 (by omega)).mono ?_
          rintro e w5 ⟨rfl, cs, hp5, hs5, own5, grow5⟩
          have hcs : cs = asc L 0 o.reverse := by
            have := sorted_codes L HF.out cs (by rw [HO.out]; exact hp5) hs5
            rw [HO.out] at this; exact this
          have own05 := own0.kept grow5 (.inr (by simp [blockOf]; omega))
          have ownT5 := ownT.kept grow5 (.inr (by simp [blockOf]; omega))
          have bel5 := below_grown (A := some ⟨g2, 0, none⟩) bel grow5 hbs (fun g hg => by simp [blockOf] at hg; omega)
          clear own2 own0 ownT bel grow5 hp5 hs5 hbs
          have hbs := bel5.size
          have hg5 := (own5.block _ rfl).2
          go_wp2_with (refine make_k rfl (.tmp 91) (.tmp 91) 70 rfl w.heap.size 100 (.agg #[.int .u16 0, .int .u16 0, .int .u16 0, .int .u16 0]) 4 8 Tryd.underlying70 infoNode (by omega) encN (fun _ => rfl) (by omega) () rfl i (by rfl) (by rfl) (by omega) hbs ?_; intro w6 own6 grow6; rw [noughts4] at own6; have own56 := own5.kept grow6 (.inr (by simp [blockOf])); have own06 := own05.kept grow6 (.inr (by simp [blockOf])); have ownT6 := ownT5.kept grow6 (.inr (by simp [blockOf])); have bel6 := below_grown (A := none) bel5 grow6 hbs (fun g hg => by cases hg); obtain ⟨y0, z0⟩ := own_val ownT6 0 _ rfl (by omega); obtain ⟨y1, z1⟩ := own_val ownT6 1 _ rfl (by omega))
          have hgT : w.heap.size + 1 < w5.heap.size := (ownT5.block _ rfl).2
          have hg6 := (own6.block _ rfl).2
          have st := OwnK.stored ownT6 0 (.slice (some ⟨w5.heap.size, 0, none⟩) i i)
          have hbox : Tb (w6.setCell ⟨w.heap.size + 1, 0, none⟩ (.slice (some ⟨w5.heap.size, 0, none⟩) i i)) w.heap.size (w.heap.size + 1) w5.heap.size i 0 (List.replicate (i * 4) 0) := ⟨st.1, own6.kept st.2 (.inr (by simp [blockOf]; omega)), by omega⟩
          have own57 := own56.kept st.2 (.inr (by simp [blockOf]; omega))
          have own07 := own06.kept st.2 (.inr (by simp [blockOf]))
          have bel7 := below_grown bel6 st.2 bel6.size (fun g hg => by simp [blockOf] at hg; omega)
          generalize w6.setCell ⟨w.heap.size + 1, 0, none⟩ (.slice (some ⟨w5.heap.size, 0, none⟩) i i) = w7 at hbox own57 own07 bel7 ⊢
          have hcl : cs.length = i := by
            rw [hcs, asc_length, List.length_reverse, HOL.out]
          have hcodes := own_codes own57 (by rw [hcs, ← HO.out]; exact asc_lt L HF.out (by rw [HL.out]; exact h258))
          have hT := full_tiles L HF.out
          rw [HO.out, ← hcs] at hT
          have hg7 := (own57.block _ rfl).2
          have hcall := build_any i (w.heap.size + 1) w5.heap.size w.heap.size h258 31 0 cs g2 0 i 0 _ w7 (by omega) hT (by simp) (by decide) (by omega) (by omega) h258 hcodes (by omega) (by omega) hg7 hbox (by omega)
          rw [hcl] at hcall
          clear own5 own05 ownT5 bel5 grow6 own6 own56 own06 ownT6 bel6 y0 z0 y1 z1 st
          refine (hcall).mono ?_
          rintro e w8 ⟨rfl, F8, hTb8, _, hR8, hK8⟩
          have own08 := hK8.own own07 (by simp [blockOf]) (by simp [blockOf]; omega)
          have bel8 := hK8.below bel7 (by omega) (by omega) bel7.size
          have HR8 : Hid (Rep F8 0 i (tree L) 0 0) := by
            show Rep F8 0 i (build 32 0 (asc L 0 (Bwt.order L).reverse)) 0 0
            rw [HO.out, ← hcs]
            exact Rep.mono (Nat.le_refl _) (by omega) _ _ _ hR8
          have HT8 := Lib.hid hTb8
          obtain ⟨y0, z0⟩ := own_val hTb8.box 0 _ rfl (by omega)
          obtain ⟨y1, z1⟩ := own_val hTb8.box 1 _ rfl (by omega)
          obtain ⟨x0, u0⟩ := own_val own08 0 _ rfl (by omega)
          obtain ⟨x1, u1⟩ := own_val own08 1 _ rfl (by omega)
          have st1 := OwnK.stored own08 0 (.slice (some ⟨w5.heap.size, 0, none⟩) i i)
          have st2 := OwnK.stored st1.1 1 (.int .i64 ((0 + i - 1 : Nat) : Int))
          have HST := Lib.hid (st1.2.trans st2.2)
          have HN8 := Lib.hid hTb8.row
          clear hR8 hK8 hTb8 own07 own57 hbox bel7 hcodes hT hcall HSORT HOM HROOM HNIL st1 st2
          go_wp2_with fail
          have hsz8 := bel8.size
          have hh0 : w.heap.size < w8.heap.size := (own08.block _ rfl).2
          refine bodyPost_ret (v := .tuple #[.agg #[.slice (some ⟨w5.heap.size, 0, none⟩) i i, .int .i64 ((i - 1 : Nat) : Int)], .nilIface]) ?_ rfl ⟨w5.heap.size, i - 1, F8, rfl, ?_, HR8.out, ?_⟩
          · rw [results_cell_tmp rfl]
            go_simp
          · refine Own.kept HN8.out (row := some w.heap.size) ?_ (.inr (by simp [blockOf]; omega))
            simpa [blockOf] using HST.out
          · refine below_grown (A := some ⟨w.heap.size, 0, none⟩) bel8 ?_ hsz8 (fun g hg => by simp [blockOf] at hg; omega)
            simpa [blockOf] using HST.out
        · obtain ⟨q, rfl⟩ : ∃ q, r = q + 1 := ⟨r - 1, by omega⟩
          rw [show ((q + 1 : Nat) : Int) - 1 = (q : Int) by omega] at hiv
          subst hiv
          have hqo : q < o.length := by rw [HOL.out]; omega
          obtain ⟨v, hv⟩ : ∃ v, o[q]? = some v := ⟨_, List.getElem?_eq_getElem hqo⟩
          have hvi := HOM.out q v hv
          have hrs := room_step L o q v hv
          have hrl := HROOM.out q
          have hle := HY.out q v (by omega) hv
          have hl1 := (h32.out v hvi).1
          obtain ⟨x, hx⟩ : ∃ x, L.getD v 0 = x := ⟨_, rfl⟩
          have hsz : sz L v = 2 ^ (32 - x) := by rw [← hx]; rfl
          rw [hsz] at hrs
          have hda := dsc_at L o q v hv
          rw [hx] at hle hl1 hda
          have hcv := HC.out
          obtain ⟨s, hs⟩ : ∃ s, sums L (o.drop (q + 1)) = s := ⟨_, rfl⟩
          rw [hs] at hrs hda hcv
          have hp1 := Nat.two_pow_pos (32 - x)
          obtain ⟨z, hz⟩ : ∃ z, 32 - x = z := ⟨_, rfl⟩
          rw [hz] at hrs hp1
          have htv := test_val z (by omega)
          obtain ⟨p, hp⟩ : ∃ p, 2 ^ z = p := ⟨_, rfl⟩
          rw [hp] at hrs hp1 htv
          have h32' : (2 : Nat) ^ 32 = 4294967296 := by decide
          rw [h32'] at hrl
          have hcs : c = s := by rw [hcv, Nat.mod_eq_of_lt (by omega)]
          subst hcs
          have i5 : (32 : Int) - (x : Int) = (z : Int) := by omega
          have i6 : (0 : Int) ≤ (q : Int) := by omega
          have i7 : (q : Int) < (i : Int) := by omega
          have hsp : (spairs L)[q]? = some (v, x) := by
            have e1 : (Bwt.order L)[q]? = some v := by rw [HO.out]; exact hv
            rw [← hx]; simp [spairs, e1]
          obtain ⟨a1, a2⟩ := flatP_at _ q v x hsp
          obtain ⟨k1, _⟩ := ownK_val own1 _ _ a1
          obtain ⟨k2, _⟩ := ownK_val own1 _ _ a2
          obtain ⟨v3, k3, f3⟩ := ownK_some own2 (q * 3) (by omega)
          obtain ⟨v4, k4, f4⟩ := ownK_some own2 (q * 3 + 1) (by omega)
          obtain ⟨v5, k5, f5⟩ := ownK_some own2 (q * 3 + 2) (by omega)
          have st1 := OwnK.stored own2 (q * 3) (.int .u32 (c : Int))
          have st2 := OwnK.stored st1.1 (q * 3 + 1) (.int .u8 (x : Int))
          have st3 := OwnK.stored st2.1 (q * 3 + 2) (.int .u16 (v : Int))
          rw [setE C q c x v (by rw [HCL.out]; omega)] at st3
          have HST := Lib.hid (And.intro st3.1 (st1.2.trans (st2.2.trans st3.2)))
          have hgt : ¬ w.heap.size + 1 + 1 = g2 := by omega
          have HRS := Lib.hid hrs
          have HDA := Lib.hid hda
          have HY2 : Hid (∀ q' v', q' < q → o[q']? = some v' → L.getD v' 0 ≤ x) := fun q' v' h1 h2 => by
            have hq' := (List.getElem?_eq_some_iff.1 h2).1
            have hh := List.pairwise_iff_getElem.1 HSORT.out q' q hq' hqo h1
            have e1 : o[q'] = v' := by have := List.getElem?_eq_getElem hq'; rw [h2] at this; injection this with this; exact this.symm
            have e2 : o[q] = v := by have := List.getElem?_eq_getElem hqo; rw [hv] at this; injection this with this; exact this.symm
            rw [e1, e2] at hh
            simp only [Bwt.ahead, Bool.or_eq_true, Bool.and_eq_true, decide_eq_true_eq, beq_iff_eq] at hh
            omega
          have hbs := bel.size
          have hv258 : v < 258 := by omega
          clear st1 st2 st3 a1 a2 hsp hs hrs hrl hda hcv hp hz hsz hx h32' HY HC
          rcases Nat.lt_or_eq_of_le hle with hgt2 | heq
          · go_wp2_with fail
            go_roundw
            case rel =>
              have hg := HST.out.2
              refine ⟨q, x, (c + p) % 4294967296, _, by omega, by go_num, ?_, rfl, by omega, (by rw [HRS.out]; rfl), HY2.out, (by show (C.set q _).length = i; rw [List.length_set, HCL.out]), fun q' h1 h2 => ?_, own1.kept hg (.inr (by simp [blockOf]; omega)), HST.out.1, own0.kept hg (.inr (by simp [blockOf]; omega)), ownT.kept hg (.inr (by simp [blockOf]; omega)), below_grown bel hg hbs (fun g hg => by simp [blockOf] at hg; omega)⟩
              · first | rfl | go_num | (congr 1; rw [IntKind.wrap_u32]; omega) | (congr 1; omega)
              · by_cases e : q' = q
                · subst e
                  rw [List.getElem?_set_self (by rw [HCL.out]; exact h2), HDA.out]
                · rw [List.getElem?_set_ne (Ne.symm e)]
                  exact HCV.out q' (by omega) h2
            case measure => simp [intOf]
          · subst heq
            go_wp2_with fail
            go_roundw
            case rel =>
              have hg := HST.out.2
              refine ⟨q, x, (c + p) % 4294967296, _, by omega, by go_num, ?_, rfl, by omega, (by rw [HRS.out]; rfl), HY2.out, (by show (C.set q _).length = i; rw [List.length_set, HCL.out]), fun q' h1 h2 => ?_, own1.kept hg (.inr (by simp [blockOf]; omega)), HST.out.1, own0.kept hg (.inr (by simp [blockOf]; omega)), ownT.kept hg (.inr (by simp [blockOf]; omega)), below_grown bel hg hbs (fun g hg => by simp [blockOf] at hg; omega)⟩
              · first | rfl | go_num | (congr 1; rw [IntKind.wrap_u32]; omega) | (congr 1; omega)
              · by_cases e : q' = q
                · subst e
                  rw [List.getElem?_set_self (by rw [HCL.out]; exact h2), HDA.out]
                · rw [List.getElem?_set_ne (Ne.symm e)]
                  exact HCV.out q' (by omega) h2
            case measure => simp [intOf]
end Go.Proofs.YtdhehnjidakfcaaDoor

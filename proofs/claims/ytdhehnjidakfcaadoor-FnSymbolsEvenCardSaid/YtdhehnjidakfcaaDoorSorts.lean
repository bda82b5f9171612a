/- The two sorts of the tree maker: their closures walked, their rows owned. -/
import Derived.Test.YtdhehnjidakfcaaDoorShelf
import Derived.Test.YtdhehnjidakfcaaDoorBuildWalk
import Derived.Lib.Small
namespace Go.Proofs.YtdhehnjidakfcaaDoor
open Go.RowKit Huff Go.Sort
set_option maxHeartbeats 400000
set_option maxRecDepth 4000
set_option linter.unusedVariables false
set_option linter.unusedSimpArgs false
/- cells of k-cell elements, one behind the other -/
theorem flat_at {α : Type} [Inhabited α] (enc : α → List Value) (k : Nat) (hk : ∀ x, (enc x).length = k) (h0 : 0 < k) : ∀ (l : List α) (t : Nat), t < l.length * k → (l.flatMap enc)[t]? = some ((enc (l.toArray[t / k]!))[t % k]!) := by
  intro l
  induction l with
  | nil => intro t h; simp at h
  | cons a l ih =>
    intro t h
    rw [List.flatMap_cons]
    rcases Nat.lt_or_ge t k with h1 | h1
    · rw [List.getElem?_append_left (by rw [hk]; exact h1), Nat.div_eq_of_lt h1, Nat.mod_eq_of_lt h1]
      have : (a :: l).toArray[0]! = a := by simp
      rw [this, List.getElem?_eq_getElem (by rw [hk]; exact h1), getElem!_pos _ _ (by rw [hk]; exact h1)]
    · rw [List.getElem?_append_right (by rw [hk]; exact h1), hk]
      have e1 : t / k = (t - k) / k + 1 := by rw [← Nat.add_div_right _ h0, Nat.sub_add_cancel h1]
      have e2 : t % k = (t - k) % k := by rw [← Nat.add_mod_right (t - k) k, Nat.sub_add_cancel h1]
      have hlt : t - k < l.length * k := by
        rw [List.length_cons, Nat.add_mul, Nat.one_mul] at h; omega
      rw [ih (t - k) hlt, e1, e2]
      congr 2
      have h3 : (t - k) / k < l.length := by
        rw [Nat.div_lt_iff_lt_mul h0]; exact hlt
      simp [h3]
theorem flat_length {α : Type} (enc : α → List Value) (k : Nat) (hk : ∀ x, (enc x).length = k) (l : List α) : (l.flatMap enc).length = l.length * k := by
  induction l with
  | nil => simp
  | cons a l ih => rw [List.flatMap_cons, List.length_append, hk, ih, List.length_cons, Nat.add_mul, Nat.one_mul, Nat.add_comm]
theorem flatK_list {α : Type} [Inhabited α] (enc : α → List Value) (k : Nat) (hk : ∀ x, (enc x).length = k) (h0 : 0 < k) (l : List α) : (flatK enc k l.toArray).toList = l.flatMap enc := by
  apply List.ext_getElem?
  intro t
  by_cases h : t < l.length * k
  · rw [flat_at enc k hk h0 l t h]
    have hs : t < (flatK enc k l.toArray).size := by simpa using h
    rw [Array.getElem?_toList, Array.getElem?_eq_getElem hs]
    have := get_flatK enc k l.toArray t (by simpa using h)
    rw [getElem!_pos _ t hs] at this
    rw [this]
  · rw [List.getElem?_eq_none (show (flatK enc k l.toArray).toList.length ≤ t by simp; omega), List.getElem?_eq_none (show (l.flatMap enc).length ≤ t by rw [flat_length enc k hk]; omega)]
theorem holdsK_own {α : Type} [Inhabited α] (enc : α → List Value) (k : Nat) (hk : ∀ x, (enc x).length = k) (h0 : 0 < k) {w : World} {B : Nat} {e : TypeId} {g n cap : Nat} {l : List α} (h : Own w B e k (some ⟨g, 0, none⟩) n cap (l.flatMap enc)) : l.length = n ∧ HoldsK enc k w g 0 l.toArray := by
  have hl : l.length = n := by
    have := h.len
    rw [flat_length enc k hk] at this
    exact Nat.eq_of_mul_eq_mul_right h0 this
  refine ⟨hl, fun j hj => ?_⟩
  have hj' : j < n * k := by rw [← hl]; simpa using hj
  obtain ⟨g', hg, _, _, hc, hf⟩ := h.cell j hj'
  injection hg with hg
  injection hg with hg _
  subst hg
  rw [Nat.zero_add]
  refine ⟨?_, hf⟩
  rw [hc, ← flatK_list enc k hk h0, Array.getElem?_toList, Array.getElem?_eq_getElem hj, getElem!_pos _ j hj]
  rfl
theorem own_put {w : World} {B : Nat} {e : TypeId} {k g n cap m : Nat} {xs : List Value} (F : Array Value) (os : Array Obj) (h : Own w B e k (some ⟨g, 0, none⟩) n cap xs) (hF : F.size = n * k) :
    Own (grow (putRow id (Sort.ahead w m) g 0 F) os) B e k (some ⟨g, 0, none⟩) n cap F.toList ∧ w.grownBy (grow (putRow id (Sort.ahead w m) g 0 F) os) (some g) := by
  have hlt := (h.block g rfl).2
  constructor
  · rcases h.2 with ⟨e0, _⟩ | ⟨g', cap', cur, e0, hb, hg, hn, hm, hs, ht⟩
    · cases e0
    · injection e0 with e1 _ e3
      injection e1 with e1
      injection e1 with e1
      subst e1; subst e3
      have hle : n * k ≤ cap * k := Nat.mul_le_mul_right k hn
      refine ⟨by simp [hF], .inr ⟨g, cap, putCells id 0 F cur, rfl, hb, ?_, hn, hm, by simpa [putCells] using hs, ?_⟩⟩
      · rw [heap_grow_old _ _ (by simpa [putRow, mapBlock, Sort.ahead] using hlt)]
        simp [putRow, mapBlock, Sort.ahead, Array.getElem?_modify, hg, onCells]
      · apply List.ext_getElem?
        intro j
        rw [List.getElem?_take, Array.getElem?_toList, Array.getElem?_toList]
        by_cases hj : j < n * k
        · have hjc : j < cur.size := by omega
          simp only [if_pos hj, putCells, Array.getElem?_mapIdx, Array.getElem?_eq_getElem hjc, Option.map_some]
          rw [if_pos (by omega), Array.getElem?_eq_getElem (by omega), Nat.sub_zero, getElem!_pos _ j (by omega)]
          rfl
        · rw [if_neg hj, Array.getElem?_eq_none (by omega)]
  · refine ⟨rfl, rfl, rfl, by simp [putRow, mapBlock, Sort.ahead], fun i hi hne => ?_⟩
    rw [heap_grow_old _ _ (by simpa [putRow, mapBlock, Sort.ahead] using hi)]
    have : g ≠ i := fun e => hne (by rw [e])
    simp [putRow, mapBlock, Sort.ahead, Array.getElem?_modify, this]
theorem sorted_list {α : Type} [Inhabited α] (lt : α → α → Bool) (d : Array α) (n : Nat) (hn : d.size = n) (h : SortedIn lt 0 n d) : d.toList.Pairwise fun a b => lt b a = false := by
  rw [List.pairwise_iff_getElem]
  intro i j hi hj hij
  have hi' : i < d.size := by simpa using hi
  have hj' : j < d.size := by simpa using hj
  have := h i j (Nat.zero_le _) hij (by omega)
  rw [getElem!_pos d i hi', getElem!_pos d j hj'] at this
  simpa using this
/- the two closures -/
theorem isNaN8 (x : Int) (w : World) : Calls Tryd.prog 45 #[.int .u8 x] w fun e w' => e = .returned (.bool false) ∧ w' = w := by
  go_enter Tryd.func45, Tryd.ntmps45
  go_wp2
  go_ret
  exact ⟨by simp, rfl⟩
theorem isNaN16 (x : Int) (w : World) : Calls Tryd.prog 46 #[.int .u16 x] w fun e w' => e = .returned (.bool false) ∧ w' = w := by
  go_enter Tryd.func46, Tryd.ntmps46
  go_wp2
  go_ret
  exact ⟨by simp, rfl⟩
theorem isNaN32 (x : Int) (w : World) : Calls Tryd.prog 48 #[.int .u32 x] w fun e w' => e = .returned (.bool false) ∧ w' = w := by
  go_enter Tryd.func48, Tryd.ntmps48
  go_wp2
  go_ret
  exact ⟨by simp, rfl⟩
theorem cmp8 (x y : Int) (w : World) : Calls Tryd.prog 36 #[.int .u8 x, .int .u8 y] w fun e w' => e = .returned (.int .i64 (Lib.compareInt x y)) ∧ w' = w := by
  go_enter Tryd.func36, Tryd.ntmps36
  go_wp2_with (go_at_call 45; refine (isNaN8 _ _).mono ?_; rintro e w' ⟨rfl, hw⟩; rw [hw])
  all_goals (go_ret; refine ⟨?_, rfl⟩; unfold Lib.compareInt; (repeat' split) <;> first | rfl | (exfalso; omega))
theorem cmp16 (x y : Int) (w : World) : Calls Tryd.prog 37 #[.int .u16 x, .int .u16 y] w fun e w' => e = .returned (.int .i64 (Lib.compareInt x y)) ∧ w' = w := by
  go_enter Tryd.func37, Tryd.ntmps37
  go_wp2_with (go_at_call 46; refine (isNaN16 _ _).mono ?_; rintro e w' ⟨rfl, hw⟩; rw [hw])
  all_goals (go_ret; refine ⟨?_, rfl⟩; unfold Lib.compareInt; (repeat' split) <;> first | rfl | (exfalso; omega))
theorem cmp32 (x y : Int) (w : World) : Calls Tryd.prog 40 #[.int .u32 x, .int .u32 y] w fun e w' => e = .returned (.int .i64 (Lib.compareInt x y)) ∧ w' = w := by
  go_enter Tryd.func40, Tryd.ntmps40
  go_wp2_with (go_at_call 48; refine (isNaN32 _ _).mono ?_; rintro e w' ⟨rfl, hw⟩; rw [hw])
  all_goals (go_ret; refine ⟨?_, rfl⟩; unfold Lib.compareInt; (repeat' split) <;> first | rfl | (exfalso; omega))
/-- a pair: its symbol, its length -/
def encP (x : Nat × Nat) : List Value := [.int .u16 (x.1 : Int), .int .u8 (x.2 : Int)]
def encE (e : E) : List Value := [.int .u32 (e.code : Int), .int .u8 (e.len : Int), .int .u16 (e.sym : Int)]
instance : Inhabited E := ⟨⟨0, 0, 0⟩⟩
def cfP (x y : Nat × Nat) : Int := if Lib.compareInt (x.2 : Int) (y.2 : Int) = 0 then Lib.compareInt (x.1 : Int) (y.1 : Int) else Lib.compareInt (x.2 : Int) (y.2 : Int)
def cfE (x y : E) : Int := Lib.compareInt (x.code : Int) (y.code : Int)
theorem cmp_lt (a b : Nat) : (Lib.compareInt (a : Int) (b : Int) < 0) = (a < b) := by
  unfold Lib.compareInt
  repeat' split
  all_goals (simp; try omega)
theorem cmp_zero (a b : Nat) : (Lib.compareInt (a : Int) (b : Int) = 0) = (a = b) := by
  unfold Lib.compareInt
  repeat' split
  all_goals (simp; try omega)
def ltP (x y : Nat × Nat) : Bool := decide (x.2 < y.2) || (x.2 == y.2 && decide (x.1 < y.1))
def ltE (x y : E) : Bool := decide (x.code < y.code)
theorem ltOf_P : ltOf cfP = ltP := by
  funext x y
  unfold ltOf cfP ltP
  by_cases h : x.2 = y.2
  · rw [if_pos ((cmp_zero _ _).mpr h), Bool.eq_iff_iff]
    simp [cmp_lt, h]
  · rw [if_neg (fun e => h ((cmp_zero _ _).mp e)), Bool.eq_iff_iff]
    simp [cmp_lt, h]
theorem ltOf_E : ltOf cfE = ltE := by
  funext x y
  unfold ltOf cfE ltE
  rw [Bool.eq_iff_iff]
  simp [cmp_lt]
theorem swoP : SWO (ltOf cfP) := by
  rw [ltOf_P]
  refine ⟨fun x => by simp [ltP], fun x y z h1 h2 => ?_, fun x y z h1 h2 => ?_⟩ <;> simp [ltP] at * <;> omega
theorem swoE : SWO (ltOf cfE) := by
  rw [ltOf_E]
  refine ⟨fun x => by simp [ltE], fun x y z h1 h2 => ?_, fun x y z h1 h2 => ?_⟩ <;> simp [ltE] at * <;> omega
theorem closure35 (x y : Nat × Nat) (W : World) : Calls Tryd.prog 35 #[.agg #[.int .u16 (x.1 : Int), .int .u8 (x.2 : Int)], .agg #[.int .u16 (y.1 : Int), .int .u8 (y.2 : Int)]] W fun e w' => e = .returned (.int .i64 (cfP x y)) ∧ ∃ q os', w' = grow (W.drewN q) os' := by
  have h8 := cmp8 (x.2 : Int) (y.2 : Int)
  have h16 := cmp16 (x.1 : Int) (y.1 : Int)
  unfold cfP
  generalize Lib.compareInt (x.2 : Int) (y.2 : Int) = r1 at h8 ⊢
  generalize Lib.compareInt (x.1 : Int) (y.1 : Int) = r2 at h16 ⊢
  go_enter Tryd.func35, Tryd.ntmps35
  go_wp2_with (first | (go_at_call 36; refine (h8 _).mono ?_; rintro e w' ⟨rfl, rfl⟩) | (go_at_call 37; refine (h16 _).mono ?_; rintro e w' ⟨rfl, rfl⟩))
  all_goals (go_ret; refine ⟨?_, 0, _, by rw [alloc_eq_grow, alloc_eq_grow, grow_grow]; rfl⟩; simp_all)
theorem closure39 (x y : E) (W : World) : Calls Tryd.prog 39 #[.agg #[.int .u32 (x.code : Int), .int .u8 (x.len : Int), .int .u16 (x.sym : Int)], .agg #[.int .u32 (y.code : Int), .int .u8 (y.len : Int), .int .u16 (y.sym : Int)]] W fun e w' => e = .returned (.int .i64 (cfE x y)) ∧ ∃ q os', w' = grow (W.drewN q) os' := by
  have h32 := cmp32 (x.code : Int) (y.code : Int)
  unfold cfE
  generalize Lib.compareInt (x.code : Int) (y.code : Int) = r1 at h32 ⊢
  go_enter Tryd.func39, Tryd.ntmps39
  go_wp2_with (go_at_call 40; refine (h32 _).mono ?_; rintro e w' ⟨rfl, rfl⟩)
  go_ret
  exact ⟨rfl, 0, _, by rw [alloc_eq_grow, alloc_eq_grow, grow_grow]; rfl⟩
/- the two sorts -/
theorem sort_own {α : Type} [Inhabited α] (f e k g : Nat) (enc : α → List Value) (hk : ∀ x, (enc x).length = k) (h0 : 0 < k) (lt : α → α → Bool) (args : Array Value)
    {B gb n cap : Nat} {l : List α} {w : World} (h : Own w B e k (some ⟨gb, 0, none⟩) n cap (l.flatMap enc))
    (hc : HoldsK enc k w gb 0 l.toArray → gb < w.heap.size → Calls Tryd.prog f args w fun e w' => e = .returned (.tuple #[]) ∧ ∃ d' m os, PermIn 0 l.toArray.size l.toArray d' ∧ SortedIn lt 0 l.toArray.size d' ∧ w' = sortWorldK enc k w gb 0 m d' os) :
    Calls Tryd.prog f args w fun r w' => r = .returned (.tuple #[]) ∧ ∃ l' : List α, l'.Perm l ∧ l'.Pairwise (fun a b => lt b a = false) ∧ Own w' B e k (some ⟨gb, 0, none⟩) n cap (l'.flatMap enc) ∧ w.grownBy w' (some gb) := by
  obtain ⟨hl, hH⟩ := holdsK_own enc k hk h0 h
  refine (hc hH (h.block gb rfl).2).mono ?_
  rintro r w' ⟨rfl, d', m, os, hp, hs, rfl⟩
  have hsz : d'.size = l.length := by simpa using hp.1
  have hperm : d'.toList.Perm l := by
    have := hp.2.2
    rw [← hp.1, Array.extract_size, hp.1, Array.extract_size] at this
    simpa using this
  have hput := own_put (m := m) (flatK enc k d') os h (by simp [hsz, hl])
  have ef : (flatK enc k d').toList = d'.toList.flatMap enc := flatK_list enc k hk h0 d'.toList
  rw [ef] at hput
  exact ⟨rfl, d'.toList, hperm, sorted_list lt d' _ hp.1 hs, hput.1, hput.2⟩
theorem sortPair_any {B g n cap : Nat} {l : List (Nat × Nat)} {w : World} (h : Own w B 83 2 (some ⟨g, 0, none⟩) n cap (l.flatMap encP)) (hn : n < 4611686018427387904) :
    Calls Tryd.prog 34 #[.slice (some ⟨g, 0, none⟩) n cap, .func (.func 35) #[] #[]] w fun r w' => r = .returned (.tuple #[]) ∧ ∃ l' : List (Nat × Nat), l'.Perm l ∧ l'.Pairwise (fun a b => ltP b a = false) ∧ Own w' B 83 2 (some ⟨g, 0, none⟩) n cap (l'.flatMap encP) ∧ w.grownBy w' (some g) := by
  have hl := (holdsK_own encP 2 (fun _ => rfl) (by omega) h).1
  refine sort_own 34 83 2 35 encP (fun _ => rfl) (by omega) ltP _ h (fun hH hg => ?_)
  have eg : ∀ args w, (callFunc 35 args).run Tryd.prog w = .ok (.enter 35 args) w := enters_of Tryd.func35 (by kernel_rfl) rfl
  have hcon := AnyQ.slices_SortFunc Tryd.sortPair 2 Tryd.isAgg83 Tryd.sizeOf83 encP (fun _ => rfl) (fun x v hv => by simp [encP] at hv; rcases hv with rfl | rfl <;> rfl) cfP swoP 35 #[] g 0 cap l.toArray w eg (fun _ _ _ _ x y => closure35 x y _) hH hg (by simpa [hl] using hn)
  rw [ltOf_P] at hcon
  have es : l.toArray.size = n := by simpa using hl
  rw [es] at hcon ⊢
  exact hcon
theorem sortCode_any {B g n cap : Nat} {l : List E} {w : World} (h : Own w B 91 3 (some ⟨g, 0, none⟩) n cap (l.flatMap encE)) (hn : n < 4611686018427387904) :
    Calls Tryd.prog 38 #[.slice (some ⟨g, 0, none⟩) n cap, .func (.func 39) #[] #[]] w fun r w' => r = .returned (.tuple #[]) ∧ ∃ l' : List E, l'.Perm l ∧ l'.Pairwise (fun a b => ltE b a = false) ∧ Own w' B 91 3 (some ⟨g, 0, none⟩) n cap (l'.flatMap encE) ∧ w.grownBy w' (some g) := by
  have hl := (holdsK_own encE 3 (fun _ => rfl) (by omega) h).1
  refine sort_own 38 91 3 39 encE (fun _ => rfl) (by omega) ltE _ h (fun hH hg => ?_)
  have eg : ∀ args w, (callFunc 39 args).run Tryd.prog w = .ok (.enter 39 args) w := enters_of Tryd.func39 (by kernel_rfl) rfl
  have hcon := AnyQ.slices_SortFunc Tryd.sortCode 3 Tryd.isAgg91 Tryd.sizeOf91 encE (fun _ => rfl) (fun x v hv => by simp [encE] at hv; rcases hv with rfl | rfl | rfl <;> rfl) cfE swoE 39 #[] g 0 cap l.toArray w eg (fun _ _ _ _ x y => closure39 x y _) hH hg (by simpa [hl] using hn)
  rw [ltOf_E] at hcon
  have es : l.toArray.size = n := by simpa using hl
  rw [es] at hcon ⊢
  exact hcon
end Go.Proofs.YtdhehnjidakfcaaDoor

/- make, arrays, stores and counts for the walks of the transform. -/
import Derived.Test.YtdhehnjidakfcaaFrontLaw
import Derived.Test.YtdhehnjidakfcaaBwt
import Derived.Laws.OwnMore
import Derived.OwnWalk
namespace Go.Proofs.Ytdhehnjidakfcaa
open Go.RowKit
set_option maxHeartbeats 400000
set_option linter.unusedVariables false
set_option linter.unusedSimpArgs false
theorem zero50 (w : World) : Sem.run Try.prog (zeroValue 50) w = .ok (.agg (Array.replicate 256 (.int .i64 0))) w := by kernel_rfl
theorem zero46 (w : World) : Sem.run Try.prog (zeroValue 46) w = .ok (.agg (Array.replicate 256 (.int .u64 0))) w := by kernel_rfl
/-- 'make([]T, n)': n noughts are owned -/
theorem make_nat {P : Program} {w : World} {ops : Array Oper} {rest : List Oper} {o : Oper} {a : Act} {Q : Exit → Act → World → Prop}
    (hg : o.guard = none) (l c : Operand) (t : TypeId) (hop : o.op = Op.makeSlice t l c)
    (base : Nat) (e : TypeId) (k : IntKind) (bytes : Nat) (h1 : P.underlying t = some (.slice e)) (hinfo : (P.info? e).map (fun i => (i.zero, i.size, i.bytes)) = some (some (.int k 0), 1, bytes)) (hby : 0 < bytes)
    (n : Nat) (hl : a.eval l = .int .i64 n) (hc : a.eval c = .int .i64 n) (hb : bytes * n ≤ 281474976710656) (b4 : base ≤ w.heap.size)
    (hK : ∀ w', Own w' base e 1 (some ⟨w.heap.size, 0, none⟩) n n (cellsN k (List.replicate n 0)) → w.grownBy w' none → wpList P ops Q rest (a.put o.dst (.slice (some ⟨w.heap.size, 0, none⟩) n n)) w') :
    wpList P ops Q (o :: rest) a w := by
  obtain ⟨i, hi, hz, hsize, hbytes⟩ := info_parts hinfo
  subst hbytes
  have h63 : n ≤ maxLen := by
    have : n ≤ i.bytes * n := Nat.le_mul_of_pos_left n hby
    unfold maxLen; omega
  refine wpList_make_full w hg l c t hop base e i (.int k 0) 1 h1 hi hz hsize .i64 .i64 n n n hl hc rfl rfl hb h63 b4 ?_
  intro w' h2 h3
  refine hK w' ?_ h3
  have e1 : (madeCells (Value.int k 0).cells (n * 1)).toList = cellsN k (List.replicate n 0) := by
    rw [show (Value.int k 0).cells = #[.int k 0] from rfl, toList_madeCells_one]
    simp [cellsN]
  rw [e1] at h2
  exact h2
/-- an array of its own, as what the call owns -/
theorem own_array (w : World) (B : Nat) (k : IntKind) (e : TypeId) (m : Nat) (hm : m ≤ maxLen) (hB : B ≤ w.heap.size) :
    Own (w.alloc (.cells (Array.replicate m (.int k 0)) e)) B e 1 (some ⟨w.heap.size, 0, none⟩) m m (cellsN k (List.replicate m 0)) := by
  have h := World.ownsRow_lit (e := e) (size := 1) w (Array.replicate m (Value.int k 0)) m hB hm (by simp)
  have e1 : (Array.replicate m (Value.int k 0)).toList = cellsN k (List.replicate m 0) := by simp [cellsN]
  rw [e1] at h
  exact h
theorem getD_noughts (m x : Nat) : (List.replicate m 0).getD x 0 = 0 := by
  by_cases h : x < m <;> simp [List.getD_eq_getElem?_getD, h]
theorem own_array2 (w : World) (B : Nat) (k : IntKind) (e : TypeId) (m : Nat) (hm : m ≤ maxLen) (hB : B ≤ w.heap.size) :
    ∃ Z : List Nat, Hid (∀ x, Z.getD x 0 = 0) ∧ Own (w.alloc (.cells (Array.replicate m (.int k 0)) e)) B e 1 (some ⟨w.heap.size, 0, none⟩) m m (cellsN k Z) :=
  ⟨_, getD_noughts m, own_array w B k e m hm hB⟩
theorem own_length {w : World} {B : Nat} {e : TypeId} {A : Option Addr} {n cap : Nat} {k : IntKind} {F : List Nat} (h : Own w B e 1 A n cap (cellsN k F)) : Hid (F.length = n) := by
  show F.length = n
  have := h.len
  simpa [cellsN] using this
theorem own_set {w : World} {B : Nat} {e : TypeId} {g n cap : Nat} {k : IntKind} {F : List Nat} (h : Own w B e 1 (some ⟨g, 0, none⟩) n cap (cellsN k F)) (j v : Nat) (u : Int) (hu : u = v) :
    Own (w.setCell ⟨g, j, none⟩ (.int k u)) B e 1 (some ⟨g, 0, none⟩) n cap (cellsN k (F.set j v)) ∧ w.grownBy (w.setCell ⟨g, j, none⟩ (.int k u)) (some g) := by
  have h2 := h.stored j (.int k u)
  have e1 : (cellsN k F).set j (.int k u) = cellsN k (F.set j v) := by subst hu; simp [cellsN, List.map_set]
  rw [e1] at h2
  exact h2
theorem own_int {w : World} {B : Nat} {e : TypeId} {g n cap : Nat} {k : IntKind} {F : List Nat} (h : Own w B e 1 (some ⟨g, 0, none⟩) n cap (cellsN k F)) (j : Nat) (hj : j < n) (v : Nat) (hv : F.getD j 0 = v) :
    w.cell? ⟨g, j, none⟩ = some (.int k (v : Int)) ∧ w.frozen? ⟨g, j, none⟩ = false := by
  obtain ⟨u, hu, hf⟩ := h.some j hj
  have hl : F.length = n := by simpa [cellsN] using h.len
  have := h.ints.at j (by omega) v hv
  rw [Nat.zero_add] at this
  exact ⟨this, hf⟩
theorem getD_set (F : List Nat) (j v x : Nat) (hj : j < F.length) : (F.set j v).getD x 0 = if x = j then v else F.getD x 0 := by
  by_cases e : x = j
  · subst e; simp [List.getD_eq_getElem?_getD, hj]
  · rw [if_neg e, List.getD_eq_getElem?_getD, List.getElem?_set_ne (Ne.symm e), ← List.getD_eq_getElem?_getD]
theorem count_take_succ (l : List Nat) (p : Nat → Bool) (k : Nat) (hk : k < l.length) (y : Nat) (hy : l.getD k 0 = y) : (l.take (k + 1)).countP p = (l.take k).countP p + if p y then 1 else 0 := by
  have e1 : l[k] = y := by rw [← hy]; simp [List.getD_eq_getElem?_getD, List.getElem?_eq_getElem hk]
  rw [List.take_succ_eq_append_getElem hk, List.countP_append, e1]
  simp [List.countP_cons]
theorem count_take_le (l : List Nat) (p : Nat → Bool) (k : Nat) : (l.take k).countP p ≤ k := by
  refine Nat.le_trans List.countP_le_length ?_
  rw [List.length_take]; omega
end Go.Proofs.Ytdhehnjidakfcaa

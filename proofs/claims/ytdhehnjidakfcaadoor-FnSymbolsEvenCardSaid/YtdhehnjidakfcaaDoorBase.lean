/- What the walks of this seat share: slices that came in, small laws on worlds. -/
import Derived.Test.YtdhehnjidakfcaaDoorProg
import Derived.WalkKit
import Derived.WalkLawsBesides
import Derived.WalkSpells
import Derived.Lib.Hide
import Derived.Below
import Derived.Maps.AppendAt
import Derived.Laws.AppendOwnNone
import Derived.Deep.AppendLies
namespace Go.Proofs.YtdhehnjidakfcaaDoor
open Go.RowKit
theorem ret_int {k : IntKind} {a b : Int} (h : a = b) : Ending.returned (.int k a) = .returned (.int k b) := by rw [h]
theorem ret_bool {a b : Bool} (h : a = b) : Ending.returned (.bool a) = .returned (.bool b) := by rw [h]
/-- numbers of a kind lie at an address -/
def Ints (w : World) (k : IntKind) (A : Option Addr) (l : List Nat) : Prop :=
  ∀ i, i < l.length → ∃ b off, A = some ⟨b, off, none⟩ ∧ b < w.heap.size ∧ w.cell? ⟨b, off + i, none⟩ = some (.int k (l.getD i 0 : Nat))
/-- numbers of a kind lie at an address (signed ones too) -/
def Zints (w : World) (k : IntKind) (A : Option Addr) (l : List Int) : Prop :=
  ∀ i, i < l.length → ∃ b off, A = some ⟨b, off, none⟩ ∧ b < w.heap.size ∧ w.cell? ⟨b, off + i, none⟩ = some (.int k (l.getD i 0))
theorem lt_of_cell {w : World} {p : Addr} {v : Value} (h : w.cell? p = some v) : p.block < w.heap.size := by
  rcases Nat.lt_or_ge p.block w.heap.size with hlt | hge
  · exact hlt
  · unfold World.cell? at h
    rw [Array.getElem?_eq_none hge] at h
    cases h
/-- a slice of numbers that came in -/
structure Arg (k : IntKind) (w : World) (A : Option Addr) (l : List Int) (cap : Nat) : Prop where
  cells : Zints w k A l
  le : l.length ≤ cap
  cap_le : cap ≤ maxLen
  wf : ∀ n ∈ l, (Lit.int k n).wf = true
  nil : A = none → l = [] ∧ cap = 0
theorem Arg.none {k : IntKind} {w : World} : Arg k w none [] 0 := ⟨fun i h => by simp at h, by simp, by simp [maxLen], by simp, fun _ => ⟨rfl, rfl⟩⟩
theorem Arg.some {k : IntKind} {w : World} {x : Addr} {n c : Nat} {zs : List Int} (hl : n ≤ c) (hm : c ≤ maxLen) (hz : zs.length = c)
    (hc : ∀ i, i < zs.length → w.cell? (x.add i) = some (.int k (zs.getD i 0))) (hw : ∀ n ∈ zs, (Lit.int k n).wf = true) : Arg k w (some x) (zs.take n) c := by
  refine ⟨fun i hi => ?_, by simp; omega, hm, fun m hm => hw m (List.mem_of_mem_take hm), fun h => by cases h⟩
  have hi' : i < zs.length := by simp at hi; omega
  have h0 := hc 0 (by omega)
  have hi2 := hc i hi'
  obtain ⟨b, off, spot⟩ := x
  have hspot : spot = .none := by simpa [Addr.add] using World.cell?_spot h0
  subst hspot
  have e : Addr.add ⟨b, off, .none⟩ i = ⟨b, off + i, .none⟩ := by unfold Addr.add; split <;> simp_all
  rw [e] at hi2
  refine ⟨b, off, rfl, lt_of_cell hi2, ?_⟩
  rw [hi2]
  have hin : i < n := by rw [List.length_take] at hi; omega
  have : (zs.take n).getD i 0 = zs.getD i 0 := by simp [List.getD_eq_getElem?_getD, hin]
  rw [this]
theorem wf_range {k : IntKind} {n : Int} (h : (Lit.int k n).wf = true) : k.min ≤ n ∧ n ≤ k.max := by
  simpa [Lit.wf] using h
/-- an unsigned kind's numbers -/
theorem Arg.nat {k : IntKind} {w : World} {A : Option Addr} {l : List Int} {cap : Nat} (h : Arg k w A l cap) (hk : k.min = 0) :
    ∃ ln : List Nat, ln.length = l.length ∧ Ints w k A ln ∧ ∀ x ∈ ln, (x : Int) ≤ k.max := by
  refine ⟨l.map Int.toNat, by simp, fun i hi => ?_, fun x hx => ?_⟩
  · obtain ⟨b, off, e, hb, hc⟩ := h.cells i (by simpa using hi)
    refine ⟨b, off, e, hb, ?_⟩
    rw [hc]
    have hi' : i < l.length := by simpa using hi
    have hw := wf_range (h.wf l[i] (List.getElem_mem hi'))
    have e1 : l.getD i 0 = l[i] := by simp [List.getD_eq_getElem?_getD, List.getElem?_eq_getElem hi']
    have e2 : (l.map Int.toNat).getD i 0 = l[i].toNat := by simp [List.getD_eq_getElem?_getD, List.getElem?_eq_getElem hi']
    rw [e1, e2]
    congr 2
    omega
  · obtain ⟨y, hy, rfl⟩ := List.mem_map.1 hx
    have hw := wf_range (h.wf y hy)
    omega
theorem Ints.alloc {w : World} {k : IntKind} {A : Option Addr} {l : List Nat} (h : Ints w k A l) (o : Obj) : Ints (w.alloc o) k A l := fun i hi => by
  obtain ⟨b, off, e, hb, hc⟩ := h i hi
  exact ⟨b, off, e, by rw [World.size_alloc]; omega, (World.cell?_alloc_lt w o _ hb).trans hc⟩
theorem Ints.below {w w' : World} {k : IntKind} {A : Option Addr} {l : List Nat} (h : Ints w k A l) (hb : Below w.heap.size w w') : Ints w' k A l := fun i hi => by
  obtain ⟨b, off, e, hb', hc⟩ := h i hi
  exact ⟨b, off, e, Nat.lt_of_lt_of_le hb' hb.size, (hb.cell (p := ⟨b, off + i, none⟩) hb').trans hc⟩
theorem Zints.alloc {w : World} {k : IntKind} {A : Option Addr} {l : List Int} (h : Zints w k A l) (o : Obj) : Zints (w.alloc o) k A l := fun i hi => by
  obtain ⟨b, off, e, hb, hc⟩ := h i hi
  exact ⟨b, off, e, by rw [World.size_alloc]; omega, (World.cell?_alloc_lt w o _ hb).trans hc⟩
theorem Zints.below {w w' : World} {k : IntKind} {A : Option Addr} {l : List Int} (h : Zints w k A l) (hb : Below w.heap.size w w') : Zints w' k A l := fun i hi => by
  obtain ⟨b, off, e, hb', hc⟩ := h i hi
  exact ⟨b, off, e, Nat.lt_of_lt_of_le hb' hb.size, (hb.cell (p := ⟨b, off + i, none⟩) hb').trans hc⟩
theorem Ints.one (w : World) (k : IntKind) (n : Nat) (t : TypeId) {v : Int} (hv : v = n) {B : Nat} (hB : B = w.heap.size) : Ints (w.alloc (.cells #[.int k v] t)) k (some ⟨B, 0, none⟩) [n] := fun i hi => by
  have : i = 0 := by simpa using hi
  subst this; subst hv; subst hB
  exact ⟨_, _, rfl, by rw [World.size_alloc]; omega, by simp⟩
theorem getD_lt {l : List Nat} {n : Nat} (hb : ∀ x ∈ l, x < n) {k : Nat} (hk : k < l.length) : l[k] < n := hb _ (List.getElem_mem hk)
/-- A SLICE THAT THE CALL OWNS: 'n' elements of 'size' cells -/
def Own (w : World) (base : Nat) (e : TypeId) (size : Nat) (A : Option Addr) (n cap : Nat) (xs : List Value) : Prop := w.ownsRow base e size (.slice A n cap) n xs
theorem Own.nil (w : World) (base : Nat) (e : TypeId) (size : Nat) : Own w base e size none 0 0 [] := World.ownsRow_nil w base e size
theorem own_form {w : World} {base : Nat} {e : TypeId} {size : Nat} {v : Value} {n : Nat} {xs : List Value} (h : w.ownsRow base e size v n xs) : ∃ A cap, v = .slice A n cap ∧ (A = none ∨ ∃ g, A = some ⟨g, 0, none⟩ ∧ base ≤ g ∧ g < w.heap.size) := by
  rcases h.2 with ⟨h', h0⟩ | ⟨g, cap, cur, hv, hb, hg, _⟩
  · subst h0; exact ⟨none, 0, h', .inl rfl⟩
  · refine ⟨_, _, hv, .inr ⟨g, rfl, hb, ?_⟩⟩
    rcases Nat.lt_or_ge g w.heap.size with hlt | hge
    · exact hlt
    · rw [Array.getElem?_eq_none hge] at hg; cases hg
/-- the block that an address lies in -/
def blockOf (A : Option Addr) : Option Nat := A.map (·.block)
section
variable {w : World} {base : Nat} {e : TypeId} {size : Nat} {A : Option Addr} {n cap : Nat} {xs : List Value}
theorem Own.len (h : Own w base e size A n cap xs) : xs.length = n * size := h.1
theorem Own.block (h : Own w base e size A n cap xs) : ∀ g, blockOf A = some g → base ≤ g ∧ g < w.heap.size := by
  intro g hg
  obtain ⟨A', cap', hv, hA⟩ := own_form h
  simp only [Value.slice.injEq] at hv
  obtain ⟨rfl, -, rfl⟩ := hv
  rcases hA with rfl | ⟨g', rfl, h1, h2⟩
  · cases hg
  · have : g' = g := by simpa [blockOf] using hg
    subst this; exact ⟨h1, h2⟩
theorem Own.kept {w' : World} {row : Option Nat} (h : Own w base e size A n cap xs) (hg : w.grownBy w' row) (hne : blockOf A = none ∨ blockOf A ≠ row) : Own w' base e size A n cap xs :=
  World.ownsRow.kept h hg (by
    cases A with
    | none => exact .inl rfl
    | some a => simpa [Value.ownBlock, blockOf] using hne)
theorem Own.alloc (h : Own w base e size A n cap xs) (o : Obj) : Own (w.alloc o) base e size A n cap xs := World.ownsRow.alloc h o
theorem Own.below {w' : World} (h : Own w base e size A n cap xs) (hb : Below w.heap.size w w') : Own w' base e size A n cap xs :=
  h.kept (row := none) ⟨hb.os, hb.tape, hb.output, hb.size, fun k hk _ => hb.block k hk⟩ (by cases A <;> simp [blockOf])
theorem Own.cell (h : Own w base e size A n cap xs) (j : Nat) (hj : j < n * size) : ∃ g, A = some ⟨g, 0, none⟩ ∧ base ≤ g ∧ g < w.heap.size ∧ w.cell? ⟨g, j, none⟩ = xs[j]? ∧ w.frozen? ⟨g, j, none⟩ = false := by
  obtain ⟨A', cap', hv, hA⟩ := own_form h
  simp only [Value.slice.injEq] at hv
  obtain ⟨rfl, -, rfl⟩ := hv
  rcases hA with rfl | ⟨g, rfl, h1, h2⟩
  · rcases h.2 with ⟨_, h0⟩ | ⟨g, cap, cur, hv, _⟩
    · subst h0; simp at hj
    · simp at hv
  · exact ⟨g, rfl, h1, h2, World.ownsRow.cellAt h j hj, World.ownsRow.frozenAt h j⟩
end
/-- numbers as cells -/
def cellsN (k : IntKind) (l : List Nat) : List Value := l.map fun x : Nat => Value.int k (x : Int)
def cellsZ (k : IntKind) (l : List Int) : List Value := l.map (Value.int k)
theorem cellsN_at (k : IntKind) (l : List Nat) (i : Nat) (h : i < l.length) : (cellsN k l)[i]? = some (.int k (l.getD i 0 : Nat)) := by
  simp [cellsN, List.getD_eq_getElem?_getD, List.getElem?_eq_getElem h]
theorem cellsZ_at (k : IntKind) (l : List Int) (i : Nat) (h : i < l.length) : (cellsZ k l)[i]? = some (.int k (l.getD i 0)) := by
  simp [cellsZ, List.getD_eq_getElem?_getD, List.getElem?_eq_getElem h]
theorem cellsN_one (k : IntKind) (l : List Nat) : ∀ u ∈ cellsN k l, u.oneCell' = true := by
  intro u hu
  obtain ⟨x, _, rfl⟩ := List.mem_map.1 hu
  rfl
theorem cellsZ_one (k : IntKind) (l : List Int) : ∀ u ∈ cellsZ k l, u.oneCell' = true := by
  intro u hu
  obtain ⟨x, _, rfl⟩ := List.mem_map.1 hu
  rfl
theorem Own.ints {w : World} {base : Nat} {e : TypeId} {A : Option Addr} {n cap : Nat} {k : IntKind} {l : List Nat} (h : Own w base e 1 A n cap (cellsN k l)) : Ints w k A l := fun i hi => by
  have hl := h.len
  have hn : l.length = n := by simpa [cellsN] using hl
  obtain ⟨g, hA, _, hg, hc, _⟩ := h.cell i (by omega)
  exact ⟨g, 0, hA, hg, by rw [Nat.zero_add, hc, cellsN_at k l i hi]⟩
theorem Own.zints {w : World} {base : Nat} {e : TypeId} {A : Option Addr} {n cap : Nat} {k : IntKind} {l : List Int} (h : Own w base e 1 A n cap (cellsZ k l)) : Zints w k A l := fun i hi => by
  have hl := h.len
  have hn : l.length = n := by simpa [cellsZ] using hl
  obtain ⟨g, hA, _, hg, hc, _⟩ := h.cell i (by omega)
  exact ⟨g, 0, hA, hg, by rw [Nat.zero_add, hc, cellsZ_at k l i hi]⟩
/-- where the cells that are appended lie -/
def SrcAt (w : World) (A : Option Addr) (m c : Nat) (news : List Value) : Prop :=
  (A = none → m = 0 ∧ c = 0 ∧ news = []) ∧ ∀ ad, A = some ad → ∀ j u, news[j]? = some u → w.cell? (ad.add j) = some u
theorem add_none (b off i : Nat) : Addr.add ⟨b, off, none⟩ i = ⟨b, off + i, none⟩ := by unfold Addr.add; split <;> simp_all
theorem srcAt_ints {w : World} {k : IntKind} {A : Option Addr} {l : List Nat} (c : Nat) (h : Ints w k A l) (hn : A = none → l = [] ∧ c = 0) : SrcAt w A l.length c (cellsN k l) := by
  refine ⟨fun e => ?_, fun ad e j u hu => ?_⟩
  · obtain ⟨rfl, rfl⟩ := hn e
    exact ⟨rfl, rfl, rfl⟩
  · have hj : j < l.length := by
      have := (List.getElem?_eq_some_iff.1 hu).1
      simpa [cellsN] using this
    obtain ⟨b, off, e2, _, hc⟩ := h j hj
    rw [cellsN_at k l j hj] at hu
    rw [e] at e2
    injection e2 with e3
    subst e3
    rw [add_none, hc, hu]
theorem srcAt_zints {w : World} {k : IntKind} {A : Option Addr} {l : List Int} (c : Nat) (h : Zints w k A l) (hn : A = none → l = [] ∧ c = 0) : SrcAt w A l.length c (cellsZ k l) := by
  refine ⟨fun e => ?_, fun ad e j u hu => ?_⟩
  · obtain ⟨rfl, rfl⟩ := hn e
    exact ⟨rfl, rfl, rfl⟩
  · have hj : j < l.length := by
      have := (List.getElem?_eq_some_iff.1 hu).1
      simpa [cellsZ] using this
    obtain ⟨b, off, e2, _, hc⟩ := h j hj
    rw [cellsZ_at k l j hj] at hu
    rw [e] at e2
    injection e2 with e3
    subst e3
    rw [add_none, hc, hu]
/-- a block just made, as what is appended -/
theorem srcAt_new (w : World) (cs : Array Value) (t : TypeId) (m c : Nat) {B : Nat} (hB : B = w.heap.size) : SrcAt (w.alloc (.cells cs t)) (some ⟨B, 0, none⟩) m c cs.toList := by
  subst hB
  refine ⟨fun e => (by cases e), fun ad e j u hu => ?_⟩
  injection e with e
  subst e
  rw [add_none, Nat.zero_add, World.cell?_alloc_new]
  simpa using hu
/-- APPEND onto a slice that the call owns (nil too), from whatever slice (nil too): the new value is written out -/
theorem app_own {P : Program} {w : World} {ops : Array Oper} {rest : List Oper} {o : Oper} {a : Act} {Q : Exit → Act → World → Prop} (hgd : o.guard = none) (s x : Operand) (t : TypeId)
    (ho : o.op = .call { callee := .builtin .append, args := #[s, x], argTypes := #[t, t] })
    (base : Nat) (e : TypeId) (z : Value) (size bytes : Nat) (ht : P.underlying t = some (.slice e)) (hinfo : (P.info? e).map (fun i => (i.zero, i.size, i.bytes)) = some (some z, size, bytes))
    (hzs : z.cells.size = size) (hsz : 0 < size) {A : Option Addr} {n cap : Nat} {xs : List Value} (hs : a.eval s = .slice A n cap) (hown : Own w base e size A n cap xs)
    (B : Option Addr) (m c : Nat) (news : List Value) (hx : a.eval x = .slice B m c) (hsrc : SrcAt w B m c news) (hl : news.length = m * size) (h1 : ∀ u ∈ news, u.oneCell' = true)
    (h63 : n + m ≤ maxLen) (hbytes : (n + m) * bytes ≤ 140737488355328) (hbase : base ≤ w.heap.size)
    (h : ∀ A' cap' w', Own w' base e size A' (n + m) cap' (xs ++ news) → w.grownBy w' (blockOf A) → (∀ g, blockOf A' = some g → blockOf A = some g ∨ w.heap.size ≤ g) → wpList P ops Q rest (a.put o.dst (.slice A' (n + m) cap')) w') : wpList P ops Q (o :: rest) a w := by
  obtain ⟨i, hi, hz, hsize, hby⟩ := info_parts hinfo
  have hown' : w.ownsRow base e size (.slice A n cap) n xs := hown
  cases B with
  | none =>
    obtain ⟨rfl, rfl, rfl⟩ := hsrc.1 rfl
    refine wpList_append_own_none hgd s x t ho base e i size ht hi _ n xs hs hown' hx ?_
    have := h A cap w (by simpa using hown) (World.grownBy.refl w _) (fun g hg => .inl hg)
    simpa using this
  | some ad =>
    refine wpList_append_own_at w hgd s x t ho base e i z size bytes ht hi hz hsize hby hzs hsz _ n xs hs hown' ad m c news hx hl (hsrc.2 ad rfl) h1 h63 hbytes hbase fun v' w' h2 h3 _ h5 => ?_
    obtain ⟨A', cap', rfl, hA'⟩ := own_form h2
    have eo : ∀ (A : Option Addr) n c, (Value.slice A n c).ownBlock = blockOf A := fun A n c => by cases A <;> rfl
    rw [eo, eo] at h5
    rw [eo] at h3
    refine h A' cap' w' h2 h3 fun g hg => ?_
    rcases h5 with h5 | h5
    · exact .inl (by rw [← h5]; exact hg)
    · right
      rw [hg] at h5
      injection h5 with h5
      omega
theorem app_nat {P : Program} {w : World} {ops : Array Oper} {rest : List Oper} {o : Oper} {a : Act} {Q : Exit → Act → World → Prop} (hgd : o.guard = none) (s x : Operand) (t : TypeId)
    (ho : o.op = .call { callee := .builtin .append, args := #[s, x], argTypes := #[t, t] })
    (base : Nat) (e : TypeId) (k : IntKind) (bytes : Nat) (ht : P.underlying t = some (.slice e)) (hinfo : (P.info? e).map (fun i => (i.zero, i.size, i.bytes)) = some (some (.int k 0), 1, bytes)) (hby : 0 < bytes)
    {A : Option Addr} {n cap : Nat} {l : List Nat} (hs : a.eval s = .slice A n cap) (hown : Own w base e 1 A n cap (cellsN k l))
    {B : Option Addr} {m c : Nat} {l2 : List Nat} (hx : a.eval x = .slice B m c) (hsrc : SrcAt w B m c (cellsN k l2)) (hl : l2.length = m) (hbytes : (n + m) * bytes ≤ 140737488355328) (hbase : base ≤ w.heap.size)
    (h : ∀ A' cap' w', Own w' base e 1 A' (n + m) cap' (cellsN k (l ++ l2)) → w.grownBy w' (blockOf A) → (∀ g, blockOf A' = some g → blockOf A = some g ∨ w.heap.size ≤ g) → wpList P ops Q rest (a.put o.dst (.slice A' (n + m) cap')) w') : wpList P ops Q (o :: rest) a w := by
  have h63 : n + m ≤ maxLen := by
    have := Nat.le_trans (Nat.le_mul_of_pos_right (n + m) hby) hbytes
    unfold maxLen; omega
  refine app_own hgd s x t ho base e (.int k 0) 1 bytes ht hinfo rfl (by omega) hs hown B m c _ hx hsrc (by simp [cellsN, hl]) (cellsN_one _ _) h63 hbytes hbase ?_
  intro A' cap' w' h1
  have e1 : cellsN k l ++ cellsN k l2 = cellsN k (l ++ l2) := by simp [cellsN]
  rw [e1] at h1
  exact h A' cap' w' h1
theorem app_int {P : Program} {w : World} {ops : Array Oper} {rest : List Oper} {o : Oper} {a : Act} {Q : Exit → Act → World → Prop} (hgd : o.guard = none) (s x : Operand) (t : TypeId)
    (ho : o.op = .call { callee := .builtin .append, args := #[s, x], argTypes := #[t, t] })
    (base : Nat) (e : TypeId) (k : IntKind) (bytes : Nat) (ht : P.underlying t = some (.slice e)) (hinfo : (P.info? e).map (fun i => (i.zero, i.size, i.bytes)) = some (some (.int k 0), 1, bytes)) (hby : 0 < bytes)
    {A : Option Addr} {n cap : Nat} {l : List Int} (hs : a.eval s = .slice A n cap) (hown : Own w base e 1 A n cap (cellsZ k l))
    {B : Option Addr} {m c : Nat} {l2 : List Int} (hx : a.eval x = .slice B m c) (hsrc : SrcAt w B m c (cellsZ k l2)) (hl : l2.length = m) (hbytes : (n + m) * bytes ≤ 140737488355328) (hbase : base ≤ w.heap.size)
    (h : ∀ A' cap' w', Own w' base e 1 A' (n + m) cap' (cellsZ k (l ++ l2)) → w.grownBy w' (blockOf A) → (∀ g, blockOf A' = some g → blockOf A = some g ∨ w.heap.size ≤ g) → wpList P ops Q rest (a.put o.dst (.slice A' (n + m) cap')) w') : wpList P ops Q (o :: rest) a w := by
  have h63 : n + m ≤ maxLen := by
    have := Nat.le_trans (Nat.le_mul_of_pos_right (n + m) hby) hbytes
    unfold maxLen; omega
  refine app_own hgd s x t ho base e (.int k 0) 1 bytes ht hinfo rfl (by omega) hs hown B m c _ hx hsrc (by simp [cellsZ, hl]) (cellsZ_one _ _) h63 hbytes hbase ?_
  intro A' cap' w' h1
  have e1 : cellsZ k l ++ cellsZ k l2 = cellsZ k (l ++ l2) := by simp [cellsZ]
  rw [e1] at h1
  exact h A' cap' w' h1
/-- behind an append onto what the call owns -/
theorem below_grown {B : Nat} {a w w' : World} {A : Option Addr} (h : Below B a w) (hg : w.grownBy w' (blockOf A)) (hB : B ≤ w.heap.size) (hA : ∀ g, blockOf A = some g → B ≤ g) : Below B a w' :=
  h.grown hg hB hA
theorem below_grown_nil {w w' : World} (hg : w.grownBy w' (blockOf none)) : Below w.heap.size w w' :=
  (Below.refl _ _).grown hg (Nat.le_refl _) (by intro k hk; cases hk)
end Go.Proofs.YtdhehnjidakfcaaDoor

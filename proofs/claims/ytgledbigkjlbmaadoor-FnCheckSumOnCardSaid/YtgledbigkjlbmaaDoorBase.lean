/- What the walks of this seat share: slices that came in, small laws on worlds. -/
import Derived.Test.YtgledbigkjlbmaaDoorProg
import Derived.WalkKit
import Derived.WalkLawsBesides
import Derived.WalkSpells
import Derived.Lib.Hide
import Derived.Below
namespace Go.Proofs.YtgledbigkjlbmaaDoor
open Go.RowKit
theorem ret_int {k : IntKind} {a b : Int} (h : a = b) : Ending.returned (.int k a) = .returned (.int k b) := by rw [h]
theorem ret_bool {a b : Bool} (h : a = b) : Ending.returned (.bool a) = .returned (.bool b) := by rw [h]
/-- numbers of a kind lie at an address -/
def Ints (w : World) (k : IntKind) (A : Option Addr) (l : List Nat) : Prop :=
  ∀ i, i < l.length → ∃ b off, A = some ⟨b, off, none⟩ ∧ b < w.heap.size ∧ w.cell? ⟨b, off + i, none⟩ = some (.int k (l.getD i 0 : Nat))
/-- numbers of a kind lie at an address (signed ones too) -/
def Zints (w : World) (k : IntKind) (A : Option Addr) (l : List Int) : Prop :=
  ∀ i, i < l.length → ∃ b off, A = some ⟨b, off, none⟩ ∧ b < w.heap.size ∧ w.cell? ⟨b, off + i, none⟩ = some (.int k (l.getD i 0))
theorem lt_of_cell {w : World} {p : Addr} {v : Value} (h : w.cell? p = some v) : p.block < w.heap.size := by
  rcases Nat.lt_or_ge p.block w.heap.size with hlt | hge
  · exact hlt
  · unfold World.cell? at h
    rw [Array.getElem?_eq_none hge] at h
    cases h
/-- a slice of numbers that came in -/
structure Arg (k : IntKind) (w : World) (A : Option Addr) (l : List Int) (cap : Nat) : Prop where
  cells : Zints w k A l
  le : l.length ≤ cap
  cap_le : cap ≤ maxLen
  wf : ∀ n ∈ l, (Lit.int k n).wf = true
theorem Arg.none {k : IntKind} {w : World} : Arg k w none [] 0 := ⟨fun i h => by simp at h, by simp, by simp [maxLen], by simp⟩
theorem Arg.some {k : IntKind} {w : World} {x : Addr} {n c : Nat} {zs : List Int} (hl : n ≤ c) (hm : c ≤ maxLen) (hz : zs.length = c)
    (hc : ∀ i, i < zs.length → w.cell? (x.add i) = some (.int k (zs.getD i 0))) (hw : ∀ n ∈ zs, (Lit.int k n).wf = true) : Arg k w (some x) (zs.take n) c := by
  refine ⟨fun i hi => ?_, by simp; omega, hm, fun m hm => hw m (List.mem_of_mem_take hm)⟩
  have hi' : i < zs.length := by simp at hi; omega
  have h0 := hc 0 (by omega)
  have hi2 := hc i hi'
  obtain ⟨b, off, spot⟩ := x
  have hspot : spot = .none := by simpa [Addr.add] using World.cell?_spot h0
  subst hspot
  have e : Addr.add ⟨b, off, .none⟩ i = ⟨b, off + i, .none⟩ := by unfold Addr.add; split <;> simp_all
  rw [e] at hi2
  refine ⟨b, off, rfl, lt_of_cell hi2, ?_⟩
  rw [hi2]
  have hin : i < n := by rw [List.length_take] at hi; omega
  have : (zs.take n).getD i 0 = zs.getD i 0 := by simp [List.getD_eq_getElem?_getD, hin]
  rw [this]
theorem wf_range {k : IntKind} {n : Int} (h : (Lit.int k n).wf = true) : k.min ≤ n ∧ n ≤ k.max := by
  simpa [Lit.wf] using h
/-- an unsigned kind's numbers -/
theorem Arg.nat {k : IntKind} {w : World} {A : Option Addr} {l : List Int} {cap : Nat} (h : Arg k w A l cap) (hk : k.min = 0) :
    ∃ ln : List Nat, ln.length = l.length ∧ Ints w k A ln ∧ ∀ x ∈ ln, (x : Int) ≤ k.max := by
  refine ⟨l.map Int.toNat, by simp, fun i hi => ?_, fun x hx => ?_⟩
  · obtain ⟨b, off, e, hb, hc⟩ := h.cells i (by simpa using hi)
    refine ⟨b, off, e, hb, ?_⟩
    rw [hc]
    have hi' : i < l.length := by simpa using hi
    have hw := wf_range (h.wf l[i] (List.getElem_mem hi'))
    have e1 : l.getD i 0 = l[i] := by simp [List.getD_eq_getElem?_getD, List.getElem?_eq_getElem hi']
    have e2 : (l.map Int.toNat).getD i 0 = l[i].toNat := by simp [List.getD_eq_getElem?_getD, List.getElem?_eq_getElem hi']
    rw [e1, e2]
    congr 2
    omega
  · obtain ⟨y, hy, rfl⟩ := List.mem_map.1 hx
    have hw := wf_range (h.wf y hy)
    omega
theorem Ints.alloc {w : World} {k : IntKind} {A : Option Addr} {l : List Nat} (h : Ints w k A l) (o : Obj) : Ints (w.alloc o) k A l := fun i hi => by
  obtain ⟨b, off, e, hb, hc⟩ := h i hi
  exact ⟨b, off, e, by rw [World.size_alloc]; omega, (World.cell?_alloc_lt w o _ hb).trans hc⟩
theorem Ints.below {w w' : World} {k : IntKind} {A : Option Addr} {l : List Nat} (h : Ints w k A l) (hb : Below w.heap.size w w') : Ints w' k A l := fun i hi => by
  obtain ⟨b, off, e, hb', hc⟩ := h i hi
  exact ⟨b, off, e, Nat.lt_of_lt_of_le hb' hb.size, (hb.cell (p := ⟨b, off + i, none⟩) hb').trans hc⟩
theorem Zints.alloc {w : World} {k : IntKind} {A : Option Addr} {l : List Int} (h : Zints w k A l) (o : Obj) : Zints (w.alloc o) k A l := fun i hi => by
  obtain ⟨b, off, e, hb, hc⟩ := h i hi
  exact ⟨b, off, e, by rw [World.size_alloc]; omega, (World.cell?_alloc_lt w o _ hb).trans hc⟩
theorem Zints.below {w w' : World} {k : IntKind} {A : Option Addr} {l : List Int} (h : Zints w k A l) (hb : Below w.heap.size w w') : Zints w' k A l := fun i hi => by
  obtain ⟨b, off, e, hb', hc⟩ := h i hi
  exact ⟨b, off, e, Nat.lt_of_lt_of_le hb' hb.size, (hb.cell (p := ⟨b, off + i, none⟩) hb').trans hc⟩
theorem Ints.one (w : World) (k : IntKind) (n : Nat) (t : TypeId) {v : Int} (hv : v = n) {B : Nat} (hB : B = w.heap.size) : Ints (w.alloc (.cells #[.int k v] t)) k (some ⟨B, 0, none⟩) [n] := fun i hi => by
  have : i = 0 := by simpa using hi
  subst this; subst hv; subst hB
  exact ⟨_, _, rfl, by rw [World.size_alloc]; omega, by simp⟩
theorem getD_lt {l : List Nat} {n : Nat} (hb : ∀ x ∈ l, x < n) {k : Nat} (hk : k < l.length) : l[k] < n := hb _ (List.getElem_mem hk)
end Go.Proofs.YtgledbigkjlbmaaDoor

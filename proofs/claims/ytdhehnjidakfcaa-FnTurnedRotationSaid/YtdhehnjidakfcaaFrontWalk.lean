/- Moves to the front: the walks of the loops. -/
import Derived.Test.YtdhehnjidakfcaaMtf
namespace Go.Proofs.Ytdhehnjidakfcaa
open Go.RowKit
set_option maxHeartbeats 400000
set_option linter.unusedVariables false
set_option linter.unusedSimpArgs false
theorem infoByte : (Try.prog.info? 5).map (fun i => (i.zero, i.size, i.bytes)) = some (some (.int .u8 0), 1, 1) := by kernel_rfl
theorem infoInt : (Try.prog.info? 3).map (fun i => (i.zero, i.size, i.bytes)) = some (some (.int .i64 0), 1, 8) := by kernel_rfl
/-- a list and what came of it, behind one place -/
def mstep (s : List Nat × List Nat) (p : Nat) : List Nat × List Nat := (mtf s.1 p, s.2 ++ [s.1.getD p 0])
def mst (L : List Nat) (ps : List Nat) : List Nat × List Nat := ps.foldl mstep (L, [])
theorem mst_snoc (L ps : List Nat) (k : Nat) (hk : k < ps.length) : mst L (ps.take (k + 1)) = mstep (mst L (ps.take k)) ps[k] := by
  rw [List.take_succ_eq_append_getElem hk]
  unfold mst
  rw [List.foldl_append]
  rfl
theorem mst_ind (L : List Nat) (n : Nat) (hL : L.length = n) : ∀ ps : List Nat, (∀ p ∈ ps, p < n) → (mst L ps).1.length = n ∧ (mst L ps).2.length = ps.length := by
  intro ps
  suffices h : ∀ (ps : List Nat) (s : List Nat × List Nat), s.1.length = n → (∀ p ∈ ps, p < n) → (ps.foldl mstep s).1.length = n ∧ (ps.foldl mstep s).2.length = s.2.length + ps.length by
    intro hp
    have := h ps (L, []) hL hp
    simpa [mst] using this
  intro ps
  induction ps with
  | nil => intro s hs _; exact ⟨hs, by simp⟩
  | cons p ps ih =>
    intro s hs hp
    have h1 := ih (mstep s p) (by simp only [mstep]; rw [mtf_length _ _ (by rw [hs]; exact hp p (by simp))]; exact hs) (fun q hq => hp q (by simp [hq]))
    refine ⟨h1.1, ?_⟩
    rw [List.foldl_cons, h1.2]
    simp [mstep]; omega
theorem getD_mem_lt {l : List Nat} {n : Nat} (hb : ∀ x ∈ l, x < n) {k : Nat} (hk : k < l.length) : l.getD k 0 < n := by
  have : l.getD k 0 = l[k] := by simp [List.getD_eq_getElem?_getD, List.getElem?_eq_getElem hk]
  rw [this]; exact hb _ (List.getElem_mem hk)
theorem mst_lt (L : List Nat) (n : Nat) (hL : L.length = n) (hb : ∀ x ∈ L, x < 256) : ∀ ps : List Nat, (∀ p ∈ ps, p < n) → (∀ x ∈ (mst L ps).1, x < 256) ∧ (∀ x ∈ (mst L ps).2, x < 256) := by
  suffices h : ∀ (ps : List Nat) (s : List Nat × List Nat), s.1.length = n → (∀ p ∈ ps, p < n) → (∀ x ∈ s.1, x < 256) → (∀ x ∈ s.2, x < 256) → (∀ x ∈ (ps.foldl mstep s).1, x < 256) ∧ (∀ x ∈ (ps.foldl mstep s).2, x < 256) by
    intro ps hp
    exact h ps (L, []) hL hp hb (by simp)
  intro ps
  induction ps with
  | nil => intro s _ _ h1 h2; exact ⟨h1, h2⟩
  | cons p ps ih =>
    intro s hs hp h1 h2
    have hg : s.1.getD p 0 < 256 := getD_mem_lt h1 (by rw [hs]; exact hp p (by simp))
    refine ih (mstep s p) (by simp only [mstep]; rw [mtf_length _ _ (by rw [hs]; exact hp p (by simp))]; exact hs) (fun q hq => hp q (by simp [hq])) ?_ ?_
    · intro x hx
      simp only [mstep, mtf, List.mem_cons, List.mem_append] at hx
      rcases hx with rfl | h | h
      · exact hg
      · exact h1 x (List.mem_of_mem_take h)
      · exact h1 x (List.mem_of_mem_drop h)
    · intro x hx
      simp only [mstep, List.mem_append, List.mem_singleton] at hx
      rcases hx with h | rfl
      · exact h2 x h
      · exact hg
theorem Own.grown {w w' : World} {B : Nat} {e : TypeId} {A A2 : Option Addr} {n cap : Nat} {xs : List Value} (h : Own w B e 1 A n cap xs) (hg : w.grownBy w' (blockOf A2)) (hne : blockOf A = none ∨ blockOf A ≠ blockOf A2) : Own w' B e 1 A n cap xs := h.kept hg hne
/-- two slices that the call owns lie apart -/
def Apart (A1 A2 : Option Addr) : Prop := blockOf A1 = none ∨ blockOf A1 ≠ blockOf A2
theorem Apart.symm {A1 A2 : Option Addr} (h : Apart A1 A2) (h2 : A2 = none ∨ A2 ≠ none) : Apart A2 A1 := by
  unfold Apart at *
  rcases h with h | h
  · cases A2 with
    | none => left; rfl
    | some a => right; rw [h]; simp [blockOf]
  · exact .inr (Ne.symm h)
theorem Apart.flip {A1 A2 : Option Addr} (h : Apart A1 A2) : Apart A2 A1 := h.symm (by cases A2 <;> simp)
theorem Apart.next {w : World} {A1 A2 A' : Option Addr} (h : Apart A1 A2) (h2 : ∀ g, blockOf A2 = some g → g < w.heap.size) (hn : ∀ g, blockOf A' = some g → blockOf A1 = some g ∨ w.heap.size ≤ g) : Apart A' A2 := by
  unfold Apart at *
  cases hA : blockOf A' with
  | none => exact .inl rfl
  | some g =>
    right
    intro e
    have h3 := h2 g e.symm
    rcases hn g hA with h4 | h4
    · rcases h with h | h
      · rw [h] at h4; cases h4
      · exact h (h4.trans e)
    · omega
theorem Ints.at {w : World} {k : IntKind} {b off : Nat} {l : List Nat} (h : Ints w k (some ⟨b, off, none⟩) l) (i : Nat) (hi : i < l.length) (y : Nat) (hy : l.getD i 0 = y) : w.cell? ⟨b, off + i, none⟩ = some (.int k (y : Int)) := by
  obtain ⟨b', off', e, _, hc⟩ := h i hi
  injection e with e
  injection e with e1 e2
  subst e1; subst e2; subst hy
  exact hc
theorem specFront_any (A Ap : Option Addr) (cap capp n m : Nat) (L ps : List Nat) (w : World) (hA : Ints w .u8 A L) (hP : Ints w .i64 Ap ps) (hL : L.length = n) (hm : ps.length = m) (hn : n ≤ 256) (h0 : 0 < n) (hps : ∀ p ∈ ps, p < n) (hm2 : m ≤ 140737488351232) (hb : ∀ x ∈ L, x < 256)
    (hAn : A = none → L = [] ∧ cap = 0) :
    Calls Try.prog 12 #[.slice A n cap, .slice Ap m capp] w fun e w' => ∃ A1 c1 A2 c2, e = .returned (.tuple #[.slice A1 m c1, .slice A2 n c2]) ∧ Own w' w.heap.size 5 1 A1 m c1 (cellsN .u8 (mst L ps).2) ∧ Own w' w.heap.size 5 1 A2 n c2 (cellsN .u8 (mst L ps).1) ∧ Apart A1 A2 ∧ Below w.heap.size w w' := by
  have S := Lib.hid (srcAt_ints cap hA hAn)
  rw [hL] at S
  have HL := Lib.hid hL
  have HPS := Lib.hid hps
  clear hAn hA
  subst hm
  go_enter Try.func12, Try.ntmps12
  go_wp2_with (at_builtin; refine app_nat rfl (.tmp 8) (.tmp 9) 22 rfl w.heap.size 5 .u8 1 Try.underlying22 infoByte (by omega) (l := []) rfl (Own.nil _ _ _ _) rfl S.out HL.out (by omega) (Nat.le_refl _) ?_; intro A2 c2 w2 own2 grow2 fresh2; simp only [Nat.zero_add, List.nil_append] at own2 ⊢; have b2 := below_grown_nil grow2)
  go_loopw [4, 13] (fun v i wr => ∃ (k : Nat) (A1 : Option Addr) (c1 : Nat), k ≤ ps.length ∧ i = .int .i64 k ∧ v = .slice A1 k c1 ∧ Own wr w.heap.size 5 1 A1 k c1 (cellsN .u8 (mst L (ps.take k)).2) ∧ Own wr w.heap.size 5 1 A2 n c2 (cellsN .u8 (mst L (ps.take k)).1) ∧ Apart A1 A2 ∧ Below w.heap.size w wr) (fun _ i _ => ps.length - (intOf i).toNat)
  case atStart => exact ⟨0, none, 0, by omega, rfl, rfl, Own.nil _ _ _ _, by rw [List.take_zero]; exact own2, .inl rfl, b2⟩
  case round =>
    obtain ⟨k, A1, c1, hk, rfl, rfl, own, ownL, apart, bel⟩ := hrel
    by_cases hlt : k < ps.length
    · obtain ⟨b1, o1, rfl, hb1', hc1⟩ := hP k hlt
      have hd1 := (bel.cell (p := ⟨b1, o1 + k, none⟩) hb1').trans hc1
      have hpk := HPS.out _ (List.getElem_mem hlt)
      have hs := mst_snoc L ps k hlt
      have hlen := (mst_ind L n HL.out (ps.take k) (fun p hp => HPS.out p (List.mem_of_mem_take hp))).1
      generalize mst L (ps.take k) = s at own ownL hs hlen
      have HS := Lib.hid hs
      clear hs
      have hmlen : (mtf s.1 ps[k]).length = n := by rw [mtf_length _ _ (by omega)]; exact hlen
      have own1' := fun (w3 : World) (g3 : wr.grownBy w3 (blockOf A2)) => own.grown g3 apart
      obtain ⟨g2, rfl, hg2, hg2', _, _⟩ := ownL.cell 0 (by omega)
      have hx : (mtf s.1 ps[k]).getD 0 0 = s.1.getD ps[k] 0 := rfl
      generalize hy : s.1.getD ps[k] 0 = y at hx
      have HY := Lib.hid hy
      clear hy
      generalize hM : mtf s.1 ps[k] = M at hmlen hx
      have HM := Lib.hid hM
      have hbs := bel.size
      go_wp2_with (first
        | (go_at_call 21; refine (front_any _ _ _ _ _ _ _ ownL hpk hn).mono ?_; rintro e w3 ⟨rfl, own3, grow3⟩; rw [hM] at own3; have hc3 := own3.ints.at 0 (by omega) _ hx; have own1 := own1' w3 grow3; have bel3 := below_grown bel grow3 hbs (fun g hg => (ownL.block g hg).1))
        | (at_builtin; refine app_nat rfl (.tmp 20) (.tmp 24) 22 rfl w.heap.size 5 .u8 1 Try.underlying22 infoByte (by omega) rfl (own1.alloc _) rfl (l2 := [y]) (srcAt_new w3 _ _ _ _ rfl) rfl (by omega) (by simp; have := bel3.size; omega) ?_; intro A4 c4 w4 own4 grow4 fresh4))
      go_roundw
      case rel =>
        exact ⟨k + 1, A4, c4, by omega, by go_num, rfl, by rw [HS.out]; show Own _ _ _ _ _ _ _ (cellsN .u8 (s.2 ++ [s.1.getD ps[k] 0])); rw [HY.out]; exact own4,
          by rw [HS.out]; show Own _ _ _ _ _ _ _ (cellsN .u8 (mtf s.1 ps[k])); rw [HM.out]; exact (own3.alloc _).grown grow4 apart.flip,
          apart.next (fun g hg => ((own3.alloc _).block g hg).2) fresh4, below_grown (bel3.alloc bel3.size _) grow4 (bel3.alloc bel3.size _).size (fun g hg => (own1.block g hg).1)⟩
      case measure => simp [intOf]; omega
    · obtain rfl : k = ps.length := by omega
      rw [List.take_length] at own ownL
      go_wp2
      go_ret2
      exact ⟨_, _, _, _, rfl, own, ownL, apart, bel⟩
theorem newMtf_any (A : Option Addr) (n cap : Nat) (w : World) (hn : n ≤ 256) : Calls Try.prog 25 #[.slice A n cap] w fun e w' => e = .returned (.slice A n cap) ∧ w = w' := by
  go_enter Try.func25, Try.ntmps25
  go_wp2
  go_ret
  exact ⟨rfl, rfl⟩
theorem zzFront_any (A Ap : Option Addr) (cap capp n m : Nat) (L ps : List Nat) (w : World) (hA : Ints w .u8 A L) (hP : Ints w .i64 Ap ps) (hL : L.length = n) (hm : ps.length = m) (hn : n ≤ 256) (h0 : 0 < n) (hps : ∀ p ∈ ps, p < n) (hm2 : m ≤ 140737488351232) (hb : ∀ x ∈ L, x < 256)
    (hAn : A = none → L = [] ∧ cap = 0) :
    Calls Try.prog 20 #[.slice A n cap, .slice Ap m capp] w fun e w' => ∃ A1 c1 A2 c2, e = .returned (.tuple #[.slice A1 m c1, .slice A2 n c2]) ∧ Own w' w.heap.size 5 1 A1 m c1 (cellsN .u8 (mst L ps).2) ∧ Own w' w.heap.size 5 1 A2 n c2 (cellsN .u8 (mst L ps).1) ∧ Apart A1 A2 ∧ Below w.heap.size w w' := by
  have S := Lib.hid (srcAt_ints cap hA hAn)
  rw [hL] at S
  have HL := Lib.hid hL
  have HPS := Lib.hid hps
  clear hAn hA
  subst hm
  go_enter Try.func20, Try.ntmps20
  go_wp2_with (first | (go_at_call 25; refine (newMtf_any _ _ _ _ hn).mono ?_; rintro e w3 ⟨rfl, rfl⟩) | (at_builtin; refine app_nat rfl (.const (.slice none 0 0)) (.tmp 9) 22 rfl w.heap.size 5 .u8 1 Try.underlying22 infoByte (by omega) (l := []) rfl (Own.nil _ _ _ _) rfl S.out HL.out (by omega) (Nat.le_refl _) ?_; intro A2 c2 w2 own2 grow2 fresh2; simp only [Nat.zero_add, List.nil_append] at own2 ⊢; have b2 := below_grown_nil grow2))
  go_loopw [4, 14] (fun v i wr => ∃ (k : Nat) (A1 : Option Addr) (c1 : Nat), k ≤ ps.length ∧ i = .int .i64 k ∧ v = .slice A1 k c1 ∧ Own wr w.heap.size 5 1 A1 k c1 (cellsN .u8 (mst L (ps.take k)).2) ∧ Own wr w.heap.size 5 1 A2 n c2 (cellsN .u8 (mst L (ps.take k)).1) ∧ Apart A1 A2 ∧ Below w.heap.size w wr) (fun _ i _ => ps.length - (intOf i).toNat)
  case atStart => exact ⟨0, none, 0, by omega, rfl, rfl, Own.nil _ _ _ _, by rw [List.take_zero]; exact own2, .inl rfl, b2⟩
  case round =>
    obtain ⟨k, A1, c1, hk, rfl, rfl, own, ownL, apart, bel⟩ := hrel
    by_cases hlt : k < ps.length
    · obtain ⟨b1, o1, rfl, hb1', hc1⟩ := hP k hlt
      have hd1 := (bel.cell (p := ⟨b1, o1 + k, none⟩) hb1').trans hc1
      have hpk := HPS.out _ (List.getElem_mem hlt)
      have hs := mst_snoc L ps k hlt
      have hlen := (mst_ind L n HL.out (ps.take k) (fun p hp => HPS.out p (List.mem_of_mem_take hp))).1
      generalize mst L (ps.take k) = s at own ownL hs hlen
      have HS := Lib.hid hs
      clear hs
      have hmlen : (mtf s.1 ps[k]).length = n := by rw [mtf_length _ _ (by omega)]; exact hlen
      have own1' := fun (w3 : World) (g3 : wr.grownBy w3 (blockOf A2)) => own.grown g3 apart
      obtain ⟨g2, rfl, hg2, hg2', _, _⟩ := ownL.cell 0 (by omega)
      have hx : (mtf s.1 ps[k]).getD 0 0 = s.1.getD ps[k] 0 := rfl
      generalize hy : s.1.getD ps[k] 0 = y at hx
      have HY := Lib.hid hy
      clear hy
      generalize hM : mtf s.1 ps[k] = M at hmlen hx
      have HM := Lib.hid hM
      have hbs := bel.size
      go_wp2_with (first
        | (go_at_call 26; refine (decode_any _ _ _ _ _ _ _ ownL hpk hn).mono ?_; rintro e w3 ⟨rfl, own3, grow3⟩; rw [hM] at own3; simp only [HY.out]; have hc3 := own3.ints.at 0 (by omega) _ hx; have own1 := own1' w3 grow3; have bel3 := below_grown bel grow3 hbs (fun g hg => (ownL.block g hg).1))
        | (at_builtin; refine app_nat rfl (.tmp 18) (.tmp 22) 22 rfl w.heap.size 5 .u8 1 Try.underlying22 infoByte (by omega) rfl (own1.alloc _) rfl (l2 := [y]) (srcAt_new w3 _ _ _ _ rfl) rfl (by omega) (by simp; have := bel3.size; omega) ?_; intro A4 c4 w4 own4 grow4 fresh4))
      go_roundw
      case rel =>
        exact ⟨k + 1, A4, c4, by omega, by go_num, rfl, by rw [HS.out]; show Own _ _ _ _ _ _ _ (cellsN .u8 (s.2 ++ [s.1.getD ps[k] 0])); rw [HY.out]; exact own4,
          by rw [HS.out]; show Own _ _ _ _ _ _ _ (cellsN .u8 (mtf s.1 ps[k])); rw [HM.out]; exact (own3.alloc _).grown grow4 apart.flip,
          apart.next (fun g hg => ((own3.alloc _).block g hg).2) fresh4, below_grown (bel3.alloc bel3.size _) grow4 (bel3.alloc bel3.size _).size (fun g hg => (own1.block g hg).1)⟩
      case measure => simp [intOf]; omega
    · obtain rfl : k = ps.length := by omega
      rw [List.take_length] at own ownL
      go_wp2
      go_ret2
      exact ⟨_, _, _, _, rfl, own, ownL, apart, bel⟩
end Go.Proofs.Ytdhehnjidakfcaa

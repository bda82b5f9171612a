/- The list behind some places is where the next begin: the law's walk. -/
import Derived.Test.YtdhehnjidakfcaaFrontLaw
namespace Go.Proofs.Ytdhehnjidakfcaa
open Go.RowKit
set_option maxHeartbeats 400000
set_option linter.unusedVariables false
set_option linter.unusedSimpArgs false
theorem mst_append (L a b : List Nat) : mst L (a ++ b) = ((mst (mst L a).1 b).1, (mst L a).2 ++ (mst (mst L a).1 b).2) := by
  have h : ∀ (b : List Nat) (s : List Nat × List Nat), b.foldl mstep s = ((mst s.1 b).1, s.2 ++ (mst s.1 b).2) := by
    intro b
    induction b with
    | nil => intro s; simp [mst]
    | cons p b ih =>
      intro s
      have e1 := ih (mstep s p)
      have e2 := ih (mstep (s.1, []) p)
      rw [List.foldl_cons, e1]
      show _ = ((List.foldl mstep (mstep (s.1, []) p) b).1, s.2 ++ (List.foldl mstep (mstep (s.1, []) p) b).2)
      rw [e2]
      simp [mstep]
  unfold mst
  rw [List.foldl_append, h]
  rfl
theorem own_nil_src {w : World} {B : Nat} {e : TypeId} {k : IntKind} {A : Option Addr} {n cap : Nat} {l : List Nat} (h : Own w B e 1 A n cap (cellsN k l)) : A = none → l = [] ∧ cap = 0 := by
  intro hA
  subst hA
  rcases h.2 with ⟨h', h0⟩ | ⟨g, cap', cur, h', _⟩
  · simp only [Value.slice.injEq] at h'
    have hl := h.len
    subst h0
    exact ⟨by simpa [cellsN] using hl, h'.2.2⟩
  · simp at h'
theorem apart_base {A A2 : Option Addr} {B : Nat} (h1 : ∀ g, blockOf A = some g → B ≤ g) (h2 : ∀ g, blockOf A2 = some g → g < B) : Apart A A2 := by
  unfold Apart
  cases hA : blockOf A with
  | none => exact .inl rfl
  | some g =>
    right
    intro e
    have := h1 g hA
    have := h2 g e.symm
    omega
theorem fnFrontAgain_walk (A1 : Option Addr) (c1 : Nat) (z1 : List Int) (A2 : Option Addr) (c2 : Nat) (z2 : List Int) (Ab : Option Addr) (cb : Nat) (zb : List Int) (w : World) {P : Prop} (_ : P)
    (h1 : Arg .u8 w A1 z1 c1) (m1 : z1.length * 1 ≤ 140737488351232) (h2 : Arg .i64 w A2 z2 c2) (m2 : z2.length * 8 ≤ 140737488351232) (hb2 : Arg .i64 w Ab zb cb) (mb : zb.length * 8 ≤ 140737488351232) (hsum : z1.length + z2.length + zb.length ≤ 1048576) :
    Calls Try.prog 4 #[.slice A1 z1.length c1, .slice A2 z2.length c2, .slice Ab zb.length cb] w fun e w' => e = .returned (.bool true) ∧ Below w.heap.size w w' := by
  obtain ⟨l1, hl1, hA1, hb1, hm1⟩ := bytes_of h1
  have hc := h1.le
  go_enter Try.func4, Try.ntmps4
  go_wp2_with fail
  refine (list_any A1 c1 _ l1 _ hA1 hl1 hc (by omega) hb1).mono ?_
  rintro e w1 ⟨A3, n, c3, L, rfl, hL, h0, h256, hcap, hI, hb, b1⟩
  clear hb1 hA1 hl1
  go_wp2_with fail
  refine (rests_any A2 c2 _ n z2 w1 (h2.cells.below b1) rfl h2.wf h0 (by omega) m2).mono ?_
  rintro e w2 ⟨A4, c4, rfl, own4, b2⟩
  have hps := restsOf_lt z2 n h0
  have hrl := restsOf_length z2 n
  generalize restsOf z2 n = rs at own4 hps hrl
  have HPS : Hid (∀ p ∈ rs ++ [0], p < n) := by
    intro p hp
    rcases List.mem_append.1 hp with h | h
    · exact hps p h
    · obtain rfl := List.mem_singleton.1 h; exact h0
  have HRL : Hid ((rs ++ [0]).length = z2.length + 1) := by
    show (rs ++ [0]).length = _
    rw [List.length_append, hrl]; rfl
  clear hps hrl
  have HL := Lib.hid hL; have HB := Lib.hid hb
  clear hL hb
  have hs2 := b2.size
  go_wp2_with (at_builtin; refine app_nat rfl (.tmp 18) (.tmp 19) 23 rfl w1.heap.size 3 .i64 8 Try.underlying23 infoInt (by omega) rfl (own4.alloc _) rfl (l2 := [0]) (srcAt_new w2 _ _ _ _ rfl) rfl (by omega) (by simp; omega) ?_; intro A5 c5 w3 own5 grow5 _)
  have b3 : Below w1.heap.size w1 w3 := below_grown (b2.alloc hs2 _) grow5 (b2.alloc hs2 _).size (fun g hg => (own4.block g hg).1)
  generalize hra : rs ++ [0] = ra at own5 HPS HRL
  clear hra own4 grow5
  refine (rests_any Ab cb _ n zb w3 (((hb2.cells.below b1).below b3)) rfl hb2.wf h0 (by omega) mb).mono ?_
  rintro e w4 ⟨A6, c6, rfl, own6, b4⟩
  have HQS := Lib.hid (restsOf_lt zb n h0)
  have HQL := Lib.hid (restsOf_length zb n)
  generalize restsOf zb n = rb at own6 HQS HQL
  have b4' := b3.trans (b4.mono b3.size)
  have own5' := own5.below b4
  have IL := hI.below b4'
  have HL0 : Hid (0 < L.length) := by show 0 < L.length; rw [HL.out]; exact h0
  go_wp2_with fail
  refine (implFront_any A3 A5 c3 c5 n _ L ra w4 IL own5'.ints HL.out HRL.out h256 h0 HPS.out (by omega) HB.out (hI.no_nil HL0.out)).mono ?_
  rintro e w5 ⟨A7, c7, A8, c8, rfl, o1, o2, ap, b5⟩
  have HM := Lib.hid (mst_ind L n HL.out ra HPS.out)
  have HMB := Lib.hid (mst_lt L n HL.out HB.out ra HPS.out)
  have HA := Lib.hid (mst_append L ra rb)
  generalize mst L ra = s at o1 o2 HM HMB HA
  have HMA := HM.out.1; have HMC := HM.out.2
  have b5' := b4'.trans (b5.mono b4'.size)
  have own6' := own6.below b5
  go_wp2_with fail
  refine (implFront_any A8 A6 c8 c6 n _ s.1 rb w5 o2.ints own6'.ints HM.out.1 HQL.out h256 h0 HQS.out (by omega) HMB.out.1 (o2.none0 h0)).mono ?_
  rintro e w6 ⟨A9, c9, A10, c10, rfl, o3, o4, ap2, b6⟩
  have HK := Lib.hid (mst_ind s.1 n HM.out.1 rb HQS.out)
  generalize mst s.1 rb = t at o3 o4 HK HA
  have b6' := b5'.trans (b6.mono b5'.size)
  have own5b := (own5'.below b5).below b6
  have own6b := own6'.below b6
  have o1b := o1.below b6
  have hblk : ∀ g, blockOf A5 = some g → g < w4.heap.size := fun g hg => (own5'.block g hg).2
  have hw1 := b6'.size
  go_wp2_with (at_builtin; refine app_nat rfl (.tmp 51) (.tmp 52) 23 rfl w1.heap.size 3 .i64 8 Try.underlying23 infoInt (by omega) rfl own5b rfl (l2 := rb) (by have := srcAt_ints c6 own6b.ints (own_nil_src own6b); rw [HQL.out] at this; exact this) HQL.out (by omega) hw1 ?_; intro A11 c11 w7 own7 grow7 _)
  have b7 : Below w1.heap.size w1 w7 := below_grown b6' grow7 hw1 (fun g hg => (own5b.block g hg).1)
  have hs4 := b4'.size
  have o1c := o1b.grown grow7 (apart_base (fun g hg => (o1b.block g hg).1) hblk)
  have hs5 := b5.size
  have o3c := o3.grown grow7 (apart_base (fun g hg => Nat.le_trans hs5 (o3.block g hg).1) hblk)
  have o4c := o4.grown grow7 (apart_base (fun g hg => Nat.le_trans hs5 (o4.block g hg).1) hblk)
  have HRS : Hid (∀ p ∈ ra ++ rb, p < n) := by
    intro p hp
    rcases List.mem_append.1 hp with h | h
    · exact HPS.out p h
    · exact HQS.out p h
  have HRSL : Hid ((ra ++ rb).length = z2.length + 1 + zb.length) := by
    show (ra ++ rb).length = _
    rw [List.length_append, HRL.out, HQL.out]
  refine (implFront_any A3 A11 c3 c11 n _ L (ra ++ rb) w7 (hI.below b7) own7.ints HL.out HRSL.out h256 h0 HRS.out (by omega) HB.out (hI.no_nil HL0.out)).mono ?_
  rintro e w8 ⟨A12, c12, A13, c13, rfl, o5, o6, ap3, b8⟩
  rw [HA.out] at o5 o6
  have b8' := b7.trans (b8.mono b7.size)
  have o1d := o1c.below b8
  have o3d := o3c.below b8
  have o4d := o4c.below b8
  have hsz := b8.size
  have hsz4 : w4.heap.size ≤ w7.heap.size := by have := grow7.size; have := b6.size; omega
  go_wp2_with (at_builtin; refine app_nat rfl (.tmp 57) (.tmp 58) 22 rfl w4.heap.size 5 .u8 1 Try.underlying22 infoByte (by omega) rfl o1d rfl (l2 := t.2) (by have := srcAt_ints c9 o3d.ints (own_nil_src o3d); rw [HK.out.2, HQL.out] at this; exact this) (by rw [HK.out.2]; exact HQL.out) (by omega) (by omega) ?_; intro A14 c14 w9 own9 grow9 _)
  have o5' := o5.grown grow9 (apart_base (fun g hg => (o5.block g hg).1) (fun g hg => (o1c.block g hg).2))
  have o6' := o6.grown grow9 (apart_base (fun g hg => (o6.block g hg).1) (fun g hg => (o1c.block g hg).2))
  have o4e := o4d.grown grow9 (apart_base (fun g hg => (o4d.block g hg).1) (fun g hg => (o1.block g hg).2))
  have b9 : Below w1.heap.size w1 w9 := below_grown b8' grow9 b8'.size (fun g hg => Nat.le_trans hs4 (o1d.block g hg).1)
  have HLN : Hid ((s.2 ++ t.2).length = z2.length + 1 + zb.length) := by
    show (s.2 ++ t.2).length = _
    rw [List.length_append, HM.out.2, HK.out.2, HRL.out, HQL.out]
  refine (same_self A14 A12 c14 c12 _ (s.2 ++ t.2) HLN.out _ own9.ints o5'.ints (by omega)).mono ?_
  rintro e w' ⟨rfl, rfl⟩
  go_wp2_with fail
  refine (same_self A10 A13 c10 c13 _ t.1 HK.out.1 _ o4e.ints o6'.ints (by omega)).mono ?_
  rintro e w' ⟨rfl, rfl⟩
  go_wp2_with fail
  go_ret
  exact ⟨rfl, b1.trans (b9.mono b1.size)⟩
end Go.Proofs.Ytdhehnjidakfcaa

/- The first law of moves to the front. -/
import Derived.Test.YtdhehnjidakfcaaFrontParts
namespace Go.Proofs.Ytdhehnjidakfcaa
open Go.RowKit
set_option maxHeartbeats 400000
set_option linter.unusedVariables false
set_option linter.unusedSimpArgs false
theorem same_self (A1 A2 : Option Addr) (c1 c2 n : Nat) (l : List Nat) (hn : l.length = n) (w : World) (h1 : Ints w .u8 A1 l) (h2 : Ints w .u8 A2 l) (hl : n ≤ 9223372036854775807) :
    Calls Try.prog 13 #[.slice A1 n c1, .slice A2 n c2] w fun e w' => e = .returned (.bool true) ∧ w = w' := by
  subst hn
  refine (same_any A1 A2 c1 c2 l l w h1 h2 hl hl).mono ?_
  rintro e w' ⟨rfl, rfl⟩
  exact ⟨by simp, rfl⟩
theorem Ints.no_nil {w : World} {k : IntKind} {A : Option Addr} {l : List Nat} (h : Ints w k A l) (h0 : 0 < l.length) {P : Prop} (hA : A = none) : P := by
  obtain ⟨b, off, e, _⟩ := h 0 h0
  rw [hA] at e; cases e
theorem fnFront_walk (A1 : Option Addr) (c1 : Nat) (z1 : List Int) (A2 : Option Addr) (c2 : Nat) (z2 : List Int) (w : World) {P : Prop} (_ : P)
    (h1 : Arg .u8 w A1 z1 c1) (m1 : z1.length * 1 ≤ 140737488351232) (h2 : Arg .i64 w A2 z2 c2) (m2 : z2.length * 8 ≤ 140737488351232) :
    Calls Try.prog 3 #[.slice A1 z1.length c1, .slice A2 z2.length c2] w fun e w' => e = .returned (.bool true) ∧ Below w.heap.size w w' := by
  obtain ⟨l1, hl1, hA1, hb1, hm1⟩ := bytes_of h1
  have hc := h1.le
  go_enter Try.func3, Try.ntmps3
  go_wp2_with fail
  refine (list_any A1 c1 _ l1 _ hA1 hl1 hc (by omega) hb1).mono ?_
  rintro e w1 ⟨A3, n, c3, L, rfl, hL, h0, h256, hcap, hI, hb, b1⟩
  clear hb1 hA1 hl1
  go_wp2_with fail
  refine (rests_any A2 c2 _ n z2 w1 (h2.cells.below b1) rfl h2.wf h0 (by omega) m2).mono ?_
  rintro e w2 ⟨A4, c4, rfl, own4, b2⟩
  have hps := restsOf_lt z2 n h0
  have hrl := restsOf_length z2 n
  generalize restsOf z2 n = rs at own4 hps hrl
  have HPS : Hid (∀ p ∈ rs ++ [0], p < n) := by
    intro p hp
    rcases List.mem_append.1 hp with h | h
    · exact hps p h
    · obtain rfl := List.mem_singleton.1 h; exact h0
  have HRL : Hid ((rs ++ [0]).length = z2.length + 1) := by
    show (rs ++ [0]).length = _
    rw [List.length_append, hrl]; rfl
  clear hps hrl
  have HL := Lib.hid hL; have HB := Lib.hid hb
  clear hL hb
  have hs2 := b2.size
  go_wp2_with (at_builtin; refine app_nat rfl (.tmp 14) (.tmp 15) 23 rfl w1.heap.size 3 .i64 8 Try.underlying23 infoInt (by omega) rfl (own4.alloc _) rfl (l2 := [0]) (srcAt_new w2 _ _ _ _ rfl) rfl (by omega) (by simp; omega) ?_; intro A5 c5 w3 own5 grow5 _)
  have b3 : Below w1.heap.size w1 w3 := below_grown (b2.alloc hs2 _) grow5 (b2.alloc hs2 _).size (fun g hg => (own4.block g hg).1)
  refine (implFront_any A3 A5 c3 c5 n _ L (rs ++ [0]) w3 (hI.below b3) own5.ints HL.out HRL.out h256 h0 HPS.out (by omega) HB.out (hI.no_nil (by rw [HL.out]; exact h0))).mono ?_
  rintro e w4 ⟨A6, c6, A7, c7, rfl, o1, o2, ap, b4⟩
  have b4' := b3.trans (b4.mono b3.size)
  go_wp2_with fail
  refine (specFront_any A3 A5 c3 c5 n _ L (rs ++ [0]) w4 (hI.below b4') (own5.ints.below b4) HL.out HRL.out h256 h0 HPS.out (by omega) HB.out (hI.no_nil (by rw [HL.out]; exact h0))).mono ?_
  rintro e w5 ⟨A8, c8, A9, c9, rfl, o3, o4, ap2, b5⟩
  have b5' := b4'.trans (b5.mono b4'.size)
  have hlen := mst_ind L n HL.out (rs ++ [0]) HPS.out
  rw [HRL.out] at hlen
  generalize mst L (rs ++ [0]) = s at o1 o2 o3 o4 hlen
  have HS := Lib.hid hlen
  clear hlen
  go_wp2_with fail
  refine (same_self A6 A8 c6 c8 _ s.2 HS.out.2 _ (o1.below b5).ints o3.ints (by omega)).mono ?_
  rintro e w' ⟨rfl, rfl⟩
  go_wp2_with fail
  refine (same_self A7 A9 c7 c9 _ s.1 HS.out.1 _ (o2.below b5).ints o4.ints (by omega)).mono ?_
  rintro e w' ⟨rfl, rfl⟩
  go_wp2_with fail
  go_ret
  exact ⟨rfl, b1.trans (b5'.mono b1.size)⟩
end Go.Proofs.Ytdhehnjidakfcaa

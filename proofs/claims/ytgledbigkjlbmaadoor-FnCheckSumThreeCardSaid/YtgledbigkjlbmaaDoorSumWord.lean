/- Other bytes within four: the walks of same, place and of the law over them. -/
import Derived.Test.YtgledbigkjlbmaaDoorSumForged
import Derived.Test.YtgledbigkjlbmaaDoorCopy
namespace Go.Proofs.YtgledbigkjlbmaaDoor
open Go.RowKit
set_option maxHeartbeats 400000
theorem take_eq_succ (l1 l2 : List Nat) (k : Nat) (h1 : k < l1.length) (h2 : k < l2.length) (h : Hid (l1.take k = l2.take k)) (hx : Hid (l1[k] = l2[k])) : Hid (l1.take (k + 1) = l2.take (k + 1)) := by
  show l1.take (k + 1) = l2.take (k + 1)
  rw [List.take_succ_eq_append_getElem h1, List.take_succ_eq_append_getElem h2, h.out, hx.out]
theorem same_any (A1 A2 : Option Addr) (c1 c2 : Nat) (l1 l2 : List Nat) (w : World) (h1 : Ints w .u8 A1 l1) (h2 : Ints w .u8 A2 l2) (hl1 : l1.length ≤ 9223372036854775807) (hl2 : l2.length ≤ 9223372036854775807) :
    Calls Tryd.prog 13 #[.slice A1 l1.length c1, .slice A2 l2.length c2] w fun e w' => e = .returned (.bool (l1 == l2)) ∧ w = w' := by
  by_cases hlen : l1.length = l2.length
  · have HB := Lib.hid hlen
    have hne : ((l1.length : Int) != (l2.length : Int)) = false := by simp [hlen]
    clear hlen
    go_enter Tryd.func13, Tryd.ntmps13
    go_wp2
    go_loop [14] (fun i => ∃ k : Nat, k ≤ l1.length ∧ i = .int .i64 k ∧ Hid (l1.take k = l2.take k)) (fun i => l1.length - (intOf i).toNat)
    case atStart => exact ⟨0, by omega, rfl, rfl⟩
    case round =>
      obtain ⟨k, hk, rfl, heq⟩ := hrel
      by_cases hlt : k < l1.length
      · have hlt2 : k < l2.length := by have := HB.out; omega
        obtain ⟨b1, o1, rfl, _, hc1⟩ := h1 k hlt
        obtain ⟨b2, o2, rfl, _, hc2⟩ := h2 k hlt2
        by_cases hx : l1[k] = l2[k]
        · have hneq : ((l1[k] : Int) != (l2[k] : Int)) = false := by simp [hx]
          have HX := Lib.hid hx
          clear hx
          go_wp2
          go_round
          case rel => exact ⟨k + 1, by omega, by go_num, take_eq_succ _ _ k hlt hlt2 heq HX⟩
          case measure => simp [intOf]; omega
        · have hneq : ((l1[k] : Int) != (l2[k] : Int)) = true := by simp; omega
          have HX : Hid (l1 ≠ l2) := by
            intro e
            subst e
            exact hx rfl
          clear hx
          go_wp2
          go_ret
          exact ⟨ret_bool (by have := HX.out; simp [this]), rfl⟩
      · have HE : Hid (l1 = l2) := by
          have e1 : l1.take k = l1 := List.take_of_length_le (by omega)
          have e2 : l2.take k = l2 := List.take_of_length_le (by have := HB.out; omega)
          have := heq.out
          rw [e1, e2] at this
          exact this
        go_wp2
        go_ret
        exact ⟨ret_bool (by have := HE.out; simp [this]), rfl⟩
  · have hne : ((l1.length : Int) != (l2.length : Int)) = true := by simp; omega
    have HB := Lib.hid hlen
    clear hlen
    go_enter Tryd.func13, Tryd.ntmps13
    go_wp2
    go_ret
    exact ⟨ret_bool (by
      have : l1 ≠ l2 := fun e => HB.out (by rw [e])
      simp [this]), rfl⟩
theorem place_any (n k : Int) (w : World) (hn : (Lit.int .i64 n).wf = true) (h0 : 0 < k) (h1 : k ≤ 4611686018427387904) :
    Calls Tryd.prog 12 #[.int .i64 n, .int .i64 k] w fun e w' => e = .returned (.int .i64 (n % k)) ∧ w = w' := by
  have hr := wf_range hn
  have ht1 : n.tmod k < k := Int.tmod_lt_of_pos n h0
  have ht2 : -k < n.tmod k := Int.lt_tmod_of_pos n h0
  have ht3 : n.tmod k % k = n % k := by
    have e := Int.mul_tdiv_add_tmod n k
    have : n % k = (k * n.tdiv k + n.tmod k) % k := by rw [e]
    rw [this, Int.mul_add_emod_self_left]
  have HT := Lib.hid ht3
  clear ht3
  go_enter Tryd.func12, Tryd.ntmps12
  go_wp2
  go_ret
  refine ⟨ret_int ?_, rfl⟩
  show (n.tmod k + k) % k = n % k
  rw [Int.add_emod_right, HT.out]
theorem Own.caps {w : World} {base : Nat} {e : TypeId} {size : Nat} {A : Option Addr} {n cap : Nat} {xs : List Value} (h : Own w base e size A n cap xs) : n ≤ cap ∧ cap ≤ maxLen := by
  rcases h.2 with ⟨h', h0⟩ | ⟨g, cap', cur, h', _, _, hnc, hcm, _⟩
  · simp only [Value.slice.injEq] at h'
    subst h0; exact ⟨by omega, by rw [h'.2.2]; unfold maxLen; omega⟩
  · simp only [Value.slice.injEq] at h'
    rw [h'.2.2]; exact ⟨hnc, hcm⟩
theorem same_any2 (A1 A2 : Option Addr) (c1 c2 n : Nat) (l1 l2 : List Nat) (hn : l1.length = n) (w : World) (h1 : Ints w .u8 A1 l1) (h2 : Ints w .u8 A2 l2) (hl1 : l1.length ≤ 9223372036854775807) (hl2 : l2.length ≤ 9223372036854775807) :
    Calls Tryd.prog 13 #[.slice A1 n c1, .slice A2 l2.length c2] w fun e w' => e = .returned (.bool (l1 == l2)) ∧ w = w' := by
  subst hn
  exact same_any A1 A2 c1 c2 l1 l2 w h1 h2 hl1 hl2
/-- a text with other bytes from a place on -/
def win (l1 l2 : List Nat) (k d : Nat) : List Nat := l1.take k ++ (l2.take d ++ l1.drop (k + min l2.length d))
theorem win_cells (l1 l2 : List Nat) (k d : Nat) : (cellsN .u8 l1).take k ++ ((cellsN .u8 l2).take d ++ (cellsN .u8 l1).drop (k + min l2.length d)) = cellsN .u8 (win l1 l2 k d) := by
  simp [cellsN, win, List.map_take, List.map_drop]
theorem win_length (l1 l2 : List Nat) (k d : Nat) (h : k + d ≤ l1.length) : (win l1 l2 k d).length = l1.length := by
  simp only [win, List.length_append, List.length_take, List.length_drop]
  omega
theorem win_lt (l1 l2 : List Nat) (k d : Nat) (h1 : ∀ x ∈ l1, x < 256) (h2 : ∀ x ∈ l2, x < 256) : ∀ x ∈ win l1 l2 k d, x < 256 := by
  intro x hx
  simp only [win, List.mem_append] at hx
  rcases hx with h | h | h
  · exact h1 x (List.mem_of_mem_take h)
  · exact h2 x (List.mem_of_mem_take h)
  · exact h1 x (List.mem_of_mem_drop h)
theorem win_sum (l1 l2 : List Nat) (k d : Nat) (h : k + d ≤ l1.length) (hd : d ≤ 4) (h1 : ∀ x ∈ l1, x < 256) (h2 : ∀ x ∈ l2, x < 256) :
    (num (sumOf 0#32 (win l1 l2 k d)) == num (sumOf 0#32 l1)) = (win l1 l2 k d == l1) := by
  rw [Bool.eq_iff_iff, beq_iff_eq, beq_iff_eq]
  constructor
  · intro hn
    have hs : sumOf 0#32 (win l1 l2 k d) = sumOf 0#32 l1 := by
      apply BitVec.eq_of_toNat_eq
      unfold num at hn
      omega
    unfold sumOf at hs
    have hs' := congrArg (fun x : Crc.W => ~~~ x) hs
    simp only [BitVec.not_not] at hs'
    have e1 : l1 = l1.take k ++ ((l1.drop k).take (min l2.length d) ++ l1.drop (k + min l2.length d)) := by
      rw [← List.drop_drop, List.take_append_drop, List.take_append_drop]
    have hm : (l2.take d).length = min l2.length d := by rw [List.length_take]; omega
    have hr : ((l1.drop k).take (min l2.length d)).length = min l2.length d := by rw [List.length_take, List.length_drop]; omega
    have hq := Crc.steps_window (bv (l1.take k)) (bv (l2.take d)) (bv ((l1.drop k).take (min l2.length d))) (bv (l1.drop (k + min l2.length d))) (~~~ 0#32) (by simp [bv]; omega)
      (by simp [bv]; omega) (bv_low _ fun x hx => h2 x (List.mem_of_mem_take hx)) (bv_low _ fun x hx => h1 x (List.mem_of_mem_drop (List.mem_of_mem_take hx))) (by
        have ea : ∀ a b c : List Nat, bv a ++ (bv b ++ bv c) = bv (a ++ (b ++ c)) := by intro a b c; simp [bv]
        rw [ea, ea, ← e1]
        exact hs')
    have inj : ∀ a b : List Nat, (∀ x ∈ a, x < 256) → (∀ x ∈ b, x < 256) → bv a = bv b → a = b := by
      intro a
      induction a with
      | nil => intro b _ _ h; cases b with
        | nil => rfl
        | cons y b => simp [bv] at h
      | cons x a ih =>
        intro b ha hb h
        cases b with
        | nil => simp [bv] at h
        | cons y b =>
          simp only [bv, List.map_cons, List.cons.injEq] at h
          have hx := ha x (by simp)
          have hy := hb y (by simp)
          have : x = y := by
            have := congrArg BitVec.toNat h.1
            rw [BitVec.toNat_ofNat, BitVec.toNat_ofNat] at this
            omega
          rw [this, ih b (fun z hz => ha z (by simp [hz])) (fun z hz => hb z (by simp [hz])) h.2]
    have hq' := inj _ _ (fun x hx => h2 x (List.mem_of_mem_take hx)) (fun x hx => h1 x (List.mem_of_mem_drop (List.mem_of_mem_take hx))) hq
    unfold win
    rw [hq', ← e1]
  · intro e; rw [e]
theorem win_own {w : World} {B : Nat} {e : TypeId} {A : Option Addr} {n cap : Nat} {l1 l2 : List Nat} {k d : Nat}
    (own : Own w B e 1 A n cap ((cellsN .u8 l1).take k ++ ((cellsN .u8 l2).take d ++ (cellsN .u8 l1).drop (k + min l2.length d)))) (h : k + d ≤ l1.length) (hd : d ≤ 4) (h1 : ∀ x ∈ l1, x < 256) (h2 : ∀ x ∈ l2, x < 256) :
    ∃ lc : List Nat, Own w B e 1 A n cap (cellsN .u8 lc) ∧ Hid (lc.length = l1.length) ∧ Hid (∀ x ∈ lc, x < 256) ∧ Hid ((num (sumOf 0#32 lc) == num (sumOf 0#32 l1)) = (lc == l1)) := by
  rw [win_cells] at own
  exact ⟨win l1 l2 k d, own, win_length _ _ _ _ h, win_lt _ _ _ _ h1 h2, win_sum _ _ _ _ h hd h1 h2⟩
theorem fnCheckSumWord_walk (A1 : Option Addr) (cap1 : Nat) (z1 : List Int) (at0 : Int) (A2 : Option Addr) (cap2 : Nat) (z2 : List Int) (w : World) (hT : Tab w) (h1 : Arg .u8 w A1 z1 cap1) (hz1 : z1.length * 1 ≤ 140737488351232)
    (ha : (Lit.int .i64 at0).wf = true) (h2 : Arg .u8 w A2 z2 cap2) (_ : z2.length * 1 ≤ 140737488351232) :
    Calls Tryd.prog 8 #[.slice A1 z1.length cap1, .int .i64 at0, .slice A2 z2.length cap2] w fun e w' => e = .returned (.bool true) ∧ Below w.heap.size w w' := by
  obtain ⟨l1, hl1, hA1, hb1, hm1⟩ := bytes_of h1
  obtain ⟨l2, hl2, hA2, hb2, hm2⟩ := bytes_of h2
  have n1 : A1 = none → l1 = [] ∧ cap1 = 0 := fun e => ⟨List.eq_nil_of_length_eq_zero (by rw [hl1, (h1.nil e).1]; rfl), (h1.nil e).2⟩
  have n2 : A2 = none → l2 = [] ∧ cap2 = 0 := fun e => ⟨List.eq_nil_of_length_eq_zero (by rw [hl2, (h2.nil e).1]; rfl), (h2.nil e).2⟩
  rw [← hl1] at hz1 ⊢
  rw [← hl2]
  clear hl1 hl2 h1 h2
  have S1 := Lib.hid (srcAt_ints cap1 hA1 n1)
  have S2 := Lib.hid (srcAt_ints cap2 hA2 n2)
  have HB := Lib.hid hb1
  have HB2 := Lib.hid hb2
  clear n1 n2
  obtain ⟨k, hk, hkl⟩ : ∃ k : Nat, at0 % ((l1.length : Int) + 1) = k ∧ k ≤ l1.length := by
    have e1 := Int.emod_nonneg at0 (show ((l1.length : Int) + 1) ≠ 0 by omega)
    have e2 := Int.emod_lt_of_pos at0 (show (0 : Int) < (l1.length : Int) + 1 by omega)
    exact ⟨(at0 % ((l1.length : Int) + 1)).toNat, by omega, by omega⟩
  have HK := Lib.hid hk; clear hk
  by_cases h4 : k + 4 ≤ l1.length
  all_goals
    go_enter Tryd.func8, Tryd.ntmps8
    go_wp2_with fail
    refine (place_any _ _ _ ha (by omega) (by omega)).mono ?_
    rintro e w' ⟨rfl, rfl⟩
    rw [HK.out]
    go_wp2_with (first
      | (at_builtin; refine app_nat rfl (.const (.slice none 0 0)) (.tmp 14) 22 rfl w.heap.size 5 .u8 1 Tryd.underlying22 infoByte (by omega) (l := []) rfl (Own.nil _ _ _ _) rfl S1.out rfl (by omega) (Nat.le_refl _) ?_; intro A3 cap3 w3 own3 grow3 _; simp only [Nat.zero_add, List.nil_append] at own3 ⊢; have b3 := below_grown_nil grow3; have S2' := Lib.hid (srcAt_below S2.out b3 hA2); have q3 := own3.caps; unfold maxLen at q3)
      | (with_reducible refine copy_own rfl (.tmp 23) (.tmp 24) 22 22 rfl 5 Tryd.underlying22 (by kernel_rfl) _ _ _ _ _ _ rfl rfl own3 k ?_ ?_ _ S2'.out (by simp [cellsN]) (cellsN_one _ _) ?_))
    all_goals first
      | (intro _ g e; subst e; simp [add_none]; done)
      | (intro h; exfalso; omega)
      | (intro _ g e; exact ⟨_, e, add_none _ _ _⟩)
      | omega
      | (intro w4 own4 grow4
         have b4 := below_grown b3 grow4 b3.size (fun g hg => (own3.block g hg).1)
         obtain ⟨lc, ownc, hlc, hltc, hsum⟩ := win_own own4 (by omega) (by omega) HB.out HB2.out
         clear own4
         go_wp2_with fail
         refine (check_any (s := 0#32) rfl _ _ _ lc hlc.out _ (hT.below b4) ownc.ints (by rw [hlc.out]; omega) hltc.out).mono ?_
         rintro e w' ⟨rfl, rfl⟩
         go_wp2_with fail
         refine (check_any (s := 0#32) rfl _ _ _ l1 rfl _ (hT.below b4) (hA1.below b4) hm1 hb1).mono ?_
         rintro e w' ⟨rfl, rfl⟩
         have hs := hsum.out
         go_wp2_with fail
         refine (same_any2 _ _ _ _ _ lc l1 hlc.out _ ownc.ints (hA1.below b4) (by rw [hlc.out]; omega) hm1).mono ?_
         rintro e w' ⟨rfl, rfl⟩
         go_wp2_with fail
         refine (check_any (s := 0#32) rfl _ _ _ [1] rfl _ ((hT.below b4).alloc _) (Ints.one _ .u8 1 _ rfl rfl) (by simp) (by simp)).mono ?_
         rintro e w' ⟨rfl, rfl⟩
         have h1 := sum_one
         go_wp2_with fail
         go_ret
         exact ⟨rfl, b4.alloc b4.size _⟩)
end Go.Proofs.YtgledbigkjlbmaaDoor

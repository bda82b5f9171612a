/- The decompressor's transform undone: walked. -/
import Derived.Test.YtdhehnjidakfcaaInverse
namespace Go.Proofs.Ytdhehnjidakfcaa
open Go.RowKit
set_option maxHeartbeats 400000
set_option maxRecDepth 4000
set_option linter.unusedVariables false
set_option linter.unusedSimpArgs false
theorem infoWord : (Try.prog.info? 47).map (fun i => (i.zero, i.size, i.bytes)) = some (some (.int .u32 0), 1, 4) := by kernel_rfl
theorem word_shr (z q p : Nat) (hz : z < 256) (hp : z + 256 * q = p) : (p : Int) / 256 = (q : Int) := by omega
theorem word_low (z q p : Nat) (hz : z < 256) (hp : z + 256 * q = p) : (p : Int) % 256 = (z : Int) := by omega
theorem zzTurned_any (A : Option Addr) (cap n o : Nat) (l : List Nat) (w : World) (hA : Ints w .u8 A l) (hn : l.length = n) (h0 : 0 < n) (hm : n ≤ 900000) (ho : o < n) (hb : ∀ x ∈ l, x < 256) :
    Calls Try.prog 22 #[.slice A n cap, .int .u64 o] w fun e w' => ∃ A' c', e = .returned (.slice A' n c') ∧ Own w' w.heap.size 5 1 A' n c' (cellsN .u8 (Bwt.back (Bwt.order l) l n o)) ∧ Below w.heap.size w w' := by
  subst hn
  have HB := Lib.hid hb
  clear hb
  go_enter Try.func22, Try.ntmps22
  go_wp2_with (with_reducible refine make_nat rfl (.tmp 12) (.tmp 12) 45 rfl w.heap.size 47 .u32 4 Try.underlying45 infoWord (by omega) l.length rfl rfl (by omega) (Nat.le_refl _) ?_; intro w1 own1 grow1)
  have bel1 : Below w.heap.size w w1 := (Below.refl _ _).grown grow1 (Nat.le_refl _) (fun g hg => by cases hg)
  obtain ⟨T, hT, own1⟩ : ∃ T : List Nat, Hid (∀ x, T.getD x 0 = 0) ∧ Own w1 w.heap.size 47 1 (some ⟨w.heap.size, 0, none⟩) l.length l.length (cellsN .u32 T) := ⟨_, getD_noughts _, own1⟩
  rw [zero46]
  simp only [Result.andThen]
  rw [Oper.upon_value]
  have hbs := bel1.size
  obtain ⟨Z, hZ, own0⟩ := own_array2 w1 w.heap.size .u64 46 256 (by unfold maxLen; omega) hbs
  have own1' := own1.alloc (.cells (Array.replicate 256 (.int .u64 0)) 46)
  have bel0 := bel1.alloc hbs (.cells (Array.replicate 256 (.int .u64 0)) 46)
  have hgt : w.heap.size < w1.heap.size := (own1.block _ rfl).2
  clear own1 bel1 grow1
  generalize Array.replicate 256 (Value.int .u64 0) = R at own0 bel0 own1'
  go_wp2_with fail
  generalize w1.heap.size = g2 at own0 hgt
  go_loopw [7, 8, 16] (fun u7 u8 i wr => ∃ (k : Nat) (T F : List Nat), k ≤ l.length ∧ i = .int .i64 k ∧ Own wr w.heap.size 47 1 (some ⟨w.heap.size, 0, none⟩) l.length l.length (cellsN .u32 T) ∧ Own wr w.heap.size 46 1 (some ⟨g2, 0, none⟩) 256 256 (cellsN .u64 F) ∧ Hid (∀ x, T.getD x 0 = if x < k then l.getD x 0 else 0) ∧ Hid (∀ x, x < 256 → F.getD x 0 = eqs (l.take k) x) ∧ Below w.heap.size w wr) (fun _ _ i _ => l.length - (intOf i).toNat)
  case atStart => exact ⟨0, T, Z, by omega, rfl, own1', own0, fun x => by rw [hT.out, if_neg (by omega)], fun x hx => by rw [hZ.out]; rfl, bel0⟩
  case round =>
    clear own1' own0 bel0 hT hZ
    obtain ⟨k, T, F, hk, rfl, own1, own2, HT, HF, bel⟩ := hrel
    by_cases hlt : k < l.length
    · obtain ⟨b1, o1, rfl, hb1', hc1⟩ := hA k hlt
      have hd1 := (bel.cell (p := ⟨b1, o1 + k, none⟩) hb1').trans hc1
      have hyl : l.getD k 0 < 256 := getD_mem_lt HB.out hlt
      generalize hy : l.getD k 0 = y at hd1 hc1 hyl
      have HY := Lib.hid hy
      obtain ⟨hct, hft⟩ := own_int own1 k hlt _ rfl
      have HO1 := own_set own1 k y (y : Int) rfl
      have hv := HF.out y hyl
      have hle := Nat.le_trans (eqs_le (l.take k) y) (List.length_take_le k l)
      have ownF3 := own2.kept HO1.2 (.inr (by simp [blockOf]; omega))
      generalize hq : eqs (l.take k) y = q at hv hle
      have HQ := Lib.hid hq
      obtain ⟨hc4, hf4⟩ := own_int ownF3 y hyl q hv
      have HO2 := own_set ownF3 y (q + 1) ((q : Int) + 1) (by omega)
      have ownT3 := HO1.1.kept HO2.2 (.inr (by simp [blockOf]; omega))
      have bs1 := bel.size
      have bel3 := below_grown bel (A := some ⟨w.heap.size, 0, none⟩) HO1.2 bs1 (fun g hg => by cases hg; exact Nat.le_refl _)
      have bel4 := below_grown bel3 (A := some ⟨g2, 0, none⟩) HO2.2 bel3.size (fun g hg => by cases hg; exact Nat.le_of_lt hgt)
      have HR := Lib.hid (And.intro HO2.1 (And.intro ownT3 bel4))
      have HFL := own_length own2
      have HTL := own_length own1
      clear hv hc1 hy hq HO1 HO2 ownF3 ownT3 bel3 bel4
      have hy9 : (y : Int) < 256 := by omega
      go_wp2_with fail
      go_roundw
      case rel =>
        refine ⟨k + 1, T.set k y, F.set y (q + 1), by omega, by go_num, HR.out.2.1, HR.out.1, fun x => ?_, fun x hx => ?_, HR.out.2.2⟩
        · rw [getD_set _ _ _ _ (by rw [HTL.out]; exact hlt)]
          by_cases e : x = k
          · subst e
            rw [if_pos rfl, if_pos (by omega), HY.out]
          · rw [if_neg e, HT.out x]
            by_cases e2 : x < k
            · rw [if_pos e2, if_pos (by omega)]
            · rw [if_neg e2, if_neg (by omega)]
        · rw [getD_set _ _ _ _ (by rw [HFL.out]; exact hyl), eqs_succ l k hlt y HY.out x]
          by_cases e : x = y
          · subst e
            rw [if_pos rfl, if_pos rfl, HQ.out]
          · rw [if_neg e, if_neg e, HF.out x hx]; rfl
      case measure => simp [intOf]; omega
    · obtain rfl : k = l.length := by omega
      have hTl : T = l := by
        have hl := (own_length own1).out
        apply List.ext_getElem hl
        intro i h1 h2
        have := HT.out i
        rw [if_pos h2] at this
        simpa [List.getD_eq_getElem?_getD, List.getElem?_eq_getElem h1, List.getElem?_eq_getElem h2] using this
      subst hTl
      rw [List.take_length] at HF
      clear HT hk hlt
      go_wp2_with fail
      refine (inverse_any w.heap.size w.heap.size g2 T.length o T F wr own1 own2 (by omega) HF h0 hm ho HB.out bel.size).mono ?_
      rintro e w3 ⟨rfl, own3, bel3⟩
      have bel4 := bel.trans bel3
      clear own1 own2 HF
      go_wp2_with fail
      go_loopw [9, 10, 38] (fun pv ov i wr => ∃ (j : Nat) (A1 : Option Addr) (c1 : Nat), j ≤ T.length ∧ i = .int .i64 j ∧ pv = .int .u32 (itr (Bwt.order T) (j + 1) o : Nat) ∧ ov = .slice A1 j c1 ∧ Own wr w.heap.size 5 1 A1 j c1 (cellsN .u8 (Bwt.back (Bwt.order T) T j o)) ∧ Own wr w.heap.size 47 1 (some ⟨w.heap.size, 0, none⟩) T.length T.length (cellsN .u32 (packed T (Bwt.order T))) ∧ Apart A1 (some ⟨w.heap.size, 0, none⟩) ∧ Below w.heap.size w wr) (fun _ _ i _ => T.length - (intOf i).toNat)
      case atStart => exact ⟨0, none, 0, by omega, rfl, rfl, rfl, Own.nil _ _ _ _, own3, .inl rfl, bel4⟩
      case round =>
        clear own3 bel3 bel4 bel
        obtain ⟨j, A1, c1, hj, rfl, rfl, rfl, own, ownN, ap, bel⟩ := hrel
        by_cases hlt : j < T.length
        · have hk2 := itr_lt T o ho (j + 1)
          have hk3 := itr_lt T o ho (j + 2)
          have hbs := back_snoc (Bwt.order T) T j o
          have hk4 : (Bwt.order T).getD (itr (Bwt.order T) (j + 1) o) 0 = itr (Bwt.order T) (j + 2) o := rfl
          generalize itr (Bwt.order T) (j + 1) o = k at hk2 hbs hk4
          have hat := packed_at T (Bwt.order T) k hk2
          rw [hk4] at hat
          generalize hk5 : itr (Bwt.order T) (j + 2) o = k2 at hk3 hat
          have HK5 := Lib.hid hk5
          have hyl : T.getD k 0 < 256 := getD_mem_lt HB.out hk2
          generalize T.getD k 0 = y at hyl hbs hat
          have HBS := Lib.hid hbs
          obtain ⟨p, hp⟩ : ∃ p, y + 256 * k2 = p := ⟨_, rfl⟩
          rw [hp] at hat
          obtain ⟨hc, _⟩ := own_int ownN k hk2 _ hat
          have hsh := word_shr y k2 p hyl hp
          have hlo := word_low y k2 p hyl hp
          have hp32 : p < 4294967296 := by omega
          have hsz := bel.size
          clear hbs hk5 hk4 hat hp
          go_wp2_with (at_builtin; refine app_nat rfl (.tmp 44) (.tmp 47) 22 rfl w.heap.size 5 .u8 1 Try.underlying22 infoByte (by omega) rfl (own.alloc _) rfl (l2 := [y]) (srcAt_new wr _ _ _ _ rfl) rfl (by omega) (by simp; omega) ?_; intro A4 c4 w4 own4 grow4 fresh4)
          go_roundw
          case rel =>
            exact ⟨j + 1, A4, c4, by omega, by go_num, by rw [HK5.out], rfl, by rw [HBS.out]; exact own4, (ownN.alloc _).grown grow4 ap.flip, ap.next (fun g hg => ((ownN.alloc _).block g hg).2) fresh4, below_grown (bel.alloc bel.size _) grow4 (bel.alloc bel.size _).size (fun g hg => (own.block g hg).1)⟩
          case measure => simp [intOf]; omega
        · obtain rfl : j = T.length := by omega
          go_wp2_with fail
          go_ret
          exact ⟨_, _, rfl, own, bel⟩
theorem implTurned_any (A : Option Addr) (cap n o : Nat) (l : List Nat) (w : World) (hA : Ints w .u8 A l) (hn : l.length = n) (h0 : 0 < n) (hm : n ≤ 900000) (ho : o < n) (hb : ∀ x ∈ l, x < 256) :
    Calls Try.prog 17 #[.slice A n cap, .int .i64 o] w fun e w' => ∃ A' c', e = .returned (.slice A' n c') ∧ Own w' w.heap.size 5 1 A' n c' (cellsN .u8 (Bwt.back (Bwt.order l) l n o)) ∧ Below w.heap.size w w' := by
  have S := Lib.hid (srcAt_ints cap hA (hA.no_nil (by omega)))
  rw [hn] at S
  have HL := Lib.hid hn
  have HB := Lib.hid hb
  clear hA hn hb
  go_enter Try.func17, Try.ntmps17
  go_wp2_with (first
    | (go_at_call 22; refine (zzTurned_any _ _ _ _ l _ own2.ints HL.out h0 hm ho HB.out).mono ?_; rintro e w3 ⟨A1, c1, rfl, o1, bl⟩)
    | (at_builtin; refine app_nat rfl (.const (.slice none 0 0)) (.tmp 5) 22 rfl w.heap.size 5 .u8 1 Try.underlying22 infoByte (by omega) (l := []) rfl (Own.nil _ _ _ _) rfl S.out HL.out (by omega) (Nat.le_refl _) ?_; intro A2 c2 w2 own2 grow2 fresh2; simp only [Nat.zero_add, List.nil_append] at own2 ⊢; have b2 := below_grown_nil grow2))
  go_ret
  exact ⟨_, _, rfl, o1.mono b2.size, b2.trans (bl.mono b2.size)⟩
theorem specBack_any (A : Option Addr) (cap n o : Nat) (l : List Nat) (w : World) (hA : Ints w .u8 A l) (hn : l.length = n) (h0 : 0 < n) (hm : n ≤ 900000) (ho : o < n) (hb : ∀ x ∈ l, x < 256) :
    Calls Try.prog 18 #[.slice A n cap, .int .i64 o] w fun e w' => ∃ A' c', e = .returned (.slice A' n c') ∧ Own w' w.heap.size 5 1 A' n c' (cellsN .u8 (Bwt.back (Bwt.order l) l n o)) ∧ Below w.heap.size w w' := by
  go_enter Try.func18, Try.ntmps18
  go_wp2_with fail
  refine (back_any _ _ _ _ l _ hA hn h0 hm ho hb).mono ?_
  rintro e w3 ⟨A1, c1, rfl, o1, bl⟩
  go_wp2_with fail
  go_ret
  exact ⟨_, _, rfl, o1, bl⟩
end Go.Proofs.Ytdhehnjidakfcaa

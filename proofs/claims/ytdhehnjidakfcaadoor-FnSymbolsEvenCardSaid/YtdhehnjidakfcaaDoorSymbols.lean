/- Symbols read by the tree of code lengths: walked. -/
import Derived.Test.YtdhehnjidakfcaaDoorDecode
namespace Go.Proofs.YtdhehnjidakfcaaDoor
open Go.RowKit Huff
set_option maxHeartbeats 1000000
set_option maxRecDepth 4000
set_option linter.unusedVariables false
set_option linter.unusedSimpArgs false
theorem infoU16 : (Tryd.prog.info? 57).map (fun i => (i.zero, i.size, i.bytes)) = some (some (.int .u16 0), 1, 2) := by kernel_rfl
theorem decs_lt (L : List Nat) (h : Full L) : ∀ (N : Nat) (B : List Bool), ∀ x ∈ (decs (tree L) N B).1, x < L.length := by
  intro N
  induction N with
  | zero => intro B x hx; simp [decs] at hx
  | succ N ih =>
    intro B x hx
    simp only [decs] at hx
    cases hd : (tree L).dec B with
    | none => rw [hd] at hx; simp at hx
    | some y =>
      obtain ⟨v, R⟩ := y
      rw [hd] at hx
      simp only [List.mem_cons] at hx
      rcases hx with rfl | hx
      · exact dec_lt L h B _ R hd
      · exact ih R x hx
/-- where a loop over symbols stands -/
def Sat (l : List Nat) (n : Nat) (t : T) (N k s : Nat) (o : List Nat) : Prop := decs t N (bl l n 0) = (o ++ (decs t (N - k) (bl l n s)).1, (decs t (N - k) (bl l n s)).2)
theorem Sat.start (l : List Nat) (n : Nat) (t : T) (N : Nat) : Sat l n t N 0 0 [] := rfl
theorem Sat.next {l : List Nat} {n : Nat} {t : T} {N k s : Nat} {o : List Nat} (h : Sat l n t N k s o) (hk : k < N) (v s' : Nat) (hd : decO l n t (some s) = decO l n (.leaf v) (some s')) : Sat l n t N (k + 1) s' (o ++ [v]) := by
  unfold Sat at h ⊢
  have e : N - k = (N - (k + 1)) + 1 := by omega
  have hd' : t.dec (bl l n s) = some (v, bl l n s') := hd
  rw [h, e, decs, hd']
  simp
theorem Sat.over {l : List Nat} {n : Nat} {t : T} {N k s : Nat} {o : List Nat} (h : Sat l n t N k s o) (hk : k < N) (v : Nat) (hd : decO l n t (some s) = decO l n (.leaf v) none) : decs t N (bl l n 0) = (o, true) := by
  unfold Sat at h
  have e : N - k = (N - (k + 1)) + 1 := by omega
  have hd' : t.dec (bl l n s) = none := hd
  rw [h, e, decs, hd']
  simp
theorem Sat.done {l : List Nat} {n : Nat} {t : T} {N s : Nat} {o : List Nat} (h : Sat l n t N N s o) : decs t N (bl l n 0) = (o, false) := by
  unfold Sat at h
  rw [h, Nat.sub_self, decs]
  simp
def errOf (a1 : Addr) : Option Nat → Value
  | some _ => .nilIface
  | none => .iface 135 (.pointer (some a1))
theorem St.err {w : World} {B R Q : Nat} {A : Option Addr} {n cap : Nat} {l : List Nat} {a1 : Addr} {o : Option Nat} (h : St w B R Q A n cap l a1 o) : w.cell? ⟨R, 3, none⟩ = some (errOf a1 o) := by
  cases o with
  | none => obtain ⟨N, h1, h2, h3⟩ := h; exact (own_val h1 3 _ rfl (by omega)).1
  | some s => obtain ⟨p, N, b, hB, hs⟩ := h; exact (own_val hB.reg 3 _ rfl (by omega)).1
theorem St.grown {w w' : World} {B R Q : Nat} {A : Option Addr} {n cap : Nat} {l : List Nat} {a1 : Addr} {s : Nat} (h : St w B R Q A n cap l a1 (some s)) {A1 : Option Addr} (hg : w.grownBy w' (blockOf A1)) (h1 : blockOf A1 ≠ some R) (h2 : blockOf A1 ≠ some Q) : St w' B R Q A n cap l a1 (some s) := by
  obtain ⟨p, N, b, hB, hs⟩ := h
  exact ⟨p, N, b, hB.grown hg h1 h2, hs⟩
theorem St.alloc {w : World} {B R Q : Nat} {A : Option Addr} {n cap : Nat} {l : List Nat} {a1 : Addr} {s : Nat} (h : St w B R Q A n cap l a1 (some s)) (o : Obj) : St (w.alloc o) B R Q A n cap l a1 (some s) := by
  obtain ⟨p, N, b, hB, hs⟩ := h
  exact ⟨p, N, b, hB.alloc o, hs⟩
set_option maxHeartbeats 4000000 in
theorem zzSymbols_any (AL A : Option Addr) (capL cap nL n N : Nat) (L l : List Nat) (a0 a1 : Addr) (w : World) (hLA : Ints w .u8 AL L) (hnL : L.length = nL) (hF : Full L) (h258 : nL ≤ 258) (hA : Ints w .u8 A l) (hl : l.length = n) (hn : n ≤ 140737488351232) (hb : ∀ x ∈ l, x < 256) (hN : N * 8 ≤ 140737488351232) (hE : Errs w a0 a1) (hs : 1 < w.heap.size)
    (hAB : 0 < n → ∀ g, blockOf A = some g → g < w.heap.size) :
    Calls Tryd.prog 25 #[.slice AL nL capL, .slice A n cap, .int .i64 (N : Int)] w fun e w' => ∃ A1 c1 o en, e = .returned (.tuple #[.slice A1 o.length c1, .bool false, .bool en]) ∧ decs (tree L) N (bl l n 0) = (o, en) ∧ o.length ≤ N ∧ Own w' w.heap.size 57 1 A1 o.length c1 (cellsN .u16 o) ∧ Below w.heap.size w w' := by
  have h2 : 2 ≤ nL := by rw [← hnL]; exact hF.1
  have HL := Lib.hid hl; have HB := Lib.hid hb; have HE := Lib.hid hE; have HA := Lib.hid hA; have HF := Lib.hid hF; have HAB := Lib.hid hAB
  have HT := Lib.hid (tree_node L hF)
  clear hl hb hE hA hAB
  have i0 : (2 : Int) ≤ (nL : Int) := by omega
  go_enter Tryd.func25, Tryd.ntmps25
  go_wp2_with fail
  refine (newTree_any AL capL nL L w hLA hnL hF h258).mono ?_
  rintro e w1 ⟨G, j, F, rfl, hrow, hrep, bel1⟩
  have HREP := Lib.hid hrep
  have hneq := neNil
  clear hrep hF hLA
  have hs1 := bel1.size
  go_wp2_with fail
  have hbox : Own (w1.alloc (.cells #[.slice (some ⟨G, 0, none⟩) nL nL, .int .i64 (j : Int)] 72)) w.heap.size 72 1 (some ⟨w1.heap.size, 0, none⟩) 2 2 [.slice (some ⟨G, 0, none⟩) nL nL, .int .i64 (j : Int)] := own_box w1 w.heap.size 72 2 _ rfl hs1 (by omega)
  have hrow2 := hrow.alloc (.cells #[.slice (some ⟨G, 0, none⟩) nL nL, .int .i64 (j : Int)] 72)
  have bel2 := bel1.alloc hs1 (.cells #[.slice (some ⟨G, 0, none⟩) nL nL, .int .i64 (j : Int)] 72)
  have hG : G < w1.heap.size := (hrow.block _ rfl).2
  have z2 : (w1.alloc (.cells #[.slice (some ⟨G, 0, none⟩) nL nL, .int .i64 (j : Int)] 72)).heap.size = w1.heap.size + 1 := by simp
  generalize w1.alloc (.cells #[.slice (some ⟨G, 0, none⟩) nL nL, .int .i64 (j : Int)] 72) = w2 at hbox hrow2 bel2 z2
  obtain ⟨H, hH⟩ : ∃ H, w1.heap.size = H := ⟨_, rfl⟩
  rw [hH] at hbox hG z2 hs1
  simp only [hH]
  clear hrow bel1 hH
  refine (newReader_any _ _ _ _).mono ?_
  rintro e w3 ⟨rfl, rfl⟩
  rw [z2]
  have q0 : Rd (w2.alloc (.cells #[.slice A n cap, .int .i64 0, .int .i64 (-1)] 78)) w.heap.size (H + 1) A n cap 0 := by
    have := own_box w2 w.heap.size 78 3 #[.slice A n cap, .int .i64 0, .int .i64 (-1)] rfl bel2.size (by omega)
    rw [z2] at this; exact this
  have b3 := bel2.alloc bel2.size (.cells #[.slice A n cap, .int .i64 0, .int .i64 (-1)] 78)
  have hbox3 := hbox.alloc (.cells #[.slice A n cap, .int .i64 0, .int .i64 (-1)] 78)
  have hrow3 := hrow2.alloc (.cells #[.slice A n cap, .int .i64 0, .int .i64 (-1)] 78)
  have z3 : (w2.alloc (.cells #[.slice A n cap, .int .i64 0, .int .i64 (-1)] 78)).heap.size = H + 1 + 1 := by simp [z2]
  generalize w2.alloc (.cells #[.slice A n cap, .int .i64 0, .int .i64 (-1)] 78) = w3 at q0 b3 hbox3 hrow3 z3
  clear hbox hrow2 bel2 z2
  go_wp2_with fail
  have r0 : Reg (w3.alloc (.cells #[.iface 59 (.pointer (some ⟨H + 1, 0, none⟩)), .int .u64 0, .int .u64 0, .nilIface] 66)) w.heap.size (H + 1 + 1) (H + 1) 0 0 .nilIface := by
    have := own_box w3 w.heap.size 66 4 #[.iface 59 (.pointer (some ⟨H + 1, 0, none⟩)), .int .u64 0, .int .u64 0, .nilIface] rfl b3.size (by omega)
    rw [z3] at this; exact this
  have b4 := b3.alloc b3.size (.cells #[.iface 59 (.pointer (some ⟨H + 1, 0, none⟩)), .int .u64 0, .int .u64 0, .nilIface] 66)
  have q4 : Rd _ _ _ _ _ _ _ := Own.alloc q0 (.cells #[.iface 59 (.pointer (some ⟨H + 1, 0, none⟩)), .int .u64 0, .int .u64 0, .nilIface] 66)
  have hbox4 := hbox3.alloc (.cells #[.iface 59 (.pointer (some ⟨H + 1, 0, none⟩)), .int .u64 0, .int .u64 0, .nilIface] 66)
  have hrow4 := hrow3.alloc (.cells #[.iface 59 (.pointer (some ⟨H + 1, 0, none⟩)), .int .u64 0, .int .u64 0, .nilIface] 66)
  generalize w3.alloc (.cells #[.iface 59 (.pointer (some ⟨H + 1, 0, none⟩)), .int .u64 0, .int .u64 0, .nilIface] 66) = w4 at r0 q4 b4 hbox4 hrow4
  have st4 : St w4 w.heap.size (H + 1 + 1) (H + 1) A n cap l a1 (some 0) := ⟨0, 0, 0, ⟨r0, q4, by omega, by omega, by omega, by omega, by omega, by simp [Fld.fld]⟩, rfl⟩
  clear q0 b3 hbox3 hrow3 z3 r0 q4
  go_loopw [6, 12, 13] (fun ov iv u13 wr => ∃ (k s : Nat) (o : List Nat) (A1 : Option Addr) (c1 : Nat), k ≤ N ∧ iv = .int .i64 (k : Int) ∧ ov = .slice A1 k c1 ∧ Hid (o.length = k) ∧ Hid (Sat l n (tree L) N k s o) ∧ Hid (St wr w.heap.size (H + 1 + 1) (H + 1) A n cap l a1 (some s)) ∧ Own wr w.heap.size 57 1 A1 k c1 (cellsN .u16 o) ∧ Hid (∀ g, blockOf A1 = some g → g ≠ G ∧ g ≠ H ∧ g ≠ H + 1 ∧ g ≠ H + 1 + 1) ∧ Hid (Own wr w.heap.size 72 1 (some ⟨H, 0, none⟩) 2 2 [.slice (some ⟨G, 0, none⟩) nL nL, .int .i64 (j : Int)]) ∧ Hid (Own wr w.heap.size 100 4 (some ⟨G, 0, none⟩) nL nL (cellsN .u16 F)) ∧ Below w.heap.size w wr) (fun _ iv _ _ => N - (intOf iv).toNat)
  case atStart => exact ⟨0, 0, [], none, 0, by omega, rfl, rfl, rfl, Sat.start _ _ _ _, st4, Own.nil _ _ _ _, fun g hg => (by cases hg), hbox4, hrow4, b4⟩
  case round =>
    clear st4 hbox4 hrow4 b4
    obtain ⟨k, s, o, A1, c1, hk, rfl, rfl, HOL, HSA, HST, own, HAP, HBX, HRW, bel⟩ := hrel
    by_cases hlt : k < N
    · have hbs := bel.size
      have hcall := decode_any w.heap.size (H + 1 + 1) (H + 1) H G nL j F A n cap l (some s) a0 a1 (tree L) wr HST.out (by omega) (HA.out.below bel) HL.out hn HB.out (HE.out.below bel) hs HAB.out HBX.out HRW.out h258 ⟨by omega, by omega, by omega, by omega⟩ HREP.out HT.out
      have HCALL := Lib.hid hcall
      have hne2 := neErr
      clear hcall
      go_wp2_with fail
      refine HCALL.out.mono ?_
      rintro e w5 ⟨hk5, v, o', rfl, hdec, hst⟩
      have HS5 := Lib.hid hst; have HD5 := Lib.hid hdec; have HK5 := Lib.hid hk5
      have own5 := hk5.own own (fun e => (HAP.out _ e).2.2.2 rfl) (fun e => (HAP.out _ e).2.2.1 rfl)
      have HBX5 := Lib.hid (hk5.own HBX.out (by simp [blockOf]; omega) (by simp [blockOf]))
      have HRW5 := Lib.hid (hk5.ownK HRW.out (by simp [blockOf]; omega) (by simp [blockOf]; omega))
      have bel5 := hk5.below bel (by omega) (by omega) hbs
      have herr := hst.err
      clear hk5 hdec hst own bel
      cases o' with
      | none =>
        have HF5 := Lib.hid (HSA.out.over hlt v HD5.out)
        have herr2 : w5.cell? ⟨H + 1 + 1, 3, none⟩ = some (.iface 135 (.pointer (some a1))) := herr
        clear herr
        go_wp2_with fail
        refine (err_any (H + 1 + 1) _ w5 herr2).mono ?_
        rintro e w' ⟨rfl, rfl⟩
        go_wp2_with fail
        go_ret3
        exact ⟨_, _, o, true, by rw [HOL.out]; rfl, HF5.out, by rw [HOL.out]; exact hk, by rw [HOL.out]; exact own5, bel5⟩
      | some s' =>
        have HF5 := Lib.hid (HSA.out.next hlt v s' HD5.out)
        have hbs5 := bel5.size
        have herr2 : w5.cell? ⟨H + 1 + 1, 3, none⟩ = some .nilIface := herr
        clear herr
        go_wp2_with fail
        refine (err_any (H + 1 + 1) _ w5 herr2).mono ?_
        rintro e w' ⟨rfl, rfl⟩
        go_wp2_with (at_builtin; refine app_nat rfl (.tmp 37) (.tmp 39) 54 rfl w.heap.size 57 .u16 2 Tryd.underlying54 infoU16 (by omega) rfl (own5.alloc _) rfl (l2 := [v]) (srcAt_new w5 _ _ _ _ rfl) rfl (by omega) (by simp; omega) ?_; intro A4 c4 w4 own4 grow4 fresh4)
        go_roundw
        case rel =>
          have hGl : G < w5.heap.size := (HRW5.out.block _ rfl).2
          have hHl : H < w5.heap.size := (HBX5.out.block _ rfl).2
          obtain ⟨_, _, _, hreg, _⟩ := HS5.out.reg
          have hRl : H + 1 + 1 < w5.heap.size := (Own.block hreg _ rfl).2
          refine ⟨k + 1, s', o ++ [v], A4, c4, by omega, by go_num, rfl, (by show (o ++ [v]).length = k + 1; rw [List.length_append, HOL.out]; rfl), HF5.out, (HS5.out.alloc _).grown grow4 (fun e => (HAP.out _ e).2.2.2 rfl) (fun e => (HAP.out _ e).2.2.1 rfl), own4, fun g hg => ?_, Own.kept (HBX5.out.alloc _) grow4 (.inr (fun e => (HAP.out _ e.symm).2.1 rfl)), Own.kept (HRW5.out.alloc _) grow4 (.inr (fun e => (HAP.out _ e.symm).1 rfl)), below_grown (bel5.alloc bel5.size _) grow4 (bel5.alloc bel5.size _).size (fun g hg => (own5.block g hg).1)⟩
          rcases fresh4 g hg with e2 | e2
          · exact HAP.out g e2
          · simp at e2; omega
        case measure => simp [intOf]; omega
    · obtain rfl : k = N := by omega
      have HF5 := Lib.hid HSA.out.done
      go_wp2_with fail
      go_ret3
      exact ⟨_, _, o, false, by rw [HOL.out]; rfl, HF5.out, by rw [HOL.out]; exact hk, by rw [HOL.out]; exact own, bel⟩
theorem take_snoc (L : List Nat) (k : Nat) (hk : k < L.length) : L.take (k + 1) = L.take k ++ [L.getD k 0] := by
  rw [List.take_succ_eq_append_getElem hk]
  simp [List.getD_eq_getElem?_getD, List.getElem?_eq_getElem hk]
theorem infoByte5 : (Tryd.prog.info? 5).map (fun i => (i.zero, i.size, i.bytes)) = some (some (.int .u8 0), 1, 1) := by kernel_rfl
set_option maxHeartbeats 4000000 in
theorem implSymbols_any (AL A : Option Addr) (capL cap nL n N : Nat) (L l : List Nat) (a0 a1 : Addr) (w : World) (hLA : Ints w .i64 AL L) (hnL : L.length = nL) (hF : Full L) (h258 : nL ≤ 258) (hA : Ints w .u8 A l) (hl : l.length = n) (hn : n ≤ 140737488351232) (hb : ∀ x ∈ l, x < 256) (hN : N * 8 ≤ 140737488351232) (hE : Errs w a0 a1) (hs : 1 < w.heap.size)
    (hAB : 0 < n → ∀ g, blockOf A = some g → g < w.heap.size) :
    Calls Tryd.prog 17 #[.slice AL nL capL, .slice A n cap, .int .i64 (N : Int)] w fun e w' => ∃ A1 c1 o en, e = .returned (.tuple #[.slice A1 o.length c1, .bool false, .bool en]) ∧ decs (tree L) N (bl l n 0) = (o, en) ∧ o.length ≤ N ∧ Own w' w.heap.size 3 1 A1 o.length c1 (cellsN .i64 o) ∧ Below w.heap.size w w' := by
  subst hnL
  have HL := Lib.hid hl; have HB := Lib.hid hb; have HE := Lib.hid hE; have HA := Lib.hid hA; have HF := Lib.hid hF; have HAB := Lib.hid hAB
  have h32 : Hid (∀ i, i < L.length → L.getD i 0 ≤ 32) := fun i hi => by
    have : L.getD i 0 = L[i] := by simp [List.getD_eq_getElem?_getD, List.getElem?_eq_getElem hi]
    rw [this]; exact (hF.2.1 _ (List.getElem_mem hi)).2
  clear hl hb hE hA hAB hF
  go_enter Tryd.func17, Tryd.ntmps17
  go_wp2_with fail
  go_loopw [9, 11, 17] (fun ov u11 iv wr => ∃ (k : Nat) (A1 : Option Addr) (c1 : Nat), k ≤ L.length ∧ iv = .int .i64 (k : Int) ∧ ov = .slice A1 k c1 ∧ Own wr w.heap.size 5 1 A1 k c1 (cellsN .u8 (L.take k)) ∧ Below w.heap.size w wr) (fun _ _ iv _ => L.length - (intOf iv).toNat)
  case atStart => exact ⟨0, none, 0, by omega, rfl, rfl, Own.nil _ _ _ _, Below.refl _ _⟩
  case round =>
    obtain ⟨k, A1, c1, hk, rfl, rfl, own, bel⟩ := hrel
    by_cases hlt : k < L.length
    · obtain ⟨b2, o2, rfl, hb2, hc2⟩ := hLA k hlt
      have hd2 := (bel.cell (p := ⟨b2, o2 + k, none⟩) hb2).trans hc2
      have hv := h32.out k hlt
      have htk := take_snoc L k hlt
      generalize L.getD k 0 = v at hd2 hc2 hv htk
      have HTK := Lib.hid htk
      clear hc2 htk
      have hbs := bel.size
      go_wp2_with (at_builtin; refine app_nat rfl (.tmp 21) (.tmp 24) 22 rfl w.heap.size 5 .u8 1 Tryd.underlying22 infoByte5 (by omega) rfl (own.alloc _) rfl (l2 := [v]) (srcAt_new wr _ _ _ _ rfl) rfl (by omega) (by simp; omega) ?_; intro A4 c4 w4 own4 grow4 fresh4)
      go_roundw
      case rel => exact ⟨k + 1, A4, c4, by omega, by go_num, rfl, by rw [HTK.out]; exact own4, below_grown (bel.alloc bel.size _) grow4 (bel.alloc bel.size _).size (fun g hg => (own.block g hg).1)⟩
      case measure => simp [intOf]; omega
    · obtain rfl : k = L.length := by omega
      rw [List.take_length] at own
      have hsz := bel.size
      have hcall := zzSymbols_any A1 A c1 cap L.length n N L l a0 a1 wr own.ints rfl HF.out h258 (HA.out.below bel) HL.out hn HB.out hN (HE.out.below bel) (by omega) (fun h g hg => Nat.lt_of_lt_of_le (HAB.out h g hg) hsz)
      have HCALL := Lib.hid hcall
      clear hcall own
      go_wp2_with fail
      refine HCALL.out.mono ?_
      rintro e w3 ⟨A2, c2, o, en, rfl, hr, hol, own2, bel2⟩
      have HR := Lib.hid hr
      have HO : Hid (∀ x ∈ o, x < 258) := fun x hx => by
        have := decs_lt L HF.out N (bl l n 0) x (by rw [hr]; exact hx)
        omega
      have bel3 := bel.trans (bel2.mono hsz)
      have own3 := own2.mono hsz
      clear hr own2 bel2 bel hsz HCALL
      go_wp2_with fail
      go_loopw [6, 14, 37] (fun ov u14 iv wr => ∃ (k : Nat) (A1 : Option Addr) (c1 : Nat), k ≤ o.length ∧ iv = .int .i64 (k : Int) ∧ ov = .slice A1 k c1 ∧ Own wr w3.heap.size 3 1 A1 k c1 (cellsN .i64 (o.take k)) ∧ Below w3.heap.size w3 wr) (fun _ _ iv _ => o.length - (intOf iv).toNat)
      case atStart => exact ⟨0, none, 0, by omega, rfl, rfl, Own.nil _ _ _ _, Below.refl _ _⟩
      case round =>
        obtain ⟨k, A3, c3, hk, rfl, rfl, own, bel⟩ := hrel
        by_cases hlt : k < o.length
        · obtain ⟨b2, o2, rfl, hb2, hc2⟩ := own3.ints k hlt
          have hd2 := (bel.cell (p := ⟨b2, o2 + k, none⟩) hb2).trans hc2
          have hv := getD_lt' HO.out hlt
          have htk := take_snoc o k hlt
          generalize o.getD k 0 = v at hd2 hc2 hv htk
          have HTK := Lib.hid htk
          clear hc2 htk
          have hbs := bel.size
          go_wp2_with (at_builtin; refine app_nat rfl (.tmp 41) (.tmp 44) 23 rfl w3.heap.size 3 .i64 8 Tryd.underlying23 infoInt (by omega) rfl (own.alloc _) rfl (l2 := [v]) (srcAt_new wr _ _ _ _ rfl) rfl (by omega) (by simp; omega) ?_; intro A4 c4 w4 own4 grow4 fresh4)
          go_roundw
          case rel => exact ⟨k + 1, A4, c4, by omega, by go_num, rfl, by rw [HTK.out]; exact own4, below_grown (bel.alloc bel.size _) grow4 (bel.alloc bel.size _).size (fun g hg => (own.block g hg).1)⟩
          case measure => simp [intOf]; omega
        · obtain rfl : k = o.length := by omega
          rw [List.take_length] at own
          have hsz := bel3.size
          go_wp2_with fail
          go_ret3
          exact ⟨_, _, o, en, rfl, HR.out, hol, own.mono hsz, bel3.trans (bel.mono hsz)⟩
end Go.Proofs.YtdhehnjidakfcaaDoor

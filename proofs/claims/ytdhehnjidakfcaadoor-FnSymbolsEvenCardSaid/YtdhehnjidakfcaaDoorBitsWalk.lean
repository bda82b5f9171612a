/- Numbers of some widths read: walked. -/
import Derived.Test.YtdhehnjidakfcaaDoorReadBits
import Derived.Deep.Onto
namespace Go.Proofs.YtdhehnjidakfcaaDoor
open Go.RowKit
set_option maxHeartbeats 400000
set_option maxRecDepth 4000
set_option linter.unusedVariables false
set_option linter.unusedSimpArgs false
theorem infoU64 : (Tryd.prog.info? 29).map (fun i => (i.zero, i.size, i.bytes)) = some (some (.int .u64 0), 1, 8) := by kernel_rfl
theorem infoUint : (Tryd.prog.info? 46).map (fun i => (i.zero, i.size, i.bytes)) = some (some (.int .u64 0), 1, 8) := by kernel_rfl
theorem infoInt : (Tryd.prog.info? 3).map (fun i => (i.zero, i.size, i.bytes)) = some (some (.int .i64 0), 1, 8) := by kernel_rfl
theorem infoByte : (Tryd.prog.info? 5).map (fun i => (i.zero, i.size, i.bytes)) = some (some (.int .u8 0), 1, 1) := by kernel_rfl
/-- numbers of some widths, as long as there are enough bits; and whether there were too few -/
def run (l : List Nat) (n : Nat) : Nat → List Nat → List Nat × Bool
  | _, [] => ([], false)
  | s, w :: ws => if s + w ≤ 8 * n then (Fld.fld l s w :: (run l n (s + w) ws).1, (run l n (s + w) ws).2) else ([], true)
/-- where a loop over the widths stands -/
def At (l : List Nat) (n : Nat) (ws : List Nat) (k s : Nat) (o : List Nat) : Prop := run l n 0 ws = (o ++ (run l n s (ws.drop k)).1, (run l n s (ws.drop k)).2)
theorem At.zero (l : List Nat) (n : Nat) (ws : List Nat) : At l n ws 0 0 [] := rfl
theorem At.next {l : List Nat} {n : Nat} {ws : List Nat} {k s : Nat} {o : List Nat} (h : At l n ws k s o) (v : Nat) (hv : ws.getD k 0 = v) (hk : k < ws.length) (hf : s + v ≤ 8 * n) : At l n ws (k + 1) (s + v) (o ++ [Fld.fld l s v]) := by
  unfold At at h ⊢
  have e1 : ws[k] = v := by rw [← hv]; simp [List.getD_eq_getElem?_getD, List.getElem?_eq_getElem hk]
  rw [h, List.drop_eq_getElem_cons hk, e1, run, if_pos hf]
  simp
theorem At.over {l : List Nat} {n : Nat} {ws : List Nat} {k s : Nat} {o : List Nat} (h : At l n ws k s o) (v : Nat) (hv : ws.getD k 0 = v) (hk : k < ws.length) (hf : 8 * n < s + v) : run l n 0 ws = (o, true) := by
  unfold At at h
  have e1 : ws[k] = v := by rw [← hv]; simp [List.getD_eq_getElem?_getD, List.getElem?_eq_getElem hk]
  rw [h, List.drop_eq_getElem_cons hk, e1, run, if_neg (by omega)]
  simp
theorem At.done {l : List Nat} {n : Nat} {ws : List Nat} {s : Nat} {o : List Nat} (h : At l n ws ws.length s o) : run l n 0 ws = (o, false) := by
  unfold At at h
  rw [h, List.drop_length, run]
  simp
theorem newReader_any (A : Option Addr) (n cap : Nat) (w : World) :
    Calls Tryd.prog 27 #[.slice A n cap] w fun e w' => e = .returned (.pointer (some ⟨w.heap.size, 0, none⟩)) ∧ w' = w.alloc (.cells #[.slice A n cap, .int .i64 0, .int .i64 (-1)] 78) := by
  go_enter Tryd.func27, Tryd.ntmps27
  go_wp2
  go_ret
  exact ⟨rfl, rfl⟩
theorem err_any (R : Nat) (v : Value) (w : World) (hv : w.cell? ⟨R, 3, none⟩ = some v) :
    Calls Tryd.prog 29 #[.pointer (some ⟨R, 0, none⟩)] w fun e w' => e = .returned v ∧ w = w' := by
  go_enter Tryd.func29, Tryd.ntmps29
  go_wp2
  go_ret
  exact ⟨rfl, rfl⟩
theorem own_box (w : World) (B : Nat) (e : TypeId) (n : Nat) (vs : Array Value) (hs : vs.size = n) (hB : B ≤ w.heap.size) (hn : n ≤ 4) : Own (w.alloc (.cells vs e)) B e 1 (some ⟨w.heap.size, 0, none⟩) n n vs.toList :=
  World.ownsRow_lit w vs n hB (by unfold maxLen; omega) (by omega)
theorem Br.alloc {w : World} {B R Q : Nat} {A : Option Addr} {n cap : Nat} {l : List Nat} {p N b : Nat} (h : Br w B R Q A n cap l p N b) (o : Obj) : Br (w.alloc o) B R Q A n cap l p N b :=
  ⟨Own.alloc h.reg o, Own.alloc h.rd o, h.ne, h.pn, h.bp, h.b55, h.N64, h.val⟩
theorem Br.grown {w w' : World} {B R Q : Nat} {A : Option Addr} {n cap : Nat} {l : List Nat} {p N b : Nat} (h : Br w B R Q A n cap l p N b) {A1 : Option Addr} (hg : w.grownBy w' (blockOf A1)) (h1 : blockOf A1 ≠ some R) (h2 : blockOf A1 ≠ some Q) : Br w' B R Q A n cap l p N b :=
  ⟨Own.kept h.reg hg (.inr (fun e => h1 e.symm)), Own.kept h.rd hg (.inr (fun e => h2 e.symm)), h.ne, h.pn, h.bp, h.b55, h.N64, h.val⟩
theorem getD_le {l : List Nat} {n : Nat} (hb : ∀ x ∈ l, x ≤ n) {k : Nat} (hk : k < l.length) : l.getD k 0 ≤ n := by
  have : l.getD k 0 = l[k] := by simp [List.getD_eq_getElem?_getD, List.getElem?_eq_getElem hk]
  rw [this]; exact hb _ (List.getElem_mem hk)
theorem zzBits_any (A Aw : Option Addr) (cap capw n m : Nat) (l ws : List Nat) (a0 a1 : Addr) (w : World) (hA : Ints w .u8 A l) (hW : Ints w .u64 Aw ws) (hl : l.length = n) (hm : ws.length = m) (hn : n ≤ 140737488351232) (hm2 : m * 8 ≤ 140737488351232) (hb : ∀ x ∈ l, x < 256) (hw : ∀ x ∈ ws, x ≤ 48) (hE : Errs w a0 a1) (hs : 1 < w.heap.size)
    (hAB : 0 < n → ∀ g, blockOf A = some g → g < w.heap.size) :
    Calls Tryd.prog 21 #[.slice A n cap, .slice Aw m capw] w fun e w' => ∃ A1 c1 o en, e = .returned (.tuple #[.slice A1 o.length c1, .bool en]) ∧ run l n 0 ws = (o, en) ∧ o.length ≤ m ∧ Own w' w.heap.size 29 1 A1 o.length c1 (cellsN .u64 o) ∧ Below w.heap.size w w' := by
  subst hm
  have HL := Lib.hid hl; have HB := Lib.hid hb; have HW := Lib.hid hw; have HE := Lib.hid hE
  have HA := Lib.hid hA
  clear hl hb hw hE hA
  go_enter Tryd.func21, Tryd.ntmps21
  go_wp2_with (go_at_call 27; refine (newReader_any _ _ _ _).mono ?_; rintro e w3 ⟨rfl, rfl⟩)
  have q0 : Rd (w.alloc (.cells #[.slice A n cap, .int .i64 0, .int .i64 (-1)] 78)) w.heap.size w.heap.size A n cap 0 := own_box w w.heap.size 78 3 _ rfl (Nat.le_refl _) (by omega)
  have b0 : Below w.heap.size w (w.alloc (.cells #[.slice A n cap, .int .i64 0, .int .i64 (-1)] 78)) := (Below.refl _ _).alloc (Nat.le_refl _) _
  have z0 : (w.alloc (.cells #[.slice A n cap, .int .i64 0, .int .i64 (-1)] 78)).heap.size = w.heap.size + 1 := by simp
  generalize w.alloc (.cells #[.slice A n cap, .int .i64 0, .int .i64 (-1)] 78) = w1 at q0 b0 z0
  have r0 : Reg (w1.alloc (.cells #[.iface 59 (.pointer (some ⟨w.heap.size, 0, none⟩)), .int .u64 0, .int .u64 0, .nilIface] 66)) w.heap.size (w.heap.size + 1) w.heap.size 0 0 .nilIface := by
    have := own_box w1 w.heap.size 66 4 #[.iface 59 (.pointer (some ⟨w.heap.size, 0, none⟩)), .int .u64 0, .int .u64 0, .nilIface] rfl (by omega) (by omega)
    rw [z0] at this
    exact this
  have b1 := b0.alloc (by omega) (.cells #[.iface 59 (.pointer (some ⟨w.heap.size, 0, none⟩)), .int .u64 0, .int .u64 0, .nilIface] 66)
  have q1 : Rd _ _ _ _ _ _ _ := Own.alloc q0 (.cells #[.iface 59 (.pointer (some ⟨w.heap.size, 0, none⟩)), .int .u64 0, .int .u64 0, .nilIface] 66)
  generalize w1.alloc (.cells #[.iface 59 (.pointer (some ⟨w.heap.size, 0, none⟩)), .int .u64 0, .int .u64 0, .nilIface] 66) = w2 at r0 b1 q1
  have HBr : Hid (Br w2 w.heap.size (w.heap.size + 1) w.heap.size A n cap l 0 0 0) := ⟨r0, q1, by omega, by omega, by omega, by omega, by omega, by simp [Fld.fld]⟩
  have hbk := b1
  clear q0 b0 z0 r0 q1 b1
  go_loopw [4, 8, 9, 16] (fun ov u8 u9 iv wr => ∃ (k s : Nat) (o : List Nat) (A1 : Option Addr) (c1 p N b : Nat), k ≤ ws.length ∧ iv = .int .i64 k ∧ ov = .slice A1 k c1 ∧ Hid (o.length = k) ∧ Hid (At l n ws k s o) ∧ Hid (8 * p - b = s) ∧ Hid (Br wr w.heap.size (w.heap.size + 1) w.heap.size A n cap l p N b) ∧ Own wr w.heap.size 29 1 A1 k c1 (cellsN .u64 o) ∧ Hid (blockOf A1 ≠ some (w.heap.size + 1) ∧ blockOf A1 ≠ some w.heap.size) ∧ Below w.heap.size w wr) (fun _ _ _ iv _ => ws.length - (intOf iv).toNat)
  case atStart => exact ⟨0, 0, [], none, 0, 0, 0, 0, by omega, rfl, rfl, rfl, At.zero _ _ _, rfl, HBr, Own.nil _ _ _ _, ⟨by simp [blockOf], by simp [blockOf]⟩, hbk⟩
  case round =>
    clear HBr hbk
    obtain ⟨k, s, o, A1, c1, p, N, b, hk, rfl, rfl, HOL, HAT, HS, HBr, own, HNE, bel⟩ := hrel
    by_cases hlt : k < ws.length
    · obtain ⟨b2, o2, rfl, hb2, hc2⟩ := hW k hlt
      have hd2 := (bel.cell (p := ⟨b2, o2 + k, none⟩) hb2).trans hc2
      have hv48 := getD_le HW.out hlt
      generalize hy : ws.getD k 0 = v at hd2 hc2 hv48
      have HY := Lib.hid hy
      clear hy hc2
      have hbs := bel.size
      have hne := neNil
      have hne2 := neErr
      go_wp2_with fail
      refine (readBits_any w.heap.size (w.heap.size + 1) w.heap.size A n cap l p N b v a0 a1 wr HBr.out (HA.out.below bel) HL.out hn HB.out hv48 (HE.out.below bel) hs hAB).mono ?_
      rintro e w3 ⟨kept, (⟨hf, rfl, p2, N2, b3, hBr, hp2⟩ | ⟨hf, rfl, N2, b3, hreg⟩)⟩
      · have HBr2 := Lib.hid hBr
        have bel3 := kept.below bel (by omega) (by omega) hbs
        have own3 := kept.own own HNE.out.1 HNE.out.2
        rw [HS.out] at hf hp2
        have HF := Lib.hid (HAT.out.next v HY.out hlt hf)
        have HP2 := Lib.hid hp2
        rw [HS.out]
        generalize Fld.fld l s v = f at HF
        clear hBr kept hf hp2
        have hbs3 := bel3.size
        go_wp2_with fail
        refine (err_any (w.heap.size + 1) .nilIface w3 (own_val HBr2.out.reg 3 _ rfl (by omega)).1).mono ?_
        rintro e w' ⟨rfl, rfl⟩
        go_wp2_with (at_builtin; refine app_nat rfl (.tmp 25) (.tmp 27) 25 rfl w.heap.size 29 .u64 8 Tryd.underlying25 infoU64 (by omega) rfl (own3.alloc _) rfl (l2 := [f]) (srcAt_new w3 _ _ _ _ rfl) rfl (by omega) (by simp; omega) ?_; intro A4 c4 w4 own4 grow4 fresh4)
        go_roundw
        case rel =>
          refine ⟨k + 1, s + v, o ++ [f], A4, c4, p2, N2, b3, by omega, by go_num, rfl, (by show (o ++ [f]).length = k + 1; rw [List.length_append, HOL.out]; rfl), HF, HP2, (HBr2.out.alloc _).grown grow4 HNE.out.1 HNE.out.2, own4, ⟨?_, ?_⟩, below_grown (bel3.alloc bel3.size _) grow4 (bel3.alloc bel3.size _).size (fun g hg => (own3.block g hg).1)⟩
          · intro e
            rcases fresh4 _ e with e2 | e2
            · exact HNE.out.1 e2
            · have h7 : w.heap.size + 1 < w3.heap.size := (Own.block HBr2.out.reg _ rfl).2; simp at e2; omega
          · intro e
            rcases fresh4 _ e with e2 | e2
            · exact HNE.out.2 e2
            · have h7 : w.heap.size < w3.heap.size := (Own.block HBr2.out.rd _ rfl).2; simp at e2; omega
        case measure => simp [intOf]; omega
      · have bel3 := kept.below bel (by omega) (by omega) hbs
        have own3 := kept.own own HNE.out.1 HNE.out.2
        rw [HS.out] at hf
        have HF := Lib.hid (HAT.out.over v HY.out hlt hf)
        have hol2 : Hid (o.length ≤ ws.length) := by show o.length ≤ ws.length; rw [HOL.out]; exact hk
        clear kept hf
        go_wp2_with fail
        refine (err_any (w.heap.size + 1) _ w3 (own_val hreg 3 _ rfl (by omega)).1).mono ?_
        rintro e w' ⟨rfl, rfl⟩
        go_wp2_with fail
        go_ret2
        exact ⟨_, _, o, true, by rw [HOL.out]; rfl, HF.out, hol2.out, by rw [HOL.out]; exact own3, bel3⟩
    · obtain rfl : k = ws.length := by omega
      have HF := Lib.hid HAT.out.done
      go_wp2_with fail
      go_ret2
      exact ⟨_, _, o, false, by rw [HOL.out]; rfl, HF.out, by rw [HOL.out]; exact Nat.le_refl _, by rw [HOL.out]; exact own, bel⟩
theorem implBits_any (A Aw : Option Addr) (cap capw n m : Nat) (l ws : List Nat) (a0 a1 : Addr) (w : World) (hA : Ints w .u8 A l) (hW : Ints w .i64 Aw ws) (hl : l.length = n) (hm : ws.length = m) (hn : n ≤ 140737488351232) (hm2 : m * 8 ≤ 140737488351232) (hb : ∀ x ∈ l, x < 256) (hw : ∀ x ∈ ws, x ≤ 48) (hE : Errs w a0 a1) (hs : 1 < w.heap.size)
    (hAB : 0 < n → ∀ g, blockOf A = some g → g < w.heap.size) :
    Calls Tryd.prog 10 #[.slice A n cap, .slice Aw m capw] w fun e w' => ∃ A1 c1 o en, e = .returned (.tuple #[.slice A1 o.length c1, .bool en]) ∧ run l n 0 ws = (o, en) ∧ o.length ≤ m ∧ Own w' w.heap.size 29 1 A1 o.length c1 (cellsN .u64 o) ∧ Below w.heap.size w w' := by
  subst hm
  have HL := Lib.hid hl; have HB := Lib.hid hb; have HW := Lib.hid hw; have HE := Lib.hid hE
  have HA := Lib.hid hA
  clear hl hb hw hE hA
  go_enter Tryd.func10, Tryd.ntmps10
  go_wp2_with fail
  go_loopw [6, 8, 11] (fun ov u8 iv wr => ∃ (k : Nat) (A1 : Option Addr) (c1 : Nat), k ≤ ws.length ∧ iv = .int .i64 k ∧ ov = .slice A1 k c1 ∧ Own wr w.heap.size 46 1 A1 k c1 (cellsN .u64 (ws.take k)) ∧ Below w.heap.size w wr) (fun _ _ iv _ => ws.length - (intOf iv).toNat)
  case atStart => exact ⟨0, none, 0, by omega, rfl, rfl, Own.nil _ _ _ _, Below.refl _ _⟩
  case round =>
    obtain ⟨k, A1, c1, hk, rfl, rfl, own, bel⟩ := hrel
    by_cases hlt : k < ws.length
    · obtain ⟨b2, o2, rfl, hb2, hc2⟩ := hW k hlt
      have hd2 := (bel.cell (p := ⟨b2, o2 + k, none⟩) hb2).trans hc2
      have hv48 := getD_le HW.out hlt
      have htk : ws.take (k + 1) = ws.take k ++ [ws.getD k 0] := by
        rw [List.take_succ_eq_append_getElem hlt]
        simp [List.getD_eq_getElem?_getD, List.getElem?_eq_getElem hlt]
      generalize ws.getD k 0 = v at hd2 hc2 hv48 htk
      have HTK := Lib.hid htk
      clear hc2 htk
      have hbs := bel.size
      go_wp2_with (at_builtin; refine app_nat rfl (.tmp 15) (.tmp 18) 45 rfl w.heap.size 46 .u64 8 Tryd.underlying45 infoUint (by omega) rfl (own.alloc _) rfl (l2 := [v]) (srcAt_new wr _ _ _ _ rfl) rfl (by omega) (by simp; omega) ?_; intro A4 c4 w4 own4 grow4 fresh4)
      go_roundw
      case rel => exact ⟨k + 1, A4, c4, by omega, by go_num, rfl, by rw [HTK.out]; exact own4, below_grown (bel.alloc bel.size _) grow4 (bel.alloc bel.size _).size (fun g hg => (own.block g hg).1)⟩
      case measure => simp [intOf]; omega
    · obtain rfl : k = ws.length := by omega
      rw [List.take_length] at own
      have hsz := bel.size
      go_wp2_with fail
      refine (zzBits_any A A1 cap c1 n _ l ws a0 a1 wr (HA.out.below bel) own.ints HL.out rfl hn hm2 HB.out HW.out (HE.out.below bel) (by omega) (fun h g hg => Nat.lt_of_lt_of_le (hAB h g hg) hsz)).mono ?_
      rintro e w3 ⟨A2, c2, o, en, rfl, hr, hol, own2, bel2⟩
      go_wp2_with fail
      go_ret2
      exact ⟨_, _, o, en, rfl, hr, hol, World.ownsRow.mono own2 hsz, bel.trans (bel2.mono hsz)⟩
end Go.Proofs.YtdhehnjidakfcaaDoor

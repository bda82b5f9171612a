/- One symbol read by the tree: walked. -/
import Derived.Test.YtdhehnjidakfcaaDoorNewTree
import Derived.Deep.LoopGhost
import Derived.Deep.Cut
import Derived.Deep.CutRange
namespace Go.Proofs.YtdhehnjidakfcaaDoor
open Go.RowKit Huff
set_option maxHeartbeats 1000000
set_option maxRecDepth 4000
set_option linter.unusedVariables false
set_option linter.unusedSimpArgs false
/-- the reader of bits at a place; or at the end of the data, with its error told -/
def St (w : World) (B R Q : Nat) (A : Option Addr) (n cap : Nat) (l : List Nat) (a1 : Addr) : Option Nat → Prop
  | some s => ∃ p N b, Br w B R Q A n cap l p N b ∧ 8 * p - b = s
  | none => ∃ N, Reg w B R Q N 0 (.iface 135 (.pointer (some a1))) ∧ Rd w B Q A n cap n ∧ N < 18446744073709551616
/-- one bit more: where the reader is then -/
def nx (n : Nat) : Option Nat → Option Nat
  | some s => if s < 8 * n then some (s + 1) else none
  | none => none
def bitAt (l : List Nat) (n : Nat) : Option Nat → Nat
  | some s => if s < 8 * n then Fld.bt l s else 0
  | none => 0
theorem bitAt_lt (l : List Nat) (n : Nat) (o : Option Nat) : bitAt l n o < 2 := by
  cases o with
  | none => simp [bitAt]
  | some s => simp only [bitAt]; split <;> simp [Fld.bt_lt]
/-- a symbol read from a place on -/
def decO (l : List Nat) (n : Nat) (t : T) : Option Nat → Option (Nat × List Bool)
  | some s => t.dec (bl l n s)
  | none => none
theorem decO_step (l : List Nat) (n : Nat) (x y : T) (o : Option Nat) : decO l n (.node x y) o = decO l n (if bitAt l n o = 1 then x else y) (nx n o) := by
  cases o with
  | none => rfl
  | some s =>
    by_cases h : s < 8 * n
    · simp only [decO, nx, bitAt, if_pos h]
      rw [bl_cons l n s h, T.dec]
      have := Fld.bt_lt l s
      have h2 : Fld.bt l s = 0 ∨ Fld.bt l s = 1 := by omega
      rcases h2 with h2 | h2 <;> rw [h2] <;> rfl
    · simp only [decO, nx, bitAt, if_neg h]
      rw [bl_end l n s (by omega), T.dec]
theorem readEnd_any (B R Q : Nat) (A : Option Addr) (n cap N : Nat) (er : Value) (a0 a1 : Addr) (w : World) (hReg : Reg w B R Q N 0 er) (hRd : Rd w B Q A n cap n) (hRQ : R ≠ Q) (hn : n ≤ 140737488351232) (hE : Errs w a0 a1) (hB1 : 1 < B) :
    Calls Tryd.prog 28 #[.pointer (some ⟨R, 0, none⟩), .int .u64 1] w fun e w' => Kept2 R Q w w' ∧ e = .returned (.int .u64 0) ∧ Reg w' B R Q N 0 (.iface 135 (.pointer (some a1))) ∧ Rd w' B Q A n cap n := by
  have HE := Lib.hid hE
  have HREG0 := Lib.hid hReg
  have HRD0 := Lib.hid hRd
  have HRB := Lib.hid (Own.block hReg _ rfl)
  have HQB := Lib.hid (Own.block hRd _ rfl)
  have hR1 : 1 < R := Nat.lt_of_lt_of_le hB1 HRB.out.1
  have hQ1 : 1 < Q := Nat.lt_of_lt_of_le hB1 HQB.out.1
  clear hE hReg hRd
  go_enter Tryd.func28, Tryd.ntmps28
  go_wp2_with fail
  go_loopw [5, 6] (fun u5 u6 wr => wr = w) (fun _ _ _ => 0)
  case atStart => rfl
  case round =>
    obtain rfl := hrel
    obtain ⟨r0, g0⟩ := own_val HREG0.out 0 _ rfl (by omega)
    obtain ⟨r1, g1⟩ := own_val HREG0.out 1 _ rfl (by omega)
    obtain ⟨r2, g2⟩ := own_val HREG0.out 2 _ rfl (by omega)
    have hmt := fun w => methRead ⟨Q, 0, none⟩ w
    have q1 := eqSame
    have q2 := neErr
    go_wp2_with (go_at_call 93; refine (readByte_end B Q A n cap a0 a1 wr HRD0.out HE.out hn hQ1).mono ?_; rintro e w3 ⟨rfl, rd3, grow3⟩; have e0 := cell_far grow3 HE.out.1 (by simp; omega); have e1 := cell_far grow3 HE.out.2 (by simp; omega); have reg3 := Own.kept HREG0.out grow3 (.inr (by simp [blockOf]; exact hRQ)); obtain ⟨s3, t3⟩ := own_val reg3 3 _ rfl (by omega))
    have HS := Lib.hid (Reg.setE reg3 (.iface 135 (.pointer (some a1))))
    go_ret
    exact ⟨(Kept2.right grow3).trans (Kept2.left HS.out.2), rfl, HS.out.1, Own.kept rd3 HS.out.2 (.inr (by simp [blockOf]; omega))⟩
theorem bt_fld (l : List Nat) (s : Nat) : Fld.fld l s 1 = Fld.bt l s := by
  show 2 * Fld.fld l s 0 + Fld.bt l (s + 0) = _
  simp [Fld.fld]
theorem St.ne {w : World} {B R Q : Nat} {A : Option Addr} {n cap : Nat} {l : List Nat} {a1 : Addr} {s : Nat} (h : St w B R Q A n cap l a1 (some s)) : R ≠ Q := by
  obtain ⟨_, _, _, h, _⟩ := h; exact h.ne
/-- one bit by the slow road -/
theorem readBit_any (B R Q : Nat) (A : Option Addr) (n cap : Nat) (l : List Nat) (o : Option Nat) (a0 a1 : Addr) (w : World) (hS : St w B R Q A n cap l a1 o) (hRQ : R ≠ Q) (hA : Ints w .u8 A l) (hl : l.length = n) (hn : n ≤ 140737488351232) (hb : ∀ x ∈ l, x < 256)
    (hE : Errs w a0 a1) (hB1 : 1 < B) (hAB : 0 < n → ∀ g, blockOf A = some g → g < B) :
    Calls Tryd.prog 42 #[.pointer (some ⟨R, 0, none⟩), .int .u64 1] w fun e w' => Kept2 R Q w w' ∧ e = .returned (.int .i64 (bitAt l n o : Nat)) ∧ St w' B R Q A n cap l a1 (nx n o) := by
  have key : Calls Tryd.prog 28 #[.pointer (some ⟨R, 0, none⟩), .int .u64 1] w fun e w' => Kept2 R Q w w' ∧ e = .returned (.int .u64 (bitAt l n o : Nat)) ∧ St w' B R Q A n cap l a1 (nx n o) := by
    cases o with
    | none =>
      obtain ⟨N, h1, h2, h3⟩ := hS
      refine (readEnd_any B R Q A n cap N _ a0 a1 w h1 h2 hRQ hn hE hB1).mono ?_
      rintro e w' ⟨hk, rfl, h4, h5⟩
      exact ⟨hk, rfl, N, h4, h5, h3⟩
    | some s =>
      obtain ⟨p, N, b, hB, hs⟩ := hS
      by_cases h : s < 8 * n
      · have hc := readBits_any B R Q A n cap l p N b 1 a0 a1 w hB hA hl hn hb (by omega) hE hB1 hAB
        refine hc.mono ?_
        rintro e w' ⟨hk, ⟨_, rfl, p2, N2, b2, hB2, hp2⟩ | ⟨hbad, _⟩⟩
        · refine ⟨hk, ?_, ?_⟩
          · rw [hs, bt_fld]; simp [bitAt, h]
          · simp only [nx, if_pos h]
            exact ⟨p2, N2, b2, hB2, by omega⟩
        · omega
      · have hpn := hB.pn
        have hbp := hB.bp
        have e1 : p = n := by omega
        have e2 : b = 0 := by omega
        subst e1; subst e2
        have hreg := hB.reg
        refine (readEnd_any B R Q A p cap N _ a0 a1 w hreg hB.rd hRQ hn hE hB1).mono ?_
        rintro e w' ⟨hk, rfl, h4, h5⟩
        refine ⟨hk, by simp [bitAt, h], ?_⟩
        simp only [nx, if_neg h]
        exact ⟨N, h4, h5, hB.N64⟩
  have hlt := bitAt_lt l n o
  generalize bitAt l n o = z at key hlt ⊢
  have HK := Lib.hid key
  clear key hE hA hS
  go_enter Tryd.func42, Tryd.ntmps42
  go_wp2_with fail
  refine HK.out.mono ?_
  rintro e w' ⟨hk, rfl, hst⟩
  go_wp2_with fail
  go_ret
  exact ⟨hk, by first | rfl | (congr 1), hst⟩
theorem Kept2.ownK {R Q : Nat} {w w' : World} (h : Kept2 R Q w w') {B : Nat} {e : TypeId} {size : Nat} {A : Option Addr} {n cap : Nat} {xs : List Value} (ho : Own w B e size A n cap xs) (h1 : blockOf A ≠ some R) (h2 : blockOf A ≠ some Q) : Own w' B e size A n cap xs := by
  rcases ho.2 with ⟨h', h0⟩ | ⟨g, cap', cur, h', hb, hg, hr⟩
  · exact ⟨ho.1, .inl ⟨h', h0⟩⟩
  · have hA : A = some ⟨g, 0, none⟩ := by simp only [Value.slice.injEq] at h'; exact h'.1
    have hlt : g < w.heap.size := by
      rcases Nat.lt_or_ge g w.heap.size with hlt | hge
      · exact hlt
      · rw [Array.getElem?_eq_none hge] at hg; cases hg
    refine ⟨ho.1, .inr ⟨g, cap', cur, h', hb, ?_, hr⟩⟩
    rw [h.block g hlt (fun e => h1 (by rw [hA, e]; rfl)) (fun e => h2 (by rw [hA, e]; rfl))]
    exact hg
theorem own_length4 {w : World} {B : Nat} {e : TypeId} {A : Option Addr} {n cap : Nat} {k : IntKind} {F : List Nat} (h : Own w B e 4 A n cap (cellsN k F)) : F.length = n * 4 := by
  have := h.len
  simpa [cellsN] using this
def T.size : T → Nat
  | .leaf _ => 1
  | .node l r => T.size l + T.size r + 1
theorem T.size_pos (t : T) : 0 < T.size t := by cases t <;> simp [T.size]
theorem St.drawn {w : World} {B R Q : Nat} {A : Option Addr} {n cap : Nat} {l : List Nat} {a1 : Addr} {o : Option Nat} (h : St w B R Q A n cap l a1 o) (d : Nat) : St (w.drewN d) B R Q A n cap l a1 o := by
  cases o with
  | none => exact h
  | some s => obtain ⟨p, N, b, hB, hs⟩ := h; exact ⟨p, N, b, ⟨hB.reg, hB.rd, hB.ne, hB.pn, hB.bp, hB.b55, hB.N64, hB.val⟩, hs⟩
theorem St.reg {w : World} {B R Q : Nat} {A : Option Addr} {n cap : Nat} {l : List Nat} {a1 : Addr} {o : Option Nat} (h : St w B R Q A n cap l a1 o) : ∃ N b er, Reg w B R Q N b er ∧ N < 18446744073709551616 ∧ b ≤ 55 ∧ (0 < b → er = .nilIface ∧ ∃ s p, o = some s ∧ Br w B R Q A n cap l p N b ∧ 8 * p - b = s) := by
  cases o with
  | none => obtain ⟨N, h1, h2, h3⟩ := h; exact ⟨N, 0, _, h1, h3, by omega, fun h => absurd h (by omega)⟩
  | some s => obtain ⟨p, N, b, hB, hs⟩ := h; exact ⟨N, b, _, hB.reg, hB.N64, hB.b55, fun _ => ⟨rfl, s, p, rfl, hB, hs⟩⟩
theorem St.rd {w : World} {B R Q : Nat} {A : Option Addr} {n cap : Nat} {l : List Nat} {a1 : Addr} {o : Option Nat} (h : St w B R Q A n cap l a1 o) : ∃ p, Rd w B Q A n cap p := by
  cases o with
  | none => obtain ⟨N, h1, h2, h3⟩ := h; exact ⟨_, h2⟩
  | some s => obtain ⟨p, N, b, hB, hs⟩ := h; exact ⟨_, hB.rd⟩
theorem Ints.kept2 {w w' : World} {k : IntKind} {A : Option Addr} {l : List Nat} {R Q : Nat} (h : Ints w k A l) (hk : Kept2 R Q w w') (hne : 0 < l.length → ∀ g, blockOf A = some g → g ≠ R ∧ g ≠ Q) : Ints w' k A l := fun i hi => by
  obtain ⟨b, off, e, hb, hc⟩ := h i hi
  obtain ⟨h1, h2⟩ := hne (by omega) b (by rw [e]; rfl)
  exact ⟨b, off, e, Nat.lt_of_lt_of_le hb hk.size, hk.cell hc h1 h2⟩
theorem Errs.kept2 {w w' : World} {a0 a1 : Addr} {R Q : Nat} (h : Errs w a0 a1) (hk : Kept2 R Q w w') (h1 : 1 < R) (h2 : 1 < Q) : Errs w' a0 a1 :=
  ⟨hk.cell h.1 (by simp; omega) (by simp; omega), hk.cell h.2 (by simp; omega) (by simp; omega)⟩
theorem low1 (N c : Nat) (hN : N < 18446744073709551616) : bits .and .u16 (((N : Int) / 2 ^ c) % 65536) 1 = ((N / 2 ^ c % 2 : Nat) : Int) := by
  have e3 : (N : Int) / 2 ^ c = ((N / 2 ^ c : Nat) : Int) := by simp
  rw [e3]
  generalize N / 2 ^ c = z
  have e4 : (z : Int) % 65536 = ((z % 65536 : Nat) : Int) := by omega
  have h1 : (BitVec.ofInt 16 1).toNat = 2 ^ 1 - 1 := by decide
  rw [e4]
  have key : (BitVec.ofInt 16 ((z % 65536 : Nat) : Int) &&& BitVec.ofInt 16 1).toNat = z % 65536 % 2 ^ 1 := by
    rw [BitVec.toNat_and, BitVec.toNat_ofInt, h1, Nat.and_two_pow_sub_one_eq_mod]
    congr 1
    omega
  show IntKind.u16.wrap ((BitVec.ofInt 16 ((z % 65536 : Nat) : Int) &&& BitVec.ofInt 16 1).toNat : Nat) = _
  rw [key, IntKind.wrap_u16]
  omega
theorem mask63 (b : Nat) (hb : b ≤ 55) : bits .and .u64 (b : Int) 63 = (b : Int) := by
  have h := u64_and_nat b 63 (by omega) (by omega)
  have e : b &&& 63 = b := by
    have := Nat.and_two_pow_sub_one_eq_mod b 6
    rw [show (2 : Nat) ^ 6 - 1 = 63 by decide] at this
    rw [this]; exact Nat.mod_eq_of_lt (by omega)
  rw [e] at h
  exact h
set_option maxHeartbeats 4000000 in
theorem decode_any (B R Q H G m j : Nat) (F : List Nat) (A : Option Addr) (n cap : Nat) (l : List Nat) (o : Option Nat) (a0 a1 : Addr) (t0 : T) (w : World) (hS : St w B R Q A n cap l a1 o) (hRQ : R ≠ Q) (hA : Ints w .u8 A l) (hl : l.length = n) (hn : n ≤ 140737488351232) (hb : ∀ x ∈ l, x < 256)
    (hE : Errs w a0 a1) (hB1 : 1 < B) (hAB : 0 < n → ∀ g, blockOf A = some g → g < B)
    (hbox : Own w B 72 1 (some ⟨H, 0, none⟩) 2 2 [.slice (some ⟨G, 0, none⟩) m m, .int .i64 (j : Int)]) (hrow : Own w B 100 4 (some ⟨G, 0, none⟩) m m (cellsN .u16 F)) (hm : m ≤ 258) (hd : H ≠ R ∧ H ≠ Q ∧ G ≠ R ∧ G ≠ Q) (hrep : Rep F 0 m t0 0 0) (ht : ∃ x y, t0 = .node x y) :
    Calls Tryd.prog 33 #[.pointer (some ⟨H, 0, none⟩), .pointer (some ⟨R, 0, none⟩)] w fun e w' => Kept2 R Q w w' ∧ ∃ (v : Nat) (o' : Option Nat), e = .returned (.int .u16 (v : Int)) ∧ decO l n t0 o = decO l n (.leaf v) o' ∧ St w' B R Q A n cap l a1 o' := by
  have HS := Lib.hid hS; have HA := Lib.hid hA; have HL := Lib.hid hl; have HBB := Lib.hid hb; have HE := Lib.hid hE; have HBOX := Lib.hid hbox; have HROW := Lib.hid hrow; have HREP := Lib.hid hrep; have HD := Lib.hid hd
  obtain ⟨x0, y0, rfl⟩ := ht
  obtain ⟨hH1, hH2, hG1, hG2⟩ := hd
  have HAB := Lib.hid hAB
  clear hS hA hl hb hE hbox hrow hrep hAB
  go_enter Tryd.func33, Tryd.ntmps33
  go_wp2_with fail
  go_loopg [5] (T.size (.node x0 y0)) (fun g u5 wr => ∃ (idx : Nat) (x y : T) (o2 : Option Nat), g = T.size (.node x y) ∧ u5 = .int .u16 (idx : Int) ∧ Hid (Rep F 0 m (.node x y) idx 0) ∧ Hid (decO l n (.node x0 y0) o = decO l n (.node x y) o2) ∧ Hid (St wr B R Q A n cap l a1 o2) ∧ Hid (Kept2 R Q w wr))
  case atStart => exact ⟨0, x0, y0, o, rfl, rfl, HREP, rfl, HS, Kept2.refl _ _ _⟩
  case round =>
    clear HS HREP
    obtain ⟨idx, x, y, o2, rfl, rfl, HREP, HDEC, HS, HK⟩ := hrel
    obtain ⟨hi0, him, _, _⟩ := HREP.out
    have HBX := Lib.hid (HK.out.own HBOX.out (by simp [blockOf]; exact hH1) (by simp [blockOf]; exact hH2))
    obtain ⟨p0, q0⟩ := own_val HBX.out 0 _ rfl (by omega)
    have i1 : (idx : Int) < (m : Int) := by omega
    obtain ⟨N, b, er, hreg, hN, hb55, hpos⟩ := HS.out.reg
    obtain ⟨r1, g1⟩ := own_val hreg 1 _ rfl (by omega)
    obtain ⟨r2, g2⟩ := own_val hreg 2 _ rfl (by omega)
    have HPOS := Lib.hid hpos
    have HREG := Lib.hid hreg
    clear hreg hpos
    go_upto_if 22 with fail
    have hRB : B ≤ R := (Own.block HREG.out _ rfl).1
    obtain ⟨pq, hrd⟩ := HS.out.rd
    have hQB : B ≤ Q := (Own.block hrd _ rfl).1
    have HRD := Lib.hid hrd
    have HAW := Lib.hid (HA.out.kept2 HK.out (fun h g hg => by have := HAB.out (by rw [← HL.out]; exact h) g hg; omega))
    have HEW := Lib.hid (HE.out.kept2 HK.out (by omega) (by omega))
    clear hrd
    go_cut [7] from 12 to 70 (fun u7 wx => u7 = .int .u16 (bitAt l n o2 : Nat) ∧ Hid (St wx B R Q A n cap l a1 (nx n o2)) ∧ Hid (Kept2 R Q wr wx))
    case first =>
      rcases Nat.eq_zero_or_pos b with h0 | hbp
      · subst h0
        go_wp2_with fail
        refine (readBit_any B R Q A n cap l o2 a0 a1 wr HS.out hRQ HAW.out HL.out hn HBB.out HEW.out hB1 HAB.out).mono ?_
        rintro e w3 ⟨hk, rfl, hst⟩
        have HK3 := Lib.hid hk; have HS3 := Lib.hid hst
        have hz := bitAt_lt l n o2
        generalize hz0 : bitAt l n o2 = z at hz ⊢
        have HZ := Lib.hid hz0
        clear hk hst hz0
        go_wp2_with fail
        go_meet
        case rel => exact ⟨by rw [HZ.out], HS3, HK3⟩
      · obtain ⟨rfl, s, p, rfl, hB, hs⟩ := HPOS.out hbp
        have hpn := hB.pn
        have hb8 := hB.bp
        have hs8 : s < 8 * n := by omega
        obtain ⟨c, rfl⟩ : ∃ c, b = c + 1 := ⟨b - 1, by omega⟩
        have hmask := mask63 c (by omega)
        have hlow := low1 N c hN
        have htake := Fld.reg_take l N (c + 1) s 1 (by omega) (by rw [← hs]; exact hB.val)
        have hrest := Fld.reg_rest l N (c + 1) s 1 (by omega) (by rw [← hs]; exact hB.val)
        rw [Nat.add_sub_cancel] at htake hrest
        rw [Nat.pow_one, bt_fld] at htake
        rw [htake] at hlow
        have HW := Lib.hid (HREG.out.setB c (c : Int) rfl)
        have hbt : Hid (bitAt l n (some s) = Fld.bt l s) := by show bitAt l n (some s) = _; simp [bitAt, hs8]
        have hnx : Hid (nx n (some s) = some (s + 1)) := by show nx n (some s) = _; simp [nx, hs8]
        have HREST := Lib.hid hrest
        have HBr := Lib.hid hB
        have HLOW := Lib.hid hlow
        have hsub : IntKind.u64.wrap (((c + 1 : Nat) : Int) - 1) = (c : Int) := by rw [IntKind.wrap_u64]; omega
        have i5 : ((c + 1 : Nat) : Int) - 1 = (c : Int) := by omega
        clear htake hrest hlow hB
        go_wp2_with fail
        have HW1 := HW.out
        have HK1 := Lib.hid (Kept2.left (Q := Q) HW1.2)
        have HRG1 := Lib.hid HW1.1
        have HRD1 := Lib.hid (Own.kept HBr.out.rd HW1.2 (.inr (by simp [blockOf]; omega)))
        clear HW HW1
        generalize wr.setCell ⟨R, 2, none⟩ (.int .u64 (c : Int)) = w1 at HK1 HRG1 HRD1
        clear r1 r2 g1 g2
        obtain ⟨r1, g1⟩ := own_val HRG1.out 1 _ rfl (by omega)
        obtain ⟨r2, g2⟩ := own_val HRG1.out 2 _ rfl (by omega)
        go_quiet (fail)
        have HRG2 : Hid (Reg (w1.drewN nq) B R Q N c .nilIface) := HRG1.out
        have HRD2 : Hid (Rd (w1.drewN nq) B Q A n cap p) := HRD1.out
        have HK2 := Lib.hid (HK1.out.drewN nq)
        generalize w1.drewN nq = w2 at HRG2 HRD2 HK2
        clear r1 r2 g1 g2
        go_wp2_with fail
        go_meet
        case rel =>
          refine ⟨?_, ?_, HK2⟩
          · rw [hbt.out, IntKind.wrap_u16, HLOW.out]
          · rw [hnx.out]
            exact ⟨p, N, c, ⟨HRG2.out, HRD2.out, hRQ, hpn, by omega, by omega, hN, by rw [show 8 * p - c = s + 1 by omega]; exact HREST.out⟩, by omega⟩
    case rest =>
      obtain ⟨rfl, HS3, HK3⟩ := hcut
      have HK4 := Lib.hid (HK.out.trans HK3.out)
      have HDEC2 := Lib.hid (HDEC.out.trans (decO_step l n x y o2))
      have hz := bitAt_lt l n o2
      generalize bitAt l n o2 = z at hz HDEC2 ⊢
      have HRW := Lib.hid (HK4.out.ownK HROW.out (by simp [blockOf]; exact hG1) (by simp [blockOf]; exact hG2))
      obtain ⟨_, _, HX, HY⟩ := HREP.out
      have HX := Lib.hid HX
      have HY := Lib.hid HY
      clear HK HK3 HBX p0 q0 r1 r2 g1 g2 HREG HPOS HRD HAW HEW HS HDEC
      have hFl := own_length4 HROW.out
      have hcellF : ∀ k, k < m * 4 → wc.cell? ⟨G, k, none⟩ = some (.int .u16 (F.getD k 0 : Nat)) := fun k hk => (ownK_val HRW.out k _ (cellsN_at .u16 F k (by omega))).1
      have c0 := hcellF (idx * 4) (by omega)
      have c1 := hcellF (idx * 4 + 1) (by omega)
      have c2 := hcellF (idx * 4 + 2) (by omega)
      have c3 := hcellF (idx * 4 + 3) (by omega)
      generalize F.getD (idx * 4) 0 = f0 at c0 HX
      generalize F.getD (idx * 4 + 1) 0 = f1 at c1 HY
      generalize F.getD (idx * 4 + 2) 0 = f2 at c2 HX
      generalize F.getD (idx * 4 + 3) 0 = f3 at c3 HY
      clear hcellF hFl
      go_wp2_with fail
      go_quiet (fail)
      have HS5 := Lib.hid (HS3.out.drawn nq)
      have HK5 := Lib.hid (HK4.out.drewN nq)
      have d0 : (wc.drewN nq).cell? ⟨G, idx * 4, none⟩ = some (.int .u16 (f0 : Int)) := c0
      have d1 : (wc.drewN nq).cell? ⟨G, idx * 4 + 1, none⟩ = some (.int .u16 (f1 : Int)) := c1
      have d2 : (wc.drewN nq).cell? ⟨G, idx * 4 + 2, none⟩ = some (.int .u16 (f2 : Int)) := c2
      have d3 : (wc.drewN nq).cell? ⟨G, idx * 4 + 3, none⟩ = some (.int .u16 (f3 : Int)) := c3
      generalize wc.drewN nq = w5 at HS5 HK5 d0 d1 d2 d3
      clear c0 c1 c2 c3 HS3 HK4 HRW
      have hz2 : z = 1 ∨ z = 0 := by omega
      rcases hz2 with rfl | rfl
      · cases x with
        | leaf v =>
          obtain ⟨rfl, rfl⟩ := HX.out
          go_wp2_with fail
          go_quiet (fail)
          have HS6 := Lib.hid (HS5.out.drawn nq)
          have HK6 := Lib.hid (HK5.out.drewN nq)
          generalize w5.drewN nq = w6 at HS6 HK6
          go_wp2_with fail
          go_ret
          exact ⟨HK6.out, _, _, rfl, by rw [HDEC2.out]; rfl, HS6.out⟩
        | node xl xr =>
          obtain ⟨_, hlt, _, _⟩ := HX.out
          have hne : ((f0 : Int) == 65535) = false := by rw [beq_eq_false_iff_ne]; omega
          go_wp2_with fail
          go_roundg (T.size (.node xl xr))
          case measure => simp [T.size]; omega
          case rel => exact ⟨f0, xl, xr, _, rfl, rfl, Rep.value HX.out, by rw [HDEC2.out]; rfl, HS5, HK5⟩
      · cases y with
        | leaf v =>
          obtain ⟨rfl, rfl⟩ := HY.out
          go_wp2_with fail
          go_quiet (fail)
          have HS6 := Lib.hid (HS5.out.drawn nq)
          have HK6 := Lib.hid (HK5.out.drewN nq)
          generalize w5.drewN nq = w6 at HS6 HK6
          go_wp2_with fail
          go_ret
          exact ⟨HK6.out, _, _, rfl, by rw [HDEC2.out]; rfl, HS6.out⟩
        | node xl xr =>
          obtain ⟨_, hlt, _, _⟩ := HY.out
          have hne : ((f1 : Int) == 65535) = false := by rw [beq_eq_false_iff_ne]; omega
          go_wp2_with fail
          go_roundg (T.size (.node xl xr))
          case measure => simp [T.size]; omega
          case rel => exact ⟨f1, xl, xr, _, rfl, rfl, Rep.value HY.out, by rw [HDEC2.out]; rfl, HS5, HK5⟩
end Go.Proofs.YtdhehnjidakfcaaDoor

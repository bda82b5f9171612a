/- The reader of bits: walked. -/
import Derived.Test.YtdhehnjidakfcaaDoorByte
namespace Go.Proofs.YtdhehnjidakfcaaDoor
open Go.RowKit
set_option maxHeartbeats 400000
set_option maxRecDepth 4000
set_option linter.unusedVariables false
set_option linter.unusedSimpArgs false
/-- only two blocks may have turned -/
structure Kept2 (R Q : Nat) (w w' : World) : Prop where
  os : w'.os = w.os
  tape : w'.tape = w.tape
  output : w'.output = w.output
  size : w.heap.size ≤ w'.heap.size
  block : ∀ k, k < w.heap.size → k ≠ R → k ≠ Q → w'.heap[k]? = w.heap[k]?
theorem Kept2.refl (R Q : Nat) (w : World) : Kept2 R Q w w := ⟨rfl, rfl, rfl, Nat.le_refl _, fun _ _ _ _ => rfl⟩
theorem Kept2.trans {R Q : Nat} {a b c : World} (h : Kept2 R Q a b) (k : Kept2 R Q b c) : Kept2 R Q a c :=
  ⟨k.os.trans h.os, k.tape.trans h.tape, k.output.trans h.output, Nat.le_trans h.size k.size, fun i hi h1 h2 => (k.block i (Nat.lt_of_lt_of_le hi h.size) h1 h2).trans (h.block i hi h1 h2)⟩
theorem Kept2.left {R Q : Nat} {w w' : World} (h : w.grownBy w' (some R)) : Kept2 R Q w w' := ⟨h.os, h.tape, h.output, h.size, fun k hk h1 _ => h.block k hk (fun e => h1 (by injection e))⟩
theorem Kept2.right {R Q : Nat} {w w' : World} (h : w.grownBy w' (some Q)) : Kept2 R Q w w' := ⟨h.os, h.tape, h.output, h.size, fun k hk _ h2 => h.block k hk (fun e => h2 (by injection e))⟩
theorem Kept2.drewN {R Q : Nat} {w w' : World} (h : Kept2 R Q w w') (d : Nat) : Kept2 R Q w (w'.drewN d) := ⟨h.os, h.tape, h.output, h.size, h.block⟩
theorem Kept2.below {R Q B : Nat} {w0 w w' : World} (h : Kept2 R Q w w') (hb : Below B w0 w) (h1 : B ≤ R) (h2 : B ≤ Q) (hB : B ≤ w.heap.size) : Below B w0 w' :=
  hb.trans ⟨h.os, h.tape, h.output, h.size, fun k hk => h.block k (by omega) (by omega) (by omega)⟩
theorem Kept2.cell {R Q : Nat} {w w' : World} (h : Kept2 R Q w w') {a : Addr} {v : Value} (hc : w.cell? a = some v) (h1 : a.block ≠ R) (h2 : a.block ≠ Q) : w'.cell? a = some v :=
  (World.cell?_of_block (w := w) (h.block a.block (lt_of_cell hc) h1 h2)).trans hc
theorem Kept2.own {R Q : Nat} {w w' : World} (h : Kept2 R Q w w') {B : Nat} {e : TypeId} {A : Option Addr} {n cap : Nat} {xs : List Value} (ho : Own w B e 1 A n cap xs) (h1 : blockOf A ≠ some R) (h2 : blockOf A ≠ some Q) : Own w' B e 1 A n cap xs := by
  rcases ho.2 with ⟨h', h0⟩ | ⟨g, cap', cur, h', hb, hg, hr⟩
  · exact ⟨ho.1, .inl ⟨h', h0⟩⟩
  · have hA : A = some ⟨g, 0, none⟩ := by simp only [Value.slice.injEq] at h'; exact h'.1
    have hlt : g < w.heap.size := by
      rcases Nat.lt_or_ge g w.heap.size with hlt | hge
      · exact hlt
      · rw [Array.getElem?_eq_none hge] at hg; cases hg
    refine ⟨ho.1, .inr ⟨g, cap', cur, h', hb, ?_, hr⟩⟩
    rw [h.block g hlt (fun e => h1 (by rw [hA, e]; rfl)) (fun e => h2 (by rw [hA, e]; rfl))]
    exact hg
/-- the reader of bits -/
def Reg (w : World) (B R Q N b : Nat) (er : Value) : Prop := Own w B 66 1 (some ⟨R, 0, none⟩) 4 4 [.iface 59 (.pointer (some ⟨Q, 0, none⟩)), .int .u64 (N : Int), .int .u64 (b : Int), er]
theorem Reg.setN {w : World} {B R Q N b : Nat} {er : Value} (h : Reg w B R Q N b er) (N2 : Nat) (u : Int) (hu : u = (N2 : Int)) : Reg (w.setCell ⟨R, 1, none⟩ (.int .u64 u)) B R Q N2 b er ∧ w.grownBy (w.setCell ⟨R, 1, none⟩ (.int .u64 u)) (some R) := by
  subst hu
  exact Own.stored h 1 (.int .u64 (N2 : Int))
theorem Reg.setB {w : World} {B R Q N b : Nat} {er : Value} (h : Reg w B R Q N b er) (b2 : Nat) (u : Int) (hu : u = (b2 : Int)) : Reg (w.setCell ⟨R, 2, none⟩ (.int .u64 u)) B R Q N b2 er ∧ w.grownBy (w.setCell ⟨R, 2, none⟩ (.int .u64 u)) (some R) := by
  subst hu
  exact Own.stored h 2 (.int .u64 (b2 : Int))
theorem Reg.setE {w : World} {B R Q N b : Nat} {er : Value} (h : Reg w B R Q N b er) (v : Value) : Reg (w.setCell ⟨R, 3, none⟩ v) B R Q N b v ∧ w.grownBy (w.setCell ⟨R, 3, none⟩ v) (some R) :=
  Own.stored h 3 v
/-- data, reader of bytes and reader of bits; where they stand -/
structure Br (w : World) (B R Q : Nat) (A : Option Addr) (n cap : Nat) (l : List Nat) (p N b : Nat) : Prop where
  reg : Reg w B R Q N b .nilIface
  rd : Rd w B Q A n cap p
  ne : R ≠ Q
  pn : p ≤ n
  bp : b ≤ 8 * p
  b55 : b ≤ 55
  N64 : N < 18446744073709551616
  val : N % 2 ^ b = Fld.fld l (8 * p - b) b
theorem methRead (a : Addr) (w : World) : (method 256 59 (.pointer (some a)) "ReadByte").run Tryd.prog w = .ok (93, .pointer (some a)) w := by kernel_rfl
theorem eqNil (w : World) (v : Value) : (binOp .eql 64 .nilIface (.iface 135 v)).run Tryd.prog w = .ok (.bool false) w := run_eql_iface_nil_left w 135 v Tryd.underlying64
theorem neNil (w : World) : (binOp .neq 64 .nilIface .nilIface).run Tryd.prog w = .ok (.bool false) w := by kernel_rfl
theorem neErr (w : World) (v : Value) : (binOp .neq 64 (.iface 135 v) .nilIface).run Tryd.prog w = .ok (.bool true) w := by kernel_rfl
theorem eqSame (w : World) (a : Addr) : (binOp .eql 64 (.iface 135 (.pointer (some a))) (.iface 135 (.pointer (some a)))).run Tryd.prog w = .ok (.bool true) w := by
  have h1 : (Tryd.prog.info? 135).map (·.comparable) = some true := by kernel_rfl
  have h2 : (Tryd.prog.info? 153).map (·.comparable) = some true := by kernel_rfl
  cases e1 : Tryd.prog.info? 135 with
  | none => rw [e1] at h1; cases h1
  | some i =>
    cases e2 : Tryd.prog.info? 153 with
    | none => rw [e2] at h2; cases h2
    | some j => exact run_eql_iface_ptr_same w a Tryd.underlying64 Tryd.underlying135 e1 (by rw [e1] at h1; simpa using h1) e2
theorem maskVal (N c k : Nat) (hN : N < 18446744073709551616) (hk : k ≤ 48) : bits .and .u64 ((N : Int) / 2 ^ c) (IntKind.u64.wrap (IntKind.u64.wrap ((2 : Int) ^ k) - 1)) = ((N / 2 ^ c % 2 ^ k : Nat) : Int) := by
  have hp : 2 ^ k ≤ 2 ^ 48 := Nat.pow_le_pow_right (by omega) hk
  have hp0 := Nat.two_pow_pos k
  have e1 : (2 : Int) ^ k = ((2 ^ k : Nat) : Int) := by simp
  have e2 : IntKind.u64.wrap (IntKind.u64.wrap ((2 : Int) ^ k) - 1) = ((2 ^ k - 1 : Nat) : Int) := by
    rw [e1, IntKind.wrap_u64, IntKind.wrap_u64]; omega
  have e3 : (N : Int) / 2 ^ c = ((N / 2 ^ c : Nat) : Int) := by simp
  rw [e2, e3, u64_and_nat _ _ (Nat.lt_of_le_of_lt (Nat.div_le_self _ _) hN) (by omega), Nat.and_two_pow_sub_one_eq_mod]
theorem wrapByte (N : Nat) : IntKind.u64.wrap ((N : Int) * 256) = ((N * 256 % 18446744073709551616 : Nat) : Int) := by
  rw [IntKind.wrap]; simp [IntKind.bits, IntKind.signed]
theorem regOr (N y : Nat) (hy : y < 256) : bits .or .u64 (IntKind.u64.wrap ((N : Int) * 256)) (y : Int) = ((N * 256 % 18446744073709551616 + y : Nat) : Int) := by
  rw [wrapByte, u64_or_nat _ _ (Nat.mod_lt _ (by omega)) (by omega)]
  congr 1
  have e : N * 256 % 18446744073709551616 = (N % 72057594037927936) <<< 8 := by rw [Nat.shiftLeft_eq]; omega
  rw [e, ← Nat.shiftLeft_add_eq_or_of_lt (show y < 2 ^ 8 by omega)]
theorem Reg.byte {w : World} {B R Q N b y : Nat} {er : Value} (h : Reg w B R Q N b er) (hy : y < 256) :
    Reg (((w.setCell ⟨R, 1, none⟩ (.int .u64 (IntKind.u64.wrap ((N : Int) * 256)))).setCell ⟨R, 1, none⟩ (.int .u64 (bits .or .u64 (IntKind.u64.wrap ((N : Int) * 256)) (y : Int)))).setCell ⟨R, 2, none⟩ (.int .u64 ((b : Int) + 8))) B R Q (N * 256 % 18446744073709551616 + y) (b + 8) er ∧
    w.grownBy (((w.setCell ⟨R, 1, none⟩ (.int .u64 (IntKind.u64.wrap ((N : Int) * 256)))).setCell ⟨R, 1, none⟩ (.int .u64 (bits .or .u64 (IntKind.u64.wrap ((N : Int) * 256)) (y : Int)))).setCell ⟨R, 2, none⟩ (.int .u64 ((b : Int) + 8))) (some R) := by
  have h1 := h.setN _ _ (wrapByte N)
  have h2 := h1.1.setN _ _ (regOr N y hy)
  have h3 := h2.1.setB (b + 8) ((b : Int) + 8) (by omega)
  exact ⟨h3.1, (h1.2.trans h2.2).trans h3.2⟩
def mB (R : Nat) (w : World) : Nat := 64 - (intOf ((w.cell? ⟨R, 2, none⟩).getD undef)).toNat
theorem mB_reg {w : World} {B R Q N b : Nat} {er : Value} (h : Reg w B R Q N b er) : mB R w = 64 - b := by
  obtain ⟨h2, _⟩ := own_val h 2 _ rfl (by omega)
  unfold mB
  rw [h2]
  simp [intOf]
theorem readBits_any (B R Q : Nat) (A : Option Addr) (n cap : Nat) (l : List Nat) (p N b k : Nat) (a0 a1 : Addr) (w : World) (hB : Br w B R Q A n cap l p N b) (hA : Ints w .u8 A l) (hl : l.length = n) (hn : n ≤ 140737488351232) (hb : ∀ x ∈ l, x < 256) (hk : k ≤ 48)
    (hE : Errs w a0 a1) (hB1 : 1 < B) (hAB : 0 < n → ∀ g, blockOf A = some g → g < B) :
    Calls Tryd.prog 28 #[.pointer (some ⟨R, 0, none⟩), .int .u64 (k : Int)] w fun e w' => Kept2 R Q w w' ∧
      ((8 * p - b + k ≤ 8 * n ∧ e = .returned (.int .u64 (Fld.fld l (8 * p - b) k : Nat)) ∧ ∃ p2 N2 b2, Br w' B R Q A n cap l p2 N2 b2 ∧ 8 * p2 - b2 = 8 * p - b + k) ∨
       (8 * n < 8 * p - b + k ∧ e = .returned (.int .u64 0) ∧ ∃ N2 b2, Reg w' B R Q N2 b2 (.iface 135 (.pointer (some a1))))) := by
  have HE := Lib.hid hE
  have HA := Lib.hid hA
  have HBB := Lib.hid hb
  have HL := Lib.hid hl
  have HB0 := Lib.hid hB
  have hRQ := hB.ne
  have hm : ∀ w : World, True := fun _ => trivial
  clear hE hA hb hB hl
  go_enter Tryd.func28, Tryd.ntmps28
  go_wp2_with fail
  go_loopw [5, 6] (fun u5 u6 wr => ∃ (p2 N2 b2 : Nat), Hid (Br wr B R Q A n cap l p2 N2 b2) ∧ Hid (8 * p2 - b2 = 8 * p - b) ∧ Hid (Kept2 R Q w wr)) (fun _ _ wr => mB R wr)
  case atStart => exact ⟨p, N, b, HB0, rfl, Kept2.refl _ _ _⟩
  case round =>
    clear HB0
    obtain ⟨p2, N2, b2, HB, HP, HK⟩ := hrel
    have HRB := Lib.hid (Own.block HB.out.reg _ rfl)
    have HQB := Lib.hid (Own.block HB.out.rd _ rfl)
    have hR1 : 1 < R := Nat.lt_of_lt_of_le hB1 HRB.out.1
    have hQ1 : 1 < Q := Nat.lt_of_lt_of_le hB1 HQB.out.1
    obtain ⟨r0, g0⟩ := own_val HB.out.reg 0 _ rfl (by omega)
    obtain ⟨r1, g1⟩ := own_val HB.out.reg 1 _ rfl (by omega)
    obtain ⟨r2, g2⟩ := own_val HB.out.reg 2 _ rfl (by omega)
    by_cases hlt : b2 < k
    · have hpn := HB.out.pn
      by_cases hmore : p2 < n
      · have hb55 := HB.out.b55
        have hN64 := HB.out.N64
        obtain ⟨bl, ol, rfl, hbl, hcl⟩ := HA.out p2 (by rw [HL.out]; exact hmore)
        have hyl : l.getD p2 0 < 256 := by
          have hlt2 : p2 < l.length := by rw [HL.out]; exact hmore
          have e1 : l.getD p2 0 = l[p2] := by simp [List.getD_eq_getElem?_getD, List.getElem?_eq_getElem hlt2]
          rw [e1]; exact HBB.out _ (List.getElem_mem hlt2)
        have HREG := Lib.hid (Fld.reg_byte l N2 b2 p2 (by omega) HB.out.bp HB.out.val hyl)
        generalize hy : l.getD p2 0 = y at hcl hyl HREG
        have hblB := hAB (by omega) bl rfl
        have hbR : bl ≠ R := Nat.ne_of_lt (Nat.lt_of_lt_of_le hblB HRB.out.1)
        have hbQ : bl ≠ Q := Nat.ne_of_lt (Nat.lt_of_lt_of_le hblB HQB.out.1)
        have HCL := Lib.hid (HK.out.cell hcl hbR hbQ)
        have HE2 : Hid (Errs wr a0 a1) := ⟨HK.out.cell HE.out.1 (by simp; omega) (by simp; omega), HK.out.cell HE.out.2 (by simp; omega) (by simp; omega)⟩
        have hmt := fun w => methRead ⟨Q, 0, none⟩ w
        have q1 := eqNil
        have q2 := neNil
        have HREG0 := Lib.hid HB.out.reg
        clear hcl hy
        go_wp2_with (go_at_call 93; refine (readByte_more B Q bl ol n cap p2 y wr HB.out.rd HCL.out hmore hn hyl hbQ).mono ?_; rintro e w3 ⟨rfl, rd3, grow3⟩; have e0 := cell_far grow3 HE2.out.1 (by simp; omega); have reg3 := Own.kept HREG0.out grow3 (.inr (by simp [blockOf]; exact hRQ)); obtain ⟨s1, t1⟩ := own_val reg3 1 _ rfl (by omega); obtain ⟨s2, t2⟩ := own_val reg3 2 _ rfl (by omega))
        have HY := Lib.hid (Reg.byte reg3 hyl)
        go_roundw
        case rel =>
          have hbp := HB.out.bp
          refine ⟨p2 + 1, _, b2 + 8, ⟨HY.out.1, Own.kept rd3 HY.out.2 (.inr (by simp [blockOf]; omega)), hRQ, by omega, by omega, by omega, by omega, HREG.out⟩, ?_, (HK.out.trans (Kept2.right grow3)).trans (Kept2.left HY.out.2)⟩
          show 8 * (p2 + 1) - (b2 + 8) = 8 * p - b
          rw [← HP.out]; omega
        case measure => rw [mB_reg HY.out.1, mB_reg HREG0.out]; omega
      · obtain rfl : p2 = n := by omega
        have HE2 : Hid (Errs wr a0 a1) := ⟨HK.out.cell HE.out.1 (by simp; omega) (by simp; omega), HK.out.cell HE.out.2 (by simp; omega) (by simp; omega)⟩
        have hmt := fun w => methRead ⟨Q, 0, none⟩ w
        have q1 := eqSame
        have q2 := neErr
        have HREG0 := Lib.hid HB.out.reg
        have hbp := HB.out.bp
        go_wp2_with (go_at_call 93; refine (readByte_end B Q A p2 cap a0 a1 wr HB.out.rd HE2.out hn hQ1).mono ?_; rintro e w3 ⟨rfl, rd3, grow3⟩; have e0 := cell_far grow3 HE2.out.1 (by simp; omega); have e1 := cell_far grow3 HE2.out.2 (by simp; omega); have reg3 := Own.kept HREG0.out grow3 (.inr (by simp [blockOf]; exact hRQ)); obtain ⟨s3, t3⟩ := own_val reg3 3 _ rfl (by omega))
        have HS := Lib.hid (Reg.setE reg3 (.iface 135 (.pointer (some a1))))
        have hlast : 8 * p2 < 8 * p - b + k := by rw [← HP.out]; omega
        have HLT := Lib.hid hlast
        clear hlast
        go_ret
        exact ⟨(HK.out.trans (Kept2.right grow3)).trans (Kept2.left HS.out.2), .inr ⟨HLT.out, rfl, _, _, HS.out.1⟩⟩
    · have hN64 := HB.out.N64
      have hb55 := HB.out.b55
      have hpn := HB.out.pn
      have hbp := HB.out.bp
      have HM := Lib.hid (maskVal N2 (b2 - k) k hN64 hk)
      have HT := Lib.hid (Fld.reg_take l N2 b2 _ k (by omega) HB.out.val)
      have HS := Lib.hid (Fld.reg_rest l N2 b2 _ k (by omega) HB.out.val)
      have HREG0 := Lib.hid HB.out.reg
      have HRD0 := Lib.hid HB.out.rd
      go_wp2_with fail
      go_quiet (fail)
      have HREG1 : Hid (Reg (wr.drewN nq) B R Q N2 b2 .nilIface) := HREG0.out
      have HRD1 : Hid (Rd (wr.drewN nq) B Q A n cap p2) := HRD0.out
      have HK1 := Lib.hid (HK.out.drewN nq)
      generalize wr.drewN nq = wq at HREG1 HRD1 HK1
      clear r0 r1 r2 g0 g1 g2
      obtain ⟨r2, g2⟩ := own_val HREG1.out 2 _ rfl (by omega)
      rw [HM.out, HT.out]
      have HW := Lib.hid (HREG1.out.setB (b2 - k) ((b2 : Int) - (k : Int)) (by omega))
      go_wp2_with fail
      go_ret
      refine ⟨HK1.out.trans (Kept2.left HW.out.2), .inl ⟨by rw [← HP.out]; omega, ret_int (by rw [HP.out]), p2, N2, b2 - k, ⟨HW.out.1, Own.kept HRD1.out HW.out.2 (.inr (by simp [blockOf]; omega)), hRQ, hpn, by omega, by omega, hN64, ?_⟩, by rw [← HP.out]; omega⟩⟩
      rw [HS.out]
      congr 1
      omega
end Go.Proofs.YtdhehnjidakfcaaDoor

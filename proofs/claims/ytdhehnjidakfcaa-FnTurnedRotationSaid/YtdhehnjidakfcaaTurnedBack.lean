/- The transform of a text undone: two laws' walks. -/
import Derived.Test.YtdhehnjidakfcaaSpecTurned
import Derived.Test.YtdhehnjidakfcaaTurnedAny
import Derived.Deep.RegionLaw
namespace Go.Proofs.Ytdhehnjidakfcaa
open Go.RowKit
set_option maxHeartbeats 400000
set_option maxRecDepth 4000
set_option linter.unusedVariables false
set_option linter.unusedSimpArgs false
theorem step_app_nat {P : Program} {w : World} {ops : Array Oper} {o : Oper} {a : Act} {K : Act → World → Prop} {Q : Exit → Act → World → Prop} {E : Prop} (hgd : o.guard = none) (s x : Operand) (t : TypeId)
    (ho : o.op = .call { callee := .builtin .append, args := #[s, x], argTypes := #[t, t] })
    (base : Nat) (e : TypeId) (k : IntKind) (bytes : Nat) (ht : P.underlying t = some (.slice e)) (hinfo : (P.info? e).map (fun i => (i.zero, i.size, i.bytes)) = some (some (.int k 0), 1, bytes)) (hby : 0 < bytes)
    {A : Option Addr} {n cap : Nat} {l : List Nat} (hs : a.eval s = .slice A n cap) (hown : Own w base e 1 A n cap (cellsN k l))
    (ad : Addr) (m c : Nat) (l2 : List Nat) (hx : a.eval x = .slice (some ad) m c) (hsrc : SrcAt w (some ad) m c (cellsN k l2)) (hl : l2.length = m) (hbytes : (n + m) * bytes ≤ 140737488355328) (hbase : base ≤ w.heap.size)
    (h : ∀ A' cap' w', Own w' base e 1 A' (n + m) cap' (cellsN k (l ++ l2)) → w.grownBy w' (blockOf A) → K (a.put o.dst (.slice A' (n + m) cap')) w') :
    if Region.wanted o (yielded ops a.tmps) = true then Oper.wp P o a w K Q else E := by
  have hw : Region.wanted o (yielded ops a.tmps) = true := by simp [Region.wanted, hgd]
  rw [if_pos hw]
  obtain ⟨i, hi, hz, hsize, hb⟩ := info_parts hinfo
  have h63 : n + m ≤ maxLen := by
    have := Nat.le_trans (Nat.le_mul_of_pos_right (n + m) hby) hbytes
    unfold maxLen; omega
  obtain ⟨v', w', hr, h2, h3, h4, h5⟩ := run_append_own_at (P := P) w base t o.type e i (.int k 0) 1 bytes ht hi hz hsize hb rfl (by omega) (.slice A n cap) n _ hown ad m c (cellsN k l2) (by simp [cellsN, hl]) (hsrc.2 ad rfl) (cellsN_one _ _) h63 hbytes hbase
  obtain ⟨A', cap', rfl, hA'⟩ := own_form h2
  rw [ownBlock_eq] at h3
  have e1 : cellsN k l ++ cellsN k l2 = cellsN k (l ++ l2) := by simp [cellsN]
  rw [e1] at h2
  unfold Oper.wp execOp
  simp only [ho, resolve, invoke, builtin, Sem.run_bind, Sem.run_pure, Result.andThen_ok, List.map_toArray, List.map_cons, List.map_nil, hs, hx, hr]
  exact h A' cap' w' h2 h3
theorem turned_plain (T : List Nat) (n k s : Nat) (hn : T.length = n) (hm : n ≤ 900000) (hs : s < n) (hk : (Bwt.msort T 20 (List.range n)).getD s 0 = k) :
    Bwt.back (Bwt.order ((Bwt.msort T 20 (List.range n)).map fun p => T.getD (Bwt.pred n p) 0)) ((Bwt.msort T 20 (List.range n)).map fun p => T.getD (Bwt.pred n p) 0) n s = Bwt.rot T k := by
  subst hn
  rw [Bwt.back_text T (Bwt.msort T 20 (List.range T.length)) (Bwt.msort_perm _ _ _) (Bwt.msort_sorted T 20 _ (by simp; omega)) _ rfl s hs, hk]
theorem turned_list (T : List Nat) (n : Nat) (hn : T.length = n) (h0 : 0 < n) (hb : ∀ x ∈ T, x < 256) :
    ((Bwt.msort T 20 (List.range n)).map fun p => T.getD (Bwt.pred n p) 0).length = n ∧ ∀ x ∈ ((Bwt.msort T 20 (List.range n)).map fun p => T.getD (Bwt.pred n p) 0), x < 256 := by
  refine ⟨by rw [List.length_map]; simpa using (Bwt.msort_perm T 20 (List.range n)).length_eq, fun x hx => ?_⟩
  obtain ⟨p, _, rfl⟩ := List.mem_map.1 hx
  exact getD_mem_lt hb (by rw [hn]; exact pred_lt n p h0)
theorem fnTurnedBack_walk (A1 : Option Addr) (c1 : Nat) (z1 : List Int) (w : World) {P : Prop} (_ : P)
    (h1 : Arg .u8 w A1 z1 c1) (m1 : z1.length * 1 ≤ 140737488351232) :
    Calls Try.prog 7 #[.slice A1 z1.length c1] w fun e w' => e = .returned (.bool true) ∧ Below w.heap.size w w' := by
  obtain ⟨l1, hl1, hA1, hb1, hm1⟩ := bytes_of h1
  have hc := h1.le
  go_enter Try.func7, Try.ntmps7
  go_wp2_with fail
  refine (block_any A1 c1 _ l1 _ hA1 hl1 hc (by omega) hb1).mono ?_
  rintro e w1 ⟨A3, n, c3, T, rfl, hL, h0, hn, hcap, _, hI, hb, b1⟩
  clear hb1 hA1 hl1
  have HL := Lib.hid hL; have HB := Lib.hid hb
  have HTL := Lib.hid (turned_list T n hL h0 hb)
  have HTP := Lib.hid (fun s => turned_plain T n 0 s hL hn)
  clear hL hb
  go_wp2_with fail
  refine (specTurned_any A3 c3 n 0 T w1 hI HL.out h0 hn h0).mono ?_
  rintro e w2 ⟨A4, c4, s, rfl, hs, hk, o1, b2⟩
  have HP := Lib.hid (HTP.out s hs hk)
  clear HTP hk
  generalize ((Bwt.msort T 20 (List.range n)).map fun p => T.getD (Bwt.pred n p) 0) = l at o1 HTL HP
  go_wp2_with fail
  refine (implTurned_any A4 c4 n s l w2 o1.ints HTL.out.1 h0 hn hs HTL.out.2).mono ?_
  rintro e w3 ⟨A5, c5, rfl, o2, b3⟩
  rw [HP.out, Bwt.rot_zero] at o2
  have b23 := b2.trans (b3.mono b2.size)
  go_wp2_with fail
  refine (same_self A5 A3 c5 c3 n T HL.out _ o2.ints (hI.below b23) (by omega)).mono ?_
  rintro e w' ⟨rfl, rfl⟩
  go_wp2_with fail
  go_ret
  exact ⟨rfl, b1.trans (b23.mono b1.size)⟩
theorem Ints.dropSrc {w : World} {b o : Nat} {l : List Nat} (h : Ints w .u8 (some ⟨b, o, none⟩) l) (k m c : Nat) : SrcAt w (some ⟨b, o + k, none⟩) m c (cellsN .u8 (l.drop k)) := by
  refine ⟨fun e => (by cases e), fun ad e j u hu => ?_⟩
  injection e with e
  subst e
  have hj : j < (l.drop k).length := by
    have := (List.getElem?_eq_some_iff.1 hu).1
    simpa [cellsN] using this
  rw [cellsN_at _ _ _ hj] at hu
  rw [List.length_drop] at hj
  have hc := h.at (k + j) (by omega) _ rfl
  have e2 : (l.drop k).getD j 0 = l.getD (k + j) 0 := by simp [List.getD_eq_getElem?_getD]
  rw [add_none, Nat.add_assoc, hc, ← hu, e2]
theorem Ints.takeSrc {w : World} {b o : Nat} {l : List Nat} (h : Ints w .u8 (some ⟨b, o, none⟩) l) (k m c : Nat) : SrcAt w (some ⟨b, o, none⟩) m c (cellsN .u8 (l.take k)) := by
  refine ⟨fun e => (by cases e), fun ad e j u hu => ?_⟩
  injection e with e
  subst e
  have hj : j < (l.take k).length := by
    have := (List.getElem?_eq_some_iff.1 hu).1
    simpa [cellsN] using this
  rw [cellsN_at _ _ _ hj] at hu
  rw [List.length_take] at hj
  have hc := h.at j (by omega) _ rfl
  have e2 : (l.take k).getD j 0 = l.getD j 0 := by simp [List.getD_eq_getElem?_getD, show j < k by omega]
  rw [add_none, hc, ← hu, e2]
theorem fnTurnedRotation_walk (A1 : Option Addr) (c1 : Nat) (z1 : List Int) (a : Int) (w : World) {P : Prop} (_ : P)
    (h1 : Arg .u8 w A1 z1 c1) (m1 : z1.length * 1 ≤ 140737488351232) (ha : (Lit.int .i64 a).wf = true) :
    Calls Try.prog 8 #[.slice A1 z1.length c1, .int .i64 a] w fun e w' => e = .returned (.bool true) ∧ Below w.heap.size w w' := by
  obtain ⟨l1, hl1, hA1, hb1, hm1⟩ := bytes_of h1
  have hc := h1.le
  have hcm := h1.cap_le
  unfold maxLen at hcm
  go_enter Try.func8, Try.ntmps8
  go_wp2_with fail
  refine (block_any A1 c1 _ l1 _ hA1 hl1 hc (by omega) hb1).mono ?_
  rintro e w1 ⟨A3, n, c3, T, rfl, hL, h0, hn, hcap, hcap2, hI, hb, b1⟩
  clear hb1 hA1 hl1
  obtain ⟨k, hj, hjn⟩ := place_nat a n h0
  obtain ⟨bb, oo, rfl, _, _⟩ := hI 0 (by omega)
  have HJ := Lib.hid hj
  have HL := Lib.hid hL; have HB := Lib.hid hb
  have HTL := Lib.hid (turned_list T n hL h0 hb)
  have HTP := Lib.hid (fun s => turned_plain T n k s hL hn)
  have HRE := Lib.hid (Bwt.rot_eq T k (by omega))
  have HD : Hid ((T.drop k).length = n - k) := by show (T.drop k).length = n - k; rw [List.length_drop, hL]
  have HT : Hid ((T.take k).length = k) := by show (T.take k).length = k; rw [List.length_take, hL]; omega
  clear hj hL hb
  go_wp2_with fail
  refine (place_any _ _ _ ha (by omega) (by omega)).mono ?_
  rintro e w' ⟨rfl, rfl⟩
  rw [HJ.out]
  have i1 : (0 : Int) ≤ (k : Int) := by omega
  have i2 : (k : Int) ≤ (n : Int) := by omega
  have i3 : (k : Int) ≤ (c3 : Int) := by omega
  have i4 : ¬ c3 = k := by omega
  have S1 : Hid (SrcAt w1.drew (some ⟨bb, oo + k, none⟩) (n - k) (c3 - k) (cellsN .u8 (T.drop k))) := hI.dropSrc k _ _
  go_wp2_with fail
  go_region_law (first
    | (with_reducible refine step_app_nat rfl (.const (.slice none 0 0)) (.tmp 14) 22 rfl w1.heap.size 5 .u8 1 Try.underlying22 infoByte (by omega) (A := none) (n := 0) (cap := 0) (l := []) (by simp [Act.eval, Act.put]) (Own.nil _ _ _ _) ⟨bb, oo + k, none⟩ (n - k) (c3 - k) (T.drop k) (by simp [Act.eval, Act.put]) S1.out HD.out (by omega) (Nat.le_refl _) ?_; intro A6 c6 w2 own2 grow2; simp only [Nat.zero_add, List.nil_append] at own2 ⊢; have bl2 := below_of_drew (below_grown_nil grow2); have S2 := Lib.hid ((hI.below bl2).takeSrc k k c3))
    | (with_reducible refine step_app_nat rfl (.tmp 15) (.tmp 18) 22 rfl w1.heap.size 5 .u8 1 Try.underlying22 infoByte (by omega) (A := A6) (n := n - k) (cap := c6) (l := T.drop k) (by simp [Act.eval, Act.put]) own2 ⟨bb, oo, none⟩ k c3 (T.take k) (by simp [Act.eval, Act.put]) S2.out HT.out (by omega) bl2.size ?_; intro A7 c7 w3 own3 grow3; have bl3 := below_grown bl2 grow3 bl2.size (fun g hg => (own2.block g hg).1)))
  have hnk : n - k + k = n := by omega
  rw [hnk, ← HRE.out] at own3
  have HRL : Hid ((Bwt.rot T k).length = n) := by show (Bwt.rot T k).length = n; rw [Bwt.rot_length]; exact HL.out
  go_wp2_with fail
  refine (specTurned_any (some ⟨bb, oo, none⟩) c3 n k T w3 (hI.below bl3) HL.out h0 hn hjn).mono ?_
  rintro e w4 ⟨A8, c8, s, rfl, hs, hk, o1, b2⟩
  have HP := Lib.hid (HTP.out s hs hk)
  clear HTP hk
  generalize ((Bwt.msort T 20 (List.range n)).map fun p => T.getD (Bwt.pred n p) 0) = l at o1 HTL HP
  go_wp2_with fail
  refine (implTurned_any A8 c8 n s l w4 o1.ints HTL.out.1 h0 hn hs HTL.out.2).mono ?_
  rintro e w5 ⟨A9, c9, rfl, o2, b3⟩
  rw [HP.out] at o2
  have b23 := b2.trans (b3.mono b2.size)
  have ow := own3.below b23
  go_wp2_with fail
  refine (same_self A9 A7 c9 c7 n (Bwt.rot T k) HRL.out _ o2.ints ow.ints (by omega)).mono ?_
  rintro e w' ⟨rfl, rfl⟩
  go_wp2_with fail
  go_ret
  exact ⟨rfl, b1.trans ((bl3.trans (b23.mono bl3.size)).mono b1.size)⟩
end Go.Proofs.Ytdhehnjidakfcaa

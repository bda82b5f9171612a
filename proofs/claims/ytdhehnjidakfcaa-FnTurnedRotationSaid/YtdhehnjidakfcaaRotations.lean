/- The sorting of rotations by merging: walked. -/
import Derived.Test.YtdhehnjidakfcaaBefore
import Derived.Deep.RegionHeld3
import Derived.Deep.AppendLies
namespace Go.Proofs.Ytdhehnjidakfcaa
open Go.RowKit
set_option maxHeartbeats 400000
set_option maxRecDepth 4000
set_option linter.unusedVariables false
set_option linter.unusedSimpArgs false
def slen : Value → Nat
  | .slice _ n _ => n
  | _ => 0
/-- numbers that a slice shows -/
structure Vw (w : World) (b o : Nat) (l : List Nat) (c : Nat) : Prop where
  cells : ∀ i, i < l.length → w.cell? ⟨b, o + i, none⟩ = some (.int .i64 (l.getD i 0 : Nat))
  le : l.length ≤ c
  cap : c ≤ 9223372036854775807
  lt : b < w.heap.size
theorem Ints.drew {w : World} {k : IntKind} {A : Option Addr} {l : List Nat} (h : Ints w k A l) : Ints w.drew k A l := h
theorem Vw.ints {w : World} {b o : Nat} {l : List Nat} {c : Nat} (h : Vw w b o l c) : Ints w .i64 (some ⟨b, o, none⟩) l := fun i hi => ⟨b, o, rfl, h.lt, h.cells i hi⟩
theorem Vw.below {w w' : World} {b o : Nat} {l : List Nat} {c : Nat} (h : Vw w b o l c) (hb : Below w.heap.size w w') : Vw w' b o l c :=
  ⟨fun i hi => (hb.cell (p := ⟨b, o + i, none⟩) h.lt).trans (h.cells i hi), h.le, h.cap, Nat.lt_of_lt_of_le h.lt hb.size⟩
theorem Vw.grown {w w' : World} {b o : Nat} {l : List Nat} {c : Nat} (h : Vw w b o l c) {A : Option Addr} (hg : w.grownBy w' (blockOf A)) (hne : blockOf A ≠ some b) : Vw w' b o l c :=
  ⟨fun i hi => (World.cell?_of_block (w := w) (hg.block b h.lt (fun e => hne e.symm))).trans (h.cells i hi), h.le, h.cap, Nat.lt_of_lt_of_le h.lt hg.size⟩
theorem Vw.alloc {w : World} {b o : Nat} {l : List Nat} {c : Nat} (h : Vw w b o l c) (ob : Obj) : Vw (w.alloc ob) b o l c :=
  ⟨fun i hi => (World.cell?_alloc_lt w ob _ h.lt).trans (h.cells i hi), h.le, h.cap, by rw [World.size_alloc]; have := h.lt; omega⟩
theorem Vw.drew {w : World} {b o : Nat} {l : List Nat} {c : Nat} (h : Vw w b o l c) : Vw w.drew b o l c := ⟨h.cells, h.le, h.cap, h.lt⟩
theorem Vw.drewN {w : World} {b o : Nat} {l : List Nat} {c : Nat} (h : Vw w b o l c) (d : Nat) : Vw (w.drewN d) b o l c := ⟨h.cells, h.le, h.cap, h.lt⟩
theorem Vw.take {w : World} {b o : Nat} {l : List Nat} {c : Nat} (h : Vw w b o l c) (k : Nat) : Vw w b o (l.take k) c := by
  refine ⟨fun i hi => ?_, by rw [List.length_take]; have := h.le; omega, h.cap, h.lt⟩
  rw [List.length_take] at hi
  rw [h.cells i (by omega)]
  have : (l.take k).getD i 0 = l.getD i 0 := by simp [List.getD_eq_getElem?_getD, show i < k by omega]
  rw [this]
theorem Vw.drop {w : World} {b o : Nat} {l : List Nat} {c : Nat} (h : Vw w b o l c) (k : Nat) : Vw w b (o + k) (l.drop k) (c - k) := by
  refine ⟨fun i hi => ?_, by rw [List.length_drop]; have := h.le; omega, by have := h.cap; omega, h.lt⟩
  rw [List.length_drop] at hi
  rw [Nat.add_assoc, h.cells (k + i) (by omega)]
  have : (l.drop k).getD i 0 = l.getD (k + i) 0 := by simp [List.getD_eq_getElem?_getD]
  rw [this]
theorem Vw.tail {w : World} {b o x : Nat} {l : List Nat} {c : Nat} (h : Vw w b o (x :: l) c) : Vw w b (o + 1) l (c - 1) := by simpa using h.drop 1
theorem Vw.tail1 {w : World} {b o x : Nat} {l : List Nat} {c : Nat} (h : Vw w b o (x :: l) c) (hc : c = 1) : Vw w b o l (c - 1) := by
  have h1 := h.le
  have : l = [] := by
    apply List.eq_nil_of_length_eq_zero
    simp at h1; omega
  subst this
  exact ⟨fun i hi => by simp at hi, by simp, by have := h.cap; omega, h.lt⟩
theorem Vw.head {w : World} {b o x : Nat} {l : List Nat} {c : Nat} (h : Vw w b o (x :: l) c) : w.cell? ⟨b, o, none⟩ = some (.int .i64 (x : Int)) := by
  have := h.cells 0 (by simp)
  simpa using this
theorem below_of_drew {w w' : World} (h : Below w.drew.heap.size w.drew w') : Below w.heap.size w w' := ⟨h.os, h.tape, h.output, h.size, h.block⟩
theorem Own.drewN {w : World} {base : Nat} {e : TypeId} {size : Nat} {A : Option Addr} {n cap : Nat} {xs : List Value} (h : Own w base e size A n cap xs) (d : Nat) : Own (w.drewN d) base e size A n cap xs := h
theorem Ints.drewN {w : World} {k : IntKind} {A : Option Addr} {l : List Nat} (h : Ints w k A l) (d : Nat) : Ints (w.drewN d) k A l := h
theorem below_drewN {B : Nat} {a w : World} (h : Below B a w) (d : Nat) : Below B a (w.drewN d) := ⟨h.os, h.tape, h.output, h.size, h.block⟩
theorem own_vw {w : World} {B : Nat} {e : TypeId} {A : Option Addr} {n cap : Nat} {l : List Nat} (h : Own w B e 1 A n cap (cellsN .i64 l)) (hn : 0 < n) : ∃ g, A = some ⟨g, 0, none⟩ ∧ Vw w g 0 l cap := by
  obtain ⟨g, hA, _, hg, _, _⟩ := h.cell 0 (by omega)
  have hl : l.length = n := by simpa [cellsN] using h.len
  have hc := h.caps
  unfold maxLen at hc
  refine ⟨g, hA, fun i hi => ?_, by omega, by omega, hg⟩
  subst hA
  exact h.ints.at i hi _ rfl
theorem ownBlock_eq (A : Option Addr) (n c : Nat) : (Value.slice A n c).ownBlock = blockOf A := by cases A <;> rfl
/-- the state of a merge: what is laid, what is left of both -/
structure Mrg (B n m : Nat) (M T : List Nat) (w wr : World) (bx ox nx cx : Nat) (lx : List Nat) (by' oy ny cy : Nat) (ly : List Nat) (Ao : Option Addr) (no co : Nat) (o : List Nat) : Prop where
  vx : Vw wr bx ox lx cx
  vy : Vw wr by' oy ly cy
  hlx : lx.length = nx
  hly : ly.length = ny
  own : Own wr B 3 1 Ao no co (cellsN .i64 o)
  eq : M = o ++ lx.merge ly (Bwt.before T)
  mx : ∀ x ∈ lx, x < n
  my : ∀ x ∈ ly, x < n
  sum : no + nx + ny = m
  ax : blockOf Ao ≠ some bx
  ay : blockOf Ao ≠ some by'
  bel : Below B w wr
theorem Mrg.drewN {B n m : Nat} {M T : List Nat} {w wr : World} {bx ox nx cx : Nat} {lx : List Nat} {by' oy ny cy : Nat} {ly : List Nat} {Ao : Option Addr} {no co : Nat} {o : List Nat} (h : Mrg B n m M T w wr bx ox nx cx lx by' oy ny cy ly Ao no co o) (d : Nat) :
    Mrg B n m M T w (wr.drewN d) bx ox nx cx lx by' oy ny cy ly Ao no co o :=
  ⟨h.vx.drewN d, h.vy.drewN d, h.hlx, h.hly, h.own.drewN d, h.eq, h.mx, h.my, h.sum, h.ax, h.ay, below_drewN h.bel d⟩
/-- one of the first goes over -/
theorem Mrg.left {B n m : Nat} {M T : List Nat} {w wr w2 : World} {bx ox nx cx : Nat} {x : Nat} {lx : List Nat} {by' oy ny cy y : Nat} {ly : List Nat} {Ao : Option Addr} {no co : Nat} {o : List Nat} {A2 : Option Addr} {c2 : Nat}
    (h : Mrg B n m M T w wr bx ox nx cx (x :: lx) by' oy ny cy (y :: ly) Ao no co o) (hb : Bwt.before T x y = true) (own2 : Own w2 B 3 1 A2 (no + 1) c2 (cellsN .i64 o ++ [.int .i64 (x : Int)]))
    (ob : Obj) (hg : (wr.drew.alloc ob).grownBy w2 (blockOf Ao)) (hf : ∀ g, blockOf A2 = some g → blockOf Ao = some g ∨ wr.heap.size < g) (ox2 : Nat) (ho : ox2 = if cx = 1 then ox else ox + 1) (bw : Below B w w2) :
    Mrg B n m M T w w2 bx ox2 (nx - 1) (cx - 1) lx by' oy ny cy (y :: ly) A2 (no + 1) c2 (o ++ [x]) := by
  have v1 : Vw wr bx ox2 lx (cx - 1) := by
    subst ho
    split
    · exact h.vx.tail1 (by assumption)
    · exact h.vx.tail
  have hl := h.hlx
  simp only [List.length_cons] at hl
  have e1 : cellsN .i64 o ++ [Value.int .i64 (x : Int)] = cellsN .i64 (o ++ [x]) := by simp [cellsN]
  rw [e1] at own2
  refine ⟨(v1.drew.alloc ob).grown hg h.ax, (h.vy.drew.alloc ob).grown hg h.ay, by omega, h.hly, own2, ?_, fun z hz => h.mx z (by simp [hz]), h.my, by have := h.sum; omega, ?_, ?_, bw⟩
  · rw [h.eq, List.cons_merge_cons, if_pos hb, List.append_assoc]; rfl
  · intro e
    rcases hf _ e with e2 | e2
    · exact h.ax e2
    · have := h.vx.lt; omega
  · intro e
    rcases hf _ e with e2 | e2
    · exact h.ay e2
    · have := h.vy.lt; omega
theorem Mrg.right {B n m : Nat} {M T : List Nat} {w wr w2 : World} {bx ox nx cx : Nat} {x : Nat} {lx : List Nat} {by' oy ny cy y : Nat} {ly : List Nat} {Ao : Option Addr} {no co : Nat} {o : List Nat} {A2 : Option Addr} {c2 : Nat}
    (h : Mrg B n m M T w wr bx ox nx cx (x :: lx) by' oy ny cy (y :: ly) Ao no co o) (hb : Bwt.before T x y = false) (own2 : Own w2 B 3 1 A2 (no + 1) c2 (cellsN .i64 o ++ [.int .i64 (y : Int)]))
    (ob : Obj) (hg : (wr.drew.alloc ob).grownBy w2 (blockOf Ao)) (hf : ∀ g, blockOf A2 = some g → blockOf Ao = some g ∨ wr.heap.size < g) (oy2 : Nat) (ho : oy2 = if cy = 1 then oy else oy + 1) (bw : Below B w w2) :
    Mrg B n m M T w w2 bx ox nx cx (x :: lx) by' oy2 (ny - 1) (cy - 1) ly A2 (no + 1) c2 (o ++ [y]) := by
  have v1 : Vw wr by' oy2 ly (cy - 1) := by
    subst ho
    split
    · exact h.vy.tail1 (by assumption)
    · exact h.vy.tail
  have hl := h.hly
  simp only [List.length_cons] at hl
  have e1 : cellsN .i64 o ++ [Value.int .i64 (y : Int)] = cellsN .i64 (o ++ [y]) := by simp [cellsN]
  rw [e1] at own2
  refine ⟨(h.vx.drew.alloc ob).grown hg h.ax, (v1.drew.alloc ob).grown hg h.ay, h.hlx, by omega, own2, ?_, h.mx, fun z hz => h.my z (by simp [hz]), by have := h.sum; omega, ?_, ?_, bw⟩
  · rw [h.eq, List.cons_merge_cons, if_neg (by rw [hb]; simp), List.append_assoc]; rfl
  · intro e
    rcases hf _ e with e2 | e2
    · exact h.ax e2
    · have := h.vx.lt; omega
  · intro e
    rcases hf _ e with e2 | e2
    · exact h.ay e2
    · have := h.vy.lt; omega
theorem Mrg.last {B n m : Nat} {M T : List Nat} {w wr : World} {bx ox nx cx : Nat} {lx : List Nat} {by' oy ny cy : Nat} {ly : List Nat} {Ao : Option Addr} {no co : Nat} {o : List Nat}
    (h : Mrg B n m M T w wr bx ox nx cx lx by' oy ny cy ly Ao no co o) (h0 : nx = 0 ∨ ny = 0) : M = o ++ lx ++ ly := by
  rw [h.eq, List.append_assoc]
  congr 1
  rcases h0 with e | e
  · have := List.eq_nil_of_length_eq_zero (h.hlx.trans e)
    subst this; simp
  · have := List.eq_nil_of_length_eq_zero (h.hly.trans e)
    subst this; simp
theorem rotations_any (T : List Nat) (A : Option Addr) (cap n : Nat) (hn : T.length = n) (h0 : 0 < n) (hm : n ≤ 900000) : ∀ (f m : Nat) (l : List Nat) (b o c : Nat) (w : World), Ints w .u8 A T → l.length = m → 0 < m → m ≤ 900000 → m ≤ 2 ^ f → (∀ x ∈ l, x < n) → Vw w b o l c →
    Calls Try.prog 24 #[.slice A n cap, .slice (some ⟨b, o, none⟩) m c] w fun e w' => ∃ b' o' c', e = .returned (.slice (some ⟨b', o', none⟩) m c') ∧ Vw w' b' o' (Bwt.msort T f l) c' ∧ Below w.heap.size w w' := by
  intro f
  induction f with
  | zero =>
    intro m l b o c w hA hl hm0 hm9 hf hlt hv
    obtain rfl : m = 1 := by omega
    have HV := Lib.hid hv
    clear hv hlt hA hl
    go_enter Try.func24, Try.ntmps24
    go_wp2_with fail
    go_ret
    exact ⟨_, _, _, rfl, HV.out, Below.refl _ _⟩
  | succ f ih =>
    intro m l b o c w hA hl hm0 hm9 hf hlt hv
    by_cases hm2 : m < 2
    · obtain rfl : m = 1 := by omega
      have HV : Hid (Vw w b o (Bwt.msort T (f + 1) l) c) := by
        show Vw w b o (Bwt.msort T (f + 1) l) c
        rw [Bwt.msort, if_pos (by omega)]; exact hv
      clear hv hlt hA hl
      go_enter Try.func24, Try.ntmps24
      go_wp2_with fail
      go_ret
      exact ⟨_, _, _, rfl, HV.out, Below.refl _ _⟩
    · obtain ⟨h, hh⟩ : ∃ h, m / 2 = h := ⟨_, rfl⟩
      have hh0 : 0 < h := by omega
      have hh1 : h < m := by omega
      have hq : ((m : Int)).tdiv 2 = (h : Int) := by rw [Int.tdiv_eq_ediv_of_nonneg (by omega)]; omega
      have hX := Bwt.msort_perm T f (l.take h)
      have hY := Bwt.msort_perm T f (l.drop h)
      have hms : Bwt.msort T (f + 1) l = (Bwt.msort T f (l.take h)).merge (Bwt.msort T f (l.drop h)) (Bwt.before T) := by
        rw [Bwt.msort, if_neg (by omega), hl, hh]
      have ih1 := fun w hA hv => ih h (l.take h) b o c w hA (by rw [List.length_take]; omega) hh0 (by omega) (by rw [Nat.pow_succ] at hf; omega) (fun x hx => hlt x (List.mem_of_mem_take hx)) hv
      have ih2 := fun w hA hv => ih (m - h) (l.drop h) b (o + h) (c - h) w hA (by rw [List.length_drop]; omega) (by omega) (by omega) (by rw [Nat.pow_succ] at hf; omega) (fun x hx => hlt x (List.mem_of_mem_drop hx)) hv
      have hXm : ∀ x ∈ Bwt.msort T f (l.take h), x < n := fun x hx => hlt x (List.mem_of_mem_take (hX.mem_iff.1 hx))
      have hYm : ∀ x ∈ Bwt.msort T f (l.drop h), x < n := fun x hx => hlt x (List.mem_of_mem_drop (hY.mem_iff.1 hx))
      have hXl : (Bwt.msort T f (l.take h)).length = h := by rw [hX.length_eq, List.length_take]; omega
      have hYl : (Bwt.msort T f (l.drop h)).length = m - h := by rw [hY.length_eq, List.length_drop]; omega
      generalize Bwt.msort T f (l.take h) = X at hms ih1 hXm hXl
      generalize Bwt.msort T f (l.drop h) = Y at hms ih2 hYm hYl
      generalize Bwt.msort T (f + 1) l = M at hms ⊢
      have hcap := hv.cap
      have hle := hv.le
      rw [hl] at hle
      have IH1 := Lib.hid ih1; have IH2 := Lib.hid ih2; have HXM := Lib.hid hXm; have HYM := Lib.hid hYm; have HXL := Lib.hid hXl; have HYL := Lib.hid hYl; have HMS := Lib.hid hms
      have HA := Lib.hid hA; have HV := Lib.hid hv
      clear ih1 ih2 hXm hYm hXl hYl hms hA hv hX hY ih hlt hl
      have i1 : (0 : Int) ≤ (h : Int) := by omega
      have i2 : (h : Int) ≤ (c : Int) := by omega
      have i3 : (h : Int) ≤ (m : Int) := by omega
      have i4 : ¬ c = h := by omega
      have i5 : IntKind.i64.wrap (h : Int) = (h : Int) := by rw [IntKind.wrap_i64]; omega
      go_enter Try.func24, Try.ntmps24
      go_wp2_with fail
      go_region_law (first
        | (go_simp; go_at_call 24; with_reducible refine (IH1.out w.drew HA.out.drew (HV.out.drew.take h)).mono ?_; rintro e w1 ⟨b1, o1, c1, rfl, v1, bel1⟩)
        | (go_simp; go_at_call 24; with_reducible refine (IH2.out w1 (HA.out.drew.below bel1) ((HV.out.drew.below bel1).drop h)).mono ?_; rintro e w2 ⟨b2, o2, c2, rfl, v2, bel2⟩))
      have bel := (below_of_drew bel1).trans (bel2.mono (below_of_drew bel1).size)
      have M0 : Hid (Mrg w.heap.size n m M T w w2 b1 o1 h c1 X b2 o2 (m - h) c2 Y none 0 0 []) :=
        ⟨v1.below bel2, v2, HXL.out, HYL.out, Own.nil _ _ _ _, HMS.out, HXM.out, HYM.out, by omega, by simp [blockOf], by simp [blockOf], bel⟩
      clear bel v1 v2 bel1 bel2 HXM HYM HXL HYL HMS IH1 IH2 HV
      go_wp2_with fail
      go_loopw [5, 6, 7] (fun xv yv ov wr => ∃ bx ox nx cx lx by' oy ny cy ly Ao no co o, xv = .slice (some ⟨bx, ox, none⟩) nx cx ∧ yv = .slice (some ⟨by', oy, none⟩) ny cy ∧ ov = .slice Ao no co ∧ Hid (Mrg w.heap.size n m M T w wr bx ox nx cx lx by' oy ny cy ly Ao no co o)) (fun xv yv _ _ => slen xv + slen yv)
      case atStart => exact ⟨_, _, _, _, _, _, _, _, _, _, _, _, _, _, rfl, rfl, rfl, M0⟩
      case round =>
        clear M0
        obtain ⟨bx, ox, nx, cx, lx, by', oy, ny, cy, ly, Ao, no, co, o, rfl, rfl, rfl, HR⟩ := hrel
        by_cases hnx : 0 < nx
        · by_cases hny : 0 < ny
          · skip
            have hv := HR.out
            obtain ⟨x, lx, rfl⟩ : ∃ x l', lx = x :: l' := by
              cases lx with
              | nil => have := hv.hlx; simp at this; omega
              | cons x l' => exact ⟨x, l', rfl⟩
            obtain ⟨y, ly, rfl⟩ : ∃ x l', ly = x :: l' := by
              cases ly with
              | nil => have := hv.hly; simp at this; omega
              | cons x l' => exact ⟨x, l', rfl⟩
            have hxn := hv.mx x (by simp)
            have hyn := hv.my y (by simp)
            have hcx := hv.vx.head
            have hcy := hv.vy.head
            have IA := Lib.hid (HA.out.below hv.bel)
            clear hv
            have p1 : (0 : Int) < (nx : Int) := by omega
            have p2 : (0 : Int) < (ny : Int) := by omega
            go_wp2_with fail
            go_quiet ((go_at_call 28; refine Calls.quiet_of (before_any A cap n x y T _ (IA.out.drewN _) hn h0 hm hxn hyn)))
            have hv := HR.out.drewN nq
            generalize wr.drewN nq = wq at hv
            clear HR hcx hcy IA
            have own := hv.own
            have hcx := hv.vx.head
            have hcy := hv.vy.head
            have bel := hv.bel
            have hbs := bel.size
            have hno : no + nx + ny = m := hv.sum
            have HV := Lib.hid hv
            clear hv
            have p3 : (1 : Int) ≤ (nx : Int) := by omega
            have p4 : (1 : Int) ≤ (ny : Int) := by omega
            obtain ⟨i0, hi, hz0, hz1, hz2⟩ := info_parts infoInt
            go_wp2_with fail
            · have hb : Bwt.before T x y = true := by assumption
              by_cases hc1 : cx = 1
              all_goals
                go_region_held3 (fun w' => w'.cell? ⟨bx, ox, none⟩ = some (.int .i64 x)) (first | go_keep | (exact e1)) ((refine step_append_lies _ (by rfl) _ _ 23 (by rfl) w.heap.size 3 i0 (.int .i64 0) 1 8 Try.underlying23 hi hz0 hz1 hz2 rfl (by omega) _ no _ (by rfl) (own.drew.alloc _) ⟨wq.heap.size, 0, none⟩ 1 1 _ (by rfl) (by rfl) (cell_one_new _ _ _) (fun u hu => (by obtain rfl := List.mem_singleton.1 hu; rfl)) (by omega) (by unfold maxLen; omega) (by omega) (by simp; omega) (wq.heap.size + 1) (by simp) ?_; intro g cap2 w2 own2 grow2 hat hlt2; rw [ownBlock_eq] at grow2 hat; have bw : Below w.heap.size w w2 := below_grown (bel.drew.alloc hbs _) grow2 (by simp; omega) (fun g hg => (own.block g hg).1); have e1 := ((HV.out.vx.drew.alloc _).grown grow2 HV.out.ax).head))
                have HF : ∀ g', blockOf (some ⟨g, 0, none⟩) = some g' → blockOf Ao = some g' ∨ wq.heap.size < g' := by
                  intro g' hg'
                  have e3 : g = g' := by simpa [blockOf] using hg'
                  subst e3
                  rcases hat with e4 | e4
                  · exact .inl e4
                  · exact .inr (by omega)
                have HM := Lib.hid (HV.out.left hb own2 _ grow2 HF (if cx = 1 then ox else ox + 1) rfl bw)
                clear own2 HF hat grow2
                go_wp2_with fail
                go_roundw
                case rel => exact ⟨_, _, _, _, _, _, _, _, _, _, _, _, _, _, rfl, rfl, rfl, (by have h := HM.out; simp only [hc1, if_true, if_false, ↓reduceIte, Nat.sub_self] at h; exact h)⟩
                case measure => simp [slen]; omega
            · have hb : Bwt.before T x y = false := by assumption
              by_cases hc1 : cy = 1
              all_goals
                go_region_held3 (fun w' => w'.cell? ⟨by', oy, none⟩ = some (.int .i64 y)) (first | go_keep | (exact e1)) ((refine step_append_lies _ (by rfl) _ _ 23 (by rfl) w.heap.size 3 i0 (.int .i64 0) 1 8 Try.underlying23 hi hz0 hz1 hz2 rfl (by omega) _ no _ (by rfl) (own.drew.alloc _) ⟨wq.heap.size, 0, none⟩ 1 1 _ (by rfl) (by rfl) (cell_one_new _ _ _) (fun u hu => (by obtain rfl := List.mem_singleton.1 hu; rfl)) (by omega) (by unfold maxLen; omega) (by omega) (by simp; omega) (wq.heap.size + 1) (by simp) ?_; intro g cap2 w2 own2 grow2 hat hlt2; rw [ownBlock_eq] at grow2 hat; have bw : Below w.heap.size w w2 := below_grown (bel.drew.alloc hbs _) grow2 (by simp; omega) (fun g hg => (own.block g hg).1); have e1 := ((HV.out.vy.drew.alloc _).grown grow2 HV.out.ay).head))
                have HF : ∀ g', blockOf (some ⟨g, 0, none⟩) = some g' → blockOf Ao = some g' ∨ wq.heap.size < g' := by
                  intro g' hg'
                  have e3 : g = g' := by simpa [blockOf] using hg'
                  subst e3
                  rcases hat with e4 | e4
                  · exact .inl e4
                  · exact .inr (by omega)
                have HM := Lib.hid (HV.out.right hb own2 _ grow2 HF (if cy = 1 then oy else oy + 1) rfl bw)
                clear own2 HF hat grow2
                go_wp2_with fail
                go_roundw
                case rel => exact ⟨_, _, _, _, _, _, _, _, _, _, _, _, _, _, rfl, rfl, rfl, (by have h := HM.out; simp only [hc1, if_true, if_false, ↓reduceIte, Nat.sub_self] at h; exact h)⟩
                case measure => simp [slen]; omega
          · obtain rfl : ny = 0 := by omega
            have hv := HR.out
            have HL := Lib.hid (hv.last (.inr rfl))
            have own := hv.own
            have S1 : Hid (SrcAt wr (some ⟨bx, ox, none⟩) nx cx (cellsN .i64 lx)) := by have := srcAt_ints cx hv.vx.ints (fun e => by cases e); rw [hv.hlx] at this; exact this
            have HLX := Lib.hid hv.hlx; have HLY := Lib.hid hv.hly
            have VY := Lib.hid hv.vy; have AY := Lib.hid hv.ay
            have bel := hv.bel
            have hbs := bel.size
            have hsum := hv.sum
            clear hv
            go_wp2_with (first
              | (at_builtin; refine app_nat rfl (.tmp 58) (.tmp 59) 23 rfl w.heap.size 3 .i64 8 Try.underlying23 infoInt (by omega) rfl own rfl (l2 := lx) S1.out HLX.out (by omega) hbs ?_; intro A4 c4 w4 own4 grow4 fresh4; have bel4 := below_grown bel grow4 hbs (fun g hg => (own.block g hg).1); have VY4 := Lib.hid (VY.out.grown grow4 AY.out); have S2 : Hid (SrcAt w4 (some ⟨by', oy, none⟩) 0 cy (cellsN .i64 ly)) := (by have := srcAt_ints cy VY4.out.ints (fun e => by cases e); rw [HLY.out] at this; exact this); have hbs4 := bel4.size)
              | (at_builtin; refine app_nat rfl (.tmp 60) (.tmp 61) 23 rfl w.heap.size 3 .i64 8 Try.underlying23 infoInt (by omega) rfl own4 rfl (l2 := ly) S2.out HLY.out (by omega) hbs4 ?_; intro A5 c5 w5 own5 grow5 fresh5; obtain ⟨g5, rfl, v5⟩ := own_vw own5 (by omega); have bel5 := below_grown bel4 grow5 hbs4 (fun g hg => (own4.block g hg).1)))
            rw [← HL.out] at v5
            go_ret
            exact ⟨_, _, _, rfl, v5, bel5⟩
        · obtain rfl : nx = 0 := by omega
          have hv := HR.out
          have HL := Lib.hid (hv.last (.inl rfl))
          have own := hv.own
          have S1 : Hid (SrcAt wr (some ⟨bx, ox, none⟩) 0 cx (cellsN .i64 lx)) := by have := srcAt_ints cx hv.vx.ints (fun e => by cases e); rw [hv.hlx] at this; exact this
          have HLX := Lib.hid hv.hlx; have HLY := Lib.hid hv.hly
          have VY := Lib.hid hv.vy; have AY := Lib.hid hv.ay
          have bel := hv.bel
          have hbs := bel.size
          have hsum := hv.sum
          clear hv
          go_wp2_with (first
            | (at_builtin; refine app_nat rfl (.tmp 58) (.tmp 59) 23 rfl w.heap.size 3 .i64 8 Try.underlying23 infoInt (by omega) rfl own rfl (l2 := lx) S1.out HLX.out (by omega) hbs ?_; intro A4 c4 w4 own4 grow4 fresh4; have bel4 := below_grown bel grow4 hbs (fun g hg => (own.block g hg).1); have VY4 := Lib.hid (VY.out.grown grow4 AY.out); have S2 : Hid (SrcAt w4 (some ⟨by', oy, none⟩) ny cy (cellsN .i64 ly)) := (by have := srcAt_ints cy VY4.out.ints (fun e => by cases e); rw [HLY.out] at this; exact this); have hbs4 := bel4.size)
            | (at_builtin; refine app_nat rfl (.tmp 60) (.tmp 61) 23 rfl w.heap.size 3 .i64 8 Try.underlying23 infoInt (by omega) rfl own4 rfl (l2 := ly) S2.out HLY.out (by omega) hbs4 ?_; intro A5 c5 w5 own5 grow5 fresh5; obtain ⟨g5, rfl, v5⟩ := own_vw own5 (by omega); have bel5 := below_grown bel4 grow5 hbs4 (fun g hg => (own4.block g hg).1)))
          rw [← HL.out] at v5
          go_ret
          exact ⟨_, _, _, (show Ending.returned (Value.slice (some ⟨g5, 0, none⟩) (no + ny) c5) = Ending.returned (Value.slice (some ⟨g5, 0, none⟩) m c5) by rw [show no + ny = m by omega]), v5, bel5⟩
end Go.Proofs.Ytdhehnjidakfcaa

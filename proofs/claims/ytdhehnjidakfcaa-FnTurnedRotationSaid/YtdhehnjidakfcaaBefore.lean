/- The order of rotations: walked. -/
import Derived.Test.YtdhehnjidakfcaaTurnedWalk
import Derived.BigQuiet
import Derived.Deep.QuietTactic
namespace Go.Proofs.Ytdhehnjidakfcaa
open Go.RowKit
set_option maxHeartbeats 400000
set_option maxRecDepth 4000
set_option linter.unusedVariables false
set_option linter.unusedSimpArgs false
theorem tmod_nat (a b : Nat) : ((a : Int)).tmod (b : Int) = ((a % b : Nat) : Int) := by
  rw [Int.tmod_eq_emod_of_nonneg (by omega)]; omega
theorem rot_getElem (T : List Nat) (i t : Nat) (h : t < (Bwt.rot T i).length) : (Bwt.rot T i)[t] = T.getD ((i + t) % T.length) 0 := by
  simp [Bwt.rot]
theorem before_eq (T : List Nat) (i k : Nat) (HE : Hid (∀ t, t < T.length → T.getD ((i + t) % T.length) 0 = T.getD ((k + t) % T.length) 0)) : Bwt.before T i k = decide (i < k) := by
  have h : Bwt.rot T i = Bwt.rot T k := by
    apply List.ext_getElem
    · simp [Bwt.rot]
    · intro t h1 h2
      rw [rot_getElem, rot_getElem]
      exact HE.out t (by simpa [Bwt.rot] using h1)
  unfold Bwt.before
  rw [h]
  have : ¬ Bwt.rot T k < Bwt.rot T k := List.lt_irrefl _
  simp [this]
theorem before_ne (T : List Nat) (i k j x y : Nat) (hj : j < T.length) (HE : Hid (∀ t, t < j → T.getD ((i + t) % T.length) 0 = T.getD ((k + t) % T.length) 0))
    (HX : Hid (T.getD ((i + j) % T.length) 0 = x)) (HY : Hid (T.getD ((k + j) % T.length) 0 = y)) (hxy : x ≠ y) : Bwt.before T i k = decide (x < y) := by
  have h1 : ∀ s, Bwt.rot T s = (List.range j).map (fun t => T.getD ((s + t) % T.length) 0) ++ (T.getD ((s + j) % T.length) 0 :: ((List.range T.length).drop (j + 1)).map fun t => T.getD ((s + t) % T.length) 0) := by
    intro s
    have e : List.range T.length = List.range j ++ j :: (List.range T.length).drop (j + 1) := by
      have e1 : (List.range T.length).take j = List.range j := by rw [List.take_range, Nat.min_eq_left (by omega)]
      have e2 : (List.range T.length).drop j = j :: (List.range T.length).drop (j + 1) := by
        rw [List.drop_eq_getElem_cons (by simpa using hj)]; simp
      rw [← e1, ← e2, List.take_append_drop]
    unfold Bwt.rot
    exact (congrArg (List.map fun t => T.getD ((s + t) % T.length) 0) e).trans (by rw [List.map_append, List.map_cons])
  have h2 : (List.range j).map (fun t => T.getD ((i + t) % T.length) 0) = (List.range j).map (fun t => T.getD ((k + t) % T.length) 0) := by
    apply List.map_congr_left
    intro t ht
    exact HE.out t (List.mem_range.1 ht)
  have h3 : ∀ (c a b : List Nat), (c ++ x :: a < c ++ y :: b) = (x < y) := by
    intro c a b
    apply propext
    induction c with
    | nil =>
      simp only [List.nil_append, List.cons_lt_cons_iff]
      constructor
      · rintro (h | h)
        · exact h
        · exact absurd h.1 hxy
      · intro h; exact .inl h
    | cons z c ih =>
      simp only [List.cons_append, List.cons_lt_cons_iff]
      constructor
      · rintro (h | h)
        · exact absurd h (Nat.lt_irrefl _)
        · exact ih.1 h.2
      · intro h; exact .inr ⟨trivial, ih.2 h⟩
  have h4 : ∀ (c a b : List Nat), c ++ x :: a ≠ c ++ y :: b := by
    intro c a b e
    have := List.append_cancel_left e
    injection this with h _
    exact hxy h
  unfold Bwt.before
  rw [h1 i, h1 k, h2, HX.out, HY.out]
  simp only [h3]
  have h5 := fun c a b => beq_eq_false_iff_ne.2 (h4 c a b)
  rw [h5]
  simp
theorem before_any (A : Option Addr) (cap n i k : Nat) (T : List Nat) (w : World) (hA : Ints w .u8 A T) (hn : T.length = n) (h0 : 0 < n) (hm : n ≤ 900000) (hi : i < n) (hk : k < n) :
    Calls Try.prog 28 #[.slice A n cap, .int .i64 i, .int .i64 k] w fun e w' => e = .returned (.bool (Bwt.before T i k)) ∧ ∃ d, w' = w.drewN d := by
  subst hn
  go_enter Try.func28, Try.ntmps28
  go_wp2_with fail
  go_loopw [7, 8, 9, 12] (fun u7 u8 u9 jv wr => ∃ (j : Nat), j ≤ T.length ∧ jv = .int .i64 j ∧ Hid (∀ t, t < j → T.getD ((i + t) % T.length) 0 = T.getD ((k + t) % T.length) 0) ∧ Hid (∃ d, wr = w.drewN d)) (fun _ _ _ jv _ => T.length - (intOf jv).toNat)
  case atStart => exact ⟨0, by omega, rfl, fun t ht => absurd ht (by omega), ⟨0, rfl⟩⟩
  case round =>
    obtain ⟨j, hj, rfl, HE, HD⟩ := hrel
    by_cases hlt : j < T.length
    · have hx : (i + j) % T.length < T.length := Nat.mod_lt _ h0
      have hy : (k + j) % T.length < T.length := Nat.mod_lt _ h0
      have htx : ((i : Int) + (j : Int)).tmod (T.length : Int) = (((i + j) % T.length : Nat) : Int) := by rw [← Int.natCast_add]; exact tmod_nat _ _
      have hty : ((k : Int) + (j : Int)).tmod (T.length : Int) = (((k + j) % T.length : Nat) : Int) := by rw [← Int.natCast_add]; exact tmod_nat _ _
      obtain ⟨p, hp⟩ : ∃ p, (i + j) % T.length = p := ⟨_, rfl⟩
      obtain ⟨q, hq⟩ : ∃ q, (k + j) % T.length = q := ⟨_, rfl⟩
      rw [hp] at hx htx
      rw [hq] at hy hty
      have hXV : T.getD ((i + j) % T.length) 0 = T.getD p 0 := by rw [hp]
      have hYV : T.getD ((k + j) % T.length) 0 = T.getD q 0 := by rw [hq]
      clear hp hq
      obtain ⟨b1, o1, rfl, _, hc1⟩ := hA p hx
      obtain ⟨b2, o2, e2, _, hc2⟩ := hA q hy
      obtain ⟨rfl, rfl⟩ : b1 = b2 ∧ o1 = o2 := by injection e2 with e2; injection e2 with e3 e4; exact ⟨e3, e4⟩
      have hd1 : wr.cell? ⟨b1, o1 + p, none⟩ = some (.int .u8 (T.getD p 0 : Nat)) := by obtain ⟨d, rfl⟩ := HD.out; exact hc1
      have hd2 : wr.cell? ⟨b1, o1 + q, none⟩ = some (.int .u8 (T.getD q 0 : Nat)) := by obtain ⟨d, rfl⟩ := HD.out; exact hc2
      generalize T.getD p 0 = x at hd1 hXV hc1
      generalize T.getD q 0 = y at hd2 hYV hc2
      have HX : Hid (T.getD ((i + j) % T.length) 0 = x) := hXV
      have HY : Hid (T.getD ((k + j) % T.length) 0 = y) := hYV
      clear hXV hYV
      clear hc1 hc2 e2
      have w1 : IntKind.i64.wrap ((i : Int) + (j : Int)) = (i : Int) + (j : Int) := by rw [IntKind.wrap_i64]; omega
      have w2 : IntKind.i64.wrap ((k : Int) + (j : Int)) = (k : Int) + (j : Int) := by rw [IntKind.wrap_i64]; omega
      have w3 : IntKind.i64.wrap (p : Int) = (p : Int) := by rw [IntKind.wrap_i64]; omega
      have w4 : IntKind.i64.wrap (q : Int) = (q : Int) := by rw [IntKind.wrap_i64]; omega
      have p1 : (0 : Int) ≤ (p : Int) := by omega
      have p2 : (p : Int) < (T.length : Int) := by omega
      have q1 : (0 : Int) ≤ (q : Int) := by omega
      have q2 : (q : Int) < (T.length : Int) := by omega
      have n1 : ((T.length : Int) == 0) = false := by rw [beq_eq_false_iff_ne]; omega
      have n2 : ¬ (T.length : Int) = 0 := by omega
      have n3 : ¬ T.length = 0 := by omega
      have n4 : ¬ T = [] := by intro e; rw [e] at n3; exact n3 rfl
      go_wp2_with fail
      go_quiet (fail)
      have HDN : Hid (∃ d, wr.drewN nq = w.drewN d) := by obtain ⟨d, rfl⟩ := HD.out; exact ⟨d + nq, by simp [World.drewN, Nat.add_assoc]⟩
      by_cases hxy : x = y
      · have hne : ((x : Int) != (y : Int)) = false := by simp [hxy]
        go_wp2_with fail
        go_roundw
        case rel =>
          refine ⟨j + 1, by omega, by go_num, fun t ht => ?_, HDN⟩
          rcases Nat.lt_or_ge t j with h | h
          · exact HE.out t h
          · obtain rfl : t = j := by omega
            rw [HX.out, HY.out, hxy]
        case measure => simp [intOf]; omega
      · have hne : ((x : Int) != (y : Int)) = true := by simp only [bne_iff_ne, ne_eq]; omega
        have HBF := Lib.hid (before_ne T i k j x y hlt HE HX HY hxy)
        go_wp2_with fail
        go_ret
        exact ⟨ret_bool (by rw [HBF.out]), HDN.out⟩
    · obtain rfl : j = T.length := by omega
      have HBF := Lib.hid (before_eq T i k HE)
      go_wp2_with fail
      go_ret
      exact ⟨ret_bool (by rw [HBF.out]), HD.out⟩
end Go.Proofs.Ytdhehnjidakfcaa

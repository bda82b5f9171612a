/- FnFrontAgain of the given Go text returns true for all arguments of bulk at most 1048576: the row's step, from the walk. -/
import Derived.Test.YtdhehnjidakfcaaRows
import Derived.Test.YtdhehnjidakfcaaBulk
import Derived.Test.YtdhehnjidakfcaaFrontAgain
import Derived.WalkKit
import Derived.ProofKit
import Derived.OpenShut
import Derived.ShutString
import Derived.ChangeOld
import Derived.Below
import Derived.Deep.DeepHandedRow
import Derived.Deep.DeepWitnessRowRef
import Derived.LaidMore
namespace Go.Proofs.Ytdhehnjidakfcaa.fnFrontAgainUpto
open Go.ChangeShapes Go.WideShapes Go.ChangeAt Go.RowKit
open Go.ChangeMaps (open_string shut_string)
set_option linter.unusedVariables false
theorem own : ownKnob Try.prog.godebug = none := by kernel_rfl
theorem laidOut : laidOutB Try.prog = true := by kernel_rfl
theorem bytes5 : Try.prog.bytesOf 5 = 1 := by kernel_rfl
theorem bytes3 : Try.prog.bytesOf 3 = 8 := by kernel_rfl
theorem laid_met (os : Os) : laidMetH Try.prog Rows.fnFrontAgainUptoRow.laid ((World.settled Try.prog os).forCall (fun _ _ => 0) ⟨#[], #[.slice none 0 0, .slice none 0 0, .slice none 0 0], []⟩).memory :=
  ⟨[], rfl, List.nodup_nil, fun _ _ h => by cases h⟩
theorem reads (os : Os) {H : Type} (enc : TypeId × Value → H) : ∃ places, DataW.whole enc Try.prog ((World.settled Try.prog os).forCall (fun _ _ => 0) ⟨#[], #[.slice none 0 0, .slice none 0 0, .slice none 0 0], []⟩).memory Try.f4.params.toList Rows.fnFrontAgainSpec.vars false (#[.slice none 0 0, .slice none 0 0, .slice none 0 0] : Array Value).toList 8 = some ([.nil, .nil, .nil], [], places) :=
  ⟨[], by kernel_rfl⟩
set_option maxRecDepth 100000 in
theorem lifted (os : Os) (started : os.Started) (H : Type) (enc : TypeId × Value → H) (F : Stop.Interp) :
    ReturnsInHanded {} Try.checked os 4 .any ((Rows.OpenSpec.upto Rows.fnFrontAgainSpec).preRow enc Try.prog Try.f4 Rows.fnFrontAgainUptoRow.domain false Rows.fnFrontAgainUptoRow.laid) (((Rows.OpenSpec.upto Rows.fnFrontAgainSpec).at F).post enc Try.prog Try.f4 false true false false) := by
  obtain ⟨places, hx⟩ := reads os enc
  refine returnsInHanded_of_row (C := Try.checked) (s := (Rows.OpenSpec.upto Rows.fnFrontAgainSpec)) own started (by kernel_rfl) Try.func4
    (witness_row_atRef (enc := enc) (C := Try.checked) false (World.settled Try.prog os) #[.slice none 0 0, .slice none 0 0, .slice none 0 0] rfl (by kernel_rfl) (by kernel_rfl) (by kernel_rfl)
      (OpenSpec.preRow_of_cond 8 hx (by kernel_rfl) (fun k hk => by cases hk; kernel_rfl) (by kernel_rfl) (laid_met os))) ?_
  intro W base args ds gs before hval0 hW _ hk hsz hL hsh _
  have hval : ∀ (j : Nat) t v, Try.f4.params[j]? = some t → args[j]? = some v → Value.okWide Try.prog W .any base t v := hval0
  have hW' := hW
  obtain ⟨p, q, hA0, hV, rfl, hfz, hnd⟩ := hW
  have hA : DataW.TrodAll enc Try.prog W 0 (fun _ => true) true Try.f4.params.toList args.toList ds p := hA0
  rw [Try.params4] at hA hval
  obtain ⟨v0, vs0, d0, ds0, p0, q0, hargs, rfl, rfl, h0, r0⟩ := trodAll_cons hA
  obtain ⟨v1, vs1, d1, ds1, p1, q1, rfl, rfl, rfl, h1, r1⟩ := trodAll_cons r0
  obtain ⟨v2, vs2, d2, ds2, p2, q2, rfl, rfl, rfl, h2, r2⟩ := trodAll_cons r1
  obtain ⟨rfl, rfl, rfl⟩ := trodAll_nil r2
  obtain rfl : args = #[v0, v1, v2] := by cases args; simp_all
  obtain ⟨rfl, rfl⟩ := trodVars_none hV
  have hsz' : (DataW.weightsEach Try.prog [22, 23, 23] [d0, d1, d2]).all (· ≤ reachBytes) = true := hsz
  have hbulk : Rows.uptoSmall H [d0, d1, d2] = true := hk _ rfl
  have hbulk' := bulk_bound hbulk
  obtain ⟨a0, len0, cap0, rfl⟩ := okWide_slice Try.underlying22 (hval 0 22 v0 rfl rfl)
  have k0 := h0
  have lt0 : ∀ x ∈ p0, x.block < W.heap.size := by obtain ⟨m, hm⟩ := k0; exact DataW.trod_lt m _ _ _ hm
  obtain ⟨l0, w0, rfl, hds0⟩ : ∃ l, Arg .u8 W a0 l cap0 ∧ l.length = len0 ∧ (d0 = .nil ∧ l = [] ∨ ∃ es sp : List (DataW H), d0 = .slice es sp ∧ es.length = l.length) := by
    obtain ⟨fuel, hf⟩ := h0
    rcases open_ints Try.underlying22 Try.underlying5 (by kernel_rfl) hf with ⟨hcs, hx⟩ | ⟨x, l, c, zs, hcs, _, hl, hm, hz, hx, hcell, hwz⟩
    · simp [Value.cells] at hcs
      obtain ⟨rfl, rfl, rfl⟩ := hcs
      simp only [Prod.mk.injEq] at hx
      exact ⟨[], Arg.none, rfl, .inl ⟨hx.1, rfl⟩⟩
    · simp [Value.cells] at hcs
      obtain ⟨rfl, rfl, rfl⟩ := hcs
      simp only [Prod.mk.injEq] at hx
      have hz' := hz
      simp at hz'
      exact ⟨zs.take _, Arg.some hl hm hz' hcell hwz, by rw [List.length_take]; omega, .inr ⟨_, _, hx.1, by simp [lits]⟩⟩
  have s0 : l0.length * 1 ≤ 140737488351232 := by
    rcases hds0 with ⟨rfl, rfl⟩ | ⟨es, sp, rfl, he⟩
    · simp
    · have := sized_slice hsz' (j := 0) rfl rfl Try.underlying22
      rw [bytes5] at this
      unfold reachBytes at this
      omega
  have u0 : l0.length + 1 ≤ Rows.uptoBulk d0 := by
    rcases hds0 with ⟨rfl, rfl⟩ | ⟨es, sp, rfl, he⟩
    · simp [Rows.uptoBulk]
    · have := bulk_slice es sp; omega
  obtain ⟨a1, len1, cap1, rfl⟩ := okWide_slice Try.underlying23 (hval 1 23 v1 rfl rfl)
  have k1 := h1
  have lt1 : ∀ x ∈ p1, x.block < W.heap.size := by obtain ⟨m, hm⟩ := k1; exact DataW.trod_lt m _ _ _ hm
  obtain ⟨l1, w1, rfl, hds1⟩ : ∃ l, Arg .i64 W a1 l cap1 ∧ l.length = len1 ∧ (d1 = .nil ∧ l = [] ∨ ∃ es sp : List (DataW H), d1 = .slice es sp ∧ es.length = l.length) := by
    obtain ⟨fuel, hf⟩ := h1
    rcases open_ints Try.underlying23 Try.underlying3 (by kernel_rfl) hf with ⟨hcs, hx⟩ | ⟨x, l, c, zs, hcs, _, hl, hm, hz, hx, hcell, hwz⟩
    · simp [Value.cells] at hcs
      obtain ⟨rfl, rfl, rfl⟩ := hcs
      simp only [Prod.mk.injEq] at hx
      exact ⟨[], Arg.none, rfl, .inl ⟨hx.1, rfl⟩⟩
    · simp [Value.cells] at hcs
      obtain ⟨rfl, rfl, rfl⟩ := hcs
      simp only [Prod.mk.injEq] at hx
      have hz' := hz
      simp at hz'
      exact ⟨zs.take _, Arg.some hl hm hz' hcell hwz, by rw [List.length_take]; omega, .inr ⟨_, _, hx.1, by simp [lits]⟩⟩
  have s1 : l1.length * 8 ≤ 140737488351232 := by
    rcases hds1 with ⟨rfl, rfl⟩ | ⟨es, sp, rfl, he⟩
    · simp
    · have := sized_slice hsz' (j := 1) rfl rfl Try.underlying23
      rw [bytes3] at this
      unfold reachBytes at this
      omega
  have u1 : l1.length + 1 ≤ Rows.uptoBulk d1 := by
    rcases hds1 with ⟨rfl, rfl⟩ | ⟨es, sp, rfl, he⟩
    · simp [Rows.uptoBulk]
    · have := bulk_slice es sp; omega
  obtain ⟨a2, len2, cap2, rfl⟩ := okWide_slice Try.underlying23 (hval 2 23 v2 rfl rfl)
  have k2 := h2
  have lt2 : ∀ x ∈ p2, x.block < W.heap.size := by obtain ⟨m, hm⟩ := k2; exact DataW.trod_lt m _ _ _ hm
  obtain ⟨l2, w2, rfl, hds2⟩ : ∃ l, Arg .i64 W a2 l cap2 ∧ l.length = len2 ∧ (d2 = .nil ∧ l = [] ∨ ∃ es sp : List (DataW H), d2 = .slice es sp ∧ es.length = l.length) := by
    obtain ⟨fuel, hf⟩ := h2
    rcases open_ints Try.underlying23 Try.underlying3 (by kernel_rfl) hf with ⟨hcs, hx⟩ | ⟨x, l, c, zs, hcs, _, hl, hm, hz, hx, hcell, hwz⟩
    · simp [Value.cells] at hcs
      obtain ⟨rfl, rfl, rfl⟩ := hcs
      simp only [Prod.mk.injEq] at hx
      exact ⟨[], Arg.none, rfl, .inl ⟨hx.1, rfl⟩⟩
    · simp [Value.cells] at hcs
      obtain ⟨rfl, rfl, rfl⟩ := hcs
      simp only [Prod.mk.injEq] at hx
      have hz' := hz
      simp at hz'
      exact ⟨zs.take _, Arg.some hl hm hz' hcell hwz, by rw [List.length_take]; omega, .inr ⟨_, _, hx.1, by simp [lits]⟩⟩
  have s2 : l2.length * 8 ≤ 140737488351232 := by
    rcases hds2 with ⟨rfl, rfl⟩ | ⟨es, sp, rfl, he⟩
    · simp
    · have := sized_slice hsz' (j := 2) rfl rfl Try.underlying23
      rw [bytes3] at this
      unfold reachBytes at this
      omega
  have u2 : l2.length + 1 ≤ Rows.uptoBulk d2 := by
    rcases hds2 with ⟨rfl, rfl⟩ | ⟨es, sp, rfl, he⟩
    · simp [Rows.uptoBulk]
    · have := bulk_slice es sp; omega
  clear hA0 hval0
  refine (fnFrontAgain_walk a0 cap0 l0 a1 cap1 l1 a2 cap2 l2 W hsh w0 s0 w1 s1 w2 s2 (by simp only [Rows.uptoBulkAll] at hbulk'; omega)).mono fun e W' ⟨he, bel⟩ => ?_
  subst he
  exact ⟨_, rfl, _, _, _, [], _, [], hW', trodAll_mk1 (shut_bool Try.underlying4 _), (trodAll_cons_mk (Below.trod laidOut (by kernel_rfl) (of_decide_eq_true (by kernel_rfl)) k0 bel lt0) (trodAll_cons_mk (Below.trod laidOut (by kernel_rfl) (of_decide_eq_true (by kernel_rfl)) k1 bel lt1) (trodAll_cons_mk (Below.trod laidOut (by kernel_rfl) (of_decide_eq_true (by kernel_rfl)) k2 bel lt2) trodAll_mk0))), rfl, bel.frame _, fun h => by cases h⟩
theorem said : Rows.FnFrontAgainUptoSaid :=
  OpenClaim.holds_of_cond 4 Try.f4 rfl rfl rfl rfl rfl rfl rfl ⟨rfl, rfl, rfl, rfl, rfl⟩ rfl rfl rfl rfl rfl (by kernel_rfl) Try.func4 (by kernel_rfl)
    (of_decide_eq_true (by kernel_rfl)) (by unfold Func.isWrapper; first | (rw [if_pos (by decide +kernel)]; kernel_rfl) | (rw [if_neg (by decide +kernel)]; exact ⟨rfl, rfl⟩))
    (fun os started H enc _ F => by rw [OpenClaim.pre_eq_preRow]; exact lifted os started H enc F)
end Go.Proofs.Ytdhehnjidakfcaa.fnFrontAgainUpto

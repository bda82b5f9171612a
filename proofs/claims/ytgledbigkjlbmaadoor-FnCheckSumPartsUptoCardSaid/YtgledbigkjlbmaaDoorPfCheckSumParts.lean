/- FnCheckSumParts of the given Go text returns true for all arguments of bulk at most 1048576: the row's step, from the walk. -/
import Derived.Test.YtgledbigkjlbmaaDoorRows
import Derived.Test.YtgledbigkjlbmaaDoorBulk
import Derived.Test.YtgledbigkjlbmaaDoorCards
import Derived.Test.YtgledbigkjlbmaaDoorTie
import Derived.Test.YtgledbigkjlbmaaDoorSumMake
import Derived.WalkKit
import Derived.ProofKit
import Derived.OpenShut
import Derived.ShutString
import Derived.ChangeOld
import Derived.Below
import Derived.Deep.DeepHandedRow
import Derived.Deep.DeepWitnessRowRef
import Derived.LaidMore
namespace Go.Proofs.YtgledbigkjlbmaaDoor.fnCheckSumPartsUpto
open Go.ChangeShapes Go.WideShapes Go.ChangeAt Go.RowKit
open Go.ChangeMaps (open_string shut_string)
set_option linter.unusedVariables false
theorem own : ownKnob Tryd.prog.godebug = none := by kernel_rfl
theorem laidOut : laidOutB Tryd.prog = true := by kernel_rfl
theorem bytes5 : Tryd.prog.bytesOf 5 = 1 := by kernel_rfl
theorem laid_met (os : Os) : laidMetH Tryd.prog Rows.fnCheckSumPartsUptoRow.laid ((World.doorLaid Tryd.prog 400 os).forCall (fun _ _ => 0) ⟨#[], #[.slice none 0 0, .slice none 0 0], []⟩).memory :=
  laidMet_of_run' 8 (by kernel_rfl) (by kernel_rfl)
theorem reads (os : Os) {H : Type} (enc : TypeId × Value → H) : ∃ places, DataW.whole enc Tryd.prog ((World.doorLaid Tryd.prog 400 os).forCall (fun _ _ => 0) ⟨#[], #[.slice none 0 0, .slice none 0 0], []⟩).memory Tryd.f6.params.toList Rows.fnCheckSumPartsSpec.vars false (#[.slice none 0 0, .slice none 0 0] : Array Value).toList 8 = some ([.nil, .nil], [], places) :=
  ⟨[], by kernel_rfl⟩
set_option maxRecDepth 100000 in
theorem lifted (os : Os) (started : os.Started) (H : Type) (enc : TypeId × Value → H) (F : Stop.Interp) :
    ReturnsInHanded {} Tryd.checked os 6 .any ((Rows.OpenSpec.upto Rows.fnCheckSumPartsSpec).preRow enc Tryd.prog Tryd.f6 Rows.fnCheckSumPartsUptoRow.domain false Rows.fnCheckSumPartsUptoRow.laid) (((Rows.OpenSpec.upto Rows.fnCheckSumPartsSpec).at F).post enc Tryd.prog Tryd.f6 false true false false) := by
  obtain ⟨places, hx⟩ := reads os enc
  refine returnsInHanded_of_row (C := Tryd.checked) (s := (Rows.OpenSpec.upto Rows.fnCheckSumPartsSpec)) own started (by kernel_rfl) Tryd.func6
    (witness_row_atRef (enc := enc) (C := Tryd.checked) false (World.doorLaid Tryd.prog 400 os) #[.slice none 0 0, .slice none 0 0] rfl (by kernel_rfl) (by kernel_rfl) (by kernel_rfl)
      (OpenSpec.preRow_of_cond 8 hx (by kernel_rfl) (fun k hk => by cases hk; kernel_rfl) (by kernel_rfl) (laid_met os))) ?_
  intro W base args ds gs before hval0 hW _ hk hsz hL hsh _
  have hval : ∀ (j : Nat) t v, Tryd.f6.params[j]? = some t → args[j]? = some v → Value.okWide Tryd.prog W .any base t v := hval0
  have hW' := hW
  obtain ⟨p, q, hA0, hV, rfl, hfz, hnd⟩ := hW
  have hA : DataW.TrodAll enc Tryd.prog W 0 (fun _ => true) true Tryd.f6.params.toList args.toList ds p := hA0
  rw [Tryd.params6] at hA hval
  obtain ⟨v0, vs0, d0, ds0, p0, q0, hargs, rfl, rfl, h0, r0⟩ := trodAll_cons hA
  obtain ⟨v1, vs1, d1, ds1, p1, q1, rfl, rfl, rfl, h1, r1⟩ := trodAll_cons r0
  obtain ⟨rfl, rfl, rfl⟩ := trodAll_nil r1
  obtain rfl : args = #[v0, v1] := by cases args; simp_all
  obtain ⟨rfl, rfl⟩ := trodVars_none hV
  have hsz' : (DataW.weightsEach Tryd.prog [22, 22] [d0, d1]).all (· ≤ reachBytes) = true := hsz
  have hbulk : Rows.uptoSmall H [d0, d1] = true := hk _ rfl
  have hbulk' := bulk_bound hbulk
  obtain ⟨a0, len0, cap0, rfl⟩ := okWide_slice Tryd.underlying22 (hval 0 22 v0 rfl rfl)
  have k0 := h0
  have lt0 : ∀ x ∈ p0, x.block < W.heap.size := by obtain ⟨m, hm⟩ := k0; exact DataW.trod_lt m _ _ _ hm
  obtain ⟨l0, w0, rfl, hds0⟩ : ∃ l, Arg .u8 W a0 l cap0 ∧ l.length = len0 ∧ (d0 = .nil ∧ l = [] ∨ ∃ es sp : List (DataW H), d0 = .slice es sp ∧ es.length = l.length) := by
    obtain ⟨fuel, hf⟩ := h0
    rcases open_ints Tryd.underlying22 Tryd.underlying5 (by kernel_rfl) hf with ⟨hcs, hx⟩ | ⟨x, l, c, zs, hcs, _, hl, hm, hz, hx, hcell, hwz⟩
    · simp [Value.cells] at hcs
      obtain ⟨rfl, rfl, rfl⟩ := hcs
      simp only [Prod.mk.injEq] at hx
      exact ⟨[], Arg.none, rfl, .inl ⟨hx.1, rfl⟩⟩
    · simp [Value.cells] at hcs
      obtain ⟨rfl, rfl, rfl⟩ := hcs
      simp only [Prod.mk.injEq] at hx
      have hz' := hz
      simp at hz'
      exact ⟨zs.take _, Arg.some hl hm hz' hcell hwz, by rw [List.length_take]; omega, .inr ⟨_, _, hx.1, by simp [lits]⟩⟩
  have s0 : l0.length * 1 ≤ 140737488351232 := by
    rcases hds0 with ⟨rfl, rfl⟩ | ⟨es, sp, rfl, he⟩
    · simp
    · have := sized_slice hsz' (j := 0) rfl rfl Tryd.underlying22
      rw [bytes5] at this
      unfold reachBytes at this
      omega
  have u0 : l0.length + 1 ≤ Rows.uptoBulk d0 := by
    rcases hds0 with ⟨rfl, rfl⟩ | ⟨es, sp, rfl, he⟩
    · simp [Rows.uptoBulk]
    · have := bulk_slice es sp; omega
  obtain ⟨a1, len1, cap1, rfl⟩ := okWide_slice Tryd.underlying22 (hval 1 22 v1 rfl rfl)
  have k1 := h1
  have lt1 : ∀ x ∈ p1, x.block < W.heap.size := by obtain ⟨m, hm⟩ := k1; exact DataW.trod_lt m _ _ _ hm
  obtain ⟨l1, w1, rfl, hds1⟩ : ∃ l, Arg .u8 W a1 l cap1 ∧ l.length = len1 ∧ (d1 = .nil ∧ l = [] ∨ ∃ es sp : List (DataW H), d1 = .slice es sp ∧ es.length = l.length) := by
    obtain ⟨fuel, hf⟩ := h1
    rcases open_ints Tryd.underlying22 Tryd.underlying5 (by kernel_rfl) hf with ⟨hcs, hx⟩ | ⟨x, l, c, zs, hcs, _, hl, hm, hz, hx, hcell, hwz⟩
    · simp [Value.cells] at hcs
      obtain ⟨rfl, rfl, rfl⟩ := hcs
      simp only [Prod.mk.injEq] at hx
      exact ⟨[], Arg.none, rfl, .inl ⟨hx.1, rfl⟩⟩
    · simp [Value.cells] at hcs
      obtain ⟨rfl, rfl, rfl⟩ := hcs
      simp only [Prod.mk.injEq] at hx
      have hz' := hz
      simp at hz'
      exact ⟨zs.take _, Arg.some hl hm hz' hcell hwz, by rw [List.length_take]; omega, .inr ⟨_, _, hx.1, by simp [lits]⟩⟩
  have s1 : l1.length * 1 ≤ 140737488351232 := by
    rcases hds1 with ⟨rfl, rfl⟩ | ⟨es, sp, rfl, he⟩
    · simp
    · have := sized_slice hsz' (j := 1) rfl rfl Tryd.underlying22
      rw [bytes5] at this
      unfold reachBytes at this
      omega
  have u1 : l1.length + 1 ≤ Rows.uptoBulk d1 := by
    rcases hds1 with ⟨rfl, rfl⟩ | ⟨es, sp, rfl, he⟩
    · simp [Rows.uptoBulk]
    · have := bulk_slice es sp; omega
  clear hA0 hval0
  refine (fnCheckSumParts_walk a0 cap0 l0 a1 cap1 l1 W (entry hsh hL) w0 s0 w1 s1 (by simp only [Rows.uptoBulkAll] at hbulk'; omega)).mono fun e W' ⟨he, bel⟩ => ?_
  subst he
  exact ⟨_, rfl, _, _, _, [], _, [], hW', trodAll_mk1 (shut_bool Tryd.underlying4 _), (trodAll_cons_mk (Below.trod laidOut (by kernel_rfl) (of_decide_eq_true (by kernel_rfl)) k0 bel lt0) (trodAll_cons_mk (Below.trod laidOut (by kernel_rfl) (of_decide_eq_true (by kernel_rfl)) k1 bel lt1) trodAll_mk0)), rfl, bel.frame _, fun h => by cases h⟩
theorem said : Rows.FnCheckSumPartsUptoSaid :=
  OpenClaim.holds_of_cond 6 Tryd.f6 rfl rfl rfl rfl rfl rfl rfl ⟨rfl, rfl, rfl, rfl, rfl⟩ rfl rfl rfl rfl rfl (by kernel_rfl) Tryd.func6 (by kernel_rfl)
    (of_decide_eq_true (by kernel_rfl)) (by unfold Func.isWrapper; first | (rw [if_pos (by decide +kernel)]; kernel_rfl) | (rw [if_neg (by decide +kernel)]; exact ⟨rfl, rfl⟩))
    (fun os started H enc _ F => by rw [OpenClaim.pre_eq_preRow]; exact lifted os started H enc F)
theorem plain (f : FuncId) (fn : Func) (hf : Tryd.pinned.checked.prog.funcNamed "barrowwheel/laws.FnCheckSumParts" = some f) (hfn : Tryd.pinned.checked.prog.funcs[f]? = some fn) :
    false = Tryd.pinned.checked.prog.looks [] ∧ ∀ (j : Nat) t, fn.params[j]? = some t → Tryd.pinned.checked.prog.wantsStandIn t = false := by
  obtain rfl : f = 6 := Option.some.inj ((show Tryd.prog.funcNamed "barrowwheel/laws.FnCheckSumParts" = some 6 by kernel_rfl).symm.trans hf) |>.symm
  obtain rfl : fn = Tryd.f6 := (Option.some.inj (Tryd.func6.symm.trans hfn)).symm
  refine ⟨by kernel_rfl, fun j t ht => ?_⟩
  rw [Tryd.params6] at ht
  have hm : t = 22 := by have := Array.mem_of_getElem? ht; simp at this; omega
  subst hm; exact (show Tryd.prog.wantsStandIn 22 = false by kernel_rfl)
theorem card : Rows.FnCheckSumPartsUptoCardSaid :=
  Claim7.holds_tied_plain_at .later [] _ _ _ _ said (fun _ h => by cases h) (by kernel_rfl) (fun _ h => by cases h) fnCheckSumPartsUpto_row_tie rfl ⟨rfl, rfl⟩ (by kernel_rfl) rfl plain (by kernel_rfl)
end Go.Proofs.YtgledbigkjlbmaaDoor.fnCheckSumPartsUpto

/- copy, as a step of a region; small laws on what a call owns. -/
import Derived.Test.YtdhehnjidakfcaaDoorCopy
import Derived.Deep.RegionLaw
namespace Go.Proofs.YtdhehnjidakfcaaDoor
open Go.RowKit
theorem Own.stored {w : World} {B : Nat} {e : TypeId} {g n cap : Nat} {xs : List Value} (h : Own w B e 1 (some ⟨g, 0, none⟩) n cap xs) (j : Nat) (u : Value) :
    Own (w.setCell ⟨g, j, none⟩ u) B e 1 (some ⟨g, 0, none⟩) n cap (xs.set j u) ∧ w.grownBy (w.setCell ⟨g, j, none⟩ u) (blockOf (some ⟨g, 0, none⟩)) := World.ownsRow.stored h j u
theorem Own.drew {w : World} {base : Nat} {e : TypeId} {size : Nat} {A : Option Addr} {n cap : Nat} {xs : List Value} (h : Own w base e size A n cap xs) : Own w.drew base e size A n cap xs := h
theorem Own.caps {w : World} {base : Nat} {e : TypeId} {size : Nat} {A : Option Addr} {n cap : Nat} {xs : List Value} (h : Own w base e size A n cap xs) : n ≤ cap ∧ cap ≤ maxLen := by
  rcases h.2 with ⟨h', h0⟩ | ⟨g, cap', cur, h', _, _, hnc, hcm, _⟩
  · simp only [Value.slice.injEq] at h'
    subst h0; exact ⟨by omega, by rw [h'.2.2]; unfold maxLen; omega⟩
  · simp only [Value.slice.injEq] at h'
    rw [h'.2.2]; exact ⟨hnc, hcm⟩
theorem srcAt_own {w : World} {B : Nat} {e : TypeId} {A : Option Addr} {n cap : Nat} {L : List Nat} (own : Own w B e 1 A n cap (cellsN .u8 L)) (k c : Nat) (hk : k < n) : SrcAt w A k c (cellsN .u8 (L.take k)) := by
  have hl : L.length = n := by simpa [cellsN] using own.len
  refine ⟨fun e => ?_, fun ad e j u hu => ?_⟩
  · subst e
    obtain ⟨g, hg, _⟩ := own.cell 0 (by omega)
    cases hg
  · have hj : j < k := by
      have := (List.getElem?_eq_some_iff.1 hu).1
      simp [cellsN] at this
      omega
    obtain ⟨g, hg, _, _, hc, _⟩ := own.cell j (by omega)
    subst e
    injection hg with hg
    subst hg
    rw [add_none, Nat.zero_add, hc, ← hu]
    simp [cellsN, hj]
theorem run_copy_owned {P : Program} {w : World} (dT sT ty elem : TypeId) (hu : P.underlying dT = some (.slice elem)) (hsz : (P.info? elem).map (·.size) = some 1)
    (dp : Option Addr) (dLen dCap : Nat) (sp : Option Addr) (sLen sCap : Nat)
    {base : Nat} {A : Option Addr} {n cap : Nat} {xs : List Value} (hown : Own w base elem 1 A n cap xs) (off : Nat) (hdp : 0 < dLen → ∀ g, A = some ⟨g, 0, none⟩ → dp = some ⟨g, off, none⟩) (hoff : off + dLen ≤ n)
    (news : List Value) (hsrc : SrcAt w sp sLen sCap news) (hl : news.length = sLen) (h1 : ∀ u ∈ news, u.oneCell' = true) :
    ∃ w', (Builtin.copy_ #[dT, sT] ty #[.slice dp dLen dCap, .slice sp sLen sCap]).run P w = .ok (goInt ((min sLen dLen : Nat) : Int)) w' ∧
      Own w' base elem 1 A n cap (xs.take off ++ (news.take dLen ++ xs.drop (off + min sLen dLen))) ∧ w.grownBy w' (blockOf A) := by
  by_cases h0 : min sLen dLen = 0
  · refine ⟨w, ?_, ?_, World.grownBy.refl w _⟩
    · rw [h0]; exact run_copy_none (P := P) w dT sT ty elem dp sp dLen dCap sLen sCap hu hsz h0
    · have : news.take dLen = [] := by
        apply List.eq_nil_of_length_eq_zero
        rw [List.length_take]; omega
      rw [this, h0]; simpa using hown
  · have hn : 0 < n := by omega
    have hx := hown.len
    obtain ⟨g, hA, hb, hg, _, _⟩ := hown.cell 0 (by omega)
    have hdp' := hdp (by omega) g hA
    rcases hown.2 with ⟨h', _⟩ | ⟨g', cap', cur, h', hb', hgg, hnc, hcm, hcs, htake⟩
    · simp [hA] at h'
    · simp only [Value.slice.injEq] at h'
      obtain ⟨hA', _, rfl⟩ := h'
      have : g' = g := by rw [hA] at hA'; simpa using hA'.symm
      subst this
      have hsp : ∃ ad, sp = some ad := by
        cases sp with
        | none => have := (hsrc.1 rfl).1; omega
        | some ad => exact ⟨ad, rfl⟩
      obtain ⟨ad, rfl⟩ := hsp
      have hlen : (news.take dLen).length = min sLen dLen := by rw [List.length_take, hl]; omega
      have hcur : cur.size = cap := by simpa using hcs
      have hrun := run_copy_row (P := P) w dT sT ty elem g' off dLen dCap ad sLen sCap cur elem (news.take dLen) hu hsz hgg hlen (fun j v hv => by
        refine hsrc.2 ad rfl j v ?_
        rw [List.getElem?_take] at hv
        split at hv
        · exact hv
        · cases hv) (by rw [hlen]; omega) (fun v hv => h1 v (List.mem_of_mem_take hv))
      rw [hlen] at hrun
      rw [hdp']
      refine ⟨_, hrun, ⟨?_, .inr ⟨g', cap, (cur.toList.take off ++ news.take dLen ++ cur.toList.drop (off + min sLen dLen)).toArray, by rw [hA], hb', ?_, hnc, hcm, ?_, ?_⟩⟩, ?_⟩
      · simp only [List.length_append, List.length_take, List.length_drop, hl]; omega
      · exact setRow_heap w g' _ _ _ _ hgg
      · simp only [List.size_toArray, List.length_append, List.length_take, List.length_drop, hl, Array.length_toList]; omega
      · rw [← htake]
        simp only [Nat.mul_one]
        rw [List.append_assoc]
        exact splice_take cur.toList _ off n _ hlen (by omega) (by rw [Array.length_toList]; omega)
      · refine ⟨rfl, rfl, rfl, by simp [World.setRow], fun k hk hne => ?_⟩
        exact setRow_other w g' k _ (by intro e; apply hne; rw [hA, e]; rfl)
theorem step_copy_own {P : Program} {w : World} {ops : Array Oper} {o : Oper} {a : Act} {K : Act → World → Prop} {Q : Exit → Act → World → Prop} {E : Prop} (hgd : o.guard = none) (d s : Operand) (dT sT : TypeId)
    (ho : o.op = .call { callee := .builtin .copy, args := #[d, s], argTypes := #[dT, sT] }) (elem : TypeId) (hu : P.underlying dT = some (.slice elem)) (hsz : (P.info? elem).map (·.size) = some 1)
    (dp : Option Addr) (dLen dCap : Nat) (sp : Option Addr) (sLen sCap : Nat) (hd : a.eval d = .slice dp dLen dCap) (hs : a.eval s = .slice sp sLen sCap)
    {base : Nat} {A : Option Addr} {n cap : Nat} {xs : List Value} (hown : Own w base elem 1 A n cap xs) (off : Nat) (hdp : 0 < dLen → ∀ g, A = some ⟨g, 0, none⟩ → dp = some ⟨g, off, none⟩) (hoff : off + dLen ≤ n)
    (news : List Value) (hsrc : SrcAt w sp sLen sCap news) (hl : news.length = sLen) (h1 : ∀ u ∈ news, u.oneCell' = true)
    (h : ∀ w', Own w' base elem 1 A n cap (xs.take off ++ (news.take dLen ++ xs.drop (off + min sLen dLen))) → w.grownBy w' (blockOf A) → K (a.put o.dst (goInt ((min sLen dLen : Nat) : Int))) w') :
    if Region.wanted o (yielded ops a.tmps) = true then Oper.wp P o a w K Q else E := by
  have hw : Region.wanted o (yielded ops a.tmps) = true := by simp [Region.wanted, hgd]
  rw [if_pos hw]
  obtain ⟨w', hrun, h2, h3⟩ := run_copy_owned (P := P) dT sT o.type elem hu hsz dp dLen dCap sp sLen sCap hown off hdp hoff news hsrc hl h1
  unfold Oper.wp
  simp [execOp, ho, resolve, invoke, builtin, hd, hs, hrun, Result.andThen]
  exact h w' h2 h3
theorem grown_drew {w w' : World} {r : Option Nat} (h : w.drew.grownBy w' r) : w.grownBy w' r := ⟨h.1, h.2, h.3, h.4, h.5⟩
theorem Own.some {w : World} {B : Nat} {e : TypeId} {g n cap : Nat} {xs : List Value} (h : Own w B e 1 (some ⟨g, 0, none⟩) n cap xs) (j : Nat) (hj : j < n) : ∃ u, w.cell? ⟨g, j, none⟩ = some u ∧ w.frozen? ⟨g, j, none⟩ = false := by
  obtain ⟨g', e, _, _, hc, hf⟩ := h.cell j (by omega)
  obtain rfl : g = g' := by simpa using e
  have hl := h.len
  rw [List.getElem?_eq_getElem (by omega)] at hc
  exact ⟨_, hc, hf⟩
end Go.Proofs.YtdhehnjidakfcaaDoor

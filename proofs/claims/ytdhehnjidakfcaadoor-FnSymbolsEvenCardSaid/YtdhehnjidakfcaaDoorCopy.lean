/- copy into a part of a slice that the call owns. -/
import Derived.Test.YtdhehnjidakfcaaDoorBase
import Derived.Laws.CopyOwn
namespace Go.Proofs.YtdhehnjidakfcaaDoor
open Go.RowKit
theorem splice_take {α : Type} (L nw : List α) (off n m : Nat) (hm : nw.length = m) (h : off + m ≤ n) (hn : n ≤ L.length) : (L.take off ++ (nw ++ L.drop (off + m))).take n = (L.take n).take off ++ (nw ++ (L.take n).drop (off + m)) := by
  have e1 : (L.take off).length = off := by rw [List.length_take]; omega
  rw [List.take_append, List.take_append, e1, hm, List.take_take, List.take_take, List.drop_take]
  have e2 : min n off = off := by omega
  have e3 : min off n = off := by omega
  have e4 : nw.take (n - off) = nw := List.take_of_length_le (by omega)
  have e5 : n - off - m = n - (off + m) := by omega
  rw [e2, e3, e4, e5]
/-- COPY into a part of a slice that the call owns -/
theorem copy_own {P : Program} {w : World} {ops : Array Oper} {rest : List Oper} {o : Oper} {a : Act} {Q : Exit → Act → World → Prop} (hgd : o.guard = none) (d s : Operand) (dT sT : TypeId)
    (ho : o.op = .call { callee := .builtin .copy, args := #[d, s], argTypes := #[dT, sT] }) (elem : TypeId) (hu : P.underlying dT = some (.slice elem)) (hsz : (P.info? elem).map (·.size) = some 1)
    (dp : Option Addr) (dLen dCap : Nat) (sp : Option Addr) (sLen sCap : Nat) (hd : a.eval d = .slice dp dLen dCap) (hs : a.eval s = .slice sp sLen sCap)
    {base : Nat} {A : Option Addr} {n cap : Nat} {xs : List Value} (hown : Own w base elem 1 A n cap xs) (off : Nat) (hdp : 0 < dLen → ∀ g, A = some ⟨g, 0, none⟩ → dp = some ⟨g, off, none⟩) (hoff : off + dLen ≤ n)
    (news : List Value) (hsrc : SrcAt w sp sLen sCap news) (hl : news.length = sLen) (h1 : ∀ u ∈ news, u.oneCell' = true)
    (h : ∀ w', Own w' base elem 1 A n cap (xs.take off ++ (news.take dLen ++ xs.drop (off + min sLen dLen))) → w.grownBy w' (blockOf A) → wpList P ops Q rest (a.put o.dst (goInt ((min sLen dLen : Nat) : Int))) w') : wpList P ops Q (o :: rest) a w := by
  by_cases h0 : min sLen dLen = 0
  · refine wpList_copy_nothing hgd d s dT sT ho elem hu hsz dp sp dLen dCap sLen sCap hd hs h0 ?_
    have e : xs.take off ++ (news.take dLen ++ xs.drop (off + min sLen dLen)) = xs := by
      have : news.take dLen = [] := by
        apply List.eq_nil_of_length_eq_zero
        rw [List.length_take]; omega
      rw [this, h0]; simp
    have := h w (by rw [e]; exact hown) (World.grownBy.refl w _)
    rw [h0] at this
    exact this
  · have hn : 0 < n := by omega
    have hx := hown.len
    obtain ⟨g, hA, hb, hg, _, _⟩ := hown.cell 0 (by omega)
    have hdp' := hdp (by omega) g hA
    rcases hown.2 with ⟨h', _⟩ | ⟨g', cap', cur, h', hb', hgg, hnc, hcm, hcs, htake⟩
    · simp [hA] at h'
    · simp only [Value.slice.injEq] at h'
      obtain ⟨hA', _, rfl⟩ := h'
      have : g' = g := by rw [hA] at hA'; simpa using hA'.symm
      subst this
      have hsp : ∃ ad, sp = some ad := by
        cases sp with
        | none => have := (hsrc.1 rfl).1; omega
        | some ad => exact ⟨ad, rfl⟩
      obtain ⟨ad, rfl⟩ := hsp
      have hlen : (news.take dLen).length = min sLen dLen := by rw [List.length_take, hl]; omega
      have hcur : cur.size = cap := by simpa using hcs
      refine wpList_copy_own hgd d s dT sT ho elem hu hsz g' off dLen dCap ad sLen sCap (by rw [hd, hdp']) hs cur elem hgg (news.take dLen) hlen (fun j v hv => ?_) (by rw [hlen]; omega) (fun v hv => h1 v (List.mem_of_mem_take hv)) ?_
      · refine hsrc.2 ad rfl j v ?_
        rw [List.getElem?_take] at hv
        split at hv
        · exact hv
        · cases hv
      · rw [hlen]
        refine h _ ⟨?_, .inr ⟨g', cap, (cur.toList.take off ++ (news.take dLen ++ cur.toList.drop (off + min sLen dLen))).toArray, by rw [hA], hb', ?_, hnc, hcm, ?_, ?_⟩⟩ ?_
        · simp only [List.length_append, List.length_take, List.length_drop, hl]; omega
        · exact setRow_heap w g' _ _ _ _ hgg
        · simp only [List.size_toArray, List.length_append, List.length_take, List.length_drop, hl, Array.length_toList]; omega
        · rw [← htake]
          simp only [Nat.mul_one]
          exact splice_take cur.toList _ off n _ hlen (by omega) (by rw [Array.length_toList]; omega)
        · refine ⟨rfl, rfl, rfl, by simp [World.setRow], fun k hk hne => ?_⟩
          exact setRow_other w g' k _ (by intro e; apply hne; rw [hA, e]; rfl)
end Go.Proofs.YtdhehnjidakfcaaDoor

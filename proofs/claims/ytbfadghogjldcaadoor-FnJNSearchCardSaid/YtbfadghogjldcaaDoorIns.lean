/- Insertion, in plain Lean, and the walk of 'JNFound'. -/
import Derived.Test.YtbfadghogjldcaaDoorTexts3
import Derived.Test.YtbfadghogjldcaaDoorSorted
import Derived.Test.YtbfadghogjldcaaDoorLike
namespace Go.Proofs.YtbfadghogjldcaaDoor
open Go.RowKit
set_option linter.unusedVariables false
set_option linter.unusedSimpArgs false

theorem asc_insert {O : List Txt} (hO : Asc O) {k : Nat} {p : Txt} (hk : k ≤ O.length) (hlo : ∀ x, 0 < k → O[k - 1]? = some x → x ≤ p) (hhi : ∀ j x, k ≤ j → O[j]? = some x → p ≤ x) : Asc (O.take k ++ p :: O.drop k) := by
  have hp := List.pairwise_iff_getElem.1 hO
  unfold Asc
  rw [List.pairwise_append, List.pairwise_cons]
  have hlow : ∀ x ∈ O.take k, x ≤ p := by
    intro x hx
    obtain ⟨i, hi, rfl⟩ := List.getElem_of_mem hx
    have hik : i < k := by simp at hi; omega
    rw [List.getElem_take]
    have hkl : k - 1 < O.length := by omega
    have h1 := hlo O[k - 1] (by omega) (List.getElem?_eq_getElem hkl)
    by_cases he : i = k - 1
    · subst he; exact h1
    · exact List.le_trans (hp i (k - 1) (by omega) hkl (by omega)) h1
  have hhigh : ∀ x ∈ O.drop k, p ≤ x := by
    intro x hx
    obtain ⟨i, hi, rfl⟩ := List.getElem_of_mem hx
    rw [List.getElem_drop]
    simp at hi
    exact hhi (k + i) _ (by omega) (List.getElem?_eq_getElem (by omega))
  refine ⟨List.Pairwise.sublist (List.take_sublist _ _) hO, ⟨hhigh, List.Pairwise.sublist (List.drop_sublist _ _) hO⟩, ?_⟩
  intro x hx y hy
  rcases List.mem_cons.1 hy with rfl | hy
  · exact hlow x hx
  · exact List.le_trans (hlow x hx) (hhigh y hy)

theorem perm_insert (O : List Txt) (k : Nat) (p : Txt) : (O.take k ++ p :: O.drop k).Perm (O ++ [p]) := by
  have h1 : (O.take k ++ p :: O.drop k).Perm (p :: (O.take k ++ O.drop k)) := List.perm_middle
  rw [List.take_append_drop] at h1
  exact h1.trans (List.perm_append_singleton p O).symm

theorem own_take0 {w : World} {b : Nat} {e : TypeId} {n c : Nat} {B : Option Addr} {xs : List Value} (h : w.ownsRow b e 1 (.slice B n c) n xs) {k : Nat} (hk : k ≤ n) : w.ownsRow b e 1 (.slice B k c) k (xs.take k) := by
  by_cases h0 : 0 < n
  · exact own_take h hk h0
  · obtain rfl : n = 0 := by omega
    obtain rfl : k = 0 := by omega
    have : xs = [] := List.eq_nil_of_length_eq_zero (by simpa using h.1)
    subst this
    simpa using h

end Go.Proofs.YtbfadghogjldcaaDoor

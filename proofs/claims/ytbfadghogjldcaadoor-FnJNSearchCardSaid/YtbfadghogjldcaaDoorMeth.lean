/- The walks of the methods of a pattern's parts. -/
import Derived.Test.YtbfadghogjldcaaDoorMk
import Derived.Test.YtbfadghogjldcaaDoorGlob
import Derived.BigQuiet
namespace Go.Proofs.YtbfadghogjldcaaDoor
open Go.RowKit
set_option linter.unusedVariables false
set_option linter.unusedSimpArgs false


theorem below_drewN {B : Nat} {a w : World} (h : Below B a w) (n : Nat) : Below B a (w.drewN n) := ⟨h.os, h.tape, h.output, h.size, h.block⟩

set_option maxRecDepth 100000 in
set_option maxHeartbeats 1000000 in
theorem rune_match (fold : Bool) (o s c : Int) (w : World) (h0 : 0 ≤ c) (h1 : c ≤ 255) :
    Calls Tryd.prog 88 #[.agg #[R o, R s], col fold, R c] w fun e w' => e = .returned (.tuple #[.bool (MN.eats fold (.rune o s) c), .bool (MN.eats fold (.rune o s) c)]) ∧ Below w.heap.size w w' := by
  have hal : ∀ o n, Below w.heap.size w ((w.alloc o).drewN n) := fun o n => below_drewN ((Below.refl _ _).alloc (Nat.le_refl _) o) n
  have HAL := hid hal
  clear hal
  by_cases hs : s < 0
  · have e : MN.eats fold (.rune o s) c = true := by simp [MN.eats, hs]
    rw [e]
    have hd : decide (s < 0) = true := decide_eq_true hs
    clear e
    go_enter Tryd.func88, Tryd.ntmps88
    go_wp2_with (go_quiet (fail))
    go_ret2
    exact ⟨rfl, HAL.out _ _⟩
  · have hd : decide (s < 0) = false := decide_eq_false hs
    have e : MN.eats fold (.rune o s) c = (wt fold c == s) := by simp [MN.eats, hs]
    rw [e]
    have hcT : colF true = 20 := rfl
    have hcF : colF false = 19 := rfl
    cases hq : (wt fold c == s)
    all_goals
      cases fold
      case false =>
        go_enter Tryd.func88, Tryd.ntmps88
        go_upto_region 1 with fail
        go_region_law (first | (go_simp; go_at_call 19; refine (weight_wt _ _).mono ?_; rintro e wz ⟨rfl, rfl⟩))
        all_goals go_wp2
        all_goals go_ret2
        all_goals exact ⟨rfl, HAL.out _ _⟩
      case true =>
        go_enter Tryd.func88, Tryd.ntmps88
        go_upto_region 1 with fail
        go_region_law (first | (go_simp; go_at_call 20; refine (folded_any _ _ h0 h1).mono ?_; rintro e wz ⟨rfl, rfl⟩))
        all_goals go_wp2
        all_goals go_ret2
        all_goals exact ⟨rfl, HAL.out _ _⟩

set_option maxRecDepth 100000 in
theorem rune_next (fold : Bool) (o s c : Int) (w : World) :
    Calls Tryd.prog 89 #[.agg #[R o, R s], col fold, R c] w fun e w' => e = .returned (.bool false) ∧ Below w.heap.size w w' := by
  have hal' : ∀ o, Below w.heap.size w (w.alloc o) := fun o => ((Below.refl _ _).alloc (Nat.le_refl _) o)
  have HAL := hid hal'
  clear hal'
  go_enter Tryd.func89, Tryd.ntmps89
  go_wp2
  go_ret
  exact ⟨rfl, HAL.out _⟩

set_option maxRecDepth 100000 in
theorem any_match (fold : Bool) (c : Int) (w : World) :
    Calls Tryd.prog 90 #[.agg #[], col fold, R c] w fun e w' => e = .returned (.tuple #[.bool true, .bool false]) ∧ Below w.heap.size w w' := by
  have hal' : ∀ o, Below w.heap.size w (w.alloc o) := fun o => ((Below.refl _ _).alloc (Nat.le_refl _) o)
  have HAL := hid hal'
  clear hal'
  go_enter Tryd.func90, Tryd.ntmps90
  go_wp2
  go_ret2
  exact ⟨rfl, HAL.out _⟩

set_option maxRecDepth 100000 in
theorem any_next (fold : Bool) (c : Int) (w : World) :
    Calls Tryd.prog 91 #[.agg #[], col fold, R c] w fun e w' => e = .returned (.bool true) ∧ Below w.heap.size w w' := by
  have hal' : ∀ o, Below w.heap.size w (w.alloc o) := fun o => ((Below.refl _ _).alloc (Nat.le_refl _) o)
  have HAL := hid hal'
  clear hal'
  go_enter Tryd.func91, Tryd.ntmps91
  go_wp2
  go_ret
  exact ⟨rfl, HAL.out _⟩

end Go.Proofs.YtbfadghogjldcaaDoor

/- The walks of the weights, and of the decoder at an empty text. -/
import Derived.Test.YtbfadghogjldcaaDoorBase
import Derived.Test.YtbfadghogjldcaaDoorShelf
namespace Go.Proofs.YtbfadghogjldcaaDoor
open Go.RowKit
set_option linter.unusedVariables false
set_option linter.unusedSimpArgs false

/-- The collation, as a value. -/
def colF (fold : Bool) : Nat := if fold then 20 else 19
abbrev col (fold : Bool) : Value := .func (.func (colF fold)) #[] #[]
abbrev R (n : Int) : Value := .int .i32 n

theorem weight_any (c : Int) (w : World) : Calls Tryd.prog 19 #[R c] w fun e w' => e = .returned (R c) ∧ w = w' := by
  go_enter Tryd.func19, Tryd.ntmps19
  go_wp2
  go_ret
  exact ⟨rfl, rfl⟩

theorem folded_any (c : Int) (w : World) (h0 : 0 ≤ c) (h1 : c ≤ 255) : Calls Tryd.prog 20 #[R c] w fun e w' => e = .returned (R (wt true c)) ∧ w = w' := by
  by_cases a : 65 ≤ c
  · by_cases b : c ≤ 90
    · have e : wt true c = c + 32 := by simp [wt, a, b]
      rw [e]
      go_enter Tryd.func20, Tryd.ntmps20
      go_wp2
      go_ret
      exact ⟨rfl, rfl⟩
    · have e : wt true c = c := by simp [wt, b]
      rw [e]
      have hb : decide (c ≤ 90) = false := decide_eq_false b
      go_enter Tryd.func20, Tryd.ntmps20
      go_wp2
      go_ret
      exact ⟨rfl, rfl⟩
  · have e : wt true c = c := by simp [wt, a]
    rw [e]
    have hb : decide (65 ≤ c) = false := decide_eq_false a
    go_enter Tryd.func20, Tryd.ntmps20
    go_wp2
    go_ret
    exact ⟨rfl, rfl⟩

theorem weight_wt (c : Int) (w : World) : Calls Tryd.prog 19 #[R c] w fun e w' => e = .returned (R (wt false c)) ∧ w = w' := by
  have e : wt false c = c := by simp [wt]
  rw [e]
  exact weight_any c w

theorem col_any (fold : Bool) (c : Int) (w : World) (h0 : 0 ≤ c) (h1 : c ≤ 255) : Calls Tryd.prog (colF fold) #[R c] w fun e w' => e = .returned (R (wt fold c)) ∧ w = w' := by
  cases fold with
  | true => exact folded_any c w h0 h1
  | false =>
    have e : wt false c = c := by simp [wt]
    rw [e]
    exact weight_any c w

set_option maxRecDepth 100000 in
theorem slow_empty (w : World) : Calls Tryd.prog 40 #[S []] w fun e w' => e = .returned (.tuple #[R 65533, I 0]) ∧ w = w' := by
  go_enter Tryd.func40, Tryd.ntmps40
  go_wp2
  go_ret2
  exact ⟨rfl, rfl⟩

theorem decode_empty (w : World) : Calls Tryd.prog 34 #[S []] w fun e w' => e = .returned (.tuple #[R 65533, I 0]) ∧ w = w' := by
  go_enter Tryd.func34, Tryd.ntmps34
  go_wp2_with (go_at_call 40; refine (slow_empty _).mono ?_; rintro e w' ⟨rfl, rfl⟩)
  go_ret2
  exact ⟨rfl, rfl⟩

theorem decode_cons (c : UInt8) (l : List UInt8) (w : World) (hc : c.toNat < 128) : Calls Tryd.prog 34 #[S (c :: l)] w fun e w' => e = .returned (.tuple #[R c.toNat, I 1]) ∧ w = w' :=
  (Tryd.utf8_DecodeRuneInString_ascii ⟨(c :: l).toArray⟩ c w rfl hc).mono fun e w' ⟨h1, h2⟩ => ⟨h1, h2.symm⟩

end Go.Proofs.YtbfadghogjldcaaDoor

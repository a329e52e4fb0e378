/- For every input by bytes and every truth value the law FnJNSearch returns true and leaves its input as it was. Conditions: none on the input; the package-level tables that the row lists hold what the program's text lays, which the card ties. -/
import Derived.Test.YtbfadghogjldcaaDoorWit
import Derived.Test.YtbfadghogjldcaaDoorLaw5
namespace Go.Proofs.YtbfadghogjldcaaDoor.fnJNSearch
open Go.ChangeShapes Go.WideShapes Go.ChangeAt Go.RowKit
set_option linter.unusedVariables false
set_option maxRecDepth 100000

theorem walk (W : World) : LawWalk 5 W := by
  intro A1 A2 c1 c2 code1 code2 b h1 h2 r1 r2
  by_cases hb : 2147483647 < code1.length ∨ 2147483647 < code2.length
  · exact search_big b A1 A2 _ _ c1 c2 W hb
  · exact search_walk b A1 A2 c1 c2 code1 code2 W h1 h2 (by omega) (by omega) r1 r2

theorem reads (os : Os) {H : Type} (enc : TypeId × Value → H) : ∃ places, DataW.whole enc Tryd.prog ((laidWorld os).forCall (fun _ _ => 0) ⟨#[], noArgs, []⟩).memory Tryd.f5.params.toList Rows.fnJNSearchSpec.vars false noArgs.toList 8 = some ([.nil, .nil, .lit (.bool false)], [], places) :=
  ⟨[], by kernel_rfl⟩

theorem lifted (os : Os) (started : os.Started) (H : Type) (enc : TypeId × Value → H) (F : Stop.Interp) :
    ReturnsInHanded {} Tryd.checked os 5 .any ((OpenSpec.ofChange Rows.fnJNSearchSpec).preRow enc Tryd.prog Tryd.f5 Rows.fnJNSearchRow.domain false Rows.fnJNSearchRow.laid) (((OpenSpec.ofChange Rows.fnJNSearchSpec).at F).post enc Tryd.prog Tryd.f5 false true false false) := by
  obtain ⟨places, hx⟩ := reads os enc
  refine returnsInHanded_of_row (C := Tryd.checked) (s := OpenSpec.ofChange Rows.fnJNSearchSpec) own started (by kernel_rfl) Tryd.func5
    (witness_row_at (enc := enc) (C := Tryd.checked) false (laidWorld os) noArgs rfl (wit_vars os) (wit_rest os) (by kernel_rfl)
      (OpenSpec.preRow_of_cond 8 hx (by kernel_rfl) (fun k hk => by cases hk) (by kernel_rfl) (laid_met os))) ?_
  intro W base args ds gs before hval hW _ _ _ _ _ _
  exact law_contract 5 Tryd.f5 Tryd.params5 (by kernel_rfl) Rows.fnJNSearchSpec rfl (fun _ _ _ _ => rfl) H enc W base args ds gs before (walk W) hval hW

theorem said : Rows.FnJNSearchSaid :=
  OpenClaim.holds_of_cond 5 Tryd.f5 rfl rfl rfl rfl rfl rfl rfl ⟨rfl, rfl, rfl, rfl, rfl⟩ rfl rfl rfl rfl rfl (by kernel_rfl) Tryd.func5 (by kernel_rfl)
    (of_decide_eq_true (by kernel_rfl)) (by unfold Func.isWrapper; first | (rw [if_pos (by decide +kernel)]; kernel_rfl) | (rw [if_neg (by decide +kernel)]; exact ⟨rfl, rfl⟩))
    (fun os started H enc _ F => by rw [OpenClaim.pre_eq_preRow]; exact lifted os started H enc F)

theorem plain (f : FuncId) (fn : Func) (hf : Tryd.pinned.checked.prog.funcNamed "given.example/pub-kerfing/laws.FnJNSearch" = some f) (hfn : Tryd.pinned.checked.prog.funcs[f]? = some fn) :
    true = Tryd.pinned.checked.prog.looks [] ∧ ∀ (j : Nat) t, fn.params[j]? = some t → Tryd.pinned.checked.prog.wantsStandIn t = false := by
  obtain rfl : f = 5 := Option.some.inj ((show Tryd.prog.funcNamed "given.example/pub-kerfing/laws.FnJNSearch" = some 5 by kernel_rfl).symm.trans hf) |>.symm
  obtain rfl : fn = Tryd.f5 := (Option.some.inj (Tryd.func5.symm.trans hfn)).symm
  refine ⟨by kernel_rfl, fun j t ht => ?_⟩
  rw [Tryd.params5] at ht
  have hm : t ∈ [22, 22, 4] := by simpa using Array.mem_of_getElem? ht
  have hall : ([22, 22, 4].all fun u => !Tryd.prog.wantsStandIn u) = true := by kernel_rfl
  exact (show Tryd.prog.wantsStandIn t = false by simpa using List.all_eq_true.1 hall t hm)

theorem card : Rows.FnJNSearchCardSaid :=
  Claim7.holds_tied_plain_at .later [] _ _ _ _ said (fun _ h => by cases h) (by kernel_rfl) (fun _ h => by cases h) fnJNSearch_row_tie rfl ⟨rfl, rfl⟩ (by kernel_rfl) rfl plain (by kernel_rfl)

#print axioms card
end Go.Proofs.YtbfadghogjldcaaDoor.fnJNSearch

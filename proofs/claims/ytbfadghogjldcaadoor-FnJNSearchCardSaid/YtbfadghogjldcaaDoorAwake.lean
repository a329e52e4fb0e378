/- The walk of 'jnAwake'; what 'JNSearch' finds, in order. -/
import Derived.Test.YtbfadghogjldcaaDoorOrd
namespace Go.Proofs.YtbfadghogjldcaaDoor
open Go.RowKit
set_option linter.unusedVariables false
set_option linter.unusedSimpArgs false

/-- All that is found, in order. -/
def AllPost (w : World) (F : List Txt) (e : Ending) (w' : World) : Prop :=
  ∃ (A : Option Addr) (c : Nat), e = .returned (.tuple #[.slice A F.length c, .bool true]) ∧ w'.ownsRow w.heap.size 9 1 (.slice A F.length c) F.length ((srt F).map S) ∧ Below w.heap.size w w'

theorem all_of_run {w w' : World} {F : List Txt} {e : Ending} (h : RunPost w false F e w') : AllPost w F e w' := by
  obtain ⟨L, A, c, stop, rfl, ht, ho, hb⟩ := h
  rcases ht with ⟨rfl, hm⟩ | ⟨h, _⟩
  · have hm : L.Perm F := by simpa [Mid] using hm
    rw [srt_eq hm, hm.length_eq] at ho
    exact ⟨A, c, by rw [hm.length_eq], ho, hb⟩
  · cases h

theorem all_any (fold : Bool) (p : List UInt8) (ns : List MN) (t : JT) (c0 c1 c2 c3 : Value) (P : Nat → Prop) (w : World) (hp : parse fold p = some ns) (hl : p.length ≤ 1000) (hb : ∀ c ∈ p, c.toNat < 128)
    (hg : Good t 100000 900000) (hP : ∀ b, P b → b < w.heap.size) (hv : JNC w P t [c0, c1, c2, c3]) :
    Calls Tryd.prog 9 #[.agg #[c0, c1, c2, c3], S p, R 124, .bool fold, .bool false] w (AllPost w (found (glob fold ns) t [36])) :=
  (run_any fold false p ns t c0 c1 c2 c3 P w hp hl hb hg.ok hg.asc hg.leaves hg.room hP hv).mono fun _ _ h => all_of_run h

theorem awake_found : found (glob false [.rune 97 97, .any]) (.arr [.leaf 0 [], .leaf 3 [97, 98, 99]]) [36] = [[36, 91, 49, 93]] := by
  have h1 : glob false [.rune 97 97, .any] [97, 98, 99] = true := by
    rw [glob_rune, show glob false [.any] [98, 99] = true from (glob_any _ _ _).2 ⟨2, by simp, by simp [glob]⟩]
    decide
  simp [found, foundA, h1, stepA, digits_small]

theorem awake_parse : parse false [97, 37] = some [.rune 97 97, .any] := by
  rw [parse_self_eq _ _ _ (by decide) (by decide) (by decide), parse_any_eq]
  simp [parse, wt]

theorem awake_jnc (w : World) (g : Nat) (hb : Blk w g 30 #[I 0, S [], .slice none 0 0, .slice none 0 0, I 3, S [97, 98, 99], .slice none 0 0, .slice none 0 0]) :
    JNC w (fun b => b = g) (.arr [.leaf 0 [], .leaf 3 [97, 98, 99]]) [I 4, S [], .slice none 0 0, .slice (some ⟨g, 0, none⟩) 2 2] :=
  ⟨some ⟨g, 0, none⟩, 2, _, rfl, Row.blk hb rfl rfl, [I 0, S [], .slice none 0 0, .slice none 0 0], [I 3, S [97, 98, 99], .slice none 0 0, .slice none 0 0], rfl, ⟨by decide, rfl⟩, _, [], rfl, ⟨by decide, rfl⟩, rfl⟩

set_option maxRecDepth 100000 in
set_option maxHeartbeats 4000000 in
theorem awake_any (w : World) : Calls Tryd.prog 12 #[] w fun e w' => e = .returned (.bool true) ∧ Below w.heap.size w w' := by
  have HRUN : Hid (Calls Tryd.prog 9 #[.agg #[I 4, S [], .slice none 0 0, .slice (some ⟨w.heap.size, 0, none⟩) 2 2], S [97, 37], R 124, .bool false, .bool false]
      (w.alloc (.cells #[I 0, S [], .slice none 0 0, .slice none 0 0, I 3, S [97, 98, 99], .slice none 0 0, .slice none 0 0] 30)) (AllPost (w.alloc (.cells #[I 0, S [], .slice none 0 0, .slice none 0 0, I 3, S [97, 98, 99], .slice none 0 0, .slice none 0 0] 30)) [[36, 91, 49, 93]])) := by
    have h := all_any false [97, 37] _ (.arr [.leaf 0 [], .leaf 3 [97, 98, 99]]) _ _ _ _ (fun b => b = w.heap.size) (w.alloc (.cells #[I 0, S [], .slice none 0 0, .slice none 0 0, I 3, S [97, 98, 99], .slice none 0 0, .slice none 0 0] 30)) awake_parse (by simp) (by decide)
      ⟨⟨by decide, (by decide : 0 ≤ 3), (by decide : 3 ≤ 3), trivial⟩, ⟨⟨by simp, by simp⟩, ⟨by simp, by decide⟩, trivial⟩, by decide, by decide⟩ (fun b hb => by subst hb; simp) (awake_jnc _ _ (Blk.new w 30 _))
    rw [awake_found] at h
    exact h
  have HB : Hid (∀ o, Below w.heap.size w (w.alloc o)) := fun o => (Below.refl _ _).alloc (Nat.le_refl _) o
  go_enter Tryd.func12, Tryd.ntmps12
  go_wp2_with fail
  refine HRUN.out.mono ?_
  rintro e w3 ⟨A, c, rfl, ho, hb3⟩
  obtain ⟨g, cap, hv, hge, hgl⟩ := ho.form (by decide)
  injection hv with hv _ _
  subst hv
  have hc : w3.cell? ⟨g, 0, none⟩ = some (S [36, 91, 49, 93]) := by
    have := ho.cells (g := g) rfl 0 (S [36, 91, 49, 93]) (by simp [srt])
    rwa [add_zero_off] at this
  have HB3 := hid hb3
  clear ho hb3 hge hgl
  go_wp2_with fail
  go_ret
  exact ⟨rfl, (HB.out _).trans (HB3.out.mono (HB.out _).size)⟩

end Go.Proofs.YtbfadghogjldcaaDoor

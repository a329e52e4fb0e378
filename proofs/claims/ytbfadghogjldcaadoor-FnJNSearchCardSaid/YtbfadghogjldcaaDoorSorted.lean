/- The walks of 'slices.IsSorted' (at an ascending list) and of what it calls. -/
import Derived.Test.YtbfadghogjldcaaDoorOrd
import Derived.BigQuiet
namespace Go.Proofs.YtbfadghogjldcaaDoor
open Go.RowKit
set_option linter.unusedVariables false
set_option linter.unusedSimpArgs false

theorem nan_any (x : Txt) (w : World) : Calls Tryd.prog 33 #[S x] w fun e w' => e = .returned (.bool false) ∧ w' = w := by
  go_enter Tryd.func33, Tryd.ntmps33
  go_wp2
  go_ret
  exact ⟨by simp, rfl⟩

theorem less_any (x y : Txt) (w : World) : Calls Tryd.prog 28 #[S x, S y] w fun e w' => e = .returned (.bool (decide (x < y))) ∧ w' = w := by
  go_enter Tryd.func28, Tryd.ntmps28
  go_wp2_with (go_at_call 33; refine (nan_any _ _).mono ?_; rintro e w' ⟨rfl, rfl⟩)
  go_ret
  exact ⟨by simp [bytesLess_eq], rfl⟩

theorem asc_at {L : List Txt} (h : Asc L) {i : Nat} {x y : Txt} (hx : L[i]? = some x) (hy : L[i + 1]? = some y) : ¬ y < x := by
  obtain ⟨hi, rfl⟩ := List.getElem?_eq_some_iff.1 hx
  obtain ⟨hj, rfl⟩ := List.getElem?_eq_some_iff.1 hy
  exact List.not_lt.2 (List.pairwise_iff_getElem.1 h i (i + 1) hi hj (Nat.lt_succ_self i))

set_option maxRecDepth 100000 in
set_option maxHeartbeats 2000000 in
theorem sorted_any (L : List Txt) (A : Option Addr) (c base : Nat) (w : World) (hl : L.length ≤ 100000) (hA : Asc L) (ho : w.ownsRow base 9 1 (.slice A L.length c) L.length (L.map S)) :
    Calls Tryd.prog 16 #[.slice A L.length c] w fun e w' => e = .returned (.bool true) ∧ ∃ m, w' = w.drewN m := by
  have HA := hid hA
  have HO := hid ho
  clear hA ho
  go_enter Tryd.func16, Tryd.ntmps16
  go_wp2_with fail
  go_loopw [3] (fun v3 wr => ∃ q : Nat, v3 = I ((q : Int) - 1) ∧ q ≤ L.length ∧ Hid (∃ m, wr = w.drewN m)) (fun v _ => (intOf v + 1).toNat)
  case atStart => exact ⟨L.length, by simp, Nat.le_refl _, 0, rfl⟩
  case round =>
    obtain ⟨q, rfl, hq, hdr⟩ := hrel
    have HDR : Hid (∀ n, ∃ m, wr.drewN n = w.drewN m) := fun n => by
      obtain ⟨m, rfl⟩ := hdr.out
      exact ⟨m + n, by rw [World.drewN_drewN]⟩
    by_cases h2 : 2 ≤ q
    · obtain ⟨k, rfl⟩ : ∃ k, q = k + 2 := ⟨q - 2, by omega⟩
      have e1 : ((k + 2 : Nat) : Int) - 1 = (k : Int) + 1 := by omega
      rw [e1]
      clear e1
      obtain ⟨x, hx⟩ : ∃ x, L[k]? = some x := ⟨_, List.getElem?_eq_getElem (by omega)⟩
      obtain ⟨y, hy⟩ : ∃ y, L[k + 1]? = some y := ⟨_, List.getElem?_eq_getElem (by omega)⟩
      have hxy : decide (y < x) = false := decide_eq_false (asc_at HA.out hx hy)
      obtain ⟨g, cap, hv, hge, hgl⟩ := HO.out.form (by omega)
      have ho := HO.out
      injection hv with hv z1 z2
      subst hv
      clear z1 z2
      have hcell : ∀ i u, (L.map S)[i]? = some u → wr.cell? ⟨g, i, none⟩ = some u := fun i u hu => by
        have := ho.cells (g := g) rfl i u hu
        rw [add_zero_off] at this
        obtain ⟨m, rfl⟩ := hdr.out
        exact this
      have hcx := hcell k (S x) (by rw [List.getElem?_map, hx]; rfl)
      have hcy := hcell (k + 1) (S y) (by rw [List.getElem?_map, hy]; rfl)
      have hk1 : (k : Int) + 1 < (L.length : Int) := by omega
      have hk2 : (k : Int) < (L.length : Int) := by omega
      have hk3 : (0 : Int) < (k : Int) + 1 := by omega
      have hk4 : (0 : Int) ≤ (k : Int) + 1 := by omega
      have HLS : Hid (∀ w, Calls Tryd.prog 28 #[S y, S x] w fun e w' => e = .returned (.bool false) ∧ w' = w) := fun w => by
        have := less_any y x w
        rwa [hxy] at this
      clear hx hy hxy hcell ho hgl hge
      go_wp2_with fail
      go_quiet ((with_reducible exact Calls.quiet_of_same (HLS.out _)))
      go_wp2_with fail
      go_roundw
      case rel => exact ⟨k + 1, by simp, by omega, HDR.out _⟩
      case measure => simp [intOf]; omega
    · have hd : decide ((0 : Int) < (q : Int) - 1) = false := decide_eq_false (by omega)
      have hd2 : ¬ ((0 : Int) < (q : Int) - 1) := by omega
      go_wp2_with fail
      go_ret
      exact ⟨rfl, hdr.out⟩

end Go.Proofs.YtbfadghogjldcaaDoor

/- The walk of the maker's 'node'. -/
import Derived.Test.YtbfadghogjldcaaDoorTree
import Derived.Test.YtbfadghogjldcaaDoorText
import Derived.Test.YtbfadghogjldcaaDoorDigits
namespace Go.Proofs.YtbfadghogjldcaaDoor
open Go.RowKit
set_option linter.unusedVariables false
set_option linter.unusedSimpArgs false

theorem w64_eq (n : Int) : wrap64 n = w64 n := by unfold wrap64 w64; omega

theorem MadeAt.setLeft {w : World} {g : Nat} {code : List UInt8} {left : Int} (h : MadeAt w g code left) (l : Int) : MadeAt (w.setCell ⟨g, 1, none⟩ (I l)) g code l := by
  obtain ⟨A, c, h1, h2, h3, h4⟩ := h
  exact ⟨A, c, h1, h2, h3.set_ 1 _, h4.keep fun p (hp : p.block < g) => World.cell?_setCell_other w _ p _ (fun e => by subst e; simp at hp)⟩
theorem MadeAt.left {w : World} {g : Nat} {code : List UInt8} {left : Int} (h : MadeAt w g code left) : w.cell? ⟨g, 1, none⟩ = some (I left) ∧ w.frozen? ⟨g, 1, none⟩ = false := by
  obtain ⟨A, c, h1, h2, h3, h4⟩ := h
  exact ⟨h3.cell 1, h3.frozen 1⟩

/-- What 'node' leaves. -/
def NodePost (g : Nat) (w : World) (r : JT × List UInt8 × Int) (e : Ending) (w' : World) : Prop :=
  ∃ c0 c1 c2 c3 : Value, e = .returned (.agg #[c0, c1, c2, c3]) ∧ JNC w' (fun b => w.heap.size ≤ b ∧ b < w'.heap.size) r.1 [c0, c1, c2, c3] ∧ MadeAt w' g r.2.1 r.2.2 ∧ w.grownBy w' (some g)

theorem MadeAt.fresh {w : World} {g : Nat} {code : List UInt8} {left : Int} (h : MadeAt w g code left) (cs : Array Value) (l : Int) :
    MadeAt ((w.alloc (.cells cs 30)).setCell ⟨g, 1, none⟩ (I l)) g code l ∧ Blk ((w.alloc (.cells cs 30)).setCell ⟨g, 1, none⟩ (I l)) w.heap.size 30 cs ∧
    w.grownBy ((w.alloc (.cells cs 30)).setCell ⟨g, 1, none⟩ (I l)) (some g) :=
  ⟨(h.alloc _).setLeft l, (Blk.new w 30 cs).far (p := ⟨g, 1, none⟩) (by have := h.lt; simp; omega) _, grownBy_setCell (grownBy_alloc (grownBy_refl _ _) _) rfl _⟩

set_option maxRecDepth 100000 in
set_option maxHeartbeats 1000000 in
theorem node_leaf (w : World) (g : Nat) (code : List UInt8) (left deep kk : Int) (h0 : 0 ≤ deep) (h5 : deep ≤ 5) (hk0 : 0 ≤ kk) (hk5 : kk ≤ 5)
    (hc : (5 ≤ deep ∨ w64 (left - 1) ≤ 0) ∧ kk = hd code % 10 % 6 ∨ ¬ 5 ≤ deep ∧ ¬ w64 (left - 1) ≤ 0 ∧ kk = hd code % 10) (h : MadeAt w g code left) :
    Calls Tryd.prog 25 #[.pointer (some ⟨g, 0, none⟩), I deep] w (NodePost g w (leafNode kk code.tail (w64 (left - 1)))) := by
  have hl := (h.alloc (Obj.cells #[.int .i64 0, .string ⟨#[]⟩, .slice none 0 0, .slice none 0 0] 30)).left
  obtain ⟨hl1, hl2⟩ := hl
  have HF := hid (h.fresh #[.int .i64 0, .string ⟨#[]⟩, .slice none 0 0, .slice none 0 0] (w64 (left - 1)))
  have HC := hid hc
  clear hc
  have h1 := hd_0 code
  have h2 := hd_255 code
  have hw := w64_eq (left - 1)
  go_enter Tryd.func25, Tryd.ntmps25
  go_wp2_with fail
  obtain ⟨f1, f2, f3⟩ := HF.out
  refine (byte_any _ _ _ _ f1).mono ?_
  rintro e w1 ⟨rfl, hm1, hg1⟩
  have hb1 := f2.grown hg1 (by have := h.lt; simp; omega)
  have hg2 := grownBy_trans f3 hg1
  have hl1 := hm1.left.1
  clear f1 f2 f3 hg1
  go_upto_region 3 with fail
  go_cut [26] (fun v26 wc => v26 = .bool (decide (5 ≤ deep ∨ w64 (left - 1) ≤ 0)) ∧ wc = w1)
  case first =>
    by_cases hd : 5 ≤ deep
    · go_wp2_with fail
      go_meet
      case rel => exact ⟨by simp [hd], rfl⟩
    · have hd2 : decide (5 ≤ deep) = false := by simp [hd]
      go_wp2_with fail
      go_meet
      case rel => exact ⟨congrArg Value.bool (decide_eq_decide.2 (by omega)), rfl⟩
  case rest =>
    obtain ⟨rfl, rfl⟩ := hcut
    go_upto_if 26 with fail
    go_cut [5] (fun v5 wx => v5 = I kk ∧ wx = wc)
    case first =>
      rcases HC.out with ⟨ha, hb⟩ | ⟨ha, hb, hcc⟩
      · have ht : decide (5 ≤ deep ∨ w64 (left - 1) ≤ 0) = true := by simpa using ha
        rw [ht]
        go_wp2_with fail
        go_meet
        case rel => exact ⟨by rw [hb], rfl⟩
      · have ht : decide (5 ≤ deep ∨ w64 (left - 1) ≤ 0) = false := by simp; omega
        rw [ht]
        go_wp2_with fail
        go_meet
        case rel => exact ⟨by rw [hcc], rfl⟩
    case rest =>
      obtain ⟨rfl, rfl⟩ := hcut
      clear HC HF
      have hlt := hb1.lt
      have hgl := h.lt
      have leaf : ∀ (w3 : World) (k : Nat) (s : List UInt8) (code' : List UInt8), k ≤ 3 → MadeAt w3 g code' (w64 (left - 1)) → w.grownBy w3 (some g) →
          NodePost g w (.leaf k s, code', w64 (left - 1)) (.returned (.agg #[I k, S s, .slice none 0 0, .slice none 0 0])) (put4 w3 w.heap.size (I k) (S s) (.slice none 0 0) (.slice none 0 0)) := by
        intro w3 k s code' hk hm3 hg3
        exact ⟨_, _, _, _, rfl, ⟨hk, rfl⟩, hm3.below (below_put4 (B := w.heap.size) (Nat.le_refl _) _ _ _ _) hgl, grownBy_then hg3 (below_put4 (Nat.le_refl _) _ _ _ _)⟩
      have HL := hid leaf
      clear leaf
      by_cases hk3 : kk < 3
      · go_wp2_with fail
        refine (text_any _ _ _ _ hm1).mono ?_
        rintro e w3 ⟨rfl, hm3, hg3⟩
        have hb3 := hb1.grown hg3 (by simp; omega)
        obtain ⟨e0, e1, e2, e3, f0, f1, f2, f3⟩ := hb3.four
        go_wp2_with fail
        exact bodyPost_ret (v := .agg #[I 3, S (textOf code.tail), .slice none 0 0, .slice none 0 0]) (by simp [results, Tryd.results25, go_sem, e0, e1, e2, e3]) rfl (by
          rw [show leafNode kk code.tail (w64 (left - 1)) = (.leaf 3 (textOf code.tail), textRest code.tail, w64 (left - 1)) from by unfold leafNode; rw [if_pos hk3]]
          exact HL.out w3 3 _ _ (by decide) hm3 (grownBy_trans hg2 hg3))
      · by_cases hk33 : kk = 3
        · subst hk33
          go_wp2_with fail
          refine (byte_any _ _ _ _ hm1).mono ?_
          rintro e w3 ⟨rfl, hm3, hg3⟩
          have hb3 := hb1.grown hg3 (by simp; omega)
          have h1' := hd_0 code.tail
          have h2' := hd_255 code.tail
          go_wp2_with fail
          refine (digits_any 3 _ _ (by omega) h1' h2').mono ?_
          rintro e w4 ⟨rfl, hg4⟩
          have hb4 := hb3.grown hg4 (by simp)
          obtain ⟨e0, e1, e2, e3, f0, f1, f2, f3⟩ := hb4.four
          have hm4 := hm3.below (below_of_grownBy_none hg4) hm3.lt
          have hg5 := grownBy_below (grownBy_trans hg2 hg3) (below_of_grownBy_none hg4)
          go_wp2_with fail
          exact bodyPost_ret (v := .agg #[I 2, S (digits (hd code.tail).toNat), .slice none 0 0, .slice none 0 0]) (by simp [results, Tryd.results25, go_sem, e0, e1, e2, e3]) rfl (HL.out w4 2 _ _ (by decide) hm4 hg5)
        · by_cases hk44 : kk = 4
          · subst hk44
            have h1' := hd_0 code.tail
            have h2' := hd_255 code.tail
            go_wp2_with fail
            refine (byte_any _ _ _ _ (hm1.alloc _)).mono ?_
            rintro e w3 ⟨rfl, hm3, hg3⟩
            have hb3 := (hb1.alloc _).grown hg3 (by simp; omega)
            obtain ⟨e0, e1, e2, e3, f0, f1, f2, f3⟩ := hb3.four
            have hcell : w3.cell? ⟨wc.heap.size, (hd code.tail % 2).toNat, none⟩ = some (S (truth (hd code.tail))) := by
              have hbt := (Blk.new wc 9 #[Value.string { data := #[116, 114, 117, 101] }, Value.string { data := #[102, 97, 108, 115, 101] }]).grown hg3 (by have := hm1.lt; simp; omega)
              rw [hbt.cell]
              unfold truth
              rcases Int.emod_two_eq (hd code.tail) with e | e <;> rw [e] <;> rfl
            have hg5 := grownBy_trans (grownBy_alloc hg2 _) hg3
            clear hg3
            go_wp2_with fail
            exact bodyPost_ret (v := .agg #[I 1, S (truth (hd code.tail)), .slice none 0 0, .slice none 0 0]) (by simp [results, Tryd.results25, go_sem, e0, e1, e2, e3]) rfl (HL.out w3 1 _ _ (by decide) hm3 hg5)
          · obtain rfl : kk = 5 := by omega
            obtain ⟨e0, e1, e2, e3, f0, f1, f2, f3⟩ := hb1.four
            go_wp2_with fail
            exact bodyPost_ret (v := .agg #[I 0, S [], .slice none 0 0, .slice none 0 0]) (by simp [results, Tryd.results25, go_sem, e0, e1, e2, e3]) rfl (HL.out wc 0 _ _ (by decide) hm1 hg2)

end Go.Proofs.YtbfadghogjldcaaDoor

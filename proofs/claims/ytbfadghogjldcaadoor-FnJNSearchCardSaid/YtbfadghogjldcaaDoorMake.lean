/- 'node' whole, and 'jnNode'. -/
import Derived.Test.YtbfadghogjldcaaDoorNode3
namespace Go.Proofs.YtbfadghogjldcaaDoor
open Go.RowKit
set_option linter.unusedVariables false
set_option linter.unusedSimpArgs false

theorem node_any (d : Nat) : ∀ (w : World) (g : Nat) (code : List UInt8) (left deep : Int), d ≤ 5 → deep = 5 - d → MadeAt w g code left →
    Calls Tryd.prog 25 #[.pointer (some ⟨g, 0, none⟩), I deep] w (NodePost g w (node d code left)) := by
  induction d with
  | zero =>
    intro w g code left deep _ hde h
    obtain rfl : deep = 5 := by simpa using hde
    clear hde
    have h1 := hd_0 code
    exact node_leaf w g code left 5 (hd code % 10 % 6) (by omega) (by omega) (by omega) (by omega) (.inl ⟨.inl (by omega), rfl⟩) h
  | succ d ih =>
    intro w g code left deep hd5 hde h
    have hdeep : deep = 4 - d := by rw [hde]; push_cast; omega
    clear hde
    have h1 := hd_0 code
    by_cases hl : w64 (left - 1) ≤ 0
    · have e : node (d + 1) code left = leafNode (hd code % 10 % 6) code.tail (w64 (left - 1)) := by rw [node, if_pos hl]
      rw [e]
      exact node_leaf w g code left deep _ (by omega) (by omega) (by omega) (by omega) (.inl ⟨.inr hl, rfl⟩) h
    · by_cases hk : hd code % 10 < 6
      · have e : node (d + 1) code left = leafNode (hd code % 10) code.tail (w64 (left - 1)) := by rw [node, if_neg hl, if_pos hk]
        rw [e]
        exact node_leaf w g code left deep _ (by omega) (by omega) (by omega) (by omega) (.inr ⟨by omega, hl, rfl⟩) h
      · have IH : ∀ (w : World) (code : List UInt8) (left : Int), MadeAt w g code left → Calls Tryd.prog 25 #[.pointer (some ⟨g, 0, none⟩), I (IntKind.i64.wrap (deep + 1))] w (NodePost g w (node d code left)) := by
          intro w code left h
          rw [IntWalk.i64_in _ (by omega)]
          exact ih w g code left (deep + 1) (by omega) (by omega) h
        by_cases hk7 : hd code % 10 ≤ 7
        · exact node_arr d (by omega) w g code left deep hdeep IH (by omega) hk7 (by omega) h
        · exact node_obj d (by omega) w g code left deep hdeep IH (by omega) (by omega) (by omega) h

/-- The value that some bytes are. -/
def tree (code : List UInt8) : JT := (node 5 code 30).1

/-- What 'jnNode' leaves. -/
def TreePost (w : World) (t : JT) (e : Ending) (w' : World) : Prop :=
  ∃ c0 c1 c2 c3 : Value, e = .returned (.agg #[c0, c1, c2, c3]) ∧ JNC w' (fun b => w.heap.size ≤ b ∧ b < w'.heap.size) t [c0, c1, c2, c3] ∧ Below w.heap.size w w'

set_option maxRecDepth 100000 in
set_option maxHeartbeats 1000000 in
theorem jnNode_any (w : World) (A : Option Addr) (c : Nat) (code : List UInt8) (hc : code.length ≤ c) (hn : code.length ≤ 2147483647) (hr : Reads w (· < w.heap.size) 1 A code.length (code.map U)) :
    Calls Tryd.prog 11 #[.slice A code.length c] w (TreePost w (tree code)) := by
  have hmade : ∀ o, MadeAt ((w.alloc o).alloc (.cells #[.slice A code.length c, I 30] 25)) (w.heap.size + 1) code 30 := by
    intro o
    refine ⟨A, c, hc, hn, ?_, ?_⟩
    · exact Blk.new2 w o 25 #[.slice A code.length c, I 30]
    · refine (hr.keep fun p (hp : p.block < w.heap.size) => ?_).more fun b (hb : b < w.heap.size) => (by omega : b < w.heap.size + 1)
      rw [World.cell?_alloc_lt _ _ _ (by simp; omega), World.cell?_alloc_lt _ _ _ hp]
  have HM := hid hmade
  clear hmade
  go_enter Tryd.func11, Tryd.ntmps11
  go_wp2_with fail
  refine (node_any 5 _ _ _ _ 0 (by omega) (by simp) (HM.out _)).mono ?_
  rintro e w1 ⟨c0, c1, c2, c3, rfl, hj, hm, hg⟩
  have hb := ((Blk.new w 30 #[.int .i64 0, .string ⟨#[]⟩, .slice none 0 0, .slice none 0 0]).alloc (.cells #[.slice A code.length c, I 30] 25)).grown hg (by simp)
  obtain ⟨e0, e1, e2, e3, f0, f1, f2, f3⟩ := hb.four
  have hfin : TreePost w (tree code) (.returned (.agg #[c0, c1, c2, c3])) (put4 w1 w.heap.size c0 c1 c2 c3) := by
    have hs := hg.size
    have hsa : ((w.alloc (.cells #[.int .i64 0, .string ⟨#[]⟩, .slice none 0 0, .slice none 0 0] 30)).alloc (.cells #[.slice A code.length c, I 30] 25)).heap.size = w.heap.size + 2 := by simp
    refine ⟨c0, c1, c2, c3, rfl, JNC.keep ?_ ?_ _ _ hj, ?_⟩
    · intro b ⟨hb1, hb2⟩
      rw [hsa] at hb1
      exact ⟨by omega, by rw [put4_size]; exact hb2⟩
    · intro p ⟨hb1, hb2⟩
      rw [hsa] at hb1
      exact put4_old (by omega) _ _ _ _
    · exact (below_of_grownBy (B := w.heap.size) (grownBy_of_alloc (grownBy_of_alloc hg)) (by omega) (by omega)).trans (below_put4 (Nat.le_refl _) _ _ _ _)
  have HFIN := hid hfin
  obtain ⟨k, s, A1, n1, k1, A2, n2, k2, rfl, rfl, rfl, rfl⟩ := hj.form
  clear hfin hj
  go_wp2_with fail
  exact bodyPost_ret (v := .agg #[I k, S s, .slice A1 n1 k1, .slice A2 n2 k2]) (by simp [results, Tryd.results11, go_sem, e0, e1, e2, e3]) rfl HFIN.out

end Go.Proofs.YtbfadghogjldcaaDoor

/- The walk of the maker's 'node' where it makes a list or an object. -/
import Derived.Test.YtbfadghogjldcaaDoorNode
import Derived.Test.YtbfadghogjldcaaDoorAppend
import Derived.Deep.RegionLaw
namespace Go.Proofs.YtbfadghogjldcaaDoor
open Go.RowKit
set_option linter.unusedVariables false
set_option linter.unusedSimpArgs false

/-- Where what a list under way leads to lies. -/
def Kept (bn : Nat) (iv nv : Value) (w : World) (b : Nat) : Prop := bn < b ∧ b < w.heap.size ∧ some b ≠ iv.ownBlock ∧ some b ≠ nv.ownBlock

/-- The head of the loop behind i rounds. -/
def LoopRel (w : World) (g bn nn : Nat) (kind : Int) (cnt : Nat) (f : List UInt8 → Int → JT × List UInt8 × Int) (total : List JT × List UInt8 × Int) (i : Nat) (wr : World) : Prop :=
  ∃ (items : List JT) (code' : List UInt8) (left' : Int) (A : Option Addr) (c : Nat) (A' : Option Addr) (c' : Nat) (xs : List Value),
    i ≤ cnt ∧ items.length = i ∧ items ++ (many f (cnt - i) code' left').1 = total.1 ∧ (many f (cnt - i) code' left').2 = total.2 ∧
    MadeAt wr g code' left' ∧ Blk wr w.heap.size 30 #[.int .i64 0, .string ⟨#[]⟩, .slice none 0 0, .slice none 0 0] ∧
    Blk wr bn 30 #[I kind, .string ⟨#[]⟩, .slice A' nn c', .slice A i c] ∧ wr.ownsRow (bn + 1) 30 4 (.slice A i c) i xs ∧ wr.ownsRow (bn + 1) 9 1 (.slice A' nn c') nn ((namesTo nn).map S) ∧
    JNCs wr (Kept bn (.slice A i c) (.slice A' nn c') wr) items xs ∧ w.grownBy wr (some g) ∧ (nn = 0 → A' = none ∧ c' = 0)

/-- One value more. -/
theorem LoopRel.step {w : World} {g bn nn : Nat} {kind : Int} {cnt : Nat} {f : List UInt8 → Int → JT × List UInt8 × Int} {total : List JT × List UInt8 × Int} {i : Nat} {wr : World}
    {items : List JT} {code' : List UInt8} {left' : Int} {A : Option Addr} {c : Nat} {A' : Option Addr} {c' : Nat} {xs : List Value}
    (hgw : g < w.heap.size) (hwb : w.heap.size < bn) (hi : i + 1 ≤ cnt) (hlen : items.length = i)
    (htot1 : items ++ (many f (cnt - i) code' left').1 = total.1) (htot2 : (many f (cnt - i) code' left').2 = total.2)
    (hbz : Blk wr w.heap.size 30 #[.int .i64 0, .string ⟨#[]⟩, .slice none 0 0, .slice none 0 0])
    (hbn : Blk wr bn 30 #[I kind, .string ⟨#[]⟩, .slice A' nn c', .slice A i c]) (hown : wr.ownsRow (bn + 1) 30 4 (.slice A i c) i xs) (hownn : wr.ownsRow (bn + 1) 9 1 (.slice A' nn c') nn ((namesTo nn).map S))
    (hjs : JNCs wr (Kept bn (.slice A i c) (.slice A' nn c') wr) items xs) (hgr : w.grownBy wr (some g)) (hnn : nn = 0 → A' = none ∧ c' = 0)
    {w3 : World} {c0 c1 c2 c3 : Value} (hj3 : JNC w3 (fun b => wr.heap.size ≤ b ∧ b < w3.heap.size) (f code' left').1 [c0, c1, c2, c3]) (hm3 : MadeAt w3 g (f code' left').2.1 (f code' left').2.2) (hg3 : wr.grownBy w3 (some g))
    {o : Obj} {w4 : World} {A4 : Option Addr} {c4 : Nat} (ho4 : w4.ownsRow (bn + 1) 30 4 (.slice A4 (i + 1) c4) (i + 1) (xs ++ [c0, c1, c2, c3])) (hg4 : (w3.alloc o).grownBy w4 (Value.ownBlock (.slice A i c)))
    (hat : Value.ownBlock (.slice A4 (i + 1) c4) = Value.ownBlock (.slice A i c) ∨ Value.ownBlock (.slice A4 (i + 1) c4) = some (w3.alloc o).heap.size) :
    LoopRel w g bn nn kind cnt f total (i + 1) (w4.setCell ⟨bn, 3, none⟩ (.slice A4 (i + 1) c4)) := by
  have hsz3 := hg3.size
  have hsz4 := hg4.size
  have hsa : (w3.alloc o).heap.size = w3.heap.size + 1 := by simp
  rw [hsa] at hsz4 hat
  have hbnlt := hbn.lt
  have hlt := hown.lt
  have hltn := hownn.lt
  have hsg : ∀ k, Value.ownBlock (.slice A i c) = some k → bn + 1 ≤ k ∧ k < wr.heap.size := hlt
  have hbel : Below bn w3 (w4.setCell ⟨bn, 3, none⟩ (.slice A4 (i + 1) c4)) := by
    have h1 : Below bn w3 (w3.alloc o) := (Below.refl _ _).alloc (by omega) o
    have h2 : Below bn w3 w4 := h1.grown hg4 (by simp; omega) (fun k hk => by have := hsg k hk; omega)
    exact h2.setCell (p := ⟨bn, 3, none⟩) (Nat.le_refl _) _
  have hsz5 : (w4.setCell ⟨bn, 3, none⟩ (.slice A4 (i + 1) c4)).heap.size = w4.heap.size := by simp [World.setCell]
  have hb3 := hbn.grown hg3 (by simp; omega)
  have hb4 := (hb3.alloc o).grown hg4 (fun e => by have := hsg bn e.symm; omega)
  have hkeep : ∀ p : Nat, bn < p → p < w3.heap.size → some p ≠ Value.ownBlock (.slice A i c) → (w4.setCell ⟨bn, 3, none⟩ (.slice A4 (i + 1) c4)).heap[p]? = w3.heap[p]? := by
    intro p hp1 hp2 hp3
    rw [Below.heap_setCell _ _ _ _ (show p ≠ bn by omega), hg4.block p (by omega) hp3, Below.heap_alloc _ _ _ hp2]
  have hown4 : ∀ b, b < w3.heap.size → some b ≠ Value.ownBlock (.slice A i c) → some b ≠ Value.ownBlock (.slice A4 (i + 1) c4) := by
    intro b hb1 hb2 e
    rcases hat with h | h
    · exact hb2 (e.trans h)
    · rw [h] at e
      injection e with e
      omega
  refine ⟨items ++ [(f code' left').1], (f code' left').2.1, (f code' left').2.2, A4, c4, A', c', xs ++ [c0, c1, c2, c3], hi, by simp [hlen], ?_, ?_, ?_, ?_, ?_, ?_, ?_, ?_, ?_, hnn⟩
  · rw [← htot1, show cnt - i = (cnt - (i + 1)) + 1 from by omega]
    simp [many]
  · rw [← htot2, show cnt - i = (cnt - (i + 1)) + 1 from by omega]
    simp [many]
  · exact hm3.below hbel (by omega)
  · exact (hbz.grown hg3 (by simp; omega)).below hbel hwb
  · exact hb4.set_ 3 _
  · exact ownsRow_setCell_below ho4 (by simp) _
  · have h1 := hownn.kept hg3 (.inr (fun e => by have := hltn g e; omega))
    have h2 := (h1.alloc o).kept hg4 (by
      rcases own_ne hownn hown (by decide) with h | h
      · exact .inl h
      · exact .inr h)
    exact ownsRow_setCell_below h2 (by simp) _
  · refine JNCs.snoc (JNC.keep ?_ ?_ _ _ hj3) items xs (JNCs.keep ?_ ?_ items xs hjs)
    · intro b ⟨hb1, hb2⟩
      refine ⟨by omega, by rw [hsz5]; omega, hown4 b hb2 (fun e => ?_), fun e => ?_⟩
      · have := hsg b e.symm; omega
      · have := hltn b e.symm; omega
    · intro p ⟨hp1, hp2⟩
      exact hkeep p (by omega) hp2 (fun e => by have := hsg p e.symm; omega)
    · intro b ⟨hb1, hb2, hb3, hb4⟩
      exact ⟨hb1, by rw [hsz5]; omega, hown4 b (by omega) hb3, hb4⟩
    · intro p ⟨hp1, hp2, hp3, hp4⟩
      rw [hkeep p hp1 (by omega) hp3]
      exact hg3.block p hp2 (fun e => by injection e; omega)
  · exact grownBy_then (grownBy_trans hgr hg3) (hbel.mono (by omega))

/-- All values are there: they are a list. -/
theorem LoopRel.done {w : World} {bn nn : Nat} {cnt : Nat} {f : List UInt8 → Int → JT × List UInt8 × Int} {total : List JT × List UInt8 × Int} {i : Nat} {wr : World}
    {items : List JT} {code' : List UInt8} {left' : Int} {A : Option Addr} {c : Nat} {A' : Option Addr} {c' : Nat} {xs : List Value}
    (hwb : w.heap.size < bn) (hi : i = cnt) (hlen : items.length = i)
    (htot1 : items ++ (many f (cnt - i) code' left').1 = total.1) (htot2 : (many f (cnt - i) code' left').2 = total.2)
    (hown : wr.ownsRow (bn + 1) 30 4 (.slice A i c) i xs) (hownn : wr.ownsRow (bn + 1) 9 1 (.slice A' nn c') nn ((namesTo nn).map S))
    (hjs : JNCs wr (Kept bn (.slice A i c) (.slice A' nn c') wr) items xs) (v0 v1 v2 v3 : Value) :
    items = total.1 ∧ (code', left') = total.2 ∧ Row (put4 wr w.heap.size v0 v1 v2 v3) (fun b => w.heap.size ≤ b ∧ b < (put4 wr w.heap.size v0 v1 v2 v3).heap.size) 4 A items.length xs ∧
      Row (put4 wr w.heap.size v0 v1 v2 v3) (fun b => w.heap.size ≤ b ∧ b < (put4 wr w.heap.size v0 v1 v2 v3).heap.size) 1 A' nn ((namesTo nn).map S) ∧
      JNCs (put4 wr w.heap.size v0 v1 v2 v3) (fun b => w.heap.size ≤ b ∧ b < (put4 wr w.heap.size v0 v1 v2 v3).heap.size) items xs := by
  subst hi
  simp only [Nat.sub_self, many, List.append_nil] at htot1 htot2
  have hsz := put4_size wr w.heap.size v0 v1 v2 v3
  have hk : ∀ p : Nat, w.heap.size < p → (put4 wr w.heap.size v0 v1 v2 v3).heap[p]? = wr.heap[p]? := fun p hp => put4_old (by omega) v0 v1 v2 v3
  refine ⟨htot1, htot2, ?_, ?_, ?_⟩
  · rw [hlen]
    refine ((Row.of_own hown).keep fun p hp => hk p ?_).more fun b hb => ⟨?_, ?_⟩
    · have := hp.2.1; omega
    · have := hb.2.1; omega
    · rw [hsz]; exact hb.2.2
  · refine ((Row.of_own hownn).keep fun p hp => hk p ?_).more fun b hb => ⟨?_, ?_⟩
    · have := hp.2.1; omega
    · have := hb.2.1; omega
    · rw [hsz]; exact hb.2.2
  · refine JNCs.keep ?_ ?_ items xs hjs
    · intro b hb; exact ⟨by have := hb.1; omega, by rw [hsz]; exact hb.2.1⟩
    · intro p hp; exact hk p (by have := hp.1; omega)

theorem base_ok {wr w3 : World} {r : Option Nat} {bn : Nat} {o : Obj} (h : bn < wr.heap.size) (hg : wr.drew.grownBy w3 r) : bn + 1 ≤ (w3.alloc o).heap.size := by
  have h1 : wr.heap.size ≤ w3.heap.size := hg.size
  have h2 : (w3.alloc o).heap.size = w3.heap.size + 1 := by simp
  omega
set_option maxRecDepth 100000 in
set_option maxHeartbeats 2000000 in
theorem node_arr (d : Nat) (hd4 : d ≤ 4) (w : World) (g : Nat) (code : List UInt8) (left deep : Int) (hdeep : deep = 4 - d) 
    (ih : ∀ (w : World) (code : List UInt8) (left : Int), MadeAt w g code left → Calls Tryd.prog 25 #[.pointer (some ⟨g, 0, none⟩), I (IntKind.i64.wrap (deep + 1))] w (NodePost g w (node d code left)))
    (hk6 : 6 ≤ hd code % 10) (hk7 : hd code % 10 ≤ 7) (hpos : 1 ≤ w64 (left - 1)) (h : MadeAt w g code left) :
    Calls Tryd.prog 25 #[.pointer (some ⟨g, 0, none⟩), I deep] w (NodePost g w (node (d + 1) code left)) := by
  have hl := (h.alloc (Obj.cells #[.int .i64 0, .string ⟨#[]⟩, .slice none 0 0, .slice none 0 0] 30)).left
  obtain ⟨hl1, hl2⟩ := hl
  have HF := hid (h.fresh #[.int .i64 0, .string ⟨#[]⟩, .slice none 0 0, .slice none 0 0] (w64 (left - 1)))
  have IH := hid ih
  clear ih
  have h1 := hd_0 code
  have h2 := hd_255 code
  have h1' := hd_0 code.tail
  have h2' := hd_255 code.tail
  have hw := w64_eq (left - 1)
  have hdp : decide (5 ≤ deep) = false := decide_eq_false (by omega)
  have hd0 : 0 ≤ deep := by omega
  have hd5 : deep ≤ 4 := by omega
  have hlt0 : decide (w64 (left - 1) ≤ 0) = false := decide_eq_false (by omega)
  have HDE := hid hdeep
  clear hdeep
  have HGL := hid h.lt
  go_enter Tryd.func25, Tryd.ntmps25
  go_wp2_with fail
  obtain ⟨f1, f2, f3⟩ := HF.out
  refine (byte_any _ _ _ _ f1).mono ?_
  rintro e w1 ⟨rfl, hm1, hg1⟩
  have hb1 := f2.grown hg1 (by have := HGL.out; simp; omega)
  have hg2 := grownBy_trans f3 hg1
  have hl1 := hm1.left.1
  clear f1 f2 f3 hg1
  go_wp2_with fail
  refine (byte_any _ _ _ _ (hm1.alloc _)).mono ?_
  rintro e w2 ⟨rfl, hm2, hg3⟩
  have hb2 := (Blk.new w1 30 _).grown hg3 (by have := hm1.lt; simp; omega)
  have hbz := (hb1.alloc _).grown hg3 (by have := HGL.out; simp; omega)
  have hg4 := grownBy_trans (grownBy_alloc hg2 _) hg3
  clear hg3
  go_wp2_with fail
  have hbn1 : w.heap.size < w1.heap.size := hb1.lt
  have HBN := hid hbn1
  clear hbn1
  go_loopw [7, 63] (fun v7 v63 wr => ∃ i : Nat, v63 = I i ∧ LoopRel w g w1.heap.size 0 4 (hd code.tail % 5).toNat (node d) (many (node d) (hd code.tail % 5).toNat code.tail.tail (w64 (left - 1))) i wr) (fun _ v _ => (5 - intOf v).toNat)
  case atStart =>
    exact ⟨0, rfl, [], _, _, none, 0, none, 0, [], by omega, rfl, by simp, by simp, hm2, hbz, hb2, World.ownsRow_nil _ _ _ _, World.ownsRow_nil _ _ _ _, rfl, hg4, fun _ => ⟨rfl, rfl⟩⟩
  case round =>
    obtain ⟨i, rfl, items, code', left', A, c, A', c', xs, hicnt, hlen, htot1, htot2, hmr, hbzr, hbr, hown, hownn, hjs, hgr, hnn⟩ := hrel
    have HNN := hid hnn
    clear hnn
    have HT1 := hid htot1
    have HT2 := hid htot2
    have HLEN := hid hlen
    clear htot1 htot2 hlen
    by_cases hi : (i : Int) < hd code.tail % 5
    · have hlt64 : decide ((i : Int) < hd code.tail % 5) = true := decide_eq_true hi
      obtain ⟨e0, e1, e2, e3, q0, q1, q2, q3⟩ := hbr.four
      have hone : ∀ (w3 : World) (c0 c1 c2 c3 : Value), JNC w3 (fun b => wr.heap.size ≤ b ∧ b < w3.heap.size) (node d code' left').1 [c0, c1, c2, c3] → ∀ u ∈ [c0, c1, c2, c3], u.oneCell' = true := fun w3 c0 c1 c2 c3 h => h.one
      have HONE := hid hone
      clear hone
      have hbl : w1.heap.size < wr.heap.size := hbr.lt
      have HBL := hid hbl
      clear hbl
      have HNE : Hid (some w1.heap.size ≠ some g) := by
        have h1 := HGL.out
        have h2 := HBN.out
        intro e; injection e; omega
      have HNO : Hid (Value.ownBlock (.slice A i c) ≠ some g) := fun e => by
        have h1 := HGL.out
        have h2 := HBN.out
        exact own_past hown (by omega) e.symm
      have HIM : Hid (i + 1 ≤ 1000000) := by show i + 1 ≤ _; omega
      have HIC : Hid (i + 1 ≤ (hd code.tail % 5).toNat) := by show i + 1 ≤ _; omega
      go_upto_region 21 with fail
      go_region_law
        (first
          | (go_simp
             go_at_call 25
             refine (IH.out _ _ _ hmr.drew).mono ?_
             rintro e w3 ⟨c0, c1, c2, c3, rfl, hj3, hm3, hg3⟩
             have hb3 := hbr.drew.grown hg3 (HNE.out)
             have ho3 := (own_drew hown).kept hg3 (.inr (HNO.out))
             have hs3 := hb3.four.2.2.2.1
             have hs3' := fun o => (hb3.alloc o).four.2.2.2.1)
          | (refine step_app rfl _ _ rfl elem28 rfl (ho3.alloc _) rfl (Reads.blk (P := fun _ => True) (Blk.new w3 30 #[c0, c1, c2, c3]) trivial rfl) (HONE.out _ _ _ _ _ hj3) (HIM.out) (base_ok HBL.out hg3) ?_
             intro A4 c4 w4 ho4 hg4 hat4
             have hb4 := (hb3.alloc _).grown hg4 (own_past hown (Nat.lt_succ_self _))
             have hs4 := hb4.four.2.2.2.1
             have hf4 := hb4.frozen 3))
      all_goals
        go_wp2_with fail
        go_roundw
        case rel => exact ⟨i + 1, I_nat (by omega), LoopRel.step HGL.out HBN.out HIC.out HLEN.out HT1.out HT2.out hbzr hbr hown hownn hjs hgr HNN.out hj3 hm3 (grownBy_of_drew hg3) ho4 hg4 hat4⟩
        case measure => simp [intOf]; omega
    · obtain ⟨z0, z1, z2, z3, y0, y1, y2, y3⟩ := hbzr.four
      obtain ⟨e0, e1, e2, e3, q0, q1, q2, q3⟩ := hbr.four
      obtain ⟨rfl, rfl⟩ := HNN.out rfl
      have hfin : NodePost g w (node (d + 1) code left) (.returned (.agg #[I 4, S [], .slice none 0 0, .slice A i c])) (put4 wr w.heap.size (I 4) (S []) (.slice none 0 0) (.slice A i c)) := by
        obtain ⟨t1, t2, t3, t4, t5⟩ := LoopRel.done HBN.out (by omega) HLEN.out HT1.out HT2.out hown hownn hjs (I 4) (S []) (.slice none 0 0) (.slice A i c)
        have hnode : node (d + 1) code left = (.arr (many (node d) (hd code.tail % 5).toNat code.tail.tail (w64 (left - 1))).1, (many (node d) (hd code.tail % 5).toNat code.tail.tail (w64 (left - 1))).2) := by
          rw [node, if_neg (by omega), if_neg (by omega), if_neg (by omega)]
        rw [hnode, ← t1, ← t2]
        refine ⟨_, _, _, _, rfl, ⟨A, c, xs, by rw [HLEN.out], t3, t5⟩, hmr.below (below_put4 (B := w.heap.size) (Nat.le_refl _) _ _ _ _) HGL.out, grownBy_then hgr (below_put4 (Nat.le_refl _) _ _ _ _)⟩
      have HFIN := hid hfin
      clear hfin
      go_wp2_with fail
      exact bodyPost_ret (v := .agg #[I 4, S [], .slice none 0 0, .slice A i c]) (by simp [results, Tryd.results25, go_sem, z0, z1, z2, z3]) rfl HFIN.out

end Go.Proofs.YtbfadghogjldcaaDoor

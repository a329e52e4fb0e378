/- The walk of the maker's 'node' where it makes an object. -/
import Derived.Test.YtbfadghogjldcaaDoorNode2
namespace Go.Proofs.YtbfadghogjldcaaDoor
open Go.RowKit
set_option linter.unusedVariables false
set_option linter.unusedSimpArgs false

/-- One name more. -/
theorem LoopRel.name {w : World} {g bn : Nat} {cnt : Nat} {f : List UInt8 → Int → JT × List UInt8 × Int} {total : List JT × List UInt8 × Int} {i : Nat} {wr : World}
    {items : List JT} {code' : List UInt8} {left' : Int} {A : Option Addr} {c : Nat} {A' : Option Addr} {c' : Nat} {xs : List Value}
    (hgw : g < w.heap.size) (hwb : w.heap.size < bn) (hi : i ≤ cnt) (hlen : items.length = i)
    (htot1 : items ++ (many f (cnt - i) code' left').1 = total.1) (htot2 : (many f (cnt - i) code' left').2 = total.2) (hmr : MadeAt wr g code' left')
    (hbz : Blk wr w.heap.size 30 #[.int .i64 0, .string ⟨#[]⟩, .slice none 0 0, .slice none 0 0])
    (hbn : Blk wr bn 30 #[I 5, .string ⟨#[]⟩, .slice A' i c', .slice A i c]) (hown : wr.ownsRow (bn + 1) 30 4 (.slice A i c) i xs)
    (hjs : JNCs wr (Kept bn (.slice A i c) (.slice A' i c') wr) items xs) (hgr : w.grownBy wr (some g)) (hltn : ∀ k, Value.ownBlock (.slice A' i c') = some k → bn + 1 ≤ k ∧ k < wr.heap.size)
    (hne : Value.ownBlock (.slice A i c) = none ∨ Value.ownBlock (.slice A i c) ≠ Value.ownBlock (.slice A' i c'))
    {o1 o2 : Obj} {w4 : World} {A4 : Option Addr} {c4 : Nat} (ho4 : w4.ownsRow (bn + 1) 9 1 (.slice A4 (i + 1) c4) (i + 1) ((namesTo (i + 1)).map S)) (hg4 : ((wr.alloc o1).alloc o2).grownBy w4 (Value.ownBlock (.slice A' i c')))
    (hat : Value.ownBlock (.slice A4 (i + 1) c4) = Value.ownBlock (.slice A' i c') ∨ Value.ownBlock (.slice A4 (i + 1) c4) = some ((wr.alloc o1).alloc o2).heap.size) :
    LoopRel w g bn (i + 1) 5 cnt f total i (w4.setCell ⟨bn, 2, none⟩ (.slice A4 (i + 1) c4)) := by
  have hsz4 := hg4.size
  have hsa : ((wr.alloc o1).alloc o2).heap.size = wr.heap.size + 2 := by simp
  rw [hsa] at hsz4 hat
  have hbnlt := hbn.lt
  have hlt := hown.lt
  have hbel : Below bn wr (w4.setCell ⟨bn, 2, none⟩ (.slice A4 (i + 1) c4)) := by
    have h1 : Below bn wr (wr.alloc o1) := (Below.refl _ _).alloc (by omega) o1
    have h2 : Below bn wr ((wr.alloc o1).alloc o2) := h1.alloc (by simp; omega) o2
    have h3 : Below bn wr w4 := h2.grown hg4 (by rw [hsa]; omega) (fun k hk => by have := hltn k hk; omega)
    exact h3.setCell (p := ⟨bn, 2, none⟩) (Nat.le_refl _) _
  have hsz5 : (w4.setCell ⟨bn, 2, none⟩ (.slice A4 (i + 1) c4)).heap.size = w4.heap.size := by simp [World.setCell]
  have hb4 := ((hbn.alloc o1).alloc o2).grown hg4 (fun e => by have := hltn bn e.symm; omega)
  have hkeep : ∀ p : Nat, bn < p → p < wr.heap.size → some p ≠ Value.ownBlock (.slice A' i c') → (w4.setCell ⟨bn, 2, none⟩ (.slice A4 (i + 1) c4)).heap[p]? = wr.heap[p]? := by
    intro p hp1 hp2 hp3
    rw [Below.heap_setCell _ _ _ _ (show p ≠ bn by omega), hg4.block p (by rw [hsa]; omega) hp3, Below.heap_alloc _ _ _ (by simp; omega), Below.heap_alloc _ _ _ hp2]
  have hown4 : ∀ b, b < wr.heap.size → some b ≠ Value.ownBlock (.slice A' i c') → some b ≠ Value.ownBlock (.slice A4 (i + 1) c4) := by
    intro b hb1 hb2 e
    rcases hat with h | h
    · exact hb2 (e.trans h)
    · rw [h] at e
      injection e with e
      omega
  refine ⟨items, code', left', A, c, A4, c4, xs, hi, hlen, htot1, htot2, ?_, ?_, ?_, ?_, ?_, ?_, ?_, fun h => by omega⟩
  · exact hmr.below hbel (by omega)
  · exact hbz.below hbel hwb
  · exact hb4.set_ 2 _
  · have h2 := ((hown.alloc o1).alloc o2).kept hg4 hne
    exact ownsRow_setCell_below h2 (by simp) _
  · exact ownsRow_setCell_below ho4 (by simp) _
  · refine JNCs.keep ?_ ?_ items xs hjs
    · intro b ⟨hb1, hb2, hb3, hb4⟩
      exact ⟨hb1, by rw [hsz5]; omega, hb3, hown4 b hb2 hb4⟩
    · intro p ⟨hp1, hp2, hp3, hp4⟩
      exact hkeep p hp1 hp2 hp4
  · exact grownBy_then hgr (hbel.mono (by omega))

theorem namesTo_succ (i : Nat) : (namesTo (i + 1)).map S = (namesTo i).map S ++ [S (nameAt i)] := by
  unfold namesTo
  rw [List.range_succ]
  simp
theorem namesTo_len (i : Nat) : (namesTo i).length = i := by simp [namesTo]
theorem base_ok2 {wr : World} {bn : Nat} {o1 o2 : Obj} (h : bn < wr.heap.size) : bn + 1 ≤ ((wr.alloc o1).alloc o2).heap.size := by
  have h2 : ((wr.alloc o1).alloc o2).heap.size = wr.heap.size + 2 := by simp
  omega
theorem name_str (i : Nat) : oneByte (107 + (i : Int)) = ⟨(nameAt i).toArray⟩ := by
  unfold oneByte nameAt
  rw [show ((107 : Int) + (i : Int)).toNat = 107 + i from by omega]

set_option maxRecDepth 100000 in
set_option maxHeartbeats 2000000 in
theorem node_obj (d : Nat) (hd4 : d ≤ 4) (w : World) (g : Nat) (code : List UInt8) (left deep : Int) (hdeep : deep = 4 - d) 
    (ih : ∀ (w : World) (code : List UInt8) (left : Int), MadeAt w g code left → Calls Tryd.prog 25 #[.pointer (some ⟨g, 0, none⟩), I (IntKind.i64.wrap (deep + 1))] w (NodePost g w (node d code left)))
    (hk6 : 6 ≤ hd code % 10) (hk8 : 8 ≤ hd code % 10) (hpos : 1 ≤ w64 (left - 1)) (h : MadeAt w g code left) :
    Calls Tryd.prog 25 #[.pointer (some ⟨g, 0, none⟩), I deep] w (NodePost g w (node (d + 1) code left)) := by
  have hl := (h.alloc (Obj.cells #[.int .i64 0, .string ⟨#[]⟩, .slice none 0 0, .slice none 0 0] 30)).left
  obtain ⟨hl1, hl2⟩ := hl
  have HF := hid (h.fresh #[.int .i64 0, .string ⟨#[]⟩, .slice none 0 0, .slice none 0 0] (w64 (left - 1)))
  have IH := hid ih
  clear ih
  have h1 := hd_0 code
  have h2 := hd_255 code
  have h1' := hd_0 code.tail
  have h2' := hd_255 code.tail
  have hw := w64_eq (left - 1)
  have hdp : decide (5 ≤ deep) = false := decide_eq_false (by omega)
  have hd0 : 0 ≤ deep := by omega
  have hd5 : deep ≤ 4 := by omega
  have hlt0 : decide (w64 (left - 1) ≤ 0) = false := decide_eq_false (by omega)
  have HDE := hid hdeep
  clear hdeep
  have HGL := hid h.lt
  go_enter Tryd.func25, Tryd.ntmps25
  go_wp2_with fail
  obtain ⟨f1, f2, f3⟩ := HF.out
  refine (byte_any _ _ _ _ f1).mono ?_
  rintro e w1 ⟨rfl, hm1, hg1⟩
  have hb1 := f2.grown hg1 (by have := HGL.out; simp; omega)
  have hg2 := grownBy_trans f3 hg1
  have hl1 := hm1.left.1
  clear f1 f2 f3 hg1
  go_wp2_with fail
  refine (byte_any _ _ _ _ (hm1.alloc _)).mono ?_
  rintro e w2 ⟨rfl, hm2, hg3⟩
  have hb2 := (Blk.new w1 30 _).grown hg3 (by have := hm1.lt; simp; omega)
  have hbz := (hb1.alloc _).grown hg3 (by have := HGL.out; simp; omega)
  have hg4 := grownBy_trans (grownBy_alloc hg2 _) hg3
  clear hg3
  go_wp2_with fail
  have hbn1 : w.heap.size < w1.heap.size := hb1.lt
  have HBN := hid hbn1
  clear hbn1
  go_loopw [7, 63] (fun v7 v63 wr => ∃ i : Nat, v63 = I i ∧ LoopRel w g w1.heap.size i 5 (hd code.tail % 5).toNat (node d) (many (node d) (hd code.tail % 5).toNat code.tail.tail (w64 (left - 1))) i wr) (fun _ v _ => (5 - intOf v).toNat)
  case atStart =>
    exact ⟨0, rfl, [], _, _, none, 0, none, 0, [], by omega, rfl, by simp, by simp, hm2, hbz, hb2, World.ownsRow_nil _ _ _ _, World.ownsRow_nil _ _ _ _, rfl, hg4, fun _ => ⟨rfl, rfl⟩⟩
  case round =>
    obtain ⟨i, rfl, items, code', left', A, c, A', c', xs, hicnt, hlen, htot1, htot2, hmr, hbzr, hbr, hown, hownn, hjs, hgr, hnn⟩ := hrel
    have HNN := hid hnn
    clear hnn
    have HT1 := hid htot1
    have HT2 := hid htot2
    have HLEN := hid hlen
    clear htot1 htot2 hlen
    by_cases hi : (i : Int) < hd code.tail % 5
    · have hlt64 : decide ((i : Int) < hd code.tail % 5) = true := decide_eq_true hi
      obtain ⟨e0, e1, e2, e3, q0, q1, q2, q3⟩ := hbr.four
      have hi4 : (i : Int) ≤ 4 := by omega
      have HIM : Hid (i + 1 ≤ 1000000) := by show i + 1 ≤ _; omega
      have hbl : w1.heap.size < wr.heap.size := hbr.lt
      have HBL := hid hbl
      clear hbl
      have hcv := conv_one wr (107 + (i : Int))
      go_upto_if 68 with fail
      go_cut [7] (fun v7 wc => v7 = I i ∧ LoopRel w g w1.heap.size (i + 1) 5 (hd code.tail % 5).toNat (node d) (many (node d) (hd code.tail % 5).toNat code.tail.tail (w64 (left - 1))) i wc)
      case first =>
        go_wp2_with (at_builtin; refine wpList_app rfl _ _ rfl elem27 rfl ((hownn.alloc _).alloc _) rfl (Reads.blk (P := fun _ => True) (Blk.new2 wr (.cells #[.int .u8 (107 + (i : Int))] 5) 9 #[.string (oneByte (107 + (i : Int)))]) trivial rfl) (by simp [Value.oneCell']) HIM.out (base_ok2 HBL.out) ?_; intro A4 c4 w4 ho4 hg4 hat4; have hb4 := ((hbr.alloc _).alloc _).grown hg4 (own_past hownn (Nat.lt_succ_self _)); have hs4 := hb4.four.2.2.1; have hf4 := hb4.frozen 2)
        go_meet
        case rel => exact ⟨rfl, LoopRel.name HGL.out HBN.out (by omega) HLEN.out HT1.out HT2.out hmr hbzr hbr hown hjs hgr hownn.lt (own_ne hown hownn (by decide)) (by rw [namesTo_succ]; rw [name_str] at ho4; exact ho4) hg4 hat4⟩
      case rest =>
        clear hcv e0 e1 e2 e3 q0 q1 q2 q3 hmr hbzr hbr hown hownn hjs hgr HLEN HT1 HT2 HNN HBL
        obtain ⟨rfl, items, code', left', A, c, A', c', xs, hicnt2, hlen, htot1, htot2, hmr, hbzr, hbr, hown, hownn, hjs, hgr, hnn⟩ := hcut
        have HNN := hid hnn
        have HT1 := hid htot1
        have HT2 := hid htot2
        have HLEN := hid hlen
        clear htot1 htot2 hlen hnn
        obtain ⟨wr, rfl⟩ : ∃ x, x = wc := ⟨_, rfl⟩
        obtain ⟨e0, e1, e2, e3, q0, q1, q2, q3⟩ := hbr.four
        have hone : ∀ (w3 : World) (c0 c1 c2 c3 : Value), JNC w3 (fun b => wr.heap.size ≤ b ∧ b < w3.heap.size) (node d code' left').1 [c0, c1, c2, c3] → ∀ u ∈ [c0, c1, c2, c3], u.oneCell' = true := fun w3 c0 c1 c2 c3 h => h.one
        have HONE := hid hone
        clear hone
        have hbl : w1.heap.size < wr.heap.size := hbr.lt
        have HBL := hid hbl
        clear hbl
        have HNE : Hid (some w1.heap.size ≠ some g) := by
          have h1 := HGL.out
          have h2 := HBN.out
          intro e; injection e; omega
        have HNO : Hid (Value.ownBlock (.slice A i c) ≠ some g) := fun e => by
          have h1 := HGL.out
          have h2 := HBN.out
          exact own_past hown (by omega) e.symm
        have HIM : Hid (i + 1 ≤ 1000000) := by show i + 1 ≤ _; omega
        have HIC : Hid (i + 1 ≤ (hd code.tail % 5).toNat) := by show i + 1 ≤ _; omega
        go_upto_region 21 with fail
        go_region_law
          (first
            | (go_simp
               go_at_call 25
               refine (IH.out _ _ _ hmr.drew).mono ?_
               rintro e w3 ⟨c0, c1, c2, c3, rfl, hj3, hm3, hg3⟩
               have hb3 := hbr.drew.grown hg3 (HNE.out)
               have ho3 := (own_drew hown).kept hg3 (.inr (HNO.out))
               have hs3 := hb3.four.2.2.2.1
               have hs3' := fun o => (hb3.alloc o).four.2.2.2.1)
            | (refine step_app rfl _ _ rfl elem28 rfl (ho3.alloc _) rfl (Reads.blk (P := fun _ => True) (Blk.new w3 30 #[c0, c1, c2, c3]) trivial rfl) (HONE.out _ _ _ _ _ hj3) (HIM.out) (base_ok HBL.out hg3) ?_
               intro A4 c4 w4 ho4 hg4 hat4
               have hb4 := (hb3.alloc _).grown hg4 (own_past hown (Nat.lt_succ_self _))
               have hs4 := hb4.four.2.2.2.1
               have hf4 := hb4.frozen 3))

        all_goals
          go_wp2_with fail
          go_roundw
          case rel => exact ⟨i + 1, I_nat (by omega), LoopRel.step HGL.out HBN.out HIC.out HLEN.out HT1.out HT2.out hbzr hbr hown hownn hjs hgr HNN.out hj3 hm3 (grownBy_of_drew hg3) ho4 hg4 hat4⟩
          case measure => simp [intOf]; omega
    · obtain ⟨z0, z1, z2, z3, y0, y1, y2, y3⟩ := hbzr.four
      obtain ⟨e0, e1, e2, e3, q0, q1, q2, q3⟩ := hbr.four
      have hfin : NodePost g w (node (d + 1) code left) (.returned (.agg #[I 5, S [], .slice A' i c', .slice A i c])) (put4 wr w.heap.size (I 5) (S []) (.slice A' i c') (.slice A i c)) := by
        obtain ⟨t1, t2, t3, t4, t5⟩ := LoopRel.done HBN.out (by omega) HLEN.out HT1.out HT2.out hown hownn hjs (I 5) (S []) (.slice A' i c') (.slice A i c)
        have hnode : node (d + 1) code left = (.obj (namesTo (hd code.tail % 5).toNat) (many (node d) (hd code.tail % 5).toNat code.tail.tail (w64 (left - 1))).1, (many (node d) (hd code.tail % 5).toNat code.tail.tail (w64 (left - 1))).2) := by
          rw [node, if_neg (by omega), if_neg (by omega), if_pos (by omega)]
        obtain rfl : i = (hd code.tail % 5).toNat := by omega
        rw [hnode, ← t1, ← t2]
        refine ⟨_, _, _, _, rfl, ⟨A, c, A', c', xs, by rw [HLEN.out, namesTo_len], by rw [namesTo_len]; exact t4, t3, t5⟩, hmr.below (below_put4 (B := w.heap.size) (Nat.le_refl _) _ _ _ _) HGL.out, grownBy_then hgr (below_put4 (Nat.le_refl _) _ _ _ _)⟩
      have HFIN := hid hfin
      clear hfin
      go_wp2_with fail
      exact bodyPost_ret (v := .agg #[I 5, S [], .slice A' i c', .slice A i c]) (by simp [results, Tryd.results25, go_sem, z0, z1, z2, z3]) rfl HFIN.out

end Go.Proofs.YtbfadghogjldcaaDoor

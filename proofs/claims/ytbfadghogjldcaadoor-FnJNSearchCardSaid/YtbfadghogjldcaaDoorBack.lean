/- The walk of 'backtrack'. -/
import Derived.Test.YtbfadghogjldcaaDoorMeth
import Derived.Test.YtbfadghogjldcaaDoorState
namespace Go.Proofs.YtbfadghogjldcaaDoor
open Go.RowKit
set_option linter.unusedVariables false
set_option linter.unusedSimpArgs false

/-- What 'backtrack' answers. -/
def BackPost (ns : List MN) (base : Nat) (B : Option Addr) (c2 : Nat) (X : List Nat) (w : World) (e : Ending) (w' : World) : Prop :=
  match back ns X.length with
  | none => e = .returned (.tuple #[.bool false, I 0]) ∧ Below w.heap.size w w'
  | some j => ∃ x, X[j]? = some x ∧ e = .returned (.tuple #[.bool true, I (j + 1)]) ∧ w.grownBy w' (Value.ownBlock (.slice B X.length c2)) ∧
      w'.ownsRow base 3 1 (.slice B X.length c2) X.length ((X.set j (x + 1)).map fun x : Nat => I x)

def rowX (X : List Nat) : List Value := X.map fun x : Nat => I x

theorem below_undrew {B : Nat} {a w : World} (h : Below B a.drew w) : Below B a w := ⟨h.os, h.tape, h.output, h.size, h.block⟩
theorem heap_size_alloc (w : World) (o : Obj) : (w.alloc o).heap.size = w.heap.size + 1 := by simp

theorem own_frozen {w : World} {b : Nat} {e : TypeId} {sz n c g : Nat} {xs : List Value} (h : w.ownsRow b e sz (.slice (some ⟨g, 0, none⟩) n c) n xs) (i : Nat) : w.frozen? ⟨g, i, none⟩ = false := by
  rcases h.2 with ⟨hv, _⟩ | ⟨g', cap, cur, hv, _, hg, _⟩
  · cases hv
  · injection hv with hv
    injection hv with hv
    injection hv with hv
    subst hv
    simp [World.frozen?, hg]

theorem own_set {w : World} {b : Nat} {e : TypeId} {n c g : Nat} {xs : List Value} (h : w.ownsRow b e 1 (.slice (some ⟨g, 0, none⟩) n c) n xs) {i : Nat} (hi : i < n) (u : Value) :
    (w.setCell ⟨g, i, none⟩ u).ownsRow b e 1 (.slice (some ⟨g, 0, none⟩) n c) n (xs.set i u) := by
  refine ⟨by simpa using h.1, ?_⟩
  rcases h.2 with ⟨hv, _⟩ | ⟨g', cap, cur, hv, hb, hg, hn, hc, hs, ht⟩
  · cases hv
  · have hgg : g' = g := by
      injection hv with hv
      injection hv with hv
      injection hv with hv
      exact hv.symm
    have hcc : cap = c := by
      injection hv with _ _ hv
      exact hv.symm
    subst hgg hcc
    refine .inr ⟨g', cap, cur.setIfInBounds i u, rfl, hb, (Blk.set_ (w := w) (g := g') (t := e) hg i u), hn, hc, by simpa using hs, ?_⟩
    rw [Array.toList_setIfInBounds, List.take_set, ht]

theorem meth_any_next (w : World) : (method 249 76 (.agg #[]) "MatchNext").run Tryd.prog w = .ok (91, .agg #[]) w := by kernel_rfl
theorem meth_rune_next (o s : Int) (w : World) : (method 249 74 (.agg #[R o, R s]) "MatchNext").run Tryd.prog w = .ok (89, .agg #[R o, R s]) w := by kernel_rfl
theorem meth_any_match (w : World) : (method 249 76 (.agg #[]) "Match").run Tryd.prog w = .ok (90, .agg #[]) w := by kernel_rfl
theorem meth_rune_match (o s : Int) (w : World) : (method 249 74 (.agg #[R o, R s]) "Match").run Tryd.prog w = .ok (88, .agg #[R o, R s]) w := by kernel_rfl

set_option maxRecDepth 100000 in
set_option maxHeartbeats 2000000 in
theorem back_walk (fold : Bool) (ns : List MN) (s : List UInt8) (X : List Nat) (A B : Option Addr) (c c2 base : Nat) (k : Int) (P : Nat → Prop) (w : World)
    (hA : Reads w P 1 A ns.length (ns.map MN.val)) (hP : ∀ b, P b → b < w.heap.size) (hX : w.ownsRow base 3 1 (.slice B X.length c2) X.length (rowX X)) (hXn : X.length ≤ ns.length) (hn : ns.length ≤ 1000) (hk : (X.length : Int) - 1 ≤ k) (hk2 : k ≤ 1000)
    (hs : s.length ≤ 1000) (hx : ∀ x ∈ X, x < s.length) (hb : ∀ c ∈ s, c.toNat < 128) :
    Calls Tryd.prog 43 #[.agg #[.slice A ns.length c, col fold, R 124], S s, I k, .slice B X.length c2] w (BackPost ns base B c2 X w) := by
  have HX := hid hx
  have HB := hid hb
  have HP := hid hP
  clear hx hb hP
  have HK : Hid ((X.length : Int) ≤ k ∨ k = (X.length : Int) - 1) := by show _ ∨ _; omega
  by_cases hkm : (X.length : Int) ≤ k
  · have hkd : decide ((X.length : Int) ≤ k) = true := decide_eq_true hkm
    go_enter Tryd.func43, Tryd.ntmps43
    go_wp2_with fail
    go_loopw [2] (fun v2 wr => ∃ q : Nat, v2 = I ((q : Int) - 1) ∧ q ≤ X.length ∧ Hid (back ns X.length = back ns q) ∧ Below (w.heap.size + 1) (w.alloc (.cells #[.slice A ns.length c, col fold, R 124] 60)) wr) (fun v _ => (intOf v + 1).toNat)
    case atStart => exact ⟨X.length, by simp, Nat.le_refl _, rfl, Below.refl _ _⟩
    case round =>
      obtain ⟨q, rfl, hq, hbk, hbel⟩ := hrel
      rcases q with _ | q
      · go_wp2_with fail
        go_ret2
        have : back ns X.length = none := hbk.out
        unfold BackPost
        rw [this]
        exact ⟨rfl, ((Below.refl _ _).alloc (Nat.le_refl _) _).trans (hbel.mono (by omega))⟩
      · have e1 : ((q + 1 : Nat) : Int) - 1 = (q : Int) := by omega
        rw [e1]
        clear e1
        obtain ⟨g, cap, hv, hge, hgl⟩ := hX.form (by omega)
        injection hv with hv _ hcc
        subst hv
        clear hcc
        obtain ⟨x, hxq⟩ : ∃ x, X[q]? = some x := ⟨_, List.getElem?_eq_getElem (by omega)⟩
        obtain ⟨m, hm⟩ : ∃ m, ns[q]? = some m := ⟨_, List.getElem?_eq_getElem (by omega)⟩
        have hxs : x < s.length := HX.out x (List.mem_of_getElem? hxq)
        obtain ⟨ch, tl, hd⟩ : ∃ ch tl, s.drop x = ch :: tl := ⟨_, _, List.drop_eq_getElem_cons hxs⟩
        have hch : ch.toNat < 128 := HB.out ch (List.mem_of_mem_drop (by rw [hd]; simp))
        obtain ⟨ad, u, rfl, hadP, hu, hcell⟩ := hA.at_ (k := q) (by omega)
        have hum : u = MN.val m := by
          rw [List.getElem?_map, hm] at hu
          simpa using hu.symm
        subst hum
        have hbelw : Below w.heap.size w wr := ((Below.refl _ _).alloc (Nat.le_refl _) _).trans (hbel.mono (by omega))
        have hcell' : wr.cell? (ad.add q) = some (MN.val m) := by
          rw [hbelw.cell (by rw [block_of_add]; exact HP.out _ hadP)]; exact hcell
        have hXr : wr.ownsRow base 3 1 (.slice (some ⟨g, 0, none⟩) X.length c2) X.length (rowX X) := hX.kept (row := none) ⟨hbelw.os, hbelw.tape, hbelw.output, hbelw.size, fun k hk _ => hbelw.block k hk⟩ (Classical.em _)
        have hxc : wr.cell? ⟨g, q, none⟩ = some (I x) := by
          have := hXr.cells (g := g) rfl q (I x) (by simp [rowX, hxq])
          rwa [add_zero_off] at this
        have hbox : Blk wr w.heap.size 60 #[.slice (some ad) ns.length c, col fold, R 124] := (Blk.new w 60 _).below hbel (by omega)
        have hb0 := hbox.cell 0
        have hb1 := hbox.cell 1
        simp at hb0 hb1
        have hq1 : (q : Int) < X.length := by omega
        have hq2 : (q : Int) < ns.length := by omega
        have hx1 : (x : Int) ≤ s.length := by omega
        have h65 : ((ch.toNat : Int) == 65533) = false := by rw [beq_eq_false_iff_ne]; omega
        have HCH := hid hch
        have HD := hid hd
        have HM := hid hm
        have HXQ := hid hxq
        have HXS := hid hxs
        clear hch hd hm hxq hxs hu hcell hadP hgl
        go_wp2_with fail
        rw [drop_str, HD.out]
        refine (decode_cons ch tl _ HCH.out).mono ?_
        rintro e wz ⟨rfl, rfl⟩
        cases m with
        | any =>
          have hcell2 : wr.cell? (ad.add q) = some (.iface 76 (.agg #[])) := hcell'
          clear hcell'
          go_upto_region 9 with fail
          have hmt := meth_any_next
          have hkeep3 : ∀ w3, Below wr.drew.heap.size wr.drew w3 → w3.ownsRow base 3 1 (.slice (some ⟨g, 0, none⟩) X.length c2) X.length (rowX X) := fun w3 hb3 => hXr.kept (row := none) ⟨hb3.os, hb3.tape, hb3.output, hb3.size, fun k hk _ => hb3.block k hk⟩ (Classical.em _)
          have hstep : ∀ w3, Below wr.drew.heap.size wr.drew w3 → BackPost ns base (some ⟨g, 0, none⟩) c2 X w (.returned (.tuple #[.bool true, I ((q : Int) + 1)])) (w3.setCell ⟨g, q, none⟩ (I ((x : Int) + 1))) := by
            intro w3 hb3
            have hbk2 : back ns X.length = some q := (hbk.out).trans (back_any HM.out)
            unfold BackPost
            rw [hbk2]
            refine ⟨x, HXQ.out, rfl, grownBy_setCell (grownBy_then (b := wr) ⟨hbelw.os, hbelw.tape, hbelw.output, hbelw.size, fun k hk _ => hbelw.block k hk⟩ ((below_undrew hb3).mono hbelw.size)) rfl _, ?_⟩
            have := own_set (hkeep3 w3 hb3) (i := q) (by omega) (I ((x : Int) + 1))
            rw [show (X.set q (x + 1)).map (fun x : Nat => I x) = (rowX X).set q (I ((x : Int) + 1)) by rw [List.map_set]; rfl]
            exact this
          have HKP := hid hkeep3
          clear hkeep3
          have HS := hid hstep
          clear hstep
          go_region_law (first | (go_simp; go_at_call 91; refine (any_next fold ch.toNat _).mono ?_; rintro e w3 ⟨rfl, hb3⟩))
          all_goals
            have hX3 := HKP.out w3 hb3
            have hf3 := own_frozen hX3 q
            have hc3 : w3.cell? ⟨g, q, none⟩ = some (I x) := by
              have := hX3.cells (g := g) rfl q (I x) (by simp [rowX, HXQ.out])
              rwa [add_zero_off] at this
            go_wp2_with fail
            go_ret2
            exact HS.out _ hb3
        | rune o k =>
          have hcell2 : wr.cell? (ad.add q) = some (.iface 74 (.agg #[R o, R k])) := hcell'
          clear hcell'
          go_upto_region 9 with fail
          have hmt := meth_rune_next
          go_region_law (first | (go_simp; go_at_call 89; refine (rune_next fold o k ch.toNat _).mono ?_; rintro e w3 ⟨rfl, hb3⟩))
          all_goals
            go_wp2_with fail
            go_roundw
            case rel => exact ⟨q, rfl, by omega, (hbk.out).trans (back_rune HM.out), hbel.trans ((below_undrew hb3).mono (by have := hbel.size; rw [heap_size_alloc] at this; exact this))⟩
            case measure => simp [intOf]
  · have hkd : decide ((X.length : Int) ≤ k) = false := decide_eq_false hkm
    go_enter Tryd.func43, Tryd.ntmps43
    go_wp2_with fail
    go_loopw [2] (fun v2 wr => ∃ q : Nat, v2 = I ((q : Int) - 1) ∧ q ≤ X.length ∧ Hid (back ns X.length = back ns q) ∧ Below (w.heap.size + 1) (w.alloc (.cells #[.slice A ns.length c, col fold, R 124] 60)) wr) (fun v _ => (intOf v + 1).toNat)
    case atStart => exact ⟨X.length, by simp; have := HK.out; omega, Nat.le_refl _, rfl, Below.refl _ _⟩
    case round =>
      obtain ⟨q, rfl, hq, hbk, hbel⟩ := hrel
      rcases q with _ | q
      · go_wp2_with fail
        go_ret2
        have : back ns X.length = none := hbk.out
        unfold BackPost
        rw [this]
        exact ⟨rfl, ((Below.refl _ _).alloc (Nat.le_refl _) _).trans (hbel.mono (by omega))⟩
      · have e1 : ((q + 1 : Nat) : Int) - 1 = (q : Int) := by omega
        rw [e1]
        clear e1
        obtain ⟨g, cap, hv, hge, hgl⟩ := hX.form (by omega)
        injection hv with hv _ hcc
        subst hv
        clear hcc
        obtain ⟨x, hxq⟩ : ∃ x, X[q]? = some x := ⟨_, List.getElem?_eq_getElem (by omega)⟩
        obtain ⟨m, hm⟩ : ∃ m, ns[q]? = some m := ⟨_, List.getElem?_eq_getElem (by omega)⟩
        have hxs : x < s.length := HX.out x (List.mem_of_getElem? hxq)
        obtain ⟨ch, tl, hd⟩ : ∃ ch tl, s.drop x = ch :: tl := ⟨_, _, List.drop_eq_getElem_cons hxs⟩
        have hch : ch.toNat < 128 := HB.out ch (List.mem_of_mem_drop (by rw [hd]; simp))
        obtain ⟨ad, u, rfl, hadP, hu, hcell⟩ := hA.at_ (k := q) (by omega)
        have hum : u = MN.val m := by
          rw [List.getElem?_map, hm] at hu
          simpa using hu.symm
        subst hum
        have hbelw : Below w.heap.size w wr := ((Below.refl _ _).alloc (Nat.le_refl _) _).trans (hbel.mono (by omega))
        have hcell' : wr.cell? (ad.add q) = some (MN.val m) := by
          rw [hbelw.cell (by rw [block_of_add]; exact HP.out _ hadP)]; exact hcell
        have hXr : wr.ownsRow base 3 1 (.slice (some ⟨g, 0, none⟩) X.length c2) X.length (rowX X) := hX.kept (row := none) ⟨hbelw.os, hbelw.tape, hbelw.output, hbelw.size, fun k hk _ => hbelw.block k hk⟩ (Classical.em _)
        have hxc : wr.cell? ⟨g, q, none⟩ = some (I x) := by
          have := hXr.cells (g := g) rfl q (I x) (by simp [rowX, hxq])
          rwa [add_zero_off] at this
        have hbox : Blk wr w.heap.size 60 #[.slice (some ad) ns.length c, col fold, R 124] := (Blk.new w 60 _).below hbel (by omega)
        have hb0 := hbox.cell 0
        have hb1 := hbox.cell 1
        simp at hb0 hb1
        have hq1 : (q : Int) < X.length := by omega
        have hq2 : (q : Int) < ns.length := by omega
        have hx1 : (x : Int) ≤ s.length := by omega
        have h65 : ((ch.toNat : Int) == 65533) = false := by rw [beq_eq_false_iff_ne]; omega
        have HCH := hid hch
        have HD := hid hd
        have HM := hid hm
        have HXQ := hid hxq
        have HXS := hid hxs
        clear hch hd hm hxq hxs hu hcell hadP hgl
        go_wp2_with fail
        rw [drop_str, HD.out]
        refine (decode_cons ch tl _ HCH.out).mono ?_
        rintro e wz ⟨rfl, rfl⟩
        cases m with
        | any =>
          have hcell2 : wr.cell? (ad.add q) = some (.iface 76 (.agg #[])) := hcell'
          clear hcell'
          go_upto_region 9 with fail
          have hmt := meth_any_next
          have hkeep3 : ∀ w3, Below wr.drew.heap.size wr.drew w3 → w3.ownsRow base 3 1 (.slice (some ⟨g, 0, none⟩) X.length c2) X.length (rowX X) := fun w3 hb3 => hXr.kept (row := none) ⟨hb3.os, hb3.tape, hb3.output, hb3.size, fun k hk _ => hb3.block k hk⟩ (Classical.em _)
          have hstep : ∀ w3, Below wr.drew.heap.size wr.drew w3 → BackPost ns base (some ⟨g, 0, none⟩) c2 X w (.returned (.tuple #[.bool true, I ((q : Int) + 1)])) (w3.setCell ⟨g, q, none⟩ (I ((x : Int) + 1))) := by
            intro w3 hb3
            have hbk2 : back ns X.length = some q := (hbk.out).trans (back_any HM.out)
            unfold BackPost
            rw [hbk2]
            refine ⟨x, HXQ.out, rfl, grownBy_setCell (grownBy_then (b := wr) ⟨hbelw.os, hbelw.tape, hbelw.output, hbelw.size, fun k hk _ => hbelw.block k hk⟩ ((below_undrew hb3).mono hbelw.size)) rfl _, ?_⟩
            have := own_set (hkeep3 w3 hb3) (i := q) (by omega) (I ((x : Int) + 1))
            rw [show (X.set q (x + 1)).map (fun x : Nat => I x) = (rowX X).set q (I ((x : Int) + 1)) by rw [List.map_set]; rfl]
            exact this
          have HKP := hid hkeep3
          clear hkeep3
          have HS := hid hstep
          clear hstep
          go_region_law (first | (go_simp; go_at_call 91; refine (any_next fold ch.toNat _).mono ?_; rintro e w3 ⟨rfl, hb3⟩))
          all_goals
            have hX3 := HKP.out w3 hb3
            have hf3 := own_frozen hX3 q
            have hc3 : w3.cell? ⟨g, q, none⟩ = some (I x) := by
              have := hX3.cells (g := g) rfl q (I x) (by simp [rowX, HXQ.out])
              rwa [add_zero_off] at this
            go_wp2_with fail
            go_ret2
            exact HS.out _ hb3
        | rune o k =>
          have hcell2 : wr.cell? (ad.add q) = some (.iface 74 (.agg #[R o, R k])) := hcell'
          clear hcell'
          go_upto_region 9 with fail
          have hmt := meth_rune_next
          go_region_law (first | (go_simp; go_at_call 89; refine (rune_next fold o k ch.toNat _).mono ?_; rintro e w3 ⟨rfl, hb3⟩))
          all_goals
            go_wp2_with fail
            go_roundw
            case rel => exact ⟨q, rfl, by omega, (hbk.out).trans (back_rune HM.out), hbel.trans ((below_undrew hb3).mono (by have := hbel.size; rw [heap_size_alloc] at this; exact this))⟩
            case measure => simp [intOf]

end Go.Proofs.YtbfadghogjldcaaDoor

/- The walk of 'FnJNSearch'. -/
import Derived.Test.YtbfadghogjldcaaDoorLaw6
import Derived.Test.YtbfadghogjldcaaDoorJFound
namespace Go.Proofs.YtbfadghogjldcaaDoor
open Go.RowKit
set_option linter.unusedVariables false
set_option linter.unusedSimpArgs false

mutual
theorem texts_short : ∀ (t : JT) (p : Txt), t.asc → ∀ x ∈ texts t p, x.2.length ≤ 1000
  | .leaf k s, p, h => by
    intro x hx
    simp only [texts] at hx
    split at hx
    · simp at hx; subst hx; exact h.1
    · simp at hx
  | .arr items, p, h => by simp only [texts]; exact textsA_short items p 0 h
  | .obj names items, p, h => by simp only [texts]; exact textsO_short items names p h
theorem textsA_short : ∀ (ts : List JT) (p : Txt) (i : Nat), JT.ascs ts → ∀ x ∈ textsA ts p i, x.2.length ≤ 1000
  | [], p, i, h => by simp [textsA]
  | t :: ts, p, i, h => by
    intro x hx
    simp only [textsA, List.mem_append] at hx
    rcases hx with hx | hx
    · exact texts_short t _ h.1 x hx
    · exact textsA_short ts p (i + 1) h.2 x hx
theorem textsO_short : ∀ (ts : List JT) (ns : List Txt) (p : Txt), JT.ascs ts → ∀ x ∈ textsO ts ns p, x.2.length ≤ 1000
  | [], ns, p, h => by simp [textsO]
  | t :: ts, [], p, h => by simp [textsO]
  | t :: ts, n :: ns, p, h => by
    intro x hx
    simp only [textsO, List.mem_append] at hx
    rcases hx with hx | hx
    · exact texts_short t _ h.1 x hx
    · exact textsO_short ts ns p h.2 x hx
end

theorem equal_any (L : List Txt) (A B : Option Addr) (c d b1 b2 : Nat) (w : World) (hl : L.length ≤ 100000) (h1 : w.ownsRow b1 9 1 (.slice A L.length c) L.length (L.map S)) (h2 : w.ownsRow b2 9 1 (.slice B L.length d) L.length (L.map S)) :
    Calls Tryd.prog 13 #[.slice A L.length c, .slice B L.length d] w fun e w' => e = .returned (.bool true) ∧ ∃ m, w' = w.drewN m := by
  rcases L with _ | ⟨x, L⟩
  · refine (Tryd.slices_Equal_string_empty A B c 0 d w (by omega)).mono ?_
    rintro e w' ⟨rfl, rfl⟩
    exact ⟨rfl, 0, rfl⟩
  · have hc : ∀ (b : Nat) (A : Option Addr) (c : Nat) (h : w.ownsRow b 9 1 (.slice A (x :: L).length c) (x :: L).length ((x :: L).map S)), ∃ g, A = some ⟨g, 0, none⟩ ∧ ∀ j, j < ((x :: L).map fun l : Txt => (⟨l.toArray⟩ : ByteArray)).length → w.cell? ⟨g, 0 + j, none⟩ = some (.string (((x :: L).map fun l : Txt => (⟨l.toArray⟩ : ByteArray)).getD j ByteArray.empty)) := by
      intro b A c h
      obtain ⟨g, cap, hv, _, _⟩ := h.form (by simp)
      injection hv with hv _ _
      subst hv
      refine ⟨g, rfl, fun j hj => ?_⟩
      have hj' : j < (x :: L).length := by simpa using hj
      have := h.cells (g := g) rfl j (S (x :: L)[j]) (by rw [List.getElem?_map, List.getElem?_eq_getElem hj']; rfl)
      rw [add_zero_off] at this
      rw [Nat.zero_add, this, List.getD_eq_getElem?_getD, List.getElem?_map, List.getElem?_eq_getElem hj']
      rfl
    obtain ⟨g1, rfl, k1⟩ := hc _ _ _ h1
    obtain ⟨g2, rfl, k2⟩ := hc _ _ _ h2
    refine (Tryd.slices_Equal_string g1 0 (x :: L).length c g2 0 (x :: L).length d _ _ w (by simp) (by simp) (by omega) (by omega) k1 k2).mono ?_
    rintro e w' ⟨rfl, m, rfl⟩
    exact ⟨by simp, m, rfl⟩

set_option maxRecDepth 100000 in
set_option maxHeartbeats 4000000 in
theorem search_walk (fold : Bool) (A1 A2 : Option Addr) (c1 c2 : Nat) (code1 code2 : List UInt8) (w : World) (hc1 : code1.length ≤ c1) (hc2 : code2.length ≤ c2) (hn1 : code1.length ≤ 2147483647) (hn2 : code2.length ≤ 2147483647)
    (hr1 : Reads w (· < w.heap.size) 1 A1 code1.length (code1.map U)) (hr2 : Reads w (· < w.heap.size) 1 A2 code2.length (code2.map U)) :
    Calls Tryd.prog 5 #[.slice A1 code1.length c1, .slice A2 code2.length c2, .bool fold] w fun e w' => e = .returned (.bool true) ∧ Below w.heap.size w w' := by
  have HJ : Hid (Calls Tryd.prog 11 #[.slice A1 code1.length c1] w (TreePost w (tree code1))) := jnNode_any w A1 c1 code1 hc1 hn1 hr1
  have HMK : Hid (∀ (w1 : World) (o : Obj), Below w.heap.size w w1 → MadeAt ((w1.alloc o).alloc (.cells #[.slice A2 code2.length c2, I 0] 25)) (w1.heap.size + 1) code2 0) := by
    intro w1 o hb1
    refine ⟨A2, c2, hc2, hn2, Blk.new2 w1 o 25 _, ?_⟩
    refine (hr2.keep fun p (hp : p.block < w.heap.size) => ?_).more fun b (hb : b < w.heap.size) => (by have := hb1.size; omega : b < w1.heap.size + 1)
    have hs := hb1.size
    rw [World.cell?_alloc_lt _ _ _ (by simp; omega), World.cell?_alloc_lt _ _ _ (by omega), hb1.cell hp]
  have HG : Hid (Good (tree code1) 3125 31250) := tree_good code1
  have HP5 : Hid ((patOf code2).length ≤ 12) := pat_len code2
  have HPA : Hid (∀ c ∈ patOf code2, c.toNat < 128) := pat_ascii code2
  obtain ⟨ns, hns⟩ := pat_parse fold code2
  have HNS := hid hns
  have hI1 : (code1.length : Int) ≤ 2147483647 := by omega
  have hI2 : (code2.length : Int) ≤ 2147483647 := by omega
  clear hr1 hr2 hc1 hc2 hns
  generalize tree code1 = t at HJ HG
  go_enter Tryd.func5, Tryd.ntmps5
  go_wp2_with fail
  refine HJ.out.mono ?_
  rintro e w1 ⟨d0, d1, d2, d3, rfl, hj, hb1⟩
  obtain ⟨k, s, B1, m1, k1, B2, m2, k2, rfl, rfl, rfl, rfl⟩ := hj.form
  have HJN := hid hj
  have HB1 := hid hb1
  clear hj hb1
  go_wp2_with fail
  refine (pattern_any _ _ _ _ (HMK.out w1 _ HB1.out)).mono ?_
  rintro e wb ⟨rfl, hmb, hgb⟩
  have HBB : Hid (Below (w1.heap.size + 1) (w1.alloc (.cells #[I k, S s, .slice B1 m1 k1, .slice B2 m2 k2] 30)) wb) := by
    have h1 : Below (w1.heap.size + 1) (w1.alloc (.cells #[I k, S s, .slice B1 m1 k1, .slice B2 m2 k2] 30)) ((w1.alloc (.cells #[I k, S s, .slice B1 m1 k1, .slice B2 m2 k2] 30)).alloc (.cells #[.slice A2 code2.length c2, I 0] 25)) := (Below.refl _ _).alloc (by simp) _
    exact h1.trans (below_of_grownBy hgb (Nat.le_refl _) (by simp))
  have HJB : Hid (Blk wb w1.heap.size 30 #[I k, S s, .slice B1 m1 k1, .slice B2 m2 k2]) := (Blk.new w1 30 _).below HBB.out (Nat.lt_succ_self _)
  have HW1 : Hid (Below w1.heap.size w1 wb) := ((Below.refl _ _).alloc (Nat.le_refl _) _).trans (HBB.out.mono (Nat.le_succ _))
  have HWB : Hid (Below w.heap.size w wb) := HB1.out.trans (HW1.out.mono HB1.out.size)
  have HJC : Hid (JNC wb (fun b => w.heap.size ≤ b ∧ b < w1.heap.size) t [I k, S s, .slice B1 m1 k1, .slice B2 m2 k2]) := JNC.keep (fun b hb => hb) (fun b hb => HW1.out.block b hb.2) t _ HJN.out
  obtain ⟨hj0, hj1, hj2, hj3, _⟩ := HJB.out.four
  have HCA : Hid (Calls Tryd.prog 9 #[.agg #[I k, S s, .slice B1 m1 k1, .slice B2 m2 k2], S (patOf code2), R 124, .bool fold, .bool false] wb (AllPost wb (found (glob fold ns) t [36]))) :=
    all_any fold (patOf code2) ns t _ _ _ _ _ wb HNS.out (by have := HP5.out; omega) HPA.out (HG.out.mono (by decide) (by decide)) (fun b hb => Nat.lt_of_lt_of_le hb.2 HW1.out.size) HJC.out
  have HCB : Hid (∀ w2, Below wb.heap.size wb w2 → Calls Tryd.prog 14 #[.agg #[I k, S s, .slice B1 m1 k1, .slice B2 m2 k2], S (patOf code2), U8 124, .bool fold] w2 (JFoundPost w2 (srt (found (glob fold ns) t [36])))) := fun w2 h2 =>
    jfound_any fold (patOf code2) ns t _ _ _ _ _ w2 HNS.out (by have := HP5.out; omega) HG.out (fun b hb => Nat.lt_of_lt_of_le hb.2 (Nat.le_trans HW1.out.size h2.size)) (JNC.keep (fun b hb => hb) (fun b hb => h2.block b (Nat.lt_of_lt_of_le hb.2 HW1.out.size)) t _ HJC.out) (texts_short t _ HG.out.asc)
  have HNL : Hid ((srt (found (glob fold ns) t [36])).length ≤ 4000) := by
    have h1 := found_len (glob fold ns) t [36]
    have h2 := HG.out.leaves
    show List.length _ ≤ _
    rw [srt_len]
    omega
  have HLEN : Hid ((found (glob fold ns) t [36]).length = (srt (found (glob fold ns) t [36])).length) := (srt_len _).symm
  generalize found (glob fold ns) t [36] = F at HCA HCB HNL HLEN
  generalize patOf code2 = p at HP5 HPA HNS HCA HCB ⊢
  clear hmb hgb
  go_wp2_with fail
  refine HCA.out.mono ?_
  rintro e w2 ⟨Aa, ca, rfl, hoa, hba⟩
  obtain ⟨hr0, hr1, hr2, hr3, _⟩ := (HJB.out.below hba HJB.out.lt).four
  rw [HLEN.out] at hoa ⊢
  generalize srt F = N at HCB HNL HLEN hoa ⊢
  have HBA := hid hba
  have HOA := hid hoa
  have hnl := HNL.out
  clear hba hoa
  go_wp2_with fail
  refine (HCB.out w2 HBA.out).mono ?_
  rintro e w3 ⟨Ab, cb, rfl, hob, hbb⟩
  have HEQ : Hid (Calls Tryd.prog 13 #[.slice Aa N.length ca, .slice Ab N.length cb] w3 fun e w' => e = .returned (.bool true) ∧ ∃ m, w' = w3.drewN m) :=
    equal_any N Aa Ab ca cb _ _ w3 (by omega) (HOA.out.kept (row := none) ⟨hbb.os, hbb.tape, hbb.output, hbb.size, fun k hk _ => hbb.block k hk⟩ (Classical.em _)) hob
  have HB3 : Hid (Below w.heap.size w w3) := (HWB.out.trans (HBA.out.mono HWB.out.size)).trans (hbb.mono (Nat.le_trans HWB.out.size HBA.out.size))
  clear hob hbb
  go_wp2_with fail
  refine HEQ.out.mono ?_
  rintro e w4 ⟨rfl, m4, rfl⟩
  go_wp2_with fail
  refine (awake_any _).mono ?_
  rintro e w5 ⟨rfl, hb5⟩
  have HB5 := hid hb5
  clear hb5
  go_wp2_with fail
  go_ret
  exact ⟨rfl, (below_drewN HB3.out _).trans (HB5.out.mono HB3.out.size)⟩

set_option maxRecDepth 100000 in
theorem search_big (fold : Bool) (A1 A2 : Option Addr) (n1 n2 c1 c2 : Nat) (w : World) (h : 2147483647 < n1 ∨ 2147483647 < n2) :
    Calls Tryd.prog 5 #[.slice A1 n1 c1, .slice A2 n2 c2, .bool fold] w fun e w' => e = .returned (.bool true) ∧ Below w.heap.size w w' := by
  have hr : Below w.heap.size w w := Below.refl _ _
  by_cases h1 : 2147483647 < n1
  · have d1 : decide ((2147483647 : Int) < (n1 : Int)) = true := decide_eq_true (by omega)
    go_enter Tryd.func5, Tryd.ntmps5
    go_wp2_with fail
    go_ret
    exact ⟨rfl, hr⟩
  · have d1 : decide ((2147483647 : Int) < (n1 : Int)) = false := decide_eq_false (by omega)
    have d2 : decide ((2147483647 : Int) < (n2 : Int)) = true := decide_eq_true (by omega)
    go_enter Tryd.func5, Tryd.ntmps5
    go_wp2_with fail
    go_ret
    exact ⟨rfl, hr⟩

end Go.Proofs.YtbfadghogjldcaaDoor

/- The walk of 'FnJNOnce'. -/
import Derived.Test.YtbfadghogjldcaaDoorLaw4
import Derived.Test.YtbfadghogjldcaaDoorSorted
namespace Go.Proofs.YtbfadghogjldcaaDoor
open Go.RowKit
set_option linter.unusedVariables false
set_option linter.unusedSimpArgs false

theorem contains_any (L : List Txt) (x : Txt) (A : Option Addr) (c base : Nat) (w : World) (hl : L.length ≤ 100000) (hx : x ∈ L) (ho : w.ownsRow base 9 1 (.slice A L.length c) L.length (L.map S)) :
    Calls Tryd.prog 15 #[.slice A L.length c, S x] w fun e w' => e = .returned (.bool true) ∧ w' = w := by
  obtain ⟨g, cap, hv, hge, hgl⟩ := ho.form (List.length_pos_of_mem hx)
  injection hv with hv z1 z2
  subst hv
  have hz : (L.map fun l : Txt => (⟨l.toArray⟩ : ByteArray)).length = L.length := by simp
  have h := Tryd.slices_Contains_string g 0 L.length c (L.map fun l : Txt => (⟨l.toArray⟩ : ByteArray)) ⟨x.toArray⟩ w (by simp) (by omega) (fun j hj => by
    have hj' : j < L.length := by simpa using hj
    have := ho.cells (g := g) rfl j (S L[j]) (by rw [List.getElem?_map, List.getElem?_eq_getElem hj']; rfl)
    rw [add_zero_off] at this
    rw [Nat.zero_add, this]
    simp [List.getD, hj'])
  refine h.mono ?_
  rintro e w' ⟨rfl, rfl⟩
  refine ⟨?_, rfl⟩
  have hc : Lib.containsS ((L.map fun l : Txt => (⟨l.toArray⟩ : ByteArray)).take L.length) ⟨x.toArray⟩ = true := by
    rw [List.take_of_length_le (by simp), Lib.containsS_iff]
    exact List.mem_map.2 ⟨x, hx, rfl⟩
  rw [hc]

theorem told_once {F L : List Txt} {stop : Bool} (h : Told true L stop F) : (F = [] ∧ L = []) ∨ ∃ q ∈ F, L = [q] := by
  rcases h with ⟨_, h⟩ | ⟨_, _, q, hq, h⟩
  · left; simpa [Mid] using h
  · exact .inr ⟨q, hq, h⟩

set_option maxRecDepth 100000 in
set_option maxHeartbeats 4000000 in
theorem once_walk (fold : Bool) (A1 A2 : Option Addr) (c1 c2 : Nat) (code1 code2 : List UInt8) (w : World) (hc1 : code1.length ≤ c1) (hc2 : code2.length ≤ c2) (hn1 : code1.length ≤ 2147483647) (hn2 : code2.length ≤ 2147483647)
    (hr1 : Reads w (· < w.heap.size) 1 A1 code1.length (code1.map U)) (hr2 : Reads w (· < w.heap.size) 1 A2 code2.length (code2.map U)) :
    Calls Tryd.prog 6 #[.slice A1 code1.length c1, .slice A2 code2.length c2, .bool fold] w fun e w' => e = .returned (.bool true) ∧ Below w.heap.size w w' := by
  have HJ : Hid (Calls Tryd.prog 11 #[.slice A1 code1.length c1] w (TreePost w (tree code1))) := jnNode_any w A1 c1 code1 hc1 hn1 hr1
  have HMK : Hid (∀ (w1 : World) (o : Obj), Below w.heap.size w w1 → MadeAt ((w1.alloc o).alloc (.cells #[.slice A2 code2.length c2, I 0] 25)) (w1.heap.size + 1) code2 0) := by
    intro w1 o hb1
    refine ⟨A2, c2, hc2, hn2, Blk.new2 w1 o 25 _, ?_⟩
    refine (hr2.keep fun p (hp : p.block < w.heap.size) => ?_).more fun b (hb : b < w.heap.size) => (by have := hb1.size; omega : b < w1.heap.size + 1)
    have hs := hb1.size
    rw [World.cell?_alloc_lt _ _ _ (by simp; omega), World.cell?_alloc_lt _ _ _ (by omega), hb1.cell hp]
  have HG : Hid (Good (tree code1) 3125 31250) := tree_good code1
  have HP5 : Hid ((patOf code2).length ≤ 12) := pat_len code2
  have HPA : Hid (∀ c ∈ patOf code2, c.toNat < 128) := pat_ascii code2
  obtain ⟨ns, hns⟩ := pat_parse fold code2
  have HNS := hid hns
  have hI1 : (code1.length : Int) ≤ 2147483647 := by omega
  have hI2 : (code2.length : Int) ≤ 2147483647 := by omega
  clear hr1 hr2 hc1 hc2 hns
  generalize tree code1 = t at HJ HG
  go_enter Tryd.func6, Tryd.ntmps6
  go_wp2_with fail
  refine HJ.out.mono ?_
  rintro e w1 ⟨d0, d1, d2, d3, rfl, hj, hb1⟩
  obtain ⟨k, s, B1, m1, k1, B2, m2, k2, rfl, rfl, rfl, rfl⟩ := hj.form
  have HJN := hid hj
  have HB1 := hid hb1
  clear hj hb1
  go_wp2_with fail
  refine (pattern_any _ _ _ _ (HMK.out w1 _ HB1.out)).mono ?_
  rintro e wb ⟨rfl, hmb, hgb⟩
  have HBB : Hid (Below (w1.heap.size + 1) (w1.alloc (.cells #[I k, S s, .slice B1 m1 k1, .slice B2 m2 k2] 30)) wb) := by
    have h1 : Below (w1.heap.size + 1) (w1.alloc (.cells #[I k, S s, .slice B1 m1 k1, .slice B2 m2 k2] 30)) ((w1.alloc (.cells #[I k, S s, .slice B1 m1 k1, .slice B2 m2 k2] 30)).alloc (.cells #[.slice A2 code2.length c2, I 0] 25)) := (Below.refl _ _).alloc (by simp) _
    exact h1.trans (below_of_grownBy hgb (Nat.le_refl _) (by simp))
  have HJB : Hid (Blk wb w1.heap.size 30 #[I k, S s, .slice B1 m1 k1, .slice B2 m2 k2]) := (Blk.new w1 30 _).below HBB.out (Nat.lt_succ_self _)
  have HW1 : Hid (Below w1.heap.size w1 wb) := ((Below.refl _ _).alloc (Nat.le_refl _) _).trans (HBB.out.mono (Nat.le_succ _))
  have HWB : Hid (Below w.heap.size w wb) := HB1.out.trans (HW1.out.mono HB1.out.size)
  have HJC : Hid (JNC wb (fun b => w.heap.size ≤ b ∧ b < w1.heap.size) t [I k, S s, .slice B1 m1 k1, .slice B2 m2 k2]) := JNC.keep (fun b hb => hb) (fun b hb => HW1.out.block b hb.2) t _ HJN.out
  obtain ⟨hj0, hj1, hj2, hj3, _⟩ := HJB.out.four
  have HCA : Hid (Calls Tryd.prog 9 #[.agg #[I k, S s, .slice B1 m1 k1, .slice B2 m2 k2], S (patOf code2), R 124, .bool fold, .bool false] wb (AllPost wb (found (glob fold ns) t [36]))) :=
    all_any fold (patOf code2) ns t _ _ _ _ _ wb HNS.out (by have := HP5.out; omega) HPA.out (HG.out.mono (by decide) (by decide)) (fun b hb => Nat.lt_of_lt_of_le hb.2 HW1.out.size) HJC.out
  have HCB : Hid (∀ w2, Below wb.heap.size wb w2 → Calls Tryd.prog 9 #[.agg #[I k, S s, .slice B1 m1 k1, .slice B2 m2 k2], S (patOf code2), R 124, .bool fold, .bool true] w2 (RunPost w2 true (found (glob fold ns) t [36]))) := fun w2 h2 =>
    run_any fold true (patOf code2) ns t _ _ _ _ _ w2 HNS.out (by have := HP5.out; omega) HPA.out HG.out.ok HG.out.asc (Nat.le_trans HG.out.leaves (by decide)) (Nat.le_trans HG.out.room (by decide)) (fun b hb => Nat.lt_of_lt_of_le hb.2 (Nat.le_trans HW1.out.size h2.size))
      (JNC.keep (fun b hb => hb) (fun b hb => h2.block b (Nat.lt_of_lt_of_le hb.2 HW1.out.size)) t _ HJC.out)
  have HNL : Hid ((found (glob fold ns) t [36]).length ≤ 4000) := by
    have h1 := found_len (glob fold ns) t [36]
    have h2 := HG.out.leaves
    show List.length _ ≤ _
    omega
  generalize found (glob fold ns) t [36] = F at HCA HCB HNL
  generalize patOf code2 = p at HP5 HPA HNS HCA HCB ⊢
  clear hmb hgb
  go_wp2_with fail
  refine HCA.out.mono ?_
  rintro e w2 ⟨Aa, ca, rfl, hoa, hba⟩
  obtain ⟨hr0, hr1, hr2, hr3, _⟩ := (HJB.out.below hba HJB.out.lt).four
  have HBA := hid hba
  have HOA := hid hoa
  clear hba hoa
  go_wp2_with fail
  refine (HCB.out w2 HBA.out).mono ?_
  rintro e w3 ⟨L, Ab, cb, stop, rfl, htold, hob, hbb⟩
  have HBB3 := hid hbb
  have hlen : F.length = (srt F).length := (srt_len F).symm
  have hoa3 : w3.ownsRow wb.heap.size 9 1 (.slice Aa (srt F).length ca) (srt F).length ((srt F).map S) := by
    have h := HOA.out.kept (w' := w3) (row := none) ⟨hbb.os, hbb.tape, hbb.output, hbb.size, fun k hk _ => hbb.block k hk⟩ (Classical.em _)
    rwa [hlen] at h
  have HSORT : Hid (Calls Tryd.prog 16 #[.slice Aa (srt F).length ca] w3 fun e w' => e = .returned (.bool true) ∧ ∃ m', w' = w3.drewN m') := sorted_any (srt F) Aa ca wb.heap.size w3 (by rw [srt_len]; have := HNL.out; omega) (srt_asc F) hoa3
  have hb3 : Below w.heap.size w w3 := (HWB.out.trans (HBA.out.mono HWB.out.size)).trans (hbb.mono (Nat.le_trans HWB.out.size HBA.out.size))
  have HB3 := hid hb3
  have hnl : (srt F).length ≤ 4000 := by rw [srt_len]; exact HNL.out
  rw [hlen]
  clear hbb hb3 hlen
  rcases told_once htold with ⟨hF, rfl⟩ | ⟨q, hq, rfl⟩
  · subst hF
    have hs0 : srt [] = [] := by simp [srt]
    have HS0 : Hid (Calls Tryd.prog 16 #[.slice Aa 0 ca] w3 fun e w' => e = .returned (.bool true) ∧ ∃ m', w' = w3.drewN m') := by
      have h := HSORT.out
      rw [hs0] at h
      exact h
    rw [hs0]
    have hm0 : min (0 : Int) 1 = 0 := by decide
    clear htold hob hoa3 HSORT hnl hs0
    simp only [List.length_nil]
    go_upto_region 8 with fail
    go_wp2_with fail
    refine HS0.out.mono ?_
    rintro e w4 ⟨rfl, m4, rfl⟩
    go_wp2_with fail
    refine (awake_any _).mono ?_
    rintro e w5 ⟨rfl, hb5⟩
    have HB5 := hid hb5
    clear hb5
    go_wp2_with fail
    go_ret
    exact ⟨rfl, (below_drewN HB3.out _).trans (HB5.out.mono HB3.out.size)⟩
  · have hqs : q ∈ srt F := (srt_perm F).mem_iff.2 hq
    have hpos : 0 < (srt F).length := List.length_pos_of_mem hqs
    have HCON : Hid (Calls Tryd.prog 15 #[.slice Aa (srt F).length ca, S q] w3 fun e w' => e = .returned (.bool true) ∧ w' = w3) := contains_any (srt F) q Aa ca wb.heap.size w3 (by omega) hqs hoa3
    obtain ⟨g, cap, hv, hge, hgl⟩ := hob.form (by simp)
    injection hv with hv z1 z2
    subst hv
    have hc0 : w3.cell? ⟨g, 0, none⟩ = some (S q) := by
      have := hob.cells (g := g) rfl 0 (S q) (by simp [srt])
      rwa [add_zero_off] at this
    have hne : ((srt F).length : Int) ≠ 0 := by omega
    have hmin : min ((srt F).length : Int) 1 = 1 := by omega
    clear htold hob hoa3 hq hge hgl z1 z2
    generalize srt F = N at HSORT HCON hqs hpos hne hmin hnl ⊢
    go_wp2_with fail
    refine HCON.out.mono ?_
    rintro e w4 ⟨rfl, rfl⟩
    go_wp2_with fail
    refine HSORT.out.mono ?_
    rintro e w4' ⟨rfl, m4, rfl⟩
    go_wp2_with fail
    refine (awake_any _).mono ?_
    rintro e w5 ⟨rfl, hb5⟩
    have HB5 := hid hb5
    clear hb5
    go_wp2_with fail
    go_ret
    exact ⟨rfl, (below_drewN HB3.out _).trans (HB5.out.mono HB3.out.size)⟩

set_option maxRecDepth 100000 in
theorem once_big (fold : Bool) (A1 A2 : Option Addr) (n1 n2 c1 c2 : Nat) (w : World) (h : 2147483647 < n1 ∨ 2147483647 < n2) :
    Calls Tryd.prog 6 #[.slice A1 n1 c1, .slice A2 n2 c2, .bool fold] w fun e w' => e = .returned (.bool true) ∧ Below w.heap.size w w' := by
  have hr : Below w.heap.size w w := Below.refl _ _
  by_cases h1 : 2147483647 < n1
  · have d1 : decide ((2147483647 : Int) < (n1 : Int)) = true := decide_eq_true (by omega)
    go_enter Tryd.func6, Tryd.ntmps6
    go_wp2_with fail
    go_ret
    exact ⟨rfl, hr⟩
  · have d1 : decide ((2147483647 : Int) < (n1 : Int)) = false := decide_eq_false (by omega)
    have d2 : decide ((2147483647 : Int) < (n2 : Int)) = true := decide_eq_true (by omega)
    go_enter Tryd.func6, Tryd.ntmps6
    go_wp2_with fail
    go_ret
    exact ⟨rfl, hr⟩

end Go.Proofs.YtbfadghogjldcaaDoor

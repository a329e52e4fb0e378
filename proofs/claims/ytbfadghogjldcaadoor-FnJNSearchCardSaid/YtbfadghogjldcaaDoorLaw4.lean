/- The walk of 'FnJNWithin'. -/
import Derived.Test.YtbfadghogjldcaaDoorAwake
import Derived.Test.YtbfadghogjldcaaDoorMake
import Derived.Test.YtbfadghogjldcaaDoorText
import Derived.Test.YtbfadghogjldcaaDoorLike
namespace Go.Proofs.YtbfadghogjldcaaDoor
open Go.RowKit
set_option linter.unusedVariables false
set_option linter.unusedSimpArgs false

theorem tree_good (code : List UInt8) : Good (tree code) 3125 31250 := node_good 5 code 30

theorem Blk.new3 (w : World) (o1 o2 : Obj) (t : TypeId) (cs : Array Value) : Blk (((w.alloc o1).alloc o2).alloc (.cells cs t)) (w.heap.size + 2) t cs := by
  have h := Blk.new ((w.alloc o1).alloc o2) t cs
  rwa [heap_size_alloc, heap_size_alloc] at h
theorem Blk.new4 (w : World) (o1 o2 o3 : Obj) (t : TypeId) (cs : Array Value) : Blk ((((w.alloc o1).alloc o2).alloc o3).alloc (.cells cs t)) (w.heap.size + 3) t cs := by
  have h := Blk.new (((w.alloc o1).alloc o2).alloc o3) t cs
  rwa [heap_size_alloc, heap_size_alloc, heap_size_alloc] at h
theorem below_alloc4 (w : World) (o1 o2 o3 o4 : Obj) : Below w.heap.size w ((((w.alloc o1).alloc o2).alloc o3).alloc o4) :=
  ((((Below.refl _ _).alloc (Nat.le_refl _) o1).alloc (by simp) o2).alloc (by simp; omega) o3).alloc (by simp; omega) o4

/-- What is found, told by what stands behind the head of the paths. -/
def PrePost (w : World) (N : List Txt) (pre : Txt) (e : Ending) (w' : World) : Prop :=
  ∃ (A : Option Addr) (c : Nat), e = .returned (.tuple #[.slice A N.length c, .bool true]) ∧ w'.ownsRow w.heap.size 9 1 (.slice A N.length c) N.length (N.map fun x => S (pre ++ x)) ∧ Below w.heap.size w w'
theorem pre_of_all {w w' : World} {f : Txt → Bool} {t : JT} {p : Txt} {e : Ending} (h : AllPost w (found f t p) e w') : PrePost w (srt (found f t [])) p e w' := by
  obtain ⟨A, c, rfl, ho, hb⟩ := h
  have hl : (found f t p).length = (srt (found f t [])).length := by rw [found_at f t p, List.length_map, srt_len]
  have hs : (srt (found f t p)).map S = (srt (found f t [])).map fun x => S (p ++ x) := by rw [found_at f t p, srt_map, List.map_map]; rfl
  rw [hl, hs] at ho
  exact ⟨A, c, by rw [hl], ho, hb⟩

/-- Behind the making of the value within which t lies. -/
def InRel (wb : World) (t : JT) (v11 : Value) (wc : World) : Prop :=
  ∃ (step : Txt) (tin : JT) (e0 e1 e2 e3 : Value), v11 = S step ∧ step.length ≤ 10 ∧ Blk wc (wb.heap.size + 1) 30 #[e0, e1, e2, e3] ∧ JNC wc (· < wc.heap.size) tin [e0, e1, e2, e3] ∧ Below wb.heap.size wb wc ∧ Good tin 100000 900000 ∧ ∀ f, found f tin [36] = found f t step

theorem in_arr {wb wc : World} {t : JT} {P : Nat → Prop} {f0 f1 f2 f3 : Value} (hP : ∀ b, P b → b < wb.heap.size) (hj : JNC wb P t [f0, f1, f2, f3]) (hg : Good t 3125 31250) (hb : Below wb.heap.size wb wc)
    (h0 : Blk wc wb.heap.size 30 #[I 2, S [49], .slice none 0 0, .slice none 0 0, f0, f1, f2, f3]) (h1 : Blk wc (wb.heap.size + 1) 30 #[I 4, S [], .slice none 0 0, .slice (some ⟨wb.heap.size, 0, none⟩) 2 2]) :
    InRel wb t (S [36, 91, 49, 93]) wc := by
  refine ⟨_, .arr [.leaf 2 [49], t], _, _, _, _, rfl, by simp, h1, ?_, hb, ?_, fun f => ?_⟩
  · refine ⟨some ⟨wb.heap.size, 0, none⟩, 2, _, rfl, Row.blk h0 h0.lt rfl, [I 2, S [49], .slice none 0 0, .slice none 0 0], [f0, f1, f2, f3], rfl, ⟨by decide, rfl⟩, [f0, f1, f2, f3], [], rfl, ?_, rfl⟩
    exact JNC.keep (fun b hb' => Nat.lt_of_lt_of_le (hP b hb') hb.size) (fun b hb' => hb.block b (hP b hb')) t _ hj
  · have := hg.leaves
    have := hg.room
    exact ⟨⟨by simp, (by decide : 2 ≤ 3), hg.ok, trivial⟩, ⟨⟨by simp, by decide⟩, hg.asc, trivial⟩, by simp [JT.leaves, JT.leavess]; omega, by simp [JT.room, JT.rooms]; omega⟩
  · simp [found, foundA, stepA, digits_small]

theorem in_obj {wb wc : World} {t : JT} {P : Nat → Prop} {f0 f1 f2 f3 : Value} (hP : ∀ b, P b → b < wb.heap.size) (hj : JNC wb P t [f0, f1, f2, f3]) (hg : Good t 3125 31250) (hb : Below wb.heap.size wb wc)
    (h0 : Blk wc (wb.heap.size + 3) 30 #[I 0, S [], .slice none 0 0, .slice none 0 0, f0, f1, f2, f3]) (hn : Blk wc (wb.heap.size + 2) 9 #[S [111, 116, 104, 101, 114], S [111, 119, 110]])
    (h1 : Blk wc (wb.heap.size + 1) 30 #[I 5, S [], .slice (some ⟨wb.heap.size + 2, 0, none⟩) 2 2, .slice (some ⟨wb.heap.size + 3, 0, none⟩) 2 2]) :
    InRel wb t (S [36, 46, 111, 119, 110]) wc := by
  refine ⟨_, .obj [[111, 116, 104, 101, 114], [111, 119, 110]] [.leaf 0 [], t], _, _, _, _, rfl, by simp, h1, ?_, hb, ?_, fun f => ?_⟩
  · refine ⟨some ⟨wb.heap.size + 3, 0, none⟩, 2, some ⟨wb.heap.size + 2, 0, none⟩, 2, _, rfl, Row.blk hn hn.lt rfl, Row.blk h0 h0.lt rfl, [I 0, S [], .slice none 0 0, .slice none 0 0], [f0, f1, f2, f3], rfl, ⟨by decide, rfl⟩, [f0, f1, f2, f3], [], rfl, ?_, rfl⟩
    exact JNC.keep (fun b hb' => Nat.lt_of_lt_of_le (hP b hb') hb.size) (fun b hb' => hb.block b (hP b hb')) t _ hj
  · have := hg.leaves
    have := hg.room
    exact ⟨⟨by simp, by simp, by decide, (by decide : 0 ≤ 3), hg.ok, trivial⟩, ⟨⟨by simp, by simp⟩, hg.asc, trivial⟩, by simp [JT.leaves, JT.leavess]; omega, by simp [JT.room, JT.rooms]; omega⟩
  · simp [found, foundO, stepO]

set_option maxRecDepth 100000 in
set_option maxHeartbeats 4000000 in
theorem within_walk (object : Bool) (A1 A2 : Option Addr) (c1 c2 : Nat) (code1 code2 : List UInt8) (w : World) (hc1 : code1.length ≤ c1) (hc2 : code2.length ≤ c2) (hn1 : code1.length ≤ 2147483647) (hn2 : code2.length ≤ 2147483647)
    (hr1 : Reads w (· < w.heap.size) 1 A1 code1.length (code1.map U)) (hr2 : Reads w (· < w.heap.size) 1 A2 code2.length (code2.map U)) :
    Calls Tryd.prog 4 #[.slice A1 code1.length c1, .slice A2 code2.length c2, .bool object] w fun e w' => e = .returned (.bool true) ∧ Below w.heap.size w w' := by
  have HJ : Hid (Calls Tryd.prog 11 #[.slice A1 code1.length c1] w (TreePost w (tree code1))) := jnNode_any w A1 c1 code1 hc1 hn1 hr1
  have HMK : Hid (∀ (w1 : World) (o : Obj), Below w.heap.size w w1 → MadeAt ((w1.alloc o).alloc (.cells #[.slice A2 code2.length c2, I 0] 25)) (w1.heap.size + 1) code2 0) := by
    intro w1 o hb1
    refine ⟨A2, c2, hc2, hn2, Blk.new2 w1 o 25 _, ?_⟩
    refine (hr2.keep fun p (hp : p.block < w.heap.size) => ?_).more fun b (hb : b < w.heap.size) => (by have := hb1.size; omega : b < w1.heap.size + 1)
    have hs := hb1.size
    rw [World.cell?_alloc_lt _ _ _ (by simp; omega), World.cell?_alloc_lt _ _ _ (by omega), hb1.cell hp]
  have HG : Hid (Good (tree code1) 3125 31250) := tree_good code1
  have HP5 : Hid ((patOf code2).length ≤ 12) := pat_len code2
  have HPA : Hid (∀ c ∈ patOf code2, c.toNat < 128) := pat_ascii code2
  obtain ⟨ns, hns⟩ := pat_parse false code2
  have HNS := hid hns
  have hI1 : (code1.length : Int) ≤ 2147483647 := by omega
  have hI2 : (code2.length : Int) ≤ 2147483647 := by omega
  clear hr1 hr2 hc1 hc2 hns
  generalize tree code1 = t at HJ HG
  go_enter Tryd.func4, Tryd.ntmps4
  go_wp2_with fail
  refine HJ.out.mono ?_
  rintro e w1 ⟨d0, d1, d2, d3, rfl, hj, hb1⟩
  obtain ⟨k, s, B1, m1, k1, B2, m2, k2, rfl, rfl, rfl, rfl⟩ := hj.form
  have HJN := hid hj
  have HB1 := hid hb1
  clear hj hb1
  go_wp2_with fail
  refine (pattern_any _ _ _ _ (HMK.out w1 _ HB1.out)).mono ?_
  rintro e wb ⟨rfl, hmb, hgb⟩
  have HBB : Hid (Below (w1.heap.size + 1) (w1.alloc (.cells #[I k, S s, .slice B1 m1 k1, .slice B2 m2 k2] 30)) wb) := by
    have h1 : Below (w1.heap.size + 1) (w1.alloc (.cells #[I k, S s, .slice B1 m1 k1, .slice B2 m2 k2] 30)) ((w1.alloc (.cells #[I k, S s, .slice B1 m1 k1, .slice B2 m2 k2] 30)).alloc (.cells #[.slice A2 code2.length c2, I 0] 25)) := (Below.refl _ _).alloc (by simp) _
    exact h1.trans (below_of_grownBy hgb (Nat.le_refl _) (by simp))
  have HJB : Hid (Blk wb w1.heap.size 30 #[I k, S s, .slice B1 m1 k1, .slice B2 m2 k2]) := (Blk.new w1 30 _).below HBB.out (Nat.lt_succ_self _)
  have HW1 : Hid (Below w1.heap.size w1 wb) := ((Below.refl _ _).alloc (Nat.le_refl _) _).trans (HBB.out.mono (Nat.le_succ _))
  have HWB : Hid (Below w.heap.size w wb) := HB1.out.trans (HW1.out.mono HB1.out.size)
  have HJC : Hid (JNC wb (fun b => w.heap.size ≤ b ∧ b < w1.heap.size) t [I k, S s, .slice B1 m1 k1, .slice B2 m2 k2]) := JNC.keep (fun b hb => hb) (fun b hb => HW1.out.block b hb.2) t _ HJN.out
  obtain ⟨hj0, hj1, hj2, hj3, _⟩ := HJB.out.four
  have hlj := HJB.out.lt
  have H2 : ∀ o1 o2, Blk ((wb.alloc o1).alloc o2) w1.heap.size 30 #[I k, S s, .slice B1 m1 k1, .slice B2 m2 k2] := fun o1 o2 => (HJB.out.alloc o1).alloc o2
  have hk0 : ∀ o1 o2, ((wb.alloc o1).alloc o2).cell? ⟨w1.heap.size, 0, none⟩ = some (I k) := fun o1 o2 => (H2 o1 o2).four.1
  have hk1 : ∀ o1 o2, ((wb.alloc o1).alloc o2).cell? ⟨w1.heap.size, 1, none⟩ = some (S s) := fun o1 o2 => (H2 o1 o2).four.2.1
  have hk2 : ∀ o1 o2, ((wb.alloc o1).alloc o2).cell? ⟨w1.heap.size, 2, none⟩ = some (.slice B1 m1 k1) := fun o1 o2 => (H2 o1 o2).four.2.2.1
  have hk3 : ∀ o1 o2, ((wb.alloc o1).alloc o2).cell? ⟨w1.heap.size, 3, none⟩ = some (.slice B2 m2 k2) := fun o1 o2 => (H2 o1 o2).four.2.2.2.1
  have HH2 := hid H2
  clear hmb hgb H2 hlj
  generalize patOf code2 = p at HP5 HPA HNS ⊢
  go_upto_if 36 with fail
  go_cut [11] (fun v11 wc => InRel wb t v11 wc)
  case first =>
    cases object
    case false =>
      go_wp2_with fail
      go_meet
      case rel =>
        refine in_arr (fun b hb => Nat.lt_of_lt_of_le hb.2 HW1.out.size) HJC.out HG.out (((Below.refl _ _).alloc (Nat.le_refl _) _).alloc (by simp) _) ((Blk.new wb 30 _).alloc _) (Blk.new2 wb _ 30 _)
    case true =>
      have H3 : ∀ o1 o2 o3, Blk (((wb.alloc o1).alloc o2).alloc o3) w1.heap.size 30 #[I k, S s, .slice B1 m1 k1, .slice B2 m2 k2] := fun o1 o2 o3 => (HH2.out o1 o2).alloc o3
      have hl0 : ∀ o1 o2 o3, (((wb.alloc o1).alloc o2).alloc o3).cell? ⟨w1.heap.size, 0, none⟩ = some (I k) := fun o1 o2 o3 => (H3 o1 o2 o3).four.1
      have hl1 : ∀ o1 o2 o3, (((wb.alloc o1).alloc o2).alloc o3).cell? ⟨w1.heap.size, 1, none⟩ = some (S s) := fun o1 o2 o3 => (H3 o1 o2 o3).four.2.1
      have hl2 : ∀ o1 o2 o3, (((wb.alloc o1).alloc o2).alloc o3).cell? ⟨w1.heap.size, 2, none⟩ = some (.slice B1 m1 k1) := fun o1 o2 o3 => (H3 o1 o2 o3).four.2.2.1
      have hl3 : ∀ o1 o2 o3, (((wb.alloc o1).alloc o2).alloc o3).cell? ⟨w1.heap.size, 3, none⟩ = some (.slice B2 m2 k2) := fun o1 o2 o3 => (H3 o1 o2 o3).four.2.2.2.1
      clear H3
      go_wp2_with fail
      go_meet
      case rel =>
        exact in_obj (fun b hb => Nat.lt_of_lt_of_le hb.2 HW1.out.size) HJC.out HG.out (below_alloc4 _ _ _ _ _) (Blk.new4 wb _ _ _ 30 _) ((Blk.new3 wb _ _ 9 _).alloc _) (((Blk.new2 wb _ 30 _).alloc _).alloc _)
  case rest =>
    obtain ⟨step, tin, e0, e1, e2, e3, rfl, hst, hbk, hjc, hbel, hgood, hfound⟩ := hcut
    obtain ⟨k', s', B1', m1', k1', B2', m2', k2', rfl, rfl, rfl, rfl⟩ := hjc.form
    have HJT : Hid (JNC wc (fun b => w.heap.size ≤ b ∧ b < w1.heap.size) t [I k, S s, .slice B1 m1 k1, .slice B2 m2 k2]) := JNC.keep (fun b hb => hb) (fun b hb => hbel.block b (Nat.lt_of_lt_of_le hb.2 HW1.out.size)) t _ HJC.out
    have hjb : Blk wc w1.heap.size 30 #[I k, S s, .slice B1 m1 k1, .slice B2 m2 k2] := HJB.out.below hbel HJB.out.lt
    obtain ⟨hq0, hq1, hq2, hq3, _⟩ := hjb.four
    have HBC : Hid (Below w.heap.size w wc) := HWB.out.trans (hbel.mono HWB.out.size)
    have HBK := hid hbk
    have HJI := hid hjc
    have HGI := hid hgood
    have HFI := hid hfound
    have HCA : Hid (Calls Tryd.prog 9 #[.agg #[I k, S s, .slice B1 m1 k1, .slice B2 m2 k2], S p, R 124, .bool false, .bool false] wc (PrePost wc (srt (found (glob false ns) t [])) [36])) :=
      (all_any false p ns t _ _ _ _ _ wc HNS.out (by have := HP5.out; omega) HPA.out (HG.out.mono (by decide) (by decide)) (fun b hb => Nat.lt_of_lt_of_le hb.2 (Nat.le_trans HW1.out.size hbel.size)) HJT.out).mono fun _ _ h => pre_of_all h
    have HCB : Hid (∀ w2, Below wc.heap.size wc w2 → Calls Tryd.prog 9 #[.agg #[I k', S s', .slice B1' m1' k1', .slice B2' m2' k2'], S p, R 124, .bool false, .bool false] w2 (PrePost w2 (srt (found (glob false ns) t [])) step)) := fun w2 h2 => by
      have h := all_any false p ns tin _ _ _ _ (· < wc.heap.size) w2 HNS.out (by have := HP5.out; omega) HPA.out HGI.out (fun b hb => Nat.lt_of_lt_of_le hb h2.size) (JNC.keep (fun b hb => hb) (fun b hb => h2.block b hb) tin _ HJI.out)
      rw [HFI.out] at h
      exact h.mono fun _ _ h => pre_of_all h
    have HXL : Hid (∀ x ∈ srt (found (glob false ns) t []), x.length ≤ 40000) := fun x hx => by
      have h1 := found_room (glob false ns) t [] HG.out.ok x ((srt_perm _).mem_iff.1 hx)
      have h2 := HG.out.room
      simp at h1
      omega
    have HNL : Hid ((srt (found (glob false ns) t [])).length ≤ 4000) := by
      have h1 := found_len (glob false ns) t []
      have h2 := HG.out.leaves
      show List.length _ ≤ _
      rw [srt_len]
      omega
    generalize srt (found (glob false ns) t []) = N at HCA HCB HXL HNL
    clear hbk hjc hbel hgood hfound hjb hk0 hk1 hk2 hk3
    go_wp2_with fail
    refine HCA.out.mono ?_
    rintro e w2 ⟨Aa, ca, rfl, hoa, hba⟩
    obtain ⟨hr0, hr1, hr2, hr3, _⟩ := (HBK.out.below hba HBK.out.lt).four
    have HBA := hid hba
    clear hba
    go_wp2_with fail
    refine (HCB.out w2 HBA.out).mono ?_
    rintro e w3 ⟨Ab, cb, rfl, hob, hbb⟩
    have hoa3 : w3.ownsRow wc.heap.size 9 1 (.slice Aa N.length ca) N.length (N.map fun x => S ([36] ++ x)) := hoa.kept (row := none) ⟨hbb.os, hbb.tape, hbb.output, hbb.size, fun k hk _ => hbb.block k hk⟩ (Classical.em _)
    have HBB3 := hid hbb
    have HOA := hid hoa3
    have HOB := hid hob
    have hnl := HNL.out
    clear hbb hoa3 hob hoa
    go_wp2_with fail
    go_loopw [69] (fun v69 wr => ∃ i : Nat, v69 = I i ∧ i ≤ N.length ∧ Below w3.heap.size w3 wr) (fun v _ => N.length - (intOf v).toNat)
    case atStart => exact ⟨0, rfl, by omega, Below.refl _ _⟩
    case round =>
      obtain ⟨i, rfl, hi, hbr⟩ := hrel
      have HBR := hid hbr
      clear hbr
      by_cases hlt : i < N.length
      · obtain ⟨x, hx⟩ : ∃ x, N[i]? = some x := ⟨_, List.getElem?_eq_getElem hlt⟩
        have hxl : x.length ≤ 40000 := HXL.out x (List.mem_of_getElem? hx)
        have hoa := HOA.out
        have hob := HOB.out
        obtain ⟨ga, _, hva, _, hgla⟩ := hoa.form (by omega)
        obtain ⟨gb, _, hvb, _, hglb⟩ := hob.form (by omega)
        injection hva with hva za zb
        injection hvb with hvb zc zd
        subst hva hvb
        clear za zb zc zd
        have hca : wr.cell? ⟨ga, i, none⟩ = some (S (36 :: x)) := by
          rw [HBR.out.cell (p := ⟨ga, i, none⟩) hgla]
          have := hoa.cells (g := ga) rfl i (S ([36] ++ x)) (by rw [List.getElem?_map, hx]; rfl)
          rwa [add_zero_off] at this
        have hcb : wr.cell? ⟨gb, i, none⟩ = some (S (step ++ x)) := by
          rw [HBR.out.cell (p := ⟨gb, i, none⟩) hglb]
          have := hob.cells (g := gb) rfl i (S (step ++ x)) (by rw [List.getElem?_map, hx]; rfl)
          rwa [add_zero_off] at this
        have hcut1 : ByteArray.extract { data := (36 :: x).toArray } 1 (x.length + 1) = { data := x.toArray } := by
          have := cut1 36 x
          injection this
        have happ : ({ data := step.toArray } : ByteArray) ++ { data := x.toArray } = { data := (step ++ x).toArray } := S_app step x
        have hI : (i : Int) < (N.length : Int) := by omega
        have hI4 : (i : Int) ≤ 4000 := by omega
        have hx1 : (1 : Int) ≤ (x.length : Int) + 1 := by omega
        have HLT := hid hlt
        clear hx hlt hoa hob hgla hglb
        go_wp2_with fail
        go_quiet (fail)
        go_wp2_with fail
        go_roundw
        case rel => exact ⟨i + 1, I_nat (by omega), by have := HLT.out; omega, below_drewN HBR.out _⟩
        case measure => simp [intOf]; have := HLT.out; omega
      · obtain rfl : i = N.length := by omega
        go_wp2_with fail
        refine (awake_any _).mono ?_
        rintro e w5 ⟨rfl, hb5⟩
        have HB5 := hid hb5
        clear hb5
        go_wp2_with fail
        go_ret
        have b2 : Below w.heap.size w w2 := HBC.out.trans (HBA.out.mono HBC.out.size)
        have b3 : Below w.heap.size w w3 := b2.trans (HBB3.out.mono b2.size)
        have b4 := b3.trans (HBR.out.mono b3.size)
        exact ⟨rfl, b4.trans (HB5.out.mono b4.size)⟩

set_option maxRecDepth 100000 in
theorem within_big (object : Bool) (A1 A2 : Option Addr) (n1 n2 c1 c2 : Nat) (w : World) (h : 2147483647 < n1 ∨ 2147483647 < n2) :
    Calls Tryd.prog 4 #[.slice A1 n1 c1, .slice A2 n2 c2, .bool object] w fun e w' => e = .returned (.bool true) ∧ Below w.heap.size w w' := by
  have hr : Below w.heap.size w w := Below.refl _ _
  by_cases h1 : 2147483647 < n1
  · have d1 : decide ((2147483647 : Int) < (n1 : Int)) = true := decide_eq_true (by omega)
    go_enter Tryd.func4, Tryd.ntmps4
    go_wp2_with fail
    go_ret
    exact ⟨rfl, hr⟩
  · have d1 : decide ((2147483647 : Int) < (n1 : Int)) = false := decide_eq_false (by omega)
    have d2 : decide ((2147483647 : Int) < (n2 : Int)) = true := decide_eq_true (by omega)
    go_enter Tryd.func4, Tryd.ntmps4
    go_wp2_with fail
    go_ret
    exact ⟨rfl, hr⟩

end Go.Proofs.YtbfadghogjldcaaDoor

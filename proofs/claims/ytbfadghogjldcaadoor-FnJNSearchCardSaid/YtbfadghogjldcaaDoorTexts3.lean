/- The walk of 'JNTexts' at an object, and whole. -/
import Derived.Test.YtbfadghogjldcaaDoorTexts2
namespace Go.Proofs.YtbfadghogjldcaaDoor
open Go.RowKit
set_option linter.unusedVariables false
set_option linter.unusedSimpArgs false

set_option maxRecDepth 100000 in
set_option maxHeartbeats 4000000 in
theorem texts_obj (names : List Txt) (items : List JT) (p : Txt) (w : World) (P : Nat → Prop) (A : Option Addr) (c : Nat) (A' : Option Addr) (c' : Nat) (xs : List Value) (hP : ∀ b, P b → b < w.heap.size) (hlen : items.length ≤ 8) (hnl : names.length = items.length) (hnr : Row w P 1 A' names.length (names.map S))
    (hlv : JT.leavess items ≤ 100000) (hpl : p.length + (JT.obj names items).room ≤ 1000000) (hrow : Row w P 4 A items.length xs) (hjs : JNCs w P items xs)
    (ih : ∀ (w' : World) (P' : Nat → Prop) (t : JT) (c0 c1 c2 c3 : Value) (p' : Txt), t ∈ items → p'.length + t.room ≤ 1000000 → (∀ b, P' b → b < w'.heap.size) → JNC w' P' t [c0, c1, c2, c3] → Calls Tryd.prog 26 #[.agg #[c0, c1, c2, c3], S p'] w' (TexPost w' (texts t p'))) :
    Calls Tryd.prog 26 #[.agg #[I 5, S [], .slice A' names.length c', .slice A items.length c], S p] w (TexPost w (texts (.obj names items) p)) := by
  have IH := hid ih
  have HP := hid hP
  have hpl1 : p.length ≤ 1000000 := by omega
  have HPL := hid hpl
  have HNL := hid hnl
  clear ih hP hpl hnl
  have HF : Hid (texts (.obj names items) p = textsO items names p) := by show texts _ _ = _; simp [texts]
  rw [HF.out]
  go_enter Tryd.func26, Tryd.ntmps26
  go_wp2_with fail
  go_loopw [6, 7, 24] (fun v6 v7 v24 wr => ∃ i : Nat, v24 = I i ∧ i ≤ items.length ∧ TexRel w #[I 5, S [], .slice A' names.length c', .slice A items.length c] (textsO (items.take i) (names.take i) p) v6 v7 wr) (fun _ _ v _ => items.length - (intOf v).toNat)
  case atStart => exact ⟨0, rfl, by omega, TexRel.start w _⟩
  case round =>
    obtain ⟨i, rfl, hi, hrel⟩ := hrel
    by_cases hlt : i < items.length
    · obtain ⟨⟨A1, A2, c1, c2, rfl, rfl, ho1, ho2, hne⟩, hbx, hbel⟩ := hrel
      obtain ⟨t, ht⟩ : ∃ t, items[i]? = some t := ⟨_, List.getElem?_eq_getElem hlt⟩
      obtain ⟨g, e0, e1, e2, e3, rfl, hg, hj, q0, q1, q2, q3⟩ := JNCs.four hrow hjs ht
      have hgw := HP.out g hg
      rw [← hbel.cell (p := ⟨g, _, none⟩) hgw] at q0 q1 q2 q3
      obtain ⟨kn, hkn⟩ : ∃ kn, names[i]? = some kn := ⟨_, List.getElem?_eq_getElem (by rw [HNL.out]; exact hlt)⟩
      obtain ⟨g', rfl, hg', hcn⟩ := hnr.2 (by rw [HNL.out]; omega)
      have hcn' := hcn i (S kn) (by rw [List.getElem?_map, hkn]; rfl)
      have HCN : Hid (w.cell? ⟨g', i, none⟩ = some (S kn)) := hcn'
      have HGP : Hid (g' < w.heap.size) := HP.out g' hg'
      have HKN := hid hkn
      have hknl : kn.length ≤ 1000000 := by
        have h1 := HPL.out
        have h2 := names_at names kn (List.mem_of_getElem? hkn)
        simp only [JT.room] at h1
        omega
      clear hcn hcn' hkn hg'
      obtain ⟨k, s, B1, m1, k1, B2, m2, k2, rfl, rfl, rfl, rfl⟩ := hj.form
      have hj' : JNC wr P t [I k, S s, .slice B1 m1 k1, .slice B2 m2 k2] := JNC.keep (fun b hb => hb) (fun b hb => hbel.block b (HP.out b hb)) t _ hj
      have HJ := hid hj'
      have HT := hid ht
      have HLT := hid hlt
      have HBEL := hid hbel
      have HNE := hid hne
      have hI : (i : Int) < (items.length : Int) := by omega
      have hI8 : (i : Int) ≤ 8 := by omega
      have hb0 := hbx.cell 0
      have hb2 := hbx.cell 2
      simp at hb0 hb2
      have hin : (i : Int) < (names.length : Int) := by rw [HNL.out]; omega
      have hbl := hbx.lt
      have hba0 : ∀ o, (wr.alloc o).cell? ⟨w.heap.size, 0, none⟩ = some (I 5) := fun o => by rw [(hbx.alloc o).cell]; rfl
      have hfa : textsO (items.take (i + 1)) (names.take (i + 1)) p = textsO (items.take i) (names.take i) p ++ texts t (stepO p kn) := by
        rw [List.take_add_one, List.take_add_one, HT.out, HKN.out]
        exact textsO_snoc t kn p _ _ (by have := HNL.out; simp; omega)
      have HFA := hid hfa
      have hln : (textsO (items.take i) (names.take i) p).length ≤ JT.leavess items := by
        have h2 := textsO_len (items.take i) (names.take i) p
        have h3 := JT.leavess_append (items.take i) (items.drop i)
        rw [List.take_append_drop] at h3
        omega
      have HLN := hid hln
      have hdl : (digits i).length = 1 := by rw [digits_small (by omega)]; rfl
      have HDG : Hid (∀ w, Calls Tryd.prog 32 #[I i] w fun e w' => e = .returned (S (digits i)) ∧ w.grownBy w' none) := fun w => by
        have := digits_any 3 (i : Int) w (by simp; omega) (by omega) (by omega)
        simpa using this
      have HBX := hid hbx
      have HGW := hid hgw
      clear hj hj' ht hlt hbel hne hfa hln hbx hbl hgw hg
      go_wp2_with fail
      refine (HDG.out _).mono ?_
      rintro e w2 ⟨rfl, hg2⟩
      have hb12 : Below (wr.heap.size + 1) (wr.alloc (.cells #[I k, S s, .slice B1 m1 k1, .slice B2 m2 k2] 30)) w2 := by
        have := below_of_grownBy_none hg2
        rwa [heap_size_alloc] at this
      have hbr2 : Below wr.heap.size wr w2 := ((Below.refl _ _).alloc (Nat.le_refl _) _).trans (hb12.mono (Nat.le_succ _))
      have HBR2 := hid hbr2
      have hbj : Blk w2 wr.heap.size 30 #[I k, S s, .slice B1 m1 k1, .slice B2 m2 k2] := (Blk.new wr 30 _).below hb12 (Nat.lt_succ_self _)
      obtain ⟨z0, z1, z2, z3, _⟩ := hbj.four
      have hbx2 := HBX.out.below hbr2 HBX.out.lt
      have hbx0 : w2.cell? ⟨w.heap.size, 0, none⟩ = some (I 5) := by rw [hbx2.cell]; rfl
      have hbxn : w2.cell? ⟨w.heap.size, 2, none⟩ = some (.slice (some ⟨g', 0, none⟩) names.length c') := by rw [hbx2.cell]; rfl
      have hkc : w2.cell? ⟨g', i, none⟩ = some (S kn) := by rw [(HBEL.out.trans (hbr2.mono HBEL.out.size)).cell (p := ⟨g', i, none⟩) HGP.out]; exact HCN.out
      have HSTR : Hid (Value.string (({ data := p.toArray } : ByteArray) ++ ({ data := #[46] } ++ { data := kn.toArray })) = S (stepO p kn)) := by
        show _ = S _
        congr 1
        apply ByteArray.ext
        simp [stepO]
      have hb2w : Below w.heap.size w w2 := HBEL.out.trans (hbr2.mono HBEL.out.size)
      have HB2W := hid hb2w
      have HCALL : Hid (Calls Tryd.prog 26 #[.agg #[I k, S s, .slice B1 m1 k1, .slice B2 m2 k2], S (stepO p kn)] w2 (TexPost w2 (texts t (stepO p kn)))) := by
        refine IH.out w2 P t _ _ _ _ _ (List.mem_of_getElem? HT.out) ?_ (fun b hb => Nat.lt_of_lt_of_le (HP.out b hb) hb2w.size) (JNC.keep (fun b hb => hb) (fun b hb => hbr2.block b (Nat.lt_of_lt_of_le (HP.out b hb) HBEL.out.size)) t _ HJ.out)
        have h1 := HPL.out
        have h2 := JT.rooms_at items t (List.mem_of_getElem? HT.out)
        have h3 := names_at names kn (List.mem_of_getElem? HKN.out)
        rw [stepO_len p kn]
        simp only [JT.room] at h1
        omega
      have HTL : Hid ((texts t (stepO p kn)).length ≤ 100000) := Nat.le_trans (texts_len t _) (Nat.le_trans (JT.leavess_at items t (List.mem_of_getElem? HT.out)) hlv)
      clear hg2 hb12 hbr2 hbj hbx2 hb2w
      generalize textsO (items.take i) (names.take i) p = F at HFA HLN HNE ho1 ho2 ⊢
      go_wp2_with fail
      rw [HSTR.out]
      refine HCALL.out.mono ?_
      rintro e w3 ⟨_, _, rfl, ⟨D1, D2, f1, f2, rfl, rfl, hd1, hd2, hdn⟩, hb3⟩
      generalize texts t (stepO p kn) = G at HFA HTL hd1 hd2 hdn ⊢
      have HB3 := hid hb3
      have HD1 := hid hd1
      have HD2 := hid hd2
      have h13 : Below wr.heap.size wr w3 := HBR2.out.trans (hb3.mono HBR2.out.size)
      have H13 := hid h13
      have HO1 : Hid (w3.ownsRow (w.heap.size + 1) 9 1 (.slice A1 F.length c1) F.length (fsts F)) := ho1.kept (row := none) ⟨h13.os, h13.tape, h13.output, h13.size, fun k hk _ => h13.block k hk⟩ (Classical.em _)
      have HO2 : Hid (w3.ownsRow (w.heap.size + 1) 9 1 (.slice A2 F.length c2) F.length (snds F)) := ho2.kept (row := none) ⟨h13.os, h13.tape, h13.output, h13.size, fun k hk _ => h13.block k hk⟩ (Classical.em _)
      have HONE1 : Hid (∀ u ∈ fsts G, u.oneCell' = true) := by
        intro u hu
        obtain ⟨x, _, rfl⟩ := List.mem_map.1 hu
        rfl
      have HONE2 : Hid (∀ u ∈ snds G, u.oneCell' = true) := by
        intro u hu
        obtain ⟨x, _, rfl⟩ := List.mem_map.1 hu
        rfl
      have HIM : Hid (F.length + G.length ≤ 1000000) := by show _ ≤ _; have := HLN.out; have := HTL.out; omega
      have HBAS : Hid (w.heap.size + 1 ≤ w3.heap.size) := by have := HBX.out.lt; have := h13.size; show w.heap.size + 1 ≤ _; omega
      have hstep : ∀ (w4 w5 : World) (A4 A5 : Option Addr) (c4 c5 : Nat), w3.grownBy w4 (Value.ownBlock (.slice A1 F.length c1)) → w4.ownsRow (w.heap.size + 1) 9 1 (.slice A4 (F.length + G.length) c4) (F.length + G.length) (fsts F ++ fsts G) →
          (Value.ownBlock (.slice A4 (F.length + G.length) c4) = Value.ownBlock (.slice A1 F.length c1) ∨ Value.ownBlock (.slice A4 (F.length + G.length) c4) = some w3.heap.size) → w4.grownBy w5 (Value.ownBlock (.slice A2 F.length c2)) →
          w5.ownsRow (w.heap.size + 1) 9 1 (.slice A5 (F.length + G.length) c5) (F.length + G.length) (snds F ++ snds G) →
          (Value.ownBlock (.slice A5 (F.length + G.length) c5) = Value.ownBlock (.slice A2 F.length c2) ∨ Value.ownBlock (.slice A5 (F.length + G.length) c5) = some w4.heap.size) →
          TexRel w #[I 5, S [], .slice (some ⟨g', 0, none⟩) names.length c', .slice (some ⟨g, 0, none⟩) items.length c] (textsO (items.take (i + 1)) (names.take (i + 1)) p) (.slice A4 (F.length + G.length) c4) (.slice A5 (F.length + G.length) c5) w5 := fun w4 w5 A4 A5 c4 c5 a1 a2 a3 a4 a5 a6 => by
        rw [HFA.out]
        exact TexRel.step ho1 ho2 HNE.out HBX.out HBEL.out H13.out a1 a2 a3 a4 a5 a6
      have HST := hid hstep
      have HNE2 : Hid (Value.ownBlock (.slice A2 F.length c2) = none ∨ Value.ownBlock (.slice A2 F.length c2) ≠ Value.ownBlock (.slice A1 F.length c1)) := own_ne_symm HNE.out
      have HNE3 : Hid (Value.ownBlock (.slice D2 G.length f2) = none ∨ Value.ownBlock (.slice D2 G.length f2) ≠ Value.ownBlock (.slice A1 F.length c1)) := by
        rcases hq : Value.ownBlock (.slice D2 G.length f2) with _ | b
        · exact .inl rfl
        · right
          intro e
          have h1 := (hd2.lt b hq).1
          have h2 := (ho1.lt b e.symm).2
          have h3 := HBR2.out.size
          omega
      clear hb3 hd1 hd2 hdn h13 hstep
      go_wp2_with (at_builtin; first
        | (refine wpList_app rfl _ _ rfl elem27 rfl HO1.out rfl (Reads.of_own HD1.out) HONE1.out HIM.out HBAS.out ?_; intro A4 c4 w4 ho4 hg4 hat4)
        | (refine wpList_app (n := F.length) (m := G.length) rfl _ _ rfl elem27 rfl (HO2.out.kept hg4 HNE2.out) rfl (Reads.of_own (HD2.out.kept hg4 HNE3.out)) HONE2.out HIM.out (Nat.le_trans HBAS.out hg4.size) ?_; intro A5 c5 w5 ho5 hg5 hat5))
      go_roundw
      case rel => exact ⟨i + 1, I_nat (by omega), by have := HLT.out; omega, HST.out _ _ _ _ _ _ hg4 ho4 hat4 hg5 ho5 hat5⟩
      case measure => simp [intOf]; have := HLT.out; omega
    · obtain rfl : i = items.length := by omega
      rw [List.take_length, List.take_of_length_le (by rw [HNL.out]; exact Nat.le_refl _)] at hrel
      obtain ⟨⟨A1, A2, c1, c2, rfl, rfl, ho1, ho2, hne⟩, hbx, hbel⟩ := hrel
      have HFIN : Hid (TexPost w (textsO items names p) (.returned (.tuple #[.slice A1 (textsO items names p).length c1, .slice A2 (textsO items names p).length c2])) wr) := TexRel.post ⟨⟨A1, A2, c1, c2, rfl, rfl, ho1, ho2, hne⟩, hbx, hbel⟩
      clear ho1 ho2 hne hbx hbel
      go_wp2_with fail
      go_ret2
      exact HFIN.out

theorem texts_any (n : Nat) : ∀ (t : JT) (w : World) (P : Nat → Prop) (c0 c1 c2 c3 : Value) (p : Txt), SizeOf.sizeOf t ≤ n → JT.ok t → t.leaves ≤ 100000 → p.length + t.room ≤ 1000000 → (∀ b, P b → b < w.heap.size) → JNC w P t [c0, c1, c2, c3] →
    Calls Tryd.prog 26 #[.agg #[c0, c1, c2, c3], S p] w (TexPost w (texts t p)) := by
  induction n with
  | zero => intro t w P c0 c1 c2 c3 p h; cases t <;> simp at h
  | succ n ih =>
    intro t w P c0 c1 c2 c3 p hn hok hl hr hP hj
    cases t with
    | leaf k s =>
      obtain ⟨hk, h⟩ := hj
      simp only [List.cons.injEq, and_true] at h
      obtain ⟨rfl, rfl, rfl, rfl⟩ := h
      exact texts_leaf k s p w hk
    | arr items =>
      obtain ⟨A, c, xs, h, h2, h3⟩ := hj
      simp only [List.cons.injEq, and_true] at h
      obtain ⟨rfl, rfl, rfl, rfl⟩ := h
      refine texts_arr items p w P A c xs hP hok.1 hl hr h2 h3 fun w' P' t c0 c1 c2 c3 p' hm hr' hP' hj' => ih t w' P' c0 c1 c2 c3 p' ?_ ?_ (Nat.le_trans (JT.leavess_at items t hm) hl) hr' hP' hj'
      · have := List.sizeOf_lt_of_mem hm; simp at hn; omega
      · obtain ⟨i, hi⟩ := List.mem_iff_getElem?.1 hm
        exact JT.oks_at items i t hok.2 hi
    | obj names items =>
      obtain ⟨A, c, A', c', xs, h, h2, h3, h4⟩ := hj
      simp only [List.cons.injEq, and_true] at h
      obtain ⟨rfl, rfl, rfl, rfl⟩ := h
      refine texts_obj names items p w P A c A' c' xs hP hok.1 hok.2.1 h2 hl hr h3 h4 fun w' P' t c0 c1 c2 c3 p' hm hr' hP' hj' => ih t w' P' c0 c1 c2 c3 p' ?_ ?_ (Nat.le_trans (JT.leavess_at items t hm) hl) hr' hP' hj'
      · have := List.sizeOf_lt_of_mem hm; simp at hn; omega
      · obtain ⟨i, hi⟩ := List.mem_iff_getElem?.1 hm
        exact JT.oks_at items i t hok.2.2.2 hi

end Go.Proofs.YtbfadghogjldcaaDoor

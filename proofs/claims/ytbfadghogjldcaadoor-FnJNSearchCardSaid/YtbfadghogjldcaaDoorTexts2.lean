/- The walk of 'JNTexts' at a leaf and at a list. -/
import Derived.Test.YtbfadghogjldcaaDoorTexts
import Derived.Test.YtbfadghogjldcaaDoorLaw4
namespace Go.Proofs.YtbfadghogjldcaaDoor
open Go.RowKit
set_option linter.unusedVariables false
set_option linter.unusedSimpArgs false

theorem own_one {w : World} {g base : Nat} {u : Value} (h : Blk w g 9 #[u]) (hb : base ≤ g) : w.ownsRow base 9 1 (.slice (some ⟨g, 0, none⟩) 1 1) 1 [u] :=
  ⟨rfl, .inr ⟨g, 1, #[u], rfl, hb, h, Nat.le_refl _, by decide, rfl, rfl⟩⟩

theorem two_one {w : World} {g h base : Nat} {p s : Txt} (hg : Blk w g 9 #[S p]) (hh : Blk w h 9 #[S s]) (hbg : base ≤ g) (hbh : base ≤ h) (hne : g ≠ h) : Two w base [(p, s)] (.slice (some ⟨g, 0, none⟩) 1 1) (.slice (some ⟨h, 0, none⟩) 1 1) :=
  ⟨_, _, 1, 1, rfl, rfl, own_one hg hbg, own_one hh hbh, .inr (by simp [Value.ownBlock, hne])⟩

theorem TexPost.drew {w w' : World} {F : List (Txt × Txt)} {e : Ending} (h : TexPost w F e w') : TexPost w F e w'.drew := by
  obtain ⟨v1, v2, h1, ⟨A1, A2, c1, c2, h2, h3, h4, h5, h6⟩, hb⟩ := h
  exact ⟨v1, v2, h1, ⟨A1, A2, c1, c2, h2, h3, own_drew h4, own_drew h5, h6⟩, hb.drew⟩

/-- The head of the loop. -/
def TexRel (w : World) (cs : Array Value) (F : List (Txt × Txt)) (v6 v7 : Value) (wr : World) : Prop :=
  Two wr (w.heap.size + 1) F v6 v7 ∧ Blk wr w.heap.size 30 cs ∧ Below w.heap.size w wr

theorem TexRel.start (w : World) (cs : Array Value) : TexRel w cs [] (.slice none 0 0) (.slice none 0 0) (w.alloc (.cells cs 30)) :=
  ⟨Two.nil _ _, Blk.new w 30 cs, (Below.refl _ _).alloc (Nat.le_refl _) _⟩
theorem TexRel.post {w wr : World} {cs : Array Value} {F : List (Txt × Txt)} {v6 v7 : Value} (h : TexRel w cs F v6 v7 wr) : TexPost w F (.returned (.tuple #[v6, v7])) wr :=
  ⟨v6, v7, rfl, h.1.base (Nat.le_succ _), h.2.2⟩

set_option maxRecDepth 100000 in
set_option maxHeartbeats 4000000 in
theorem texts_leaf (k : Nat) (s p : Txt) (w : World) (hk : k ≤ 3) : Calls Tryd.prog 26 #[.agg #[I k, S s, .slice none 0 0, .slice none 0 0], S p] w (TexPost w (texts (.leaf k s) p)) := by
  by_cases h3 : k = 3
  · subst h3
    have HF : Hid (texts (.leaf 3 s) p = [(p, s)]) := by show texts _ _ = _; simp [texts]
    have H1 : Hid (TexPost w [(p, s)] (.returned (.tuple #[.slice (some ⟨w.heap.size + 1, 0, none⟩) 1 1, .slice (some ⟨w.heap.size + 2, 0, none⟩) 1 1])) (((w.alloc (.cells #[I 3, S s, .slice none 0 0, .slice none 0 0] 30)).alloc (.cells #[S p] 9)).alloc (.cells #[S s] 9))) :=
      ⟨_, _, rfl, two_one ((Blk.new2 w _ 9 _).alloc _) (Blk.new3 w _ _ 9 _) (by omega) (by omega) (by omega), (((Below.refl _ _).alloc (Nat.le_refl _) _).alloc (by simp) _).alloc (by simp; omega) _⟩
    have H2 : Hid (TexPost w [(p, s)] (.returned (.tuple #[.slice (some ⟨w.heap.size + 2, 0, none⟩) 1 1, .slice (some ⟨w.heap.size + 1, 0, none⟩) 1 1])) (((w.alloc (.cells #[I 3, S s, .slice none 0 0, .slice none 0 0] 30)).alloc (.cells #[S s] 9)).alloc (.cells #[S p] 9))) :=
      ⟨_, _, rfl, two_one (Blk.new3 w _ _ 9 _) ((Blk.new2 w _ 9 _).alloc _) (by omega) (by omega) (by omega), (((Below.refl _ _).alloc (Nat.le_refl _) _).alloc (by simp) _).alloc (by simp; omega) _⟩
    have hal : ∀ o, ((w.alloc (.cells #[I 3, S s, .slice none 0 0, .slice none 0 0] 30)).alloc o).cell? ⟨w.heap.size, 1, none⟩ = some (S s) := fun o => by
      have h := (Blk.new w 30 #[I 3, S s, .slice none 0 0, .slice none 0 0]).alloc o
      rw [h.cell]; rfl
    rw [HF.out]
    go_enter Tryd.func26, Tryd.ntmps26
    go_wp2_with fail
    go_region
    all_goals
      go_wp2_with fail
      go_ret2
      first
        | exact H1.out.drew
        | exact H2.out.drew
  · have HF : Hid (texts (.leaf k s) p = []) := by show texts _ _ = _; simp [texts, h3]
    rw [HF.out]
    have hk3 : ((k : Int) == 3) = false := by rw [beq_eq_false_iff_ne]; omega
    go_enter Tryd.func26, Tryd.ntmps26
    go_wp2_with fail
    go_loopw [6, 7, 24] (fun v6 v7 v24 wr => v6 = .slice none 0 0 ∧ v7 = .slice none 0 0 ∧ v24 = I 0 ∧ wr = w.alloc (.cells #[I k, S s, .slice none 0 0, .slice none 0 0] 30)) (fun _ _ _ _ => 0)
    case atStart => exact ⟨rfl, rfl, rfl, rfl⟩
    case round =>
      obtain ⟨rfl, rfl, rfl, rfl⟩ := hrel
      go_wp2_with fail
      go_ret2
      exact (TexRel.start w _).post

theorem own_ne_symm {a b : Option Nat} (h : a = none ∨ a ≠ b) : b = none ∨ b ≠ a := by
  rcases h with rfl | h
  · cases b
    · exact .inl rfl
    · exact .inr (by simp)
  · exact .inr fun e => h e.symm

/-- Two appends: one round more. -/
theorem TexRel.step {w wr w3 w4 w5 : World} {cs : Array Value} {F G : List (Txt × Txt)} {A1 A2 A4 A5 : Option Addr} {c1 c2 c4 c5 : Nat} (ho1 : wr.ownsRow (w.heap.size + 1) 9 1 (.slice A1 F.length c1) F.length (fsts F)) (ho2 : wr.ownsRow (w.heap.size + 1) 9 1 (.slice A2 F.length c2) F.length (snds F))
    (hne : Value.ownBlock (.slice A1 F.length c1) = none ∨ Value.ownBlock (.slice A1 F.length c1) ≠ Value.ownBlock (.slice A2 F.length c2)) (hbx : Blk wr w.heap.size 30 cs) (hb : Below w.heap.size w wr) (h3 : Below wr.heap.size wr w3)
    (hg4 : w3.grownBy w4 (Value.ownBlock (.slice A1 F.length c1))) (ho4 : w4.ownsRow (w.heap.size + 1) 9 1 (.slice A4 (F.length + G.length) c4) (F.length + G.length) (fsts F ++ fsts G))
    (hat4 : Value.ownBlock (.slice A4 (F.length + G.length) c4) = Value.ownBlock (.slice A1 F.length c1) ∨ Value.ownBlock (.slice A4 (F.length + G.length) c4) = some w3.heap.size)
    (hg5 : w4.grownBy w5 (Value.ownBlock (.slice A2 F.length c2))) (ho5 : w5.ownsRow (w.heap.size + 1) 9 1 (.slice A5 (F.length + G.length) c5) (F.length + G.length) (snds F ++ snds G))
    (hat5 : Value.ownBlock (.slice A5 (F.length + G.length) c5) = Value.ownBlock (.slice A2 F.length c2) ∨ Value.ownBlock (.slice A5 (F.length + G.length) c5) = some w4.heap.size) :
    TexRel w cs (F ++ G) (.slice A4 (F.length + G.length) c4) (.slice A5 (F.length + G.length) c5) w5 := by
  have hl1 := ho1.lt
  have hl2 := ho2.lt
  have hl4 := ho4.lt
  have hs3 := h3.size
  have hbl := hbx.lt
  have hne2 : Value.ownBlock (.slice A4 (F.length + G.length) c4) = none ∨ Value.ownBlock (.slice A4 (F.length + G.length) c4) ≠ Value.ownBlock (.slice A2 F.length c2) := by
    rcases hat4 with h | h
    · rw [h]; exact hne
    · right
      rw [h]
      intro e
      have := (hl2 _ e.symm).2
      omega
  refine ⟨⟨A4, A5, c4, c5, by simp, by simp, ?_, ?_, ?_⟩, ?_, ?_⟩
  · have := ho4.kept hg5 hne2
    simpa [fsts] using this
  · simpa [snds] using ho5
  · rw [List.length_append]
    rcases hat5 with h | h
    · rw [h]; exact hne2
    · rcases hq : Value.ownBlock (.slice A4 (F.length + G.length) c4) with _ | g
      · exact .inl rfl
      · right
        rw [h]
        intro e
        injection e with e
        have := (hl4 g hq).2
        omega
  · have h1 := hbx.below h3 hbl
    have h2 := h1.grown hg4 (own_past ho1 (Nat.lt_succ_self _))
    exact h2.grown hg5 (own_past ho2 (Nat.lt_succ_self _))
  · have h1 := hb.trans (h3.mono hb.size)
    have h2 := h1.grown hg4 h1.size (fun k hk => by have := (hl1 k hk).1; omega)
    exact h2.grown hg5 h2.size (fun k hk => by have := (hl2 k hk).1; omega)

set_option maxRecDepth 100000 in
set_option maxHeartbeats 4000000 in
theorem texts_arr (items : List JT) (p : Txt) (w : World) (P : Nat → Prop) (A : Option Addr) (c : Nat) (xs : List Value) (hP : ∀ b, P b → b < w.heap.size) (hlen : items.length ≤ 8)
    (hlv : JT.leavess items ≤ 100000) (hpl : p.length + (JT.arr items).room ≤ 1000000) (hrow : Row w P 4 A items.length xs) (hjs : JNCs w P items xs)
    (ih : ∀ (w' : World) (P' : Nat → Prop) (t : JT) (c0 c1 c2 c3 : Value) (p' : Txt), t ∈ items → p'.length + t.room ≤ 1000000 → (∀ b, P' b → b < w'.heap.size) → JNC w' P' t [c0, c1, c2, c3] → Calls Tryd.prog 26 #[.agg #[c0, c1, c2, c3], S p'] w' (TexPost w' (texts t p'))) :
    Calls Tryd.prog 26 #[.agg #[I 4, S [], .slice none 0 0, .slice A items.length c], S p] w (TexPost w (texts (.arr items) p)) := by
  have IH := hid ih
  have HP := hid hP
  have hpl1 : p.length ≤ 1000000 := by omega
  have HPL := hid hpl
  clear ih hP hpl
  have HF : Hid (texts (.arr items) p = textsA items p 0) := by show texts _ _ = _; simp [texts]
  rw [HF.out]
  go_enter Tryd.func26, Tryd.ntmps26
  go_wp2_with fail
  go_loopw [6, 7, 24] (fun v6 v7 v24 wr => ∃ i : Nat, v24 = I i ∧ i ≤ items.length ∧ TexRel w #[I 4, S [], .slice none 0 0, .slice A items.length c] (textsA (items.take i) p 0) v6 v7 wr) (fun _ _ v _ => items.length - (intOf v).toNat)
  case atStart => exact ⟨0, rfl, by omega, TexRel.start w _⟩
  case round =>
    obtain ⟨i, rfl, hi, hrel⟩ := hrel
    by_cases hlt : i < items.length
    · obtain ⟨⟨A1, A2, c1, c2, rfl, rfl, ho1, ho2, hne⟩, hbx, hbel⟩ := hrel
      obtain ⟨t, ht⟩ : ∃ t, items[i]? = some t := ⟨_, List.getElem?_eq_getElem hlt⟩
      obtain ⟨g, e0, e1, e2, e3, rfl, hg, hj, q0, q1, q2, q3⟩ := JNCs.four hrow hjs ht
      have hgw := HP.out g hg
      rw [← hbel.cell (p := ⟨g, _, none⟩) hgw] at q0 q1 q2 q3
      obtain ⟨k, s, B1, m1, k1, B2, m2, k2, rfl, rfl, rfl, rfl⟩ := hj.form
      have hj' : JNC wr P t [I k, S s, .slice B1 m1 k1, .slice B2 m2 k2] := JNC.keep (fun b hb => hb) (fun b hb => hbel.block b (HP.out b hb)) t _ hj
      have HJ := hid hj'
      have HT := hid ht
      have HLT := hid hlt
      have HBEL := hid hbel
      have HNE := hid hne
      have hI : (i : Int) < (items.length : Int) := by omega
      have hI8 : (i : Int) ≤ 8 := by omega
      have hb0 := hbx.cell 0
      have hb2 := hbx.cell 2
      simp at hb0 hb2
      have hbl := hbx.lt
      have hba0 : ∀ o, (wr.alloc o).cell? ⟨w.heap.size, 0, none⟩ = some (I 4) := fun o => by rw [(hbx.alloc o).cell]; rfl
      have hfa : textsA (items.take (i + 1)) p 0 = textsA (items.take i) p 0 ++ texts t (stepA p i) := by
        rw [List.take_add_one, HT.out]
        have : min i items.length = i := by omega
        simp [textsA_snoc, this]
      have HFA := hid hfa
      have hln : (textsA (items.take i) p 0).length ≤ JT.leavess items := by
        have h2 := textsA_len (items.take i) p 0
        have h3 := JT.leavess_append (items.take i) (items.drop i)
        rw [List.take_append_drop] at h3
        omega
      have HLN := hid hln
      have hdl : (digits i).length = 1 := by rw [digits_small (by omega)]; rfl
      have HDG : Hid (∀ w, Calls Tryd.prog 32 #[I i] w fun e w' => e = .returned (S (digits i)) ∧ w.grownBy w' none) := fun w => by
        have := digits_any 3 (i : Int) w (by simp; omega) (by omega) (by omega)
        simpa using this
      have HBX := hid hbx
      have HGW := hid hgw
      clear hj hj' ht hlt hbel hne hfa hln hbx hbl hgw hg
      go_wp2_with fail
      refine (HDG.out _).mono ?_
      rintro e w2 ⟨rfl, hg2⟩
      have hb12 : Below (wr.heap.size + 1) (wr.alloc (.cells #[I k, S s, .slice B1 m1 k1, .slice B2 m2 k2] 30)) w2 := by
        have := below_of_grownBy_none hg2
        rwa [heap_size_alloc] at this
      have hbr2 : Below wr.heap.size wr w2 := ((Below.refl _ _).alloc (Nat.le_refl _) _).trans (hb12.mono (Nat.le_succ _))
      have HBR2 := hid hbr2
      have hbj : Blk w2 wr.heap.size 30 #[I k, S s, .slice B1 m1 k1, .slice B2 m2 k2] := (Blk.new wr 30 _).below hb12 (Nat.lt_succ_self _)
      obtain ⟨z0, z1, z2, z3, _⟩ := hbj.four
      have hbx2 := HBX.out.below hbr2 HBX.out.lt
      have hbx0 : w2.cell? ⟨w.heap.size, 0, none⟩ = some (I 4) := by rw [hbx2.cell]; rfl
      have HSTR : Hid (Value.string (({ data := p.toArray } : ByteArray) ++ ({ data := #[91] } ++ { data := (digits i).toArray } ++ { data := #[93] })) = S (stepA p i)) := by
        show _ = S _
        congr 1
        apply ByteArray.ext
        simp [stepA]
      have hb2w : Below w.heap.size w w2 := HBEL.out.trans (hbr2.mono HBEL.out.size)
      have HB2W := hid hb2w
      have HCALL : Hid (Calls Tryd.prog 26 #[.agg #[I k, S s, .slice B1 m1 k1, .slice B2 m2 k2], S (stepA p i)] w2 (TexPost w2 (texts t (stepA p i)))) := by
        refine IH.out w2 P t _ _ _ _ _ (List.mem_of_getElem? HT.out) ?_ (fun b hb => Nat.lt_of_lt_of_le (HP.out b hb) hb2w.size) (JNC.keep (fun b hb => hb) (fun b hb => hbr2.block b (Nat.lt_of_lt_of_le (HP.out b hb) HBEL.out.size)) t _ HJ.out)
        have h1 := HPL.out
        have h2 := JT.rooms_at items t (List.mem_of_getElem? HT.out)
        rw [stepA_len p (by omega)]
        simp only [JT.room] at h1
        omega
      have HTL : Hid ((texts t (stepA p i)).length ≤ 100000) := Nat.le_trans (texts_len t _) (Nat.le_trans (JT.leavess_at items t (List.mem_of_getElem? HT.out)) hlv)
      clear hg2 hb12 hbr2 hbj hbx2 hb2w
      generalize textsA (items.take i) p 0 = F at HFA HLN HNE ho1 ho2 ⊢
      go_wp2_with fail
      rw [HSTR.out]
      refine HCALL.out.mono ?_
      rintro e w3 ⟨_, _, rfl, ⟨D1, D2, f1, f2, rfl, rfl, hd1, hd2, hdn⟩, hb3⟩
      generalize texts t (stepA p i) = G at HFA HTL hd1 hd2 hdn ⊢
      have HB3 := hid hb3
      have HD1 := hid hd1
      have HD2 := hid hd2
      have h13 : Below wr.heap.size wr w3 := HBR2.out.trans (hb3.mono HBR2.out.size)
      have H13 := hid h13
      have HO1 : Hid (w3.ownsRow (w.heap.size + 1) 9 1 (.slice A1 F.length c1) F.length (fsts F)) := ho1.kept (row := none) ⟨h13.os, h13.tape, h13.output, h13.size, fun k hk _ => h13.block k hk⟩ (Classical.em _)
      have HO2 : Hid (w3.ownsRow (w.heap.size + 1) 9 1 (.slice A2 F.length c2) F.length (snds F)) := ho2.kept (row := none) ⟨h13.os, h13.tape, h13.output, h13.size, fun k hk _ => h13.block k hk⟩ (Classical.em _)
      have HONE1 : Hid (∀ u ∈ fsts G, u.oneCell' = true) := by
        intro u hu
        obtain ⟨x, _, rfl⟩ := List.mem_map.1 hu
        rfl
      have HONE2 : Hid (∀ u ∈ snds G, u.oneCell' = true) := by
        intro u hu
        obtain ⟨x, _, rfl⟩ := List.mem_map.1 hu
        rfl
      have HIM : Hid (F.length + G.length ≤ 1000000) := by show _ ≤ _; have := HLN.out; have := HTL.out; omega
      have HBAS : Hid (w.heap.size + 1 ≤ w3.heap.size) := by have := HBX.out.lt; have := h13.size; show w.heap.size + 1 ≤ _; omega
      have hstep : ∀ (w4 w5 : World) (A4 A5 : Option Addr) (c4 c5 : Nat), w3.grownBy w4 (Value.ownBlock (.slice A1 F.length c1)) → w4.ownsRow (w.heap.size + 1) 9 1 (.slice A4 (F.length + G.length) c4) (F.length + G.length) (fsts F ++ fsts G) →
          (Value.ownBlock (.slice A4 (F.length + G.length) c4) = Value.ownBlock (.slice A1 F.length c1) ∨ Value.ownBlock (.slice A4 (F.length + G.length) c4) = some w3.heap.size) → w4.grownBy w5 (Value.ownBlock (.slice A2 F.length c2)) →
          w5.ownsRow (w.heap.size + 1) 9 1 (.slice A5 (F.length + G.length) c5) (F.length + G.length) (snds F ++ snds G) →
          (Value.ownBlock (.slice A5 (F.length + G.length) c5) = Value.ownBlock (.slice A2 F.length c2) ∨ Value.ownBlock (.slice A5 (F.length + G.length) c5) = some w4.heap.size) →
          TexRel w #[I 4, S [], .slice none 0 0, .slice (some ⟨g, 0, none⟩) items.length c] (textsA (items.take (i + 1)) p 0) (.slice A4 (F.length + G.length) c4) (.slice A5 (F.length + G.length) c5) w5 := fun w4 w5 A4 A5 c4 c5 a1 a2 a3 a4 a5 a6 => by
        rw [HFA.out]
        exact TexRel.step ho1 ho2 HNE.out HBX.out HBEL.out H13.out a1 a2 a3 a4 a5 a6
      have HST := hid hstep
      have HNE2 : Hid (Value.ownBlock (.slice A2 F.length c2) = none ∨ Value.ownBlock (.slice A2 F.length c2) ≠ Value.ownBlock (.slice A1 F.length c1)) := own_ne_symm HNE.out
      have HNE3 : Hid (Value.ownBlock (.slice D2 G.length f2) = none ∨ Value.ownBlock (.slice D2 G.length f2) ≠ Value.ownBlock (.slice A1 F.length c1)) := by
        rcases hq : Value.ownBlock (.slice D2 G.length f2) with _ | b
        · exact .inl rfl
        · right
          intro e
          have h1 := (hd2.lt b hq).1
          have h2 := (ho1.lt b e.symm).2
          have h3 := HBR2.out.size
          omega
      clear hb3 hd1 hd2 hdn h13 hstep
      go_wp2_with (at_builtin; first
        | (refine wpList_app rfl _ _ rfl elem27 rfl HO1.out rfl (Reads.of_own HD1.out) HONE1.out HIM.out HBAS.out ?_; intro A4 c4 w4 ho4 hg4 hat4)
        | (refine wpList_app (n := F.length) (m := G.length) rfl _ _ rfl elem27 rfl (HO2.out.kept hg4 HNE2.out) rfl (Reads.of_own (HD2.out.kept hg4 HNE3.out)) HONE2.out HIM.out (Nat.le_trans HBAS.out hg4.size) ?_; intro A5 c5 w5 ho5 hg5 hat5))
      go_roundw
      case rel => exact ⟨i + 1, I_nat (by omega), by have := HLT.out; omega, HST.out _ _ _ _ _ _ hg4 ho4 hat4 hg5 ho5 hat5⟩
      case measure => simp [intOf]; have := HLT.out; omega
    · obtain rfl : i = items.length := by omega
      rw [List.take_length] at hrel
      obtain ⟨⟨A1, A2, c1, c2, rfl, rfl, ho1, ho2, hne⟩, hbx, hbel⟩ := hrel
      have HFIN : Hid (TexPost w (textsA items p 0) (.returned (.tuple #[.slice A1 (textsA items p 0).length c1, .slice A2 (textsA items p 0).length c2])) wr) := TexRel.post ⟨⟨A1, A2, c1, c2, rfl, rfl, ho1, ho2, hne⟩, hbx, hbel⟩
      clear ho1 ho2 hne hbx hbel
      go_wp2_with fail
      go_ret2
      exact HFIN.out

end Go.Proofs.YtbfadghogjldcaaDoor

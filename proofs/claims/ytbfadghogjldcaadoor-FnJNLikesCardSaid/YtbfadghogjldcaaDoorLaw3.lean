/- The walk of 'FnJNLikes'. -/
import Derived.Test.YtbfadghogjldcaaDoorRun
import Derived.Test.YtbfadghogjldcaaDoorLike
import Derived.Test.YtbfadghogjldcaaDoorPat
import Derived.Test.YtbfadghogjldcaaDoorText
import Derived.Test.YtbfadghogjldcaaDoorMeth
namespace Go.Proofs.YtbfadghogjldcaaDoor
open Go.RowKit
set_option linter.unusedVariables false
set_option linter.unusedSimpArgs false

/-- A text alone that is found. -/
theorem run_hit (fold : Bool) (s p : List UInt8) (w : World) (h : Finds fold s p) (hs : s.length ≤ 1000) (hb : ∀ c ∈ s, c.toNat < 128) :
    Calls Tryd.prog 9 #[.agg #[I 3, S s, .slice none 0 0, .slice none 0 0], S p, R 124, .bool fold, .bool false] w fun e w' =>
      ∃ g c, e = .returned (.tuple #[.slice (some ⟨g, 0, none⟩) 1 c, .bool true]) ∧ w'.cell? ⟨g, 0, none⟩ = some (S [36]) ∧ Below w.heap.size w w' := by
  obtain ⟨h1, h2, ns, h3, h4⟩ := h
  refine (run_any fold false p ns (.leaf 3 s) _ _ _ _ (fun _ => False) w h3 h1 h2 (Nat.le_refl 3) ⟨hs, hb⟩ (by simp [JT.leaves]) (by simp [JT.room]) (fun b hb => hb.elim) ⟨Nat.le_refl 3, rfl⟩).mono ?_
  rintro e w' ⟨L, A, c, stop, rfl, ht, ho, hbel⟩
  have hF : found (glob fold ns) (.leaf 3 s) [36] = [[36]] := by simp [found, h4]
  rw [hF] at ht
  rcases ht with ⟨rfl, hm⟩ | ⟨h, _⟩
  · have hL : L = [[36]] := by
      have hm : L.Perm [[36]] := by simpa [Mid] using hm
      exact List.perm_singleton.1 hm
    subst hL
    obtain ⟨g, cap, hv, hge, hgl⟩ := ho.form (by decide)
    injection hv with hv _ _
    subst hv
    refine ⟨g, c, rfl, ?_, hbel⟩
    have := ho.cells (g := g) rfl 0 (S [36]) (by simp [srt])
    rwa [add_zero_off] at this
  · cases h

/-- A text alone that is not found. -/
theorem run_miss (fold : Bool) (s p : List UInt8) (ns : List MN) (w : World) (h1 : p.length ≤ 1000) (h2 : ∀ c ∈ p, c.toNat < 128) (h3 : parse fold p = some ns) (h4 : glob fold ns s = false) (hs : s.length ≤ 1000) (hb : ∀ c ∈ s, c.toNat < 128) :
    Calls Tryd.prog 9 #[.agg #[I 3, S s, .slice none 0 0, .slice none 0 0], S p, R 124, .bool fold, .bool false] w fun e w' =>
      ∃ A c, e = .returned (.tuple #[.slice A 0 c, .bool true]) ∧ Below w.heap.size w w' := by
  refine (run_any fold false p ns (.leaf 3 s) _ _ _ _ (fun _ => False) w h3 h1 h2 (Nat.le_refl 3) ⟨hs, hb⟩ (by simp [JT.leaves]) (by simp [JT.room]) (fun b hb => hb.elim) ⟨Nat.le_refl 3, rfl⟩).mono ?_
  rintro e w' ⟨L, A, c, stop, rfl, ht, ho, hbel⟩
  have hF : found (glob fold ns) (.leaf 3 s) [36] = [] := by simp [found, h4]
  rw [hF] at ht
  have hl := told_len ht
  have hL : L = [] := List.eq_nil_of_length_eq_zero (by simpa using hl)
  subst hL
  exact ⟨A, c, rfl, hbel⟩

theorem S_app' (a b : List UInt8) : Value.string (({ data := a.toArray } : ByteArray) ++ { data := b.toArray }) = S (a ++ b) := by rw [S_app]

set_option maxRecDepth 100000 in
set_option maxHeartbeats 4000000 in
theorem likes_walk (fold : Bool) (A1 A2 : Option Addr) (c1 c2 : Nat) (code1 code2 : List UInt8) (w : World) (hc1 : code1.length ≤ c1) (hc2 : code2.length ≤ c2) (hn1 : code1.length ≤ 2147483647) (hn2 : code2.length ≤ 2147483647)
    (hr1 : Reads w (· < w.heap.size) 1 A1 code1.length (code1.map U)) (hr2 : Reads w (· < w.heap.size) 1 A2 code2.length (code2.map U)) :
    Calls Tryd.prog 3 #[.slice A1 code1.length c1, .slice A2 code2.length c2, .bool fold] w fun e w' => e = .returned (.bool true) ∧ Below w.heap.size w w' := by
  have HM1 : Hid (MadeAt ((w.alloc (.cells #[.slice A1 code1.length c1, I 0] 25)).alloc (.cells #[.slice A2 code2.length c2, I 0] 25)) w.heap.size code1 0) := by
    refine ⟨A1, c1, hc1, hn1, (Blk.new w 25 _).alloc _, ?_⟩
    refine hr1.keep fun p (hp : p.block < w.heap.size) => ?_
    rw [World.cell?_alloc_lt _ _ _ (by simp; omega), World.cell?_alloc_lt _ _ _ hp]
  have HM2 : Hid (∀ wa, ((w.alloc (.cells #[.slice A1 code1.length c1, I 0] 25)).alloc (.cells #[.slice A2 code2.length c2, I 0] 25)).grownBy wa (some w.heap.size) → MadeAt wa (w.heap.size + 1) code2 0) := by
    intro wa hga
    have hb : Blk ((w.alloc (.cells #[.slice A1 code1.length c1, I 0] 25)).alloc (.cells #[.slice A2 code2.length c2, I 0] 25)) (w.heap.size + 1) 25 #[.slice A2 code2.length c2, I 0] := Blk.new2 w _ 25 _
    refine ⟨A2, c2, hc2, hn2, hb.grown hga (by simp), ?_⟩
    refine (hr2.keep fun p (hp : p.block < w.heap.size) => ?_).more fun b (hb : b < w.heap.size) => (by omega : b < w.heap.size + 1)
    have h1 : Below w.heap.size ((w.alloc (.cells #[.slice A1 code1.length c1, I 0] 25)).alloc (.cells #[.slice A2 code2.length c2, I 0] 25)) wa := below_of_grownBy hga (Nat.le_refl _) (by simp; omega)
    rw [h1.cell hp, World.cell?_alloc_lt _ _ _ (by simp; omega), World.cell?_alloc_lt _ _ _ hp]
  have HB0 : Hid (Below w.heap.size w ((w.alloc (.cells #[.slice A1 code1.length c1, I 0] 25)).alloc (.cells #[.slice A2 code2.length c2, I 0] 25))) := ((Below.refl _ _).alloc (Nat.le_refl _) _).alloc (by simp) _
  clear hr1 hr2 hc1 hc2
  have hI1 : (code1.length : Int) ≤ 2147483647 := by omega
  have hI2 : (code2.length : Int) ≤ 2147483647 := by omega
  go_enter Tryd.func3, Tryd.ntmps3
  go_wp2_with fail
  refine (text_any _ _ _ _ HM1.out).mono ?_
  rintro e wa ⟨rfl, hma, hga⟩
  have HGA := hid hga
  have HMA := hid (HM2.out wa hga)
  clear hma hga
  go_wp2_with fail
  refine (pattern_any _ _ _ _ HMA.out).mono ?_
  rintro e wb ⟨rfl, hmb, hgb⟩
  have HBB : Hid (Below w.heap.size w wb) := by
    have h1 := HB0.out.trans (below_of_grownBy HGA.out (Nat.le_refl _) HB0.out.size)
    exact h1.trans (below_of_grownBy hgb (Nat.le_succ _) h1.size)
  have HT5 : Hid ((textOf code1).length ≤ 5) := text_len code1
  have HTA : Hid (∀ c ∈ textOf code1, c.toNat < 128) := text_ascii code1
  have HP5 : Hid ((patOf code2).length ≤ 12) := pat_len code2
  have HPA : Hid (∀ c ∈ patOf code2, c.toNat < 128) := pat_ascii code2
  have HPP : Hid (∃ ns, parse fold (patOf code2) = some ns) := pat_parse fold code2
  clear hmb hgb
  generalize textOf code1 = s at HT5 HTA ⊢
  generalize patOf code2 = p at HP5 HPA HPP ⊢
  have hs5 : s.length ≤ 5 := HT5.out
  have hp12 : p.length ≤ 12 := HP5.out
  go_wp2_with fail
  go_loopw [12, 13, 45] (fun v12 v13 v45 wr => ∃ i : Nat, v45 = I i ∧ i ≤ s.length ∧ v12 = S (ownOf (s.take i)) ∧ v13 = S (onesOf i) ∧ wr = wb.alloc (.cells #[I 3, S s, .slice none 0 0, .slice none 0 0] 30)) (fun _ _ v _ => s.length - (intOf v).toNat)
  case atStart => exact ⟨0, rfl, by omega, rfl, rfl, rfl⟩
  case round =>
    obtain ⟨i, rfl, hi, rfl, rfl, rfl⟩ := hrel
    by_cases hlt : i < s.length
    · have hI : (i : Int) < (s.length : Int) := by omega
      have hI5 : (i : Int) ≤ 5 := by omega
      have hol : (ownOf (s.take i)).length ≤ 10 := by rw [own_len]; simp; omega
      have hnl : (onesOf i).length ≤ 5 := by rw [ones_len]; omega
      have HS1 : Hid (Value.string ({ data := (ownOf (s.take i)).toArray } ++ { data := #[124] } ++ ByteArray.extract { data := s.toArray } i (i + 1)) = S (ownOf (s.take (i + 1)))) := by
        have ht : s.take (i + 1) = s.take i ++ [s[i]] := by rw [List.take_add_one, List.getElem?_eq_getElem hlt]; rfl
        show _ = S _
        rw [ht, own_snoc]
        congr 1
        apply ByteArray.ext
        simp [List.extract_eq_take_drop]
        rw [List.drop_eq_getElem_cons hlt]
        rfl
      have HS2 : Hid (Value.string ({ data := (onesOf i).toArray } ++ { data := #[95] }) = S (onesOf (i + 1))) := by
        show _ = S _
        rw [ones_snoc]
        congr 1
      go_wp2_with fail
      go_roundw
      case rel => exact ⟨i + 1, I_nat (by omega), by omega, HS1.out, HS2.out, trivial⟩
      case measure => simp [intOf]; omega
    · obtain rfl : i = s.length := by omega
      rw [List.take_length]
      have hol : (ownOf s).length ≤ 10 := by rw [own_len]; omega
      have hnl : (onesOf s.length).length ≤ 5 := by rw [ones_len]; omega
      have hblk : Blk ((wb.alloc (.cells #[I 3, S s, .slice none 0 0, .slice none 0 0] 30)).alloc (.cells #[S (ownOf s), .string ⟨#[37]⟩, S (onesOf s.length), .string (⟨(onesOf s.length).toArray⟩ ++ ⟨#[37]⟩), .string (⟨#[37]⟩ ++ ⟨(onesOf s.length).toArray⟩)] 9)) (wb.heap.size + 1) 9
          #[S (ownOf s), S [37], S (onesOf s.length), S (onesOf s.length ++ [37]), S ([37] ++ onesOf s.length)] := by
        have h := Blk.new2 wb (.cells #[I 3, S s, .slice none 0 0, .slice none 0 0] 30) 9 #[S (ownOf s), .string ⟨#[37]⟩, S (onesOf s.length), .string (⟨(onesOf s.length).toArray⟩ ++ ⟨#[37]⟩), .string (⟨#[37]⟩ ++ ⟨(onesOf s.length).toArray⟩)]
        rwa [S_app' (onesOf s.length) [37], S_app' [37] (onesOf s.length)] at h
      have HBLK := hid hblk
      have HJN : Hid (Blk ((wb.alloc (.cells #[I 3, S s, .slice none 0 0, .slice none 0 0] 30)).alloc (.cells #[S (ownOf s), .string ⟨#[37]⟩, S (onesOf s.length), .string (⟨(onesOf s.length).toArray⟩ ++ ⟨#[37]⟩), .string (⟨#[37]⟩ ++ ⟨(onesOf s.length).toArray⟩)] 9)) wb.heap.size 30 #[I 3, S s, .slice none 0 0, .slice none 0 0]) :=
        (Blk.new wb 30 _).alloc _
      have HBC : Hid (Below w.heap.size w ((wb.alloc (.cells #[I 3, S s, .slice none 0 0, .slice none 0 0] 30)).alloc (.cells #[S (ownOf s), .string ⟨#[37]⟩, S (onesOf s.length), .string (⟨(onesOf s.length).toArray⟩ ++ ⟨#[37]⟩), .string (⟨#[37]⟩ ++ ⟨(onesOf s.length).toArray⟩)] 9))) :=
        (HBB.out.alloc HBB.out.size _).alloc (by have := HBB.out.size; rw [heap_size_alloc]; omega) _
      clear hblk
      go_wp2_with fail
      go_loopw [67] (fun v67 wr => ∃ k : Nat, v67 = I k ∧ k ≤ 5 ∧ Below (wb.heap.size + 2) ((wb.alloc (.cells #[I 3, S s, .slice none 0 0, .slice none 0 0] 30)).alloc (.cells #[S (ownOf s), .string ⟨#[37]⟩, S (onesOf s.length), .string (⟨(onesOf s.length).toArray⟩ ++ ⟨#[37]⟩), .string (⟨#[37]⟩ ++ ⟨(onesOf s.length).toArray⟩)] 9)) wr) (fun v _ => 5 - (intOf v).toNat)
      case atStart => exact ⟨0, rfl, by omega, Below.refl _ _⟩
      case round =>
        obtain ⟨k, rfl, hk, hbr⟩ := hrel
        have hjn := HJN.out.below hbr (by omega)
        obtain ⟨hj0, hj1, hj2, hj3, _⟩ := hjn.four
        have hqb := HBLK.out.below hbr (by omega)
        have HBR := hid hbr
        clear hbr hjn
        by_cases hlt : k < 5
        · obtain ⟨q, hq, hfq⟩ : ∃ q, (#[S (ownOf s), S [37], S (onesOf s.length), S (onesOf s.length ++ [37]), S ([37] ++ onesOf s.length)] : Array Value)[k]? = some (S q) ∧ Finds fold s q := by
            match k, hlt with
            | 0, _ => exact ⟨_, rfl, finds_own fold s HT5.out HTA.out⟩
            | 1, _ => exact ⟨_, rfl, finds_any fold s⟩
            | 2, _ => exact ⟨_, rfl, finds_ones fold s HT5.out⟩
            | 3, _ => exact ⟨_, rfl, finds_ones_any fold s HT5.out⟩
            | 4, _ => exact ⟨_, rfl, finds_any_ones fold s HT5.out⟩
          have hqc : wr.cell? ⟨wb.heap.size + 1, k, none⟩ = some (S q) := by rw [hqb.cell]; exact hq
          have HFQ := hid hfq
          have hk5 : (k : Int) < 5 := by omega
          clear hq hfq hqb
          have HSZ : Hid (wb.heap.size + 2 ≤ wr.heap.size) := by have := HBR.out.size; rw [heap_size_alloc, heap_size_alloc] at this; exact this
          go_wp2_with fail
          refine (run_hit fold s q wr HFQ.out (by omega) HTA.out).mono ?_
          rintro e w3 ⟨g, c3, rfl, hc3, hb3⟩
          have HB3 := hid hb3
          clear hb3
          go_wp2_with fail
          go_roundw
          case rel => exact ⟨k + 1, I_nat (by omega), by omega, HBR.out.trans (HB3.out.mono HSZ.out)⟩
          case measure => simp [intOf]; omega
        · obtain rfl : k = 5 := by omega
          clear hqb
          have HSZ : Hid (wb.heap.size + 2 ≤ wr.heap.size) := by have := HBR.out.size; rw [heap_size_alloc, heap_size_alloc] at this; exact this
          have HSW : Hid (w.heap.size ≤ wr.heap.size) := by have := HBB.out.size; have := HSZ.out; show w.heap.size ≤ _; omega
          have HONA : Hid (∀ c ∈ onesOf s.length ++ [95], c.toNat < 128) := by
            intro c hc
            rcases List.mem_append.1 hc with hc | hc
            · exact ones_ascii _ c hc
            · simp at hc; subst hc; decide
          obtain ⟨ns, hns⟩ := HPP.out
          have HNS := hid hns
          have hlk := fun w => like_any fold _ p s ns w (Nat.le_refl _) (by omega) (by omega) hns
          clear hns
          rcases hg : glob fold ns s with _ | _
          · rw [hg] at hlk
            have HLK := hid hlk
            have HG := hid hg
            clear hlk hg
            have hj' : ∀ w3, Below wr.heap.size wr w3 → Blk w3 wb.heap.size 30 #[I 3, S s, .slice none 0 0, .slice none 0 0] := fun w3 hb3 => (HJN.out.below HBR.out (by omega)).below hb3 (by have := HSZ.out; omega)
            have HJ := hid hj'
            clear hj'
            go_wp2_with fail
            refine (run_miss fold s p ns wr (by omega) HPA.out HNS.out HG.out (by omega) HTA.out).mono ?_
            rintro e w3 ⟨g, c3, rfl, hb3⟩
            obtain ⟨hk0, hk1, hk2, hk3, _⟩ := (HJ.out w3 hb3).four
            have HB3 := hid hb3
            clear hb3
            go_wp2_with fail
            rw [S_app' (onesOf s.length) [95]]
            obtain ⟨ms, hms, hgm⟩ := finds_not fold s HT5.out
            have HMS := hid hms
            have HGM := hid hgm
            clear hms hgm
            refine (run_miss fold s (onesOf s.length ++ [95]) ms w3 (by simp [ones_len]; omega) (HONA.out) HMS.out HGM.out (by omega) HTA.out).mono ?_
            rintro e w4 ⟨A4, c4, rfl, hb4⟩
            have HB4 := hid hb4
            clear hb4
            go_wp2_with fail
            refine (HLK.out w4).mono ?_
            rintro e w5 ⟨rfl, m5, rfl⟩
            go_wp2_with fail
            go_ret
            exact ⟨rfl, below_drewN (((HBC.out.trans (HBR.out.mono (by have := HBB.out.size; omega))).trans (HB3.out.mono HSW.out)).trans (HB4.out.mono (Nat.le_trans HSW.out HB3.out.size))) _⟩
          · rw [hg] at hlk
            have HLK := hid hlk
            have HG := hid hg
            clear hlk hg
            have hj' : ∀ w3, Below wr.heap.size wr w3 → Blk w3 wb.heap.size 30 #[I 3, S s, .slice none 0 0, .slice none 0 0] := fun w3 hb3 => (HJN.out.below HBR.out (by omega)).below hb3 (by have := HSZ.out; omega)
            have HJ := hid hj'
            clear hj'
            go_wp2_with fail
            refine (run_hit fold s p wr ⟨by omega, HPA.out, ns, HNS.out, HG.out⟩ (by omega) HTA.out).mono ?_
            rintro e w3 ⟨g, c3, rfl, hc3, hb3⟩
            obtain ⟨hk0, hk1, hk2, hk3, _⟩ := (HJ.out w3 hb3).four
            have HB3 := hid hb3
            clear hb3
            go_wp2_with fail
            rw [S_app' (onesOf s.length) [95]]
            obtain ⟨ms, hms, hgm⟩ := finds_not fold s HT5.out
            have HMS := hid hms
            have HGM := hid hgm
            clear hms hgm
            refine (run_miss fold s (onesOf s.length ++ [95]) ms w3 (by simp [ones_len]; omega) (HONA.out) HMS.out HGM.out (by omega) HTA.out).mono ?_
            rintro e w4 ⟨A4, c4, rfl, hb4⟩
            have HB4 := hid hb4
            clear hb4
            go_wp2_with fail
            refine (HLK.out w4).mono ?_
            rintro e w5 ⟨rfl, m5, rfl⟩
            go_wp2_with fail
            go_ret
            exact ⟨rfl, below_drewN (((HBC.out.trans (HBR.out.mono (by have := HBB.out.size; omega))).trans (HB3.out.mono HSW.out)).trans (HB4.out.mono (Nat.le_trans HSW.out HB3.out.size))) _⟩

set_option maxRecDepth 100000 in
theorem likes_big (fold : Bool) (A1 A2 : Option Addr) (n1 n2 c1 c2 : Nat) (w : World) (h : 2147483647 < n1 ∨ 2147483647 < n2) :
    Calls Tryd.prog 3 #[.slice A1 n1 c1, .slice A2 n2 c2, .bool fold] w fun e w' => e = .returned (.bool true) ∧ Below w.heap.size w w' := by
  have hr : Below w.heap.size w w := Below.refl _ _
  by_cases h1 : 2147483647 < n1
  · have d1 : decide ((2147483647 : Int) < (n1 : Int)) = true := decide_eq_true (by omega)
    go_enter Tryd.func3, Tryd.ntmps3
    go_wp2_with fail
    go_ret
    exact ⟨rfl, hr⟩
  · have d1 : decide ((2147483647 : Int) < (n1 : Int)) = false := decide_eq_false (by omega)
    have d2 : decide ((2147483647 : Int) < (n2 : Int)) = true := decide_eq_true (by omega)
    go_enter Tryd.func3, Tryd.ntmps3
    go_wp2_with fail
    go_ret
    exact ⟨rfl, hr⟩

end Go.Proofs.YtbfadghogjldcaaDoor

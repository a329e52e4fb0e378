/- The walk of 'ConstructLikeMatcher'. -/
import Derived.Test.YtbfadghogjldcaaDoorWeight
import Derived.Test.YtbfadghogjldcaaDoorAppend
import Derived.Deep.RegionLaw
import Derived.Laws.EntriesVeiled
namespace Go.Proofs.YtbfadghogjldcaaDoor
open Go.RowKit
set_option linter.unusedVariables false
set_option linter.unusedSimpArgs false

/-- A part of a pattern, as a value. -/
def MN.val : MN → Value
  | .rune c s => .iface 74 (.agg #[R c, R s])
  | .any => .iface 76 (.agg #[])

/-- What 'ConstructLikeMatcher' leaves. -/
def MkPost (fold : Bool) (ns : List MN) (w : World) (e : Ending) (w' : World) : Prop :=
  ∃ A c, e = .returned (.tuple #[.agg #[.slice A ns.length c, col fold, R 124], .nilIface]) ∧ ns.length ≤ c ∧ Row w' (fun b => w.heap.size ≤ b ∧ b < w'.heap.size) 1 A ns.length (ns.map MN.val) ∧ Below w.heap.size w w'

/-- The head of the loop at place i. -/
def MkRel (fold : Bool) (p : List UInt8) (ns : List MN) (w : World) (i : Nat) (wr : World) : Prop :=
  ∃ (acc rest : List MN) (A : Option Addr) (c : Nat), i ≤ p.length ∧ parse fold (p.drop i) = some rest ∧ acc ++ rest = ns ∧ acc.length ≤ i ∧
    wr.ownsRow (w.heap.size + 2) 88 1 (.slice A acc.length c) acc.length (acc.map MN.val) ∧ Blk wr (w.heap.size + 1) 60 #[.slice A acc.length c, col fold, R 124] ∧
    Blk wr w.heap.size 60 #[.slice none 0 0, .nilFunc, R 0] ∧ Below w.heap.size w wr

/-- One part more. -/
theorem MkRel.step {fold : Bool} {p : List UInt8} {ns : List MN} {w : World} {i j : Nat} {wr wq w4 : World} {acc rest : List MN} {m : MN} {A : Option Addr} {c : Nat} {o : Obj} {A4 : Option Addr} {c4 : Nat}
    (hj : j ≤ p.length) (hij : i < j) (hp : parse fold (p.drop j) = some rest) (hns : acc ++ m :: rest = ns) (hacc : acc.length ≤ i)
    (hown : wr.ownsRow (w.heap.size + 2) 88 1 (.slice A acc.length c) acc.length (acc.map MN.val)) (hbm : Blk wr (w.heap.size + 1) 60 #[.slice A acc.length c, col fold, R 124])
    (hbz : Blk wr w.heap.size 60 #[.slice none 0 0, .nilFunc, R 0]) (hb : Below w.heap.size w wr) (hq : Below wr.heap.size wr wq)
    (ho4 : w4.ownsRow (w.heap.size + 2) 88 1 (.slice A4 (acc.length + 1) c4) (acc.length + 1) (acc.map MN.val ++ [m.val])) (hg4 : (wq.alloc o).grownBy w4 (Value.ownBlock (.slice A acc.length c))) :
    MkRel fold p ns w j (w4.setCell ⟨w.heap.size + 1, 0, none⟩ (.slice A4 (acc.length + 1) c4)) := by
  have hlt := hown.lt
  have hbl := hbm.lt
  have hsq := hq.size
  have hbel : Below (w.heap.size + 1) wr (w4.setCell ⟨w.heap.size + 1, 0, none⟩ (.slice A4 (acc.length + 1) c4)) := by
    have h1 : Below (w.heap.size + 1) wr (wq.alloc o) := (hq.mono (by omega)).alloc (by omega) o
    have h2 : Below (w.heap.size + 1) wr w4 := h1.grown hg4 (by simp; omega) (fun k hk => by have := hlt k hk; omega)
    exact h2.setCell (p := ⟨w.heap.size + 1, 0, none⟩) (Nat.le_refl _) _
  have hb4 : Blk w4 (w.heap.size + 1) 60 #[.slice A acc.length c, col fold, R 124] :=
    ((hbm.below hq hbl).alloc o).grown hg4 (fun e => by have := hlt _ e.symm; omega)
  refine ⟨acc ++ [m], rest, A4, c4, hj, hp, by simpa using hns, by simp; omega, ?_, ?_, hbz.below hbel (by omega), hb.trans (hbel.mono (by omega))⟩
  · have := ownsRow_setCell_below ho4 (a := ⟨w.heap.size + 1, 0, none⟩) (by simp) (.slice A4 (acc.length + 1) c4)
    simpa using this
  · have := hb4.set_ 0 (.slice A4 (acc.length + 1) c4)
    simpa using this

set_option maxRecDepth 100000 in
set_option maxHeartbeats 2000000 in
theorem mk_any (fold : Bool) (p : List UInt8) (ns : List MN) (w : World) (hp : parse fold p = some ns) (hl : p.length ≤ 1000) (hb : ∀ c ∈ p, c.toNat < 128) :
    Calls Tryd.prog 29 #[col fold, S p, R 124] w (MkPost fold ns w) := by
  have HP := hid hp
  have HB := hid hb
  clear hp hb
  go_enter Tryd.func29, Tryd.ntmps29
  go_wp2_with fail
  go_loopw [10, 11, 12] (fun v10 v11 v12 wr => ∃ i : Nat, v10 = I i ∧ MkRel fold p ns w i wr) (fun v _ _ _ => p.length - (intOf v).toNat)
  case atStart =>
    refine ⟨0, rfl, [], ns, none, 0, by omega, HP.out, rfl, by simp, World.ownsRow_nil _ _ _ _, ?_, ?_, ?_⟩
    · exact Blk.new2 w _ 60 _
    · exact (Blk.new w 60 _).alloc _
    · exact ((Below.refl _ _).alloc (Nat.le_refl _) _).alloc (by simp) _
  case round =>
    obtain ⟨i, rfl, acc, rest, A, c, hi, hpr, hns, hacc, hown, hbm, hbz, hbel⟩ := hrel
    have HPR := hid hpr
    have HNS := hid hns
    have HACC := hid hacc
    clear hpr hns hacc
    by_cases hlt : i < p.length
    · obtain ⟨x, tl, hx⟩ : ∃ x tl, p.drop i = x :: tl := ⟨_, _, List.drop_eq_getElem_cons hlt⟩
      have hI : (i : Int) < (p.length : Int) := by omega
      have HX := hid hx
      clear hx
      go_wp2_with fail
      rw [drop_str, HX.out]
      have hxb : x.toNat < 128 := HB.out x (List.mem_of_mem_drop (i := i) (by rw [HX.out]; simp))
      refine (decode_cons x tl _ hxb).mono ?_
      rintro e wz ⟨rfl, rfl⟩
      have hx0 : (0 : Int) ≤ (x.toNat : Int) := by omega
      have hx1 : (x.toNat : Int) ≤ 127 := by omega
      have HXB := hid hxb
      clear hxb
      have hc0 := hbm.cell 0
      have hf0 := hbm.frozen 0
      simp at hc0
      have HIM : Hid (acc.length + 1 ≤ 1000000) := by have := HACC.out; show acc.length + 1 ≤ _; omega
      have HBS : Hid (w.heap.size + 2 ≤ wr.heap.size) := by have := hbm.lt; show _ ≤ _; omega
      have hdrop : p.drop (i + 1) = tl := by rw [← List.drop_drop, HX.out]; rfl
      have HDR := hid hdrop
      clear hdrop
      by_cases h95 : x = 95
      · subst h95
        have hpr := HPR.out
        rw [HX.out] at hpr
        obtain ⟨r', hr1, hr2⟩ := parse_one hpr
        clear hpr
        have hstep : ∀ (w4 : World) (A4 : Option Addr) (c4 : Nat), w4.ownsRow (w.heap.size + 2) 88 1 (.slice A4 (acc.length + 1) c4) (acc.length + 1) (acc.map MN.val ++ [MN.val (.rune 95 (-1))]) →
            (wr.alloc (.cells #[.iface 74 (.agg #[R 95, R (-1)])] 88)).grownBy w4 (Value.ownBlock (.slice A acc.length c)) → MkRel fold p ns w (i + 1) (w4.setCell ⟨w.heap.size + 1, 0, none⟩ (.slice A4 (acc.length + 1) c4)) := fun w4 A4 c4 ho4 hg4 =>
          MkRel.step hlt (Nat.lt_succ_self i) (by rw [HDR.out]; exact hr2) (by rw [← hr1]; exact HNS.out) HACC.out hown hbm hbz hbel (Below.refl _ _) ho4 hg4
        have HS := hid hstep
        clear hstep hr1 hr2
        go_wp2_with (at_builtin; refine wpList_app rfl _ _ rfl elem58 rfl (hown.alloc _) rfl (Reads.blk (P := fun _ => True) (Blk.new wr 88 #[.iface 74 (.agg #[R 95, R (-1)])]) trivial rfl) (by simp [Value.oneCell']) HIM.out (by have := HBS.out; simp; omega) ?_; intro A4 c4 w4 ho4 hg4 hat4; have hb4 := (hbm.alloc _).grown hg4 (own_past hown (by omega)); have hs4 := hb4.cell 0; have hf4 := hb4.frozen 0; simp at hs4)
        go_roundw
        case rel => exact ⟨i + 1, I_nat (by omega), HS.out _ _ _ ho4 hg4⟩
        case measure => simp [intOf]; omega
      · by_cases h37 : x = 37
        · subst h37
          have hpr := HPR.out
          rw [HX.out] at hpr
          obtain ⟨r', hr1, hr2⟩ := parse_any hpr
          clear hpr
          have hstep : ∀ (w4 : World) (A4 : Option Addr) (c4 : Nat), w4.ownsRow (w.heap.size + 2) 88 1 (.slice A4 (acc.length + 1) c4) (acc.length + 1) (acc.map MN.val ++ [MN.val .any]) →
              (wr.alloc (.cells #[.iface 76 (.agg #[])] 88)).grownBy w4 (Value.ownBlock (.slice A acc.length c)) → MkRel fold p ns w (i + 1) (w4.setCell ⟨w.heap.size + 1, 0, none⟩ (.slice A4 (acc.length + 1) c4)) := fun w4 A4 c4 ho4 hg4 =>
            MkRel.step hlt (Nat.lt_succ_self i) (by rw [HDR.out]; exact hr2) (by rw [← hr1]; exact HNS.out) HACC.out hown hbm hbz hbel (Below.refl _ _) ho4 hg4
          have HS := hid hstep
          clear hstep hr1 hr2
          go_wp2_with (at_builtin; refine wpList_app rfl _ _ rfl elem58 rfl (hown.alloc _) rfl (Reads.blk (P := fun _ => True) (Blk.new wr 88 #[.iface 76 (.agg #[])]) trivial rfl) (by simp [Value.oneCell']) HIM.out (by have := HBS.out; simp; omega) ?_; intro A4 c4 w4 ho4 hg4 hat4; have hb4 := (hbm.alloc _).grown hg4 (own_past hown (by omega)); have hs4 := hb4.cell 0; have hf4 := hb4.frozen 0; simp at hs4)
          go_roundw
          case rel => exact ⟨i + 1, I_nat (by omega), HS.out _ _ _ ho4 hg4⟩
          case measure => simp [intOf]; omega
        · have e95 : ((x.toNat : Int) == 95) = false := by rw [beq_eq_false_iff_ne]; intro e; exact h95 (by apply UInt8.toNat_inj.1; simp; omega)
          have e37 : ((x.toNat : Int) == 37) = false := by rw [beq_eq_false_iff_ne]; intro e; exact h37 (by apply UInt8.toNat_inj.1; simp; omega)
          have hne : ((x.toNat : Int) == 65533) = false := by rw [beq_eq_false_iff_ne]; omega
          have H95 := hid h95
          have H37 := hid h37
          clear h95 h37
          by_cases h124 : x = 124
          ·
            subst h124
            have hpr := HPR.out
            rw [HX.out] at hpr
            obtain ⟨d, r, r', htl, hr1, hr2⟩ := parse_esc hpr
            clear hpr
            have hdrop2 : p.drop (i + 2) = r := by rw [show i + 2 = (i + 1) + 1 from rfl, ← List.drop_drop, HDR.out, htl]; rfl
            have HDR2 := hid hdrop2
            clear hdrop2
            have hdb : d.toNat < 128 := HB.out d (List.mem_of_mem_drop (i := i + 1) (by rw [HDR.out, htl]; simp))
            have hi2 : i + 2 ≤ p.length := by
              have h := congrArg List.length HDR.out
              rw [htl] at h
              simp at h
              omega
            have hI2 : (i : Int) + 1 ≤ (p.length : Int) := by omega
            have HTL := hid htl
            clear htl
            have hd0 : (0 : Int) ≤ (d.toNat : Int) := by omega
            have hd1 : (d.toNat : Int) ≤ 127 := by omega
            have hnd : ((d.toNat : Int) == 65533) = false := by rw [beq_eq_false_iff_ne]; omega
            have HI2 := hid hi2
            have HDB := hid hdb
            clear hdb hi2
            go_wp2_with fail
            rw [drop_str, HDR.out, HTL.out]
            refine (decode_cons d r _ HDB.out).mono ?_
            rintro e wz ⟨rfl, rfl⟩
            have hi2 := HI2.out
            have hstep : ∀ (w4 : World) (A4 : Option Addr) (c4 : Nat), w4.ownsRow (w.heap.size + 2) 88 1 (.slice A4 (acc.length + 1) c4) (acc.length + 1) (acc.map MN.val ++ [MN.val (.rune d.toNat (wt fold d.toNat))]) →
                (wr.alloc (.cells #[.iface 74 (.agg #[R d.toNat, R (wt fold d.toNat)])] 88)).drew.grownBy w4 (Value.ownBlock (.slice A acc.length c)) → MkRel fold p ns w (i + 2) (w4.setCell ⟨w.heap.size + 1, 0, none⟩ (.slice A4 (acc.length + 1) c4)) := fun w4 A4 c4 ho4 hg4 =>
              MkRel.step hi2 (by omega) (by rw [HDR2.out]; exact hr2) (by rw [← hr1]; exact HNS.out) HACC.out hown hbm hbz hbel (Below.refl _ _).drew ho4 (show (wr.drew.alloc _).grownBy w4 _ from hg4)
            have HS := hid hstep
            clear hstep hr1 hr2
            go_upto_region 20 with fail
            have hcT : colF true = 20 := rfl
            have hcF : colF false = 19 := rfl
            have HONE : Hid (∀ a b : Int, ∀ u ∈ [Value.iface 74 (.agg #[R a, R b])], u.oneCell' = true) := by intro a b; simp [Value.oneCell']
            have HBAS : Hid (∀ o, w.heap.size + 2 ≤ (wr.alloc o).drew.heap.size) := by intro o; have := HBS.out; simp; omega
            have HPAST : Hid (some (w.heap.size + 1) ≠ Value.ownBlock (.slice A acc.length c)) := own_past hown (by omega)
            have hal : ∀ o, (wr.alloc o).cell? ⟨w.heap.size + 1, 0, none⟩ = some (.slice A acc.length c) := fun o => by rw [(hbm.alloc o).cell]; rfl
            have HX255 : Hid ((d.toNat : Int) ≤ 255) := by show _ ≤ _; omega
            cases fold
            case false =>
              go_region_law
                (first
                  | (refine step_app rfl _ _ rfl elem58 rfl (own_drew (hown.alloc _)) rfl (Reads.blk (P := fun _ => True) (Blk.new wr 88 #[.iface 74 (.agg #[R d.toNat, R (wt false d.toNat)])]).drew trivial rfl) (HONE.out _ _) HIM.out (HBAS.out _) ?_
                     intro A4 c4 w4 ho4 hg4 hat4
                     have hb4 := (hbm.alloc _).drew.grown hg4 (HPAST.out)
                     have hs4 := hb4.cell 0
                     have hf4 := hb4.frozen 0
                     simp at hs4)
                  | (go_simp
                     go_at_call 19
                     refine (weight_wt _ _).mono ?_
                     rintro e wz ⟨rfl, rfl⟩))
              all_goals
                go_wp2_with fail
                go_roundw
                case rel => exact ⟨i + 2, I_nat (by omega), HS.out _ _ _ ho4 hg4⟩
                case measure => simp [intOf]; omega
            case true =>
              go_region_law
                (first
                  | (refine step_app rfl _ _ rfl elem58 rfl (own_drew (hown.alloc _)) rfl (Reads.blk (P := fun _ => True) (Blk.new wr 88 #[.iface 74 (.agg #[R d.toNat, R (wt true d.toNat)])]).drew trivial rfl) (HONE.out _ _) HIM.out (HBAS.out _) ?_
                     intro A4 c4 w4 ho4 hg4 hat4
                     have hb4 := (hbm.alloc _).drew.grown hg4 (HPAST.out)
                     have hs4 := hb4.cell 0
                     have hf4 := hb4.frozen 0
                     simp at hs4)
                  | (go_simp
                     go_at_call 20
                     refine (folded_any _ _ hd0 HX255.out).mono ?_
                     rintro e wz ⟨rfl, rfl⟩))
              all_goals
                go_wp2_with fail
                go_roundw
                case rel => exact ⟨i + 2, I_nat (by omega), HS.out _ _ _ ho4 hg4⟩
                case measure => simp [intOf]; omega
          · have e124 : ((x.toNat : Int) == 124) = false := by rw [beq_eq_false_iff_ne]; intro e; exact h124 (by apply UInt8.toNat_inj.1; simp; omega)
            have hpr := HPR.out
            rw [HX.out] at hpr
            obtain ⟨r', hr1, hr2⟩ := parse_self H95.out H37.out h124 hpr
            clear hpr h124
            have hstep : ∀ (w4 : World) (A4 : Option Addr) (c4 : Nat), w4.ownsRow (w.heap.size + 2) 88 1 (.slice A4 (acc.length + 1) c4) (acc.length + 1) (acc.map MN.val ++ [MN.val (.rune x.toNat (wt fold x.toNat))]) →
                (wr.alloc (.cells #[.iface 74 (.agg #[R x.toNat, R (wt fold x.toNat)])] 88)).drew.grownBy w4 (Value.ownBlock (.slice A acc.length c)) → MkRel fold p ns w (i + 1) (w4.setCell ⟨w.heap.size + 1, 0, none⟩ (.slice A4 (acc.length + 1) c4)) := fun w4 A4 c4 ho4 hg4 =>
              MkRel.step hlt (Nat.lt_succ_self i) (by rw [HDR.out]; exact hr2) (by rw [← hr1]; exact HNS.out) HACC.out hown hbm hbz hbel (Below.refl _ _).drew ho4 (show (wr.drew.alloc _).grownBy w4 _ from hg4)
            have HS := hid hstep
            clear hstep hr1 hr2
            go_upto_region 10 with fail
            have hcT : colF true = 20 := rfl
            have hcF : colF false = 19 := rfl
            have HONE : Hid (∀ a b : Int, ∀ u ∈ [Value.iface 74 (.agg #[R a, R b])], u.oneCell' = true) := by intro a b; simp [Value.oneCell']
            have HBAS : Hid (∀ o, w.heap.size + 2 ≤ (wr.alloc o).drew.heap.size) := by intro o; have := HBS.out; simp; omega
            have HPAST : Hid (some (w.heap.size + 1) ≠ Value.ownBlock (.slice A acc.length c)) := own_past hown (by omega)
            have hal : ∀ o, (wr.alloc o).cell? ⟨w.heap.size + 1, 0, none⟩ = some (.slice A acc.length c) := fun o => by rw [(hbm.alloc o).cell]; rfl
            have HX255 : Hid ((x.toNat : Int) ≤ 255) := by show _ ≤ _; omega
            cases fold
            case false =>
              go_region_law
                (first
                  | (refine step_app rfl _ _ rfl elem58 rfl (own_drew (hown.alloc _)) rfl (Reads.blk (P := fun _ => True) (Blk.new wr 88 #[.iface 74 (.agg #[R x.toNat, R (wt false x.toNat)])]).drew trivial rfl) (HONE.out _ _) HIM.out (HBAS.out _) ?_
                     intro A4 c4 w4 ho4 hg4 hat4
                     have hb4 := (hbm.alloc _).drew.grown hg4 (HPAST.out)
                     have hs4 := hb4.cell 0
                     have hf4 := hb4.frozen 0
                     simp at hs4)
                  | (go_simp
                     go_at_call 19
                     refine (weight_wt _ _).mono ?_
                     rintro e wz ⟨rfl, rfl⟩))
              all_goals
                go_wp2_with fail
                go_roundw
                case rel => exact ⟨i + 1, I_nat (by omega), HS.out _ _ _ ho4 hg4⟩
                case measure => simp [intOf]; omega
            case true =>
              go_region_law
                (first
                  | (refine step_app rfl _ _ rfl elem58 rfl (own_drew (hown.alloc _)) rfl (Reads.blk (P := fun _ => True) (Blk.new wr 88 #[.iface 74 (.agg #[R x.toNat, R (wt true x.toNat)])]).drew trivial rfl) (HONE.out _ _) HIM.out (HBAS.out _) ?_
                     intro A4 c4 w4 ho4 hg4 hat4
                     have hb4 := (hbm.alloc _).drew.grown hg4 (HPAST.out)
                     have hs4 := hb4.cell 0
                     have hf4 := hb4.frozen 0
                     simp at hs4)
                  | (go_simp
                     go_at_call 20
                     refine (folded_any _ _ hx0 HX255.out).mono ?_
                     rintro e wz ⟨rfl, rfl⟩))
              all_goals
                go_wp2_with fail
                go_roundw
                case rel => exact ⟨i + 1, I_nat (by omega), HS.out _ _ _ ho4 hg4⟩
                case measure => simp [intOf]; omega
    · obtain rfl : i = p.length := by omega
      have hrest : rest = [] := by
        have h := HPR.out
        rw [List.drop_length] at h
        simpa [parse] using h.symm
      subst hrest
      have hacc : acc = ns := by have := HNS.out; simpa using this
      subst hacc
      have hc0 := hbm.cell 0
      have hc1 := hbm.cell 1
      have hc2 := hbm.cell 2
      have hz0 := hbz.cell 0
      have hz1 := hbz.cell 1
      have hz2 := hbz.cell 2
      have hf0 := hbz.frozen 0
      have hf1 := hbz.frozen 1
      have hf2 := hbz.frozen 2
      simp at hc0 hc1 hc2 hz0 hz1 hz2
      have hfin : MkPost fold acc w (.returned (.tuple #[.agg #[.slice A acc.length c, col fold, R 124], .nilIface]))
          (((wr.setCell ⟨w.heap.size, 0, none⟩ (.slice A acc.length c)).setCell ⟨w.heap.size, 1, none⟩ (col fold)).setCell ⟨w.heap.size, 2, none⟩ (R 124)) := by
        have hsz : (((wr.setCell ⟨w.heap.size, 0, none⟩ (.slice A acc.length c)).setCell ⟨w.heap.size, 1, none⟩ (col fold)).setCell ⟨w.heap.size, 2, none⟩ (R 124)).heap.size = wr.heap.size := by simp [World.setCell]
        refine ⟨A, c, rfl, ?_, ?_, ?_⟩
        · obtain ⟨A2, c2, h1, h2⟩ := own_form hown
          injection h1 with _ _ h3
          omega
        · have h := (Row.of_own hown).keep (w' := ((wr.setCell ⟨w.heap.size, 0, none⟩ (.slice A acc.length c)).setCell ⟨w.heap.size, 1, none⟩ (col fold)).setCell ⟨w.heap.size, 2, none⟩ (R 124)) (fun b hb => by
            have := hb.2.1
            rw [Below.heap_setCell _ _ _ _ (show b ≠ w.heap.size by omega), Below.heap_setCell _ _ _ _ (show b ≠ w.heap.size by omega), Below.heap_setCell _ _ _ _ (show b ≠ w.heap.size by omega)])
          exact h.more fun b hb => ⟨by have := hb.2.1; omega, by rw [hsz]; exact hb.2.2⟩
        · exact ((hbel.setCell (p := ⟨w.heap.size, 0, none⟩) (Nat.le_refl _) _).setCell (p := ⟨w.heap.size, 1, none⟩) (Nat.le_refl _) _).setCell (p := ⟨w.heap.size, 2, none⟩) (Nat.le_refl _) _
      have HFIN := hid hfin
      clear hfin
      go_wp2_with fail
      exact bodyPost_ret (v := .tuple #[.agg #[.slice A acc.length c, col fold, R 124], .nilIface]) (by simp [results, Tryd.results29, go_sem, hz0, hz1, hz2]) rfl HFIN.out

end Go.Proofs.YtbfadghogjldcaaDoor

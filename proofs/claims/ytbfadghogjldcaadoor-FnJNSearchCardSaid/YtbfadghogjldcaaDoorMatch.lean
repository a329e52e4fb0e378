/- The walk of 'Match'. -/
import Derived.Test.YtbfadghogjldcaaDoorBack
import Derived.Laws.MakeOwn
namespace Go.Proofs.YtbfadghogjldcaaDoor
open Go.RowKit
set_option linter.unusedVariables false
set_option linter.unusedSimpArgs false

theorem own_take {w : World} {b : Nat} {e : TypeId} {n c : Nat} {B : Option Addr} {xs : List Value} (h : w.ownsRow b e 1 (.slice B n c) n xs) {k : Nat} (hk : k ≤ n) (h0 : 0 < n) : w.ownsRow b e 1 (.slice B k c) k (xs.take k) := by
  refine ⟨by have := h.1; simp; omega, ?_⟩
  rcases h.2 with ⟨hv, hn⟩ | ⟨g', cap, cur, hv, hb, hg, hn, hc, hs, ht⟩
  · omega
  · injection hv with h1 _ h3
    subst h1 h3
    refine .inr ⟨g', c, cur, rfl, hb, hg, by omega, hc, hs, ?_⟩
    rw [← ht, List.take_take]
    congr 1
    omega

theorem assert_any (w : World) : (Instr.typeAssert (.iface 76 (.agg #[])) 88 76 true).run Tryd.prog w = .ok (.tuple #[.agg #[], .bool true]) w := by kernel_rfl
theorem assert_rune (o k : Int) (w : World) : (Instr.typeAssert (.iface 74 (.agg #[R o, R k])) 88 76 true).run Tryd.prog w = .ok (.tuple #[.agg #[], .bool false]) w := by kernel_rfl

/-- The head of the loop. -/
def MaRel (fold : Bool) (ns : List MN) (s : List UInt8) (w : World) (A : Option Addr) (c k : Nat) (v5 v6 v7 : Value) (wr : World) : Prop :=
  ∃ (X : List Nat) (si : Nat) (B : Option Addr) (c2 : Nat), v5 = I si ∧ v6 = I X.length ∧ v7 = .slice B X.length c2 ∧ Hid (MSt fold ns s X si) ∧ Hid (todo ns s X = k) ∧
    wr.ownsRow (w.heap.size + 1) 3 1 (.slice B X.length c2) X.length (rowX X) ∧ Below (w.heap.size + 1) (w.alloc (.cells #[.slice A ns.length c, col fold, R 124] 60)) wr

/-- Back to the last any: the next round. -/
theorem MaRel.again {fold : Bool} {ns : List MN} {s : List UInt8} {w : World} {A : Option Addr} {c c2 si j x : Nat} {X : List Nat} {B : Option Addr} {wr wq : World} (hM : MSt fold ns s X si) (hsi : si < s.length) (hl : glob fold (ns.drop X.length) (s.drop si) = false)
    (hb : back ns X.length = some j) (hx : X[j]? = some x) (hX : wr.ownsRow (w.heap.size + 1) 3 1 (.slice B X.length c2) X.length (rowX X)) (hbel : Below (w.heap.size + 1) (w.alloc (.cells #[.slice A ns.length c, col fold, R 124] 60)) wr)
    (hg : wr.grownBy wq (Value.ownBlock (.slice B X.length c2))) (ho : wq.ownsRow (w.heap.size + 1) 3 1 (.slice B X.length c2) X.length ((X.set j (x + 1)).map fun x : Nat => I x)) :
    MaRel fold ns s w A c (todo ns s (X.take j ++ [x + 1])) (I ((x : Int) + 1)) (I ((j : Int) + 1)) (.slice B (j + 1) c2) wq ∧ todo ns s (X.take j ++ [x + 1]) < todo ns s X := by
  have hj := (back_some hb).1
  have hlen : (X.take j ++ [x + 1]).length = j + 1 := by simp; omega
  refine ⟨⟨X.take j ++ [x + 1], x + 1, B, c2, rfl, by rw [hlen]; rfl, by rw [hlen], hM.again hb hx hsi hl, rfl, ?_, ?_⟩, todo_again hM hb hx hsi⟩
  · have h := own_take ho (k := j + 1) (by omega) (by omega)
    rw [hlen]
    rw [show rowX (X.take j ++ [x + 1]) = ((X.set j (x + 1)).map fun x : Nat => I x).take (j + 1) from ?_]
    · exact h
    · rw [← List.map_take]
      unfold rowX
      congr 1
      rw [List.take_set, List.take_add_one, hx]
      simp [List.set_append, Nat.min_eq_left (Nat.le_of_lt hj)]
  · exact hbel.grown hg (by have := hbel.size; rw [heap_size_alloc] at this; exact this) (fun k hk => (hX.lt k hk).1)

/-- One part more has matched. -/
theorem MaRel.push {fold : Bool} {ns : List MN} {s : List UInt8} {w : World} {A : Option Addr} {c c2 x : Nat} {X : List Nat} {B : Option Addr} {wr wq w4 : World} {A4 : Option Addr} {c4 : Nat} (hM : MSt fold ns s (X ++ [x]) x)
    (hX : wr.ownsRow (w.heap.size + 1) 3 1 (.slice B X.length c2) X.length (rowX X)) (hbel : Below (w.heap.size + 1) (w.alloc (.cells #[.slice A ns.length c, col fold, R 124] 60)) wr) (hq : Below wr.heap.size wr wq)
    (ho4 : w4.ownsRow (w.heap.size + 1) 3 1 (.slice A4 (X.length + 1) c4) (X.length + 1) (rowX X ++ [I x])) (hg4 : wq.grownBy w4 (Value.ownBlock (.slice B X.length c2))) :
    MaRel fold ns s w A c (todo ns s (X ++ [x])) (I x) (I ((X.length : Int) + 1)) (.slice A4 (X.length + 1) c4) w4 := by
  have hsz : w.heap.size + 1 ≤ wr.heap.size := by have := hbel.size; rw [heap_size_alloc] at this; exact this
  refine ⟨X ++ [x], x, A4, c4, rfl, by simp, by simp, hM, rfl, ?_, ?_⟩
  · have e : rowX (X ++ [x]) = rowX X ++ [I x] := by simp [rowX]
    rw [e]
    simpa using ho4
  · exact (hbel.trans (hq.mono hsz)).grown hg4 (Nat.le_trans hsz hq.size) (fun k hk => (hX.lt k hk).1)

set_option maxRecDepth 100000 in
set_option maxHeartbeats 40000000 in
theorem match_walk (fold : Bool) (ns : List MN) (s : List UInt8) (A : Option Addr) (c : Nat) (P : Nat → Prop) (w : World)
    (hA : Reads w P 1 A ns.length (ns.map MN.val)) (hP : ∀ b, P b → b < w.heap.size) (hn : ns.length ≤ 1000) (hs : s.length ≤ 1000) (hb : ∀ c ∈ s, c.toNat < 128) :
    Calls Tryd.prog 36 #[.agg #[.slice A ns.length c, col fold, R 124], S s] w fun e w' => e = .returned (.bool (glob fold ns s)) ∧ Below w.heap.size w w' := by
  have HB := hid hb
  have HP := hid hP
  clear hb hP
  by_cases h0 : ns = []
  · subst h0
    rw [glob_nil]
    cases s with
    | nil =>
      go_enter Tryd.func36, Tryd.ntmps36
      go_wp2_with fail
      go_ret
      exact ⟨rfl, ((Below.refl _ _).alloc (Nat.le_refl _) _)⟩
    | cons ch tl =>
      go_enter Tryd.func36, Tryd.ntmps36
      go_wp2_with fail
      go_ret
      exact ⟨rfl, ((Below.refl _ _).alloc (Nat.le_refl _) _)⟩
  have hpos : 0 < ns.length := List.length_pos_iff.2 h0
  have hl0 : ((ns.length : Int) == 0) = false := by rw [beq_eq_false_iff_ne]; omega
  obtain ⟨i3, hi3, hz3, hs3, hb3⟩ := info_parts info3
  obtain ⟨w1, hrun, hown1, hgr1⟩ := run_make_own (P := Tryd.prog) (w.alloc (.cells #[.slice A ns.length c, col fold, R 124] 60)) (w.heap.size + 1) 83 3 i3 _ 1 Tryd.underlying83 hi3 hz3 hs3 .i64 .i64 ns.length (by rw [hb3]; omega) (by unfold maxLen; omega) (by simp)
  rw [heap_size_alloc] at hrun hown1
  have HOWN := hid hown1
  have hbel1 : Below (w.heap.size + 1) (w.alloc (.cells #[.slice A ns.length c, col fold, R 124] 60)) w1 := by
    have := below_of_grownBy_none hgr1
    rwa [heap_size_alloc] at this
  clear hown1 hgr1 hi3 hz3 hs3 hb3
  go_enter Tryd.func36, Tryd.ntmps36
  go_wp2_with fail
  go_loopg [5, 6, 7] (todo ns s []) (fun k v5 v6 v7 wr => MaRel fold ns s w A c k v5 v6 v7 wr)
  case atStart => exact ⟨[], 0, _, _, rfl, rfl, rfl, MSt.start, rfl, HOWN.out, hbel1⟩
  case round =>
    obtain ⟨X, si, B, c2, rfl, rfl, rfl, hM, hT, hX, hbel⟩ := hrel
    have hbelw : Below w.heap.size w wr := ((Below.refl _ _).alloc (Nat.le_refl _) _).trans (hbel.mono (by omega))
    have hbox : Blk wr w.heap.size 60 #[.slice A ns.length c, col fold, R 124] := (Blk.new w 60 _).below hbel (by omega)
    have hb0 := hbox.cell 0
    have hb1 := hbox.cell 1
    have hb2 := hbox.cell 2
    simp at hb0 hb1 hb2
    have hXn := hM.out.len
    have hsi := hM.out.le
    have HBELW := hid hbelw
    have HBEL := hid hbel
    have HSZ : Hid (w.heap.size + 1 ≤ wr.heap.size) := by have := hbel.size; rw [heap_size_alloc] at this; exact this
    clear hbelw hbel hbox hrun hbel1
    by_cases e1 : si = s.length
    · by_cases e2 : X.length = ns.length
      · have q1 : ((si : Int) == (s.length : Int)) = true := by rw [beq_iff_eq]; omega
        have q2 : ((X.length : Int) == (ns.length : Int)) = true := by rw [beq_iff_eq]; omega
        have hres : glob fold ns s = true := by
          have h := hM.out
          subst e1
          exact h.done e2
        have HR := hid hres
        clear hres
        go_wp2_with fail
        rw [HR.out]
        go_ret
        exact ⟨rfl, HBELW.out⟩
      · have q1 : ((si : Int) == (s.length : Int)) = true := by rw [beq_iff_eq]; omega
        have q2 : ((X.length : Int) == (ns.length : Int)) = false := by rw [beq_eq_false_iff_ne]; omega
        have q3 : decide ((si : Int) < (s.length : Int)) = false := decide_eq_false (by omega)
        have q4 : decide ((X.length : Int) < (ns.length : Int)) = true := decide_eq_true (by omega)
        go_wp2_with fail
        go_loopw [6] (fun v6 w2 => ∃ i : Nat, v6 = I i ∧ X.length ≤ i ∧ i ≤ ns.length ∧ Hid (∀ j, X.length ≤ j → j < i → ns[j]? = some .any) ∧ Below (w.heap.size + 1) wr w2) (fun v _ => ns.length - (intOf v).toNat)
        case atStart => exact ⟨X.length, rfl, Nat.le_refl _, hXn, fun j h1 h2 => by omega, Below.refl _ _⟩
        case round =>
          obtain ⟨i, rfl, hi1, hi2, hall, hb2'⟩ := hrel
          have hcc := hb2'.cell (p := ⟨w.heap.size, 0, none⟩) (by simp)
          rw [hb0] at hcc
          have HB2 := hid hb2'
          clear hb2'
          by_cases hlt : i < ns.length
          · have hI : decide ((i : Int) < (ns.length : Int)) = true := decide_eq_true (by omega)
            have hI2 : (i : Int) < (ns.length : Int) := by omega
            obtain ⟨m, hm⟩ : ∃ m, ns[i]? = some m := ⟨_, List.getElem?_eq_getElem hlt⟩
            obtain ⟨ad, u, rfl, hadP, hu, hcell⟩ := hA.at_ hlt
            have hum : u = MN.val m := by
              rw [List.getElem?_map, hm] at hu
              simpa using hu.symm
            subst hum
            have hcell' : wr.cell? (ad.add i) = some (MN.val m) := by
              rw [(HBELW.out.trans (HB2.out.mono (by omega))).cell (by rw [block_of_add]; exact HP.out _ hadP)]; exact hcell
            have HM := hid hm
            clear hm hu hcell hadP
            cases m with
            | any =>
              have hcell2 : wr.cell? (ad.add i) = some (.iface 76 (.agg #[])) := hcell'
              clear hcell'
              have has := assert_any
              go_wp2_with fail
              go_roundw
              case rel =>
                refine ⟨i + 1, I_nat (by omega), by omega, by omega, fun j h1 h2 => ?_, ?_⟩
                · by_cases hj : j = i
                  · subst hj; exact HM.out
                  · exact hall.out j h1 (by omega)
                · exact HB2.out.alloc (Nat.le_trans HSZ.out HB2.out.size) _
              case measure => simp [intOf]; omega
            | rune o k =>
              have hcell2 : wr.cell? (ad.add i) = some (.iface 74 (.agg #[R o, R k])) := hcell'
              clear hcell'
              have has := assert_rune
              have hres : glob fold ns s = false := by
                have h := hM.out
                subst e1
                refine h.ends ⟨.rune o k, ?_, rfl⟩
                have hj : (ns.drop X.length)[i - X.length]? = some (.rune o k) := by rw [List.getElem?_drop, show X.length + (i - X.length) = i by omega]; exact HM.out
                exact List.mem_of_getElem? hj
              have HR := hid hres
              clear hres
              go_wp2_with fail
              rw [HR.out]
              go_ret
              exact ⟨rfl, (HBELW.out.trans (HB2.out.mono (by omega))).alloc (Nat.le_trans (Nat.le_succ _) (Nat.le_trans HSZ.out HB2.out.size)) _⟩
          · obtain rfl : i = ns.length := by omega
            have hres : glob fold ns s = true := by
              have h := hM.out
              subst e1
              refine h.won ?_
              rw [List.drop_length]
              refine glob_stars fun m hm => ?_
              obtain ⟨j, hj, he⟩ := List.getElem_of_mem hm
              rw [List.getElem_drop] at he
              have := hall.out (X.length + j) (by omega) (by simp at hj; omega)
              rw [List.getElem?_eq_getElem (by simp at hj; omega), he] at this
              injection this with this
              rw [this]
              rfl
            have HR := hid hres
            clear hres
            go_wp2_with fail
            rw [HR.out]
            go_ret
            exact ⟨rfl, HBELW.out.trans (HB2.out.mono (by omega))⟩
    · by_cases e2 : X.length = ns.length
      · have q1 : ((si : Int) == (s.length : Int)) = false := by rw [beq_eq_false_iff_ne]; omega
        have q2 : ((X.length : Int) == (ns.length : Int)) = true := by rw [beq_iff_eq]; omega
        have q3 : decide ((si : Int) < (s.length : Int)) = true := decide_eq_true (by omega)
        have HSL : Hid (si < s.length) := by show _ < _; omega
        have HXS : Hid (∀ x ∈ X, x < s.length) := fun x hx => Nat.lt_of_le_of_lt (hM.out.top x hx) HSL.out
        have HL : Hid (glob fold (ns.drop X.length) (s.drop si) = false) := by
          show glob fold _ _ = false
          rw [e2, List.drop_length, glob_nil, List.drop_eq_getElem_cons HSL.out]
          rfl
        have HAR : Hid (Reads wr P 1 A ns.length (ns.map MN.val)) := hA.keep fun p hp => HBELW.out.cell (HP.out _ hp)
        have HE2 := hid e2
        clear e2

        go_wp2_with fail
        refine (back_walk fold ns s X A B c c2 (w.heap.size + 1) _ P wr HAR.out (fun b hb => Nat.lt_of_lt_of_le (HP.out b hb) HBELW.out.size) hX hXn hn (by omega) (by omega) hs HXS.out HB.out).mono ?_
        rintro e w3 hpost
        rcases hbk : back ns X.length with _ | j
        · unfold BackPost at hpost
          rw [hbk] at hpost
          obtain ⟨rfl, hb3⟩ := hpost
          have hres : glob fold ns s = false := hM.out.lost hbk HL.out
          have HR := hid hres
          have HBK := hid hbk
          clear hres hbk
          go_wp2_with fail
          rw [HR.out]
          go_ret
          exact ⟨rfl, HBELW.out.trans (hb3.mono HBELW.out.size)⟩
        · unfold BackPost at hpost
          rw [hbk] at hpost
          obtain ⟨x, hx, rfl, hg3, ho3⟩ := hpost
          have hag := MaRel.again (A := A) (c := c) hM.out HSL.out HL.out hbk hx hX HBEL.out hg3 ho3
          have hjl := (back_some hbk).1
          have HAG := hid hag
          obtain ⟨g, cap, hv, hge, hgl⟩ := ho3.form (by omega)
          have hcap : X.length ≤ c2 := by
            obtain ⟨_, _, hv, hle⟩ := own_form ho3
            injection hv with _ _ hv
            omega
          injection hv with hv _ hcc
          subst hv
          clear hcc
          have hc3 : w3.cell? ⟨g, j, none⟩ = some (I ((x : Int) + 1)) := by
            have := ho3.cells (g := g) rfl j (I ((x : Int) + 1)) (by rw [List.getElem?_map, List.getElem?_set_self (by omega)]; rfl)
            rwa [add_zero_off] at this
          have hj1 : ((j : Int) + 1) ≤ (c2 : Int) := by omega
          have hj2 : ((j : Int) + 1) ≤ 1000 := by omega
          have HX := hid hx
          have HBK := hid hbk
          clear hag hx hbk hg3 ho3 hge hgl
          go_wp2_with fail
          go_roundg (todo ns s (X.take j ++ [x + 1]))
          case rel => exact HAG.out.1
          case measure => have := HAG.out.2; have := hT.out; omega
      · have q1 : ((si : Int) == (s.length : Int)) = false := by rw [beq_eq_false_iff_ne]; omega
        have q2 : ((X.length : Int) == (ns.length : Int)) = false := by rw [beq_eq_false_iff_ne]; omega
        have q3 : decide ((si : Int) < (s.length : Int)) = true := decide_eq_true (by omega)
        have q5 : (X.length : Int) < (ns.length : Int) := by omega
        have q6 : (si : Int) ≤ (s.length : Int) := by omega
        have q7 : (si : Int) ≤ 1000 := by omega
        have q8 : (X.length : Int) ≤ 1000 := by omega
        have hlt : X.length < ns.length := by omega
        have HSL : Hid (si < s.length) := by show _ < _; omega
        have HXS : Hid (∀ x ∈ X, x < s.length) := fun x hx => Nat.lt_of_le_of_lt (hM.out.top x hx) HSL.out
        obtain ⟨m, hm⟩ : ∃ m, ns[X.length]? = some m := ⟨_, List.getElem?_eq_getElem hlt⟩
        obtain ⟨ch, tl, hd⟩ : ∃ ch tl, s.drop si = ch :: tl := ⟨_, _, List.drop_eq_getElem_cons HSL.out⟩
        have hch : ch.toNat < 128 := HB.out ch (List.mem_of_mem_drop (by rw [hd]; simp))
        have hsc : s[si]? = some ch := by
          have : (s.drop si)[0]? = some ch := by rw [hd]; rfl
          simpa using this
        have h65 : ((ch.toNat : Int) == 65533) = false := by rw [beq_eq_false_iff_ne]; omega
        have hch0 : 0 ≤ (ch.toNat : Int) := by omega
        have HCH1 : Hid ((ch.toNat : Int) ≤ 255) := by show _ ≤ _; omega
        have hAr : Reads wr P 1 A ns.length (ns.map MN.val) := hA.keep fun p hp => HBELW.out.cell (HP.out _ hp)
        have HAR := hid hAr
        obtain ⟨ad, u, rfl, hadP, hu, hcell⟩ := hAr.at_ hlt
        have hum : u = MN.val m := by
          rw [List.getElem?_map, hm] at hu
          simpa using hu.symm
        subst hum
        have HCH := hid hch
        have HD := hid hd
        have HM := hid hm
        have HE2 := hid e2
        have HE1 := hid e1
        have HLT := hid hlt
        have HSC := hid hsc
        have HX3 : Hid (∀ w3, Below wr.drew.heap.size wr.drew w3 → w3.ownsRow (w.heap.size + 1) 3 1 (.slice B X.length c2) X.length (rowX X)) := fun w3 hb3 => hX.kept (row := none) ⟨hb3.os, hb3.tape, hb3.output, hb3.size, fun k hk _ => hb3.block k hk⟩ (Classical.em _)
        have HONE : Hid (∀ a : Int, ∀ u ∈ [I a], u.oneCell' = true) := by intro a; simp [Value.oneCell']
        have HIM : Hid (X.length + 1 ≤ 1000000) := by show _ ≤ _; omega
        have HBAS : Hid (∀ w3 o, Below wr.drew.heap.size wr.drew w3 → w.heap.size + 1 ≤ (World.alloc w3 o).heap.size) := fun w3 o hb3 => by
          rw [heap_size_alloc]
          exact Nat.le_trans (Nat.le_trans HSZ.out hb3.size) (Nat.le_succ _)
        clear hch hd hm hAr hu hadP e1 e2 hlt hsc
        go_wp2_with fail
        rw [drop_str, HD.out]
        refine (decode_cons ch tl _ HCH.out).mono ?_
        rintro e wz ⟨rfl, rfl⟩
        cases m with
        | any =>
          have hcell2 : wr.cell? (ad.add X.length) = some (.iface 76 (.agg #[])) := hcell
          clear hcell
          have hstep : ∀ (w3 w4 : World) (A4 : Option Addr) (c4 : Nat) (o : Obj), Below wr.drew.heap.size wr.drew w3 → w4.ownsRow (w.heap.size + 1) 3 1 (.slice A4 (X.length + 1) c4) (X.length + 1) (rowX X ++ [I si]) → (w3.alloc o).grownBy w4 (Value.ownBlock (.slice B X.length c2)) →
              MaRel fold ns s w (some ad) c (todo ns s (X ++ [si])) (I si) (I ((X.length : Int) + 1)) (.slice A4 (X.length + 1) c4) w4 := fun w3 w4 A4 c4 o hb3 ho4 hg4 =>
            MaRel.push (hM.out.push_any HM.out) hX HBEL.out ((below_undrew hb3).alloc hb3.size o) ho4 hg4
          have HST := hid hstep
          clear hstep
          go_upto_region 27 with fail
          have hmt := meth_any_match
          go_region_law (first | (go_simp; go_at_call 90; refine (any_match fold ch.toNat _).mono ?_; rintro e w3 ⟨rfl, hb3⟩))
          all_goals
            have hX3 := HX3.out w3 hb3
            go_wp2_with (at_builtin; refine wpList_app rfl _ _ rfl elem83 rfl (hX3.alloc _) rfl (Reads.blk (P := fun _ => True) (Blk.new w3 3 #[I si]) trivial rfl) (HONE.out _) HIM.out (HBAS.out _ _ hb3) ?_; intro A4 c4 w4 ho4 hg4 hat4)
            go_roundg (todo ns s (X ++ [si]))
            case rel => exact HST.out _ _ _ _ _ hb3 ho4 hg4
            case measure => have := todo_any hM.out HM.out; have := hT.out; omega
        | rune o k =>
          have hcell2 : wr.cell? (ad.add X.length) = some (.iface 74 (.agg #[R o, R k])) := hcell
          clear hcell
          have hmt := meth_rune_match
          rcases he : MN.eats fold (.rune o k) ch.toNat with _ | _
          · have hrm : ∀ w, Calls Tryd.prog 88 #[.agg #[R o, R k], col fold, R ch.toNat] w fun e w' => e = .returned (.tuple #[.bool false, .bool false]) ∧ Below w.heap.size w w' := fun w => by
              have h := rune_match fold o k ch.toNat w hch0 HCH1.out
              rw [he] at h
              exact h
            have HRM := hid hrm
            have HL : Hid (glob fold (ns.drop X.length) (s.drop si) = false) := by
              show glob fold _ _ = false
              rw [HD.out, drop_rune HM.out, glob_rune, he]
              rfl
            clear he hrm
            go_upto_region 27 with fail
            go_region_law (first | (go_simp; go_at_call 88; refine (HRM.out _).mono ?_; rintro e w3 ⟨rfl, hb3⟩))
            all_goals
              have hX3 := HX3.out w3 hb3
              have hbk3 := below_undrew hb3
              have HBW3 : Hid (Below w.heap.size w w3) := HBELW.out.trans (hbk3.mono HBELW.out.size)
              have HBEL3 : Hid (Below (w.heap.size + 1) (w.alloc (.cells #[.slice (some ad) ns.length c, col fold, R 124] 60)) w3) := HBEL.out.trans (hbk3.mono HSZ.out)
              have HAR3 : Hid (Reads w3 P 1 (some ad) ns.length (ns.map MN.val)) := HAR.out.keep fun p hp => hbk3.cell (Nat.lt_of_lt_of_le (HP.out _ hp) HBELW.out.size)
              have hb03 : w3.cell? ⟨w.heap.size, 0, none⟩ = some (.slice (some ad) ns.length c) := by rw [hbk3.cell (p := ⟨w.heap.size, 0, none⟩) (by have := HSZ.out; show w.heap.size < wr.heap.size; omega)]; exact hb0
              have hb13 : w3.cell? ⟨w.heap.size, 1, none⟩ = some (col fold) := by rw [hbk3.cell (p := ⟨w.heap.size, 1, none⟩) (by have := HSZ.out; show w.heap.size < wr.heap.size; omega)]; exact hb1
              have hb23 : w3.cell? ⟨w.heap.size, 2, none⟩ = some (R 124) := by rw [hbk3.cell (p := ⟨w.heap.size, 2, none⟩) (by have := HSZ.out; show w.heap.size < wr.heap.size; omega)]; exact hb2
              have HB3 := hid hb3
              clear hbk3 hb3
              go_wp2_with fail
              refine (back_walk fold ns s X (some ad) B c c2 (w.heap.size + 1) _ P w3 HAR3.out (fun b hb => Nat.lt_of_lt_of_le (HP.out b hb) HBW3.out.size) hX3 hXn hn (by omega) (by omega) hs HXS.out HB.out).mono ?_
              rintro e w5 hpost
              rcases hbk : back ns X.length with _ | j
              · unfold BackPost at hpost
                rw [hbk] at hpost
                obtain ⟨rfl, hb5⟩ := hpost
                have hres : glob fold ns s = false := hM.out.lost hbk HL.out
                have HR := hid hres
                have HBK := hid hbk
                clear hres hbk
                go_wp2_with fail
                rw [HR.out]
                go_ret
                exact ⟨rfl, HBW3.out.trans (hb5.mono HBW3.out.size)⟩
              · unfold BackPost at hpost
                rw [hbk] at hpost
                obtain ⟨x, hx, rfl, hg5, ho5⟩ := hpost
                have hag := MaRel.again (A := some ad) (c := c) hM.out HSL.out HL.out hbk hx hX3 HBEL3.out hg5 ho5
                have hjl := (back_some hbk).1
                have HAG := hid hag
                obtain ⟨g, cap, hv, hge, hgl⟩ := ho5.form (by omega)
                have hcap : X.length ≤ c2 := by
                  obtain ⟨_, _, hv, hle⟩ := own_form ho5
                  injection hv with _ _ hv
                  omega
                injection hv with hv _ hcc
                subst hv
                clear hcc
                have hc5 : w5.cell? ⟨g, j, none⟩ = some (I ((x : Int) + 1)) := by
                  have := ho5.cells (g := g) rfl j (I ((x : Int) + 1)) (by rw [List.getElem?_map, List.getElem?_set_self (by omega)]; rfl)
                  rwa [add_zero_off] at this
                have hj1 : ((j : Int) + 1) ≤ (c2 : Int) := by omega
                have hj2 : ((j : Int) + 1) ≤ 1000 := by omega
                have HX := hid hx
                have HBK := hid hbk
                clear hag hx hbk hg5 ho5 hge hgl
                go_wp2_with fail
                go_roundg (todo ns s (X.take j ++ [x + 1]))
                case rel => exact HAG.out.1
                case measure => have := HAG.out.2; have := hT.out; omega
          · have hrm : ∀ w, Calls Tryd.prog 88 #[.agg #[R o, R k], col fold, R ch.toNat] w fun e w' => e = .returned (.tuple #[.bool true, .bool true]) ∧ Below w.heap.size w w' := fun w => by
              have h := rune_match fold o k ch.toNat w hch0 HCH1.out
              rw [he] at h
              exact h
            have HRM := hid hrm
            have hstep : ∀ (w3 w4 : World) (A4 : Option Addr) (c4 : Nat) (o : Obj), Below wr.drew.heap.size wr.drew w3 → w4.ownsRow (w.heap.size + 1) 3 1 (.slice A4 (X.length + 1) c4) (X.length + 1) (rowX X ++ [I ((si : Int) + 1)]) → (w3.alloc o).grownBy w4 (Value.ownBlock (.slice B X.length c2)) →
                MaRel fold ns s w (some ad) c (todo ns s (X ++ [si + 1])) (I ((si : Int) + 1)) (I ((X.length : Int) + 1)) (.slice A4 (X.length + 1) c4) w4 := fun w3 w4 A4 c4 o hb3 ho4 hg4 =>
              MaRel.push (hM.out.push_rune HM.out HSC.out he) hX HBEL.out ((below_undrew hb3).alloc hb3.size o) ho4 hg4
            have HST := hid hstep
            clear hstep he hrm
            go_upto_region 27 with fail
            go_region_law (first | (go_simp; go_at_call 88; refine (HRM.out _).mono ?_; rintro e w3 ⟨rfl, hb3⟩))
            all_goals
              have hX3 := HX3.out w3 hb3
              go_wp2_with (at_builtin; refine wpList_app rfl _ _ rfl elem83 rfl (hX3.alloc _) rfl (Reads.blk (P := fun _ => True) (Blk.new w3 3 #[I ((si : Int) + 1)]) trivial rfl) (HONE.out _) HIM.out (HBAS.out _ _ hb3) ?_; intro A4 c4 w4 ho4 hg4 hat4)
              go_roundg (todo ns s (X ++ [si + 1]))
              case rel => exact HST.out _ _ _ _ _ hb3 ho4 hg4
              case measure => have := todo_rune hM.out HM.out (si + 1); have := hT.out; omega

end Go.Proofs.YtbfadghogjldcaaDoor

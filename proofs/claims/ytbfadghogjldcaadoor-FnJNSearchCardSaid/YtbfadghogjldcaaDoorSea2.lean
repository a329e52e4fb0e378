/- The walk of 'jsonSearch' at a list. -/
import Derived.Test.YtbfadghogjldcaaDoorSea
namespace Go.Proofs.YtbfadghogjldcaaDoor
open Go.RowKit
set_option linter.unusedVariables false
set_option linter.unusedSimpArgs false

theorem decDigits_digits {i : Nat} (h : i < 10) : Lib.decDigits i = digits i := by
  rw [Lib.decDigits, dif_pos h, digits_small h]
theorem itoa_any (i : Nat) (h : i ≤ 9) (w : World) : Calls Tryd.prog 37 #[I i] w fun e w' => e = .returned (S (digits i)) ∧ w = w' :=
  (Tryd.strconv_Itoa_small i (by omega) w).mono fun e w' ⟨h1, h2⟩ => ⟨by rw [h1, decDigits_digits (by omega)], h2.symm⟩

theorem IfVs.at_ {w : World} {P : Nat → Prop} : ∀ {ts : List JT} {xs : List Value} {i : Nat} {t : JT}, IfVs w P ts xs → ts[i]? = some t → ∃ v, xs[i]? = some v ∧ IfV w P t v
  | [], xs, i, t, _, h => by simp at h
  | t' :: ts, xs, 0, t, ⟨v, r, h1, h2, h3⟩, h => by
    simp at h
    subst h h1
    exact ⟨v, rfl, h2⟩
  | t' :: ts, xs, i + 1, t, ⟨v, r, h1, h2, h3⟩, h => by
    subst h1
    obtain ⟨v', h4, h5⟩ := IfVs.at_ h3 (i := i) (by simpa using h)
    exact ⟨v', by simpa using h4, h5⟩

/-- The results so far. -/
def ResAt (w : World) (once : Bool) (F : List (List UInt8)) (v : Value) (wr : World) : Prop :=
  ∃ (L : List (List UInt8)) (A : Option Addr) (c : Nat), v = .slice A L.length c ∧ wr.ownsRow w.heap.size 9 1 (.slice A L.length c) L.length (L.map S) ∧ Mid once L F ∧ Below w.heap.size w wr

theorem ResAt.append {w wr w3 w4 : World} {once : Bool} {F F' L L' : List (List UInt8)} {A A4 : Option Addr} {c c4 : Nat} (hM : Mid once L F) (hM' : Mid once L' F') (hown : wr.ownsRow w.heap.size 9 1 (.slice A L.length c) L.length (L.map S)) (hb : Below w.heap.size w wr) (h3 : Below wr.heap.size wr w3)
    (ho4 : w4.ownsRow w.heap.size 9 1 (.slice A4 (L.length + L'.length) c4) (L.length + L'.length) (L.map S ++ L'.map S)) (hg4 : w3.grownBy w4 (Value.ownBlock (.slice A L.length c))) :
    ResAt w once (F ++ F') (.slice A4 (L.length + L'.length) c4) w4 := by
  refine ⟨L ++ L', A4, c4, by simp, by simpa using ho4, hM.append hM', ?_⟩
  exact (hb.trans (h3.mono hb.size)).grown hg4 (Nat.le_trans hb.size h3.size) (fun k hk => (hown.lt k hk).1)

theorem ResAt.post {w wr : World} {once : Bool} {F L : List (List UInt8)} {A : Option Addr} {c : Nat} (hM : Mid once L F) (hown : wr.ownsRow w.heap.size 9 1 (.slice A L.length c) L.length (L.map S)) (hb : Below w.heap.size w wr) :
    SeaPost w once F (.returned (.tuple #[.slice A L.length c, .bool false])) wr :=
  ⟨L, A, c, false, rfl, .inl ⟨rfl, hM⟩, hown, hb⟩

theorem SeaPost.stopped {w wr w3 : World} {F F' : List (List UInt8)} {A : Option Addr} {c : Nat} {q : List UInt8} (hq : q ∈ F') (hF : ∀ x ∈ F', x ∈ F) (hrow : w3.ownsRow wr.heap.size 9 1 (.slice A 1 c) 1 [S q]) (hb : Below w.heap.size w wr) (h3 : Below wr.heap.size wr w3) :
    SeaPost w true F (.returned (.tuple #[.slice A 1 c, .bool true])) w3 :=
  ⟨[q], A, c, true, rfl, .inr ⟨rfl, rfl, q, hF q hq, rfl⟩, own_base hrow hb.size, hb.trans (h3.mono hb.size)⟩

theorem foundA_sub (f : List UInt8 → Bool) {items : List JT} {i : Nat} {t : JT} (ht : items[i]? = some t) (p : List UInt8) : ∀ x ∈ found f t (stepA p i), x ∈ foundA f items p 0 := by
  intro x hx
  have hi : i < items.length := (List.getElem?_eq_some_iff.1 ht).1
  have h1 : items = items.take i ++ [t] ++ items.drop (i + 1) := by
    conv => lhs; rw [← List.take_append_drop (i + 1) items]
    rw [List.take_add_one, ht]
    rfl
  have h2 : ∀ (xs ys : List JT) (k : Nat), ∀ x ∈ foundA f xs p k, x ∈ foundA f (xs ++ ys) p k := by
    intro xs
    induction xs with
    | nil => intro ys k x hx; simp [foundA] at hx
    | cons a xs ih =>
      intro ys k x hx
      simp only [foundA, List.cons_append, List.mem_append] at hx ⊢
      rcases hx with hx | hx
      · exact .inl hx
      · exact .inr (ih ys (k + 1) x hx)
  rw [h1]
  apply h2
  rw [foundA_snoc]
  have : min i items.length = i := by omega
  simp [this, hx]

set_option maxRecDepth 100000 in
set_option maxHeartbeats 4000000 in
theorem sea_arr (fold once : Bool) (ns : List MN) (items : List JT) (p : List UInt8) (g : Nat) (w : World) (P : Nat → Prop) (A : Option Addr) (c : Nat) (vs : List Value) (hP : ∀ b, P b → b < w.heap.size) (hlen : items.length ≤ 8)
    (hlv : JT.leavess items ≤ 100000) (hpl : p.length + (JT.arr items).room ≤ 1000000) (hm : MatAt w g fold ns) (hrow : Row w P 1 A items.length vs) (hvs : IfVs w P items vs)
    (ih : ∀ (w' : World) (P' : Nat → Prop) (t : JT) (v : Value) (p' : List UInt8), t ∈ items → p'.length + t.room ≤ 1000000 → (∀ b, P' b → b < w'.heap.size) → MatAt w' g fold ns → IfV w' P' t v → Calls Tryd.prog 30 #[v, .pointer (some ⟨g, 0, none⟩), S p', .bool once] w' (SeaPost w' once (found (glob fold ns) t p'))) :
    Calls Tryd.prog 30 #[.iface 66 (.slice A items.length c), .pointer (some ⟨g, 0, none⟩), S p, .bool once] w (SeaPost w once (found (glob fold ns) (.arr items) p)) := by
  have hpl1 : p.length ≤ 1000000 := by omega
  have HPL := hid hpl
  clear hpl
  have IH := hid ih
  have HM := hid hm
  have HVS := hid hvs
  have HROW := hid hrow
  have HP := hid hP
  clear ih hm hvs hrow hP
  have h9 := as_arr_9
  have h66 := as_arr_66
  go_enter Tryd.func30, Tryd.ntmps30
  go_wp2_with fail
  go_loopw [12, 43] (fun v12 v43 wr => ∃ i : Nat, v43 = I i ∧ i ≤ items.length ∧ ResAt w once (foundA (glob fold ns) (items.take i) p 0) v12 wr) (fun _ v _ => items.length - (intOf v).toNat)
  case atStart => exact ⟨0, rfl, by omega, [], none, 0, rfl, World.ownsRow_nil _ _ _ _, Mid.nil _, Below.refl _ _⟩
  case round =>
    obtain ⟨i, rfl, hi, L, A', c', rfl, hown, hM, hbel⟩ := hrel
    have HBEL := hid hbel
    have HMID := hid hM
    clear hM hbel
    by_cases hlt : i < items.length
    · obtain ⟨t, ht⟩ : ∃ t, items[i]? = some t := ⟨_, List.getElem?_eq_getElem hlt⟩
      obtain ⟨v, hv, hiv⟩ := HVS.out.at_ ht
      obtain ⟨k, rfl, hk, hc⟩ := HROW.out.2 (by omega)
      have hcell : wr.cell? ⟨k, i, none⟩ = some v := by
        rw [HBEL.out.cell (p := ⟨k, i, none⟩) (HP.out _ hk)]
        exact hc i v hv
      have hiv' : IfV wr P t v := hiv.keep (fun b hb => hb) (fun b hb => HBEL.out.block b (HP.out _ hb))
      have HIV := hid hiv'
      have HT := hid ht
      have HLT := hid hlt
      have hI : (i : Int) < (items.length : Int) := by omega
      have hI8 : (i : Int) ≤ 8 := by omega
      have hfa : foundA (glob fold ns) (items.take (i + 1)) p 0 = foundA (glob fold ns) (items.take i) p 0 ++ found (glob fold ns) t (stepA p i) := by
        rw [List.take_add_one, HT.out]
        have : min i items.length = i := by omega
        simp [foundA_snoc, this]
      have HFA := hid hfa
      have hln : L.length ≤ JT.leavess items := by
        have h1 := HMID.out.len
        have h2 := foundA_len (glob fold ns) (items.take i) p 0
        have h3 := JT.leavess_append (items.take i) (items.drop i)
        rw [List.take_append_drop] at h3
        omega
      have HLN := hid hln
      have hdl : (digits i).length = 1 := by rw [digits_small (by omega)]; rfl
      have HI9 : Hid (i ≤ 9) := by show _ ≤ _; omega
      have HIHC : Hid (∀ v', v = v' → Calls Tryd.prog 30 #[v', .pointer (some ⟨g, 0, none⟩), S (stepA p i), .bool once] wr (SeaPost wr once (found (glob fold ns) t (stepA p i)))) := by
        rintro _ rfl
        exact IH.out wr P t v _ (List.mem_of_getElem? HT.out) (by
          have h1 := HPL.out
          have h2 := JT.rooms_at items t (List.mem_of_getElem? HT.out)
          rw [stepA_len p (by omega)]
          simp only [JT.room] at h1
          omega) (fun b hb => Nat.lt_of_lt_of_le (HP.out b hb) HBEL.out.size) (HM.out.below HBEL.out) HIV.out
      have HSTR : Hid (Value.string ({ data := p.toArray } ++ { data := #[91] } ++ { data := (digits i).toArray } ++ { data := #[93] }) = S (stepA p i)) := by
        show _ = S _
        congr 1
      clear hv hiv hiv' ht hk hc hlt hfa hln
      have hform := HIV.out.form
      rcases hform with ⟨u, x, rfl⟩ | rfl
      all_goals
        go_wp2_with fail
        refine (itoa_any i HI9.out _).mono ?_
        rintro e wz ⟨rfl, rfl⟩
        go_wp2_with fail
        rw [HSTR.out]
        refine (HIHC.out _ rfl).mono ?_
        rintro e w3 ⟨L', A3, c3, stop, rfl, htold, hrow3, hb3⟩
        have HB3 := hid hb3
        have HROW3 := hid hrow3
        clear hb3 hrow3
        rcases htold with ⟨rfl, hmid⟩ | ⟨rfl, rfl, q, hq, rfl⟩
        · have HMID' := hid hmid
          have hl' : L'.length ≤ 100000 := by
            have h1 := hmid.len
            have h2 := found_len (glob fold ns) t (stepA p i)
            have h3 := JT.leavess_at items t (List.mem_of_getElem? HT.out)
            omega
          have HIM : Hid (L.length + L'.length ≤ 1000000) := by show _ ≤ _; have := HLN.out; omega
          have HOWN3 : Hid (w3.ownsRow w.heap.size 9 1 (.slice A' L.length c') L.length (L.map S)) := hown.kept (row := none) ⟨HB3.out.os, HB3.out.tape, HB3.out.output, HB3.out.size, fun k hk _ => HB3.out.block k hk⟩ (Classical.em _)
          have HONE : Hid (∀ u ∈ L'.map S, u.oneCell' = true) := by
            intro u hu
            obtain ⟨x, _, rfl⟩ := List.mem_map.1 hu
            rfl
          have HBAS : Hid (w.heap.size ≤ w3.heap.size) := Nat.le_trans HBEL.out.size HB3.out.size
          have hstep : ∀ (w4 : World) (A4 : Option Addr) (c4 : Nat), w4.ownsRow w.heap.size 9 1 (.slice A4 (L.length + L'.length) c4) (L.length + L'.length) (L.map S ++ L'.map S) → w3.grownBy w4 (Value.ownBlock (.slice A' L.length c')) →
              ResAt w once (foundA (glob fold ns) (items.take (i + 1)) p 0) (.slice A4 (L.length + L'.length) c4) w4 := fun w4 A4 c4 ho4 hg4 => by
            rw [HFA.out]
            exact ResAt.append HMID.out HMID'.out hown HBEL.out HB3.out ho4 hg4
          have HST := hid hstep
          clear hmid hl' hstep
          go_wp2_with (at_builtin; refine wpList_app rfl _ _ rfl elem27 rfl HOWN3.out rfl (Reads.of_own HROW3.out) HONE.out HIM.out HBAS.out ?_; intro A4 c4 w4 ho4 hg4 hat4)
          go_roundw
          case rel => exact ⟨i + 1, I_nat (by omega), by have := HLT.out; omega, HST.out _ _ _ ho4 hg4⟩
          case measure => simp [intOf]; have := HLT.out; omega
        · have HFIN : Hid (SeaPost w true (found (glob fold ns) (.arr items) p) (.returned (.tuple #[.slice A3 1 c3, .bool true])) w3) := by
            refine SeaPost.stopped hq (fun x hx => ?_) HROW3.out HBEL.out HB3.out
            simp only [found]
            exact foundA_sub _ HT.out p x hx
          clear hq
          go_wp2_with fail
          go_ret2
          exact HFIN.out
    · obtain rfl : i = items.length := by omega
      have hfin := ResAt.post (F := found (glob fold ns) (.arr items) p) (by have := HMID.out; rw [List.take_length] at this; simpa [found] using this) hown HBEL.out
      have HFIN := hid hfin
      clear hfin
      go_wp2_with fail
      go_ret2
      exact HFIN.out

end Go.Proofs.YtbfadghogjldcaaDoor

/- The walk of 'JNFound'. -/
import Derived.Test.YtbfadghogjldcaaDoorIns
import Derived.Deep.RegionLaw
namespace Go.Proofs.YtbfadghogjldcaaDoor
open Go.RowKit
set_option linter.unusedVariables false
set_option linter.unusedSimpArgs false

theorem gtr_bytes (x q : Txt) : (!(Op.bytesLess x q || x == q)) = decide (q < x) := by
  rw [bytesLess_eq]
  by_cases h : q < x
  · have h1 : ¬ x < q := List.not_lt.2 (List.le_of_lt h)
    have h2 : ¬ x = q := fun e => by subst e; exact List.lt_irrefl _ h
    simp [h, h1, h2]
  · have h1 : x ≤ q := List.not_lt.1 h
    by_cases h2 : x = q
    · subst h2; simp [h]
    · have h3 : x < q := by
        rcases Decidable.em (x < q) with h3 | h3
        · exact h3
        · exact absurd (List.le_antisymm h1 (List.not_lt.1 h3)) h2
      simp [h, h3]

theorem own_drewN {w : World} {b : Nat} {e : TypeId} {s : Nat} {v : Value} {n : Nat} {xs : List Value} (h : w.ownsRow b e s v n xs) {k : Nat} : (w.drewN k).ownsRow b e s v n xs := h

/-- What 'JNFound' leaves. -/
def JFoundPost (w : World) (L : List Txt) (e : Ending) (w' : World) : Prop :=
  ∃ (A : Option Addr) (c : Nat), e = .returned (.slice A L.length c) ∧ w'.ownsRow w.heap.size 9 1 (.slice A L.length c) L.length (L.map S) ∧ Below w.heap.size w w'

def hits (f : Txt → Bool) (F : List (Txt × Txt)) : List Txt := (F.filter fun x => f x.2).map Prod.fst

/-- The head of the loop. -/
def InsRel (w1 : World) (H : List Txt) (v : Value) (wr : World) : Prop :=
  ∃ (O : List Txt) (A : Option Addr) (c : Nat), v = .slice A O.length c ∧ Asc O ∧ O.Perm H ∧ wr.ownsRow w1.heap.size 9 1 (.slice A O.length c) O.length (O.map S) ∧ Below w1.heap.size w1 wr

theorem own_of (A : Option Addr) (n c n' c' : Nat) : Value.ownBlock (.slice A n c) = Value.ownBlock (.slice A n' c') := by cases A <;> rfl

theorem InsRel.step {w1 wr wa w4 w5 : World} {H O : List Txt} {A A5 : Option Addr} {c c5 K : Nat} {q : Txt} {o : Obj} {c4 : Nat} {A4 : Option Addr} {m4 : Nat} (hasc : Asc O) (hperm : O.Perm H) (hK : K ≤ O.length) (hlo : ∀ x, 0 < K → O[K - 1]? = some x → x ≤ q) (hhi : ∀ j x, K ≤ j → O[j]? = some x → q ≤ x)
    (hb : Below w1.heap.size w1 wr) (ha : Below wr.heap.size wr wa) (hown : wr.ownsRow w1.heap.size 9 1 (.slice A O.length c) O.length (O.map S)) (hg4 : wa.grownBy w4 (some wr.heap.size)) (hg5 : w4.grownBy w5 (Value.ownBlock (.slice A K c)))
    (ho5 : w5.ownsRow w1.heap.size 9 1 (.slice A5 (K + (1 + (O.length - K))) c5) (K + (1 + (O.length - K))) ((O.map S).take K ++ ([S q] ++ (O.map S).drop K))) :
    InsRel w1 (H ++ [q]) (.slice A5 (K + (1 + (O.length - K))) c5) w5 := by
  have hl : (O.take K ++ q :: O.drop K).length = K + (1 + (O.length - K)) := by simp; omega
  refine ⟨O.take K ++ q :: O.drop K, A5, c5, by rw [hl], asc_insert hasc hK hlo hhi, (perm_insert O K q).trans (hperm.append_right [q]), ?_, ?_⟩
  · rw [hl]
    simpa [List.map_take, List.map_drop] using ho5
  · have h1 : Below w1.heap.size w1 wa := hb.trans (ha.mono hb.size)
    have h2 := h1.grown hg4 h1.size (fun k hk => by injection hk with hk; have := hb.size; omega)
    refine h2.grown hg5 h2.size (fun k hk => ?_)
    have h3 : Value.ownBlock (.slice A O.length c) = some k := (own_of ..).trans hk
    exact (hown.lt k h3).1

set_option maxRecDepth 100000 in
set_option maxHeartbeats 4000000 in
theorem jfound_any (fold : Bool) (p : Txt) (ns : List MN) (t : JT) (c0 c1 c2 c3 : Value) (P : Nat → Prop) (w : World) (hp : parse fold p = some ns) (hl : p.length ≤ 1000) (hg : Good t 3125 31250) (hP : ∀ b, P b → b < w.heap.size) (hj : JNC w P t [c0, c1, c2, c3])
    (htx : ∀ x ∈ texts t [36], x.2.length ≤ 1000) :
    Calls Tryd.prog 14 #[.agg #[c0, c1, c2, c3], S p, U8 124, .bool fold] w (JFoundPost w (srt (found (glob fold ns) t [36]))) := by
  obtain ⟨k, s, B1, m1, k1, B2, m2, k2, rfl, rfl, rfl, rfl⟩ := hj.form
  have HT : Hid (Calls Tryd.prog 26 #[.agg #[I k, S s, .slice B1 m1 k1, .slice B2 m2 k2], S [36]] (w.alloc (.cells #[I k, S s, .slice B1 m1 k1, .slice B2 m2 k2] 30)) (TexPost (w.alloc (.cells #[I k, S s, .slice B1 m1 k1, .slice B2 m2 k2] 30)) (texts t [36]))) :=
    texts_any _ t _ P _ _ _ _ [36] (Nat.le_refl _) hg.ok (Nat.le_trans hg.leaves (by decide)) (by have := hg.room; simp; omega) (fun b hb => by have := hP b hb; simp; omega) (JNC.keep (fun b hb => hb) (fun b hb => Below.heap_alloc _ _ _ (hP b hb)) t _ hj)
  have HTX := hid htx
  have HLK : Hid (∀ (s : Txt) (w : World), s.length ≤ 1000 → Likes s p fold (glob fold ns s) w) := fun s w h => like_any fold _ p s ns w (Nat.le_refl _) h hl hp
  have HFT : Hid (found (glob fold ns) t [36] = hits (glob fold ns) (texts t [36])) := found_texts _ t [36]
  have HFL : Hid ((texts t [36]).length ≤ 4000) := Nat.le_trans (texts_len t _) (Nat.le_trans hg.leaves (by decide))
  have HB0 : Hid (∀ o, Below w.heap.size w (w.alloc o)) := fun o => (Below.refl _ _).alloc (Nat.le_refl _) o
  rw [HFT.out]
  clear hp hl hg hP hj htx
  go_enter Tryd.func14, Tryd.ntmps14
  go_wp2_with fail
  refine HT.out.mono ?_
  rintro e w1 ⟨_, _, rfl, ⟨D1, D2, f1, f2, rfl, rfl, hd1, hd2, hdn⟩, hb1⟩
  generalize hte : texts t [36] = F at HTX HFL hd1 hd2 hdn
  have HTE := hid hte
  clear hte
  have HD1 := hid hd1
  have HD2 := hid hd2
  have HB1 := hid hb1
  have hfl := HFL.out
  clear hd1 hd2 hdn hb1
  go_wp2_with fail
  go_loopw [11, 22] (fun v11 v22 wr => ∃ i : Nat, v22 = I i ∧ i ≤ F.length ∧ InsRel w1 (hits (glob fold ns) (F.take i)) v11 wr) (fun _ v _ => F.length - (intOf v).toNat)
  case atStart => exact ⟨0, rfl, by omega, [], none, 0, rfl, List.Pairwise.nil, by simp [hits], World.ownsRow_nil _ _ _ _, Below.refl _ _⟩
  case round =>
    obtain ⟨i, rfl, hi, O, A, c, rfl, hasc, hperm, hown, hbel⟩ := hrel
    have HASC := hid hasc
    have HPM := hid hperm
    have HBEL := hid hbel
    clear hasc hperm hbel
    by_cases hlt : i < F.length
    · obtain ⟨⟨q, tx⟩, hx⟩ : ∃ x, F[i]? = some x := ⟨_, List.getElem?_eq_getElem hlt⟩
      have htl : tx.length ≤ 1000 := HTX.out _ (List.mem_of_getElem? hx)
      have ho1 := HD1.out
      have ho2 := HD2.out
      obtain ⟨ga, _, hva, _, hgla⟩ := ho1.form (by omega)
      obtain ⟨gb, _, hvb, _, hglb⟩ := ho2.form (by omega)
      injection hva with hva za zb
      injection hvb with hvb zc zd
      subst hva hvb
      clear za zb zc zd
      have hca : wr.cell? ⟨ga, i, none⟩ = some (S q) := by
        rw [HBEL.out.cell (p := ⟨ga, i, none⟩) hgla]
        have := ho1.cells (g := ga) rfl i (S q) (by simp [fsts, hx])
        rwa [add_zero_off] at this
      have hcb : wr.cell? ⟨gb, i, none⟩ = some (S tx) := by
        rw [HBEL.out.cell (p := ⟨gb, i, none⟩) hglb]
        have := ho2.cells (g := gb) rfl i (S tx) (by simp [snds, hx])
        rwa [add_zero_off] at this
      have hI : (i : Int) < (F.length : Int) := by omega
      have hI4 : (i : Int) ≤ 4000 := by omega
      have HX := hid hx
      have HLT := hid hlt
      have HLK1 := hid (HLK.out tx)
      have htake : F.take (i + 1) = F.take i ++ [(q, tx)] := by rw [List.take_add_one, hx]; rfl
      have HTK := hid htake
      have HTL := hid htl
      clear hx hlt ho1 ho2 hgla hglb htake htl
      go_wp2_with fail
      refine (HLK1.out _ HTL.out).mono ?_
      rintro e w2 ⟨rfl, m2, rfl⟩
      rcases hgl : glob fold ns tx with _ | _
      · have HH : Hid (hits (glob fold ns) (F.take (i + 1)) = hits (glob fold ns) (F.take i)) := by
          show hits _ _ = _
          rw [HTK.out]
          simp [hits, hgl]
        clear hgl
        go_wp2_with fail
        go_roundw
        case rel => exact ⟨i + 1, I_nat (by omega), by have := HLT.out; omega, O, A, c, rfl, HASC.out, by rw [HH.out]; exact HPM.out, hown, below_drewN HBEL.out _⟩
        case measure => simp [intOf]; have := HLT.out; omega
      · have HH : Hid (hits (glob fold ns) (F.take (i + 1)) = hits (glob fold ns) (F.take i) ++ [q]) := by
          show hits _ _ = _
          rw [HTK.out]
          simp [hits, hgl]
        have hol : O.length ≤ 4000 := by
          have h1 := HPM.out.length_eq
          have h2 : (hits (glob fold ns) (F.take i)).length ≤ F.length := by
            unfold hits
            rw [List.length_map]
            have := List.length_filter_le (fun x : Txt × Txt => glob fold ns x.2) (F.take i)
            simp at this
            omega
          omega
        clear hgl
        go_wp2_with fail
        go_loopw [14] (fun v14 wi => ∃ kk : Nat, v14 = I kk ∧ kk ≤ O.length ∧ Hid (∀ j x, kk ≤ j → O[j]? = some x → q ≤ x) ∧ wi = wr.drewN m2) (fun v _ => (intOf v).toNat)
        case atStart => exact ⟨O.length, rfl, Nat.le_refl _, fun j x h1 h2 => by have := (List.getElem?_eq_some_iff.1 h2).1; omega, rfl⟩
        case round =>
          obtain ⟨kk, rfl, hkk, hhi, rfl⟩ := hrel
          by_cases hk0 : kk = 0
          · subst hk0
            go_wp2_with fail
            have HOWN := hid hown
            have HREAD : Hid (Reads wr (fun _ => True) 1 A O.length (O.map S)) := (Reads.of_own hown).more fun _ _ => trivial
            have HSZ : Hid (w1.heap.size ≤ wr.heap.size) := HBEL.out.size
            have HONE1 : Hid (∀ u ∈ O.map S, u.oneCell' = true) := by
              intro u hu
              obtain ⟨x, _, rfl⟩ := List.mem_map.1 hu
              rfl
            have HONE2 : Hid (∀ u ∈ [S q] ++ O.map S, u.oneCell' = true) := by
              intro u hu
              rcases List.mem_append.1 hu with hu | hu
              · simp at hu; subst hu; rfl
              · exact HONE1.out u hu
            have HIM : Hid (1 + O.length ≤ 1000000) := by show _ ≤ _; omega
            have HIM2 : Hid (0 + (1 + O.length) ≤ 1000000) := by show _ ≤ _; omega
            have hlown := hown.lt
            have HLO := hid hlown
            have HNEW : Hid (∀ m, Blk ((wr.drewN (m + 1)).alloc (.cells #[S q] 9)) wr.heap.size 9 #[S q]) := fun m => Blk.new (wr.drewN (m + 1)) 9 #[S q]
            have HREAD2 : Hid (∀ m, Reads ((wr.drewN (m + 1)).alloc (.cells #[S q] 9)) (fun _ => True) 1 A O.length (O.map S)) := fun m => by
              have h := (Reads.of_own (hown.alloc (.cells #[S q] 9))).more (P' := fun _ => True) fun _ _ => trivial
              exact h
            have HBS2 : Hid (∀ m, w1.heap.size ≤ ((wr.drewN (m + 1)).alloc (.cells #[S q] 9)).heap.size) := fun m => by
              show w1.heap.size ≤ (wr.heap.push _).size
              simp
              exact Nat.le_succ_of_le HSZ.out
            have HDEST : Hid (∀ m w4, ((wr.drewN (m + 1)).alloc (.cells #[S q] 9)).grownBy w4 (Value.ownBlock (.slice (some ⟨wr.heap.size, 0, none⟩) 1 1)) → w4.ownsRow w1.heap.size 9 1 (.slice A 0 c) 0 []) := fun m w4 hg => by
              have h := own_take0 (hown.alloc (.cells #[S q] 9)) (k := 0) (Nat.zero_le _)
              have h2 : ((wr.drewN (m + 1)).alloc (.cells #[S q] 9)).ownsRow w1.heap.size 9 1 (.slice A 0 c) 0 [] := h
              refine h2.kept hg ?_
              rcases hq : Value.ownBlock (.slice A 0 c) with _ | b
              · exact .inl rfl
              · right
                intro e
                have h3 := hlown b ((own_of ..).trans hq)
                simp [Value.ownBlock] at e
                omega
            have HST : Hid (∀ (m : Nat) (w4 w5 : World) (A5 : Option Addr) (c5 : Nat), ((wr.drewN (m + 1)).alloc (.cells #[S q] 9)).grownBy w4 (some wr.heap.size) → w4.grownBy w5 (Value.ownBlock (.slice A 0 c)) → w5.ownsRow w1.heap.size 9 1 (.slice A5 (0 + (1 + O.length)) c5) (0 + (1 + O.length)) ([] ++ ([S q] ++ O.map S)) →
                InsRel w1 (hits (glob fold ns) (F.take (i + 1))) (.slice A5 (0 + (1 + O.length)) c5) w5) := fun m w4 w5 A5 c5 a1 a2 a3 => by
              rw [HH.out]
              exact InsRel.step (K := 0) (o := .cells #[] 0) (c4 := 0) (A4 := none) (m4 := 0) HASC.out HPM.out (Nat.zero_le _) (fun x h => absurd h (by omega)) hhi.out HBEL.out ((below_drewN (Below.refl _ wr) (m + 1)).alloc (Nat.le_refl _) (.cells #[S q] 9)) hown a1 a2 a3
            clear hown hlown
            go_region_law
              (first
                | (refine step_app (base := w1.heap.size) (n := 1) (m := O.length) rfl _ _ rfl elem27 rfl (own_one (HNEW.out m2) HSZ.out) rfl (HREAD2.out m2) HONE1.out HIM.out (HBS2.out m2) ?_
                   intro A4 c4 w4 ho4 hg4 hat4)
                | (refine step_app (base := w1.heap.size) (n := 0) (m := 1 + O.length) rfl _ _ rfl elem27 rfl (HDEST.out m2 w4 hg4) rfl (Reads.of_own ho4) HONE2.out HIM2.out (Nat.le_trans (HBS2.out m2) hg4.size) ?_
                   intro A5 c5 w5 ho5 hg5 hat5))
            all_goals
              go_wp2_with fail
              go_roundw
              case rel => exact ⟨i + 1, I_nat (by omega), by have := HLT.out; omega, by have h := HST.out _ _ _ _ _ hg4 hg5 ho5; rwa [Nat.zero_add] at h⟩
              case measure => simp [intOf]; have := HLT.out; omega
          · obtain ⟨j, rfl⟩ : ∃ j, kk = j + 1 := ⟨kk - 1, by omega⟩
            obtain ⟨x, hx⟩ : ∃ x, O[j]? = some x := ⟨_, List.getElem?_eq_getElem (by omega)⟩
            obtain ⟨gO, _, hvO, _, _⟩ := hown.form (by omega)
            injection hvO with hvO z1 z2
            subst hvO
            clear z1 z2
            have hcO : (wr.drewN m2).cell? ⟨gO, j, none⟩ = some (S x) := by
              have := hown.cells (g := gO) rfl j (S x) (by rw [List.getElem?_map, hx]; rfl)
              rwa [add_zero_off] at this
            have hgt := gtr_bytes x q
            have e1 : ((j + 1 : Nat) : Int) = (j : Int) + 1 := by omega
            have hj1 : (0 : Int) < (j : Int) + 1 := by omega
            have hj2 : (j : Int) < (O.length : Int) := by omega
            have hj3 : (j : Int) ≤ 4000 := by omega
            rw [e1]
            by_cases hqx : q < x
            · have hd : decide (q < x) = true := decide_eq_true hqx
              rw [hd] at hgt
              have HX2 := hid hx
              have HQX := hid hqx
              clear hx hd e1 hqx
              go_wp2_with fail
              go_roundw
              case rel =>
                refine ⟨j, rfl, by omega, fun i y h1 h2 => ?_, trivial⟩
                by_cases hij : i = j
                · subst hij
                  rw [HX2.out] at h2
                  injection h2 with h2
                  subst h2
                  exact List.le_of_lt HQX.out
                · exact hhi.out i y (by omega) h2
              case measure => simp [intOf]
            · have hd : decide (q < x) = false := decide_eq_false hqx
              rw [hd] at hgt
              have hxq : x ≤ q := List.not_lt.1 hqx
              have HLOW : Hid (∀ y, 0 < j + 1 → O[j + 1 - 1]? = some y → y ≤ q) := by
                intro y _ hy
                rw [Nat.add_sub_cancel, hx] at hy
                injection hy with hy
                subst hy
                exact hxq
              have hcap : O.length ≤ c := by
                obtain ⟨_, _, h1, h2⟩ := own_form hown
                injection h1 with _ _ h3
                omega
              have hc1 : (j : Int) + 1 ≤ (c : Int) := by omega
              have hc2 : (j : Int) + 1 ≤ (O.length : Int) := by omega
              clear hx hd e1 hqx hxq
              have hj0 : (0 : Int) ≤ (j : Int) + 1 := by omega
              go_wp2_with fail
              have HOWN := hid hown
              have HREAD : Hid (True) := trivial
              have HSZ : Hid (w1.heap.size ≤ wr.heap.size) := HBEL.out.size
              have HONE1 : Hid (∀ u ∈ (O.map S).drop (j + 1), u.oneCell' = true) := by
                intro u hu
                obtain ⟨x, _, rfl⟩ := List.mem_map.1 (List.mem_of_mem_drop hu)
                rfl
              have HONE2 : Hid (∀ u ∈ [S q] ++ (O.map S).drop (j + 1), u.oneCell' = true) := by
                intro u hu
                rcases List.mem_append.1 hu with hu | hu
                · simp at hu; subst hu; rfl
                · exact HONE1.out u hu
              have HIM : Hid (1 + (O.length - (j + 1)) ≤ 1000000) := by show _ ≤ _; omega
              have HIM2 : Hid (j + 1 + (1 + (O.length - (j + 1))) ≤ 1000000) := by show _ ≤ _; omega
              have hlown := hown.lt
              have HLO := hid hlown
              have HNEW : Hid (∀ m, Blk ((wr.drewN (m + 1)).alloc (.cells #[S q] 9)) wr.heap.size 9 #[S q]) := fun m => Blk.new (wr.drewN (m + 1)) 9 #[S q]
              have HREAD2 : Hid (∀ m, Reads ((wr.drewN (m + 1)).alloc (.cells #[S q] 9)) (fun _ => True) 1 (if c = j + 1 then some ⟨gO, 0, none⟩ else some ⟨gO, j + 1, none⟩) (O.length - (j + 1)) ((O.map S).drop (j + 1))) := fun m => by
                have h := ((Reads.of_own (hown.alloc (.cells #[S q] 9))).more (P' := fun _ => True) fun _ _ => trivial).cut (k := j + 1) (cap := c) (by omega) hcap
                simp only [Nat.mul_one, Option.map_some, add_zero_off] at h
                exact h
              have HBS2 : Hid (∀ m, w1.heap.size ≤ ((wr.drewN (m + 1)).alloc (.cells #[S q] 9)).heap.size) := fun m => by
                show w1.heap.size ≤ (wr.heap.push _).size
                simp
                exact Nat.le_succ_of_le HSZ.out
              have HDEST : Hid (∀ m w4, ((wr.drewN (m + 1)).alloc (.cells #[S q] 9)).grownBy w4 (Value.ownBlock (.slice (some ⟨wr.heap.size, 0, none⟩) 1 1)) → w4.ownsRow w1.heap.size 9 1 (.slice (some ⟨gO, 0, none⟩) (j + 1) c) (j + 1) ((O.map S).take (j + 1))) := fun m w4 hg => by
                have h := own_take0 (hown.alloc (.cells #[S q] 9)) (k := j + 1) (by omega)
                have h2 : ((wr.drewN (m + 1)).alloc (.cells #[S q] 9)).ownsRow w1.heap.size 9 1 (.slice (some ⟨gO, 0, none⟩) (j + 1) c) (j + 1) ((O.map S).take (j + 1)) := h
                refine h2.kept hg ?_
                rcases hq : Value.ownBlock (.slice (some ⟨gO, 0, none⟩) (j + 1) c) with _ | b
                · exact .inl rfl
                · right
                  intro e
                  have h3 := hlown b ((own_of ..).trans hq)
                  simp [Value.ownBlock] at e
                  omega
              have HST : Hid (∀ (m : Nat) (w4 w5 : World) (A5 : Option Addr) (c5 : Nat), ((wr.drewN (m + 1)).alloc (.cells #[S q] 9)).grownBy w4 (some wr.heap.size) → w4.grownBy w5 (Value.ownBlock (.slice (some ⟨gO, 0, none⟩) (j + 1) c)) → w5.ownsRow w1.heap.size 9 1 (.slice A5 (j + 1 + (1 + (O.length - (j + 1)))) c5) (j + 1 + (1 + (O.length - (j + 1)))) ((O.map S).take (j + 1) ++ ([S q] ++ (O.map S).drop (j + 1))) →
                  InsRel w1 (hits (glob fold ns) (F.take (i + 1))) (.slice A5 (j + 1 + (1 + (O.length - (j + 1)))) c5) w5) := fun m w4 w5 A5 c5 a1 a2 a3 => by
                rw [HH.out]
                exact InsRel.step (K := j + 1) (o := .cells #[] 0) (c4 := 0) (A4 := none) (m4 := 0) HASC.out HPM.out (by omega) HLOW.out hhi.out HBEL.out ((below_drewN (Below.refl _ wr) (m + 1)).alloc (Nat.le_refl _) (.cells #[S q] 9)) hown a1 a2 a3
              clear hown hlown
              go_region_law
                (first
                  | (refine step_app (base := w1.heap.size) (n := 1) (m := O.length - (j + 1)) rfl _ _ rfl elem27 rfl (own_one (HNEW.out m2) HSZ.out) rfl (HREAD2.out m2) HONE1.out HIM.out (HBS2.out m2) ?_
                     intro A4 c4 w4 ho4 hg4 hat4)
                  | (refine step_app (base := w1.heap.size) (n := j + 1) (m := 1 + (O.length - (j + 1))) rfl _ _ rfl elem27 rfl (HDEST.out m2 w4 hg4) rfl (Reads.of_own ho4) HONE2.out HIM2.out (Nat.le_trans (HBS2.out m2) hg4.size) ?_
                     intro A5 c5 w5 ho5 hg5 hat5))
              all_goals
                go_wp2_with fail
                go_roundw
                case rel => exact ⟨i + 1, I_nat (by omega), by have := HLT.out; omega, by have h := HST.out _ _ _ _ _ hg4 hg5 ho5; exact h⟩
                case measure => simp [intOf]; have := HLT.out; omega
    · obtain rfl : i = F.length := by omega
      have HFIN : Hid (JFoundPost w (srt (hits (glob fold ns) (texts t [36]))) (.returned (.slice A O.length c)) wr) := by
        rw [HTE.out]
        have h1 := HPM.out
        rw [List.take_length] at h1
        have h2 : srt (hits (glob fold ns) F) = O := srt_of_asc HASC.out h1.symm
        rw [h2]
        have hs : w.heap.size ≤ w1.heap.size := Nat.le_trans (HB0.out _).size HB1.out.size
        exact ⟨A, c, rfl, own_base hown hs, ((HB0.out _).trans (HB1.out.mono (HB0.out _).size)).trans (HBEL.out.mono hs)⟩
      go_wp2_with fail
      go_ret
      exact HFIN.out

end Go.Proofs.YtbfadghogjldcaaDoor

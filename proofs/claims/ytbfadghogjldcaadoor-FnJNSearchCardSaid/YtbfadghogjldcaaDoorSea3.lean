/- The walk of 'jsonSearch' at an object, and whole. -/
import Derived.Test.YtbfadghogjldcaaDoorSea2
import Derived.Test.YtbfadghogjldcaaDoorValue3
import Derived.Maps.RangeRun
namespace Go.Proofs.YtbfadghogjldcaaDoor
open Go.RowKit
open Go.ChangeMaps (setBlock)
set_option linter.unusedVariables false
set_option linter.unusedSimpArgs false

theorem entries_mem {e : MapEntry} : ∀ (n : Nat) (ks : List (List UInt8)) (vs : List Value), e ∈ entries n ks vs → ∃ j k v, ks[j]? = some k ∧ vs[j]? = some v ∧ e = { key := S k, val := v, born := n + j }
  | n, k :: ks, v :: vs, h => by
    simp only [entries, List.mem_cons] at h
    rcases h with rfl | h
    · exact ⟨0, k, v, rfl, rfl, rfl⟩
    · obtain ⟨j, k', v', h1, h2, h3⟩ := entries_mem (n + 1) ks vs h
      exact ⟨j + 1, k', v', by simpa using h1, by simpa using h2, by rw [h3]; congr 1; omega⟩
  | n, [], vs, h => by simp [entries] at h
  | n, k :: ks, [], h => by simp [entries] at h
theorem entries_has : ∀ (n : Nat) (ks : List (List UInt8)) (vs : List Value) (j : Nat) (k : List UInt8) (v : Value), ks[j]? = some k → vs[j]? = some v → ({ key := S k, val := v, born := n + j } : MapEntry) ∈ entries n ks vs
  | n, k' :: ks, v' :: vs, 0, k, v, h1, h2 => by
    simp at h1 h2
    subst h1 h2
    simp [entries]
  | n, k' :: ks, v' :: vs, j + 1, k, v, h1, h2 => by
    have := entries_has (n + 1) ks vs j k v (by simpa using h1) (by simpa using h2)
    rw [show n + 1 + j = n + (j + 1) by omega] at this
    simp only [entries, List.mem_cons]
    exact .inr this
  | n, [], vs, j, k, v, h1, h2 => by simp at h1
  | n, k' :: ks, [], j, k, v, h1, h2 => by simp at h2
theorem entries_born : ∀ (n : Nat) (ks : List (List UInt8)) (vs : List Value), ks.length = vs.length → (entries n ks vs).map (·.born) = List.range' n ks.length
  | n, [], [], _ => by simp [entries]
  | n, k :: ks, v :: vs, h => by
    simp only [entries, List.map_cons, List.length_cons, List.range'_succ]
    rw [entries_born (n + 1) ks vs (by simpa using h)]
  | n, [], v :: vs, h => by simp at h
  | n, k :: ks, [], h => by simp at h

/-- The head of the loop: sn have been seen, rem are left. -/
def MapSea (f : List UInt8 → Bool) (items : List JT) (names : List (List UInt8)) (p : List UInt8) (r : Nat) (w : World) (once : Bool) (k : Nat) (v : Value) (wr : World) : Prop :=
  ∃ sn rem : List Nat, rem.length = k ∧ (sn ++ rem).Perm (List.range items.length) ∧ wr.heap[w.heap.size]? = some (.mapIter (some r) names.length sn.toArray names.length) ∧ ResAt w once (sn.flatMap (foundAt f items names p)) v wr

theorem foundAt_some {f : List UInt8 → Bool} {items : List JT} {names : List (List UInt8)} {p n : List UInt8} {t : JT} {i : Nat} (ht : items[i]? = some t) (hn : names[i]? = some n) : foundAt f items names p i = found f t (stepO p n) := by
  simp [foundAt, ht, hn]

/-- One name more. -/
theorem MapSea.step {f : List UInt8 → Bool} {items : List JT} {names : List (List UInt8)} {p : List UInt8} {r : Nat} {w : World} {once : Bool} {sn rem : List Nat} {L L' : List (List UInt8)} {A A4 : Option Addr} {c c4 j : Nat} {wr w1 w3 w4 : World}
    (hp : (sn ++ rem).Perm (List.range items.length)) (hj : j < items.length) (hjn : j ∉ sn) (hM : Mid once L (sn.flatMap (foundAt f items names p))) (hM' : Mid once L' (foundAt f items names p j))
    (hown : wr.ownsRow w.heap.size 9 1 (.slice A L.length c) L.length (L.map S)) (hb : Below w.heap.size w wr) (hw1 : w1 = wr ∨ w1 = wr.drew) (hit : w.heap.size < wr.heap.size)
    (h3 : Below wr.heap.size (setBlock w1 w.heap.size (.mapIter (some r) names.length (sn.toArray.push j) names.length)) w3)
    (hown3 : w3.ownsRow w.heap.size 9 1 (.slice A L.length c) L.length (L.map S))
    (ho4 : w4.ownsRow w.heap.size 9 1 (.slice A4 (L.length + L'.length) c4) (L.length + L'.length) (L.map S ++ L'.map S)) (hg4 : w3.grownBy w4 (Value.ownBlock (.slice A L.length c))) :
    MapSea f items names p r w once (rem.erase j).length (.slice A4 (L.length + L'.length) c4) w4 ∧ (rem.erase j).length < rem.length := by
  have hmem : j ∈ rem := by
    have : j ∈ sn ++ rem := hp.mem_iff.2 (List.mem_range.2 hj)
    rcases List.mem_append.1 this with h | h
    · exact absurd h hjn
    · exact h
  have hsz1 : w1.heap.size = wr.heap.size := by rcases hw1 with rfl | rfl <;> rfl
  have hb1 : Below w.heap.size wr w1 := by rcases hw1 with rfl | rfl; exact Below.refl _ _; exact (Below.refl _ _).drew
  have hbq : Below w.heap.size wr (setBlock w1 w.heap.size (.mapIter (some r) names.length (sn.toArray.push j) names.length)) := hb1.trans (below_setBlock (Nat.le_refl _) _)
  have hit3 : w3.heap[w.heap.size]? = some (.mapIter (some r) names.length (sn.toArray.push j) names.length) := by
    rw [h3.block _ hit, setBlock_same (by omega)]
  refine ⟨⟨sn ++ [j], rem.erase j, rfl, ?_, ?_, L ++ L', A4, c4, by simp, by simpa using ho4, ?_, ?_⟩, ?_⟩
  · refine List.Perm.trans ?_ hp
    rw [List.append_assoc]
    exact List.Perm.append_left sn (List.perm_cons_erase hmem).symm
  · rw [hg4.block _ (by have := h3.size; rw [setBlock_size] at this; omega) ?_, hit3]
    · simp
    · intro e
      rcases hown3.2 with ⟨hv, _⟩ | ⟨g, cap, cur, hv, _, hg, _⟩
      · rw [hv] at e; simp [Value.ownBlock] at e
      · rw [hv] at e
        simp [Value.ownBlock] at e
        subst e
        rw [hit3] at hg
        cases hg
  · rw [List.flatMap_append]
    simpa using hM.append hM'
  · have hb3 := (hb.trans hbq).trans (h3.mono hb.size)
    exact hb3.grown hg4 hb3.size (fun k hk => (hown3.lt k hk).1)
  · rw [List.length_erase_of_mem hmem]
    have := List.length_pos_of_mem hmem
    omega

set_option maxRecDepth 100000 in
set_option maxHeartbeats 4000000 in
theorem sea_obj (fold once : Bool) (ns : List MN) (names : List (List UInt8)) (items : List JT) (p : List UInt8) (g r : Nat) (w : World) (P : Nat → Prop) (vs : List Value) (hP : ∀ b, P b → b < w.heap.size) (hlen : items.length ≤ 8) (hnl : names.length = items.length)
    (hlv : JT.leavess items ≤ 100000) (hpl : p.length + (JT.obj names items).room ≤ 1000000) (hm : MatAt w g fold ns) (hPr : P r) (hmap : w.heap[r]? = some (.map (entries 0 names vs).toArray names.length)) (hvs : IfVs w P items vs)
    (ih : ∀ (w' : World) (P' : Nat → Prop) (t : JT) (v : Value) (p' : List UInt8), t ∈ items → p'.length + t.room ≤ 1000000 → (∀ b, P' b → b < w'.heap.size) → MatAt w' g fold ns → IfV w' P' t v → Calls Tryd.prog 30 #[v, .pointer (some ⟨g, 0, none⟩), S p', .bool once] w' (SeaPost w' once (found (glob fold ns) t p'))) :
    Calls Tryd.prog 30 #[.iface 67 (.map (some r)), .pointer (some ⟨g, 0, none⟩), S p, .bool once] w (SeaPost w once (found (glob fold ns) (.obj names items) p)) := by
  have hvl : vs.length = items.length := hvs.len
  have hpl1 : p.length ≤ 1000000 := by omega
  have hrl : r < w.heap.size := hP r hPr
  have HPL := hid hpl
  have IH := hid ih
  have HM := hid hm
  have HVS := hid hvs
  have HP := hid hP
  have HRL := hid hrl
  have HVL := hid hvl
  have HNL := hid hnl
  have HMAP := hid hmap
  have HF : Hid (found (glob fold ns) (.obj names items) p = (List.range items.length).flatMap (foundAt (glob fold ns) items names p)) := by
    show found _ _ _ = _
    simp only [found]
    exact foundO_at _ _ _ _ hnl
  have hrg := run_range_map (P := Tryd.prog) w 67 9 20 r _ _ Tryd.underlying67 hmap
  have h9 := as_map_9
  have h66 := as_map_66
  have h67 := as_map_67
  clear ih hm hvs hP hpl hrl hvl hnl hmap
  go_enter Tryd.func30, Tryd.ntmps30
  go_wp2_with fail
  go_loopg [19] items.length (fun k v19 wr => MapSea (glob fold ns) items names p r w once k v19 wr)
  case atStart => exact ⟨[], List.range items.length, by simp, by simp, heap_alloc_new w _, [], none, 0, rfl, World.ownsRow_nil _ _ _ _, Mid.nil _, (Below.refl _ _).alloc (Nat.le_refl _) _⟩
  case round =>
    obtain ⟨sn, rem, hk, hperm, hit, L, A', c', rfl, hown, hM, hbel⟩ := hrel
    have HBEL := hid hbel
    have HMID := hid hM
    have HPERM := hid hperm
    have HK := hid hk
    have HIT := hid hit
    have hmw : wr.heap[r]? = some (.map (entries 0 names vs).toArray names.length) := by rw [HBEL.out.block r HRL.out]; exact HMAP.out
    have HMW := hid hmw
    have hitl : w.heap.size < wr.heap.size := by
      rcases Nat.lt_or_ge w.heap.size wr.heap.size with h | h
      · exact h
      · rw [Array.getElem?_eq_none h] at hit; cases hit
    have HITL := hid hitl
    have hborn : ((entries 0 names vs).map (·.born)) = List.range' 0 names.length := entries_born 0 names vs (by rw [HNL.out, HVL.out])
    have HBORN := hid hborn
    have hall : ∀ x ∈ (entries 0 names vs).toArray.toList, x.born < names.length := by
      intro x hx
      have h1 : x.born ∈ (entries 0 names vs).map (·.born) := List.mem_map.2 ⟨x, by simpa using hx, rfl⟩
      rw [hborn] at h1
      have := List.mem_range'_1.1 h1
      omega
    have hnx := run_next_at (P := Tryd.prog) wr
    have HNX := fun ty => hid (hnx ty w.heap.size r names.length names.length sn.toArray _ _ HIT.out HMW.out hall (Nat.le_refl _))
    clear hM hbel hperm hk hit hitl hmw hborn hall hnx hrg
    rcases (HNX 0).out with ⟨h0, hrun⟩ | ⟨e, he, w1, hw1, hrun⟩
    · have hseen := all_seen _ _ h0
      have hrem : rem = [] := by
        rcases rem with _ | ⟨j, rem⟩
        · rfl
        · exfalso
          have hj : j < items.length := List.mem_range.1 (HPERM.out.mem_iff.1 (by simp))
          obtain ⟨k, hk⟩ : ∃ k, names[j]? = some k := ⟨_, List.getElem?_eq_getElem (by rw [HNL.out]; exact hj)⟩
          obtain ⟨v, hv⟩ : ∃ v, vs[j]? = some v := ⟨_, List.getElem?_eq_getElem (by rw [HVL.out]; exact hj)⟩
          have hs := hseen _ (by simpa using entries_has 0 names vs j k v hk hv)
          have hnd := HPERM.out.nodup_iff.2 List.nodup_range
          rw [List.nodup_append] at hnd
          simp at hs
          exact hnd.2.2 j hs j (by simp) rfl
      subst hrem
      have hfin := ResAt.post (F := found (glob fold ns) (.obj names items) p) (by
        have h1 := HPERM.out
        rw [List.append_nil] at h1
        rw [HF.out]
        exact HMID.out.perm (h1.flatMap_right _)) hown HBEL.out
      have HFIN := hid hfin
      clear hfin h0 hseen
      go_wp2_with fail
      go_ret2
      exact HFIN.out
    · obtain ⟨hem, hens⟩ := mem_left he
      obtain ⟨j, kn, v, hkn, hv, rfl⟩ := entries_mem 0 names vs (by simpa using hem)
      have hj : j < items.length := by rw [← HNL.out]; exact (List.getElem?_eq_some_iff.1 hkn).1
      have hjn : j ∉ sn := by
        intro h
        have : sn.toArray.contains (0 + j) = true := by simpa using h
        rw [this] at hens
        cases hens
      obtain ⟨t, ht⟩ : ∃ t, items[j]? = some t := ⟨_, List.getElem?_eq_getElem hj⟩
      obtain ⟨v', hv', hiv⟩ := HVS.out.at_ ht
      rw [hv] at hv'
      injection hv' with hv'
      subst hv'
      simp only [Nat.zero_add] at hrun
      have hw1s : w1.heap.size = wr.heap.size := by rcases hw1 with rfl | rfl <;> rfl
      have hbw1 : Below w.heap.size wr w1 := by rcases hw1 with rfl | rfl; exact Below.refl _ _; exact (Below.refl _ _).drew
      have hbq : Below w.heap.size w (setBlock w1 w.heap.size (.mapIter (some r) names.length (sn.toArray.push j) names.length)) := (HBEL.out.trans hbw1).trans (below_setBlock (Nat.le_refl _) _)
      have hent := run_entry_at (P := Tryd.prog) (setBlock w1 w.heap.size (.mapIter (some r) names.length (sn.toArray.push j) names.length)) w.heap.size r names.length sn.toArray (entries 0 names vs).toArray names.length { key := S kn, val := v, born := j }
        (setBlock_same (by rw [hw1s]; exact HITL.out)) (by rw [hbq.block r HRL.out]; exact HMAP.out) (by simpa using hem) (by
          have := HBORN.out
          rw [this]
          exact List.nodup_range')
      have hownq : (setBlock w1 w.heap.size (.mapIter (some r) names.length (sn.toArray.push j) names.length)).ownsRow w.heap.size 9 1 (.slice A' L.length c') L.length (L.map S) := by
        have h1 : w1.ownsRow w.heap.size 9 1 (.slice A' L.length c') L.length (L.map S) := by rcases hw1 with rfl | rfl; exact hown; exact own_drew hown
        refine h1.kept (row := some w.heap.size) ⟨rfl, rfl, rfl, by rw [setBlock_size]; exact Nat.le_refl _, fun k hk hne => setBlock_other (fun e => hne (by rw [e]))⟩ ?_
        rcases h1.2 with ⟨hv, _⟩ | ⟨q, cap, cur, hv, _, hg, _⟩
        · rw [hv]; exact .inl rfl
        · right
          rw [hv]
          intro e
          simp [Value.ownBlock] at e
          subst e
          have hit1 : w1.heap[w.heap.size]? = some (.mapIter (some r) names.length sn.toArray names.length) := by rcases hw1 with rfl | rfl <;> exact HIT.out
          rw [hit1] at hg
          cases hg
      have HEQ : Hid (setBlock w1 w.heap.size (.mapIter (some r) names.length (sn.toArray.push j) names.length) = setBlock w1 w.heap.size (.mapIter (some r) names.length (sn.toArray.push j) names.length)) := rfl
      have hszq : wr.heap.size = (setBlock w1 w.heap.size (.mapIter (some r) names.length (sn.toArray.push j) names.length)).heap.size := by rw [setBlock_size, hw1s]
      have HW1 := hid hw1
      have hstep := fun (L' : List (List UInt8)) (w3 w4 : World) (A4 : Option Addr) (c4 : Nat) hM' h3 hown3 ho4 hg4 => MapSea.step (r := r) (A4 := A4) (c4 := c4) (L' := L') (w3 := w3) (w4 := w4) HPERM.out hj hjn HMID.out hM' hown HBEL.out hw1 HITL.out h3 hown3 ho4 hg4
      have HIVQ : Hid (IfV (setBlock w1 w.heap.size (.mapIter (some r) names.length (sn.toArray.push j) names.length)) P t v) := hiv.keep (fun b hb => hb) (fun b hb => hbq.block b (HP.out _ hb))
      generalize hq : setBlock w1 w.heap.size (.mapIter (some r) names.length (sn.toArray.push j) names.length) = wq at hrun hent hownq hbq HIVQ hszq hstep
      have HST := hid hstep
      have HQ := hid hq
      have HBQ := hid hbq
      have HSZQ := hid hszq
      have HT := hid ht
      have HKN := hid hkn
      have HJ := hid hj
      have hfa := foundAt_some (f := glob fold ns) (p := p) ht hkn
      have HFA := hid hfa
      have hkl : kn.length ≤ 1000000 := by
        have h1 := HPL.out
        have h2 := names_at names kn (List.mem_of_getElem? hkn)
        simp only [JT.room] at h1
        omega
      have HIHC : Hid (∀ v', v = v' → Calls Tryd.prog 30 #[v', .pointer (some ⟨g, 0, none⟩), S (stepO p kn), .bool once] wq (SeaPost wq once (found (glob fold ns) t (stepO p kn)))) := by
        rintro _ rfl
        refine IH.out wq P t v _ (List.mem_of_getElem? HT.out) ?_ (fun b hb => Nat.lt_of_lt_of_le (HP.out b hb) HBQ.out.size) (HM.out.below HBQ.out) HIVQ.out
        have h1 := HPL.out
        have h2 := JT.rooms_at items t (List.mem_of_getElem? HT.out)
        have h3 := names_at names kn (List.mem_of_getElem? HKN.out)
        rw [stepO_len]
        simp only [JT.room] at h1
        omega
      have HSTR : Hid (Value.string ({ data := p.toArray } ++ { data := #[46] } ++ { data := kn.toArray }) = S (stepO p kn)) := by
        show _ = S _
        congr 1
      have hlt : JT.leaves t ≤ 100000 := Nat.le_trans (JT.leavess_at items t (List.mem_of_getElem? ht)) hlv
      have HLT := hid hlt
      have hln : L.length ≤ 800000 := by
        have h1 := HMID.out.len
        have h2 := (HPERM.out.flatMap_right (foundAt (glob fold ns) items names p)).length_eq
        rw [← HF.out, List.flatMap_append, List.length_append] at h2
        have h3 := found_len (glob fold ns) (.obj names items) p
        simp only [JT.leaves] at h3
        omega
      have HLN := hid hln
      clear hstep hq hbq hszq ht hkn hj hfa hv hiv hlt hln hem hens he hw1 hjn hw1s hbw1
      have hform := HIVQ.out.form
      rcases hform with ⟨u, x, rfl⟩ | rfl
      all_goals
        go_wp2_with fail
        rw [HSTR.out]
        refine (HIHC.out _ rfl).mono ?_
        rintro e w3 ⟨L', A3, c3, stop, rfl, htold, hrow3, hb3⟩
        have HB3 := hid hb3
        have HROW3 := hid hrow3
        clear hb3 hrow3
        rcases htold with ⟨rfl, hmid⟩ | ⟨rfl, rfl, q, hq, rfl⟩
        · have HMID' := hid hmid
          have hl' : L'.length ≤ 100000 := by
            have h1 := hmid.len
            have h2 := found_len (glob fold ns) t (stepO p kn)
            have h3 := HLT.out
            omega
          have HIM : Hid (L.length + L'.length ≤ 1000000) := by show _ ≤ _; have := HLN.out; omega
          have HOWN3 : Hid (w3.ownsRow w.heap.size 9 1 (.slice A' L.length c') L.length (L.map S)) := hownq.kept (row := none) ⟨HB3.out.os, HB3.out.tape, HB3.out.output, HB3.out.size, fun k hk _ => HB3.out.block k hk⟩ (Classical.em _)
          have HONE : Hid (∀ u ∈ L'.map S, u.oneCell' = true) := by
            intro u hu
            obtain ⟨x, _, rfl⟩ := List.mem_map.1 hu
            rfl
          have HBAS : Hid (w.heap.size ≤ w3.heap.size) := Nat.le_trans HBQ.out.size HB3.out.size
          have hstep2 : ∀ (w4 : World) (A4 : Option Addr) (c4 : Nat), w4.ownsRow w.heap.size 9 1 (.slice A4 (L.length + L'.length) c4) (L.length + L'.length) (L.map S ++ L'.map S) → w3.grownBy w4 (Value.ownBlock (.slice A' L.length c')) →
              MapSea (glob fold ns) items names p r w once (rem.erase j).length (.slice A4 (L.length + L'.length) c4) w4 ∧ (rem.erase j).length < rem.length := fun w4 A4 c4 ho4 hg4 =>
            HST.out L' w3 w4 A4 c4 (by rw [HFA.out]; exact HMID'.out) (by rw [HSZQ.out]; exact HB3.out) HOWN3.out ho4 hg4
          have HST2 := hid hstep2
          clear hmid hl' hstep2
          go_wp2_with (at_builtin; refine wpList_app rfl _ _ rfl elem27 rfl HOWN3.out rfl (Reads.of_own HROW3.out) HONE.out HIM.out HBAS.out ?_; intro A4 c4 w4 ho4 hg4 hat4)
          go_roundg (rem.erase j).length
          case rel => exact (HST2.out _ _ _ ho4 hg4).1
          case measure => have := (HST2.out _ _ _ ho4 hg4).2; have := HK.out; omega
        · have HFIN : Hid (SeaPost w true (found (glob fold ns) (.obj names items) p) (.returned (.tuple #[.slice A3 1 c3, .bool true])) w3) := by
            refine SeaPost.stopped hq (fun x hx => ?_) HROW3.out HBQ.out HB3.out
            rw [HF.out]
            exact List.mem_flatMap.2 ⟨j, List.mem_range.2 HJ.out, by rw [HFA.out]; exact hx⟩
          clear hq
          go_wp2_with fail
          go_ret2
          exact HFIN.out

end Go.Proofs.YtbfadghogjldcaaDoor

/- The walk of 'value' at an object, and whole. -/
import Derived.Test.YtbfadghogjldcaaDoorValue2
import Derived.Maps.Own
namespace Go.Proofs.YtbfadghogjldcaaDoor
open Go.RowKit
open Go.ChangeMaps (setBlock)
set_option linter.unusedVariables false
set_option linter.unusedSimpArgs false

theorem setBlock_same {w : World} {r : Nat} {o : Obj} (h : r < w.heap.size) : (setBlock w r o).heap[r]? = some o := by
  simp [setBlock, h]
theorem setBlock_other {w : World} {r k : Nat} {o : Obj} (h : k ≠ r) : (setBlock w r o).heap[k]? = w.heap[k]? := by
  simp only [setBlock, Array.getElem?_setIfInBounds]
  rw [if_neg (fun e => h e.symm)]
theorem setBlock_size {w : World} {r : Nat} {o : Obj} : (setBlock w r o).heap.size = w.heap.size := by simp [setBlock]
theorem below_setBlock {w : World} {B r : Nat} (h : B ≤ r) (o : Obj) : Below B w (setBlock w r o) :=
  ⟨rfl, rfl, rfl, by rw [setBlock_size]; exact Nat.le_refl _, fun k hk => setBlock_other (by omega)⟩

theorem S_inj {a b : List UInt8} (h : S a = S b) : a = b := by
  injection h with h
  injection h with h
  exact List.toArray_inj h

theorem findNow_none (k : List UInt8) : ∀ (n i : Nat) (ks : List (List UInt8)) (vs : List Value), k ∉ ks → Instr.findNow .string (S k) (entries n ks vs) i = some none
  | n, i, [], vs, _ => by simp [entries, Instr.findNow]
  | n, i, k' :: ks, [], _ => by simp [entries, Instr.findNow]
  | n, i, k' :: ks, v :: vs, h => by
    have hne : k ≠ k' := fun e => h (by simp [e])
    have hb : ((⟨k.toArray⟩ : ByteArray) == ⟨k'.toArray⟩) = false := by
      rw [Bool.eq_false_iff]
      intro e
      have e := (Go.MapKept.bytes_beq _ _).1 e
      injection e with e
      exact hne (List.toArray_inj e)
    simp only [entries, Instr.findNow, Instr.sameNow, hb]
    exact findNow_none k (n + 1) (i + 1) ks vs (fun hm => h (by simp [hm]))

theorem entries_snoc (k : List UInt8) (v : Value) : ∀ (n : Nat) (ks : List (List UInt8)) (vs : List Value), ks.length = vs.length → entries n (ks ++ [k]) (vs ++ [v]) = entries n ks vs ++ [{ key := S k, val := v, born := n + ks.length }]
  | n, [], [], _ => by simp [entries]
  | n, k' :: ks, v' :: vs, h => by
    simp only [List.cons_append, entries, List.length_cons]
    rw [entries_snoc k v (n + 1) ks vs (by simpa using h), show n + 1 + ks.length = n + (ks.length + 1) from by omega]
  | n, [], v' :: vs, h => by simp at h
  | n, k' :: ks, [], h => by simp at h

theorem IfVs.len {w : World} {P : Nat → Prop} : ∀ (ts : List JT) (xs : List Value), IfVs w P ts xs → xs.length = ts.length
  | [], xs, h => by obtain rfl : xs = [] := h; rfl
  | t :: ts, xs, ⟨v, r, h1, h2, h3⟩ => by
    subst h1
    have := IfVs.len ts r h3
    simp [this]

set_option maxRecDepth 100000 in
/-- A new key in a map of strings. -/
theorem run_put (w : World) (r : Nat) (es : Array MapEntry) (clock : Nat) (k : List UInt8) (v : Value) (hr : w.heap[r]? = some (.map es clock)) (hnot : Instr.findNow .string (S k) es.toList 0 = some none) :
    (Instr.mapUpdate 67 (.map (some r)) (S k) v).run Tryd.prog w = .ok () (setBlock w r (.map (es.push { key := S k, val := v, born := clock }) (clock + 1))) := by
  have hf := Go.MapKept.run_findKey (P := Tryd.prog) (w := w) (kt := 9) (k := S k) (l := es.toList) Tryd.underlying9 hnot
  have hk : (Instr.checkKey false 10000 9 (S k)).run Tryd.prog w = .ok () w := Go.MapKept.run_checkKey Tryd.underlying9 (by trivial) false 9999
  simp only [Instr.mapUpdate, Sem.run_bind, run_underlying Tryd.underlying67, Result.andThen_ok]
  simp [getObj, setObj, Sem.run, Sem.run_bind, hr, hk, hf, Result.andThen, setBlock]

theorem wpList_put {w : World} {ops : Array Oper} {rest : List Oper} {o : Oper} {a : Act} {Q : Exit → Act → World → Prop} (hg : o.guard = none) (m x v : Operand) (hop : o.op = Op.mapUpdate 67 m x v)
    (r : Nat) (es : Array MapEntry) (clock : Nat) (k : List UInt8) (val : Value) (hm : a.eval m = .map (some r)) (hx : a.eval x = S k) (hv : a.eval v = val) (hr : w.heap[r]? = some (.map es clock)) (hnot : Instr.findNow .string (S k) es.toList 0 = some none)
    (hK : wpList Tryd.prog ops Q rest (a.put o.dst undef) (setBlock w r (.map (es.push { key := S k, val := val, born := clock }) (clock + 1)))) : wpList Tryd.prog ops Q (o :: rest) a w := by
  refine wpList_plain hg fun K' hK' => ?_
  have hrun := run_put w r es clock k val hr hnot
  unfold Oper.wp
  simp [execOp, hop, hm, hx, hv, hrun, Result.andThen]
  exact hK' _ _ hK

/-- The head of the loop behind i rounds. -/
def MapRel (w : World) (names : List (List UInt8)) (items : List JT) (cs : Array Value) (i : Nat) (wr : World) : Prop :=
  ∃ vs, i ≤ items.length ∧ wr.heap[w.heap.size + 1]? = some (.map (entries 0 (names.take i) vs).toArray i) ∧ Blk wr w.heap.size 30 cs ∧
    IfVs wr (fun b => w.heap.size + 1 < b ∧ b < wr.heap.size) (items.take i) vs ∧ Below w.heap.size w wr

theorem MapRel.step {w wr w3 : World} {names : List (List UInt8)} {items : List JT} {cs : Array Value} {i : Nat} {vs : List Value} {t : JT} {k : List UInt8} {v : Value} (hlen : names.length = items.length)
    (ht : items[i]? = some t) (hk : names[i]? = some k) (hm : wr.heap[w.heap.size + 1]? = some (.map (entries 0 (names.take i) vs).toArray i)) (hbx : Blk wr w.heap.size 30 cs)
    (hvs : IfVs wr (fun b => w.heap.size + 1 < b ∧ b < wr.heap.size) (items.take i) vs) (hb : Below w.heap.size w wr)
    (hv : IfV w3 (fun b => wr.heap.size ≤ b ∧ b < w3.heap.size) t v) (h3 : Below wr.heap.size wr w3) :
    MapRel w names items cs (i + 1) (setBlock w3 (w.heap.size + 1) (.map (entries 0 (names.take i) vs ++ [({ key := S k, val := v, born := i } : MapEntry)]).toArray (i + 1))) := by
  have hi : i < items.length := (List.getElem?_eq_some_iff.1 ht).1
  have hwr : w.heap.size + 1 < wr.heap.size := by
    rcases Nat.lt_or_ge (w.heap.size + 1) wr.heap.size with h | h
    · exact h
    · rw [Array.getElem?_eq_none h] at hm; cases hm
  have hs3 := h3.size
  have hvl := hvs.len
  simp at hvl
  refine ⟨vs ++ [v], by omega, ?_, ?_, ?_, ?_⟩
  · rw [setBlock_same (by omega)]
    rw [show names.take (i + 1) = names.take i ++ [k] from by rw [List.take_add_one, hk]; rfl, entries_snoc k v 0 _ _ (by simp; omega)]
    have : min i names.length = i := by omega
    simp [this]
  · exact (setBlock_other (by omega)).trans (hbx.below h3 hbx.lt)
  · rw [show items.take (i + 1) = items.take i ++ [t] from by rw [List.take_add_one, ht]; rfl]
    refine IfVs.snoc (IfV.keep ?_ ?_ t v hv) _ _ (IfVs.keep ?_ ?_ _ vs hvs)
    · intro b ⟨hb1, hb2⟩
      exact ⟨by omega, by rw [setBlock_size]; exact hb2⟩
    · intro b ⟨hb1, hb2⟩
      exact setBlock_other (by omega)
    · intro b ⟨hb1, hb2⟩
      exact ⟨hb1, by rw [setBlock_size]; omega⟩
    · intro b ⟨hb1, hb2⟩
      rw [setBlock_other (by omega), h3.block b hb2]
  · exact hb.trans ((h3.mono (by omega)).trans (below_setBlock (by omega) _))

set_option maxRecDepth 100000 in
set_option maxHeartbeats 2000000 in
theorem value_obj (w : World) (P : Nat → Prop) (names : List (List UInt8)) (items : List JT) (A : Option Addr) (c : Nat) (A' : Option Addr) (c' : Nat) (xs : List Value) (hP : ∀ b, P b → b < w.heap.size) (hlen : items.length ≤ 8)
    (hnl : names.length = items.length) (hnd : names.Nodup) (hnr : Row w P 1 A' names.length (names.map S)) (hrow : Row w P 4 A items.length xs) (hjs : JNCs w P items xs)
    (ih : ∀ (w' : World) (P' : Nat → Prop) (t : JT) (c0 c1 c2 c3 : Value), t ∈ items → (∀ b, P' b → b < w'.heap.size) → JNC w' P' t [c0, c1, c2, c3] → Calls Tryd.prog 22 #[.agg #[c0, c1, c2, c3]] w' (ValPost w' t)) :
    Calls Tryd.prog 22 #[.agg #[I 5, S [], .slice A' names.length c', .slice A items.length c]] w (ValPost w (.obj names items)) := by
  have IH := hid ih
  clear ih
  have HND := hid hnd
  have HNL := hid hnl
  clear hnd hnl
  have hmm := @run_makeMap Tryd.prog
  go_enter Tryd.func22, Tryd.ntmps22
  go_wp2_with fail
  go_loopw [46] (fun v46 wr => ∃ i : Nat, v46 = I i ∧ MapRel w names items #[I 5, S [], .slice A' names.length c', .slice A items.length c] i wr) (fun v _ => items.length - (intOf v).toNat)
  case atStart =>
    refine ⟨0, rfl, [], by omega, ?_, ?_, rfl, ?_⟩
    · have h := heap_alloc_new (w.alloc (.cells #[I 5, S [], .slice A' names.length c', .slice A items.length c] 30)) (.map #[] 0)
      rw [show (w.alloc (.cells #[I 5, S [], .slice A' names.length c', .slice A items.length c] 30)).heap.size = w.heap.size + 1 from by simp] at h
      rw [h]; rfl
    · exact (Blk.new w 30 _).alloc _
    · exact ((Below.refl _ _).alloc (Nat.le_refl _) _).alloc (by simp) _
  case round =>
    obtain ⟨i, rfl, vs, hi, hm, hbx, hvs, hbel⟩ := hrel
    obtain ⟨b0, b1, b2, b3, q0, q1, q2, q3⟩ := hbx.four
    by_cases hlt : i < items.length
    · obtain ⟨t, ht⟩ : ∃ t, items[i]? = some t := ⟨_, List.getElem?_eq_getElem hlt⟩
      obtain ⟨k, hk⟩ : ∃ k, names[i]? = some k := ⟨_, List.getElem?_eq_getElem (by have := HNL.out; omega)⟩
      obtain ⟨g', u', rfl, hg', hu', hnc⟩ : ∃ g' u', A' = some ⟨g', 0, none⟩ ∧ P g' ∧ (names.map S)[i]? = some u' ∧ w.cell? ⟨g', i, none⟩ = some u' := by
        obtain ⟨g', h1, h2, h3⟩ := hnr.2 (by have := HNL.out; omega)
        exact ⟨g', S k, h1, h2, by simp [hk], h3 _ _ (by simp [hk])⟩
      obtain rfl : S k = u' := by simpa [hk] using hu'
      have hg'w := hP g' hg'
      rw [← hbel.cell (p := ⟨g', _, none⟩) hg'w] at hnc
      obtain ⟨g, c0, c1, c2, c3, rfl, hg, hj, e0, e1, e2, e3⟩ := JNCs.four hrow hjs ht
      have hgw := hP g hg
      rw [← hbel.cell (p := ⟨g, _, none⟩) hgw] at e0 e1 e2 e3
      obtain ⟨kk, s, A1, n1, k1, A2, n2, k2, rfl, rfl, rfl, rfl⟩ := hj.form
      have hj' : JNC wr P t [I kk, S s, .slice A1 n1 k1, .slice A2 n2 k2] := JNC.keep (fun b hb => hb) (fun b hb => hbel.block b (hP b hb)) t _ hj
      have hI : (i : Int) < (items.length : Int) := by omega
      have hIn : (i : Int) < (names.length : Int) := by have := HNL.out; omega
      have hknot : k ∉ names.take i := by
        intro hmem
        obtain ⟨j, hj1, hj2⟩ := List.mem_iff_getElem.1 hmem
        have hnd := HND.out
        have hjl : j < i := by simp at hj1; omega
        have hil := (List.getElem?_eq_some_iff.1 hk)
        rw [List.getElem_take] at hj2
        obtain ⟨hil, hke⟩ := hil
        have := (List.getElem_inj (h₀ := by omega) (h₁ := hil) hnd).1 (hj2.trans hke.symm)
        omega
      have HKN := hid hknot
      have HJ := hid hj'
      have HT := hid ht
      have HK := hid hk
      have HM := hid hm
      have HWR : Hid (w.heap.size ≤ wr.heap.size) := hbel.size
      clear hj hj' ht hlt hgw hg hk hknot hm hu' hg'w hg'
      go_wp2_with fail
      refine (IH.out _ P t _ _ _ _ (List.mem_of_getElem? HT.out) (fun b hb => by have := hP b hb; have := HWR.out; omega) HJ.out).mono ?_
      rintro e w3 ⟨v, rfl, hv, hb3⟩
      have hmr : w3.heap[w.heap.size + 1]? = some (.map (entries 0 (names.take i) vs).toArray i) := by
        have hlt : w.heap.size + 1 < wr.heap.size := by
          rcases Nat.lt_or_ge (w.heap.size + 1) wr.heap.size with h | h
          · exact h
          · have := HM.out; rw [Array.getElem?_eq_none h] at this; cases this
        exact (hb3.block _ hlt).trans HM.out
      have HMR := hid hmr
      have HS := hid (MapRel.step HNL.out HT.out HK.out HM.out hbx hvs hbel hv hb3)
      clear hmr hv
      go_wp2_with (at_mapUpdate; refine wpList_put rfl _ _ _ rfl _ _ _ k v rfl rfl rfl HMR.out (findNow_none k _ _ _ _ HKN.out) ?_)
      go_roundw
      case rel => exact ⟨i + 1, I_nat (by omega), HS.out⟩
      case measure => simp [intOf]; omega
    · obtain rfl : i = items.length := by omega
      have hfin : ValPost w (.obj names items) (.returned (.iface 67 (.map (some (w.heap.size + 1))))) wr := by
        rw [List.take_length] at hvs
        rw [show names.take items.length = names from by rw [← HNL.out, List.take_length]] at hm
        have hlt : w.heap.size + 1 < wr.heap.size := by
          rcases Nat.lt_or_ge (w.heap.size + 1) wr.heap.size with h | h
          · exact h
          · rw [Array.getElem?_eq_none h] at hm; cases hm
        refine ⟨_, rfl, ⟨w.heap.size + 1, vs, rfl, ⟨by omega, hlt⟩, ?_, IfVs.keep (fun b hb => ⟨by have := hb.1; omega, hb.2⟩) (fun _ _ => rfl) _ _ hvs⟩, hbel⟩
        rw [hm, HNL.out]
      have HFIN := hid hfin
      have hIn : (names.length : Int) ≤ (items.length : Int) := by have := HNL.out; omega
      clear hfin hm
      go_wp2_with fail
      go_ret
      exact HFIN.out

/-- 'value', whatever the JN. -/
theorem value_any (n : Nat) : ∀ (t : JT) (w : World) (P : Nat → Prop) (c0 c1 c2 c3 : Value), SizeOf.sizeOf t ≤ n → JT.ok t → (∀ b, P b → b < w.heap.size) → JNC w P t [c0, c1, c2, c3] →
    Calls Tryd.prog 22 #[.agg #[c0, c1, c2, c3]] w (ValPost w t) := by
  induction n with
  | zero => intro t w P c0 c1 c2 c3 h; cases t <;> simp at h
  | succ n ih =>
    intro t w P c0 c1 c2 c3 hn hok hP hj
    cases t with
    | leaf k s =>
      obtain ⟨hk, h⟩ := hj
      simp only [List.cons.injEq, and_true] at h
      obtain ⟨rfl, rfl, rfl, rfl⟩ := h
      exact value_leaf w k s hk
    | arr items =>
      obtain ⟨A, c, xs, h, h2, h3⟩ := hj
      simp only [List.cons.injEq, and_true] at h
      obtain ⟨rfl, rfl, rfl, rfl⟩ := h
      refine value_arr w P items A c xs hP hok.1 h2 h3 fun w' P' t c0 c1 c2 c3 hm hP' hj' => ih t w' P' c0 c1 c2 c3 ?_ ?_ hP' hj'
      · have := List.sizeOf_lt_of_mem hm; simp at hn; omega
      · obtain ⟨i, hi⟩ := List.mem_iff_getElem?.1 hm
        exact JT.oks_at items i t hok.2 hi
    | obj names items =>
      obtain ⟨A, c, A', c', xs, h, h2, h3, h4⟩ := hj
      simp only [List.cons.injEq, and_true] at h
      obtain ⟨rfl, rfl, rfl, rfl⟩ := h
      refine value_obj w P names items A c A' c' xs hP hok.1 hok.2.1 hok.2.2.1 h2 h3 h4 fun w' P' t c0 c1 c2 c3 hm hP' hj' => ih t w' P' c0 c1 c2 c3 ?_ ?_ hP' hj'
      · have := List.sizeOf_lt_of_mem hm; simp at hn; omega
      · obtain ⟨i, hi⟩ := List.mem_iff_getElem?.1 hm
        exact JT.oks_at items i t hok.2.2.2 hi

end Go.Proofs.YtbfadghogjldcaaDoor

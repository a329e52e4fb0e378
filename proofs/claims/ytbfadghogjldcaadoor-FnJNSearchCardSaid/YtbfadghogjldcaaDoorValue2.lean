/- The walk of 'value' at a list. -/
import Derived.Test.YtbfadghogjldcaaDoorValue
namespace Go.Proofs.YtbfadghogjldcaaDoor
open Go.RowKit
set_option linter.unusedVariables false
set_option linter.unusedSimpArgs false

/-- Where what the values under way lead to lies. -/
def KeptV (w : World) (out : Value) (wr : World) (b : Nat) : Prop := w.heap.size < b ∧ b < wr.heap.size ∧ some b ≠ out.ownBlock

/-- The head of the loop behind i rounds. -/
def ValRel (w : World) (items : List JT) (i : Nat) (out : Value) (wr : World) : Prop :=
  ∃ A' c' vs, i ≤ items.length ∧ out = .slice A' i c' ∧ wr.ownsRow (w.heap.size + 1) 20 1 (.slice A' i c') i vs ∧ IfVs wr (KeptV w (.slice A' i c') wr) (items.take i) vs ∧ Below w.heap.size w wr

/-- One value more. -/
theorem ValRel.step {w wr wq w3 w4 : World} {items : List JT} {i : Nat} {A' : Option Addr} {c' : Nat} {vs : List Value} {t : JT} {v : Value} {o : Obj} {A4 : Option Addr} {c4 : Nat}
    (hw : w.heap.size < wr.heap.size) (ht : items[i]? = some t) (hown : wr.ownsRow (w.heap.size + 1) 20 1 (.slice A' i c') i vs) (hvs : IfVs wr (KeptV w (.slice A' i c') wr) (items.take i) vs) (hb : Below w.heap.size w wr)
    (hq : Below wr.heap.size wr wq) (hv : IfV w3 (fun b => wq.heap.size ≤ b ∧ b < w3.heap.size) t v) (h3 : Below wq.heap.size wq w3)
    (ho4 : w4.ownsRow (w.heap.size + 1) 20 1 (.slice A4 (i + 1) c4) (i + 1) (vs ++ [v])) (hg4 : (w3.alloc o).grownBy w4 (Value.ownBlock (.slice A' i c')))
    (hat : Value.ownBlock (.slice A4 (i + 1) c4) = Value.ownBlock (.slice A' i c') ∨ Value.ownBlock (.slice A4 (i + 1) c4) = some (w3.alloc o).heap.size) :
    ValRel w items (i + 1) (.slice A4 (i + 1) c4) w4 := by
  have hi : i < items.length := (List.getElem?_eq_some_iff.1 ht).1
  have hsq := hq.size
  have hs3 := h3.size
  have hs4 := hg4.size
  have hsa : (w3.alloc o).heap.size = w3.heap.size + 1 := by simp
  rw [hsa] at hs4 hat
  have hlt := hown.lt
  have hfar : ∀ b, b < w3.heap.size → some b ≠ Value.ownBlock (.slice A' i c') → w4.heap[b]? = w3.heap[b]? := by
    intro b hb1 hb2
    rw [hg4.block b (by omega) hb2, Below.heap_alloc _ _ _ hb1]
  have hown4 : ∀ b, b < w3.heap.size → some b ≠ Value.ownBlock (.slice A' i c') → some b ≠ Value.ownBlock (.slice A4 (i + 1) c4) := by
    intro b hb1 hb2 e
    rcases hat with h | h
    · exact hb2 (e.trans h)
    · rw [h] at e
      injection e with e
      omega
  refine ⟨A4, c4, vs ++ [v], by omega, rfl, ho4, ?_, ?_⟩
  · rw [show items.take (i + 1) = items.take i ++ [t] from by rw [List.take_add_one, ht]; rfl]
    refine IfVs.snoc (IfV.keep ?_ ?_ t v hv) _ _ (IfVs.keep ?_ ?_ _ vs hvs)
    · intro b ⟨hb1, hb2⟩
      exact ⟨by omega, by omega, hown4 b hb2 (fun e => by have := hlt b e.symm; omega)⟩
    · intro b ⟨hb1, hb2⟩
      exact hfar b hb2 (fun e => by have := hlt b e.symm; omega)
    · intro b ⟨hb1, hb2, hb3⟩
      exact ⟨hb1, by omega, hown4 b (by omega) hb3⟩
    · intro b ⟨hb1, hb2, hb3⟩
      rw [hfar b (by omega) hb3, h3.block b (by omega), hq.block b hb2]
  · refine hb.trans ((hq.mono (by omega)).trans ((h3.mono (by omega)).trans ?_))
    have h1 : Below w.heap.size w3 (w3.alloc o) := (Below.refl _ _).alloc (by omega) o
    exact h1.grown hg4 (by omega) (fun k hk => by have := hlt k hk; omega)

theorem base_okV {w wq w3 : World} {o : Obj} (h : w.heap.size < wq.heap.size) (hg : Below wq.heap.size wq w3) : w.heap.size + 1 ≤ (w3.alloc o).heap.size := by
  have h1 := hg.size
  have h2 : (w3.alloc o).heap.size = w3.heap.size + 1 := by simp
  omega

set_option maxRecDepth 100000 in
set_option maxHeartbeats 2000000 in
theorem value_arr (w : World) (P : Nat → Prop) (items : List JT) (A : Option Addr) (c : Nat) (xs : List Value) (hP : ∀ b, P b → b < w.heap.size) (hlen : items.length ≤ 8)
    (hrow : Row w P 4 A items.length xs) (hjs : JNCs w P items xs)
    (ih : ∀ (w' : World) (P' : Nat → Prop) (t : JT) (c0 c1 c2 c3 : Value), t ∈ items → (∀ b, P' b → b < w'.heap.size) → JNC w' P' t [c0, c1, c2, c3] → Calls Tryd.prog 22 #[.agg #[c0, c1, c2, c3]] w' (ValPost w' t)) :
    Calls Tryd.prog 22 #[.agg #[I 4, S [], .slice none 0 0, .slice A items.length c]] w (ValPost w (.arr items)) := by
  have hbox := (Blk.new w 30 #[I 4, S [], .slice none 0 0, .slice A items.length c])
  have HBOX := hid hbox
  clear hbox
  have IH := hid ih
  clear ih
  go_enter Tryd.func22, Tryd.ntmps22
  go_wp2_with fail
  go_loopw [3, 28] (fun v3 v28 wr => ∃ i : Nat, v28 = I i ∧ w.heap.size < wr.heap.size ∧ ValRel w items i v3 wr) (fun _ v _ => items.length - (intOf v).toNat)
  case atStart =>
    refine ⟨0, rfl, by simp; omega, some ⟨w.heap.size + 1, 0, none⟩, 0, [], by omega, rfl, ?_, rfl, ?_⟩
    · have h := World.ownsRow_made (base := w.heap.size + 1) (e := 20) (size := 1) (w.alloc (.cells #[I 4, S [], .slice none 0 0, .slice A items.length c] 30)) #[] 0 (by simp) (by decide) (by simp)
      rwa [show (w.alloc (.cells #[I 4, S [], .slice none 0 0, .slice A items.length c] 30)).heap.size = w.heap.size + 1 from by simp] at h
    · exact ((Below.refl _ _).alloc (Nat.le_refl _) _).alloc (by simp) _
  case round =>
    obtain ⟨i, rfl, hwr, A', c', vs, hi, rfl, hown, hvs, hbel⟩ := hrel
    have HWR := hid hwr
    clear hwr
    by_cases hlt : i < items.length
    · obtain ⟨t, ht⟩ : ∃ t, items[i]? = some t := ⟨_, List.getElem?_eq_getElem hlt⟩
      obtain ⟨g, c0, c1, c2, c3, rfl, hg, hj, e0, e1, e2, e3⟩ := JNCs.four hrow hjs ht
      have hgw := hP g hg
      rw [← hbel.cell (p := ⟨g, _, none⟩) hgw] at e0 e1 e2 e3
      obtain ⟨k, s, A1, n1, k1, A2, n2, k2, rfl, rfl, rfl, rfl⟩ := hj.form
      have hj' : JNC wr P t [I k, S s, .slice A1 n1 k1, .slice A2 n2 k2] := JNC.keep (fun b hb => hb) (fun b hb => hbel.block b (hP b hb)) t _ hj
      have HJ := hid hj'
      have HT := hid ht
      have HLT := hid hlt
      have hI : (i : Int) < (items.length : Int) := by omega
      have HG := hid hgw
      clear hj hj' ht hlt hgw hg
      go_wp2_with fail
      refine (IH.out _ P t _ _ _ _ (List.mem_of_getElem? HT.out) (fun b hb => by have := hP b hb; have := HWR.out; simp; omega) (JNC.keep (fun b hb => hb) (fun b hb => Below.heap_alloc _ _ _ (by have := hP b hb; have := HWR.out; omega)) t _ HJ.out)).mono ?_
      rintro e w3 ⟨v, rfl, hv, hb3⟩
      have hv1 := hv.one
      have HIM : Hid (i + 1 ≤ 1000000) := by have := HLT.out; show i + 1 ≤ _; omega
      have ho3 := (hown.alloc _).kept (row := none) ⟨hb3.os, hb3.tape, hb3.output, hb3.size, fun k hk _ => hb3.block k hk⟩ (by cases hvv : Value.ownBlock (.slice A' i c') <;> simp)
      have hone : ∀ u ∈ [v], u.oneCell' = true := by simpa using hv1
      have HONE := hid hone
      clear hone hv1
      have hbq : w.heap.size + 1 ≤ (w3.alloc (.cells #[v] 20)).heap.size := by
        have h1 := hb3.size
        have h2 := HWR.out
        simp at h1 ⊢
        omega
      have HB := hid hbq
      clear hbq
      have hstep : ∀ (w4 : World) (A4 : Option Addr) (c4 : Nat), w4.ownsRow (w.heap.size + 1) 20 1 (.slice A4 (i + 1) c4) (i + 1) (vs ++ [v]) → (w3.alloc (.cells #[v] 20)).grownBy w4 (Value.ownBlock (.slice A' i c')) →
          (Value.ownBlock (.slice A4 (i + 1) c4) = Value.ownBlock (.slice A' i c') ∨ Value.ownBlock (.slice A4 (i + 1) c4) = some (w3.alloc (.cells #[v] 20)).heap.size) → w.heap.size < w4.heap.size ∧ ValRel w items (i + 1) (.slice A4 (i + 1) c4) w4 := by
        intro w4 A4 c4 ho4 hg4 hat4
        refine ⟨?_, ValRel.step HWR.out HT.out hown hvs hbel ((Below.refl _ _).alloc (Nat.le_refl _) _) hv hb3 ho4 hg4 hat4⟩
        have h1 := hg4.size
        have h2 := HB.out
        omega
      have HS := hid hstep
      clear hstep
      obtain ⟨u, x, rfl⟩ | rfl := hv.form
      · go_wp2_with (at_builtin; refine wpList_app rfl _ _ rfl elem66 rfl (ho3.alloc _) rfl (Reads.blk (P := fun _ => True) (Blk.new w3 20 #[.iface u x]) trivial rfl) HONE.out HIM.out HB.out ?_; intro A4 c4 w4 ho4 hg4 hat4)
        go_roundw
        case rel => exact ⟨i + 1, I_nat (by omega), HS.out _ _ _ ho4 hg4 hat4⟩
        case measure => simp [intOf]; omega
      · go_wp2_with (at_builtin; refine wpList_app rfl _ _ rfl elem66 rfl (ho3.alloc _) rfl (Reads.blk (P := fun _ => True) (Blk.new w3 20 #[.nilIface]) trivial rfl) HONE.out HIM.out HB.out ?_; intro A4 c4 w4 ho4 hg4 hat4)
        go_roundw
        case rel => exact ⟨i + 1, I_nat (by omega), HS.out _ _ _ ho4 hg4 hat4⟩
        case measure => simp [intOf]; omega
    · obtain rfl : i = items.length := by omega
      have hfin : ValPost w (.arr items) (.returned (.iface 66 (.slice A' items.length c'))) wr := by
        rw [List.take_length] at hvs
        refine ⟨_, rfl, ⟨A', c', vs, rfl, (Row.of_own hown).more fun b hb => ⟨by have := hb.2.1; omega, hb.2.2⟩, IfVs.keep (fun b hb => ⟨by have := hb.1; omega, hb.2.1⟩) (fun _ _ => rfl) _ _ hvs⟩, hbel⟩
      have HFIN := hid hfin
      clear hfin
      go_wp2_with fail
      go_ret
      exact HFIN.out

end Go.Proofs.YtbfadghogjldcaaDoor

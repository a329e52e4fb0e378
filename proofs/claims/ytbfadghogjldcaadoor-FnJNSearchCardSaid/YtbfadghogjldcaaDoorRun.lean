/- The walk of 'JNSearch'. -/
import Derived.Test.YtbfadghogjldcaaDoorSea4
import Derived.Sort.OwnSorted
import Derived.Defers
import Derived.Recover
namespace Go.Proofs.YtbfadghogjldcaaDoor
open Go.RowKit
set_option linter.unusedVariables false
set_option linter.unusedSimpArgs false

def srt (L : List (List UInt8)) : List (List UInt8) := L.mergeSort fun x y => decide (x ≤ y)
theorem srt_len (L : List (List UInt8)) : (srt L).length = L.length := by simp [srt]
theorem srt_perm (L : List (List UInt8)) : (srt L).Perm L := List.mergeSort_perm _ _

theorem sort_any {w : World} {base c : Nat} {A : Option Addr} {L : List (List UInt8)} (h : w.ownsRow base 9 1 (.slice A L.length c) L.length (L.map S)) (hl : L.length ≤ 1000000) :
    Calls Tryd.prog 23 #[.slice A L.length c] w fun e w' => e = .returned (.tuple #[]) ∧ w'.ownsRow base 9 1 (.slice A L.length c) L.length ((srt L).map S) ∧ w.grownBy w' (Value.ownBlock (.slice A L.length c)) := by
  rcases L with _ | ⟨x, L⟩
  · refine (Tryd.sort_Strings_none A c w).mono ?_
    rintro e w' ⟨rfl, rfl⟩
    exact ⟨rfl, by simpa [srt] using h, grownBy_refl _ _⟩
  · rcases h.2 with ⟨h0, _⟩ | ⟨g, cap, cur, hv, hbase, hb, h1, h2, h3, h4⟩
    · simp at h0
    · injection hv with hA _ hc
      subst hA hc
      refine (Tryd.sort_Strings g 0 c (x :: L) w (holds_of_block hb (by simpa using h4)) (Array.getElem?_eq_some_iff.1 hb).1 (by omega)).mono ?_
      rintro e w' ⟨rfl, n, os, rfl⟩
      exact ⟨rfl, ownsRow_sorted (ss := x :: L) (srt_len _) hbase hb h1 h2 h3, grownBy_sorted _⟩

set_option maxRecDepth 100000 in
theorem caught_idle (p : Addr) (w : World) :
    CallsD Tryd.prog 18 #[.pointer (some p)] .returning w fun e u' w' => e = .returned (.tuple #[]) ∧ u' = .returning ∧ w' = w := by
  refine callsD_of_wpS Tryd.func18 rfl fun c₀ cs hu => ?_
  apply wpS_seq
  apply wpS_region
  simp [wpOpsS, go_sem, recoverD, hu, Tryd.ntmps18, Exit.thenS]
  refine wpS_cond (t := false) (by simp [Act.eval, Array.replicate]) ?_
  simp only [Bool.false_eq_true, if_false]
  refine wpS_of_wp (wp_skip ?_)
  cases c₀
  simp_all [bodyPostS, results, Tryd.results18, Exit.thenS]

theorem told_len {once stop : Bool} {L F : List (List UInt8)} (h : Told once L stop F) : L.length ≤ F.length := by
  rcases h with ⟨_, h⟩ | ⟨_, _, q, hq, rfl⟩
  · exact h.len
  · exact List.length_pos_of_mem hq

/-- What 'JNSearch' leaves. -/
def RunPost (w : World) (once : Bool) (F : List (List UInt8)) (e : Ending) (w' : World) : Prop :=
  ∃ (L : List (List UInt8)) (A : Option Addr) (c : Nat) (stop : Bool), e = .returned (.tuple #[.slice A L.length c, .bool true]) ∧ Told once L stop F ∧
    w'.ownsRow w.heap.size 9 1 (.slice A L.length c) L.length ((srt L).map S) ∧ Below w.heap.size w w'

theorem RunPost.drew {w w' : World} {once : Bool} {F : List (List UInt8)} {e : Ending} (h : RunPost w once F e w') : RunPost w once F e w'.drew := by
  obtain ⟨L, A, c, stop, h1, h2, h3, h4⟩ := h
  exact ⟨L, A, c, stop, h1, h2, own_drew h3, h4.drew⟩

set_option maxRecDepth 100000 in
set_option maxHeartbeats 4000000 in
theorem run_any (fold once : Bool) (p : List UInt8) (ns : List MN) (t : JT) (c0 c1 c2 c3 : Value) (P : Nat → Prop) (w : World) (hp : parse fold p = some ns) (hl : p.length ≤ 1000) (hb : ∀ c ∈ p, c.toNat < 128)
    (hok : JT.ok t) (ha : JT.asc t) (hlv : t.leaves ≤ 100000) (hr : t.room ≤ 900000) (hP : ∀ b, P b → b < w.heap.size) (hv : JNC w P t [c0, c1, c2, c3]) :
    Calls Tryd.prog 9 #[.agg #[c0, c1, c2, c3], S p, R 124, .bool fold, .bool once] w (RunPost w once (found (glob fold ns) t [36])) := by
  obtain ⟨k, s, A1, n1, k1, A2, n2, k2, rfl, rfl, rfl, rfl⟩ := hv.form
  have HVAL : Hid (∀ w', Below w.heap.size w w' → Calls Tryd.prog 22 #[.agg #[I k, S s, .slice A1 n1 k1, .slice A2 n2 k2]] w' (ValPost w' t)) := fun w' hbw =>
    value_any _ t w' P _ _ _ _ (Nat.le_refl _) hok (fun b hb => Nat.lt_of_lt_of_le (hP b hb) hbw.size) (JNC.keep (fun b hb => hb) (fun b hb => hbw.block b (hP b hb)) t _ hv)
  have HFIND : Hid (∀ (v : Value) (P' : Nat → Prop) (w' : World), (∀ b, P' b → b < w'.heap.size) → IfV w' P' t v → Calls Tryd.prog 21 #[v, col fold, S p, R 124, .bool once] w' (FindPost w' once (found (glob fold ns) t [36]))) := fun v P' w' hP' hv' =>
    find_any fold once p ns t v P' w' hp hl hb hok ha hlv hr hP' hv'
  have HLV : Hid (t.leaves ≤ 100000) := hlv
  clear hp hl hb hok ha hlv hr hP hv
  have HB1 : Hid (Below w.heap.size w ((w.alloc (.cells #[I k, S s, .slice A1 n1 k1, .slice A2 n2 k2] 30)).alloc (.cells #[.bool false] 4))) := ((Below.refl _ _).alloc (Nat.le_refl _) _).alloc (by simp) _
  cases fold
  case false =>
    go_enter_defers Tryd.func9, Tryd.ntmps9
    go_wp2_with fail
    refine (HVAL.out _ HB1.out).mono ?_
    rintro e w1 ⟨v, rfl, hiv, hb1⟩
    have HIV := hid hiv
    have HBB := hid hb1
    have hform := hiv.form
    clear hiv hb1
    rcases hform with ⟨u, x, rfl⟩ | rfl
    all_goals
      go_wp2_with fail
      refine (HFIND.out _ _ w1 (fun b h => h.2) HIV.out).mono ?_
      rintro e w2 ⟨L, A, c, stop, rfl, htold, hrow, hb2⟩
      have HROW := hid hrow
      have HTOLD := hid htold
      have hll : L.length ≤ 1000000 := by
        have h1 := told_len htold
        have h2 := found_len (glob false ns) t [36]
        have := HLV.out
        omega
      have HLL := hid hll
      have HB2 := hid hb2
      clear htold hrow hb2 hll
      go_wp2_with fail
      refine (sort_any HROW.out HLL.out).mono ?_
      rintro e w3 ⟨rfl, hrow3, hg3⟩
      have HBS : Hid (w.heap.size + 2 ≤ w1.heap.size) := by have := HBB.out.size; rw [heap_size_alloc, heap_size_alloc] at this; exact this
      have hblk : Blk w3 (w.heap.size + 1) 4 #[.bool false] := by
        have h1 : Blk ((w.alloc (.cells #[I k, S s, .slice A1 n1 k1, .slice A2 n2 k2] 30)).alloc (.cells #[.bool false] 4)) (w.heap.size + 1) 4 #[.bool false] := Blk.new2 w _ 4 _
        exact ((h1.below HBB.out h1.lt).below HB2.out (by have := HBS.out; omega)).grown hg3 (own_past HROW.out (by have := HBS.out; omega))
      have hfz := hblk.frozen 0
      have hcz := hblk.cell 0
      simp at hcz
      have HFIN : Hid (∀ u, RunPost w once (found (glob false ns) t [36]) (.returned (.tuple #[.slice A L.length c, .bool true])) (w3.setCell ⟨w.heap.size + 1, 0, none⟩ u)) := fun u => by
        refine ⟨L, A, c, stop, rfl, HTOLD.out, ?_, ?_⟩
        · exact own_base (ownsRow_setCell_below hrow3 (a := ⟨w.heap.size + 1, 0, none⟩) (show w.heap.size + 1 < w1.heap.size by have := HBS.out; omega) u) (show w.heap.size ≤ w1.heap.size by have := HBS.out; omega)
        · have h1 : Below w.heap.size w w2 := (HB1.out.trans (HBB.out.mono (by rw [heap_size_alloc, heap_size_alloc]; omega))).trans (HB2.out.mono (by have := HBS.out; omega))
          exact (h1.grown hg3 h1.size (fun q hq => by have := (HROW.out.lt q hq).1; have := HBS.out; omega)).setCell (p := ⟨w.heap.size + 1, 0, none⟩) (Nat.le_succ _) u
      have HCV : Hid (∀ u, (w3.setCell ⟨w.heap.size + 1, 0, none⟩ u).cell? ⟨w.heap.size + 1, 0, none⟩ = some u) := fun u => by
        have := (hblk.set_ 0 u).cell 0
        simpa using this
      clear hrow3 hg3 hblk
      go_wp2_with fail
      go_region
      all_goals
        go_wp2_with fail
        refine leaves_cons (f := 18) (args := #[.pointer (some ⟨w.heap.size + 1, 0, none⟩)]) (by simp) (by simp [go_sem]) ?_
        refine (caught_idle ⟨w.heap.size + 1, 0, none⟩ _).mono ?_
        rintro e u' w'' ⟨rfl, rfl, rfl⟩
        have hcv := HCV.out (.bool true)
        simp [Leaves, settle, results, Tryd.results9, go_sem, hcv]
        exact (HFIN.out _).drew
  case true =>
    go_enter_defers Tryd.func9, Tryd.ntmps9
    go_wp2_with fail
    refine (HVAL.out _ HB1.out).mono ?_
    rintro e w1 ⟨v, rfl, hiv, hb1⟩
    have HIV := hid hiv
    have HBB := hid hb1
    have hform := hiv.form
    clear hiv hb1
    rcases hform with ⟨u, x, rfl⟩ | rfl
    all_goals
      go_wp2_with fail
      refine (HFIND.out _ _ w1 (fun b h => h.2) HIV.out).mono ?_
      rintro e w2 ⟨L, A, c, stop, rfl, htold, hrow, hb2⟩
      have HROW := hid hrow
      have HTOLD := hid htold
      have hll : L.length ≤ 1000000 := by
        have h1 := told_len htold
        have h2 := found_len (glob true ns) t [36]
        have := HLV.out
        omega
      have HLL := hid hll
      have HB2 := hid hb2
      clear htold hrow hb2 hll
      go_wp2_with fail
      refine (sort_any HROW.out HLL.out).mono ?_
      rintro e w3 ⟨rfl, hrow3, hg3⟩
      have HBS : Hid (w.heap.size + 2 ≤ w1.heap.size) := by have := HBB.out.size; rw [heap_size_alloc, heap_size_alloc] at this; exact this
      have hblk : Blk w3 (w.heap.size + 1) 4 #[.bool false] := by
        have h1 : Blk ((w.alloc (.cells #[I k, S s, .slice A1 n1 k1, .slice A2 n2 k2] 30)).alloc (.cells #[.bool false] 4)) (w.heap.size + 1) 4 #[.bool false] := Blk.new2 w _ 4 _
        exact ((h1.below HBB.out h1.lt).below HB2.out (by have := HBS.out; omega)).grown hg3 (own_past HROW.out (by have := HBS.out; omega))
      have hfz := hblk.frozen 0
      have hcz := hblk.cell 0
      simp at hcz
      have HFIN : Hid (∀ u, RunPost w once (found (glob true ns) t [36]) (.returned (.tuple #[.slice A L.length c, .bool true])) (w3.setCell ⟨w.heap.size + 1, 0, none⟩ u)) := fun u => by
        refine ⟨L, A, c, stop, rfl, HTOLD.out, ?_, ?_⟩
        · exact own_base (ownsRow_setCell_below hrow3 (a := ⟨w.heap.size + 1, 0, none⟩) (show w.heap.size + 1 < w1.heap.size by have := HBS.out; omega) u) (show w.heap.size ≤ w1.heap.size by have := HBS.out; omega)
        · have h1 : Below w.heap.size w w2 := (HB1.out.trans (HBB.out.mono (by rw [heap_size_alloc, heap_size_alloc]; omega))).trans (HB2.out.mono (by have := HBS.out; omega))
          exact (h1.grown hg3 h1.size (fun q hq => by have := (HROW.out.lt q hq).1; have := HBS.out; omega)).setCell (p := ⟨w.heap.size + 1, 0, none⟩) (Nat.le_succ _) u
      have HCV : Hid (∀ u, (w3.setCell ⟨w.heap.size + 1, 0, none⟩ u).cell? ⟨w.heap.size + 1, 0, none⟩ = some u) := fun u => by
        have := (hblk.set_ 0 u).cell 0
        simpa using this
      clear hrow3 hg3 hblk
      go_wp2_with fail
      go_region
      all_goals
        go_wp2_with fail
        refine leaves_cons (f := 18) (args := #[.pointer (some ⟨w.heap.size + 1, 0, none⟩)]) (by simp) (by simp [go_sem]) ?_
        refine (caught_idle ⟨w.heap.size + 1, 0, none⟩ _).mono ?_
        rintro e u' w'' ⟨rfl, rfl, rfl⟩
        have hcv := HCV.out (.bool true)
        simp [Leaves, settle, results, Tryd.results9, go_sem, hcv]
        exact (HFIN.out _).drew

end Go.Proofs.YtbfadghogjldcaaDoor

/- 'jsonSearch' whole, and 'Search'. -/
import Derived.Test.YtbfadghogjldcaaDoorSea3
namespace Go.Proofs.YtbfadghogjldcaaDoor
open Go.RowKit
set_option linter.unusedVariables false
set_option linter.unusedSimpArgs false

theorem sea_any (fold once : Bool) (ns : List MN) (g : Nat) (hns : ns.length ≤ 1000) (n : Nat) : ∀ (t : JT) (w : World) (P : Nat → Prop) (v : Value) (p : List UInt8), SizeOf.sizeOf t ≤ n → JT.ok t → JT.asc t → t.leaves ≤ 100000 → p.length + t.room ≤ 1000000 →
    (∀ b, P b → b < w.heap.size) → MatAt w g fold ns → IfV w P t v → Calls Tryd.prog 30 #[v, .pointer (some ⟨g, 0, none⟩), S p, .bool once] w (SeaPost w once (found (glob fold ns) t p)) := by
  induction n with
  | zero => intro t w P v p h; cases t <;> simp at h
  | succ n ih =>
    intro t w P v p hn hok ha hl hr hP hm hv
    cases t with
    | leaf k s => exact sea_leaf fold once ns k s p g w hok hns ha.1 ha.2 hm v P hv
    | arr items =>
      obtain ⟨A, c, vs, rfl, h2, h3⟩ := hv
      refine sea_arr fold once ns items p g w P A c vs hP hok.1 hl hr hm h2 h3 fun w' P' t v p' hmem hr' hP' hm' hv' => ih t w' P' v p' ?_ ?_ (JT.ascs_at items t ha hmem) (Nat.le_trans (JT.leavess_at items t hmem) hl) hr' hP' hm' hv'
      · have := List.sizeOf_lt_of_mem hmem; simp at hn; omega
      · obtain ⟨i, hi⟩ := List.mem_iff_getElem?.1 hmem
        exact JT.oks_at items i t hok.2 hi
    | obj names items =>
      obtain ⟨r, vs, rfl, h2, h3, h4⟩ := hv
      refine sea_obj fold once ns names items p g r w P vs hP hok.1 hok.2.1 hl hr hm h2 h3 h4 fun w' P' t v p' hmem hr' hP' hm' hv' => ih t w' P' v p' ?_ ?_ (JT.ascs_at items t ha hmem) (Nat.le_trans (JT.leavess_at items t hmem) hl) hr' hP' hm' hv'
      · have := List.sizeOf_lt_of_mem hmem; simp at hn; omega
      · obtain ⟨i, hi⟩ := List.mem_iff_getElem?.1 hmem
        exact JT.oks_at items i t hok.2.2.2 hi

theorem parse_len (fold : Bool) : ∀ (n : Nat) (p : List UInt8) (ns : List MN), p.length ≤ n → parse fold p = some ns → ns.length ≤ p.length
  | _, [], ns, _, h => by simp [parse] at h; subst h; simp
  | 0, c :: p, ns, hn, h => by simp at hn
  | n + 1, c :: p, ns, hn, h => by
    simp at hn
    by_cases h95 : c = 95
    · subst h95
      obtain ⟨r', rfl, h2⟩ := parse_one h
      have := parse_len fold n p r' hn h2
      simp; omega
    · by_cases h37 : c = 37
      · subst h37
        obtain ⟨r', rfl, h2⟩ := parse_any h
        have := parse_len fold n p r' hn h2
        simp; omega
      · by_cases h124 : c = 124
        · subst h124
          obtain ⟨d, r, r', rfl, rfl, h2⟩ := parse_esc h
          have := parse_len fold n r r' (by simp at hn; omega) h2
          simp; omega
        · obtain ⟨r', rfl, h2⟩ := parse_self h95 h37 h124 h
          have := parse_len fold n p r' hn h2
          simp; omega

/-- What 'Search' leaves. -/
def FindPost (w : World) (once : Bool) (F : List (List UInt8)) (e : Ending) (w' : World) : Prop :=
  ∃ (L : List (List UInt8)) (A : Option Addr) (c : Nat) (stop : Bool), e = .returned (.tuple #[.slice A L.length c, .nilIface]) ∧ Told once L stop F ∧
    w'.ownsRow w.heap.size 9 1 (.slice A L.length c) L.length (L.map S) ∧ Below w.heap.size w w'

set_option maxRecDepth 100000 in
set_option maxHeartbeats 4000000 in
theorem find_any (fold once : Bool) (p : List UInt8) (ns : List MN) (t : JT) (v : Value) (P : Nat → Prop) (w : World) (hp : parse fold p = some ns) (hl : p.length ≤ 1000) (hb : ∀ c ∈ p, c.toNat < 128)
    (hok : JT.ok t) (ha : JT.asc t) (hlv : t.leaves ≤ 100000) (hr : t.room ≤ 900000) (hP : ∀ b, P b → b < w.heap.size) (hv : IfV w P t v) :
    Calls Tryd.prog 21 #[v, col fold, S p, R 124, .bool once] w (FindPost w once (found (glob fold ns) t [36])) := by
  have HMK : Hid (∀ w, Calls Tryd.prog 29 #[col fold, S p, R 124] w (MkPost fold ns w)) := fun w => mk_any fold p ns w hp hl hb
  have hns : ns.length ≤ 1000 := Nat.le_trans (parse_len fold _ p ns (Nat.le_refl _) hp) hl
  have HSEA : Hid (∀ (g : Nat) (w' : World), Below w.heap.size w w' → MatAt w' g fold ns → Calls Tryd.prog 30 #[v, .pointer (some ⟨g, 0, none⟩), S [36], .bool once] w' (SeaPost w' once (found (glob fold ns) t [36]))) := fun g w' hbw hm =>
    sea_any fold once ns g hns _ t w' P v [36] (Nat.le_refl _) hok ha hlv (by simp; omega) (fun b hb => Nat.lt_of_lt_of_le (hP b hb) hbw.size) hm (hv.keep (fun b hb => hb) (fun b hb => hbw.block b (hP b hb)))
  have hform := hv.form
  clear hp hl hb hok ha hlv hr hP hv
  rcases hform with ⟨u, x, rfl⟩ | rfl
  all_goals
    go_enter Tryd.func21, Tryd.ntmps21
    go_wp2_with fail
    refine (HMK.out _).mono ?_
    rintro e w1 ⟨A, c, rfl, hc, hrow, hbel⟩
    have HBEL := hid hbel
    have HROW := hid hrow
    clear hbel hrow
    go_wp2_with fail
    have HB2 : Hid (Below w.heap.size w (w1.alloc (.cells #[.slice A ns.length c, col fold, R 124] 60))) := HBEL.out.alloc HBEL.out.size _
    have HMAT : Hid (MatAt (w1.alloc (.cells #[.slice A ns.length c, col fold, R 124] 60)) w1.heap.size fold ns) :=
      ⟨A, c, Blk.new w1 60 _, (HROW.out.reads.keep fun q hq => World.cell?_of_block (Below.heap_alloc _ _ _ hq.2)).more fun b hb => by rw [heap_size_alloc]; exact Nat.lt_succ_of_lt hb.2⟩
    refine (HSEA.out _ _ HB2.out HMAT.out).mono ?_
    rintro e w3 ⟨L, A3, c3, stop, rfl, htold, hrow3, hb3⟩
    have HFIN : Hid (FindPost w once (found (glob fold ns) t [36]) (.returned (.tuple #[.slice A3 L.length c3, .nilIface])) w3) :=
      ⟨L, A3, c3, stop, rfl, htold, own_base hrow3 HB2.out.size, HB2.out.trans (hb3.mono HB2.out.size)⟩
    clear htold hrow3 hb3
    go_wp2_with fail
    go_ret2
    exact HFIN.out

end Go.Proofs.YtbfadghogjldcaaDoor

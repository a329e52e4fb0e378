/- The walk of the maker's 'byte'. -/
import Derived.Test.YtbfadghogjldcaaDoorBase
namespace Go.Proofs.YtbfadghogjldcaaDoor
open Go.RowKit

set_option maxHeartbeats 400000 in
theorem byte_nil (w : World) (g : Nat) (left : Int) (h : MadeAt w g [] left) :
    Calls Tryd.prog 17 #[.pointer (some ⟨g, 0, none⟩)] w fun e w' => e = .returned (I 0) ∧ w = w' := by
  obtain ⟨A, c, hc, hm, hb, hr⟩ := h
  have h0 := hb.cell 0
  simp at h0
  go_enter Tryd.func17, Tryd.ntmps17
  go_wp2
  go_ret
  exact ⟨rfl, rfl⟩

theorem add_0 (a : Addr) : a.add 0 = a := by simp [Addr.add]
theorem head_ne (code : List UInt8) : ((code.length : Int) + 1 == 0) = false := by
  rw [beq_eq_false_iff_ne]; omega

theorem MadeAt.cut {w : World} {g : Nat} {b : UInt8} {code : List UInt8} {left : Int} {A : Option Addr} {c : Nat} (hc : (b :: code).length ≤ c) (hm : (b :: code).length ≤ 2147483647)
    (hb : Blk w g 25 #[.slice A (b :: code).length c, .int .i64 left]) (hr : Reads w (· < g) 1 A (b :: code).length ((b :: code).map U)) :
    MadeAt (w.setCell ⟨g, 0, none⟩ (.slice (if c = 1 then A else A.map (·.add (1 * 1))) code.length (c - 1))) g code left := by
  have hn : (b :: code).length = code.length + 1 := rfl
  refine ⟨_, c - 1, by omega, by omega, hb.set_ 0 _, ?_⟩
  have h := hr.cut (k := 1) (cap := c) (by simp) hc
  have h2 := h.keep (w' := w.setCell ⟨g, 0, none⟩ (.slice (if c = 1 then A else A.map (·.add (1 * 1))) code.length (c - 1))) (fun p (hp : p.block < g) => World.cell?_setCell_other w _ p _ (fun e => by subst e; simp at hp))
  simpa using h2

set_option maxHeartbeats 400000 in
theorem byte_cons (w : World) (g : Nat) (b : UInt8) (code : List UInt8) (left : Int) (h : MadeAt w g (b :: code) left) :
    Calls Tryd.prog 17 #[.pointer (some ⟨g, 0, none⟩)] w fun e w' => e = .returned (I b.toNat) ∧ MadeAt w' g code left ∧ w.grownBy w' (some g) := by
  obtain ⟨A, c, hc, hm, hb, hr⟩ := h
  have h0 := hb.cell 0
  simp at h0
  have hf := hb.frozen 0
  obtain ⟨ad, u, rfl, had, hu, hcell⟩ := hr.at_ (k := 0) (by simp)
  simp at hu
  subst hu
  rw [add_0] at hcell
  have hne := head_ne code
  have hlt : (0 : Int) < (code.length : Int) + 1 := by omega
  have hl2 : (1 : Int) ≤ (code.length : Int) + 1 := by omega
  have hcm : (code.length : Int) ≤ 2147483646 := by simp at hm; omega
  have hb256 : (b.toNat : Int) ≤ 255 := by have := b.toNat_lt; omega
  have hcut := MadeAt.cut hc hm hb hr
  have hg := grownBy_setCell (grownBy_refl w (some g)) (p := ⟨g, 0, none⟩) rfl (.slice (if c = 1 then some ad else (some ad).map (·.add (1 * 1))) code.length (c - 1))
  have HC := hid (And.intro hcut hg)
  clear hcut hg hb hm hr
  go_enter Tryd.func17, Tryd.ntmps17
  go_wp2
  · have hone : c = 1 := by assumption
    go_ret
    have := HC.out
    rw [if_pos hone] at this
    subst hone
    exact ⟨rfl, this⟩
  · have hone : ¬ c = 1 := by assumption
    go_ret
    have := HC.out
    rw [if_neg hone] at this
    exact ⟨rfl, this⟩

theorem byte_any (w : World) (g : Nat) (code : List UInt8) (left : Int) (h : MadeAt w g code left) :
    Calls Tryd.prog 17 #[.pointer (some ⟨g, 0, none⟩)] w fun e w' => e = .returned (I (hd code)) ∧ MadeAt w' g code.tail left ∧ w.grownBy w' (some g) := by
  cases code with
  | nil => exact (byte_nil w g left h).mono fun e w' ⟨he, hw⟩ => by subst hw; exact ⟨he, h, grownBy_refl _ _⟩
  | cons b code => exact byte_cons w g b code left h

end Go.Proofs.YtbfadghogjldcaaDoor

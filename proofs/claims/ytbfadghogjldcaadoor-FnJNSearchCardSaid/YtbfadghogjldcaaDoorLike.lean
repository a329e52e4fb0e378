/- The walk of 'JNLike'. -/
import Derived.Test.YtbfadghogjldcaaDoorWeight
import Derived.Test.YtbfadghogjldcaaDoorState
import Derived.BigQuiet
import Derived.MapKept
namespace Go.Proofs.YtbfadghogjldcaaDoor
open Go.RowKit
set_option linter.unusedVariables false
set_option linter.unusedSimpArgs false

abbrev U8 (n : Int) : Value := .int .u8 n

theorem small_any (c : Int) (fold : Bool) (w : World) (h0 : 0 ≤ c) (h1 : c ≤ 255) : Calls Tryd.prog 24 #[U8 c, .bool fold] w fun e w' => e = .returned (U8 (wt fold c)) ∧ w' = w := by
  cases fold with
  | false =>
    have e : wt false c = c := by simp [wt]
    rw [e]
    go_enter Tryd.func24, Tryd.ntmps24
    go_wp2
    go_ret
    exact ⟨rfl, rfl⟩
  | true =>
    by_cases a : 65 ≤ c
    · by_cases b : c ≤ 90
      · have e : wt true c = c + 32 := by simp [wt, a, b]
        rw [e]
        have hm : (c + 32) % 256 = c + 32 := by omega
        go_enter Tryd.func24, Tryd.ntmps24
        go_wp2
        go_ret
        exact ⟨rfl, rfl⟩
      · have e : wt true c = c := by simp [wt, b]
        rw [e]
        have hb : decide (c ≤ 90) = false := decide_eq_false b
        go_enter Tryd.func24, Tryd.ntmps24
        go_wp2
        go_ret
        exact ⟨rfl, rfl⟩
    · have e : wt true c = c := by simp [wt, a]
      rw [e]
      have hb : decide (65 ≤ c) = false := decide_eq_false a
      go_enter Tryd.func24, Tryd.ntmps24
      go_wp2
      go_ret
      exact ⟨rfl, rfl⟩

/-- What 'JNLike' leaves. -/
def Likes (s p : List UInt8) (fold b : Bool) (w : World) : Prop := Calls Tryd.prog 10 #[S s, S p, U8 124, .bool fold] w fun e w' => e = .returned (.bool b) ∧ ∃ m, w' = w.drewN m

set_option maxRecDepth 100000 in
set_option maxHeartbeats 4000000 in
theorem like_nil (fold : Bool) (s : List UInt8) (w : World) : Likes s [] fold (glob fold [] s) w := by
  rw [glob_nil]
  unfold Likes
  cases s with
  | nil =>
    go_enter Tryd.func10, Tryd.ntmps10
    go_wp2
    go_ret
    exact ⟨rfl, 0, rfl⟩
  | cons a s =>
    go_enter Tryd.func10, Tryd.ntmps10
    go_wp2
    go_ret
    exact ⟨rfl, 0, rfl⟩

/-- What a walk asks of the first sign. -/
theorem at_0 (c : UInt8) (tl : List UInt8) (h : 0 < ({ data := (c :: tl).toArray } : ByteArray).size) : ({ data := (c :: tl).toArray } : ByteArray)[0] = c := rfl
theorem cut1 (a : UInt8) (s : List UInt8) : Value.string (ByteArray.extract { data := (a :: s).toArray } 1 (s.length + 1)) = S s := drop_str (a :: s) 1
theorem not_empty (c : UInt8) (tl : List UInt8) : (({ data := (c :: tl).toArray } : ByteArray) == { data := #[] }) = false := by
  rw [Bool.eq_false_iff]
  intro e
  have e := (Go.MapKept.bytes_beq _ _).1 e
  injection e with e
  simp at e

set_option maxRecDepth 100000 in
set_option maxHeartbeats 4000000 in
theorem like_one (fold : Bool) (s tl : List UInt8) (ns : List MN) (w : World) (c : UInt8) (hc : c = 95) (hs : s.length ≤ 1000) (hp : tl.length ≤ 1000) (ih : ∀ s' w, s'.length ≤ s.length → Likes s' tl fold (glob fold ns s') w) :
    Likes s (c :: tl) fold (glob fold (.rune 95 (-1) :: ns) s) w := by
  have IH := hid ih
  clear ih
  unfold Likes
  have h0 := at_0 c tl
  have hx : (c.toNat : Int) = 95 := by rw [hc]; rfl
  clear hc
  have hlp : (c :: tl).length ≤ 2000 := by simp; omega
  cases s with
  | nil =>
    rw [glob_rune_nil]
    go_enter Tryd.func10, Tryd.ntmps10
    go_wp2
    go_quiet (fail)
    go_wp2
    go_ret
    exact ⟨rfl, _, rfl⟩
  | cons a s =>
    rw [glob_rune]
    have hne := not_empty a s
    have he : MN.eats fold (.rune 95 (-1)) a.toNat = true := rfl
    rw [he, Bool.true_and]
    have hs1 : (1 : Int) ≤ (s.length : Int) + 1 := by omega
    have hp1 : (1 : Int) ≤ (tl.length : Int) + 1 := by omega
    have HSL : Hid (s.length ≤ (a :: s).length) := by show _ ≤ _; simp
    clear he
    go_enter Tryd.func10, Tryd.ntmps10
    go_wp2
    go_quiet ((rw [cut1 a s, cut1 c tl]; exact Calls.quiet_of (IH.out s _ HSL.out)))
    go_wp2
    go_ret
    exact ⟨rfl, _, rfl⟩

/-- What the rest of the walk asks of a sign that stands for itself. -/
theorem eats_self (fold : Bool) (o : Int) (d a : UInt8) : MN.eats fold (.rune o (wt fold d.toNat)) a.toNat = (wt fold a.toNat == wt fold d.toNat) := by
  have h0 : ¬ wt fold d.toNat < 0 := by unfold wt; split <;> omega
  simp [MN.eats, h0]

set_option maxRecDepth 100000 in
set_option maxHeartbeats 4000000 in
theorem like_self (fold : Bool) (s tl : List UInt8) (ns : List MN) (w : World) (c : UInt8) (h95 : ¬ (c.toNat : Int) = 95) (h37 : ¬ (c.toNat : Int) = 37) (h124 : ¬ (c.toNat : Int) = 124) (hs : s.length ≤ 1000) (hp : tl.length ≤ 1000) (ih : ∀ s' w, s'.length ≤ s.length → Likes s' tl fold (glob fold ns s') w) :
    Likes s (c :: tl) fold (glob fold (.rune c.toNat (wt fold c.toNat) :: ns) s) w := by
  have IH := hid ih
  clear ih
  unfold Likes
  have h0 := at_0 c tl
  have hlp : (c :: tl).length ≤ 2000 := by simp; omega
  cases s with
  | nil =>
    rw [glob_rune_nil]
    go_enter Tryd.func10, Tryd.ntmps10
    go_wp2
    go_quiet (fail)
    go_wp2
    go_ret
    exact ⟨rfl, _, rfl⟩
  | cons a s =>
    rw [glob_rune, eats_self]
    have hne := not_empty a s
    have h0a := at_0 a s
    have hs1 : (1 : Int) ≤ (s.length : Int) + 1 := by omega
    have hp1 : (1 : Int) ≤ (tl.length : Int) + 1 := by omega
    have HSL : Hid (s.length ≤ (a :: s).length) := by show _ ≤ _; simp
    have HSA : Hid (∀ w, Calls Tryd.prog 24 #[U8 a.toNat, .bool fold] w fun e w' => e = .returned (U8 (wt fold a.toNat)) ∧ w' = w) := fun w => small_any _ fold w (by omega) (by have := a.toNat_lt; omega)
    have HSC : Hid (∀ w, Calls Tryd.prog 24 #[U8 c.toNat, .bool fold] w fun e w' => e = .returned (U8 (wt fold c.toNat)) ∧ w' = w) := fun w => small_any _ fold w (by omega) (by have := c.toNat_lt; omega)
    rcases he : (wt fold a.toNat == wt fold c.toNat) with _ | _
    · go_enter Tryd.func10, Tryd.ntmps10
      go_wp2
      go_quiet (first
        | (with_reducible exact Calls.quiet_of_same (HSA.out _))
        | (with_reducible exact Calls.quiet_of_same (HSC.out _)))
      go_wp2
      go_ret
      exact ⟨rfl, _, rfl⟩
    · go_enter Tryd.func10, Tryd.ntmps10
      go_wp2
      go_quiet (first
        | (with_reducible exact Calls.quiet_of_same (HSA.out _))
        | (with_reducible exact Calls.quiet_of_same (HSC.out _))
        | (rw [cut1 a s, cut1 c tl]; exact Calls.quiet_of (IH.out s _ HSL.out)))
      go_wp2
      go_ret
      exact ⟨rfl, _, rfl⟩

theorem at_1 (c d : UInt8) (r : List UInt8) (h : 1 < ({ data := (c :: d :: r).toArray } : ByteArray).size) : ({ data := (c :: d :: r).toArray } : ByteArray)[1] = d := rfl
theorem cut2 (c d : UInt8) (r : List UInt8) : Value.string (ByteArray.extract { data := (c :: d :: r).toArray } 2 (r.length + 1 + 1)) = S r := drop_str (c :: d :: r) 2

set_option maxRecDepth 100000 in
set_option maxHeartbeats 4000000 in
theorem like_esc (fold : Bool) (s r : List UInt8) (ns : List MN) (w : World) (c d : UInt8) (hc : (c.toNat : Int) = 124) (hs : s.length ≤ 1000) (hp : r.length ≤ 1000) (ih : ∀ s' w, s'.length ≤ s.length → Likes s' r fold (glob fold ns s') w) :
    Likes s (c :: d :: r) fold (glob fold (.rune d.toNat (wt fold d.toNat) :: ns) s) w := by
  have IH := hid ih
  clear ih
  unfold Likes
  have h0 := at_0 c (d :: r)
  have h1 := at_1 c d r
  have hlp : (c :: d :: r).length ≤ 2000 := by simp; omega
  have hp1 : (1 : Int) < (r.length : Int) + 1 + 1 := by omega
  have hp2 : (2 : Int) ≤ (r.length : Int) + 1 + 1 := by omega
  have hp3 : 1 < r.length + 1 + 1 := by omega
  cases s with
  | nil =>
    rw [glob_rune_nil]
    go_enter Tryd.func10, Tryd.ntmps10
    go_wp2
    go_quiet (fail)
    go_wp2
    go_ret
    exact ⟨rfl, _, rfl⟩
  | cons a s =>
    rw [glob_rune, eats_self]
    have hne := not_empty a s
    have h0a := at_0 a s
    have hs1 : (1 : Int) ≤ (s.length : Int) + 1 := by omega
    have HSL : Hid (s.length ≤ (a :: s).length) := by show _ ≤ _; simp
    have HSA : Hid (∀ w, Calls Tryd.prog 24 #[U8 a.toNat, .bool fold] w fun e w' => e = .returned (U8 (wt fold a.toNat)) ∧ w' = w) := fun w => small_any _ fold w (by omega) (by have := a.toNat_lt; omega)
    have HSC : Hid (∀ w, Calls Tryd.prog 24 #[U8 d.toNat, .bool fold] w fun e w' => e = .returned (U8 (wt fold d.toNat)) ∧ w' = w) := fun w => small_any _ fold w (by omega) (by have := d.toNat_lt; omega)
    rcases he : (wt fold a.toNat == wt fold d.toNat) with _ | _
    · go_enter Tryd.func10, Tryd.ntmps10
      go_wp2
      go_quiet (first
        | (with_reducible exact Calls.quiet_of_same (HSA.out _))
        | (with_reducible exact Calls.quiet_of_same (HSC.out _)))
      go_wp2
      go_ret
      exact ⟨rfl, _, rfl⟩
    · go_enter Tryd.func10, Tryd.ntmps10
      go_wp2
      go_quiet (first
        | (with_reducible exact Calls.quiet_of_same (HSA.out _))
        | (with_reducible exact Calls.quiet_of_same (HSC.out _))
        | (rw [cut1 a s, cut2 c d r]; exact Calls.quiet_of (IH.out s _ HSL.out)))
      go_wp2
      go_ret
      exact ⟨rfl, _, rfl⟩

set_option maxRecDepth 100000 in
set_option maxHeartbeats 4000000 in
theorem like_star (fold : Bool) (s tl : List UInt8) (ns : List MN) (w : World) (c : UInt8) (hc : (c.toNat : Int) = 37) (hs : s.length ≤ 1000) (hp : tl.length ≤ 1000) (ih : ∀ s' w, s'.length ≤ s.length → Likes s' tl fold (glob fold ns s') w) :
    Likes s (c :: tl) fold (glob fold (.any :: ns) s) w := by
  have IH := hid ih
  clear ih
  unfold Likes
  have h0 := at_0 c tl
  have hlp : (c :: tl).length ≤ 2000 := by simp; omega
  have hp1 : (1 : Int) ≤ (tl.length : Int) + 1 := by omega
  go_enter Tryd.func10, Tryd.ntmps10
  go_wp2
  go_loopw [10] (fun v10 wr => ∃ i : Nat, v10 = I i ∧ i ≤ s.length + 1 ∧ Hid (∀ j, j < i → glob fold ns (s.drop j) = false) ∧ Hid (∃ m, wr = w.drewN m)) (fun v _ => s.length + 1 - (intOf v).toNat)
  case atStart => exact ⟨0, rfl, by omega, fun j h => by omega, 0, rfl⟩
  case round =>
    obtain ⟨i, rfl, hi, hall, hdr⟩ := hrel
    have HDR : Hid (∀ n, ∃ m, wr.drewN n = w.drewN m) := fun n => by
      obtain ⟨m, rfl⟩ := hdr.out
      exact ⟨m + n, by rw [World.drewN_drewN]⟩
    by_cases hlt : i ≤ s.length
    · have hI : (i : Int) ≤ (s.length : Int) := by omega
      have HCALL : Hid (∀ w, Likes (s.drop i) tl fold (glob fold ns (s.drop i)) w) := fun w => IH.out _ w (by simp)
      rcases hg : glob fold ns (s.drop i) with _ | _
      · have HC : Hid (∀ w, Likes (s.drop i) tl fold false w) := by rw [← hg]; exact HCALL.out
        have HG := hid hg
        have HLT := hid hlt
        clear hg hlt
        go_wp2
        go_quiet ((rw [drop_str s i, cut1 c tl]; exact Calls.quiet_of (HC.out _)))
        go_wp2
        go_roundw
        case rel =>
          refine ⟨i + 1, I_nat (by omega), by have := HLT.out; omega, fun j h => ?_, HDR.out _⟩
          by_cases hj : j = i
          · subst hj; exact HG.out
          · exact hall.out j (by omega)
        case measure => simp [intOf]; have := HLT.out; omega
      · have HC : Hid (∀ w, Likes (s.drop i) tl fold true w) := by rw [← hg]; exact HCALL.out
        have hres : glob fold (.any :: ns) s = true := (glob_any _ _ _).2 ⟨i, hlt, hg⟩
        have HR := hid hres
        have HG := hid hg
        clear hg hres hlt
        go_wp2
        go_quiet ((rw [drop_str s i, cut1 c tl]; exact Calls.quiet_of (HC.out _)))
        go_wp2
        rw [HR.out]
        go_ret
        exact ⟨rfl, HDR.out _⟩
    · obtain rfl : i = s.length + 1 := by omega
      have hres : glob fold (.any :: ns) s = false := by
        rw [Bool.eq_false_iff]
        intro h
        obtain ⟨j, hj, hg⟩ := (glob_any _ _ _).1 h
        rw [hall.out j (by omega)] at hg
        cases hg
      have HR := hid hres
      have hd : decide (((s.length + 1 : Nat) : Int) ≤ (s.length : Int)) = false := decide_eq_false (by omega)
      clear hres
      go_wp2
      rw [HR.out]
      go_ret
      exact ⟨rfl, hdr.out⟩

theorem like_any (fold : Bool) (n : Nat) : ∀ (p s : List UInt8) (ns : List MN) (w : World), p.length ≤ n → s.length ≤ 1000 → p.length ≤ 1000 → parse fold p = some ns → Likes s p fold (glob fold ns s) w := by
  induction n with
  | zero =>
    intro p s ns w hn hs hp h
    obtain rfl : p = [] := List.eq_nil_of_length_eq_zero (by omega)
    simp [parse] at h
    subst h
    exact like_nil fold s w
  | succ n ih =>
    intro p s ns w hn hs hp h
    cases p with
    | nil =>
      simp [parse] at h
      subst h
      exact like_nil fold s w
    | cons c tl =>
      simp at hn hp
      by_cases h95 : c = 95
      · subst h95
        obtain ⟨r', rfl, h2⟩ := parse_one h
        exact like_one fold s tl r' w 95 rfl hs (by omega) fun s' w' hs' => ih tl s' r' w' (by omega) (by omega) (by omega) h2
      · by_cases h37 : c = 37
        · subst h37
          obtain ⟨r', rfl, h2⟩ := parse_any h
          exact like_star fold s tl r' w 37 rfl hs (by omega) fun s' w' hs' => ih tl s' r' w' (by omega) (by omega) (by omega) h2
        · by_cases h124 : c = 124
          · subst h124
            obtain ⟨d, r, r', rfl, rfl, h2⟩ := parse_esc h
            simp at hn hp
            exact like_esc fold s r r' w 124 d rfl hs (by omega) fun s' w' hs' => ih r s' r' w' (by omega) (by omega) (by omega) h2
          · obtain ⟨r', rfl, h2⟩ := parse_self h95 h37 h124 h
            have hne : ∀ k : UInt8, ¬ c = k → ¬ (c.toNat : Int) = k.toNat := fun k hk e => hk (by apply UInt8.toNat_inj.1; omega)
            exact like_self fold s tl r' w c (hne 95 h95) (hne 37 h37) (hne 124 h124) hs (by omega) fun s' w' hs' => ih tl s' r' w' (by omega) (by omega) (by omega) h2

end Go.Proofs.YtbfadghogjldcaaDoor

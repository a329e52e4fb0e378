/- The walk of the reference's 'JNDigits'. -/
import Derived.Test.YtbfadghogjldcaaDoorBase
import Derived.Laws.BytesArg
namespace Go.Proofs.YtbfadghogjldcaaDoor
open Go.RowKit

/-- The string of one byte. -/
def oneByte (x : Int) : ByteArray := ⟨#[UInt8.ofNat x.toNat]⟩
theorem oneByte_size (x : Int) : (oneByte x).size = 1 := rfl

theorem conv_at (w w1 : World) (x : Int) (hb : Blk w1 w.heap.size 5 #[.int .u8 x]) :
    (convert 22 9 (.slice (some ⟨w.heap.size, 0, none⟩) 1 1)).run Tryd.prog w1 = .ok (.string (oneByte x)) w1 := by
  have h := run_convert_bytes_arg (P := Tryd.prog) w1 22 5 Tryd.underlying22 Tryd.underlying5 w.heap.size 0 1 1 [x] rfl (by
    intro i hi
    obtain rfl : i = 0 := by omega
    exact hb.cell 0) 9 Tryd.underlying9
  simpa [strOfNums, oneByte] using h
theorem conv_one (w : World) (x : Int) : (convert 22 9 (.slice (some ⟨w.heap.size, 0, none⟩) 1 1)).run Tryd.prog (w.alloc (.cells #[.int .u8 x] 5)) = .ok (.string (oneByte x)) (w.alloc (.cells #[.int .u8 x] 5)) :=
  conv_at w _ x (Blk.new w 5 _)
theorem conv_drew (w : World) (x : Int) : (convert 22 9 (.slice (some ⟨w.heap.size, 0, none⟩) 1 1)).run Tryd.prog (w.alloc (.cells #[.int .u8 x] 5)).drew = .ok (.string (oneByte x)) (w.alloc (.cells #[.int .u8 x] 5)).drew :=
  conv_at w _ x (Blk.new w 5 _).drew
theorem conv_new {w w1 : World} {x : Int} (hg : ((w.alloc (.cells #[.int .u8 x] 5)).drew).grownBy w1 none) :
    (convert 22 9 (.slice (some ⟨w.heap.size, 0, none⟩) 1 1)).run Tryd.prog w1 = .ok (.string (oneByte x)) w1 :=
  conv_at w _ x ((Blk.new w 5 _).drew.grown hg (by simp))

theorem digit_str (n : Int) (h0 : 0 ≤ n) (h9 : n ≤ 9) : S (digits n.toNat) = .string (oneByte (48 + n)) := by
  unfold oneByte
  rw [digits_small (by omega), show (48 + n).toNat = 48 + n.toNat from by omega]

set_option maxHeartbeats 400000 in
theorem digits_small_any (n : Int) (w : World) (h0 : 0 ≤ n) (hn : n ≤ 9) :
    Calls Tryd.prog 32 #[I n] w fun e w' => e = .returned (S (digits n.toNat)) ∧ w.grownBy w' none := by
  have hcv := conv_one w
  go_enter Tryd.func32, Tryd.ntmps32
  go_wp2_with fail
  go_ret
  exact ⟨by rw [digit_str n h0 hn]; rfl, grownBy_alloc (grownBy_refl _ _) _⟩

set_option maxRecDepth 100000 in
set_option maxHeartbeats 400000 in
theorem digits_any (k : Nat) : ∀ (n : Int) (w : World), n.toNat < 10 ^ k → 0 ≤ n → n ≤ 255 →
    Calls Tryd.prog 32 #[I n] w fun e w' => e = .returned (S (digits n.toNat)) ∧ w.grownBy w' none := by
  induction k with
  | zero => intro n w h h0 _; exact digits_small_any n w h0 (by simp at h; omega)
  | succ k ih =>
    intro n w h h0 h255
    by_cases hn : n ≤ 9
    · exact digits_small_any n w h0 hn
    · have hq : IntKind.i64.wrap (n.tdiv 10) = n / 10 := IntWalk.i64_quo _ _ ⟨h0, by omega, by omega⟩
      have hd : Value.string ({ data := (digits (n.toNat / 10)).toArray } ++ oneByte (48 + n % 10)) = S (digits n.toNat) := by
        have e : oneByte (48 + n % 10) = { data := [(48 + n.toNat % 10).toUInt8].toArray } := by
          unfold oneByte
          rw [show (48 + n % 10).toNat = 48 + n.toNat % 10 from by omega]
        rw [e, digits_more (n := n.toNat) (by omega)]
        exact congrArg Value.string (by apply ByteArray.ext; simp)
      have IH : Hid (∀ w, Calls Tryd.prog 32 #[.int .i64 (IntKind.i64.wrap (n.tdiv 10))] w fun e w' => e = .returned (S (digits (n.toNat / 10))) ∧ w.grownBy w' none) := by
        intro w
        have := ih (n / 10) w (by rw [Nat.pow_succ] at h; omega) (by omega) (by omega)
        rw [hq, show n.toNat / 10 = (n / 10).toNat from by omega]
        exact this
      have hl : (digits (n.toNat / 10)).length ≤ 4 := digits_len 3 (n.toNat / 10) (by omega)
      have HD := hid hd
      clear ih h hq hd
      have hcv := conv_one
      have hcv2 := conv_drew
      have hs := oneByte_size
      go_enter Tryd.func32, Tryd.ntmps32
      go_wp2_with fail
      go_region_with (go_at_call 32; refine (IH.out _).mono ?_; rintro e w1 ⟨rfl, hg1⟩; first | (have hc1 := conv_new hg1) | skip)
      all_goals go_wp2_with fail
      all_goals go_ret
      all_goals refine ⟨congrArg Ending.returned HD.out, ?_⟩
      · exact grownBy_alloc (grownBy_of_drew hg1) _
      · exact grownBy_of_alloc (grownBy_of_drew hg1)
      · exact grownBy_of_alloc (grownBy_of_drew hg1)

end Go.Proofs.YtbfadghogjldcaaDoor

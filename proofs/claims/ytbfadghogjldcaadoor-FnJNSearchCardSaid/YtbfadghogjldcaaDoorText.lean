/- The walks of the maker's 'text' and 'pattern'. -/
import Derived.Test.YtbfadghogjldcaaDoorByte
namespace Go.Proofs.YtbfadghogjldcaaDoor
open Go.RowKit

theorem letter_at : ∀ i, i < 12 → (ByteArray.extract { data := #[97, 97, 98, 98, 65, 66, 37, 95, 49, 32, 124, 99] } i 12).extract 0 1 = { data := #[letters.getD i 0] }
  | 0, _ => rfl | 1, _ => rfl | 2, _ => rfl | 3, _ => rfl | 4, _ => rfl | 5, _ => rfl | 6, _ => rfl | 7, _ => rfl | 8, _ => rfl | 9, _ => rfl | 10, _ => rfl | 11, _ => rfl
  | n + 12, h => absurd h (by omega)
theorem letter_str (c : Int) : (ByteArray.extract { data := #[97, 97, 98, 98, 65, 66, 37, 95, 49, 32, 124, 99] } (c % 12).toNat 12).extract 0 1 = { data := #[letter c] } :=
  letter_at _ (by omega)
set_option maxHeartbeats 400000 in
theorem text_any (w : World) (g : Nat) (code : List UInt8) (left : Int) (h : MadeAt w g code left) :
    Calls Tryd.prog 7 #[.pointer (some ⟨g, 0, none⟩)] w fun e w' => e = .returned (S (textOf code)) ∧ MadeAt w' g (textRest code) left ∧ w.grownBy w' (some g) := by
  have h1 := hd_0 code
  have h2 := hd_255 code
  go_enter Tryd.func7, Tryd.ntmps7
  go_wp2_with (go_at_call 17; refine (byte_any _ _ _ _ h).mono ?_; rintro e w1 ⟨rfl, hm1, hg1⟩)
  go_loopw [3, 4] (fun out n wr => ∃ (k : Nat) (code' acc : List UInt8), n = I k ∧ out = S acc ∧ acc.length + k ≤ 5 ∧ acc ++ mkText k code' = textOf code ∧ code'.drop k = textRest code ∧ MadeAt wr g code' left ∧ w.grownBy wr (some g)) (fun _ n _ => (intOf n).toNat)
  case atStart =>
    refine ⟨textN code, code.tail, [], ?_, rfl, ?_, rfl, ?_, hm1, hg1⟩
    · unfold textN; congr 1; omega
    · unfold textN; simp; omega
    · unfold textRest; simp
  case round =>
    obtain ⟨k, code', acc, rfl, rfl, hk, hacc, hdrop, hmr, hgr⟩ := hrel
    have h1' := hd_0 code'
    have h2' := hd_255 code'
    have HA := hid hacc
    have HD := hid hdrop
    clear hacc hdrop
    have ha5 : acc.length ≤ 5 := by omega
    have hk5 : k ≤ 5 := by omega
    have HK := hid hk
    clear hk
    by_cases hk0 : k = 0
    · subst hk0
      go_wp2_with fail
      go_ret
      have e1 := HA.out
      have e2 := HD.out
      simp only [mkText, List.append_nil] at e1
      simp only [List.drop_zero] at e2
      subst e1
      rw [e2] at hmr
      exact ⟨rfl, hmr, hgr⟩
    · obtain ⟨j, rfl⟩ : ∃ j, k = j + 1 := ⟨k - 1, by omega⟩
      have hpos : (0 : Int) < ((j + 1 : Nat) : Int) := by omega
      go_wp2_with (go_at_call 17; refine (byte_any _ _ _ _ hmr).mono ?_; rintro e w2 ⟨rfl, hm2, hg2⟩)
      go_roundw
      case rel =>
        refine ⟨j, code'.tail, acc ++ [letter (hd code')], I_nat (by omega), ?_, ?_, ?_, ?_, hm2, grownBy_trans hgr hg2⟩
        · rw [letter_str]; exact congrArg Value.string (S_app acc [letter (hd code')])
        · have := HK.out; simp; omega
        · have := HA.out; simpa [mkText] using this
        · have := HD.out; simpa using this
      case measure => simp [intOf]

def partsBlock : Obj := .cells #[Value.string { data := #[37] }, Value.string { data := #[95] }, Value.string { data := #[97] },
        Value.string { data := #[98] }, Value.string { data := #[65] }, Value.string { data := #[124, 37] },
        Value.string { data := #[124, 95] }, Value.string { data := #[124, 97] }, Value.string { data := #[124, 124] },
        Value.string { data := #[66] }, Value.string { data := #[49] }] 9
theorem part_at : ∀ i, i < 11 → (#[Value.string { data := #[37] }, Value.string { data := #[95] }, Value.string { data := #[97] },
        Value.string { data := #[98] }, Value.string { data := #[65] }, Value.string { data := #[124, 37] },
        Value.string { data := #[124, 95] }, Value.string { data := #[124, 97] }, Value.string { data := #[124, 124] },
        Value.string { data := #[66] }, Value.string { data := #[49] }] : Array Value)[i]? = some (S (parts.getD i []))
  | 0, _ => rfl | 1, _ => rfl | 2, _ => rfl | 3, _ => rfl | 4, _ => rfl | 5, _ => rfl | 6, _ => rfl | 7, _ => rfl | 8, _ => rfl | 9, _ => rfl | 10, _ => rfl
  | n + 11, h => absurd h (by omega)
theorem parts_len : ∀ i, (parts.getD i []).length ≤ 2
  | 0 => by decide | 1 => by decide | 2 => by decide | 3 => by decide | 4 => by decide | 5 => by decide | 6 => by decide | 7 => by decide | 8 => by decide | 9 => by decide | 10 => by decide
  | n + 11 => by simp [parts]
theorem part_len (c : Int) : (part c).length ≤ 2 := parts_len _

set_option maxHeartbeats 400000 in
theorem pattern_any (w : World) (g : Nat) (code : List UInt8) (left : Int) (h : MadeAt w g code left) :
    Calls Tryd.prog 8 #[.pointer (some ⟨g, 0, none⟩)] w fun e w' => e = .returned (S (patOf code)) ∧ MadeAt w' g (patRest code) left ∧ w.grownBy w' (some g) := by
  have h1 := hd_0 code
  have h2 := hd_255 code
  go_enter Tryd.func8, Tryd.ntmps8
  go_wp2_with (go_at_call 17; refine (byte_any _ _ _ _ h).mono ?_; rintro e w1 ⟨rfl, hm1, hg1⟩)
  go_loopw [3, 4] (fun out n wr => ∃ (k : Nat) (code' acc : List UInt8), n = I k ∧ out = S acc ∧ acc.length + 2 * k ≤ 12 ∧ acc ++ mkPat k code' = patOf code ∧ code'.drop k = patRest code ∧ MadeAt wr g code' left ∧ w.grownBy wr (some g)) (fun _ n _ => (intOf n).toNat)
  case atStart =>
    refine ⟨patN code, code.tail, [], ?_, rfl, ?_, rfl, ?_, hm1, hg1⟩
    · unfold patN; congr 1; omega
    · unfold patN; simp; omega
    · unfold patRest; simp
  case round =>
    obtain ⟨k, code', acc, rfl, rfl, hk, hacc, hdrop, hmr, hgr⟩ := hrel
    have h1' := hd_0 code'
    have h2' := hd_255 code'
    have HA := hid hacc
    have HD := hid hdrop
    clear hacc hdrop
    have ha5 : acc.length ≤ 12 := by omega
    have hk5 : k ≤ 6 := by omega
    have HK := hid hk
    clear hk
    by_cases hk0 : k = 0
    · subst hk0
      go_wp2_with fail
      go_ret
      have e1 := HA.out
      have e2 := HD.out
      simp only [mkPat, List.append_nil] at e1
      simp only [List.drop_zero] at e2
      subst e1
      rw [e2] at hmr
      exact ⟨rfl, hmr, hgr⟩
    · obtain ⟨j, rfl⟩ : ∃ j, k = j + 1 := ⟨k - 1, by omega⟩
      have hpos : (0 : Int) < ((j + 1 : Nat) : Int) := by omega
      have hcell : ∀ w2 : World, (wr.alloc partsBlock).grownBy w2 (some g) → w2.cell? ⟨wr.heap.size, (hd code' % 11).toNat, none⟩ = some (S (part (hd code'))) := by
        intro w2 hg2
        refine hg2.cell ?_ ?_
        · exact ((Blk.new wr 9 _).cell _).trans (part_at _ (by omega))
        · intro e; injection e with e; have := hmr.lt; simp at e; omega
      have HC := hid hcell
      clear hcell
      have hlen := part_len (hd code')
      go_wp2_with fail
      refine (byte_any _ _ _ _ (hmr.alloc _)).mono ?_
      rintro e w2 ⟨rfl, hm2, hg2⟩
      have hc2 := HC.out w2 hg2
      go_wp2_with fail
      go_roundw
      case rel =>
        refine ⟨j, code'.tail, acc ++ part (hd code'), I_nat (by omega), ?_, ?_, ?_, ?_, hm2, grownBy_trans (grownBy_alloc hgr _) hg2⟩
        · exact congrArg Value.string (S_app acc (part (hd code')))
        · have := HK.out; simp; omega
        · have := HA.out; simpa [mkPat] using this
        · have := HD.out; simpa using this
      case measure => simp [intOf]

end Go.Proofs.YtbfadghogjldcaaDoor

/- The walk of 'jsonSearch': texts and lists. -/
import Derived.Test.YtbfadghogjldcaaDoorMatch
import Derived.Test.YtbfadghogjldcaaDoorFound
import Derived.Test.YtbfadghogjldcaaDoorValue
import Derived.Test.YtbfadghogjldcaaDoorShelf
namespace Go.Proofs.YtbfadghogjldcaaDoor
open Go.RowKit
set_option linter.unusedVariables false
set_option linter.unusedSimpArgs false

/-- Block g holds the matcher of the parts ns. -/
def MatAt (w : World) (g : Nat) (fold : Bool) (ns : List MN) : Prop :=
  ∃ A c, Blk w g 60 #[.slice A ns.length c, col fold, R 124] ∧ Reads w (· < w.heap.size) 1 A ns.length (ns.map MN.val)
theorem MatAt.below {w w' : World} {g : Nat} {fold : Bool} {ns : List MN} (h : MatAt w g fold ns) (hb : Below w.heap.size w w') : MatAt w' g fold ns := by
  obtain ⟨A, c, h1, h2⟩ := h
  exact ⟨A, c, h1.below hb h1.lt, (h2.keep fun p hp => hb.cell hp).more fun b h => Nat.lt_of_lt_of_le h hb.size⟩

theorem own_base {w : World} {b b' : Nat} {e : TypeId} {sz n : Nat} {v : Value} {xs : List Value} (h : w.ownsRow b e sz v n xs) (hb : b' ≤ b) : w.ownsRow b' e sz v n xs := by
  refine ⟨h.1, ?_⟩
  rcases h.2 with h | ⟨g, cap, cur, h1, h2, h3⟩
  · exact .inl h
  · exact .inr ⟨g, cap, cur, h1, Nat.le_trans hb h2, h3⟩

/-- What 'jsonSearch' leaves. -/
def SeaPost (w : World) (once : Bool) (F : List (List UInt8)) (e : Ending) (w' : World) : Prop :=
  ∃ (L : List (List UInt8)) (A : Option Addr) (c : Nat) (stop : Bool), e = .returned (.tuple #[.slice A L.length c, .bool stop]) ∧ Told once L stop F ∧
    w'.ownsRow w.heap.size 9 1 (.slice A L.length c) L.length (L.map S) ∧ Below w.heap.size w w'

theorem SeaPost.none_ {w w' : World} {once : Bool} {F : List (List UInt8)} (hF : F = []) (hb : Below w.heap.size w w') : SeaPost w once F (.returned (.tuple #[.slice none 0 0, .bool false])) w' := by
  subst hF
  exact ⟨[], none, 0, false, rfl, .inl ⟨rfl, Mid.nil once⟩, World.ownsRow_nil _ _ _ _, hb⟩

theorem as_str_9 (b : ByteArray) (w : World) : (Instr.typeAssert (.iface 9 (.string b)) 20 9 true).run Tryd.prog w = .ok (.tuple #[.string b, .bool true]) w := by kernel_rfl
theorem as_num_9  (w : World) : (Instr.typeAssert (.iface 65 (.float .f64 4607182418800017408)) 20 9 true).run Tryd.prog w = .ok (.tuple #[.string ⟨#[]⟩, .bool false]) w := by kernel_rfl
theorem as_num_66  (w : World) : (Instr.typeAssert (.iface 65 (.float .f64 4607182418800017408)) 20 66 true).run Tryd.prog w = .ok (.tuple #[.slice none 0 0, .bool false]) w := by kernel_rfl
theorem as_num_67  (w : World) : (Instr.typeAssert (.iface 65 (.float .f64 4607182418800017408)) 20 67 true).run Tryd.prog w = .ok (.tuple #[.map none, .bool false]) w := by kernel_rfl
theorem as_bool_9  (w : World) : (Instr.typeAssert (.iface 4 (.bool true)) 20 9 true).run Tryd.prog w = .ok (.tuple #[.string ⟨#[]⟩, .bool false]) w := by kernel_rfl
theorem as_bool_66  (w : World) : (Instr.typeAssert (.iface 4 (.bool true)) 20 66 true).run Tryd.prog w = .ok (.tuple #[.slice none 0 0, .bool false]) w := by kernel_rfl
theorem as_bool_67  (w : World) : (Instr.typeAssert (.iface 4 (.bool true)) 20 67 true).run Tryd.prog w = .ok (.tuple #[.map none, .bool false]) w := by kernel_rfl
theorem as_nil_9  (w : World) : (Instr.typeAssert (.nilIface) 20 9 true).run Tryd.prog w = .ok (.tuple #[.string ⟨#[]⟩, .bool false]) w := by kernel_rfl
theorem as_nil_66  (w : World) : (Instr.typeAssert (.nilIface) 20 66 true).run Tryd.prog w = .ok (.tuple #[.slice none 0 0, .bool false]) w := by kernel_rfl
theorem as_nil_67  (w : World) : (Instr.typeAssert (.nilIface) 20 67 true).run Tryd.prog w = .ok (.tuple #[.map none, .bool false]) w := by kernel_rfl
theorem as_arr_9 (A : Option Addr) (n c : Nat) (w : World) : (Instr.typeAssert (.iface 66 (.slice A n c)) 20 9 true).run Tryd.prog w = .ok (.tuple #[.string ⟨#[]⟩, .bool false]) w := by kernel_rfl
theorem as_arr_66 (A : Option Addr) (n c : Nat) (w : World) : (Instr.typeAssert (.iface 66 (.slice A n c)) 20 66 true).run Tryd.prog w = .ok (.tuple #[.slice A n c, .bool true]) w := by kernel_rfl
theorem as_map_9 (r : Nat) (w : World) : (Instr.typeAssert (.iface 67 (.map (some r))) 20 9 true).run Tryd.prog w = .ok (.tuple #[.string ⟨#[]⟩, .bool false]) w := by kernel_rfl
theorem as_map_66 (r : Nat) (w : World) : (Instr.typeAssert (.iface 67 (.map (some r))) 20 66 true).run Tryd.prog w = .ok (.tuple #[.slice none 0 0, .bool false]) w := by kernel_rfl
theorem as_map_67 (r : Nat) (w : World) : (Instr.typeAssert (.iface 67 (.map (some r))) 20 67 true).run Tryd.prog w = .ok (.tuple #[.map (some r), .bool true]) w := by kernel_rfl

set_option maxRecDepth 100000 in
set_option maxHeartbeats 4000000 in
theorem sea_text (fold once : Bool) (ns : List MN) (s p : List UInt8) (g : Nat) (w : World) (hn : ns.length ≤ 1000) (hs : s.length ≤ 1000) (hb : ∀ c ∈ s, c.toNat < 128) (hm : MatAt w g fold ns) :
    Calls Tryd.prog 30 #[.iface 9 (S s), .pointer (some ⟨g, 0, none⟩), S p, .bool once] w (SeaPost w once (found (glob fold ns) (.leaf 3 s) p)) := by
  obtain ⟨A, c, hbk, hr⟩ := hm
  have hb0 := hbk.cell 0
  have hb1 := hbk.cell 1
  have hb2 := hbk.cell 2
  simp at hb0 hb1 hb2
  have HR := hid hr
  have HB := hid hb
  have HN := hid hn
  have HS := hid hs
  have HG := hid hbk.lt
  clear hr hb hn hs hbk
  have h9 := as_str_9
  go_enter Tryd.func30, Tryd.ntmps30
  go_wp2_with fail
  refine (match_walk fold ns s A c _ _ HR.out (fun b h => h) HN.out HS.out HB.out).mono ?_
  rintro e w3 ⟨rfl, hb3⟩
  have HB3 := hid hb3
  clear hb3
  rcases hg : glob fold ns s with _ | _
  · have HF : Hid (found (glob fold ns) (.leaf 3 s) p = []) := by
      show found _ _ _ = _
      simp [found, hg]
    clear hg
    go_wp2_with fail
    go_ret2
    exact SeaPost.none_ HF.out HB3.out
  · have HF : Hid (found (glob fold ns) (.leaf 3 s) p = [p]) := by
      show found _ _ _ = _
      simp [found, hg]
    clear hg
    have HFIN : Hid (SeaPost w once (found (glob fold ns) (.leaf 3 s) p) (.returned (.tuple #[.slice (some ⟨w3.heap.size, 0, none⟩) 1 1, .bool once])) (w3.alloc (.cells #[S p] 9))) := by
      refine ⟨[p], _, 1, once, rfl, ?_, ?_, ?_⟩
      · rw [HF.out]
        cases once with
        | false => exact .inl ⟨rfl, by simp [Mid]⟩
        | true => exact .inr ⟨rfl, rfl, p, by simp, rfl⟩
      · exact ⟨rfl, .inr ⟨w3.heap.size, 1, #[S p], rfl, HB3.out.size, Blk.new w3 9 #[S p], Nat.le_refl _, by decide, rfl, rfl⟩⟩
      · exact HB3.out.alloc HB3.out.size _
    go_wp2_with fail
    go_ret2
    exact HFIN.out

set_option maxRecDepth 100000 in
set_option maxHeartbeats 4000000 in
theorem sea_leaf (fold once : Bool) (ns : List MN) (k : Nat) (s p : List UInt8) (g : Nat) (w : World) (hk : k ≤ 3) (hn : ns.length ≤ 1000) (hs : s.length ≤ 1000) (hb : ∀ c ∈ s, c.toNat < 128) (hm : MatAt w g fold ns) (v : Value) (P : Nat → Prop) (hv : IfV w P (.leaf k s) v) :
    Calls Tryd.prog 30 #[v, .pointer (some ⟨g, 0, none⟩), S p, .bool once] w (SeaPost w once (found (glob fold ns) (.leaf k s) p)) := by
  have hv : v = _ := hv
  have hr : Below w.heap.size w w := Below.refl _ _
  match k, hk with
  | 0, _ =>
    have HF : Hid (found (glob fold ns) (.leaf 0 s) p = []) := by show found _ _ _ = _; simp [found]
    simp at hv
    subst hv
    clear hb
    have has_nil_9 := as_nil_9
    have has_nil_66 := as_nil_66
    have has_nil_67 := as_nil_67
    go_enter Tryd.func30, Tryd.ntmps30
    go_wp2_with fail
    go_ret2
    exact SeaPost.none_ HF.out hr
  | 1, _ =>
    have HF : Hid (found (glob fold ns) (.leaf 1 s) p = []) := by show found _ _ _ = _; simp [found]
    simp at hv
    subst hv
    clear hb
    have has_bool_9 := as_bool_9
    have has_bool_66 := as_bool_66
    have has_bool_67 := as_bool_67
    go_enter Tryd.func30, Tryd.ntmps30
    go_wp2_with fail
    go_ret2
    exact SeaPost.none_ HF.out hr
  | 2, _ =>
    have HF : Hid (found (glob fold ns) (.leaf 2 s) p = []) := by show found _ _ _ = _; simp [found]
    simp at hv
    subst hv
    clear hb
    have has_num_9 := as_num_9
    have has_num_66 := as_num_66
    have has_num_67 := as_num_67
    go_enter Tryd.func30, Tryd.ntmps30
    go_wp2_with fail
    go_ret2
    exact SeaPost.none_ HF.out hr
  | 3, _ =>
    simp at hv
    subst hv
    exact sea_text fold once ns s p g w hn hs hb hm

end Go.Proofs.YtbfadghogjldcaaDoor

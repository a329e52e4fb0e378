/- The walk of 'value': a JN as an interface value. -/
import Derived.Test.YtbfadghogjldcaaDoorTree
import Derived.Test.YtbfadghogjldcaaDoorAppend
import Derived.Maps.RangeRun
import Derived.MapKept
namespace Go.Proofs.YtbfadghogjldcaaDoor
open Go.RowKit
set_option linter.unusedVariables false
set_option linter.unusedSimpArgs false

/-- The entries of a map, in the order in which they came. -/
def entries : Nat → List (List UInt8) → List Value → List MapEntry
  | n, k :: ks, v :: vs => { key := S k, val := v, born := n } :: entries (n + 1) ks vs
  | _, _, _ => []

mutual
/-- An interface value reads as a JSON value; all that it leads to lies in blocks of P. -/
def IfV (w : World) (P : Nat → Prop) : JT → Value → Prop
  | .leaf k s, v => v = (if k = 3 then .iface 9 (S s) else if k = 2 then .iface 65 (.float .f64 4607182418800017408) else if k = 1 then .iface 4 (.bool true) else .nilIface)
  | .arr items, v => ∃ A c vs, v = .iface 66 (.slice A items.length c) ∧ Row w P 1 A items.length vs ∧ IfVs w P items vs
  | .obj names items, v => ∃ r vs, v = .iface 67 (.map (some r)) ∧ P r ∧ w.heap[r]? = some (.map (entries 0 names vs).toArray names.length) ∧ IfVs w P items vs
def IfVs (w : World) (P : Nat → Prop) : List JT → List Value → Prop
  | [], vs => vs = []
  | t :: ts, vs => ∃ v r, vs = v :: r ∧ IfV w P t v ∧ IfVs w P ts r
end

mutual
theorem IfV.keep {w w' : World} {P P' : Nat → Prop} (hB : ∀ b, P b → P' b) (hk : ∀ b, P b → w'.heap[b]? = w.heap[b]?) : ∀ (t : JT) (v : Value), IfV w P t v → IfV w' P' t v
  | .leaf k s, cs, h => h
  | .arr items, v, ⟨A, c, xs, h1, h2, h3⟩ => ⟨A, c, xs, h1, (h2.keep hk).more hB, IfVs.keep hB hk items xs h3⟩
  | .obj names items, v, ⟨r, xs, h1, h2, h3, h4⟩ => ⟨r, xs, h1, hB _ h2, (hk _ h2).trans h3, IfVs.keep hB hk items xs h4⟩
theorem IfVs.keep {w w' : World} {P P' : Nat → Prop} (hB : ∀ b, P b → P' b) (hk : ∀ b, P b → w'.heap[b]? = w.heap[b]?) : ∀ (ts : List JT) (xs : List Value), IfVs w P ts xs → IfVs w' P' ts xs
  | [], xs, h => h
  | t :: ts, xs, ⟨c, r, h1, h2, h3⟩ => ⟨c, r, h1, IfV.keep hB hk t c h2, IfVs.keep hB hk ts r h3⟩
end

theorem IfVs.snoc {w : World} {P : Nat → Prop} {t : JT} {v : Value} (ht : IfV w P t v) : ∀ (ts : List JT) (xs : List Value), IfVs w P ts xs → IfVs w P (ts ++ [t]) (xs ++ [v])
  | [], xs, h => by
    obtain rfl : xs = [] := h
    exact ⟨v, [], rfl, ht, rfl⟩
  | t' :: ts, xs, ⟨c', r, h1, h2, h3⟩ => by
    subst h1
    exact ⟨c', r ++ [v], rfl, h2, IfVs.snoc ht ts r h3⟩

theorem IfV.one {w : World} {P : Nat → Prop} {t : JT} {v : Value} (h : IfV w P t v) : v.oneCell' = true := by
  cases t with
  | leaf k s =>
    simp only [IfV] at h
    subst h
    split
    · rfl
    · split
      · rfl
      · split <;> rfl
  | arr items => obtain ⟨A, c, xs, rfl, _⟩ := h; rfl
  | obj names items => obtain ⟨r, xs, rfl, _⟩ := h; rfl

theorem IfV.form {w : World} {P : Nat → Prop} {t : JT} {v : Value} (h : IfV w P t v) : (∃ u x, v = .iface u x) ∨ v = .nilIface := by
  cases t with
  | leaf k s =>
    simp only [IfV] at h
    subst h
    split
    · exact .inl ⟨_, _, rfl⟩
    · split
      · exact .inl ⟨_, _, rfl⟩
      · split
        · exact .inl ⟨_, _, rfl⟩
        · exact .inr rfl
  | arr items => obtain ⟨A, c, xs, rfl, _⟩ := h; exact .inl ⟨_, _, rfl⟩
  | obj names items => obtain ⟨r, xs, rfl, _⟩ := h; exact .inl ⟨_, _, rfl⟩

/-- What 'value' leaves. -/
def ValPost (w : World) (t : JT) (e : Ending) (w' : World) : Prop :=
  ∃ v : Value, e = .returned v ∧ IfV w' (fun b => w.heap.size ≤ b ∧ b < w'.heap.size) t v ∧ Below w.heap.size w w'

set_option maxRecDepth 100000 in
set_option maxHeartbeats 1000000 in
theorem value_leaf (w : World) (k : Nat) (s : List UInt8) (hk : k ≤ 3) :
    Calls Tryd.prog 22 #[.agg #[I k, S s, .slice none 0 0, .slice none 0 0]] w (ValPost w (.leaf k s)) := by
  have hb : ∀ cs : Array Value, Below w.heap.size w (w.alloc (.cells cs 30)) := fun cs => (Below.refl _ _).alloc (Nat.le_refl _) _
  have HB := hid hb
  clear hb
  match k, hk with
  | 0, _ =>
    go_enter Tryd.func22, Tryd.ntmps22
    go_wp2_with fail
    go_ret
    exact ⟨_, rfl, rfl, HB.out _⟩
  | 1, _ =>
    go_enter Tryd.func22, Tryd.ntmps22
    go_wp2_with fail
    go_ret
    exact ⟨_, rfl, rfl, HB.out _⟩
  | 2, _ =>
    go_enter Tryd.func22, Tryd.ntmps22
    go_wp2_with fail
    go_ret
    exact ⟨_, rfl, rfl, HB.out _⟩
  | 3, _ =>
    go_enter Tryd.func22, Tryd.ntmps22
    go_wp2_with fail
    go_ret
    exact ⟨_, rfl, rfl, HB.out _⟩

end Go.Proofs.YtbfadghogjldcaaDoor

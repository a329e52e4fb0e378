/- The texts of a value and their paths: in plain Lean, and the walk of 'JNTexts'. -/
import Derived.Test.YtbfadghogjldcaaDoorAwake
import Derived.Test.YtbfadghogjldcaaDoorDigits
namespace Go.Proofs.YtbfadghogjldcaaDoor
open Go.RowKit
set_option linter.unusedVariables false
set_option linter.unusedSimpArgs false

mutual
/-- The paths of the texts, and the texts. -/
def texts : JT → Txt → List (Txt × Txt)
  | .leaf k s, p => if k = 3 then [(p, s)] else []
  | .arr items, p => textsA items p 0
  | .obj names items, p => textsO items names p
def textsA : List JT → Txt → Nat → List (Txt × Txt)
  | [], p, i => []
  | t :: ts, p, i => texts t (stepA p i) ++ textsA ts p (i + 1)
def textsO : List JT → List Txt → Txt → List (Txt × Txt)
  | [], ns, p => []
  | t :: ts, [], p => []
  | t :: ts, n :: ns, p => texts t (stepO p n) ++ textsO ts ns p
end

mutual
theorem found_texts (f : Txt → Bool) : ∀ (t : JT) (p : Txt), found f t p = ((texts t p).filter fun x => f x.2).map Prod.fst
  | .leaf k s, p => by
    simp only [found, texts]
    by_cases hk : k = 3 <;> by_cases hf : f s = true <;> simp [hk, hf]
  | .arr items, p => by simp only [found, texts]; exact foundA_texts f items p 0
  | .obj names items, p => by simp only [found, texts]; exact foundO_texts f items names p
theorem foundA_texts (f : Txt → Bool) : ∀ (ts : List JT) (p : Txt) (i : Nat), foundA f ts p i = ((textsA ts p i).filter fun x => f x.2).map Prod.fst
  | [], p, i => by simp [foundA, textsA]
  | t :: ts, p, i => by simp only [foundA, textsA, List.filter_append, List.map_append]; rw [found_texts f t, foundA_texts f ts]
theorem foundO_texts (f : Txt → Bool) : ∀ (ts : List JT) (ns : List Txt) (p : Txt), foundO f ts ns p = ((textsO ts ns p).filter fun x => f x.2).map Prod.fst
  | [], ns, p => by simp [foundO, textsO]
  | t :: ts, [], p => by simp [foundO, textsO]
  | t :: ts, n :: ns, p => by simp only [foundO, textsO, List.filter_append, List.map_append]; rw [found_texts f t, foundO_texts f ts]
end

mutual
theorem texts_len : ∀ (t : JT) (p : Txt), (texts t p).length ≤ t.leaves
  | .leaf k s, p => by simp only [texts, JT.leaves]; split <;> simp
  | .arr items, p => by simp only [texts, JT.leaves]; exact textsA_len items p 0
  | .obj names items, p => by simp only [texts, JT.leaves]; exact textsO_len items names p
theorem textsA_len : ∀ (ts : List JT) (p : Txt) (i : Nat), (textsA ts p i).length ≤ JT.leavess ts
  | [], p, i => by simp [textsA]
  | t :: ts, p, i => by
    simp only [textsA, JT.leavess, List.length_append]
    have := texts_len t (stepA p i)
    have := textsA_len ts p (i + 1)
    omega
theorem textsO_len : ∀ (ts : List JT) (ns : List Txt) (p : Txt), (textsO ts ns p).length ≤ JT.leavess ts
  | [], ns, p => by simp [textsO]
  | t :: ts, [], p => by simp [textsO]
  | t :: ts, n :: ns, p => by
    simp only [textsO, JT.leavess, List.length_append]
    have := texts_len t (stepO p n)
    have := textsO_len ts ns p
    omega
end

theorem textsA_snoc (t : JT) (p : Txt) : ∀ (ts : List JT) (i : Nat), textsA (ts ++ [t]) p i = textsA ts p i ++ texts t (stepA p (i + ts.length))
  | [], i => by simp [textsA]
  | t' :: ts, i => by
    simp only [List.cons_append, textsA, textsA_snoc t p ts (i + 1), List.append_assoc, List.length_cons]
    rw [show i + 1 + ts.length = i + (ts.length + 1) by omega]
theorem textsO_snoc (t : JT) (n : Txt) (p : Txt) : ∀ (ts : List JT) (ns : List Txt), ts.length = ns.length → textsO (ts ++ [t]) (ns ++ [n]) p = textsO ts ns p ++ texts t (stepO p n)
  | [], [], _ => by simp [textsO]
  | t' :: ts, n' :: ns, h => by
    simp only [List.cons_append, textsO, textsO_snoc t n p ts ns (by simpa using h), List.append_assoc]
  | [], n' :: ns, h => by simp at h
  | t' :: ts, [], h => by simp at h

def fsts (F : List (Txt × Txt)) : List Value := F.map fun x => S x.1
def snds (F : List (Txt × Txt)) : List Value := F.map fun x => S x.2

/-- Two slices of the call's own that hold the paths and the texts. -/
def Two (w : World) (base : Nat) (F : List (Txt × Txt)) (v1 v2 : Value) : Prop :=
  ∃ (A1 A2 : Option Addr) (c1 c2 : Nat), v1 = .slice A1 F.length c1 ∧ v2 = .slice A2 F.length c2 ∧ w.ownsRow base 9 1 (.slice A1 F.length c1) F.length (fsts F) ∧ w.ownsRow base 9 1 (.slice A2 F.length c2) F.length (snds F) ∧
    (Value.ownBlock (.slice A1 F.length c1) = none ∨ Value.ownBlock (.slice A1 F.length c1) ≠ Value.ownBlock (.slice A2 F.length c2))

/-- What 'JNTexts' leaves. -/
def TexPost (w : World) (F : List (Txt × Txt)) (e : Ending) (w' : World) : Prop :=
  ∃ v1 v2, e = .returned (.tuple #[v1, v2]) ∧ Two w' w.heap.size F v1 v2 ∧ Below w.heap.size w w'

theorem Two.nil (w : World) (base : Nat) : Two w base [] (.slice none 0 0) (.slice none 0 0) :=
  ⟨none, none, 0, 0, rfl, rfl, World.ownsRow_nil _ _ _ _, World.ownsRow_nil _ _ _ _, .inl rfl⟩
theorem Two.base {w : World} {b b' : Nat} {F : List (Txt × Txt)} {v1 v2 : Value} (h : Two w b F v1 v2) (hb : b' ≤ b) : Two w b' F v1 v2 := by
  obtain ⟨A1, A2, c1, c2, h1, h2, h3, h4, h5⟩ := h
  exact ⟨A1, A2, c1, c2, h1, h2, own_base h3 hb, own_base h4 hb, h5⟩

end Go.Proofs.YtbfadghogjldcaaDoor

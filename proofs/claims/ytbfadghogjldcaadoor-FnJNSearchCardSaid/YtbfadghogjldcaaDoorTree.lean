/- How a JSON value of the thin package lies in memory. -/
import Derived.Test.YtbfadghogjldcaaDoorBase
namespace Go.Proofs.YtbfadghogjldcaaDoor
open Go.RowKit
set_option linter.unusedVariables false
set_option linter.unusedSimpArgs false

mutual
/-- The four cells of a JN read as a value; all that they lead to lies in blocks of P. -/
def JNC (w : World) (P : Nat → Prop) : JT → List Value → Prop
  | .leaf k s, cs => k ≤ 3 ∧ cs = [I k, S s, .slice none 0 0, .slice none 0 0]
  | .arr items, cs => ∃ A c xs, cs = [I 4, S [], .slice none 0 0, .slice A items.length c] ∧ Row w P 4 A items.length xs ∧ JNCs w P items xs
  | .obj names items, cs => ∃ A c A' c' xs, cs = [I 5, S [], .slice A' names.length c', .slice A items.length c] ∧ Row w P 1 A' names.length (names.map S) ∧ Row w P 4 A items.length xs ∧ JNCs w P items xs
def JNCs (w : World) (P : Nat → Prop) : List JT → List Value → Prop
  | [], xs => xs = []
  | t :: ts, xs => ∃ c r, xs = c ++ r ∧ JNC w P t c ∧ JNCs w P ts r
end

theorem JNC.len {w : World} {P : Nat → Prop} {t : JT} {cs : List Value} (h : JNC w P t cs) : cs.length = 4 := by
  cases t with
  | leaf k s => obtain ⟨_, rfl⟩ := h; rfl
  | arr items => obtain ⟨A, c, xs, rfl, _⟩ := h; rfl
  | obj names items => obtain ⟨A, c, A', c', xs, rfl, _⟩ := h; rfl

mutual
theorem JNC.keep {w w' : World} {P P' : Nat → Prop} (hB : ∀ b, P b → P' b) (hk : ∀ b, P b → w'.heap[b]? = w.heap[b]?) : ∀ (t : JT) (cs : List Value), JNC w P t cs → JNC w' P' t cs
  | .leaf k s, cs, h => h
  | .arr items, cs, ⟨A, c, xs, h1, h2, h3⟩ => ⟨A, c, xs, h1, (h2.keep hk).more hB, JNCs.keep hB hk items xs h3⟩
  | .obj names items, cs, ⟨A, c, A', c', xs, h1, h2, h3, h4⟩ => ⟨A, c, A', c', xs, h1, (h2.keep hk).more hB, (h3.keep hk).more hB, JNCs.keep hB hk items xs h4⟩
theorem JNCs.keep {w w' : World} {P P' : Nat → Prop} (hB : ∀ b, P b → P' b) (hk : ∀ b, P b → w'.heap[b]? = w.heap[b]?) : ∀ (ts : List JT) (xs : List Value), JNCs w P ts xs → JNCs w' P' ts xs
  | [], xs, h => h
  | t :: ts, xs, ⟨c, r, h1, h2, h3⟩ => ⟨c, r, h1, JNC.keep hB hk t c h2, JNCs.keep hB hk ts r h3⟩
end

theorem JNCs.snoc {w : World} {P : Nat → Prop} {t : JT} {c : List Value} (ht : JNC w P t c) : ∀ (ts : List JT) (xs : List Value), JNCs w P ts xs → JNCs w P (ts ++ [t]) (xs ++ c)
  | [], xs, h => by
    obtain rfl : xs = [] := h
    exact ⟨c, [], by simp, ht, rfl⟩
  | t' :: ts, xs, ⟨c', r, h1, h2, h3⟩ => by
    subst h1
    exact ⟨c', r ++ c, by simp, h2, JNCs.snoc ht ts r h3⟩

theorem JNCs.len {w : World} {P : Nat → Prop} : ∀ (ts : List JT) (xs : List Value), JNCs w P ts xs → xs.length = ts.length * 4
  | [], xs, h => by obtain rfl : xs = [] := h; rfl
  | t :: ts, xs, ⟨c, r, h1, h2, h3⟩ => by
    subst h1
    have := JNCs.len ts r h3
    have := h2.len
    simp; omega

/-- The cells of the k-th value of a list. -/
theorem JNCs.at_ {w : World} {P : Nat → Prop} : ∀ (ts : List JT) (xs : List Value) (k : Nat) (t : JT), JNCs w P ts xs → ts[k]? = some t →
    JNC w P t ((xs.drop (k * 4)).take 4)
  | [], xs, k, t, h, hk => by simp at hk
  | t' :: ts, xs, 0, t, ⟨c, r, h1, h2, h3⟩, hk => by
    subst h1
    simp at hk
    subst hk
    have := h2.len
    simpa [List.take_append, this] using h2
  | t' :: ts, xs, k + 1, t, ⟨c, r, h1, h2, h3⟩, hk => by
    subst h1
    have hl := h2.len
    have := JNCs.at_ ts r k t h3 (by simpa using hk)
    rw [show (k + 1) * 4 = 4 + k * 4 from by omega, ← List.drop_drop, show List.drop 4 (c ++ r) = r from by simp [List.drop_append, hl]]
    exact this

theorem JNC.one {w : World} {P : Nat → Prop} {t : JT} {cs : List Value} (h : JNC w P t cs) : ∀ u ∈ cs, u.oneCell' = true := by
  cases t with
  | leaf k s => obtain ⟨_, rfl⟩ := h; simp [Value.oneCell']
  | arr items => obtain ⟨A, c, xs, rfl, _⟩ := h; simp [Value.oneCell']
  | obj names items => obtain ⟨A, c, A', c', xs, rfl, _⟩ := h; simp [Value.oneCell']

theorem JNC.form {w : World} {P : Nat → Prop} {t : JT} {c0 c1 c2 c3 : Value} (h : JNC w P t [c0, c1, c2, c3]) :
    ∃ (k : Int) (s : List UInt8) (A : Option Addr) (n c : Nat) (A' : Option Addr) (n' c' : Nat), c0 = I k ∧ c1 = S s ∧ c2 = .slice A n c ∧ c3 = .slice A' n' c' := by
  cases t with
  | leaf k s =>
    obtain ⟨_, h⟩ := h
    simp only [List.cons.injEq] at h
    exact ⟨k, s, none, 0, 0, none, 0, 0, h.1, h.2.1, h.2.2.1, h.2.2.2.1⟩
  | arr items =>
    obtain ⟨A, c, xs, h, _⟩ := h
    simp only [List.cons.injEq] at h
    exact ⟨4, [], none, 0, 0, A, _, c, h.1, h.2.1, h.2.2.1, h.2.2.2.1⟩
  | obj names items =>
    obtain ⟨A, c, A', c', xs, h, _⟩ := h
    simp only [List.cons.injEq] at h
    exact ⟨5, [], A', _, c', A, _, c, h.1, h.2.1, h.2.2.1, h.2.2.2.1⟩

/-- The cells of value i of a list. -/
theorem JNCs.four {w : World} {P : Nat → Prop} {items : List JT} {A : Option Addr} {xs : List Value} {i : Nat} {t : JT} (hr : Row w P 4 A items.length xs) (hj : JNCs w P items xs) (ht : items[i]? = some t) :
    ∃ g c0 c1 c2 c3, A = some ⟨g, 0, none⟩ ∧ P g ∧ JNC w P t [c0, c1, c2, c3] ∧ w.cell? ⟨g, i * 4, none⟩ = some c0 ∧ w.cell? ⟨g, i * 4 + 1, none⟩ = some c1 ∧ w.cell? ⟨g, i * 4 + 2, none⟩ = some c2 ∧ w.cell? ⟨g, i * 4 + 3, none⟩ = some c3 := by
  have hi : i < items.length := (List.getElem?_eq_some_iff.1 ht).1
  obtain ⟨g, rfl, hg, hc⟩ := hr.2 (by omega)
  have h := hj.at_ items xs i t ht
  have hl := h.len
  have hx : ∀ j, j < 4 → ((xs.drop (i * 4)).take 4)[j]? = xs[i * 4 + j]? := by
    intro j hj
    rw [List.getElem?_take_of_lt hj, List.getElem?_drop]
  generalize (xs.drop (i * 4)).take 4 = c at h hl hx
  match c, hl with
  | [c0, c1, c2, c3], _ =>
    exact ⟨g, c0, c1, c2, c3, rfl, hg, h, hc _ _ (hx 0 (by decide)).symm, hc _ _ (hx 1 (by decide)).symm, hc _ _ (hx 2 (by decide)).symm, hc _ _ (hx 3 (by decide)).symm⟩

end Go.Proofs.YtbfadghogjldcaaDoor

/- Patterns in plain Lean: what a list of parts matches, and the matcher's state. -/
import Derived.Test.YtbfadghogjldcaaDoorPlain
namespace Go.Proofs.YtbfadghogjldcaaDoor
set_option linter.unusedVariables false
set_option linter.unusedSimpArgs false

/-- A part takes a sign of its own. -/
def MN.eats (fold : Bool) : MN → Int → Bool
  | .rune _ s, c => decide (s < 0) || (wt fold c == s)
  | .any, _ => false
def MN.star : MN → Bool
  | .rune _ _ => false
  | .any => true

/-- Some end of a list serves. -/
def someEnd (f : List UInt8 → Bool) : List UInt8 → Bool
  | [] => f []
  | c :: s => f (c :: s) || someEnd f s

def glob (fold : Bool) : List MN → List UInt8 → Bool
  | [], s => s.isEmpty
  | .any :: ns, s => someEnd (glob fold ns) s
  | .rune o k :: ns, [] => false
  | .rune o k :: ns, c :: s => MN.eats fold (.rune o k) c.toNat && glob fold ns s

theorem someEnd_iff (f : List UInt8 → Bool) (s : List UInt8) : someEnd f s = true ↔ ∃ i, i ≤ s.length ∧ f (s.drop i) = true := by
  induction s with
  | nil => simp [someEnd]
  | cons c s ih =>
    simp only [someEnd, Bool.or_eq_true, ih]
    constructor
    · rintro (h | ⟨i, hi, h⟩)
      · exact ⟨0, by omega, by simpa using h⟩
      · exact ⟨i + 1, by simp; omega, by simpa using h⟩
    · rintro ⟨i, hi, h⟩
      cases i with
      | zero => exact .inl (by simpa using h)
      | succ i => exact .inr ⟨i, by simp at hi; omega, by simpa using h⟩

theorem glob_any (fold : Bool) (ns : List MN) (s : List UInt8) : glob fold (.any :: ns) s = true ↔ ∃ i, i ≤ s.length ∧ glob fold ns (s.drop i) = true := by
  rw [show glob fold (.any :: ns) s = someEnd (glob fold ns) s by simp [glob]]
  exact someEnd_iff _ _
theorem glob_rune (fold : Bool) (o k : Int) (ns : List MN) (c : UInt8) (s : List UInt8) : glob fold (.rune o k :: ns) (c :: s) = (MN.eats fold (.rune o k) c.toNat && glob fold ns s) := by simp [glob]
theorem glob_rune_nil (fold : Bool) (o k : Int) (ns : List MN) : glob fold (.rune o k :: ns) [] = false := by simp [glob]
theorem glob_nil (fold : Bool) (s : List UInt8) : glob fold [] s = s.isEmpty := by simp [glob]

/-- The first k parts of ms take the first k signs, one each. -/
def Run (fold : Bool) (ms : List MN) (s : List UInt8) (k : Nat) : Prop :=
  ∀ i, i < k → ∃ m c, ms[i]? = some m ∧ s[i]? = some c ∧ m.star = false ∧ m.eats fold c.toNat = true

theorem Run.glob {fold : Bool} : ∀ {k : Nat} {ms : List MN} {s : List UInt8}, Run fold ms s k → glob fold ms s = glob fold (ms.drop k) (s.drop k)
  | 0, ms, s, _ => by simp
  | k + 1, ms, s, h => by
    obtain ⟨m, c, hm, hc, hs, he⟩ := h 0 (by omega)
    cases ms with
    | nil => simp at hm
    | cons m' ms =>
    cases s with
    | nil => simp at hc
    | cons c' s =>
    simp at hm hc
    subst hm hc
    cases m' with
    | any => simp [MN.star] at hs
    | rune o q =>
      rw [glob_rune, he]
      simp only [Bool.true_and, List.drop_succ_cons]
      exact Run.glob fun i hi => by
        obtain ⟨m, c, hm, hc, r⟩ := h (i + 1) (by omega)
        exact ⟨m, c, by simpa using hm, by simpa using hc, r⟩

/-- A pattern that stands behind any signs takes what an any takes, however far it has come. -/
theorem glob_any_mono {fold : Bool} {ns : List MN} {s : List UInt8} {i j : Nat} (hij : i ≤ j) (h : glob fold (.any :: ns) (s.drop j) = true) : glob fold (.any :: ns) (s.drop i) = true := by
  obtain ⟨k, hk, hg⟩ := (glob_any fold ns _).1 h
  rw [List.drop_drop] at hg
  rw [glob_any]
  by_cases hj : j ≤ s.length
  · refine ⟨j - i + k, by simp at hk ⊢; omega, ?_⟩
    rw [List.drop_drop]
    rw [show i + (j - i + k) = j + k by omega]
    exact hg
  · rw [List.drop_eq_nil_of_le (by omega)] at hg
    refine ⟨(s.drop i).length, by omega, ?_⟩
    rw [List.drop_eq_nil_of_le (by omega)]
    exact hg

/-- A pattern of k single parts ahead of ns: it takes k signs, and then ns what is left. -/
theorem glob_front {fold : Bool} : ∀ {k : Nat} {ms : List MN} {s : List UInt8}, (∀ i, i < k → ∃ m, ms[i]? = some m ∧ m.star = false) → Go.Proofs.YtbfadghogjldcaaDoor.glob fold ms s = true →
    k ≤ s.length ∧ Go.Proofs.YtbfadghogjldcaaDoor.glob fold (ms.drop k) (s.drop k) = true
  | 0, ms, s, _, h => by simpa using h
  | k + 1, ms, s, hr, h => by
    obtain ⟨m, hm, hs⟩ := hr 0 (by omega)
    cases ms with
    | nil => simp at hm
    | cons m' ms =>
    simp at hm
    subst hm
    cases m' with
    | any => simp [MN.star] at hs
    | rune o q =>
    cases s with
    | nil => simp [Go.Proofs.YtbfadghogjldcaaDoor.glob] at h
    | cons c s =>
      rw [glob_rune] at h
      simp at h
      have := glob_front (k := k) (ms := ms) (s := s) (fun i hi => by
        obtain ⟨m, h1, h2⟩ := hr (i + 1) (by omega)
        exact ⟨m, by simpa using h1, h2⟩) h.2
      simpa using this

/-- How many signs a pattern asks for at the least. -/
theorem glob_len {fold : Bool} : ∀ {ms : List MN} {s : List UInt8}, Go.Proofs.YtbfadghogjldcaaDoor.glob fold ms s = true → (ms.filter (fun m => !m.star)).length ≤ s.length
  | [], s, _ => by simp
  | .any :: ms, s, h => by
    obtain ⟨i, hi, hg⟩ := (glob_any fold ms s).1 h
    have := glob_len hg
    simp [MN.star] at this ⊢
    omega
  | .rune o k :: ms, [], h => by simp [Go.Proofs.YtbfadghogjldcaaDoor.glob] at h
  | .rune o k :: ms, c :: s, h => by
    rw [glob_rune] at h
    simp at h
    have := glob_len h.2
    simp [MN.star] at this ⊢
    omega

theorem glob_stars {fold : Bool} : ∀ {ms : List MN}, (∀ m ∈ ms, m.star = true) → Go.Proofs.YtbfadghogjldcaaDoor.glob fold ms [] = true
  | [], _ => by simp [Go.Proofs.YtbfadghogjldcaaDoor.glob]
  | .any :: ms, h => by
    rw [glob_any]
    exact ⟨0, by simp, by simpa using glob_stars fun m hm => h m (by simp [hm])⟩
  | .rune o k :: ms, h => by simp [MN.star] at h

end Go.Proofs.YtbfadghogjldcaaDoor

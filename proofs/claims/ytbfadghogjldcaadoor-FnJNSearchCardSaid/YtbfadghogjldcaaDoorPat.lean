/- The made texts and patterns in plain Lean. -/
import Derived.Test.YtbfadghogjldcaaDoorGlob
namespace Go.Proofs.YtbfadghogjldcaaDoor
set_option linter.unusedVariables false
set_option linter.unusedSimpArgs false

theorem getD_of {α : Type} {P : α → Prop} : ∀ (l : List α) (d : α) (k : Nat), (∀ x ∈ l, P x) → P d → P (l.getD k d)
  | [], d, k, _, h => by simpa using h
  | x :: l, d, 0, hl, h => by simpa using hl x (by simp)
  | x :: l, d, k + 1, hl, h => by
    have := getD_of l d k (fun y hy => hl y (by simp [hy])) h
    simpa using this

theorem letter_ascii (c : Int) : (letter c).toNat < 128 := getD_of (P := fun x : UInt8 => x.toNat < 128) letters 0 _ (by decide) (by decide)
theorem mkText_ascii : ∀ (n : Nat) (code : List UInt8), ∀ c ∈ mkText n code, c.toNat < 128
  | 0, code => by simp [mkText]
  | n + 1, code => by
    intro c hc
    simp only [mkText, List.mem_cons] at hc
    rcases hc with rfl | hc
    · exact letter_ascii _
    · exact mkText_ascii n _ c hc
theorem mkText_len : ∀ (n : Nat) (code : List UInt8), (mkText n code).length = n
  | 0, code => rfl
  | n + 1, code => by simp [mkText, mkText_len n]
theorem text_ascii (code : List UInt8) : ∀ c ∈ textOf code, c.toNat < 128 := mkText_ascii _ _
theorem text_len (code : List UInt8) : (textOf code).length ≤ 5 := by
  have h1 := hd_0 code
  have h2 := hd_255 code
  unfold textOf textN
  rw [mkText_len]
  omega

theorem part_ascii (c : Int) : ∀ x ∈ part c, x.toNat < 128 := getD_of (P := fun l : List UInt8 => ∀ x ∈ l, x.toNat < 128) parts [] _ (by decide) (by simp)
theorem part_len (c : Int) : (part c).length ≤ 2 := getD_of (P := fun l : List UInt8 => l.length ≤ 2) parts [] _ (by decide) (by simp)
theorem mkPat_ascii : ∀ (n : Nat) (code : List UInt8), ∀ c ∈ mkPat n code, c.toNat < 128
  | 0, code => by simp [mkPat]
  | n + 1, code => by
    intro c hc
    simp only [mkPat, List.mem_append] at hc
    rcases hc with hc | hc
    · exact part_ascii _ c hc
    · exact mkPat_ascii n _ c hc
theorem mkPat_len : ∀ (n : Nat) (code : List UInt8), (mkPat n code).length ≤ 2 * n
  | 0, code => by simp [mkPat]
  | n + 1, code => by
    have h1 := part_len (hd code)
    have h2 := mkPat_len n code.tail
    simp only [mkPat, List.length_append]
    omega
theorem pat_ascii (code : List UInt8) : ∀ c ∈ patOf code, c.toNat < 128 := mkPat_ascii _ _
theorem pat_len (code : List UInt8) : (patOf code).length ≤ 12 := by
  have h1 := hd_0 code
  have h2 := hd_255 code
  have := mkPat_len (patN code) code.tail
  unfold patOf
  unfold patN at *
  omega

theorem parse_esc_eq (fold : Bool) (d : UInt8) (r : List UInt8) : parse fold (124 :: d :: r) = (parse fold r).map (.rune d.toNat (wt fold d.toNat) :: ·) := by simp [parse]
theorem parse_one_eq (fold : Bool) (r : List UInt8) : parse fold (95 :: r) = (parse fold r).map (.rune 95 (-1) :: ·) := by
  cases r <;> simp [parse]
theorem parse_any_eq (fold : Bool) (r : List UInt8) : parse fold (37 :: r) = (parse fold r).map (.any :: ·) := by
  cases r <;> simp [parse]
theorem parse_self_eq (fold : Bool) (c : UInt8) (r : List UInt8) (h1 : c ≠ 95) (h2 : c ≠ 37) (h3 : c ≠ 124) : parse fold (c :: r) = (parse fold r).map (.rune c.toNat (wt fold c.toNat) :: ·) := by
  cases r <;> simp [parse, h1, h2, h3]

def goodPart (q : List UInt8) : Prop := ∀ (fold : Bool) (r : List UInt8), (parse fold r).isSome = true → (parse fold (q ++ r)).isSome = true
theorem part_good (c : Int) : goodPart (part c) := by
  refine getD_of (P := goodPart) parts [] _ ?_ (fun fold r h => h)
  intro q hq fold r h
  simp only [parts, List.mem_cons, List.mem_nil_iff, or_false] at hq
  rcases hq with rfl | rfl | rfl | rfl | rfl | rfl | rfl | rfl | rfl | rfl | rfl
  · simp only [List.cons_append, List.nil_append, parse_any_eq]; simpa using h
  · simp only [List.cons_append, List.nil_append, parse_one_eq]; simpa using h
  · simp only [List.cons_append, List.nil_append]; rw [parse_self_eq _ _ _ (by decide) (by decide) (by decide)]; simpa using h
  · simp only [List.cons_append, List.nil_append]; rw [parse_self_eq _ _ _ (by decide) (by decide) (by decide)]; simpa using h
  · simp only [List.cons_append, List.nil_append]; rw [parse_self_eq _ _ _ (by decide) (by decide) (by decide)]; simpa using h
  · simp only [List.cons_append, List.nil_append, parse_esc_eq]; simpa using h
  · simp only [List.cons_append, List.nil_append, parse_esc_eq]; simpa using h
  · simp only [List.cons_append, List.nil_append, parse_esc_eq]; simpa using h
  · simp only [List.cons_append, List.nil_append, parse_esc_eq]; simpa using h
  · simp only [List.cons_append, List.nil_append]; rw [parse_self_eq _ _ _ (by decide) (by decide) (by decide)]; simpa using h
  · simp only [List.cons_append, List.nil_append]; rw [parse_self_eq _ _ _ (by decide) (by decide) (by decide)]; simpa using h
theorem mkPat_good (fold : Bool) : ∀ (n : Nat) (code : List UInt8), (parse fold (mkPat n code)).isSome = true
  | 0, code => by simp [mkPat, parse]
  | n + 1, code => part_good _ fold _ (mkPat_good fold n code.tail)
theorem pat_parse (fold : Bool) (code : List UInt8) : ∃ ns, parse fold (patOf code) = some ns := Option.isSome_iff_exists.1 (mkPat_good fold _ _)

/-! ### The patterns that a text alone is found by -/
def ownOf (s : List UInt8) : List UInt8 := s.flatMap fun c => [124, c]
def onesOf (n : Nat) : List UInt8 := List.replicate n 95
theorem own_snoc (s : List UInt8) (c : UInt8) : ownOf (s ++ [c]) = ownOf s ++ [124, c] := by simp [ownOf]
theorem ones_snoc (n : Nat) : onesOf (n + 1) = onesOf n ++ [95] := by simp [onesOf, List.replicate_succ']
theorem own_len (s : List UInt8) : (ownOf s).length = 2 * s.length := by
  induction s with
  | nil => rfl
  | cons c s ih => simp [ownOf] at ih ⊢; omega
theorem ones_len (n : Nat) : (onesOf n).length = n := by simp [onesOf]

theorem own_parse (fold : Bool) : ∀ s : List UInt8, parse fold (ownOf s) = some (s.map fun c => .rune c.toNat (wt fold c.toNat))
  | [] => by simp [ownOf, parse]
  | c :: s => by
    rw [show ownOf (c :: s) = 124 :: c :: ownOf s by simp [ownOf], parse_esc_eq, own_parse fold s]
    rfl
theorem ones_parse (fold : Bool) (t : List UInt8) (ms : List MN) (h : parse fold t = some ms) : ∀ n : Nat, parse fold (onesOf n ++ t) = some (List.replicate n (.rune 95 (-1)) ++ ms)
  | 0 => by simpa [onesOf] using h
  | n + 1 => by
    rw [show onesOf (n + 1) ++ t = 95 :: (onesOf n ++ t) by simp [onesOf, List.replicate_succ], parse_one_eq, ones_parse fold t ms h n]
    rfl
theorem own_glob (fold : Bool) : ∀ s : List UInt8, glob fold (s.map fun c => .rune c.toNat (wt fold c.toNat)) s = true
  | [] => by simp [glob]
  | c :: s => by
    rw [List.map_cons, glob_rune, own_glob fold s]
    have h0 : ¬ wt fold c.toNat < 0 := by unfold wt; split <;> omega
    simp [MN.eats]
theorem ones_glob (fold : Bool) (ms : List MN) : ∀ s : List UInt8, glob fold (List.replicate s.length (.rune 95 (-1)) ++ ms) s = glob fold ms []
  | [] => by simp
  | c :: s => by
    rw [List.length_cons, List.replicate_succ, List.cons_append, glob_rune, ones_glob fold ms s]
    rfl

/-- A pattern by which a text is found. -/
def Finds (fold : Bool) (s q : List UInt8) : Prop := q.length ≤ 1000 ∧ (∀ c ∈ q, c.toNat < 128) ∧ ∃ ns, parse fold q = some ns ∧ glob fold ns s = true
theorem ones_ascii (n : Nat) : ∀ c ∈ onesOf n, c.toNat < 128 := by
  intro c hc
  have := List.eq_of_mem_replicate hc
  subst this
  decide
theorem finds_own (fold : Bool) (s : List UInt8) (hs : s.length ≤ 5) (hb : ∀ c ∈ s, c.toNat < 128) : Finds fold s (ownOf s) := by
  refine ⟨by rw [own_len]; omega, ?_, _, own_parse fold s, own_glob fold s⟩
  intro c hc
  obtain ⟨x, hx, hc⟩ := List.mem_flatMap.1 hc
  simp at hc
  rcases hc with rfl | rfl
  · decide
  · exact hb _ hx
theorem finds_any (fold : Bool) (s : List UInt8) : Finds fold s [37] := by
  refine ⟨by simp, by decide, [.any], by simp [parse], ?_⟩
  rw [glob_any]
  exact ⟨s.length, Nat.le_refl _, by simp [glob]⟩
theorem finds_ones (fold : Bool) (s : List UInt8) (hs : s.length ≤ 5) : Finds fold s (onesOf s.length) := by
  refine ⟨by rw [ones_len]; omega, ones_ascii _, List.replicate s.length (.rune 95 (-1)), ?_, ?_⟩
  · have := ones_parse fold [] [] (by simp [parse]) s.length
    simpa using this
  · have := ones_glob fold [] s
    simpa [glob] using this
theorem finds_ones_any (fold : Bool) (s : List UInt8) (hs : s.length ≤ 5) : Finds fold s (onesOf s.length ++ [37]) := by
  refine ⟨by simp [ones_len]; omega, ?_, _, ones_parse fold [37] [.any] (by simp [parse]) s.length, ?_⟩
  · intro c hc
    rcases List.mem_append.1 hc with hc | hc
    · exact ones_ascii _ c hc
    · simp at hc; subst hc; decide
  · rw [ones_glob, glob_any]
    exact ⟨0, by simp, by simp [glob]⟩
theorem finds_any_ones (fold : Bool) (s : List UInt8) (hs : s.length ≤ 5) : Finds fold s ([37] ++ onesOf s.length) := by
  obtain ⟨h1, h2, ns, h3, h4⟩ := finds_ones fold s hs
  refine ⟨by simp [ones_len]; omega, ?_, .any :: ns, ?_, ?_⟩
  · intro c hc
    rcases List.mem_append.1 hc with hc | hc
    · simp at hc; subst hc; decide
    · exact h2 c hc
  · rw [List.singleton_append, parse_any_eq, h3]; rfl
  · rw [glob_any]
    exact ⟨0, by simp, by simpa using h4⟩
theorem finds_not (fold : Bool) (s : List UInt8) (hs : s.length ≤ 5) : ∃ ns, parse fold (onesOf s.length ++ [95]) = some ns ∧ glob fold ns s = false := by
  refine ⟨_, ones_parse fold [95] [.rune 95 (-1)] (by simp [parse]) s.length, ?_⟩
  rw [ones_glob, glob_rune_nil]

end Go.Proofs.YtbfadghogjldcaaDoor

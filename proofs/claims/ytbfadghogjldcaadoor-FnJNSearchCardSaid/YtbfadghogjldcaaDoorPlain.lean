/- The plain functions: what the maker makes of bytes. No program in sight. -/
namespace Go.Proofs.YtbfadghogjldcaaDoor

/-- What 'byte' returns. -/
def hd : List UInt8 → Int
  | [] => 0
  | b :: _ => b.toNat
theorem hd_0 (l : List UInt8) : 0 ≤ hd l := by cases l <;> simp [hd]
theorem hd_255 (l : List UInt8) : hd l ≤ 255 := by
  cases l with
  | nil => simp [hd]
  | cons b l => have := b.toNat_lt; simp [hd]; omega

/-- "aabbAB%_1 |c" -/
def letters : List UInt8 := [97, 97, 98, 98, 65, 66, 37, 95, 49, 32, 124, 99]
def letter (c : Int) : UInt8 := letters.getD (c % 12).toNat 0
def mkText : Nat → List UInt8 → List UInt8
  | 0, _ => []
  | n + 1, code => letter (hd code) :: mkText n code.tail
def textN (code : List UInt8) : Nat := (hd code % 6).toNat
def textOf (code : List UInt8) : List UInt8 := mkText (textN code) code.tail
def textRest (code : List UInt8) : List UInt8 := code.drop (textN code + 1)

/-- The parts of a pattern. -/
def parts : List (List UInt8) := [[37], [95], [97], [98], [65], [124, 37], [124, 95], [124, 97], [124, 124], [66], [49]]
def part (c : Int) : List UInt8 := parts.getD (c % 11).toNat []
def mkPat : Nat → List UInt8 → List UInt8
  | 0, _ => []
  | n + 1, code => part (hd code) ++ mkPat n code.tail
def patN (code : List UInt8) : Nat := (hd code % 7).toNat
def patOf (code : List UInt8) : List UInt8 := mkPat (patN code) code.tail
def patRest (code : List UInt8) : List UInt8 := code.drop (patN code + 1)

/-- A number in digits. -/
def digits (n : Nat) : List UInt8 :=
  if n < 10 then [(48 + n).toUInt8] else digits (n / 10) ++ [(48 + n % 10).toUInt8]
theorem digits_small {n : Nat} (h : n < 10) : digits n = [(48 + n).toUInt8] := by rw [digits, if_pos h]
theorem digits_more {n : Nat} (h : ¬ n < 10) : digits n = digits (n / 10) ++ [(48 + n % 10).toUInt8] := by rw [digits, if_neg h]
theorem digits_len : ∀ k n, n < 10 ^ k → (digits n).length ≤ k + 1 := by
  intro k
  induction k with
  | zero => intro n h; rw [digits_small (by simp at h; omega)]; simp
  | succ k ih =>
    intro n h
    by_cases hn : n < 10
    · rw [digits_small hn]; simp
    · rw [digits_more hn]
      have := ih (n / 10) (by rw [Nat.pow_succ] at h; omega)
      simp; omega

/-- A JSON value: kind and text (null 0, truth value 1, number 2, text 3), a list, an object. -/
inductive JT where
  | leaf (k : Nat) (s : List UInt8)
  | arr (items : List JT)
  | obj (names : List (List UInt8)) (items : List JT)

mutual
/-- A value whose objects have as many names as values, and none twice; no list is long. -/
def JT.ok : JT → Prop
  | .leaf k _ => k ≤ 3
  | .arr items => items.length ≤ 8 ∧ JT.oks items
  | .obj names items => items.length ≤ 8 ∧ names.length = items.length ∧ names.Nodup ∧ JT.oks items
def JT.oks : List JT → Prop
  | [] => True
  | t :: ts => JT.ok t ∧ JT.oks ts
end
theorem JT.oks_at : ∀ (ts : List JT) (i : Nat) (t : JT), JT.oks ts → ts[i]? = some t → JT.ok t
  | [], i, t, _, h => by simp at h
  | t' :: ts, 0, t, h, hi => by simp at hi; subst hi; exact h.1
  | t' :: ts, i + 1, t, h, hi => JT.oks_at ts i t h.2 (by simpa using hi)

/-- Go's int. -/
def w64 (n : Int) : Int := (n + 9223372036854775808) % 18446744073709551616 - 9223372036854775808

def truth (c : Int) : List UInt8 := if c % 2 = 0 then [116, 114, 117, 101] else [102, 97, 108, 115, 101]

def leafNode (k : Int) (code : List UInt8) (left : Int) : JT × List UInt8 × Int :=
  if k < 3 then (.leaf 3 (textOf code), textRest code, left)
  else if k = 3 then (.leaf 2 (digits (hd code).toNat), code.tail, left)
  else if k = 4 then (.leaf 1 (truth (hd code)), code.tail, left)
  else (.leaf 0 [], code, left)

def many (f : List UInt8 → Int → JT × List UInt8 × Int) : Nat → List UInt8 → Int → List JT × List UInt8 × Int
  | 0, code, left => ([], code, left)
  | n + 1, code, left => ((f code left).1 :: (many f n (f code left).2.1 (f code left).2.2).1, (many f n (f code left).2.1 (f code left).2.2).2)

def nameAt (i : Nat) : List UInt8 := [(107 + i).toUInt8]
def namesTo (n : Nat) : List (List UInt8) := (List.range n).map nameAt

/-- d: how much deeper it may go. -/
def node : Nat → List UInt8 → Int → JT × List UInt8 × Int
  | 0, code, left => leafNode (hd code % 10 % 6) code.tail (w64 (left - 1))
  | d + 1, code, left =>
    if w64 (left - 1) ≤ 0 then leafNode (hd code % 10 % 6) code.tail (w64 (left - 1))
    else if hd code % 10 < 6 then leafNode (hd code % 10) code.tail (w64 (left - 1))
    else if 7 < hd code % 10 then (.obj (namesTo (hd code.tail % 5).toNat) (many (node d) (hd code.tail % 5).toNat code.tail.tail (w64 (left - 1))).1, (many (node d) (hd code.tail % 5).toNat code.tail.tail (w64 (left - 1))).2)
    else (.arr (many (node d) (hd code.tail % 5).toNat code.tail.tail (w64 (left - 1))).1, (many (node d) (hd code.tail % 5).toNat code.tail.tail (w64 (left - 1))).2)

/-! ### The matcher -/

/-- A part of a pattern: one sign of a weight (below 0: any sign), or any signs. -/
inductive MN where
  | rune (c s : Int)
  | any

/-- The weight of a sign. -/
def wt (fold : Bool) (c : Int) : Int := if fold = true ∧ 65 ≤ c ∧ c ≤ 90 then c + 32 else c

/-- The parts of a pattern; none: the escape sign stands last. -/
def parse (fold : Bool) : List UInt8 → Option (List MN)
  | [] => some []
  | [c] => if c = 95 then some [.rune 95 (-1)] else if c = 37 then some [.any] else if c = 124 then none else some [.rune c.toNat (wt fold c.toNat)]
  | c :: d :: r =>
    if c = 95 then (parse fold (d :: r)).map (.rune 95 (-1) :: ·)
    else if c = 37 then (parse fold (d :: r)).map (.any :: ·)
    else if c = 124 then (parse fold r).map (.rune d.toNat (wt fold d.toNat) :: ·)
    else (parse fold (d :: r)).map (.rune c.toNat (wt fold c.toNat) :: ·)

theorem parse_one {fold : Bool} {tl : List UInt8} {rest : List MN} (h : parse fold (95 :: tl) = some rest) : ∃ r', rest = .rune 95 (-1) :: r' ∧ parse fold tl = some r' := by
  cases tl with
  | nil => simp [parse] at h; exact ⟨[], h.symm, by simp [parse]⟩
  | cons d r => simp [parse] at h; obtain ⟨r', h1, h2⟩ := h; exact ⟨r', h2.symm, h1⟩
theorem parse_any {fold : Bool} {tl : List UInt8} {rest : List MN} (h : parse fold (37 :: tl) = some rest) : ∃ r', rest = .any :: r' ∧ parse fold tl = some r' := by
  cases tl with
  | nil => simp [parse] at h; exact ⟨[], h.symm, by simp [parse]⟩
  | cons d r => simp [parse] at h; obtain ⟨r', h1, h2⟩ := h; exact ⟨r', h2.symm, h1⟩
theorem parse_esc {fold : Bool} {tl : List UInt8} {rest : List MN} (h : parse fold (124 :: tl) = some rest) : ∃ d r r', tl = d :: r ∧ rest = .rune d.toNat (wt fold d.toNat) :: r' ∧ parse fold r = some r' := by
  cases tl with
  | nil => simp [parse] at h
  | cons d r => simp [parse] at h; obtain ⟨r', h1, h2⟩ := h; exact ⟨d, r, r', rfl, h2.symm, h1⟩
theorem parse_self {fold : Bool} {x : UInt8} {tl : List UInt8} {rest : List MN} (h1 : x ≠ 95) (h2 : x ≠ 37) (h3 : x ≠ 124) (h : parse fold (x :: tl) = some rest) : ∃ r', rest = .rune x.toNat (wt fold x.toNat) :: r' ∧ parse fold tl = some r' := by
  cases tl with
  | nil => simp [parse, h1, h2, h3] at h; exact ⟨[], h.symm, by simp [parse]⟩
  | cons d r => simp [parse, h1, h2, h3] at h; obtain ⟨r', h4, h5⟩ := h; exact ⟨r', h5.symm, h4⟩

end Go.Proofs.YtbfadghogjldcaaDoor

/- The matcher's state in plain Lean: how far it has come, and what is left to be seen. -/
import Derived.Test.YtbfadghogjldcaaDoorGlob
namespace Go.Proofs.YtbfadghogjldcaaDoor
set_option linter.unusedVariables false
set_option linter.unusedSimpArgs false

/-- The last any among the first n parts. -/
def back (ns : List MN) : Nat → Option Nat
  | 0 => none
  | n + 1 => match ns[n]? with
    | some .any => some n
    | _ => back ns n

theorem back_any {ns : List MN} {n : Nat} (h : ns[n]? = some .any) : back ns (n + 1) = some n := by simp [back, h]
theorem back_rune {ns : List MN} {n : Nat} {o k : Int} (h : ns[n]? = some (.rune o k)) : back ns (n + 1) = back ns n := by simp [back, h]
theorem back_some {ns : List MN} : ∀ {n j : Nat}, back ns n = some j → j < n ∧ ns[j]? = some .any ∧ (n ≤ ns.length → ∀ i, j < i → i < n → ∃ m, ns[i]? = some m ∧ m.star = false)
  | 0, j, h => by simp [back] at h
  | n + 1, j, h => by
    rcases hm : ns[n]? with _ | m
    · simp [back, hm] at h
      obtain ⟨h1, h2, h3⟩ := back_some h
      exact ⟨by omega, h2, fun hn i h4 h5 => by
        have := List.getElem?_eq_none_iff.1 hm
        omega⟩
    · cases m with
      | any =>
        rw [back_any hm] at h
        injection h with h
        subst h
        exact ⟨by omega, hm, fun _ i h4 h5 => by omega⟩
      | rune o k =>
        rw [back_rune hm] at h
        obtain ⟨h1, h2, h3⟩ := back_some h
        exact ⟨by omega, h2, fun hn i h4 h5 => by
          by_cases hi : i = n
          · subst hi; exact ⟨_, hm, rfl⟩
          · exact h3 (by omega) i h4 (by omega)⟩
theorem back_none {ns : List MN} : ∀ {n : Nat}, back ns n = none → n ≤ ns.length → ∀ i, i < n → ∃ m, ns[i]? = some m ∧ m.star = false
  | 0, _, _ => fun i hi => by omega
  | n + 1, h, hn => fun i hi => by
    rcases hm : ns[n]? with _ | m
    · have := List.getElem?_eq_none_iff.1 hm
      omega
    · cases m with
      | any => rw [back_any hm] at h; cases h
      | rune o k =>
        rw [back_rune hm] at h
        by_cases hi' : i = n
        · subst hi'; exact ⟨_, hm, rfl⟩
        · exact back_none h (by omega) i (by omega)

/-- What is held: X the ends of the parts that have matched, at the sign si of s. -/
structure MSt (fold : Bool) (ns : List MN) (s : List UInt8) (X : List Nat) (si : Nat) : Prop where
  len : X.length ≤ ns.length
  le : si ≤ s.length
  mono : X.Pairwise (· ≤ ·)
  top : ∀ x ∈ X, x ≤ si
  none_ : back ns X.length = none → si = X.length ∧ Run fold ns s X.length
  some_ : ∀ j, back ns X.length = some j → ∃ e, X[j]? = some e ∧ si = e + (X.length - j - 1) ∧ Run fold (ns.drop (j + 1)) (s.drop e) (X.length - j - 1) ∧ glob fold ns s = glob fold (ns.drop j) (s.drop e)

section
variable {fold : Bool} {ns : List MN} {s : List UInt8} {X : List Nat} {si : Nat}

theorem MSt.start : MSt fold ns s [] 0 :=
  ⟨by simp, by simp, by simp, by simp, fun _ => ⟨rfl, fun i hi => by simp at hi⟩, fun j h => by simp [back] at h⟩

theorem drop_any {j : Nat} (h : ns[j]? = some .any) : ns.drop j = .any :: ns.drop (j + 1) := by
  obtain ⟨hj, he⟩ := List.getElem?_eq_some_iff.1 h
  rw [List.drop_eq_getElem_cons hj, he]
theorem drop_rune {j : Nat} {o k : Int} (h : ns[j]? = some (.rune o k)) : ns.drop j = .rune o k :: ns.drop (j + 1) := by
  obtain ⟨hj, he⟩ := List.getElem?_eq_some_iff.1 h
  rw [List.drop_eq_getElem_cons hj, he]

/-- What is left behind the last any. -/
theorem MSt.after (h : MSt fold ns s X si) {j e : Nat} (hb : back ns X.length = some j) (he : X[j]? = some e) : glob fold (ns.drop (j + 1)) (s.drop e) = glob fold (ns.drop X.length) (s.drop si) := by
  obtain ⟨e', he', hs, hr, hg⟩ := h.some_ j hb
  rw [he] at he'
  injection he' with he'
  subst he'
  rw [hr.glob, List.drop_drop, List.drop_drop]
  have := (back_some hb).1
  rw [show j + 1 + (X.length - j - 1) = X.length by omega, ← hs]

/-- If what is left matches, all does. -/
theorem MSt.won (h : MSt fold ns s X si) (hl : glob fold (ns.drop X.length) (s.drop si) = true) : glob fold ns s = true := by
  rcases hb : back ns X.length with _ | j
  · obtain ⟨h1, h2⟩ := h.none_ hb
    rw [h2.glob, ← h1]
    rw [← h1] at hl
    exact hl
  · obtain ⟨e, he, hs, hr, hg⟩ := h.some_ j hb
    rw [hg, drop_any (back_some hb).2.1, glob_any]
    exact ⟨0, by simp, by rw [List.drop_zero, h.after hb he]; exact hl⟩

/-- It has come to both ends. -/
theorem MSt.done (h : MSt fold ns s X s.length) (hn : X.length = ns.length) : glob fold ns s = true :=
  h.won (by rw [hn]; simp [glob])

/-- No any has been met, and what is left does not match. -/
theorem MSt.lost (h : MSt fold ns s X si) (hb : back ns X.length = none) (hl : glob fold (ns.drop X.length) (s.drop si) = false) : glob fold ns s = false := by
  obtain ⟨h1, h2⟩ := h.none_ hb
  rw [h2.glob, ← h1]
  rw [← h1] at hl
  exact hl

/-- The text is at its end: what is left must be anys alone. -/
theorem MSt.ends (h : MSt fold ns s X s.length) (hl : ∃ m ∈ ns.drop X.length, m.star = false) : glob fold ns s = false := by
  obtain ⟨m, hm, hst⟩ := hl
  have hpos : 0 < ((ns.drop X.length).filter (fun m => !m.star)).length := List.length_pos_of_mem (List.mem_filter.2 ⟨hm, by simp [hst]⟩)
  have hleft : glob fold (ns.drop X.length) (s.drop s.length) = false := by
    rcases hq : glob fold (ns.drop X.length) (s.drop s.length) with _ | _
    · rfl
    · have := glob_len hq
      rw [List.drop_length, List.length_nil] at this
      omega
  rcases hb : back ns X.length with _ | j
  · exact h.lost hb hleft
  · obtain ⟨e, he, hs, hr, hg⟩ := h.some_ j hb
    obtain ⟨b1, b2, b3⟩ := back_some hb
    rcases hq : glob fold ns s with _ | _
    · rfl
    · rw [hg, drop_any b2] at hq
      obtain ⟨i, hi, hq⟩ := (glob_any fold _ _).1 hq
      have h1 := glob_front (k := X.length - j - 1) (fun i hi => by
        obtain ⟨m, c, h1, h2, h3, h4⟩ := hr i hi
        exact ⟨m, h1, h3⟩) hq
      have h2 := glob_len h1.2
      rw [List.drop_drop, show j + 1 + (X.length - j - 1) = X.length by omega] at h2
      have h3 := h1.1
      simp at h2 h3
      omega

/-- Back to the last any: it takes one sign more. -/
theorem MSt.again (h : MSt fold ns s X si) {j e : Nat} (hb : back ns X.length = some j) (he : X[j]? = some e) (hsi : si < s.length) (hl : glob fold (ns.drop X.length) (s.drop si) = false) :
    MSt fold ns s (X.take j ++ [e + 1]) (e + 1) := by
  obtain ⟨e', he', hs, hr, hg⟩ := h.some_ j hb
  rw [he] at he'
  injection he' with he'
  subst he'
  obtain ⟨b1, b2, b3⟩ := back_some hb
  have hn := h.len
  have hlen : (X.take j ++ [e + 1]).length = j + 1 := by simp; omega
  have hbef : ∀ x ∈ X.take j, x ≤ e := by
    intro x hx
    obtain ⟨i, hi, hxi⟩ := List.getElem_of_mem hx
    have hij : i < j := by simp at hi; omega
    rw [List.getElem_take] at hxi
    obtain ⟨hj, hje⟩ := List.getElem?_eq_some_iff.1 he
    have := List.pairwise_iff_getElem.1 h.mono i j (by omega) hj hij
    omega
  refine ⟨by rw [hlen]; omega, by omega, ?_, ?_, ?_, ?_⟩
  · rw [List.pairwise_append]
    refine ⟨h.mono.sublist (List.take_sublist _ _), by simp, fun x hx y hy => ?_⟩
    have := hbef x hx
    simp at hy
    omega
  · intro x hx
    rcases List.mem_append.1 hx with hx | hx
    · have := hbef x hx
      omega
    · simp at hx
      omega
  · intro hq
    rw [hlen, back_any b2] at hq
    cases hq
  · intro j' hj'
    rw [hlen, back_any b2] at hj'
    injection hj' with hj'
    subst hj'
    refine ⟨e + 1, ?_, by rw [hlen]; omega, fun i hi => by rw [hlen] at hi; omega, ?_⟩
    · have hz : j - (X.take j).length = 0 := by simp; omega
      rw [List.getElem?_append_right (by simp; omega), hz]
      rfl
    · rw [hg, drop_any b2]
      have hf : glob fold (ns.drop (j + 1)) (s.drop e) = false := by rw [h.after hb he]; exact hl
      have hd : s.drop e = s[e] :: s.drop (e + 1) := List.drop_eq_getElem_cons (by omega)
      rw [show glob fold (.any :: ns.drop (j + 1)) (s.drop e) = someEnd (glob fold (ns.drop (j + 1))) (s.drop e) by simp [glob],
        show glob fold (.any :: ns.drop (j + 1)) (s.drop (e + 1)) = someEnd (glob fold (ns.drop (j + 1))) (s.drop (e + 1)) by simp [glob]]
      rw [hd] at hf ⊢
      rw [someEnd, hf, Bool.false_or]

theorem MSt.push_any (h : MSt fold ns s X si) (hn : ns[X.length]? = some .any) : MSt fold ns s (X ++ [si]) si := by
  have hlt : X.length < ns.length := (List.getElem?_eq_some_iff.1 hn).1
  refine ⟨by simp; omega, h.le, ?_, ?_, ?_, ?_⟩
  · rw [List.pairwise_append]
    exact ⟨h.mono, by simp, fun x hx y hy => by simp at hy; subst hy; exact h.top x hx⟩
  · intro x hx
    rcases List.mem_append.1 hx with hx | hx
    · exact h.top x hx
    · simp at hx; omega
  · intro hq
    rw [List.length_append, List.length_singleton, back_any hn] at hq
    cases hq
  · intro j hj
    rw [List.length_append, List.length_singleton, back_any hn] at hj
    injection hj with hj
    subst hj
    refine ⟨si, by simp, by simp, fun i hi => by simp at hi, ?_⟩
    rcases hb : back ns X.length with _ | j
    · obtain ⟨h1, h2⟩ := h.none_ hb
      rw [h2.glob, ← h1]
    · obtain ⟨e, he, hs, hr, hg⟩ := h.some_ j hb
      obtain ⟨b1, b2, b3⟩ := back_some hb
      rcases hq : glob fold (ns.drop X.length) (s.drop si) with _ | _
      · rcases hq2 : glob fold ns s with _ | _
        · rfl
        · rw [hg, drop_any b2] at hq2
          obtain ⟨i, hi, hq2⟩ := (glob_any fold _ _).1 hq2
          have h1 := glob_front (k := X.length - j - 1) (fun i hi => by
            obtain ⟨m, c, h1, h2, h3, h4⟩ := hr i hi
            exact ⟨m, h1, h3⟩) hq2
          have h2 := h1.2
          rw [List.drop_drop, List.drop_drop, List.drop_drop, show j + 1 + (X.length - j - 1) = X.length by omega, drop_any hn] at h2
          have h3 := glob_any_mono (i := si) (by omega) h2
          rw [drop_any hn] at hq
          rw [hq] at h3
          cases h3
      · exact (h.won hq)

theorem Run.snoc {ms : List MN} {t : List UInt8} {k : Nat} (h : Run fold ms t k) {m : MN} {c : UInt8} (hm : ms[k]? = some m) (hc : t[k]? = some c) (hs : m.star = false) (he : m.eats fold c.toNat = true) : Run fold ms t (k + 1) := by
  intro i hi
  by_cases hk : i = k
  · subst hk
    exact ⟨m, c, hm, hc, hs, he⟩
  · exact h i (by omega)

theorem MSt.push_rune (h : MSt fold ns s X si) {o k : Int} {c : UInt8} (hn : ns[X.length]? = some (.rune o k)) (hc : s[si]? = some c) (he : MN.eats fold (.rune o k) c.toNat = true) : MSt fold ns s (X ++ [si + 1]) (si + 1) := by
  have hlt : X.length < ns.length := (List.getElem?_eq_some_iff.1 hn).1
  have hsl : si < s.length := (List.getElem?_eq_some_iff.1 hc).1
  refine ⟨by simp; omega, by omega, ?_, ?_, ?_, ?_⟩
  · rw [List.pairwise_append]
    exact ⟨h.mono, by simp, fun x hx y hy => by have := h.top x hx; simp at hy; omega⟩
  · intro x hx
    rcases List.mem_append.1 hx with hx | hx
    · have := h.top x hx; omega
    · simp at hx; omega
  · intro hq
    rw [List.length_append, List.length_singleton, back_rune hn] at hq
    obtain ⟨h1, h2⟩ := h.none_ hq
    refine ⟨by simp [h1], ?_⟩
    rw [List.length_append, List.length_singleton]
    exact h2.snoc hn (by rw [← h1]; exact hc) rfl he
  · intro j hj
    rw [List.length_append, List.length_singleton, back_rune hn] at hj
    obtain ⟨e, he', hs, hr, hg⟩ := h.some_ j hj
    obtain ⟨b1, b2, b3⟩ := back_some hj
    refine ⟨e, by rw [List.getElem?_append_left (by omega)]; exact he', by simp; omega, ?_, hg⟩
    rw [List.length_append, List.length_singleton, show X.length + 1 - j - 1 = X.length - j - 1 + 1 by omega]
    refine hr.snoc (m := .rune o k) (c := c) ?_ ?_ rfl he
    · rw [List.getElem?_drop, show j + 1 + (X.length - j - 1) = X.length by omega]; exact hn
    · rw [List.getElem?_drop, ← hs]; exact hc

/-- How much is left to be done. -/
def todo (ns : List MN) (s : List UInt8) (X : List Nat) : Nat :=
  (s.length - (match back ns X.length with | none => 0 | some j => X.getD j 0)) * (ns.length + 1) + (ns.length - X.length)

theorem todo_again (h : MSt fold ns s X si) {j e : Nat} (hb : back ns X.length = some j) (he : X[j]? = some e) (hsi : si < s.length) : todo ns s (X.take j ++ [e + 1]) < todo ns s X := by
  obtain ⟨b1, b2, b3⟩ := back_some hb
  have hn := h.len
  have hlen : (X.take j ++ [e + 1]).length = j + 1 := by simp; omega
  have he1 : e ≤ si := h.top e (List.mem_of_getElem? he)
  have hg : (X.take j ++ [e + 1]).getD j 0 = e + 1 := by
    rw [List.getD_eq_getElem?_getD, List.getElem?_append_right (by simp; omega)]
    have : j - min j X.length = 0 := by omega
    simp [this]
  have hg2 : X.getD j 0 = e := by rw [List.getD_eq_getElem?_getD, he]; rfl
  unfold todo
  rw [hlen, back_any b2, hb]
  simp only [hg, hg2]
  have : s.length - e = (s.length - (e + 1)) + 1 := by omega
  rw [this, Nat.add_mul]
  omega

theorem todo_any (h : MSt fold ns s X si) (hn : ns[X.length]? = some .any) : todo ns s (X ++ [si]) < todo ns s X := by
  have hlt : X.length < ns.length := (List.getElem?_eq_some_iff.1 hn).1
  have hle : (match back ns X.length with | none => 0 | some j => X.getD j 0) ≤ si := by
    split
    · omega
    · rename_i j hj
      obtain ⟨e, he, _⟩ := h.some_ j hj
      rw [List.getD_eq_getElem?_getD, he]
      exact h.top e (List.mem_of_getElem? he)
  unfold todo
  rw [List.length_append, List.length_singleton, back_any hn]
  have hg : (X ++ [si]).getD X.length 0 = si := by simp
  simp only [hg]
  have := Nat.mul_le_mul_right (ns.length + 1) (Nat.sub_le_sub_left hle s.length)
  omega

theorem todo_rune (h : MSt fold ns s X si) {o k : Int} (hn : ns[X.length]? = some (.rune o k)) (x : Nat) : todo ns s (X ++ [x]) < todo ns s X := by
  have hlt : X.length < ns.length := (List.getElem?_eq_some_iff.1 hn).1
  unfold todo
  rw [List.length_append, List.length_singleton, back_rune hn]
  rcases hb : back ns X.length with _ | j
  · simp only
    omega
  · have b1 := (back_some hb).1
    have hg : (X ++ [x]).getD j 0 = X.getD j 0 := by
      rw [List.getD_eq_getElem?_getD, List.getD_eq_getElem?_getD, List.getElem?_append_left b1]
    simp only [hg]
    omega
end

end Go.Proofs.YtbfadghogjldcaaDoor

/- What is found, in order, in plain Lean. -/
import Derived.Test.YtbfadghogjldcaaDoorTreeOk
import Derived.Test.YtbfadghogjldcaaDoorRun
namespace Go.Proofs.YtbfadghogjldcaaDoor
set_option linter.unusedVariables false
set_option linter.unusedSimpArgs false

abbrev Txt := List UInt8
/-- Ascending. -/
def Asc (L : List Txt) : Prop := L.Pairwise fun x y => x ≤ y
theorem srt_asc (L : List Txt) : Asc (srt L) := by
  have h := List.pairwise_mergeSort (le := fun x y : Txt => decide (x ≤ y)) (fun a b c h1 h2 => by simp at h1 h2 ⊢; exact List.le_trans h1 h2) (fun a b => by simpa using List.le_total a b) L
  exact h.imp fun h => by simpa using h
theorem asc_unique {L M : List Txt} (hL : Asc L) (hM : Asc M) (h : L.Perm M) : L = M :=
  List.Perm.eq_of_pairwise (le := fun x y => x ≤ y) (fun a b _ _ h1 h2 => List.le_antisymm h1 h2) hL hM h
theorem srt_eq {L M : List Txt} (h : L.Perm M) : srt L = srt M := asc_unique (srt_asc L) (srt_asc M) (((srt_perm L).trans h).trans (srt_perm M).symm)
theorem srt_of_asc {L M : List Txt} (hM : Asc M) (h : L.Perm M) : srt L = M := asc_unique (srt_asc L) hM ((srt_perm L).trans h)

theorem append_le (p : Txt) {x y : Txt} (h : x ≤ y) : p ++ x ≤ p ++ y := by
  induction p with
  | nil => simpa using h
  | cons a p ih => simpa [List.cons_le_cons_iff] using ih
theorem srt_map (p : Txt) (L : List Txt) : srt (L.map (p ++ ·)) = (srt L).map (p ++ ·) := by
  refine srt_of_asc ?_ ((srt_perm L).map _).symm
  unfold Asc
  rw [List.pairwise_map]
  exact (srt_asc L).imp fun h => append_le p h

mutual
theorem found_prefix (f : Txt → Bool) : ∀ (t : JT) (p q : Txt), found f t (p ++ q) = (found f t q).map (p ++ ·)
  | .leaf k s, p, q => by simp only [found]; split <;> simp
  | .arr items, p, q => by simp only [found]; exact foundA_prefix f items p q 0
  | .obj names items, p, q => by simp only [found]; exact foundO_prefix f items names p q
theorem foundA_prefix (f : Txt → Bool) : ∀ (ts : List JT) (p q : Txt) (i : Nat), foundA f ts (p ++ q) i = (foundA f ts q i).map (p ++ ·)
  | [], p, q, i => by simp [foundA]
  | t :: ts, p, q, i => by
    simp only [foundA, List.map_append]
    rw [show stepA (p ++ q) i = p ++ stepA q i by simp [stepA], found_prefix f t p (stepA q i), foundA_prefix f ts p q (i + 1)]
theorem foundO_prefix (f : Txt → Bool) : ∀ (ts : List JT) (ns : List Txt) (p q : Txt), foundO f ts ns (p ++ q) = (foundO f ts ns q).map (p ++ ·)
  | [], ns, p, q => by simp [foundO]
  | t :: ts, [], p, q => by simp [foundO]
  | t :: ts, n :: ns, p, q => by
    simp only [foundO, List.map_append]
    rw [show stepO (p ++ q) n = p ++ stepO q n by simp [stepO], found_prefix f t p (stepO q n), foundO_prefix f ts ns p q]
end
theorem found_at (f : Txt → Bool) (t : JT) (p : Txt) : found f t p = (found f t []).map (p ++ ·) := by
  have := found_prefix f t p []
  simpa using this

mutual
theorem found_room (f : Txt → Bool) : ∀ (t : JT) (p : Txt), t.ok → ∀ x ∈ found f t p, x.length ≤ p.length + t.room
  | .leaf k s, p, hok => by
    intro x hx
    simp only [found] at hx
    split at hx
    · simp at hx; subst hx; omega
    · simp at hx
  | .arr items, p, hok => by
    intro x hx
    simp only [found] at hx
    have := foundA_room f items p 0 hok.2 (by have := hok.1; omega) x hx
    simp only [JT.room]
    omega
  | .obj names items, p, hok => by
    intro x hx
    simp only [found] at hx
    have := foundO_room f items names p hok.2.2.2 x hx
    simp only [JT.room]
    omega
theorem foundA_room (f : Txt → Bool) : ∀ (ts : List JT) (p : Txt) (i : Nat), JT.oks ts → ts.length + i ≤ 8 → ∀ x ∈ foundA f ts p i, x.length ≤ p.length + 3 + JT.rooms ts
  | [], p, i, hok, hl => by simp [foundA]
  | t :: ts, p, i, hok, hl => by
    intro x hx
    simp only [foundA, List.mem_append] at hx
    simp only [JT.rooms]
    simp at hl
    rcases hx with hx | hx
    · have := found_room f t _ hok.1 x hx
      rw [stepA_len p (by omega)] at this
      omega
    · have := foundA_room f ts p (i + 1) hok.2 (by omega) x hx
      omega
theorem foundO_room (f : Txt → Bool) : ∀ (ts : List JT) (ns : List Txt) (p : Txt), JT.oks ts → ∀ x ∈ foundO f ts ns p, x.length ≤ p.length + 1 + (ns.map List.length).sum + JT.rooms ts
  | [], ns, p, hok => by simp [foundO]
  | t :: ts, [], p, hok => by simp [foundO]
  | t :: ts, n :: ns, p, hok => by
    intro x hx
    simp only [foundO, List.mem_append] at hx
    simp only [JT.rooms, List.map_cons, List.sum_cons]
    rcases hx with hx | hx
    · have := found_room f t _ hok.1 x hx
      rw [stepO_len p n] at this
      omega
    · have := foundO_room f ts ns p hok.2 x hx
      omega
end

end Go.Proofs.YtbfadghogjldcaaDoor

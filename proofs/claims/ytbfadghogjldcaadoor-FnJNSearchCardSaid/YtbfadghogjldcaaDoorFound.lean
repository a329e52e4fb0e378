/- What is found in a value, in plain Lean. -/
import Derived.Test.YtbfadghogjldcaaDoorPlain
namespace Go.Proofs.YtbfadghogjldcaaDoor
set_option linter.unusedVariables false
set_option linter.unusedSimpArgs false

def stepA (p : List UInt8) (i : Nat) : List UInt8 := p ++ [91] ++ digits i ++ [93]
def stepO (p name : List UInt8) : List UInt8 := p ++ [46] ++ name

mutual
/-- The paths of the texts that f takes. -/
def found (f : List UInt8 → Bool) : JT → List UInt8 → List (List UInt8)
  | .leaf k s, p => if k = 3 ∧ f s = true then [p] else []
  | .arr items, p => foundA f items p 0
  | .obj names items, p => foundO f items names p
def foundA (f : List UInt8 → Bool) : List JT → List UInt8 → Nat → List (List UInt8)
  | [], p, i => []
  | t :: ts, p, i => found f t (stepA p i) ++ foundA f ts p (i + 1)
def foundO (f : List UInt8 → Bool) : List JT → List (List UInt8) → List UInt8 → List (List UInt8)
  | [], ns, p => []
  | t :: ts, [], p => []
  | t :: ts, n :: ns, p => found f t (stepO p n) ++ foundO f ts ns p
end

mutual
/-- Texts of ASCII, none long. -/
def JT.asc : JT → Prop
  | .leaf k s => s.length ≤ 1000 ∧ ∀ c ∈ s, c.toNat < 128
  | .arr items => JT.ascs items
  | .obj names items => JT.ascs items
def JT.ascs : List JT → Prop
  | [] => True
  | t :: ts => JT.asc t ∧ JT.ascs ts
end
theorem JT.ascs_at : ∀ (ts : List JT) (t : JT), JT.ascs ts → t ∈ ts → JT.asc t
  | [], t, _, h => by simp at h
  | t' :: ts, t, h, hi => by
    rcases List.mem_cons.1 hi with rfl | hi
    · exact h.1
    · exact JT.ascs_at ts t h.2 hi

mutual
/-- How many leaves. -/
def JT.leaves : JT → Nat
  | .leaf k s => 1
  | .arr items => JT.leavess items
  | .obj names items => JT.leavess items
def JT.leavess : List JT → Nat
  | [] => 0
  | t :: ts => JT.leaves t + JT.leavess ts
end
theorem JT.leavess_at : ∀ (ts : List JT) (t : JT), t ∈ ts → JT.leaves t ≤ JT.leavess ts
  | [], t, h => by simp at h
  | t' :: ts, t, hi => by
    rcases List.mem_cons.1 hi with rfl | hi
    · simp [JT.leavess]
    · have := JT.leavess_at ts t hi
      simp [JT.leavess]
      omega
theorem JT.leavess_append : ∀ (ts us : List JT), JT.leavess (ts ++ us) = JT.leavess ts + JT.leavess us
  | [], us => by simp [JT.leavess]
  | t :: ts, us => by simp [JT.leavess, JT.leavess_append ts us]; omega

mutual
theorem found_len (f : List UInt8 → Bool) : ∀ (t : JT) (p : List UInt8), (found f t p).length ≤ t.leaves
  | .leaf k s, p => by simp only [found, JT.leaves]; split <;> simp
  | .arr items, p => by simp only [found, JT.leaves]; exact foundA_len f items p 0
  | .obj names items, p => by simp only [found, JT.leaves]; exact foundO_len f items names p
theorem foundA_len (f : List UInt8 → Bool) : ∀ (ts : List JT) (p : List UInt8) (i : Nat), (foundA f ts p i).length ≤ JT.leavess ts
  | [], p, i => by simp [foundA]
  | t :: ts, p, i => by
    simp only [foundA, JT.leavess, List.length_append]
    have := found_len f t (stepA p i)
    have := foundA_len f ts p (i + 1)
    omega
theorem foundO_len (f : List UInt8 → Bool) : ∀ (ts : List JT) (ns : List (List UInt8)) (p : List UInt8), (foundO f ts ns p).length ≤ JT.leavess ts
  | [], ns, p => by simp [foundO]
  | t :: ts, [], p => by simp [foundO]
  | t :: ts, n :: ns, p => by
    simp only [foundO, JT.leavess, List.length_append]
    have := found_len f t (stepO p n)
    have := foundO_len f ts ns p
    omega
end

theorem foundA_snoc (f : List UInt8 → Bool) (t : JT) (p : List UInt8) : ∀ (ts : List JT) (i : Nat), foundA f (ts ++ [t]) p i = foundA f ts p i ++ found f t (stepA p (i + ts.length))
  | [], i => by simp [foundA]
  | t' :: ts, i => by
    simp only [List.cons_append, foundA, foundA_snoc f t p ts (i + 1), List.append_assoc, List.length_cons]
    rw [show i + 1 + ts.length = i + (ts.length + 1) by omega]

/-- What is found at the i-th name. -/
def foundAt (f : List UInt8 → Bool) (items : List JT) (names : List (List UInt8)) (p : List UInt8) (i : Nat) : List (List UInt8) :=
  match items[i]?, names[i]? with
  | some t, some n => found f t (stepO p n)
  | _, _ => []

theorem foundO_at (f : List UInt8 → Bool) : ∀ (items : List JT) (names : List (List UInt8)) (p : List UInt8), names.length = items.length → foundO f items names p = (List.range items.length).flatMap (foundAt f items names p)
  | [], ns, p, _ => by simp [foundO]
  | t :: ts, [], p, h => by simp at h
  | t :: ts, n :: ns, p, h => by
    simp only [foundO, List.length_cons, List.range_succ_eq_map, List.flatMap_cons, List.flatMap_map]
    rw [foundO_at f ts ns p (by simpa using h)]
    congr 1

/-- What has been found so far: all of it; or, where one is asked for, none. -/
def Mid (once : Bool) (L F : List (List UInt8)) : Prop := if once = true then F = [] ∧ L = [] else L.Perm F
/-- What is answered: all of it; or one of them, and no further look. -/
def Told (once : Bool) (L : List (List UInt8)) (stop : Bool) (F : List (List UInt8)) : Prop :=
  (stop = false ∧ Mid once L F) ∨ (once = true ∧ stop = true ∧ ∃ p ∈ F, L = [p])

theorem Mid.nil (once : Bool) : Mid once [] [] := by unfold Mid; split <;> simp
theorem Mid.append {once : Bool} {L F L' F' : List (List UInt8)} (h : Mid once L F) (h' : Mid once L' F') : Mid once (L ++ L') (F ++ F') := by
  unfold Mid at *
  split at h
  · obtain ⟨rfl, rfl⟩ := h
    rename_i ho
    simp only [ho, if_true] at h' ⊢
    simpa using h'
  · rename_i ho
    simp only [ho] at h' ⊢
    exact List.Perm.append h h'
theorem Mid.len {once : Bool} {L F : List (List UInt8)} (h : Mid once L F) : L.length ≤ F.length := by
  unfold Mid at h
  split at h
  · obtain ⟨rfl, rfl⟩ := h
    simp
  · rw [h.length_eq]; exact Nat.le_refl _
theorem Mid.perm {once : Bool} {L F F' : List (List UInt8)} (h : Mid once L F) (hp : F.Perm F') : Mid once L F' := by
  unfold Mid at *
  split at h
  · obtain ⟨rfl, rfl⟩ := h
    have := hp.symm.eq_nil
    subst this
    simp_all
  · simp_all
    exact h.trans hp

mutual
/-- How much longer a path may become. -/
def JT.room : JT → Nat
  | .leaf k s => 0
  | .arr items => 3 + JT.rooms items
  | .obj names items => 1 + (names.map List.length).sum + JT.rooms items
def JT.rooms : List JT → Nat
  | [] => 0
  | t :: ts => JT.room t + JT.rooms ts
end
theorem JT.rooms_at : ∀ (ts : List JT) (t : JT), t ∈ ts → JT.room t ≤ JT.rooms ts
  | [], t, h => by simp at h
  | t' :: ts, t, hi => by
    rcases List.mem_cons.1 hi with rfl | hi
    · simp [JT.rooms]
    · have := JT.rooms_at ts t hi
      simp [JT.rooms]
      omega
theorem names_at : ∀ (ns : List (List UInt8)) (n : List UInt8), n ∈ ns → n.length ≤ (ns.map List.length).sum
  | [], n, h => by simp at h
  | n' :: ns, n, hi => by
    rcases List.mem_cons.1 hi with rfl | hi
    · simp
    · have := names_at ns n hi
      simp
      omega
theorem stepA_len (p : List UInt8) {i : Nat} (h : i < 10) : (stepA p i).length = p.length + 3 := by
  simp [stepA, digits_small h]
theorem stepO_len (p n : List UInt8) : (stepO p n).length = p.length + 1 + n.length := by
  simp [stepO]; omega

theorem digits_8 {i : Nat} (h : i < 8) : digits i = [(48 + i).toUInt8] := digits_small (by omega)

end Go.Proofs.YtbfadghogjldcaaDoor

/- The made values in plain Lean: they are well formed and small. -/
import Derived.Test.YtbfadghogjldcaaDoorPat
import Derived.Test.YtbfadghogjldcaaDoorFound
namespace Go.Proofs.YtbfadghogjldcaaDoor
set_option linter.unusedVariables false
set_option linter.unusedSimpArgs false

/-- What is asked of a value. -/
structure Good (t : JT) (n r : Nat) : Prop where
  ok : t.ok
  asc : t.asc
  leaves : t.leaves ≤ n
  room : t.room ≤ r

theorem Good.mono {t : JT} {n r n' r' : Nat} (h : Good t n r) (hn : n ≤ n') (hr : r ≤ r') : Good t n' r' := ⟨h.ok, h.asc, Nat.le_trans h.leaves hn, Nat.le_trans h.room hr⟩

theorem goods {n r : Nat} : ∀ ts : List JT, (∀ t ∈ ts, Good t n r) → JT.oks ts ∧ JT.ascs ts ∧ JT.leavess ts ≤ ts.length * n ∧ JT.rooms ts ≤ ts.length * r
  | [], _ => ⟨trivial, trivial, by simp [JT.leavess], by simp [JT.rooms]⟩
  | t :: ts, h => by
    obtain ⟨h1, h2, h3, h4⟩ := goods ts (fun x hx => h x (by simp [hx]))
    have ht := h t (by simp)
    refine ⟨⟨ht.ok, h1⟩, ⟨ht.asc, h2⟩, ?_, ?_⟩
    · have := ht.leaves
      simp only [JT.leavess, List.length_cons, Nat.add_mul]
      omega
    · have := ht.room
      simp only [JT.rooms, List.length_cons, Nat.add_mul]
      omega

theorem digits_ascii : ∀ (k n : Nat), n < 10 ^ k → ∀ c ∈ digits n, c.toNat < 128
  | 0, n, h => by
    rw [digits_small (by simp at h; omega)]
    intro c hc
    simp at hc h
    subst hc h
    decide
  | k + 1, n, h => by
    have hd : ∀ m, m < 10 → ((48 + m).toUInt8).toNat < 128 := by
      intro m hm
      rw [Nat.toUInt8, UInt8.toNat_ofNat']
      omega
    by_cases hn : n < 10
    · rw [digits_small hn]
      intro c hc
      simp only [List.mem_singleton] at hc
      subst hc
      exact hd n hn
    · rw [digits_more hn]
      intro c hc
      rcases List.mem_append.1 hc with hc | hc
      · exact digits_ascii k (n / 10) (by rw [Nat.pow_succ] at h; omega) c hc
      · simp only [List.mem_singleton] at hc
        subst hc
        exact hd (n % 10) (by omega)

theorem leaf_good (k : Nat) (s : List UInt8) (hk : k ≤ 3) (hs : s.length ≤ 1000) (hb : ∀ c ∈ s, c.toNat < 128) : Good (.leaf k s) 1 0 :=
  ⟨hk, ⟨hs, hb⟩, by simp [JT.leaves], by simp [JT.room]⟩

theorem leafNode_good (k : Int) (code : List UInt8) (left : Int) : Good (leafNode k code left).1 1 0 := by
  unfold leafNode
  have h1 := hd_0 code
  have h2 := hd_255 code
  split
  · exact leaf_good _ _ (by decide) (by have := text_len code; omega) (text_ascii code)
  · split
    · refine leaf_good _ _ (by decide) ?_ (digits_ascii 3 _ (by omega))
      have := digits_len 3 (hd code).toNat (by omega)
      omega
    · split
      · refine leaf_good _ _ (by decide) ?_ ?_
        · unfold truth; split <;> simp
        · unfold truth; split <;> decide
      · exact leaf_good _ _ (by decide) (by simp) (by simp)

theorem many_len (f : List UInt8 → Int → JT × List UInt8 × Int) : ∀ (n : Nat) (code : List UInt8) (left : Int), (many f n code left).1.length = n
  | 0, _, _ => rfl
  | n + 1, code, left => by simp [many, many_len f n]
theorem many_all {P : JT → Prop} (f : List UInt8 → Int → JT × List UInt8 × Int) (hf : ∀ code left, P (f code left).1) : ∀ (n : Nat) (code : List UInt8) (left : Int), ∀ t ∈ (many f n code left).1, P t
  | 0, _, _, t, h => by simp [many] at h
  | n + 1, code, left, t, h => by
    simp only [many, List.mem_cons] at h
    rcases h with rfl | h
    · exact hf _ _
    · exact many_all f hf n _ _ t h

theorem names_len (n : Nat) : (namesTo n).length = n := by simp [namesTo]
theorem names_nodup (n : Nat) (h : n ≤ 4) : (namesTo n).Nodup := by
  match n, h with
  | 0, _ => decide
  | 1, _ => decide
  | 2, _ => decide
  | 3, _ => decide
  | 4, _ => decide
theorem names_sum (n : Nat) (h : n ≤ 4) : ((namesTo n).map List.length).sum = n := by
  match n, h with
  | 0, _ => decide
  | 1, _ => decide
  | 2, _ => decide
  | 3, _ => decide
  | 4, _ => decide

/-- At most 5 to the power of d leaves. -/
theorem node_good : ∀ (d : Nat) (code : List UInt8) (left : Int), Good (node d code left).1 (5 ^ d) (10 * 5 ^ d)
  | 0, code, left => (leafNode_good _ _ _).mono (by simp) (by simp)
  | d + 1, code, left => by
    have hpos : 1 ≤ 5 ^ d := Nat.one_le_pow _ _ (by decide)
    have hle : 1 ≤ 5 ^ (d + 1) := Nat.one_le_pow _ _ (by decide)
    have h1 := hd_0 code.tail
    have h2 : (hd code.tail % 5).toNat ≤ 4 := by omega
    have hp : 5 ^ (d + 1) = 5 ^ d * 5 := Nat.pow_succ ..
    unfold node
    split
    · exact (leafNode_good _ _ _).mono hle (by omega)
    · split
      · exact (leafNode_good _ _ _).mono hle (by omega)
      · generalize (hd code.tail % 5).toNat = n at h2
        have hl := many_len (node d) n code.tail.tail (w64 (left - 1))
        have hg := goods _ (many_all (P := fun t => Good t (5 ^ d) (10 * 5 ^ d)) (node d) (fun c l => node_good d c l) n code.tail.tail (w64 (left - 1)))
        rw [hl] at hg
        obtain ⟨g1, g2, g3, g4⟩ := hg
        have hm1 : n * 5 ^ d ≤ 4 * 5 ^ d := Nat.mul_le_mul_right _ h2
        have hm2 : n * (10 * 5 ^ d) ≤ 4 * (10 * 5 ^ d) := Nat.mul_le_mul_right _ h2
        split
        · refine ⟨⟨by rw [hl]; omega, by rw [hl, names_len], names_nodup n h2, g1⟩, g2, ?_, ?_⟩
          · simp only [JT.leaves]
            omega
          · simp only [JT.room, names_sum n h2]
            omega
        · refine ⟨⟨by rw [hl]; omega, g1⟩, g2, ?_, ?_⟩
          · simp only [JT.leaves]
            omega
          · simp only [JT.room]
            omega

end Go.Proofs.YtbfadghogjldcaaDoor

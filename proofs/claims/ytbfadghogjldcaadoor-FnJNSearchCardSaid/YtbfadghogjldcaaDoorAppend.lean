/- append onto a row of the call's own, whatever the source reads. -/
import Derived.Test.YtbfadghogjldcaaDoorBase
import Derived.Maps.AppendAt
namespace Go.Proofs.YtbfadghogjldcaaDoor
open Go.RowKit

theorem info9 : (Tryd.prog.info? 9).map (fun i => (i.zero, i.size, i.bytes)) = some (some (.string ⟨#[]⟩), 1, 16) := by kernel_rfl
theorem info30 : (Tryd.prog.info? 30).map (fun i => (i.zero, i.size, i.bytes)) = some (some (.agg #[.int .i64 0, .string ⟨#[]⟩, .slice none 0 0, .slice none 0 0]), 4, 72) := by kernel_rfl
theorem info20 : (Tryd.prog.info? 20).map (fun i => (i.zero, i.size, i.bytes)) = some (some .nilIface, 1, 16) := by kernel_rfl
theorem info88 : (Tryd.prog.info? 88).map (fun i => (i.zero, i.size, i.bytes)) = some (some .nilIface, 1, 16) := by kernel_rfl
theorem info3 : (Tryd.prog.info? 3).map (fun i => (i.zero, i.size, i.bytes)) = some (some (.int .i64 0), 1, 8) := by kernel_rfl

/-- A slice type t and its element type. -/
def Elem (t e : TypeId) (size : Nat) : Prop :=
  Tryd.prog.underlying t = some (.slice e) ∧ ∃ i z bytes, Tryd.prog.info? e = some i ∧ i.zero = some z ∧ i.size = size ∧ i.bytes = bytes ∧ z.cells.size = size ∧ 0 < size ∧ bytes ≤ 100

theorem elem27 : Elem 27 9 1 := by
  obtain ⟨i, h1, h2, h3, h4⟩ := info_parts info9
  exact ⟨Tryd.underlying27, i, _, 16, h1, h2, h3, h4, rfl, by decide, by decide⟩
theorem elem28 : Elem 28 30 4 := by
  obtain ⟨i, h1, h2, h3, h4⟩ := info_parts info30
  exact ⟨Tryd.underlying28, i, _, 72, h1, h2, h3, h4, rfl, by decide, by decide⟩
theorem elem66 : Elem 66 20 1 := by
  obtain ⟨i, h1, h2, h3, h4⟩ := info_parts info20
  exact ⟨Tryd.underlying66, i, _, 16, h1, h2, h3, h4, rfl, by decide, by decide⟩
theorem elem58 : Elem 58 88 1 := by
  obtain ⟨i, h1, h2, h3, h4⟩ := info_parts info88
  exact ⟨Tryd.underlying58, i, _, 16, h1, h2, h3, h4, rfl, by decide, by decide⟩
theorem elem83 : Elem 83 3 1 := by
  obtain ⟨i, h1, h2, h3, h4⟩ := info_parts info3
  exact ⟨Tryd.underlying83, i, _, 8, h1, h2, h3, h4, rfl, by decide, by decide⟩

/-- The form of a value that owns a row. -/
theorem own_form {w : World} {base : Nat} {e : TypeId} {size : Nat} {v : Value} {n : Nat} {xs : List Value} (h : w.ownsRow base e size v n xs) : ∃ A c, v = .slice A n c ∧ n ≤ c := by
  rcases h.2 with ⟨rfl, rfl⟩ | ⟨g, cap, cur, rfl, _, _, hc, _⟩
  · exact ⟨none, 0, rfl, Nat.le_refl _⟩
  · exact ⟨_, _, rfl, hc⟩

section
variable {t e : TypeId} {size : Nat} {base n : Nat} {v : Value} {xs news : List Value} {P : Nat → Prop} {A : Option Addr} {m c : Nat}

set_option maxRecDepth 100000 in
theorem run_app (w : World) (hE : Elem t e size) (ty : TypeId) (hown : w.ownsRow base e size v n xs) (hr : Reads w P size A m news) (h1 : ∀ u ∈ news, u.oneCell' = true)
    (hn : n + m ≤ 1000000) (hbase : base ≤ w.heap.size) :
    ∃ A' c' w', (Builtin.append_ #[t, t] ty #[v, .slice A m c]).run Tryd.prog w = .ok (.slice A' (n + m) c') w' ∧ w'.ownsRow base e size (.slice A' (n + m) c') (n + m) (xs ++ news) ∧
      w.grownBy w' v.ownBlock ∧ (Value.ownBlock (.slice A' (n + m) c') = v.ownBlock ∨ Value.ownBlock (.slice A' (n + m) c') = some w.heap.size) := by
  obtain ⟨ht, i, z, bytes, hi, hz, hs, hby, hzs, hpos, hb⟩ := hE
  have h63 : n + m ≤ maxLen := by unfold maxLen; omega
  have hbytes : (n + m) * bytes ≤ 140737488355328 := Nat.le_trans (Nat.mul_le_mul hn hb) (by decide)
  have hnil : m = 0 → news = [] := fun h0 => List.eq_nil_of_length_eq_zero (by rw [hr.1, h0]; simp)
  rcases A with _ | ad
  · obtain rfl : m = 0 := by
      rcases Nat.eq_zero_or_pos m with h0 | h0
      · exact h0
      · obtain ⟨ad, h, _⟩ := hr.2 h0
        cases h
    obtain rfl := hnil rfl
    obtain ⟨A', c', rfl, hc⟩ := own_form hown
    refine ⟨A', c', w, ?_, by simpa using hown, grownBy_refl _ _, .inl rfl⟩
    rcases hown.2 with ⟨hv, rfl⟩ | ⟨g, cap, cur, hv, _, _, hnc, _⟩
    · injection hv with h1 h2 h3
      subst h1 h3
      simp [Builtin.append_, run_underlying ht, sizeOf, typeInfo, hi, Builtin.lenOf, Builtin.firstCells]
    · injection hv with h1 h2 h3
      subst h1 h3
      simp [Builtin.append_, run_underlying ht, sizeOf, typeInfo, hi, Builtin.lenOf, Builtin.firstCells, hnc, storeCells]
  · have hc : ∀ j u, news[j]? = some u → w.cell? (ad.add j) = some u := by
      intro j u hu
      rcases Nat.eq_zero_or_pos m with h0 | h0
      · rw [hnil h0] at hu
        simp at hu
      · obtain ⟨ad', h, _, hc⟩ := hr.2 h0
        injection h with h
        subst h
        exact hc j u hu
    obtain ⟨v', w', hrun, h2, h3, _, h5⟩ := run_append_own_at (P := Tryd.prog) w base t ty e i z size bytes ht hi hz hs hby hzs hpos v n xs hown ad m c news hr.1 hc h1 h63 hbytes hbase
    obtain ⟨A', c', rfl, _⟩ := own_form h2
    exact ⟨A', c', w', hrun, h2, h3, h5⟩

theorem wp_app {w : World} {o : Oper} {a : Act} {K : Act → World → Prop} {Q : Exit → Act → World → Prop} (s x : Operand)
    (ho : o.op = .call { callee := .builtin .append, args := #[s, x], argTypes := #[t, t] })
    (hE : Elem t e size) (hs : a.eval s = v) (hown : w.ownsRow base e size v n xs) (hx : a.eval x = .slice A m c) (hr : Reads w P size A m news) (h1 : ∀ u ∈ news, u.oneCell' = true)
    (hn : n + m ≤ 1000000) (hbase : base ≤ w.heap.size)
    (h : ∀ A' c' w', w'.ownsRow base e size (.slice A' (n + m) c') (n + m) (xs ++ news) → w.grownBy w' v.ownBlock → (Value.ownBlock (.slice A' (n + m) c') = v.ownBlock ∨ Value.ownBlock (.slice A' (n + m) c') = some w.heap.size) →
      K (a.put o.dst (.slice A' (n + m) c')) w') : o.wp Tryd.prog a w K Q := by
  obtain ⟨A', c', w', hrun, h2, h3, h4⟩ := run_app (c := c) w hE o.type hown hr h1 hn hbase
  unfold Oper.wp execOp
  simp only [ho, resolve, invoke, builtin, Sem.run_bind, Sem.run_pure, Result.andThen_ok, List.map_toArray, List.map_cons, List.map_nil, hs, hx, hrun]
  exact h A' c' w' h2 h3 h4

theorem wpList_app {w : World} {ops : Array Oper} {rest : List Oper} {o : Oper} {a : Act} {Q : Exit → Act → World → Prop} (hgd : o.guard = none) (s x : Operand)
    (ho : o.op = .call { callee := .builtin .append, args := #[s, x], argTypes := #[t, t] })
    (hE : Elem t e size) (hs : a.eval s = v) (hown : w.ownsRow base e size v n xs) (hx : a.eval x = .slice A m c) (hr : Reads w P size A m news) (h1 : ∀ u ∈ news, u.oneCell' = true)
    (hn : n + m ≤ 1000000) (hbase : base ≤ w.heap.size)
    (h : ∀ A' c' w', w'.ownsRow base e size (.slice A' (n + m) c') (n + m) (xs ++ news) → w.grownBy w' v.ownBlock → (Value.ownBlock (.slice A' (n + m) c') = v.ownBlock ∨ Value.ownBlock (.slice A' (n + m) c') = some w.heap.size) →
      wpList Tryd.prog ops Q rest (a.put o.dst (.slice A' (n + m) c')) w') : wpList Tryd.prog ops Q (o :: rest) a w :=
  wpList_plain hgd fun _ hK => wp_app s x ho hE hs hown hx hr h1 hn hbase fun A' c' w' h2 h3 h4 => hK _ _ (h A' c' w' h2 h3 h4)

theorem step_app {w : World} {ops : Array Oper} {o : Oper} {a : Act} {K : Act → World → Prop} {Q : Exit → Act → World → Prop} {E : Prop} (hgd : o.guard = none) (s x : Operand)
    (ho : o.op = .call { callee := .builtin .append, args := #[s, x], argTypes := #[t, t] })
    (hE : Elem t e size) (hs : a.eval s = v) (hown : w.ownsRow base e size v n xs) (hx : a.eval x = .slice A m c) (hr : Reads w P size A m news) (h1 : ∀ u ∈ news, u.oneCell' = true)
    (hn : n + m ≤ 1000000) (hbase : base ≤ w.heap.size)
    (h : ∀ A' c' w', w'.ownsRow base e size (.slice A' (n + m) c') (n + m) (xs ++ news) → w.grownBy w' v.ownBlock → (Value.ownBlock (.slice A' (n + m) c') = v.ownBlock ∨ Value.ownBlock (.slice A' (n + m) c') = some w.heap.size) →
      K (a.put o.dst (.slice A' (n + m) c')) w') : if Region.wanted o (yielded ops a.tmps) = true then Oper.wp Tryd.prog o a w K Q else E := by
  rw [if_pos (by simp [Region.wanted, hgd])]
  exact wp_app s x ho hE hs hown hx hr h1 hn hbase h
end

theorem own_past {w : World} {b : Nat} {e : TypeId} {s : Nat} {v : Value} {n : Nat} {xs : List Value} (h : w.ownsRow b e s v n xs) {k : Nat} (hk : k < b) : some k ≠ v.ownBlock := fun e => by
  have := (h.lt k e.symm).1
  omega

theorem own_ne {w : World} {b b' : Nat} {e e' : TypeId} {s s' : Nat} {v v' : Value} {n n' : Nat} {xs xs' : List Value} (h : w.ownsRow b e s v n xs) (h' : w.ownsRow b' e' s' v' n' xs') (hne : e ≠ e') :
    v.ownBlock = none ∨ v.ownBlock ≠ v'.ownBlock := by
  rcases h.2 with ⟨rfl, _⟩ | ⟨k, cap, cur, rfl, _, hk, _⟩
  · exact .inl rfl
  · right
    rcases h'.2 with ⟨rfl, _⟩ | ⟨k', cap', cur', rfl, _, hk', _⟩
    · simp [Value.ownBlock]
    · intro he
      have : k = k' := by simpa [Value.ownBlock] using he
      subst this
      rw [hk] at hk'
      injection hk' with hk'
      injection hk' with _ ht
      exact hne ht

theorem own_drew {w : World} {b : Nat} {e : TypeId} {s : Nat} {v : Value} {n : Nat} {xs : List Value} (h : w.ownsRow b e s v n xs) : w.drew.ownsRow b e s v n xs := h

/-- A block that is known whole reads as a slice over all of it. -/
theorem Reads.blk {w : World} {P : Nat → Prop} {g : Nat} {t : TypeId} {cs : Array Value} {size n : Nat} (h : Blk w g t cs) (hP : P g) (hn : cs.size = n * size) : Reads w P size (some ⟨g, 0, none⟩) n cs.toList :=
  ⟨by simpa using hn, fun _ => ⟨_, rfl, hP, World.news_of_block h⟩⟩

end Go.Proofs.YtbfadghogjldcaaDoor

/- The words for memory of this claim: a slice that reads as a list, a block known whole, the state of the maker of values. -/
import Derived.Test.YtbfadghogjldcaaDoorProg
import Derived.Test.YtbfadghogjldcaaDoorPlain
import Derived.WalkKit
import Derived.WalkSpells
import Derived.WalkLawsBesides
import Derived.Deep.AppendLies
import Derived.Deep.Draws
import Derived.KernelRfl
import Derived.Deep.RegionWith
import Derived.Deep.QuietTactic
import Derived.BigQuiet
import Derived.Deep.LoopGhost
import Derived.Deep.DeepCutAuto
import Derived.Deep.CutBlock
import Derived.Deep.RegionHeld3
import Derived.StillTailTactics
import Derived.Deep.DeepFit
namespace Go.Proofs.YtbfadghogjldcaaDoor
open Go.RowKit

theorem hid {p : Prop} (h : p) : Hid p := h

theorem block_of_add (a : Addr) (n : Nat) : (a.add n).block = a.block := by unfold Addr.add; split <;> rfl
theorem add_of_add (a : Addr) (i j : Nat) : (a.add i).add j = a.add (i + j) := by
  unfold Addr.add
  by_cases hi : i = 0 <;> by_cases hj : j = 0 <;> simp [hi, hj, Nat.add_assoc]

/-- The slice value '.slice A n c' holds the cells xs and lies in a block of P. -/
def Reads (w : World) (P : Nat → Prop) (size : Nat) (A : Option Addr) (n : Nat) (xs : List Value) : Prop :=
  xs.length = n * size ∧ (0 < n → ∃ ad, A = some ad ∧ P ad.block ∧ ∀ j u, xs[j]? = some u → w.cell? (ad.add j) = some u)

section
variable {w w' : World} {P P' : Nat → Prop} {size n : Nat} {A : Option Addr} {xs : List Value}
theorem Reads.none_ : Reads w P size A 0 [] := ⟨by simp, fun h => absurd h (by omega)⟩
theorem Reads.at_ {k : Nat} (h : Reads w P 1 A n xs) (hk : k < n) : ∃ ad u, A = some ad ∧ P ad.block ∧ xs[k]? = some u ∧ w.cell? (ad.add k) = some u := by
  obtain ⟨ad, e, hb, hc⟩ := h.2 (by omega)
  have hl : k < xs.length := by have := h.1; omega
  exact ⟨ad, xs[k], e, hb, List.getElem?_eq_getElem hl, hc k _ (List.getElem?_eq_getElem hl)⟩
theorem Reads.keep (h : Reads w P size A n xs) (hk : ∀ p : Addr, P p.block → w'.cell? p = w.cell? p) : Reads w' P size A n xs :=
  ⟨h.1, fun hn => by
    obtain ⟨ad, e, hb, hc⟩ := h.2 hn
    exact ⟨ad, e, hb, fun j u hu => (hk _ (by rw [block_of_add]; exact hb)).trans (hc j u hu)⟩⟩
theorem Reads.more (h : Reads w P size A n xs) (hB : ∀ b, P b → P' b) : Reads w P' size A n xs :=
  ⟨h.1, fun hn => by
    obtain ⟨ad, e, hb, hc⟩ := h.2 hn
    exact ⟨ad, e, hB _ hb, hc⟩⟩
theorem Reads.cut (h : Reads w P size A n xs) {k cap : Nat} (hk : k ≤ n) (hc : n ≤ cap) :
    Reads w P size (if cap = k then A else A.map (·.add (k * size))) (n - k) (xs.drop (k * size)) := by
  refine ⟨by rw [List.length_drop, h.1, Nat.sub_mul], fun hn => ?_⟩
  obtain ⟨ad, rfl, hb, hcell⟩ := h.2 (by omega)
  rw [if_neg (by omega)]
  refine ⟨ad.add (k * size), rfl, by rw [block_of_add]; exact hb, fun j u hu => ?_⟩
  rw [add_of_add]
  exact hcell _ u (by rw [← hu, List.getElem?_drop])
theorem Reads.of_own {base : Nat} {e : TypeId} {c : Nat} (h : w.ownsRow base e size (.slice A n c) n xs) : Reads w (fun b => some b = Value.ownBlock (.slice A n c) ∧ base ≤ b ∧ b < w.heap.size) size A n xs := by
  refine ⟨h.1, fun hn => ?_⟩
  obtain ⟨g, cap, hv, hge, hlt⟩ := h.form hn
  have hA : A = some ⟨g, 0, none⟩ := by injection hv
  subst hA
  exact ⟨_, rfl, ⟨rfl, hge, hlt⟩, h.cells (g := g) rfl⟩
end

def Blk (w : World) (g : Nat) (t : TypeId) (cs : Array Value) : Prop := w.heap[g]? = some (.cells cs t (0, 0))

section
variable {w w' : World} {g : Nat} {t : TypeId} {cs : Array Value}
theorem Blk.lt (h : Blk w g t cs) : g < w.heap.size := by
  rcases Nat.lt_or_ge g w.heap.size with hlt | hge
  · exact hlt
  · unfold Blk at h; rw [Array.getElem?_eq_none hge] at h; cases h
theorem Blk.cell (h : Blk w g t cs) (i : Nat) : w.cell? ⟨g, i, none⟩ = cs[i]? := cell_of_row w g i cs t (0, 0) h
theorem Blk.frozen (h : Blk w g t cs) (i : Nat) : w.frozen? ⟨g, i, none⟩ = false := by
  unfold Blk at h
  simp [World.frozen?, h]
theorem Blk.new (w : World) (t : TypeId) (cs : Array Value) : Blk (w.alloc (.cells cs t)) w.heap.size t cs := heap_alloc_new w _
theorem Blk.new2 (w : World) (o : Obj) (t : TypeId) (cs : Array Value) : Blk ((w.alloc o).alloc (.cells cs t)) (w.heap.size + 1) t cs := by
  have h := Blk.new (w.alloc o) t cs
  rwa [show (w.alloc o).heap.size = w.heap.size + 1 from by simp] at h
theorem Blk.drew (h : Blk w g t cs) : Blk w.drew g t cs := h
theorem Blk.drewN (h : Blk w g t cs) (n : Nat) : Blk (w.drewN n) g t cs := h
theorem Blk.alloc (h : Blk w g t cs) (o : Obj) : Blk (w.alloc o) g t cs := (Below.heap_alloc w o g h.lt).trans h
theorem Blk.set_ (h : Blk w g t cs) (i : Nat) (u : Value) : Blk (w.setCell ⟨g, i, none⟩ u) g t (cs.setIfInBounds i u) := by
  unfold Blk at h ⊢
  simp [World.setCell, Array.getElem?_modify, h]
theorem Blk.far (h : Blk w g t cs) {p : Addr} (hp : g ≠ p.block) (u : Value) : Blk (w.setCell p u) g t cs := (Below.heap_setCell w p u g hp).trans h
theorem Blk.below {B : Nat} (h : Blk w g t cs) (hb : Below B w w') (hg : g < B) : Blk w' g t cs := (hb.block g hg).trans h
theorem Blk.grown {row : Option Nat} (h : Blk w g t cs) (hb : w.grownBy w' row) (hg : some g ≠ row) : Blk w' g t cs := (hb.block g h.lt hg).trans h
theorem Blk.ne_ {g' : Nat} {t' : TypeId} {cs' : Array Value} (h : Blk w g t cs) (h' : Blk w g' t' cs') (hne : t ≠ t') : g ≠ g' := by
  rintro rfl
  unfold Blk at h h'
  rw [h] at h'
  injection h' with h'
  injection h' with _ ht
  exact hne ht
theorem own_blk_ne {base : Nat} {e : TypeId} {size n : Nat} {v : Value} {xs : List Value} (h : w.ownsRow base e size v n xs) (hg : Blk w g t cs) (hne : e ≠ t) : v.ownBlock ≠ some g := by
  rcases h.2 with ⟨rfl, _⟩ | ⟨g', cap, cur, rfl, _, hh, _⟩
  · simp [Value.ownBlock]
  · intro he
    have : g' = g := by simpa [Value.ownBlock] using he
    subst this
    exact Blk.ne_ (t := e) hh hg hne rfl
end

/-- The slice value '.slice A n c' holds the cells xs and begins at the head of a block of P. -/
def Row (w : World) (P : Nat → Prop) (size : Nat) (A : Option Addr) (n : Nat) (xs : List Value) : Prop :=
  xs.length = n * size ∧ (0 < n → ∃ g, A = some ⟨g, 0, none⟩ ∧ P g ∧ ∀ j u, xs[j]? = some u → w.cell? ⟨g, j, none⟩ = some u)
theorem add_zero_off (g j : Nat) : (⟨g, 0, none⟩ : Addr).add j = ⟨g, j, none⟩ := by unfold Addr.add; split <;> simp_all
section
variable {w w' : World} {P P' : Nat → Prop} {size n : Nat} {A : Option Addr} {xs : List Value}
theorem Row.none_ : Row w P size A 0 [] := ⟨by simp, fun h => absurd h (by omega)⟩
theorem Row.reads (h : Row w P size A n xs) : Reads w P size A n xs :=
  ⟨h.1, fun hn => by
    obtain ⟨g, rfl, hg, hc⟩ := h.2 hn
    exact ⟨_, rfl, hg, fun j u hu => by rw [add_zero_off]; exact hc j u hu⟩⟩
theorem Row.keep (h : Row w P size A n xs) (hk : ∀ b, P b → w'.heap[b]? = w.heap[b]?) : Row w' P size A n xs :=
  ⟨h.1, fun hn => by
    obtain ⟨g, rfl, hg, hc⟩ := h.2 hn
    exact ⟨g, rfl, hg, fun j u hu => (World.cell?_of_block (hk g hg)).trans (hc j u hu)⟩⟩
theorem Row.more (h : Row w P size A n xs) (hB : ∀ b, P b → P' b) : Row w P' size A n xs :=
  ⟨h.1, fun hn => by
    obtain ⟨g, rfl, hg, hc⟩ := h.2 hn
    exact ⟨g, rfl, hB _ hg, hc⟩⟩
theorem Row.of_own {base : Nat} {e : TypeId} {c : Nat} (h : w.ownsRow base e size (.slice A n c) n xs) : Row w (fun b => some b = Value.ownBlock (.slice A n c) ∧ base ≤ b ∧ b < w.heap.size) size A n xs := by
  refine ⟨h.1, fun hn => ?_⟩
  obtain ⟨g, cap, hv, hge, hlt⟩ := h.form hn
  have hA : A = some ⟨g, 0, none⟩ := by injection hv
  subst hA
  refine ⟨g, rfl, ⟨rfl, hge, hlt⟩, fun j u hu => ?_⟩
  have := h.cells (g := g) rfl j u hu
  rwa [add_zero_off] at this
theorem Row.blk {g : Nat} {t : TypeId} {cs : Array Value} (h : Blk w g t cs) (hP : P g) (hn : cs.size = n * size) : Row w P size (some ⟨g, 0, none⟩) n cs.toList :=
  ⟨by simpa using hn, fun _ => ⟨g, rfl, hP, fun j u hu => by rw [h.cell]; simpa using hu⟩⟩
end

theorem grownBy_refl (w : World) (row : Option Nat) : w.grownBy w row := ⟨rfl, rfl, rfl, Nat.le_refl _, fun _ _ _ => rfl⟩
theorem grownBy_trans {a b c : World} {row : Option Nat} (h : a.grownBy b row) (k : b.grownBy c row) : a.grownBy c row :=
  ⟨k.os.trans h.os, k.tape.trans h.tape, k.output.trans h.output, Nat.le_trans h.size k.size, fun i hi hr => (k.block i (Nat.lt_of_lt_of_le hi h.size) hr).trans (h.block i hi hr)⟩
theorem grownBy_drew {a b : World} {row : Option Nat} (h : a.grownBy b row) : a.grownBy b.drew row := ⟨h.os, h.tape, h.output, h.size, h.block⟩
theorem grownBy_of_drew {a b : World} {row : Option Nat} (h : a.drew.grownBy b row) : a.grownBy b row := ⟨h.os, h.tape, h.output, h.size, h.block⟩
theorem grownBy_of_alloc {a b : World} {o : Obj} {row : Option Nat} (h : (a.alloc o).grownBy b row) : a.grownBy b row := grownBy_trans (World.grownBy_alloc a o row) h
theorem grownBy_setCell {a b : World} {g : Nat} (h : a.grownBy b (some g)) {p : Addr} (hp : p.block = g) (u : Value) : a.grownBy (b.setCell p u) (some g) :=
  grownBy_trans h ⟨rfl, rfl, rfl, by simp [World.setCell], fun k _ hk => Below.heap_setCell _ _ _ _ (fun e => hk (by rw [e, hp]))⟩
theorem grownBy_alloc {a b : World} {row : Option Nat} (h : a.grownBy b row) (o : Obj) : a.grownBy (b.alloc o) row := grownBy_trans h (World.grownBy_alloc b o row)
theorem grownBy_below {a b c : World} {row : Option Nat} (h : a.grownBy b row) (k : Below b.heap.size b c) : a.grownBy c row :=
  grownBy_trans h ⟨k.os, k.tape, k.output, k.size, fun i hi _ => k.block i hi⟩
theorem below_of_grownBy {a b : World} {g B : Nat} (h : a.grownBy b (some g)) (hB : B ≤ g) (hs : B ≤ a.heap.size) : Below B a b :=
  ⟨h.os, h.tape, h.output, h.size, fun k hk => h.block k (by omega) (fun e => by injection e; omega)⟩
theorem below_of_grownBy_none {a b : World} (h : a.grownBy b none) : Below a.heap.size a b :=
  ⟨h.os, h.tape, h.output, h.size, fun k hk => h.block k hk (fun e => by cases e)⟩

abbrev S (l : List UInt8) : Value := .string ⟨l.toArray⟩
abbrev I (n : Int) : Value := .int .i64 n
abbrev U (b : UInt8) : Value := .int .u8 b.toNat

theorem S_app (a b : List UInt8) : ({ data := a.toArray } : ByteArray) ++ { data := b.toArray } = { data := (a ++ b).toArray } := by
  apply ByteArray.ext; simp
theorem drop_str (p : List UInt8) (i : Nat) : Value.string (ByteArray.extract { data := p.toArray } i p.length) = S (p.drop i) := by
  congr 1
  apply ByteArray.ext
  simp only [ByteArray.data_extract, List.extract_toArray, List.extract_eq_take_drop]
  rw [List.take_of_length_le (by simp)]
theorem I_nat {a : Int} {k : Nat} (h : a = k) : Value.int IntKind.i64 a = I k := by rw [h]

/-- Block g holds the maker: what is left of the code, and how many parts. -/
def MadeAt (w : World) (g : Nat) (code : List UInt8) (left : Int) : Prop :=
  ∃ A c, code.length ≤ c ∧ code.length ≤ 2147483647 ∧ Blk w g 25 #[.slice A code.length c, .int .i64 left] ∧ Reads w (· < g) 1 A code.length (code.map U)

theorem Blk.four {w : World} {g : Nat} {t : TypeId} {c0 c1 c2 c3 : Value} (h : Blk w g t #[c0, c1, c2, c3]) :
    w.cell? ⟨g, 0, none⟩ = some c0 ∧ w.cell? ⟨g, 1, none⟩ = some c1 ∧ w.cell? ⟨g, 2, none⟩ = some c2 ∧ w.cell? ⟨g, 3, none⟩ = some c3 ∧
    w.frozen? ⟨g, 0, none⟩ = false ∧ w.frozen? ⟨g, 1, none⟩ = false ∧ w.frozen? ⟨g, 2, none⟩ = false ∧ w.frozen? ⟨g, 3, none⟩ = false :=
  ⟨by rw [h.cell]; rfl, by rw [h.cell]; rfl, by rw [h.cell]; rfl, by rw [h.cell]; rfl, h.frozen 0, h.frozen 1, h.frozen 2, h.frozen 3⟩
/-- A block of four cells written anew. -/
def put4 (w : World) (g : Nat) (d0 d1 d2 d3 : Value) : World := (((w.setCell ⟨g, 0, none⟩ d0).setCell ⟨g, 1, none⟩ d1).setCell ⟨g, 2, none⟩ d2).setCell ⟨g, 3, none⟩ d3
theorem Blk.wrote4 {w : World} {g : Nat} {t : TypeId} {c0 c1 c2 c3 : Value} (h : Blk w g t #[c0, c1, c2, c3]) (d0 d1 d2 d3 : Value) : Blk (put4 w g d0 d1 d2 d3) g t #[d0, d1, d2, d3] := by
  have h0 := h.set_ 0 d0
  have h1 := h0.set_ 1 d1
  have h2 := h1.set_ 2 d2
  have h3 := h2.set_ 3 d3
  unfold put4
  exact h3
theorem grownBy_put4 (w : World) (g : Nat) (d0 d1 d2 d3 : Value) : w.grownBy (put4 w g d0 d1 d2 d3) (some g) := by
  unfold put4
  have h0 := grownBy_setCell (grownBy_refl w (some g)) (p := ⟨g, 0, none⟩) rfl d0
  have h1 := grownBy_setCell h0 (p := ⟨g, 1, none⟩) rfl d1
  have h2 := grownBy_setCell h1 (p := ⟨g, 2, none⟩) rfl d2
  exact grownBy_setCell h2 (p := ⟨g, 3, none⟩) rfl d3
theorem put4_old {w : World} {g k : Nat} (hk : k ≠ g) (d0 d1 d2 d3 : Value) : (put4 w g d0 d1 d2 d3).heap[k]? = w.heap[k]? := by
  unfold put4
  rw [Below.heap_setCell _ _ _ _ hk, Below.heap_setCell _ _ _ _ hk, Below.heap_setCell _ _ _ _ hk, Below.heap_setCell _ _ _ _ hk]
theorem put4_size (w : World) (g : Nat) (d0 d1 d2 d3 : Value) : (put4 w g d0 d1 d2 d3).heap.size = w.heap.size := by
  simp [put4, World.setCell]
/-- Writing a block from B on. -/
theorem below_put4 {w : World} {g B : Nat} (hB : B ≤ g) (d0 d1 d2 d3 : Value) : Below B w (put4 w g d0 d1 d2 d3) :=
  ((((Below.refl B w).setCell (p := ⟨g, 0, none⟩) hB d0).setCell (p := ⟨g, 1, none⟩) hB d1).setCell (p := ⟨g, 2, none⟩) hB d2).setCell (p := ⟨g, 3, none⟩) hB d3
/-- What was grown by one row, and what came behind it lies from the heap's end on. -/
theorem grownBy_then {a b c : World} {row : Option Nat} (h : a.grownBy b row) (k : Below a.heap.size b c) : a.grownBy c row :=
  ⟨k.os.trans h.os, k.tape.trans h.tape, k.output.trans h.output, Nat.le_trans h.size k.size, fun i hi hr => (k.block i hi).trans (h.block i hi hr)⟩

theorem MadeAt.lt {w : World} {g : Nat} {code : List UInt8} {left : Int} (h : MadeAt w g code left) : g < w.heap.size := by
  obtain ⟨A, c, _, _, hb, _⟩ := h
  exact hb.lt
theorem MadeAt.below {w w' : World} {g B : Nat} {code : List UInt8} {left : Int} (h : MadeAt w g code left) (hb : Below B w w') (hg : g < B) : MadeAt w' g code left := by
  obtain ⟨A, c, h1, h2, h3, h4⟩ := h
  exact ⟨A, c, h1, h2, h3.below hb hg, h4.keep fun p (hp : p.block < g) => hb.cell (by omega)⟩
theorem MadeAt.alloc {w : World} {g : Nat} {code : List UInt8} {left : Int} (h : MadeAt w g code left) (o : Obj) : MadeAt (w.alloc o) g code left :=
  h.below ((Below.refl w.heap.size w).alloc (Nat.le_refl _) o) h.lt
theorem MadeAt.drew {w : World} {g : Nat} {code : List UInt8} {left : Int} (h : MadeAt w g code left) : MadeAt w.drew g code left := h

end Go.Proofs.YtbfadghogjldcaaDoor

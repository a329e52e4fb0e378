/- The arguments of the laws: two slices of bytes and a truth value; the row's closing. -/
import Derived.Test.YtbfadghogjldcaaDoorCards
import Derived.Test.YtbfadghogjldcaaDoorTie
import Derived.Test.YtbfadghogjldcaaDoorBase
import Derived.WalkKit
import Derived.ProofKit
import Derived.OpenShut
import Derived.LaidMore
import Derived.Deep.DeepHandedRow
namespace Go.Proofs.YtbfadghogjldcaaDoor
open Go.ChangeShapes Go.WideShapes Go.ChangeAt Go.RowKit
set_option linter.unusedVariables false
set_option linter.unusedSimpArgs false

set_option maxRecDepth 100000
theorem own : ownKnob Tryd.prog.godebug = none := by kernel_rfl
theorem laidOut : laidOutB Tryd.prog = true := by kernel_rfl
theorem cellsOf5 : Tryd.prog.cellsOf 5 = 1 := by kernel_rfl

theorem cell_lt {w : World} {p : Addr} {u : Value} (h : w.cell? p = some u) : p.block < w.heap.size := by
  rcases Nat.lt_or_ge p.block w.heap.size with hl | hg
  · exact hl
  · have : w.heap[p.block]? = none := Array.getElem?_eq_none hg
    simp [World.cell?, this] at h

theorem bytes_of {H : Type} {enc : TypeId × Value → H} {W : World} {base : Nat} {v : Value} {d : DataW H} {p : List MemPlace} (hval : Value.okWide Tryd.prog W .any base 22 v) (h : DataW.Trod enc Tryd.prog W 0 (fun _ => true) true 22 v d p) :
    ∃ (A : Option Addr) (c : Nat) (code : List UInt8), v = .slice A code.length c ∧ code.length ≤ c ∧ Reads W (· < W.heap.size) 1 A code.length (code.map U) := by
  obtain ⟨a1, len, cap, rfl⟩ := okWide_slice Tryd.underlying22 hval
  obtain ⟨fuel, hf⟩ := h
  rcases open_ints Tryd.underlying22 Tryd.underlying5 cellsOf5 hf with ⟨hcs, hx⟩ | ⟨a, len', cap', zs, hcs, _, hl, hm, hz, hx, hcell, hwz⟩
  · simp [Value.cells] at hcs
    obtain ⟨rfl, rfl, rfl⟩ := hcs
    exact ⟨none, 0, [], rfl, Nat.le_refl _, Reads.none_⟩
  · simp [Value.cells] at hcs
    obtain ⟨rfl, rfl, rfl⟩ := hcs
    simp only [if_true] at hz
    have hlen : ((zs.take len).map fun n => UInt8.ofNat n.toNat).length = len := by simp; omega
    refine ⟨some a, cap, (zs.take len).map fun n => UInt8.ofNat n.toNat, by rw [hlen], by omega, by simp, fun hn => ⟨a, rfl, ?_, ?_⟩⟩
    · have := cell_lt (hcell 0 (by omega))
      rwa [block_of_add] at this
    · intro j u hu
      have hj : j < len := by
        have := (List.getElem?_eq_some_iff.1 hu).1
        simp at this
        omega
      have hcj := hcell j (by omega)
      have hb := range_u8 hwz j
      rw [List.getD_eq_getElem?_getD, List.getElem?_eq_getElem (show j < zs.length by omega)] at hcj
      rw [List.getElem?_eq_getElem (show j < zs.length by omega)] at hb
      simp only [Option.getD_some] at hcj hb
      rw [hcj, ← hu, List.getElem?_map, List.getElem?_map, List.getElem?_take_of_lt hj, List.getElem?_eq_getElem (show j < zs.length by omega)]
      simp only [Option.map_some]
      congr 2
      simp only [UInt8.toNat_ofNat']
      omega

/-- What a law's walk gives. -/
def LawWalk (n : FuncId) (W : World) : Prop :=
  ∀ (A1 A2 : Option Addr) (c1 c2 : Nat) (code1 code2 : List UInt8) (b : Bool), code1.length ≤ c1 → code2.length ≤ c2 → Reads W (· < W.heap.size) 1 A1 code1.length (code1.map U) → Reads W (· < W.heap.size) 1 A2 code2.length (code2.map U) →
    Calls Tryd.prog n #[.slice A1 code1.length c1, .slice A2 code2.length c2, .bool b] W fun e w' => e = .returned (.bool true) ∧ Below W.heap.size W w'

theorem law_contract (n : FuncId) (f : Func) (hp : f.params = #[22, 22, 4]) (hr : f.resultTypes = #[4]) (s : ChangeSpec) (hv : s.vars = []) (hs : ∀ (H : Type) (d1 d2 d3 : DataW H), s.fn H [d1, d2, d3] = { results := [.lit (.bool true)], args := [d1, d2, d3] })
    (H : Type) (enc : TypeId × Value → H) (W : World) (base : Nat) (args : Array Value) (ds gs : List (DataW H)) (before : List MemPlace) (hwalk : LawWalk n W)
    (hval : ∀ (j : Nat) t v, f.params[j]? = some t → args[j]? = some v → Value.okWide Tryd.prog W .any base t v)
    (hW : DataW.Whole enc Tryd.prog f.params.toList s.vars false W args.toList ds gs before) :
    Calls Tryd.prog n args W fun e W' => ∃ v, e = .returned v ∧ s.post enc Tryd.prog f false true false false W args v W' := by
  have hW' := hW
  have hlt := fun p hp => hW.lt p hp
  obtain ⟨p, q, hA, hV, hbef, hfz, hnd⟩ := hW
  rw [hp] at hA hval
  rw [hv] at hV
  obtain ⟨v0, vs0, d0, ds0, p0, q0, hargs, rfl, rfl, h0, r0⟩ := trodAll_cons hA
  obtain ⟨v1, vs1, d1, ds1, p1, q1, rfl, rfl, rfl, h1, r1⟩ := trodAll_cons r0
  obtain ⟨v2, vs2, d2, ds2, p2, q2, rfl, rfl, rfl, h2, r2⟩ := trodAll_cons r1
  obtain ⟨rfl, rfl, rfl⟩ := trodAll_nil r2
  obtain rfl : args = #[v0, v1, v2] := by cases args; simp_all
  obtain ⟨rfl, rfl⟩ := trodVars_none hV
  obtain ⟨A1, c1, code1, rfl, hc1, hr1⟩ := bytes_of (hval 0 22 _ rfl rfl) h0
  obtain ⟨A2, c2, code2, rfl, hc2, hr2⟩ := bytes_of (hval 1 22 _ rfl rfl) h1
  obtain ⟨b, rfl, rfl, rfl⟩ := open_bool Tryd.underlying4 (hval 2 4 v2 rfl rfl) h2
  refine (hwalk A1 A2 c1 c2 code1 code2 b hc1 hc2 hr1 hr2).mono fun e W' ⟨he, hb⟩ => ?_
  subst he
  have hfn : s.fn H ([d0, d1, .lit (.bool b)] ++ []) = { results := [.lit (.bool true)], args := [d0, d1, .lit (.bool b)] } := hs H _ _ _
  refine ⟨_, rfl, [d0, d1, .lit (.bool b)], [], before, [], p0 ++ (p1 ++ ([] ++ [])), [], hW', ?_, ?_, ?_, hb.frame _, fun h => by cases h⟩
  · rw [hfn, hr]
    exact trodAll_cons_mk (shut_bool Tryd.underlying4 _) trodAll_mk0
  · rw [hfn, hp]
    have hl0 : ∀ x ∈ p0, x.block < W.heap.size := fun x hx => hlt x (by rw [hbef]; simp [hx])
    have hl1 : ∀ x ∈ p1, x.block < W.heap.size := fun x hx => hlt x (by rw [hbef]; simp [hx])
    exact trodAll_cons_mk (Below.trod laidOut (by kernel_rfl) (of_decide_eq_true (by kernel_rfl)) h0 hb hl0) (trodAll_cons_mk (Below.trod laidOut (by kernel_rfl) (of_decide_eq_true (by kernel_rfl)) h1 hb hl1) (trodAll_cons_mk (shut_bool Tryd.underlying4 _) trodAll_mk0))
  · rw [hfn, hv]
    rfl

end Go.Proofs.YtbfadghogjldcaaDoor

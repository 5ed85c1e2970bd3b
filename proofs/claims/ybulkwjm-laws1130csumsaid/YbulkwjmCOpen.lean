/- A '[5]ZzS1130CCell' by value (type 70), opened: ten words. -/
import Derived.Test.YbulkwjmRows
import Derived.Test.YbulkwjmCMem
import Derived.ProofKit
import Derived.OpenShut
namespace Go.Proofs.Ybulkwjm
open Go.ChangeShapes Go.WideShapes Go.ChangeAt Go.RowKit
theorem cells70 : Yba.prog.cellsOf 70 = 10 := by kernel_rfl
theorem cells69 : Yba.prog.cellsOf 69 = 2 := by kernel_rfl
theorem cells67 : Yba.prog.cellsOf 67 = 1 := by kernel_rfl

theorem okWide_array {W : World} {r : Reach} {b0 n : Nat} {P : Program} {t e : TypeId} {v : Value} (ht : P.underlying t = some (.array n e)) (h : Value.okWide P W r b0 t v) : ∃ cs, v = .agg cs ∧ cs.size = P.cellsOf t := by
  simp only [Value.okWide, ht] at h
  obtain ⟨cs, h1, h2, _⟩ := h
  exact ⟨cs, h1, h2⟩

theorem word_of_wf {x : Int} (h : (Lit.int .u64 x).wf = true) : 0 ≤ x ∧ x < 18446744073709551616 := by
  simp [Lit.wf, IntKind.min, IntKind.max, IntKind.signed, IntKind.bits] at h
  omega

theorem open69 {H : Type} {enc : TypeId × Value → H} {W : World} {base : Nat} {spare : Nat → Bool} {held : Bool} {fuel : Nat} {c0 c1 : Value} {x : DataW H × List MemPlace}
    (h : DataW.trod enc Yba.prog W base spare held fuel 69 [c0, c1] = some x) :
    ∃ a b : Int, c0 = .int .u64 a ∧ c1 = .int .u64 b ∧ (0 ≤ a ∧ a < 18446744073709551616) ∧ (0 ≤ b ∧ b < 18446744073709551616) := by
  obtain ⟨y0, y1, n, _, _, h0, h1⟩ := trod_struct2 Yba.underlying69 h
  simp only [cells67] at h0 h1
  obtain ⟨a, e0, _, wa⟩ := DataW.trod_int Yba.underlying67 h0
  obtain ⟨b, e1, _, wb⟩ := DataW.trod_int Yba.underlying67 h1
  simp at e0 e1
  exact ⟨a, b, e0, e1, word_of_wf wa, word_of_wf wb⟩

set_option maxRecDepth 100000 in
theorem open70 {H : Type} {enc : TypeId × Value → H} {W : World} {base b0 : Nat} {r : Reach} {spare : Nat → Bool} {held : Bool} {v : Value} {d : DataW H} {p : List MemPlace}
    (hv : Value.okWide Yba.prog W r b0 70 v) (h : DataW.Trod enc Yba.prog W base spare held 70 v d p) :
    ∃ f : Nat → Int, v = .agg (ten f) ∧ ∀ j, j < 10 → 0 ≤ f j ∧ f j < 18446744073709551616 := by
  obtain ⟨cs, rfl, hsz⟩ := okWide_array Yba.underlying70 hv
  rw [cells70] at hsz
  obtain ⟨fuel, hf⟩ := h
  obtain ⟨xs, m, _, _, _, hxl, hx⟩ := DataW.trod_array Yba.underlying70 hf
  obtain ⟨l⟩ := cs
  match l, hsz with
  | [c0, c1, c2, c3, c4, c5, c6, c7, c8, c9], _ =>
    simp only [cells69, Value.cells] at hx
    have g : ∀ i, i < 5 → ∃ y, xs[i]? = some y := fun i hi => ⟨xs[i], by simp [hxl, hi]⟩
    obtain ⟨y0, g0⟩ := g 0 (by omega)
    obtain ⟨y1, g1⟩ := g 1 (by omega)
    obtain ⟨y2, g2⟩ := g 2 (by omega)
    obtain ⟨y3, g3⟩ := g 3 (by omega)
    obtain ⟨y4, g4⟩ := g 4 (by omega)
    obtain ⟨a0, b0, rfl, rfl, p0, q0⟩ := open69 ((hx 0 (by omega)).trans g0)
    obtain ⟨a1, b1, rfl, rfl, p1, q1⟩ := open69 ((hx 1 (by omega)).trans g1)
    obtain ⟨a2, b2, rfl, rfl, p2, q2⟩ := open69 ((hx 2 (by omega)).trans g2)
    obtain ⟨a3, b3, rfl, rfl, p3, q3⟩ := open69 ((hx 3 (by omega)).trans g3)
    obtain ⟨a4, b4, rfl, rfl, p4, q4⟩ := open69 ((hx 4 (by omega)).trans g4)
    refine ⟨fun j => [a0, b0, a1, b1, a2, b2, a3, b3, a4, b4].getD j 0, rfl, ?_⟩
    intro j hj
    match j, hj with
    | 0, _ => exact p0
    | 1, _ => exact q0
    | 2, _ => exact p1
    | 3, _ => exact q1
    | 4, _ => exact p2
    | 5, _ => exact q2
    | 6, _ => exact p3
    | 7, _ => exact q3
    | 8, _ => exact p4
    | 9, _ => exact q4
end Go.Proofs.Ybulkwjm

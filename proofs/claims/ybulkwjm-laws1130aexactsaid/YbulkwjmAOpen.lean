/- A ZzS1130APair by value (type 26), opened: fifteen cells. -/
import Derived.Test.YbulkwjmRows
import Derived.Test.YbulkwjmAPlain
import Derived.ProofKit
import Derived.OpenShut
namespace Go.Proofs.Ybulkwjm
open Go.ChangeShapes Go.WideShapes Go.ChangeAt Go.RowKit
theorem cells26 : Yba.prog.cellsOf 26 = 15 := by kernel_rfl
theorem cells22 : Yba.prog.cellsOf 22 = 1 := by kernel_rfl
theorem cells5 : Yba.prog.cellsOf 5 = 1 := by kernel_rfl
theorem cells4 : Yba.prog.cellsOf 4 = 1 := by kernel_rfl
theorem u32_of_wf {x : Int} (h : (Lit.int .u32 x).wf = true) : 0 ≤ x ∧ x ≤ 4294967295 := by
  simp [Lit.wf, IntKind.min, IntKind.max, IntKind.signed, IntKind.bits] at h
  omega

section
variable {H : Type} {enc : TypeId × Value → H} {W : World} {base : Nat} {spare : Nat → Bool} {held : Bool}

theorem row5 {k : IntKind} {t e : TypeId} {fuel : Nat} {c0 c1 c2 c3 c4 : Value} {x : DataW H × List MemPlace} (ht : Yba.prog.underlying t = some (.array 5 e)) (he : Yba.prog.underlying e = some (.int k)) (hc : Yba.prog.cellsOf e = 1)
    (h : DataW.trod enc Yba.prog W base spare held fuel t [c0, c1, c2, c3, c4] = some x) :
    ∃ a0 a1 a2 a3 a4 : Int, c0 = .int k a0 ∧ c1 = .int k a1 ∧ c2 = .int k a2 ∧ c3 = .int k a3 ∧ c4 = .int k a4 ∧ (Lit.int k a0).wf = true ∧ (Lit.int k a1).wf = true ∧ (Lit.int k a2).wf = true ∧ (Lit.int k a3).wf = true ∧ (Lit.int k a4).wf = true := by
  obtain ⟨xs, m, _, _, _, hxl, hx⟩ := DataW.trod_array ht h
  rw [hc] at hx
  have g : ∀ i, i < 5 → ∃ y, xs[i]? = some y := fun i hi => ⟨xs[i], by simp [hxl, hi]⟩
  have one : ∀ (i : Nat) (c : Value), i < 5 → ([c0, c1, c2, c3, c4].drop (i * 1)).take 1 = [c] → ∃ a : Int, c = .int k a ∧ (Lit.int k a).wf = true := by
    intro i c hi hci
    obtain ⟨y, gy⟩ := g i hi
    have hh := (hx i hi).trans gy
    rw [hci] at hh
    obtain ⟨a, e0, _, wa⟩ := DataW.trod_int he hh
    simp at e0
    exact ⟨a, e0, wa⟩
  obtain ⟨a0, e0, w0⟩ := one 0 c0 (by omega) rfl
  obtain ⟨a1, e1, w1⟩ := one 1 c1 (by omega) rfl
  obtain ⟨a2, e2, w2⟩ := one 2 c2 (by omega) rfl
  obtain ⟨a3, e3, w3⟩ := one 3 c3 (by omega) rfl
  obtain ⟨a4, e4, w4⟩ := one 4 c4 (by omega) rfl
  exact ⟨a0, a1, a2, a3, a4, e0, e1, e2, e3, e4, w0, w1, w2, w3, w4⟩

set_option maxRecDepth 100000 in
theorem open26 {b0 : Nat} {r : Reach} {v : Value} {d : DataW H} {p : List MemPlace}
    (hv : Value.okWide Yba.prog W r b0 26 v) (h : DataW.Trod enc Yba.prog W base spare held 26 v d p) :
    ∃ (bs ds : Nat → Int) (sw ka kb : Bool) (ma mb : Nat), v = .agg (pcells bs ds sw ka kb ma mb) ∧ ma ≤ 255 ∧ mb ≤ 255 ∧ (∀ j, j < 5 → 0 ≤ bs j ∧ bs j ≤ 4294967295) ∧ (∀ j, j < 5 → 0 ≤ ds j ∧ ds j ≤ 255) := by
  obtain ⟨cs, rfl, hsz⟩ := okWide_struct Yba.underlying26 hv
  rw [cells26] at hsz
  obtain ⟨fuel, hf⟩ := h
  obtain ⟨xs, m, _, _, _, hxl, hx⟩ := DataW.trod_struct Yba.underlying26 hf
  obtain ⟨l⟩ := cs
  match l, hsz with
  | [c0, c1, c2, c3, c4, c5, c6, c7, c8, c9, c10, c11, c12, c13, c14], _ =>
    have hxl' : xs.length = 7 := hxl
    have g : ∀ i, i < 7 → ∃ y, xs[i]? = some y := fun i hi => ⟨xs[i], by simp [hxl', hi]⟩
    obtain ⟨y0, g0⟩ := g 0 (by omega)
    obtain ⟨y1, g1⟩ := g 1 (by omega)
    obtain ⟨y2, g2⟩ := g 2 (by omega)
    obtain ⟨y3, g3⟩ := g 3 (by omega)
    obtain ⟨y4, g4⟩ := g 4 (by omega)
    obtain ⟨y5, g5⟩ := g 5 (by omega)
    obtain ⟨y6, g6⟩ := g 6 (by omega)
    have k0 := (hx 0 _ rfl).trans g0
    have k1 := (hx 1 _ rfl).trans g1
    have k2 := (hx 2 _ rfl).trans g2
    have k3 := (hx 3 _ rfl).trans g3
    have k4 := (hx 4 _ rfl).trans g4
    have k5 := (hx 5 _ rfl).trans g5
    have k6 := (hx 6 _ rfl).trans g6
    obtain ⟨a0, a1, a2, a3, a4, rfl, rfl, rfl, rfl, rfl, u0, u1, u2, u3, u4⟩ := row5 Yba.underlying23 Yba.underlying22 cells22 k0
    obtain ⟨b0, b1, b2, b3, b4, rfl, rfl, rfl, rfl, rfl, v0, v1, v2, v3, v4⟩ := row5 Yba.underlying24 Yba.underlying5 cells5 k1
    obtain ⟨sw, e2, _⟩ := DataW.trod_bool Yba.underlying4 k2
    obtain ⟨ka, e3, _⟩ := DataW.trod_bool Yba.underlying4 k3
    obtain ⟨kb, e4, _⟩ := DataW.trod_bool Yba.underlying4 k4
    obtain ⟨ma, e5, _, wa⟩ := DataW.trod_int Yba.underlying5 k5
    obtain ⟨mb, e6, _, wb⟩ := DataW.trod_int Yba.underlying5 k6
    simp [cells4, cells5, Value.cells] at e2 e3 e4 e5 e6
    obtain ⟨l1, l2⟩ := bounds_u8 wa
    obtain ⟨l3, l4⟩ := bounds_u8 wb
    obtain ⟨ma, rfl⟩ := Int.eq_ofNat_of_zero_le l1
    obtain ⟨mb, rfl⟩ := Int.eq_ofNat_of_zero_le l3
    subst e2 e3 e4 e5 e6
    refine ⟨fun j => [a0, a1, a2, a3, a4].getD j 0, fun j => [b0, b1, b2, b3, b4].getD j 0, sw, ka, kb, ma, mb, rfl, by omega, by omega, ?_, ?_⟩
    · intro j hj
      match j, hj with
      | 0, _ => exact u32_of_wf u0
      | 1, _ => exact u32_of_wf u1
      | 2, _ => exact u32_of_wf u2
      | 3, _ => exact u32_of_wf u3
      | 4, _ => exact u32_of_wf u4
    · intro j hj
      match j, hj with
      | 0, _ => exact bounds_u8 v0
      | 1, _ => exact bounds_u8 v1
      | 2, _ => exact bounds_u8 v2
      | 3, _ => exact bounds_u8 v3
      | 4, _ => exact bounds_u8 v4
end
end Go.Proofs.Ybulkwjm

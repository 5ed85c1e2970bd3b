/- What lies in memory while plan.zzs1130abuild works. Nothing of the program. -/
import Derived.Test.YbulkwjmMem
namespace Go.Proofs.Ybulkwjm
open Go.RowKit

/-- The fifteen cells of a ZzS1130APair. -/
def pcells (bs ds : Nat → Int) (sw ka kb : Bool) (ma mb : Nat) : Array Value :=
  #[.int .u32 (bs 0), .int .u32 (bs 1), .int .u32 (bs 2), .int .u32 (bs 3), .int .u32 (bs 4), .int .u8 (ds 0), .int .u8 (ds 1), .int .u8 (ds 2), .int .u8 (ds 3), .int .u8 (ds 4), .bool sw, .bool ka, .bool kb, .int .u8 ma, .int .u8 mb]
theorem pcells_b (bs ds : Nat → Int) (sw ka kb : Bool) (ma mb : Nat) (j : Nat) (hj : j < 5) : (pcells bs ds sw ka kb ma mb)[j]? = some (.int .u32 (bs j)) := by
  match j, hj with
  | 0, _ | 1, _ | 2, _ | 3, _ | 4, _ => rfl
theorem pcells_d (bs ds : Nat → Int) (sw ka kb : Bool) (ma mb : Nat) (j : Nat) (hj : j < 5) : (pcells bs ds sw ka kb ma mb)[5 + j]? = some (.int .u8 (ds j)) := by
  match j, hj with
  | 0, _ | 1, _ | 2, _ | 3, _ | 4, _ => rfl

/-- The figures: two a row. -/
def FA (bs ds : Nat → Int) (sw : Bool) (j : Nat) : Int :=
  if (j % 2 = 0) = (sw = false) then bs (j / 2) * 100 else bs (j / 2) * 100 + ds (j / 2)

/-- The box of the parameter in block N, two result variables behind it. -/
structure AF (N : Nat) (w : World) (P : Array Value) (wr : World) : Prop where
  bel : Below N w wr
  box : ∀ j, wr.cell? ⟨N, j, none⟩ = P[j]?
  r1 : ∀ j, j < 2 → ∃ v, wr.cell? ⟨N + 1, j, none⟩ = some v ∧ wr.frozen? ⟨N + 1, j, none⟩ = false
  r2 : ∀ j, j < 10 → ∃ v, wr.cell? ⟨N + 1 + 1, j, none⟩ = some v ∧ wr.frozen? ⟨N + 1 + 1, j, none⟩ = false
  figs : ∀ j, j < 10 → ∃ v, wr.cell? ⟨N + 1 + 1 + 1, j, none⟩ = some v ∧ wr.frozen? ⟨N + 1 + 1 + 1, j, none⟩ = false

theorem AF.set {N : Nat} {w : World} {P : Array Value} {wr : World} (A : AF N w P wr) (b o : Nat) (vs : List Value) (hb : N < b) : AF N w P (wr.setCells b o vs) :=
  ⟨below_setCells _ (by omega) _ _ _ A.bel, fun j => by rw [cell_out _ _ _ _ _ _ (by omega)]; exact A.box j, fun j hj => there_setCells1 _ _ _ _ _ (A.r1 j hj), fun j hj => there_setCells1 _ _ _ _ _ (A.r2 j hj), fun j hj => there_setCells1 _ _ _ _ _ (A.figs j hj)⟩
theorem AF.alloc {N : Nat} {w : World} {P : Array Value} {wr : World} (A : AF N w P wr) (o : Obj) (hz : N + 4 ≤ wr.heap.size) : AF N w P (wr.alloc o) :=
  ⟨A.bel.alloc (by omega) o, fun j => by rw [World.cell?_alloc_past _ _ _ (by omega)]; exact A.box j, fun j hj => there_alloc _ _ _ (by simp; omega) (A.r1 j hj), fun j hj => there_alloc _ _ _ (by simp; omega) (A.r2 j hj), fun j hj => there_alloc _ _ _ (by simp; omega) (A.figs j hj)⟩
theorem AF.drew {N : Nat} {w : World} {P : Array Value} {wr : World} (A : AF N w P wr) : AF N w P wr.drew := ⟨A.bel.drew, A.box, A.r1, A.r2, A.figs⟩

theorem af_start (w : World) (P c1 c2 c3 : Array Value) (t0 t1 t2 t3 : TypeId) (h1 : c1.size = 2) (h2 : c2.size = 10) (h3 : c3.size = 10) :
    AF w.heap.size w P ((((w.alloc (.cells P t0)).alloc (.cells c1 t1)).alloc (.cells c2 t2)).alloc (.cells c3 t3)) := by
  refine ⟨((((Below.refl _ _).alloc (by omega) _).alloc (by simp) _).alloc (by simp; omega) _).alloc (by simp; omega) _, fun j => ?_, fun j hj => ?_, fun j hj => ?_, fun j hj => ?_⟩
  · rw [World.cell?_alloc_past _ _ _ (by simp; omega), World.cell?_alloc_past _ _ _ (by simp; omega), World.cell?_alloc_past _ _ _ (by simp), World.cell?_alloc_at _ _ _ _ rfl]
  · have := there_made (w.alloc (.cells P t0)) c1 t1 j (by omega)
    rw [show (w.alloc (.cells P t0)).heap.size = w.heap.size + 1 by simp] at this
    exact there_alloc _ _ _ (by simp) (there_alloc _ _ _ (by simp) this)
  · have := there_made ((w.alloc (.cells P t0)).alloc (.cells c1 t1)) c2 t2 j (by omega)
    rw [show ((w.alloc (.cells P t0)).alloc (.cells c1 t1)).heap.size = w.heap.size + 1 + 1 by simp] at this
    exact there_alloc _ _ _ (by simp) this
  · have := there_made (((w.alloc (.cells P t0)).alloc (.cells c1 t1)).alloc (.cells c2 t2)) c3 t3 j (by omega)
    rw [show (((w.alloc (.cells P t0)).alloc (.cells c1 t1)).alloc (.cells c2 t2)).heap.size = w.heap.size + 1 + 1 + 1 by simp] at this
    exact this

/-- The head of round k of the first loop. -/
structure A1 (N : Nat) (w : World) (bs ds : Nat → Int) (sw ka kb : Bool) (ma mb k : Nat) (wr : World) : Prop where
  af : AF N w (pcells bs ds sw ka kb ma mb) wr
  size : wr.heap.size = N + 4
  fig : ∀ j, j < k * 2 → wr.cell? ⟨N + 1 + 1 + 1, j, none⟩ = some (.int .i64 (FA bs ds sw j))

theorem A1.step {N : Nat} {w : World} {bs ds : Nat → Int} {sw ka kb : Bool} {ma mb k : Nat} {wr : World} (A : A1 N w bs ds sw ka kb ma mb k wr) (hk : k < 5) :
    A1 N w bs ds sw ka kb ma mb (k + 1) (wr.setCells (N + 1 + 1 + 1) (k * 2) [.int .i64 (FA bs ds sw (k * 2)), .int .i64 (FA bs ds sw (k * 2 + 1))]) := by
  refine ⟨A.af.set _ _ _ (by omega), by rw [size_setCells]; exact A.size, fun j hj => ?_⟩
  have th : ∀ i, i < ([.int .i64 (FA bs ds sw (k * 2)), .int .i64 (FA bs ds sw (k * 2 + 1))] : List Value).length → ∃ v, wr.cell? ⟨N + 1 + 1 + 1, k * 2 + i, none⟩ = some v ∧ wr.frozen? ⟨N + 1 + 1 + 1, k * 2 + i, none⟩ = false :=
    fun i hi => A.af.figs _ (by simp at hi; omega)
  by_cases h0 : j = k * 2
  · subst h0
    exact cell_in wr _ (k * 2) _ th 0 _ rfl
  · by_cases h1 : j = k * 2 + 1
    · subst h1
      exact cell_in wr _ (k * 2) _ th 1 _ rfl
    · rw [cell_out _ _ _ _ _ _ (by simp; omega)]; exact A.fig j (by omega)
theorem fa_even (bs ds : Nat → Int) (sw : Bool) (k : Nat) : FA bs ds sw (k * 2) = if sw then bs k * 100 + ds k else bs k * 100 := by
  unfold FA
  rw [show k * 2 % 2 = 0 by omega, show k * 2 / 2 = k by omega]
  cases sw <;> simp
theorem fa_odd (bs ds : Nat → Int) (sw : Bool) (k : Nat) : FA bs ds sw (k * 2 + 1) = if sw then bs k * 100 else bs k * 100 + ds k := by
  unfold FA
  rw [show (k * 2 + 1) % 2 = 1 by omega, show (k * 2 + 1) / 2 = k by omega]
  cases sw <;> simp
end Go.Proofs.Ybulkwjm

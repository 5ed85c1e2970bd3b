/- What lies in memory while scaledown.zzs1130cbuild fills its two rows. Nothing of the program. -/
import Derived.Test.YbulkwjmMem
namespace Go.Proofs.Ybulkwjm
open Go.RowKit
def ten (f : Nat → Int) : Array Value := #[.int .u64 (f 0), .int .u64 (f 1), .int .u64 (f 2), .int .u64 (f 3), .int .u64 (f 4), .int .u64 (f 5), .int .u64 (f 6), .int .u64 (f 7), .int .u64 (f 8), .int .u64 (f 9)]
theorem ten_get (f : Nat → Int) (j : Nat) (hj : j < 10) : (ten f)[j]? = some (.int .u64 (f j)) := by
  match j, hj with
  | 0, _ | 1, _ | 2, _ | 3, _ | 4, _ | 5, _ | 6, _ | 7, _ | 8, _ | 9, _ => rfl

structure CB (N n i : Nat) (w : World) (cv uv : Nat → Int) (bc bu P : Nat) (wr : World) : Prop where
  bel : Below N w wr
  size : wr.heap.size = N + 5
  lc : N + 2 ≤ bc
  lc' : bc < N + 4
  lu : N + 2 ≤ bu
  lu' : bu < N + 4
  ne : bc ≠ bu
  boxc : ∀ j, j < 10 → wr.cell? ⟨N, j, none⟩ = some (.int .u64 (cv j))
  boxu : ∀ j, j < 10 → wr.cell? ⟨N + 1, j, none⟩ = some (.int .u64 (uv j))
  fc : wr.cell? ⟨N + 1 + 1 + 1 + 1, 15, none⟩ = some (.slice (some ⟨bc, 0, none⟩) n n)
  fu : wr.cell? ⟨N + 1 + 1 + 1 + 1, 16, none⟩ = some (.slice (some ⟨bu, 0, none⟩) n n)
  tc : ∀ j, j < n * 10 → ∃ v, wr.cell? ⟨bc, j, none⟩ = some v ∧ wr.frozen? ⟨bc, j, none⟩ = false
  tu : ∀ j, j < n * 10 → ∃ v, wr.cell? ⟨bu, j, none⟩ = some v ∧ wr.frozen? ⟨bu, j, none⟩ = false
  dc : ∀ j, j < P → j / 10 = i → wr.cell? ⟨bc, j, none⟩ = some (.int .u64 (cv (j % 10)))
  du : ∀ j, j < P → j / 10 = i → wr.cell? ⟨bu, j, none⟩ = some (.int .u64 (uv (j % 10)))

theorem CB.drew {N n i : Nat} {w : World} {cv uv : Nat → Int} {bc bu P : Nat} {wr : World} (R : CB N n i w cv uv bc bu P wr) : CB N n i w cv uv bc bu P wr.drew :=
  ⟨R.bel.drew, R.size, R.lc, R.lc', R.lu, R.lu', R.ne, R.boxc, R.boxu, R.fc, R.fu, R.tc, R.tu, R.dc, R.du⟩

theorem CB.step {N n i : Nat} {w : World} {cv uv : Nat → Int} {bc bu m k : Nat} {wr : World} (R : CB N n i w cv uv bc bu (m * 10 + k * 2) wr) (hm : m < n) (hk : k < 5) (v0 v1 v2 v3 : Value)
    (h : m = i → v0 = .int .u64 (cv (k * 2)) ∧ v1 = .int .u64 (cv (k * 2 + 1)) ∧ v2 = .int .u64 (uv (k * 2)) ∧ v3 = .int .u64 (uv (k * 2 + 1))) :
    CB N n i w cv uv bc bu (m * 10 + (k + 1) * 2) ((wr.setCells bc (m * 10 + k * 2) [v0, v1]).setCells bu (m * 10 + k * 2) [v2, v3]) := by
  have hl := R.lc; have hl' := R.lc'; have hu := R.lu; have hu' := R.lu'; have hne := R.ne
  have out : ∀ b o, b ≠ bc → b ≠ bu → ((wr.setCells bc (m * 10 + k * 2) [v0, v1]).setCells bu (m * 10 + k * 2) [v2, v3]).cell? ⟨b, o, none⟩ = wr.cell? ⟨b, o, none⟩ := fun b o h1 h2 => by
    rw [cell_out _ _ _ _ _ _ (fun e => absurd e h2), cell_out _ _ _ _ _ _ (fun e => absurd e h1)]
  have th0 : ∀ j, j < [v0, v1].length → ∃ v, wr.cell? ⟨bc, m * 10 + k * 2 + j, none⟩ = some v ∧ wr.frozen? ⟨bc, m * 10 + k * 2 + j, none⟩ = false := fun j hj => R.tc _ (by simp at hj; omega)
  have th1 : ∀ j, j < [v2, v3].length → ∃ v, (wr.setCells bc (m * 10 + k * 2) [v0, v1]).cell? ⟨bu, m * 10 + k * 2 + j, none⟩ = some v ∧ (wr.setCells bc (m * 10 + k * 2) [v0, v1]).frozen? ⟨bu, m * 10 + k * 2 + j, none⟩ = false :=
    fun j hj => there_setCells1 _ _ _ _ _ (R.tu _ (by simp at hj; omega))
  refine ⟨below_setCells _ (by omega) _ _ _ (below_setCells _ (by omega) _ _ _ R.bel), by rw [size_setCells, size_setCells]; exact R.size, hl, hl', hu, hu', hne, ?_, ?_, ?_, ?_, ?_, ?_, ?_, ?_⟩
  · intro j hj; rw [out _ _ (by omega) (by omega)]; exact R.boxc j hj
  · intro j hj; rw [out _ _ (by omega) (by omega)]; exact R.boxu j hj
  · rw [out _ _ (by omega) (by omega)]; exact R.fc
  · rw [out _ _ (by omega) (by omega)]; exact R.fu
  · exact fun j hj => there_setCells1 _ _ _ _ _ (there_setCells1 _ _ _ _ _ (R.tc j hj))
  · exact fun j hj => there_setCells1 _ _ _ _ _ (there_setCells1 _ _ _ _ _ (R.tu j hj))
  · intro j hj hd
    rw [cell_out _ _ _ _ _ _ (fun e => absurd e hne)]
    by_cases h0 : j = m * 10 + k * 2
    · subst h0
      refine (cell_in wr bc (m * 10 + k * 2) [v0, v1] th0 0 _ rfl).trans ?_
      rw [(h (by omega)).1, show (m * 10 + k * 2) % 10 = k * 2 by omega]
    · by_cases h1 : j = m * 10 + k * 2 + 1
      · subst h1
        rw [cell_in wr bc (m * 10 + k * 2) [v0, v1] th0 1 _ rfl, (h (by omega)).2.1, show (m * 10 + k * 2 + 1) % 10 = k * 2 + 1 by omega]
      · rw [cell_out _ _ _ _ _ _ (by simp; omega)]; exact R.dc j (by omega) hd
  · intro j hj hd
    by_cases h0 : j = m * 10 + k * 2
    · subst h0
      refine (cell_in _ bu (m * 10 + k * 2) [v2, v3] th1 0 _ rfl).trans ?_
      rw [(h (by omega)).2.2.1, show (m * 10 + k * 2) % 10 = k * 2 by omega]
    · by_cases h1 : j = m * 10 + k * 2 + 1
      · subst h1
        rw [cell_in _ bu (m * 10 + k * 2) [v2, v3] th1 1 _ rfl, (h (by omega)).2.2.2, show (m * 10 + k * 2 + 1) % 10 = k * 2 + 1 by omega]
      · rw [cell_out _ _ _ _ _ _ (by simp; omega), cell_out _ _ _ _ _ _ (fun e => absurd e.symm hne)]; exact R.du j (by omega) hd

/-- The start: two boxes, two rows of zeros, the struct. -/
theorem cb_start (w : World) (n i : Nat) (cv uv : Nat → Int) (z J : Array Value) (t0 t1 t2 t3 t4 : TypeId) (bc bu : Nat) (hz : z.size = n * 10) (hb : (bc = w.heap.size + 2 ∧ bu = w.heap.size + 3) ∨ (bc = w.heap.size + 3 ∧ bu = w.heap.size + 2))
    (h15 : J[15]? = some (.slice (some ⟨bc, 0, none⟩) n n)) (h16 : J[16]? = some (.slice (some ⟨bu, 0, none⟩) n n)) :
    CB w.heap.size n i w cv uv bc bu 0 (((((w.alloc (.cells (ten cv) t0)).alloc (.cells (ten uv) t1)).alloc (.cells z t2)).alloc (.cells z t3)).alloc (.cells J t4)) := by
  have th : ∀ b, b = w.heap.size + 2 ∨ b = w.heap.size + 3 → ∀ j, j < n * 10 → ∃ v, (((((w.alloc (.cells (ten cv) t0)).alloc (.cells (ten uv) t1)).alloc (.cells z t2)).alloc (.cells z t3)).alloc (.cells J t4)).cell? ⟨b, j, none⟩ = some v ∧
      (((((w.alloc (.cells (ten cv) t0)).alloc (.cells (ten uv) t1)).alloc (.cells z t2)).alloc (.cells z t3)).alloc (.cells J t4)).frozen? ⟨b, j, none⟩ = false := by
    intro b hb j hj
    rcases hb with rfl | rfl
    · have := there_made ((w.alloc (.cells (ten cv) t0)).alloc (.cells (ten uv) t1)) z t2 j (by omega)
      rw [show ((w.alloc (.cells (ten cv) t0)).alloc (.cells (ten uv) t1)).heap.size = w.heap.size + 2 by simp] at this
      exact there_alloc _ _ _ (by simp) (there_alloc _ _ _ (by simp) this)
    · have := there_made (((w.alloc (.cells (ten cv) t0)).alloc (.cells (ten uv) t1)).alloc (.cells z t2)) z t3 j (by omega)
      rw [show (((w.alloc (.cells (ten cv) t0)).alloc (.cells (ten uv) t1)).alloc (.cells z t2)).heap.size = w.heap.size + 3 by simp] at this
      exact there_alloc _ _ _ (by simp) this
  refine ⟨?_, by simp, by omega, by omega, by omega, by omega, by omega, ?_, ?_, ?_, ?_, th bc (by omega), th bu (by omega), by intro j hj; omega, by intro j hj; omega⟩
  · exact (((((Below.refl _ _).alloc (by omega) _).alloc (by simp) _).alloc (by simp; omega) _).alloc (by simp; omega) _).alloc (by simp; omega) _
  · intro j hj
    rw [World.cell?_alloc_past _ _ _ (by simp; omega), World.cell?_alloc_past _ _ _ (by simp; omega), World.cell?_alloc_past _ _ _ (by simp; omega), World.cell?_alloc_past _ _ _ (by simp), World.cell?_alloc_at _ _ _ _ rfl]
    exact ten_get cv j hj
  · intro j hj
    rw [World.cell?_alloc_past _ _ _ (by simp), World.cell?_alloc_past _ _ _ (by simp), World.cell?_alloc_past _ _ _ (by simp), World.cell?_alloc_at _ _ _ _ (by simp)]
    exact ten_get uv j hj
  · rw [World.cell?_alloc_at _ _ _ _ (by simp)]; exact h15
  · rw [World.cell?_alloc_at _ _ _ _ (by simp)]; exact h16
end Go.Proofs.Ybulkwjm

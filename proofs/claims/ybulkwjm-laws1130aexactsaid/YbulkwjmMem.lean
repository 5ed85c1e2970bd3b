/- Plain lemmas on worlds: stores of short runs of cells, new blocks. Nothing of the program. -/
import Derived.Deep.MidRow
import Derived.WalkKit
namespace Go.Proofs.Ybulkwjm
open Go.RowKit

theorem size_setCells (b : Nat) : ∀ (vs : List Value) (o : Nat) (w : World), (w.setCells b o vs).heap.size = w.heap.size
  | [], _, _ => rfl
  | v :: r, o, w => by rw [World.setCells, size_setCells b r, World.size_setCell]

theorem below_setCells {B : Nat} {a : World} (b : Nat) (hb : B ≤ b) : ∀ (vs : List Value) (o : Nat) (w : World), Below B a w → Below B a (w.setCells b o vs)
  | [], _, _, h => h
  | v :: r, o, w, h => by rw [World.setCells]; exact below_setCells b hb r _ _ (h.setCell hb v)

/-- A cell that was there is there behind the stores. -/
theorem there_setCells1 (b : Nat) : ∀ (vs : List Value) (o : Nat) (w : World) (x : Addr), (∃ v, w.cell? x = some v ∧ w.frozen? x = false) → ∃ v, (w.setCells b o vs).cell? x = some v ∧ (w.setCells b o vs).frozen? x = false
  | [], _, _, _, h => h
  | v :: r, o, w, x, ⟨u, hu, hf⟩ => by
    rw [World.setCells]
    obtain ⟨u', hu'⟩ := cell?_setCell_some (p := ⟨b, o, none⟩) (x := v) hu
    exact there_setCells1 b r _ _ x ⟨u', hu', by simpa using hf⟩

theorem there_alloc (w : World) (o : Obj) (x : Addr) (hx : x.block < w.heap.size) (h : ∃ v, w.cell? x = some v ∧ w.frozen? x = false) : ∃ v, (w.alloc o).cell? x = some v ∧ (w.alloc o).frozen? x = false := by
  rw [World.cell?_alloc_lt w o x hx, World.frozen?_alloc_old w o x (by omega)]; exact h

theorem there_made (w : World) (c : Array Value) (t : TypeId) (j : Nat) (hj : j < c.size) : ∃ v, (w.alloc (.cells c t)).cell? ⟨w.heap.size, j, none⟩ = some v ∧ (w.alloc (.cells c t)).frozen? ⟨w.heap.size, j, none⟩ = false :=
  ⟨c[j], by rw [World.cell?_alloc_at c t _ _ rfl]; simp [hj], World.frozen?_alloc_at c t _ _ rfl⟩

/-- A stored cell. -/
theorem cell_in (w : World) (b o : Nat) (vs : List Value) (h : ∀ j, j < vs.length → ∃ v, w.cell? ⟨b, o + j, none⟩ = some v ∧ w.frozen? ⟨b, o + j, none⟩ = false) (j : Nat) (v : Value) (hv : vs[j]? = some v) :
    (w.setCells b o vs).cell? ⟨b, o + j, none⟩ = some v := by
  obtain ⟨hj, rfl⟩ := List.getElem?_eq_some_iff.1 hv
  exact World.cell?_setCells_in b vs o w (fun i hi => by obtain ⟨u, hu, _⟩ := h i hi; simp [hu]) j hj

theorem cell_out (w : World) (b o : Nat) (vs : List Value) (b' o' : Nat) (h : b' = b → o' < o ∨ o + vs.length ≤ o') : (w.setCells b o vs).cell? ⟨b', o', none⟩ = w.cell? ⟨b', o', none⟩ :=
  World.cell?_setCells_out b vs o w ⟨b', o', none⟩ (fun h1 _ => h h1)
end Go.Proofs.Ybulkwjm

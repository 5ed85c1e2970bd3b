import Derived.Test.YbulkwjmMem
namespace Go.Proofs.Ybulkwjm
open Go.RowKit
/-- What lies in memory at the head of round k: the three rows are there, their first k entries filled. -/
structure SubR (N n : Nat) (w : World) (ips aft : Nat → Int) (k : Nat) (wr : World) : Prop where
  bel : Below N w wr
  size : wr.heap.size = N + 3 + k
  t0 : ∀ j, j < n * 5 → ∃ v, wr.cell? ⟨N, j, none⟩ = some v ∧ wr.frozen? ⟨N, j, none⟩ = false
  t1 : ∀ j, j < n → ∃ v, wr.cell? ⟨N + 1, j, none⟩ = some v ∧ wr.frozen? ⟨N + 1, j, none⟩ = false
  t2 : ∀ j, j < n * 4 → ∃ v, wr.cell? ⟨N + 1 + 1, j, none⟩ = some v ∧ wr.frozen? ⟨N + 1 + 1, j, none⟩ = false
  pool : ∀ i, i < k → wr.cell? ⟨N, i * 5, none⟩ = some (.pointer (some ⟨N + 3 + i, 0, none⟩))
  use : ∀ i, i < k → wr.cell? ⟨N + 3 + i, 3, none⟩ = some (.int .i64 (aft i))
  eni : ∀ i, i < k → wr.cell? ⟨N + 1, i, none⟩ = some (.pointer (some ⟨N, i * 5, none⟩))
  took : ∀ i, i < k → ∀ j, j < 4 → wr.cell? ⟨N + 1 + 1, i * 4 + j, none⟩ = some (.int .i64 (if j = 0 then ips i else 0))

def useCells (a : Int) : Array Value := #[.string ⟨#[]⟩, .string ⟨#[]⟩, .int .i64 0, .int .i64 a, .int .i64 0, .int .i64 0]

theorem subR_step {N n : Nat} {w : World} {ips aft : Nat → Int} {k : Nat} {wr : World} (R : SubR N n w ips aft k wr) (hk : k < n) :
    SubR N n w ips aft (k + 1) ((((wr.setCells N (k * 5) [.pointer (some ⟨wr.heap.size, 0, none⟩), .bool true, .int .i64 (aft k), .int .i64 0, .int .i64 k]).setCells (N + 1) k [.pointer (some ⟨N, k * 5, none⟩)]).setCells (N + 1 + 1) (k * 4)
      [.int .i64 (ips k), .int .i64 0, .int .i64 0, .int .i64 0]).alloc (.cells (useCells (aft k)) 56)) := by
  have hz := R.size
  obtain ⟨A, hA⟩ : ∃ A : List Value, A = [.pointer (some ⟨wr.heap.size, 0, none⟩), .bool true, .int .i64 (aft k), .int .i64 0, .int .i64 k] := ⟨_, rfl⟩
  obtain ⟨E, hE⟩ : ∃ E : List Value, E = [.pointer (some ⟨N, k * 5, none⟩)] := ⟨_, rfl⟩
  obtain ⟨T, hT⟩ : ∃ T : List Value, T = [.int .i64 (ips k), .int .i64 0, .int .i64 0, .int .i64 0] := ⟨_, rfl⟩
  rw [← hA, ← hE, ← hT]
  have lA : A.length = 5 := by rw [hA]; rfl
  have lE : E.length = 1 := by rw [hE]; rfl
  have lT : T.length = 4 := by rw [hT]; rfl
  have th0 : ∀ j, j < A.length → ∃ v, wr.cell? ⟨N, k * 5 + j, none⟩ = some v ∧ wr.frozen? ⟨N, k * 5 + j, none⟩ = false := fun j hj => R.t0 _ (by omega)
  have th1 : ∀ j, j < E.length → ∃ v, (wr.setCells N (k * 5) A).cell? ⟨N + 1, k + j, none⟩ = some v ∧ (wr.setCells N (k * 5) A).frozen? ⟨N + 1, k + j, none⟩ = false := fun j hj => there_setCells1 _ _ _ _ _ (R.t1 _ (by omega))
  have th2 : ∀ j, j < T.length → ∃ v, ((wr.setCells N (k * 5) A).setCells (N + 1) k E).cell? ⟨N + 1 + 1, k * 4 + j, none⟩ = some v ∧ ((wr.setCells N (k * 5) A).setCells (N + 1) k E).frozen? ⟨N + 1 + 1, k * 4 + j, none⟩ = false :=
    fun j hj => there_setCells1 _ _ _ _ _ (there_setCells1 _ _ _ _ _ (R.t2 _ (by omega)))
  have sz : (((wr.setCells N (k * 5) A).setCells (N + 1) k E).setCells (N + 1 + 1) (k * 4) T).heap.size = wr.heap.size := by simp only [size_setCells]
  have old : ∀ b o, b < wr.heap.size → ((((wr.setCells N (k * 5) A).setCells (N + 1) k E).setCells (N + 1 + 1) (k * 4) T).alloc (.cells (useCells (aft k)) 56)).cell? ⟨b, o, none⟩ = (((wr.setCells N (k * 5) A).setCells (N + 1) k E).setCells (N + 1 + 1) (k * 4) T).cell? ⟨b, o, none⟩ :=
    fun b o hb => World.cell?_alloc_past _ b o (by rw [sz]; exact hb)
  refine ⟨?_, ?_, ?_, ?_, ?_, ?_, ?_, ?_, ?_⟩
  · exact (below_setCells _ (by omega) _ _ _ (below_setCells _ (by omega) _ _ _ (below_setCells _ (by omega) _ _ _ R.bel))).alloc (by rw [sz]; omega) _
  · have : ∀ X : World, (X.alloc (.cells (useCells (aft k)) 56)).heap.size = X.heap.size + 1 := fun X => by simp
    rw [this, sz]; omega
  · exact fun j hj => there_alloc _ _ _ (by rw [sz]; simp; omega) (there_setCells1 _ _ _ _ _ (there_setCells1 _ _ _ _ _ (there_setCells1 _ _ _ _ _ (R.t0 j hj))))
  · exact fun j hj => there_alloc _ _ _ (by rw [sz]; simp; omega) (there_setCells1 _ _ _ _ _ (there_setCells1 _ _ _ _ _ (there_setCells1 _ _ _ _ _ (R.t1 j hj))))
  · exact fun j hj => there_alloc _ _ _ (by rw [sz]; simp; omega) (there_setCells1 _ _ _ _ _ (there_setCells1 _ _ _ _ _ (there_setCells1 _ _ _ _ _ (R.t2 j hj))))
  · intro i hi
    rw [old _ _ (by omega), cell_out _ _ _ _ _ _ (by omega), cell_out _ _ _ _ _ _ (by omega)]
    by_cases h : i = k
    · subst h
      have := cell_in wr N (i * 5) A th0 0 (.pointer (some ⟨wr.heap.size, 0, none⟩)) (by rw [hA]; rfl)
      rw [Nat.add_zero] at this
      rw [this, hz]
    · rw [cell_out _ _ _ _ _ _ (by omega)]; exact R.pool i (by omega)
  · intro i hi
    by_cases h : i = k
    · subst h
      rw [World.cell?_alloc_at _ _ _ _ (by rw [sz, hz])]; rfl
    · rw [old _ _ (by omega), cell_out _ _ _ _ _ _ (by omega), cell_out _ _ _ _ _ _ (by omega), cell_out _ _ _ _ _ _ (by omega)]; exact R.use i (by omega)
  · intro i hi
    rw [old _ _ (by omega), cell_out _ _ _ _ _ _ (by omega)]
    by_cases h : i = k
    · subst h
      have := cell_in _ (N + 1) i E th1 0 (.pointer (some ⟨N, i * 5, none⟩)) (by rw [hE]; rfl)
      rw [Nat.add_zero] at this
      exact this
    · rw [cell_out _ _ _ _ _ _ (by omega), cell_out _ _ _ _ _ _ (by omega)]; exact R.eni i (by omega)
  · intro i hi j hj
    rw [old _ _ (by omega)]
    by_cases h : i = k
    · subst h
      refine cell_in _ (N + 1 + 1) (i * 4) T th2 j _ ?_
      rw [hT]
      match j, hj with
      | 0, _ => rfl
      | 1, _ => rfl
      | 2, _ => rfl
      | 3, _ => rfl
    · rw [cell_out _ _ _ _ _ _ (by omega), cell_out _ _ _ _ _ _ (by omega), cell_out _ _ _ _ _ _ (by omega)]; exact R.took i (by omega) j hj

theorem subR_start (w : World) (n : Nat) (ips aft : Nat → Int) (c0 c1 c2 : Array Value) (t0 t1 t2 : TypeId) (h0 : c0.size = n * 5) (h1 : c1.size = n) (h2 : c2.size = n * 4) :
    SubR w.heap.size n w ips aft 0 (((w.alloc (.cells c0 t0)).alloc (.cells c1 t1)).alloc (.cells c2 t2)) := by
  refine ⟨?_, ?_, ?_, ?_, ?_, by intro i hi; omega, by intro i hi; omega, by intro i hi; omega, by intro i hi; omega⟩
  · exact (((Below.refl _ _).alloc (by omega) _).alloc (by simp) _).alloc (by simp; omega) _
  · simp
  · intro j hj
    exact there_alloc _ _ _ (by simp; omega) (there_alloc _ _ _ (by simp) (there_made w c0 t0 j (by omega)))
  · intro j hj
    have := there_made (w.alloc (.cells c0 t0)) c1 t1 j (by omega)
    rw [show (w.alloc (.cells c0 t0)).heap.size = w.heap.size + 1 by simp] at this
    exact there_alloc _ _ _ (by simp) this
  · intro j hj
    have := there_made ((w.alloc (.cells c0 t0)).alloc (.cells c1 t1)) c2 t2 j (by omega)
    rw [show ((w.alloc (.cells c0 t0)).alloc (.cells c1 t1)).heap.size = w.heap.size + 1 + 1 by simp] at this
    exact this

/-- What the builder leaves: the subnet in block N + 3 + n. -/
structure SubEnd (N n : Nat) (w : World) (ips aft : Nat → Int) (w' : World) : Prop where
  bel : Below N w w'
  size : w'.heap.size = N + 3 + n + 1
  f2 : w'.cell? ⟨N + 3 + n, 2, none⟩ = some (.slice (some ⟨N + 1, 0, none⟩) n n)
  f6 : w'.cell? ⟨N + 3 + n, 6, none⟩ = some (.slice (some ⟨N + 1 + 1, 0, none⟩) n n)
  pool : ∀ i, i < n → w'.cell? ⟨N, i * 5, none⟩ = some (.pointer (some ⟨N + 3 + i, 0, none⟩))
  use : ∀ i, i < n → w'.cell? ⟨N + 3 + i, 3, none⟩ = some (.int .i64 (aft i))
  eni : ∀ i, i < n → w'.cell? ⟨N + 1, i, none⟩ = some (.pointer (some ⟨N, i * 5, none⟩))
  took : ∀ i, i < n → ∀ j, j < 4 → w'.cell? ⟨N + 1 + 1, i * 4 + j, none⟩ = some (.int .i64 (if j = 0 then ips i else 0))

theorem subEnd_of {N n : Nat} {w : World} {ips aft : Nat → Int} {wr : World} (R : SubR N n w ips aft n wr) (c : Array Value) (t : TypeId)
    (h2 : c[2]? = some (.slice (some ⟨N + 1, 0, none⟩) n n)) (h6 : c[6]? = some (.slice (some ⟨N + 1 + 1, 0, none⟩) n n)) : SubEnd N n w ips aft (wr.alloc (.cells c t)) := by
  have hz := R.size
  refine ⟨R.bel.alloc (by omega) _, by simp [hz], ?_, ?_, ?_, ?_, ?_, ?_⟩
  · rw [World.cell?_alloc_at _ _ _ _ hz.symm]; exact h2
  · rw [World.cell?_alloc_at _ _ _ _ hz.symm]; exact h6
  · intro i hi; rw [World.cell?_alloc_past _ _ _ (by omega)]; exact R.pool i hi
  · intro i hi; rw [World.cell?_alloc_past _ _ _ (by omega)]; exact R.use i hi
  · intro i hi; rw [World.cell?_alloc_past _ _ _ (by omega)]; exact R.eni i hi
  · intro i hi j hj; rw [World.cell?_alloc_past _ _ _ (by omega)]; exact R.took i hi j hj
end Go.Proofs.Ybulkwjm

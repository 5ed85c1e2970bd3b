/- The three slices that come in, opened: bytes, 16-bit numbers, floats. -/
import Derived.Test.YbulkwlqRows
import Derived.WalkKit
import Derived.ProofKit
import Derived.OpenShut
namespace Go.Proofs.Ybulkwlq
open Go.ChangeShapes Go.WideShapes Go.ChangeAt Go.RowKit
theorem bounds16 {n : Int} (h : (Lit.int .u16 n).wf = true) : 0 ≤ n ∧ n ≤ 65535 := by
  simp [Lit.wf, IntKind.min, IntKind.max, IntKind.signed, IntKind.bits] at h
  omega
theorem trod_float {H : Type} {enc : TypeId × Value → H} {P : Program} {w : World} {base : Nat} {spare : Nat → Bool} {held : Bool} {fuel : Nat} {t : TypeId} {cs : List Value} {x : DataW H × List MemPlace}
    (ht : P.underlying t = some (.float .f64)) (h : DataW.trod enc P w base spare held fuel t cs = some x) : ∃ b, cs = [.float .f64 b] := by
  cases fuel with
  | zero => simp [DataW.trod] at h
  | succ n =>
    unfold DataW.trod at h
    rw [ht] at h
    split at h <;> simp_all

section
variable {H : Type} {enc : TypeId × Value → H} {W : World} {base : Nat} {spare : Nat → Bool} {held : Bool}

theorem open_nums {k : IntKind} {t e : TypeId} (ht : Yba.prog.underlying t = some (.slice e)) (he : Yba.prog.underlying e = some (.int k)) (hc : Yba.prog.cellsOf e = 1) (m : Int) (hm : ∀ n : Int, (Lit.int k n).wf = true → 0 ≤ n ∧ n ≤ m)
    {a : Option Addr} {len cap : Nat} {d : DataW H} {p : List MemPlace} (h : DataW.Trod enc Yba.prog W base (fun _ => true) held t (.slice a len cap) d p) :
    len ≤ 9223372036854775807 ∧ ∃ f : Nat → Nat, ∀ i, i < len → ∃ b o, a = some ⟨b, o, none⟩ ∧ b < W.heap.size ∧ W.cell? ⟨b, o + i, none⟩ = some (.int k (f i : Int)) ∧ (f i : Int) ≤ m := by
  obtain ⟨fuel, hf⟩ := h
  rcases open_ints ht he hc hf with ⟨hcs, _⟩ | ⟨x, l, c, zs, hcs, _, hl, hmx, hz, _, hcell, hwz⟩
  · simp [Value.cells] at hcs
    obtain ⟨rfl, rfl, rfl⟩ := hcs
    exact ⟨by omega, fun _ => 0, fun i hi => by omega⟩
  · simp [Value.cells] at hcs
    obtain ⟨rfl, rfl, rfl⟩ := hcs
    have hz' : zs.length = cap := by simpa using hz
    refine ⟨by unfold maxLen at hmx; omega, fun i => (zs.getD i 0).toNat, fun i hi => ?_⟩
    obtain ⟨b, o, rfl, hc'⟩ := ints_at hcell (by omega)
    have hil : i < zs.length := by omega
    have e0 : zs.getD i 0 = zs[i] := by simp [hil]
    have hb := hm (zs.getD i 0) (hwz _ (by rw [e0]; exact List.getElem_mem hil))
    have e : (((zs.getD i 0).toNat : Nat) : Int) = zs.getD i 0 := by omega
    exact ⟨b, o, rfl, World.block_lt_of_cell? W _ (hc' 0 (by omega)), by rw [e]; exact hc' i (by omega), by rw [e]; exact hb.2⟩

theorem open_flts {t e : TypeId} (ht : Yba.prog.underlying t = some (.slice e)) (he : Yba.prog.underlying e = some (.float .f64)) (hc : Yba.prog.cellsOf e = 1)
    {a : Option Addr} {len cap : Nat} {d : DataW H} {p : List MemPlace} (h : DataW.Trod enc Yba.prog W base spare held t (.slice a len cap) d p) :
    len ≤ 9223372036854775807 ∧ ∃ f : Nat → Nat, ∀ i, i < len → ∃ b o, a = some ⟨b, o, none⟩ ∧ b < W.heap.size ∧ W.cell? ⟨b, o + i, none⟩ = some (.float .f64 (f i)) := by
  obtain ⟨fuel, hf⟩ := h
  rcases DataW.trod_slice ht hf with ⟨hcs, _⟩ | ⟨x, l, c, elems, rest, n, _, hcs, _, hb, hl, hm, hlen, hel, _, _⟩
  · simp [Value.cells] at hcs
    obtain ⟨rfl, rfl, rfl⟩ := hcs
    exact ⟨by omega, fun _ => 0, fun i hi => by omega⟩
  · simp [Value.cells] at hcs
    obtain ⟨rfl, rfl, rfl⟩ := hcs
    have each : ∀ i, i < len → ∃ q, W.cell? (x.add i) = some (.float .f64 q) := by
      intro i hi
      have h1 := hel i hi
      rw [List.getElem?_eq_getElem (by omega), hc, Nat.mul_one, Option.bind_eq_some_iff] at h1
      obtain ⟨cs', hcs, hy⟩ := h1
      obtain ⟨q, rfl⟩ := trod_float he hy
      exact ⟨q, cell_of_cells?_one hcs⟩
    refine ⟨by unfold maxLen at hm; omega, ?_⟩
    by_cases hl0 : len = 0
    · exact ⟨fun _ => 0, fun i hi => by omega⟩
    have hsp : x.spot = none := by
      obtain ⟨q, hq⟩ := each 0 (by omega)
      simpa [Addr.add] using World.cell?_spot hq
    obtain ⟨b, o, spot⟩ := x
    simp only at hsp
    subst hsp
    have each' : ∀ i, i < len → ∃ q, W.cell? ⟨b, o + i, none⟩ = some (.float .f64 q) := fun i hi => by
      obtain ⟨q, hq⟩ := each i hi
      rw [Go.WideShapes.add_plain] at hq
      exact ⟨q, hq⟩
    refine ⟨fun i => if h : i < len then (each' i h).choose else 0, fun i hi => ?_⟩
    have hcell := (each' i hi).choose_spec
    exact ⟨b, o, rfl, World.block_lt_of_cell? W _ hcell, by dsimp only; rw [dif_pos hi]; exact hcell⟩
end
end Go.Proofs.Ybulkwlq

/- The contract of '(*Judgement).requestsOf' (function 18). -/
import Derived.Test.YbulkwjmPlus
import Derived.Test.YbulkwjmMem
import Derived.RegionTactic
import Derived.BigRegion
import Derived.Deep.RegionWith
namespace Go.Proofs.Ybulkwjm
open Go.RowKit
def res (cv uv : Nat → Int) (j : Nat) : Int := if j % 2 = 0 then hi128 (cv j) (cv (j + 1)) (uv j) (uv (j + 1)) else lo128 (cv j) (uv j)
def val (cv uv : Nat → Int) (k j : Nat) : Int := if j < k * 2 then res cv uv j else cv j
/-- What lies in memory at the head of round k. -/
structure ReqR (N : Nat) (w : World) (cv uv : Nat → Int) (k : Nat) (wr : World) : Prop where
  bel : Below N w wr
  size : N + 1 < wr.heap.size
  out : ∀ j, j < 10 → ∃ v, wr.cell? ⟨N, j, none⟩ = some v ∧ wr.frozen? ⟨N, j, none⟩ = false
  all : ∀ j, j < 10 → wr.cell? ⟨N + 1, j, none⟩ = some (.int .u64 (val cv uv k j)) ∧ wr.frozen? ⟨N + 1, j, none⟩ = false
theorem ReqR.alloc {N : Nat} {w : World} {cv uv : Nat → Int} {k : Nat} {wr : World} (R : ReqR N w cv uv k wr) (o : Obj) : ReqR N w cv uv k (wr.alloc o) := by
  have hz := R.size
  refine ⟨R.bel.alloc (by omega) o, by simp; omega, fun j hj => there_alloc _ _ _ (by simp; omega) (R.out j hj), fun j hj => ?_⟩
  rw [World.cell?_alloc_past _ _ _ (by omega), World.frozen?_alloc_past _ _ _ (by omega)]
  exact R.all j hj

theorem ReqR.drew {N : Nat} {w : World} {cv uv : Nat → Int} {k : Nat} {wr : World} (R : ReqR N w cv uv k wr) : ReqR N w cv uv k wr.drew :=
  ⟨R.bel.drew, R.size, R.out, R.all⟩

theorem ReqR.step {N : Nat} {w : World} {cv uv : Nat → Int} {k : Nat} {wr : World} (R : ReqR N w cv uv k wr) (hk : k < 5) :
    ReqR N w cv uv (k + 1) (wr.setCells (N + 1) (k * 2) [.int .u64 (hi128 (cv (k * 2)) (cv (k * 2 + 1)) (uv (k * 2)) (uv (k * 2 + 1))), .int .u64 (lo128 (cv (k * 2 + 1)) (uv (k * 2 + 1)))]) := by
  refine ⟨below_setCells _ (by omega) _ _ _ R.bel, by rw [size_setCells]; exact R.size, fun j hj => there_setCells1 _ _ _ _ _ (R.out j hj), fun j hj => ⟨?_, by rw [World.frozen?_setCells]; exact (R.all j hj).2⟩⟩
  have th : ∀ i, i < ([.int .u64 (hi128 (cv (k * 2)) (cv (k * 2 + 1)) (uv (k * 2)) (uv (k * 2 + 1))), .int .u64 (lo128 (cv (k * 2 + 1)) (uv (k * 2 + 1)))] : List Value).length → ∃ v, wr.cell? ⟨N + 1, k * 2 + i, none⟩ = some v ∧ wr.frozen? ⟨N + 1, k * 2 + i, none⟩ = false :=
    fun i hi => ⟨_, R.all (k * 2 + i) (by simp at hi; omega)⟩
  by_cases h0 : j = k * 2
  · subst h0
    refine (cell_in wr (N + 1) (k * 2) _ th 0 _ rfl).trans ?_
    rw [val, if_pos (by omega), res, if_pos (by omega)]
  · by_cases h1 : j = k * 2 + 1
    · subst h1
      rw [cell_in wr (N + 1) (k * 2) _ th 1 _ rfl, val, if_pos (by omega), res, if_neg (by omega)]
    · rw [cell_out _ _ _ _ _ _ (by simp; omega), (R.all j hj).1]
      unfold val
      by_cases h2 : j < k * 2
      · rw [if_pos h2, if_pos (by omega)]
      · rw [if_neg h2, if_neg (by omega)]

theorem reqR_start (w : World) (cv uv : Nat → Int) (c0 c1 : Array Value) (t0 t1 : TypeId) (h0 : c0.size = 10) (h1 : ∀ j, j < 10 → c1[j]? = some (.int .u64 (cv j))) :
    ReqR w.heap.size w cv uv 0 ((w.alloc (.cells c0 t0)).alloc (.cells c1 t1)) := by
  refine ⟨((Below.refl _ _).alloc (by omega) _).alloc (by simp) _, by simp, fun j hj => there_alloc _ _ _ (by simp) (there_made w c0 t0 j (by omega)), fun j hj => ?_⟩
  rw [World.cell?_alloc_at _ _ _ _ (by simp), World.frozen?_alloc_at _ _ _ _ (by simp), h1 j hj, val, if_neg (by omega)]
  exact ⟨rfl, rfl⟩

set_option maxHeartbeats 800000 in
theorem req_any (bj bc bu n i : Nat) (cv uv : Nat → Int) (w : World) (hi : i < n) (_hn : n ≤ 4)
    (hj4 : w.cell? ⟨bj, 15, none⟩ = some (.slice (some ⟨bc, 0, none⟩) n n)) (hj5 : w.cell? ⟨bj, 16, none⟩ = some (.slice (some ⟨bu, 0, none⟩) n n))
    (hc : ∀ j, j < 10 → w.cell? ⟨bc, i * 10 + j, none⟩ = some (.int .u64 (cv j)))
    (hu : ∀ j, j < 10 → w.cell? ⟨bu, i * 10 + j, none⟩ = some (.int .u64 (uv j)))
    (hcb : ∀ j, j < 10 → 0 ≤ cv j ∧ cv j < 18446744073709551616) (hub : ∀ j, j < 10 → 0 ≤ uv j ∧ uv j < 18446744073709551616) :
    Calls Yba.prog 18 #[.pointer (some ⟨bj, 0, none⟩), .int .i64 (i : Int)] w fun e w' =>
      e = .returned (.agg #[.int .u64 (res cv uv 0), .int .u64 (res cv uv 1), .int .u64 (res cv uv 2), .int .u64 (res cv uv 3), .int .u64 (res cv uv 4), .int .u64 (res cv uv 5), .int .u64 (res cv uv 6), .int .u64 (res cv uv 7), .int .u64 (res cv uv 8), .int .u64 (res cv uv 9)]) ∧ Below w.heap.size w w' := by
  have hi' : (i : Int) < (n : Int) := by omega
  have c0 : w.cell? ⟨bc, i * 10, none⟩ = some (.int .u64 (cv 0)) := hc 0 (by omega)
  have c1 := hc 1 (by omega)
  have c2 := hc 2 (by omega)
  have c3 := hc 3 (by omega)
  have c4 := hc 4 (by omega)
  have c5 := hc 5 (by omega)
  have c6 := hc 6 (by omega)
  have c7 := hc 7 (by omega)
  have c8 := hc 8 (by omega)
  have c9 := hc 9 (by omega)
  clear hc
  have lc : bc < w.heap.size := World.block_lt_of_cell? w _ c0
  have lj : bj < w.heap.size := World.block_lt_of_cell? w _ hj5
  have lu : bu < w.heap.size := World.block_lt_of_cell? w _ (hu 0 (by omega))
  go_enter Yba.func18, Yba.ntmps18
  go_wp2
  go_loopw [22] (fun i wr => ∃ k : Nat, k ≤ 5 ∧ i = .int .i64 k ∧ ReqR w.heap.size w cv uv k wr) (fun i _ => 5 - (intOf i).toNat)
  case atStart =>
    refine ⟨0, Nat.zero_le _, rfl, reqR_start w cv uv _ _ _ _ rfl ?_⟩
    intro j hj
    match j, hj with
    | 0, _ | 1, _ | 2, _ | 3, _ | 4, _ | 5, _ | 6, _ | 7, _ | 8, _ | 9, _ => rfl
  case round =>
    obtain ⟨k, hk, rfl, R⟩ := hrel
    have hR : Hid (ReqR w.heap.size w cv uv k wr) := R
    clear c0 c1 c2 c3 c4 c5 c6 c7 c8 c9
    by_cases hlt : k < 5
    · have u0 : wr.cell? ⟨bu, i * 10 + k * 2, none⟩ = some (.int .u64 (uv (k * 2))) := (R.bel.cell (p := ⟨bu, i * 10 + k * 2, none⟩) lu).trans (hu (k * 2) (by omega))
      have u1 : wr.cell? ⟨bu, i * 10 + k * 2 + 1, none⟩ = some (.int .u64 (uv (k * 2 + 1))) := (R.bel.cell (p := ⟨bu, i * 10 + k * 2 + 1, none⟩) lu).trans (hu (k * 2 + 1) (by omega))
      obtain ⟨a0, f0⟩ := R.all (k * 2) (by omega)
      obtain ⟨a1, f1⟩ := R.all (k * 2 + 1) (by omega)
      rw [val, if_neg (by omega)] at a0 a1
      have hz := R.size
      have hz1 : w.heap.size < wr.heap.size := by omega
      have hz2 : w.heap.size < wr.heap.size + 1 := by omega
      have hz3 : w.heap.size < wr.heap.size + 1 + 1 := by omega
      have hz4 : w.heap.size < wr.heap.size + 1 + 1 + 1 := by omega
      have hub' : bu < wr.heap.size := by have := R.bel.size; omega
      clear R hu hj4 hj5
      go_wp2
      go_region
      go_wp2
      go_region_with (go_at_call 22; refine (plus_any _ _ _ _ (hcb (k * 2 + 1) (by omega)).1 (hcb (k * 2 + 1) (by omega)).2 (hub (k * 2 + 1) (by omega)).1 (hub (k * 2 + 1) (by omega)).2 _).mono ?_; rintro e w' ⟨rfl, x1, x2, x3, rfl⟩)
      all_goals
        go_wp2
        go_roundw
        case rel => exact ⟨k + 1, by omega, by go_num, (((((hR.out.step hlt).alloc _).alloc _).alloc _).alloc _).drew.drew⟩
        case measure => simp [intOf]; omega
    · obtain rfl : k = 5 := by omega
      obtain ⟨a0, f0⟩ := R.all 0 (by omega)
      obtain ⟨a1, f1⟩ := R.all 1 (by omega)
      obtain ⟨a2, f2⟩ := R.all 2 (by omega)
      obtain ⟨a3, f3⟩ := R.all 3 (by omega)
      obtain ⟨a4, f4⟩ := R.all 4 (by omega)
      obtain ⟨a5, f5⟩ := R.all 5 (by omega)
      obtain ⟨a6, f6⟩ := R.all 6 (by omega)
      obtain ⟨a7, f7⟩ := R.all 7 (by omega)
      obtain ⟨a8, f8⟩ := R.all 8 (by omega)
      obtain ⟨a9, f9⟩ := R.all 9 (by omega)
      rw [val, if_pos (by omega)] at a0 a1 a2 a3 a4 a5 a6 a7 a8 a9
      obtain ⟨_, b0, g0⟩ := R.out 0 (by omega)
      obtain ⟨_, b1, g1⟩ := R.out 1 (by omega)
      obtain ⟨_, b2, g2⟩ := R.out 2 (by omega)
      obtain ⟨_, b3, g3⟩ := R.out 3 (by omega)
      obtain ⟨_, b4, g4⟩ := R.out 4 (by omega)
      obtain ⟨_, b5, g5⟩ := R.out 5 (by omega)
      obtain ⟨_, b6, g6⟩ := R.out 6 (by omega)
      obtain ⟨_, b7, g7⟩ := R.out 7 (by omega)
      obtain ⟨_, b8, g8⟩ := R.out 8 (by omega)
      obtain ⟨_, b9, g9⟩ := R.out 9 (by omega)
      have hz := R.size
      clear R hu hj4 hj5 f0 f1 f2 f3 f4 f5 f6 f7 f8 f9
      go_wp2
      refine bodyPost_ret (v := .agg #[.int .u64 (res cv uv 0), .int .u64 (res cv uv 1), .int .u64 (res cv uv 2), .int .u64 (res cv uv 3), .int .u64 (res cv uv 4), .int .u64 (res cv uv 5), .int .u64 (res cv uv 6), .int .u64 (res cv uv 7), .int .u64 (res cv uv 8), .int .u64 (res cv uv 9)])
        (by simp [results, Yba.results18, go_sem, b0, b1, b2, b3, b4, b5, b6, b7, b8, b9]) rfl ⟨rfl, ?_⟩
      exact below_setCells w.heap.size (Nat.le_refl _) [.int .u64 (res cv uv 0), .int .u64 (res cv uv 1), .int .u64 (res cv uv 2), .int .u64 (res cv uv 3), .int .u64 (res cv uv 4), .int .u64 (res cv uv 5), .int .u64 (res cv uv 6), .int .u64 (res cv uv 7), .int .u64 (res cv uv 8), .int .u64 (res cv uv 9)] 0 wr hR.out.bel
end Go.Proofs.Ybulkwjm

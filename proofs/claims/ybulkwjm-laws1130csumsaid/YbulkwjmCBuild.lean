/- The contract of scaledown.zzs1130cbuild (function 17). -/
import Derived.Test.YbulkwjmRows
import Derived.Test.YbulkwjmCMem
import Derived.WalkKit
import Derived.WalkSpells
import Derived.WalkLawsBesides
import Derived.Outline
import Derived.RegionTactic
import Derived.BigRegion
import Derived.Deep.DeepCutAuto
namespace Go.Proofs.Ybulkwjm
open Go.RowKit
theorem info76 : (Yba.prog.info? 76).map (fun i => (i.zero, i.size, i.bytes)) = some (some (.agg #[.int .u64 0, .int .u64 0, .int .u64 0, .int .u64 0, .int .u64 0, .int .u64 0, .int .u64 0, .int .u64 0, .int .u64 0, .int .u64 0]), 10, 80) := by kernel_rfl
theorem cmake {t e : TypeId} {z : Value} {size bytes : Nat} (ht : Yba.prog.underlying t = some (.slice e))
    (hinfo : (Yba.prog.info? e).map (fun i => (i.zero, i.size, i.bytes)) = some (some z, size, bytes)) (n : Nat) (hb : bytes * n ≤ 281474976710656) (h63 : n ≤ 9223372036854775807) :
    ∀ w : World, (Instr.makeSlice t (.int .i64 (n : Int)) (.int .i64 (n : Int))).run Yba.prog w = .ok (.slice (some ⟨w.heap.size, 0, none⟩) n n) (w.alloc (.cells (madeCells z.cells (n * size)) e)) := by
  intro w
  obtain ⟨i, hi, h0, h1, h2⟩ := info_parts hinfo
  have hb' : (i.bytes : Int) * (n : Int) ≤ 281474976710656 := by
    subst h2
    have h : ((i.bytes * n : Nat) : Int) ≤ 281474976710656 := by omega
    rwa [Int.natCast_mul] at h
  have hr := run_make (P := Yba.prog) w t e i z ht hi h0 .i64 .i64 n n (by omega) (by omega) hb' (by omega)
  simp only [Int.toNat_natCast] at hr
  rw [hr, h1]
def zeros (n : Nat) : Array Value := madeCells #[.int .u64 0, .int .u64 0, .int .u64 0, .int .u64 0, .int .u64 0, .int .u64 0, .int .u64 0, .int .u64 0, .int .u64 0, .int .u64 0] (n * 10)
set_option maxRecDepth 100000 in
set_option maxHeartbeats 1600000 in
theorem cbuild_any (n i : Nat) (cv uv : Nat → Int) (w : World) (hn : n ≤ 4) :
    Calls Yba.prog 17 #[.int .i64 (n : Int), .int .i64 (i : Int), .agg (ten cv), .agg (ten uv)] w fun e w' =>
      ∃ bc bu : Nat, e = .returned (.pointer (some ⟨w.heap.size + 1 + 1 + 1 + 1, 0, none⟩)) ∧ CB w.heap.size n i w cv uv bc bu (n * 10) w' := by
  have m1 : ∀ w : World, (Instr.makeSlice 87 (.int .i64 (n : Int)) (.int .i64 (n : Int))).run Yba.prog w = .ok (.slice (some ⟨w.heap.size, 0, none⟩) n n) (w.alloc (.cells (zeros n) 76)) := cmake (t := 87) (by exact Yba.underlying87) info76 n (by omega) (by omega)
  go_enter Yba.func17, Yba.ntmps17
  go_upto_region 1 with fail
  go_cut [9] (fun p wc => p = .pointer (some ⟨w.heap.size + 1 + 1 + 1 + 1, 0, none⟩) ∧ ∃ bc bu : Nat, CB w.heap.size n i w cv uv bc bu 0 wc)
  case first =>
    go_region
    · go_wp2
      go_meet
      case rel => exact ⟨rfl, _, _, (cb_start w n i cv uv (zeros n) _ 70 70 76 76 109 (w.heap.size + 2) (w.heap.size + 3) (size_madeCells _ _) (Or.inl ⟨rfl, rfl⟩) rfl rfl).drew⟩
    · go_wp2
      go_meet
      case rel => exact ⟨rfl, _, _, (cb_start w n i cv uv (zeros n) _ 70 70 76 76 109 (w.heap.size + 3) (w.heap.size + 2) (size_madeCells _ _) (Or.inr ⟨rfl, rfl⟩) rfl rfl).drew⟩
  case rest =>
    obtain ⟨rfl, bc, bu, R0⟩ := hcut
    have H0 : Hid (CB w.heap.size n i w cv uv bc bu 0 wc) := R0
    clear R0 m1
    go_wp2
    go_loopw [10, 11] (fun m _ wr => ∃ k : Nat, k ≤ n ∧ m = .int .i64 k ∧ CB w.heap.size n i w cv uv bc bu (k * 10) wr) (fun m _ _ => n - (intOf m).toNat)
    case atStart => exact ⟨0, Nat.zero_le _, rfl, H0.out⟩
    case round =>
      clear H0
      obtain ⟨m, hm, rfl, R⟩ := hrel
      by_cases hlt : m < n
      · have H1 : Hid (CB w.heap.size n i w cv uv bc bu (m * 10) wr) := R
        clear R
        go_wp2
        go_loopw [11] (fun q wr => ∃ k : Nat, k ≤ 5 ∧ q = .int .i64 k ∧ CB w.heap.size n i w cv uv bc bu (m * 10 + k * 2) wr) (fun q _ => 5 - (intOf q).toNat)
        case atStart => exact ⟨0, Nat.zero_le _, rfl, H1.out⟩
        case round =>
          clear H1
          obtain ⟨k, hk, rfl, R⟩ := hrel
          have H2 : Hid (CB w.heap.size n i w cv uv bc bu (m * 10 + k * 2) wr) := R
          by_cases hlk : k < 5
          · have fc := R.fc
            have fu := R.fu
            have x0 := R.boxc (k * 2) (by omega)
            have x1 := R.boxc (k * 2 + 1) (by omega)
            have y0 := R.boxu (k * 2) (by omega)
            have y1 := R.boxu (k * 2 + 1) (by omega)
            obtain ⟨_, a0, f0⟩ := R.tc (m * 10 + k * 2) (by omega)
            obtain ⟨_, a1, f1⟩ := R.tc (m * 10 + k * 2 + 1) (by omega)
            obtain ⟨_, b0, g0⟩ := R.tu (m * 10 + k * 2) (by omega)
            obtain ⟨_, b1, g1⟩ := R.tu (m * 10 + k * 2 + 1) (by omega)
            have ne := R.ne
            have ne' : bu ≠ bc := fun e => ne e.symm
            have hl := R.lc; have hl' := R.lc'; have hu := R.lu; have hu' := R.lu'
            have n0 : bc ≠ w.heap.size := by omega
            have n1 : bc ≠ w.heap.size + 1 := by omega
            have n2 : bc ≠ w.heap.size + 1 + 1 + 1 + 1 := by omega
            clear R
            by_cases hmi : m = i
            · subst hmi
              go_wp2
              go_region
              go_wp2
              go_region
              go_wp2
              go_roundw
              case rel => exact ⟨k + 1, by omega, by go_num, (H2.out.step hlt hlk _ _ _ _ (fun _ => ⟨rfl, rfl, rfl, rfl⟩)).drew.drew⟩
              case measure => simp [intOf]; omega
            · have hmi' : ((m : Int) == (i : Int)) = false := by simp; omega
              go_wp2
              go_region
              go_wp2
              go_region
              go_wp2
              go_roundw
              case rel => exact ⟨k + 1, by omega, by go_num, (H2.out.step hlt hlk _ _ _ _ (fun e => absurd e hmi)).drew.drew⟩
              case measure => simp [intOf]; omega
          · obtain rfl : k = 5 := by omega
            go_wp2
            go_roundw
            case rel => exact ⟨m + 1, by omega, by go_num, by have := H2.out; rw [show m * 10 + 5 * 2 = (m + 1) * 10 by omega] at this; exact this⟩
            case measure => simp [intOf]; omega
      · obtain rfl : m = n := by omega
        go_wp2
        go_ret
        exact ⟨bc, bu, rfl, R⟩
end Go.Proofs.Ybulkwjm

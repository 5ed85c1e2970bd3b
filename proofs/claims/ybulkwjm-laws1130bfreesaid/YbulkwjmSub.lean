import Derived.Test.YbulkwjmTakes
import Derived.Test.YbulkwjmSubPlain
namespace Go.Proofs.Ybulkwjm
open Go.RowKit
theorem info54 : (Yba.prog.info? 54).map (fun i => (i.zero, i.size, i.bytes)) = some (some (.agg #[.pointer none, .bool false, .int .i64 0, .int .i64 0, .int .i64 0]), 5, 40) := by kernel_rfl
theorem info57 : (Yba.prog.info? 57).map (fun i => (i.zero, i.size, i.bytes)) = some (some (.pointer none), 1, 8) := by kernel_rfl
theorem info66 : (Yba.prog.info? 66).map (fun i => (i.zero, i.size, i.bytes)) = some (some (.agg #[.int .i64 0, .int .i64 0, .int .i64 0, .int .i64 0]), 4, 32) := by kernel_rfl

theorem make_any {t e : TypeId} {z : Value} {size bytes : Nat} (ht : Yba.prog.underlying t = some (.slice e))
    (hinfo : (Yba.prog.info? e).map (fun i => (i.zero, i.size, i.bytes)) = some (some z, size, bytes)) (n : Nat) (hb : bytes * n ≤ 281474976710656) (h63 : n ≤ 9223372036854775807) :
    ∀ w : World, (Instr.makeSlice t (.int .i64 (n : Int)) (.int .i64 (n : Int))).run Yba.prog w = .ok (.slice (some ⟨w.heap.size, 0, none⟩) n n) (w.alloc (.cells (madeCells z.cells (n * size)) e)) := by
  intro w
  obtain ⟨i, hi, h0, h1, h2⟩ := info_parts hinfo
  have hb' : (i.bytes : Int) * (n : Int) ≤ 281474976710656 := by
    subst h2
    have h : ((i.bytes * n : Nat) : Int) ≤ 281474976710656 := by omega
    rwa [Int.natCast_mul] at h
  have hr := run_make (P := Yba.prog) w t e i z ht hi h0 .i64 .i64 n n (by omega) (by omega) hb' (by omega)
  simp only [Int.toNat_natCast] at hr
  rw [hr, h1]

set_option maxHeartbeats 800000 in
theorem sub_any (xi xa : Option Addr) (n ci na ca : Nat) (ips aft : Nat → Int) (w : World)
    (hn : n ≤ 4096) (_hna : na ≤ 9223372036854775807)
    (hci : ∀ i, i < n → ∃ b o, xi = some ⟨b, o, none⟩ ∧ b < w.heap.size ∧ w.cell? ⟨b, o + i, none⟩ = some (.int .i64 (ips i)))
    (hca : ∀ i, i < na → ∃ b o, xa = some ⟨b, o, none⟩ ∧ b < w.heap.size ∧ w.cell? ⟨b, o + i, none⟩ = some (.int .i64 (aft i)))
    (h0 : ∀ i, na ≤ i → aft i = 0) :
    Calls Yba.prog 13 #[.slice xi n ci, .slice xa na ca] w fun e w' => e = .returned (.pointer (some ⟨w.heap.size + 3 + n, 0, none⟩)) ∧ SubEnd w.heap.size n w ips aft w' := by
  have m1 := make_any (t := 134) (by exact Yba.underlying134) info54 n (by omega) (by omega)
  have m2 := make_any (t := 58) (by exact Yba.underlying58) info57 n (by omega) (by omega)
  have m3 := make_any (t := 60) (by exact Yba.underlying60) info66 n (by omega) (by omega)
  go_enter Yba.func13, Yba.ntmps13
  go_wp2
  go_loopw [9, 10] (fun i _ wr => ∃ k : Nat, k ≤ n ∧ i = .int .i64 k ∧ SubR w.heap.size n w ips aft k wr) (fun i _ _ => n - (intOf i).toNat)
  case atStart => 
    exact ⟨0, Nat.zero_le _, rfl, subR_start w n ips aft _ _ _ _ _ _ (size_madeCells _ _) (size_madeCells _ _) (size_madeCells _ _)⟩
  case round =>
    clear m1 m2 m3
    obtain ⟨k, hk, rfl, R⟩ := hrel
    have hsz : wr.heap.size = w.heap.size + 3 + k := R.size
    by_cases hlt : k < n
    · obtain ⟨b, o, rfl, hb, hc⟩ := hci k hlt
      have hc' := (R.bel.cell (p := ⟨b, o + k, none⟩) hb).trans hc
      obtain ⟨p0, cp0, fp0⟩ := R.t0 (k * 5) (by omega)
      obtain ⟨p1, cp1, fp1⟩ := R.t0 (k * 5 + 1) (by omega)
      obtain ⟨p2, cp2, fp2⟩ := R.t0 (k * 5 + 2) (by omega)
      obtain ⟨p3, cp3, fp3⟩ := R.t0 (k * 5 + 3) (by omega)
      obtain ⟨p4, cp4, fp4⟩ := R.t0 (k * 5 + 4) (by omega)
      obtain ⟨e0, ce0, fe0⟩ := R.t1 k (by omega)
      obtain ⟨q0, cq0, fq0⟩ := R.t2 (k * 4) (by omega)
      obtain ⟨q1, cq1, fq1⟩ := R.t2 (k * 4 + 1) (by omega)
      obtain ⟨q2, cq2, fq2⟩ := R.t2 (k * 4 + 2) (by omega)
      obtain ⟨q3, cq3, fq3⟩ := R.t2 (k * 4 + 3) (by omega)
      have hlt1 : w.heap.size < wr.heap.size := by omega
      have hlt2 : w.heap.size + 1 < wr.heap.size := by omega
      have hlt3 : w.heap.size + 1 + 1 < wr.heap.size := by omega
      have hbr : b < wr.heap.size := by omega
      have hR : Hid (SubR w.heap.size n w ips aft k wr) := R
      clear R hsz hci hc
      by_cases hka : k < na
      · obtain ⟨b', o', rfl, hb', hc2⟩ := hca k hka
        have hc2' := (hR.out.bel.cell (p := ⟨b', o' + k, none⟩) hb').trans hc2
        clear hca hc2
        go_wp2
        go_roundw
        case rel => exact ⟨k + 1, by omega, by go_num, subR_step hR.out hlt⟩
        case measure => simp [intOf]; omega
      · have h0k : Hid (aft k = 0) := h0 k (by omega)
        clear hca h0
        go_wp2
        go_roundw
        case rel =>
          have hs := subR_step hR.out hlt
          rw [h0k.out] at hs
          exact ⟨k + 1, by omega, by go_num, hs⟩
        case measure => simp [intOf]; omega
    · obtain rfl : k = n := by omega
      clear hci hca
      go_wp2
      go_ret
      exact ⟨rfl, subEnd_of R _ _ rfl rfl⟩
end Go.Proofs.Ybulkwjm

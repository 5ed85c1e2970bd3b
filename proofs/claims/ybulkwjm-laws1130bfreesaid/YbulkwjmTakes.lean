/- The contract of '(*subnet).takes' (function 14): the wrapped sum of the 'ips' of the entries of 'taken'. -/
import Derived.Test.YbulkwjmRows
import Derived.Test.YbulkwjmSums
import Derived.WalkKit
import Derived.Outline
import Derived.WalkSpells
import Derived.WalkLawsBesides
namespace Go.Proofs.Ybulkwjm
open Go.RowKit
set_option maxHeartbeats 400000 in
theorem takes_any (bs t n : Nat) (f : Nat → Int) (w : World)
    (hn : n ≤ 4096) (ht : t < w.heap.size)
    (hs : w.cell? ⟨bs, 6, none⟩ = some (.slice (some ⟨t, 0, none⟩) n n))
    (hc : ∀ i, i < n → ∀ j, j < 4 → w.cell? ⟨t, i * 4 + j, none⟩ = some (.int .i64 (if j = 0 then f i else 0))) :
    Calls Yba.prog 14 #[.pointer (some ⟨bs, 0, none⟩)] w fun e w' => e = .returned (.int .i64 (wrap64 (psum f n))) ∧ Below w.heap.size w w' := by
  go_enter Yba.func14, Yba.ntmps14
  go_wp2
  go_loopw [3, 11] (fun s i wr => ∃ k : Nat, k ≤ n ∧ i = .int .i64 k ∧ s = .int .i64 (wrap64 (psum f k)) ∧ Below w.heap.size w wr) (fun _ i _ => n - (intOf i).toNat)
  case atStart => exact ⟨0, Nat.zero_le _, rfl, int_eq wrap_zero.symm, Below.refl _ _⟩
  case round =>
    obtain ⟨k, hk, rfl, rfl, hb⟩ := hrel
    have hsz := hb.size
    by_cases hlt : k < n
    · have e0 : wr.cell? ⟨t, k * 4, none⟩ = some (.int .i64 (f k)) := (hb.cell (p := ⟨t, k * 4, none⟩) ht).trans (hc k hlt 0 (by omega))
      have e1 : wr.cell? ⟨t, k * 4 + 1, none⟩ = some (.int .i64 0) := (hb.cell (p := ⟨t, k * 4 + 1, none⟩) ht).trans (hc k hlt 1 (by omega))
      have e2 : wr.cell? ⟨t, k * 4 + 2, none⟩ = some (.int .i64 0) := (hb.cell (p := ⟨t, k * 4 + 2, none⟩) ht).trans (hc k hlt 2 (by omega))
      have e3 : wr.cell? ⟨t, k * 4 + 3, none⟩ = some (.int .i64 0) := (hb.cell (p := ⟨t, k * 4 + 3, none⟩) ht).trans (hc k hlt 3 (by omega))
      clear hc hs
      go_wp2
      go_roundw
      case rel => exact ⟨k + 1, by omega, by go_num, int_eq (psum_succ f k), hb.alloc hsz _⟩
      case measure => simp [intOf]; omega
    · obtain rfl : k = n := by omega
      clear hc
      go_wp2
      go_ret
      exact ⟨rfl, hb⟩
end Go.Proofs.Ybulkwjm

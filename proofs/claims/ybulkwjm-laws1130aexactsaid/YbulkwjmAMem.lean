/- The contract of plan.zzs1130amem (function 19): one store, at the group's memory. -/
import Derived.Test.YbulkwjmRows
import Derived.Test.YbulkwjmMem
import Derived.WalkKit
import Derived.WalkSpells
import Derived.WalkLawsBesides
import Derived.Outline
namespace Go.Proofs.Ybulkwjm
open Go.RowKit
/-- The memory that a draw of m gives. -/
def memOf (m : Nat) : Int := if m % 6 = 0 then 1000 else if m % 6 = 1 then 1010 else if m % 6 = 2 then 1015 else if m % 6 = 3 then 1016 else if m % 6 = 4 then 0 else 8192
set_option maxHeartbeats 800000 in
theorem amem_any (b o m : Nat) (w : World) (hm : m ≤ 255) (v : Value) (hc : w.cell? ⟨b, o + 1 + 7, none⟩ = some v) (hf : w.frozen? ⟨b, o + 1 + 7, none⟩ = false) :
    Calls Yba.prog 19 #[.pointer (some ⟨b, o, none⟩), .int .u8 (m : Int)] w fun e w' => e = .returned (.int .i64 (memOf m)) ∧ w' = w.setCell ⟨b, o + 1 + 7, none⟩ (.int .i64 (memOf m)) := by
  have hm' : (m : Int) ≤ 255 := by omega
  have h6 : m % 6 = 0 ∨ m % 6 = 1 ∨ m % 6 = 2 ∨ m % 6 = 3 ∨ m % 6 = 4 ∨ m % 6 = 5 := by omega
  unfold memOf
  rcases h6 with h | h | h | h | h | h
  all_goals
    have h' : (m : Int) % 6 = ((m % 6 : Nat) : Int) := by omega
    rw [h] at h'
    simp only [h]
    go_enter Yba.func19, Yba.ntmps19
    go_wp2
    go_ret
    exact ⟨rfl, rfl⟩
end Go.Proofs.Ybulkwjm

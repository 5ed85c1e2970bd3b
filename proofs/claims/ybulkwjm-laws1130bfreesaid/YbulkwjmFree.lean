/- The contract of '(*subnet).free' (function 15). Its one statement draws its order; it only reads. -/
import Derived.Test.YbulkwjmRows
import Derived.Test.YbulkwjmSubPlain
import Derived.Test.YbulkwjmSums
import Derived.Outline
import Derived.WalkSpells
import Derived.WalkLawsBesides
import Derived.Deep.QuietTactic
import Derived.BigQuiet
namespace Go.Proofs.Ybulkwjm
open Go.RowKit
set_option maxHeartbeats 800000 in
theorem free_any (bs N n i : Nat) (a p : Int) (w : World) (_hn : n ≤ 4096) (hi : i < n)
    (f2 : w.cell? ⟨bs, 2, none⟩ = some (.slice (some ⟨N + 1, 0, none⟩) n n))
    (f6 : w.cell? ⟨bs, 6, none⟩ = some (.slice (some ⟨N + 1 + 1, 0, none⟩) n n))
    (hp : w.cell? ⟨N, i * 5, none⟩ = some (.pointer (some ⟨N + 3 + i, 0, none⟩)))
    (hu : w.cell? ⟨N + 3 + i, 3, none⟩ = some (.int .i64 a))
    (he : w.cell? ⟨N + 1, i, none⟩ = some (.pointer (some ⟨N, i * 5, none⟩)))
    (ht : w.cell? ⟨N + 1 + 1, i * 4, none⟩ = some (.int .i64 p)) :
    Calls Yba.prog 15 #[.pointer (some ⟨bs, 0, none⟩), .int .i64 (i : Int)] w fun e w' => e = .returned (.int .i64 (wrap64 (a - p))) ∧ ∃ nq, w' = w.drewN nq := by
  have hi' : (i : Int) < (n : Int) := by omega
  go_enter Yba.func15, Yba.ntmps15
  go_wp2_with fail
  go_quiet (fail)
  go_wp2
  go_ret
  exact ⟨rfl, _, rfl⟩
end Go.Proofs.Ybulkwjm

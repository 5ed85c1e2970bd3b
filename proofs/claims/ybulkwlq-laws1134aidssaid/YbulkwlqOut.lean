/- LawS1134AIds (function 3) where one of its slices is too long: it returns true at once. -/
import Derived.Test.YbulkwlqRows
import Derived.WalkKit
import Derived.WalkSpells
import Derived.WalkLawsBesides
namespace Go.Proofs.Ybulkwlq
open Go.RowKit
set_option maxRecDepth 100000 in
theorem law_out (xi xp xs : Option Addr) (n ci np cp ns cs : Nat) (w : World) (_hn : n ≤ 9223372036854775807) (_hnp : np ≤ 9223372036854775807) (_hns : ns ≤ 9223372036854775807) (h : 256 < n ∨ 1024 < np ∨ 1024 < ns) :
    Calls Yba.prog 3 #[.slice xi n ci, .slice xp np cp, .slice xs ns cs] w fun e w' => e = .returned (.bool true) ∧ Below w.heap.size w w' := by
  by_cases h1 : 256 < n
  · clear h
    have d1 : decide ((256 : Int) < (n : Int)) = true := by simp; omega
    go_enter Yba.func3, Yba.ntmps3
    go_wp2
    go_ret
    exact ⟨rfl, Below.refl _ _⟩
  · have d1 : decide ((256 : Int) < (n : Int)) = false := by simp; omega
    by_cases h2 : 1024 < np
    · clear h
      have d2 : decide ((1024 : Int) < (np : Int)) = true := by simp; omega
      go_enter Yba.func3, Yba.ntmps3
      go_wp2
      go_ret
      exact ⟨rfl, Below.refl _ _⟩
    · have d2 : decide ((1024 : Int) < (np : Int)) = false := by simp; omega
      have h3 : 1024 < ns := by omega
      clear h
      have d3 : decide ((1024 : Int) < (ns : Int)) = true := by simp; omega
      go_enter Yba.func3, Yba.ntmps3
      go_wp2
      go_ret
      exact ⟨rfl, Below.refl _ _⟩
end Go.Proofs.Ybulkwlq

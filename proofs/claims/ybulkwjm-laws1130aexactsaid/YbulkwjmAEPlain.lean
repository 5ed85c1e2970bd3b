/- The plain law of plan.LawS1130AExact. Nothing of the program. -/
import Derived.Test.YbulkwjmAPlain2
namespace Go.Proofs.Ybulkwjm
open Go.RowKit
/-- The figure j of group q, as it was offered. -/
def AQ (bs ds : Nat → Int) (sw : Bool) (q : Nat) : Nat → Int
  | 0 => FA bs ds sw q
  | 1 => FA bs ds sw (2 + q)
  | 2 => FA bs ds sw (4 + q)
  | 3 => FA bs ds sw (6 + q)
  | _ => FA bs ds sw (8 + q)

theorem fa_bd (bs ds : Nat → Int) (sw : Bool) (hbs : ∀ j, j < 5 → 0 ≤ bs j ∧ bs j ≤ 4294967295) (hds : ∀ j, j < 5 → 0 ≤ ds j ∧ ds j ≤ 255) (j : Nat) (hj : j < 10) : 0 ≤ FA bs ds sw j ∧ FA bs ds sw j ≤ 1000000000000 := by
  have h1 := hbs (j / 2) (by omega)
  have h2 := hds (j / 2) (by omega)
  unfold FA
  split <;> omega

theorem aq_bd (bs ds : Nat → Int) (sw : Bool) (hbs : ∀ j, j < 5 → 0 ≤ bs j ∧ bs j ≤ 4294967295) (hds : ∀ j, j < 5 → 0 ≤ ds j ∧ ds j ≤ 255) (q : Nat) (hq : q < 2) (j : Nat) (_hj : j < 5) : 0 ≤ AQ bs ds sw q j ∧ AQ bs ds sw q j ≤ 1000000000000 := by
  unfold AQ
  split <;> exact fa_bd bs ds sw hbs hds _ (by omega)

theorem fg_bd (bs ds : Nat → Int) (sw ka kb : Bool) (hbs : ∀ j, j < 5 → 0 ≤ bs j ∧ bs j ≤ 4294967295) (hds : ∀ j, j < 5 → 0 ≤ ds j ∧ ds j ≤ 255) (j : Nat) (hj : j < 10) : 0 ≤ FG bs ds sw ka kb 2 j ∧ FG bs ds sw ka kb 2 j ≤ 1000000000000 := by
  have h := fa_bd bs ds sw hbs hds j hj
  unfold FG
  split
  · omega
  · split
    · omega
    · exact h
end Go.Proofs.Ybulkwjm

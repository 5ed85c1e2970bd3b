/- math/bits.Add64 (function 24) at a carry of 0, and '(uint128).plus' (function 22). -/
import Derived.Test.YbulkwjmRows
import Derived.WalkKit
import Derived.WalkSpells
import Derived.WalkLawsBesides
import Derived.Laws.Externs
import Derived.Outline
namespace Go.Proofs.Ybulkwjm
open Go.RowKit

theorem add64_0 (x y : Int) (hx : 0 ≤ x) (hy : 0 ≤ y) (w : World) : (callFunc 24 #[.int .u64 x, .int .u64 y, .int .u64 0]).run Yba.prog w =
    .ok (.value (.tuple #[.int .u64 ((x + y) % 18446744073709551616), .int .u64 ((x + y) / 18446744073709551616)])) w := by
  obtain ⟨x, rfl⟩ := Int.eq_ofNat_of_zero_le hx
  obtain ⟨y, rfl⟩ := Int.eq_ofNat_of_zero_le hy
  rw [run_callFunc_extern Yba.func24 (by kernel_rfl) (by kernel_rfl) (by kernel_rfl) (e := add64Entry) (by kernel_rfl), run_add64 x y 0 (by omega) (by omega) (by omega) (by omega)]
  simp only [Result.andThen]
  congr 5 <;> omega

/-- The two words of a sum of two 128-bit numbers. -/
def hi128 (ah al bh bl : Int) : Int := IntKind.u64.wrap (IntKind.u64.wrap (ah + bh) + (al + bl) / 18446744073709551616)
def lo128 (al bl : Int) : Int := (al + bl) % 18446744073709551616

theorem plus_any (ah al bh bl : Int) (h2 : 0 ≤ al) (h2' : al < 18446744073709551616)
    (h4 : 0 ≤ bl) (h4' : bl < 18446744073709551616) (w : World) :
    Calls Yba.prog 22 #[.agg #[.int .u64 ah, .int .u64 al], .agg #[.int .u64 bh, .int .u64 bl]] w fun e w' =>
      e = .returned (.agg #[.int .u64 (hi128 ah al bh bl), .int .u64 (lo128 al bl)]) ∧
      ∃ c1 c2 c3 : Array Value, w' = ((w.alloc (.cells c1 74)).alloc (.cells c2 74)).alloc (.cells c3 74) := by
  have k0 : 0 ≤ (al + bl) / 18446744073709551616 := by omega
  have k1 : (al + bl) / 18446744073709551616 ≤ 1 := by omega
  go_enter Yba.func22, Yba.ntmps22
  go_wp2_with (simp only [add64_0 al bl h2 h4])
  simp [bodyPost, results, Yba.results22, go_sem]
  exact ⟨⟨rfl, rfl⟩, _, _, _, rfl⟩
end Go.Proofs.Ybulkwjm

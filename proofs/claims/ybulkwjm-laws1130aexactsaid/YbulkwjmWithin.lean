/- math/bits.Mul64 (function 23) at this program: the kit's own contract (Derived/Shelf/Bits/Mul64.lean) walked anew over this translation; plan.within (20), plan.zzs1130awithin (11). -/
import Derived.Test.YbulkwjmRows
import Derived.WalkKit
import Derived.WalkSpells
import Derived.WalkLawsBesides
import Derived.Outline
import Derived.Shelf.Bits.Mul64
namespace Go.Proofs.Ybulkwjm
open Go.RowKit
set_option maxHeartbeats 1000000 in
theorem mul64_any (x y : Nat) (hx : x < 18446744073709551616) (hy : y < 18446744073709551616) (w : World) :
    Calls Yba.prog 23 #[.int .u64 x, .int .u64 y] w fun e w' => e = .returned (.tuple #[.int .u64 ((x * y / 18446744073709551616 : Nat) : Int), .int .u64 ((x * y % 18446744073709551616 : Nat) : Int)]) ∧ w' = w := by
  obtain ⟨bd, bt, bw, hhi⟩ := Lib.mul64_hi x y hx hy
  have ba := Lib.half_mul_le (a := x / 4294967296) (b := y / 4294967296) (by omega) (by omega)
  have bb := Lib.half_mul_le (a := x / 4294967296) (b := y % 4294967296) (by omega) (by omega)
  have bc := Lib.half_mul_le (a := x % 4294967296) (b := y / 4294967296) (by omega) (by omega)
  have ba' : x / 4294967296 * (y / 4294967296) < 18446744073709551616 := by omega
  have bb' : x / 4294967296 * (y % 4294967296) < 18446744073709551616 := by omega
  have bc' : x % 4294967296 * (y / 4294967296) < 18446744073709551616 := by omega
  have bh1 : x / 4294967296 * (y / 4294967296) + (x / 4294967296 * (y % 4294967296) + x % 4294967296 * (y % 4294967296) / 4294967296) / 4294967296 < 18446744073709551616 := by omega
  have bh : x / 4294967296 * (y / 4294967296) + (x / 4294967296 * (y % 4294967296) + x % 4294967296 * (y % 4294967296) / 4294967296) / 4294967296 + ((x / 4294967296 * (y % 4294967296) + x % 4294967296 * (y % 4294967296) / 4294967296) % 4294967296 + x % 4294967296 * (y / 4294967296)) / 4294967296 < 18446744073709551616 := by omega
  go_enter Yba.func23, Yba.ntmps23
  go_wp2
  simp only [Mul64.maskN x hx, Mul64.maskN y hy, Mul64.divN, Mul64.mulN, Mul64.addN, Mul64.wrapN _ bd, Mul64.wrapN _ bb', Mul64.wrapN _ bt, Mul64.maskN _ bt, Mul64.wrapN _ bc', Mul64.wrapN _ bw, Mul64.wrapN _ ba', Mul64.wrapN _ bh1, Mul64.wrapN _ bh, Mul64.wrapM (x * y)]
  rw [hhi]
  go_ret2
  exact ⟨rfl, rfl⟩

theorem retb {a b : Bool} (h : a = b) : Ending.returned (.bool a) = .returned (.bool b) := by rw [h]
/-- Is the greater within p thousandths of the smaller? -/
def nearB (x y p : Int) : Bool := decide ((max x y - min x y) * 1000 ≤ min x y * p)

theorem awithin_any (x y p : Int) (w : World) (hx : 0 ≤ x) (hx' : x ≤ 1000000000000) (hy : 0 ≤ y) (hy' : y ≤ 1000000000000) (hp : p = 15 ∨ p = 50) :
    Calls Yba.prog 11 #[.int .i64 x, .int .i64 y, .int .i64 p] w fun e w' => e = .returned (.bool (nearB x y p)) ∧ w' = w := by
  unfold nearB
  by_cases h : y < x
  · have e1 : max x y = x := by omega
    have e2 : min x y = y := by omega
    rw [e1, e2]
    clear e1 e2
    rcases hp with rfl | rfl
    all_goals
      go_enter Yba.func11, Yba.ntmps11
      go_wp2
      go_ret
      exact ⟨rfl, rfl⟩
  · have e1 : max x y = y := by omega
    have e2 : min x y = x := by omega
    rw [e1, e2]
    clear e1 e2
    rcases hp with rfl | rfl
    all_goals
      go_enter Yba.func11, Yba.ntmps11
      go_wp2
      go_ret
      exact ⟨rfl, rfl⟩

/-- Where the product fits one word. -/
theorem mul64_small (x y : Int) (z : Int) (hx : 0 ≤ x) (hx' : x < 18446744073709551616) (hy : 0 ≤ y) (hy' : y < 18446744073709551616) (hz : x * y = z) (hz' : z < 18446744073709551616) (w : World) :
    Calls Yba.prog 23 #[.int .u64 x, .int .u64 y] w fun e w' => e = .returned (.tuple #[.int .u64 0, .int .u64 z]) ∧ w' = w := by
  obtain ⟨x, rfl⟩ := Int.eq_ofNat_of_zero_le hx
  obtain ⟨y, rfl⟩ := Int.eq_ofNat_of_zero_le hy
  subst hz
  have h : x * y < 18446744073709551616 := by have : ((x * y : Nat) : Int) < 18446744073709551616 := by rw [Int.natCast_mul]; exact hz'
                                              omega
  refine (mul64_any x y (by omega) (by omega) w).mono ?_
  rintro e w' ⟨rfl, rfl⟩
  rw [Nat.div_eq_of_lt h, Nat.mod_eq_of_lt h, Int.natCast_mul]
  exact ⟨rfl, rfl⟩

theorem within_lt (x y p : Int) (w : World) (hxy : y < x) (hx' : x ≤ 1000000000000) (hy : 0 ≤ y) (hp : p = 15 ∨ p = 50) :
    Calls Yba.prog 20 #[.int .i64 x, .int .i64 y, .int .i64 p] w fun e w' => e = .returned (.bool (decide ((x - y) * 1000 ≤ y * p))) ∧ w' = w := by
  rcases hp with rfl | rfl
  · go_enter Yba.func20, Yba.ntmps20
    go_wp2_with fail
    refine (mul64_small (x - y) 1000 ((x - y) * 1000) (by omega) (by omega) (by omega) (by omega) rfl (by omega) _).mono ?_
    rintro e w1 ⟨rfl, rfl⟩
    go_wp2_with fail
    refine (mul64_small y 15 (y * 15) (by omega) (by omega) (by omega) (by omega) rfl (by omega) _).mono ?_
    rintro e w1 ⟨rfl, rfl⟩
    go_wp2
    go_ret
    exact ⟨rfl, rfl⟩
  · go_enter Yba.func20, Yba.ntmps20
    go_wp2_with fail
    refine (mul64_small (x - y) 1000 ((x - y) * 1000) (by omega) (by omega) (by omega) (by omega) rfl (by omega) _).mono ?_
    rintro e w1 ⟨rfl, rfl⟩
    go_wp2_with fail
    refine (mul64_small y 50 (y * 50) (by omega) (by omega) (by omega) (by omega) rfl (by omega) _).mono ?_
    rintro e w1 ⟨rfl, rfl⟩
    go_wp2
    go_ret
    exact ⟨rfl, rfl⟩

theorem within_ge (x y p : Int) (w : World) (hxy : x < y) (hy' : y ≤ 1000000000000) (hx : 0 ≤ x) (hp : p = 15 ∨ p = 50) :
    Calls Yba.prog 20 #[.int .i64 x, .int .i64 y, .int .i64 p] w fun e w' => e = .returned (.bool (decide ((y - x) * 1000 ≤ x * p))) ∧ w' = w := by
  rcases hp with rfl | rfl
  · go_enter Yba.func20, Yba.ntmps20
    go_wp2_with fail
    refine (mul64_small (y - x) 1000 ((y - x) * 1000) (by omega) (by omega) (by omega) (by omega) rfl (by omega) _).mono ?_
    rintro e w1 ⟨rfl, rfl⟩
    go_wp2_with fail
    refine (mul64_small x 15 (x * 15) (by omega) (by omega) (by omega) (by omega) rfl (by omega) _).mono ?_
    rintro e w1 ⟨rfl, rfl⟩
    go_wp2
    go_ret
    exact ⟨rfl, rfl⟩
  · go_enter Yba.func20, Yba.ntmps20
    go_wp2_with fail
    refine (mul64_small (y - x) 1000 ((y - x) * 1000) (by omega) (by omega) (by omega) (by omega) rfl (by omega) _).mono ?_
    rintro e w1 ⟨rfl, rfl⟩
    go_wp2_with fail
    refine (mul64_small x 50 (x * 50) (by omega) (by omega) (by omega) (by omega) rfl (by omega) _).mono ?_
    rintro e w1 ⟨rfl, rfl⟩
    go_wp2
    go_ret
    exact ⟨rfl, rfl⟩

theorem within_eq (x p : Int) (w : World) (hx' : x ≤ 1000000000000) (hx : 0 ≤ x) (hp : p = 15 ∨ p = 50) :
    Calls Yba.prog 20 #[.int .i64 x, .int .i64 x, .int .i64 p] w fun e w' => e = .returned (.bool (decide ((x - x) * 1000 ≤ x * p))) ∧ w' = w := by
  rcases hp with rfl | rfl
  · have hd : (x - x) * 1000 ≤ x * 15 := by omega
    go_enter Yba.func20, Yba.ntmps20
    go_wp2_with fail
    refine (mul64_small 0 1000 0 (by omega) (by omega) (by omega) (by omega) rfl (by omega) _).mono ?_
    rintro e w1 ⟨rfl, rfl⟩
    go_wp2_with fail
    refine (mul64_small x 15 (x * 15) (by omega) (by omega) (by omega) (by omega) rfl (by omega) _).mono ?_
    rintro e w1 ⟨rfl, rfl⟩
    go_wp2
    go_ret
    exact ⟨retb (by simp), rfl⟩
  · have hd : (x - x) * 1000 ≤ x * 50 := by omega
    go_enter Yba.func20, Yba.ntmps20
    go_wp2_with fail
    refine (mul64_small 0 1000 0 (by omega) (by omega) (by omega) (by omega) rfl (by omega) _).mono ?_
    rintro e w1 ⟨rfl, rfl⟩
    go_wp2_with fail
    refine (mul64_small x 50 (x * 50) (by omega) (by omega) (by omega) (by omega) rfl (by omega) _).mono ?_
    rintro e w1 ⟨rfl, rfl⟩
    go_wp2
    go_ret
    exact ⟨retb (by simp), rfl⟩

theorem within_any (x y p : Int) (w : World) (hx : 0 ≤ x) (hx' : x ≤ 1000000000000) (hy : 0 ≤ y) (hy' : y ≤ 1000000000000) (hp : p = 15 ∨ p = 50) :
    Calls Yba.prog 20 #[.int .i64 x, .int .i64 y, .int .i64 p] w fun e w' => e = .returned (.bool (nearB x y p)) ∧ w' = w := by
  unfold nearB
  by_cases h : y < x
  · rw [show max x y = x by omega, show min x y = y by omega]
    exact within_lt x y p w h hx' hy hp
  · by_cases h' : x < y
    · rw [show max x y = y by omega, show min x y = x by omega]
      exact within_ge x y p w h' hy' hx hp
    · obtain rfl : x = y := by omega
      rw [show max x x = x by omega, show min x x = x by omega]
      exact within_eq x p w hx' hx hp

/-- The storage that is known. -/
def kst (k : Bool) (d : Int) : Int := if k then d else 0
/-- plan.knownStorage (21). -/
theorem known_any (a b c d : Int) (k : Bool) (e f : Int) (w : World) :
    Calls Yba.prog 21 #[.agg #[.int .i64 a, .int .i64 b, .int .i64 c, .int .i64 d, .bool k, .int .i64 e, .int .i64 f]] w fun en w' =>
      en = .returned (.int .i64 (kst k d)) ∧ w' = w.alloc (.cells #[.int .i64 a, .int .i64 b, .int .i64 c, .int .i64 d, .bool k, .int .i64 e, .int .i64 f] 125) := by
  cases k
  all_goals
    go_enter Yba.func21, Yba.ntmps21
    go_wp2
    go_ret
    exact ⟨rfl, rfl⟩
end Go.Proofs.Ybulkwjm

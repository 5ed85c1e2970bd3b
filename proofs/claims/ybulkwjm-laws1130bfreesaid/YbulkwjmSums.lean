/- Plain sums that wrap at 64 bits. Nothing of the program. -/
import Derived.WalkKit
namespace Go.Proofs.Ybulkwjm
open Go.RowKit
def psum (f : Nat → Int) : Nat → Int
  | 0 => 0
  | k + 1 => psum f k + f k
theorem wrap_zero : wrap64 0 = 0 := by unfold wrap64; omega
theorem psum_succ (f : Nat → Int) (k : Nat) : wrap64 (wrap64 (psum f k) + f k) = wrap64 (psum f (k + 1)) := by
  show _ = wrap64 (psum f k + f k)
  unfold wrap64; omega
theorem psum_back (f : Nat → Int) (n k : Nat) : wrap64 (wrap64 (psum f n - psum f (k + 1)) + f k) = wrap64 (psum f n - psum f k) := by
  have : psum f (k + 1) = psum f k + f k := rfl
  unfold wrap64; omega
theorem psum_free (f g : Nat → Int) (k : Nat) : wrap64 (wrap64 (psum (fun i => f i - g i) k) + wrap64 (f k - g k)) = wrap64 (psum (fun i => f i - g i) (k + 1)) := by
  show _ = wrap64 (psum (fun i => f i - g i) k + (f k - g k))
  unfold wrap64; omega
theorem psum_sub (f g : Nat → Int) : ∀ k, psum (fun i => f i - g i) k = psum f k - psum g k
  | 0 => by simp [psum]
  | k + 1 => by simp only [psum]; rw [psum_sub f g k]; omega
theorem psum_end (f g : Nat → Int) (n : Nat) : wrap64 (psum (fun i => f i - g i) n) = wrap64 (wrap64 (psum f n) - wrap64 (psum g n)) := by
  rw [psum_sub]; unfold wrap64; omega
theorem ret_int {k : IntKind} {a b : Int} (h : a = b) : Ending.returned (.int k a) = .returned (.int k b) := by rw [h]
theorem ret_bool {a b : Bool} (h : a = b) : Ending.returned (.bool a) = .returned (.bool b) := by rw [h]
theorem int_eq {k : IntKind} {a b : Int} (h : a = b) : Value.int k a = .int k b := by rw [h]
end Go.Proofs.Ybulkwjm

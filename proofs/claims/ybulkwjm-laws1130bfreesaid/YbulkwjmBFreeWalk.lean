/- The walk of plan.LawS1130BFree (function 6) out of its callees' contracts. -/
import Derived.Test.YbulkwjmSub
import Derived.Test.YbulkwjmFree
namespace Go.Proofs.Ybulkwjm
open Go.RowKit

theorem SubEnd.drewN {N n : Nat} {w : World} {ips aft : Nat → Int} {w' : World} (S : SubEnd N n w ips aft w') (nq : Nat) : SubEnd N n w ips aft (w'.drewN nq) :=
  ⟨⟨S.bel.os, S.bel.tape, S.bel.output, S.bel.size, S.bel.block⟩, S.size, S.f2, S.f6, S.pool, S.use, S.eni, S.took⟩

theorem bfree_out (a0 a1 : Option Addr) (n cap0 n1 cap1 : Nat) (w : World) (hn : 4096 < n) (_hm : n ≤ 9223372036854775807) :
    Calls Yba.prog 6 #[.slice a0 n cap0, .slice a1 n1 cap1] w fun e w' => e = .returned (.bool true) ∧ Below w.heap.size w w' := by
  go_enter Yba.func6, Yba.ntmps6
  go_wp2
  go_ret
  exact ⟨rfl, Below.refl _ _⟩

set_option maxHeartbeats 800000 in
theorem bfree_in (a0 a1 : Option Addr) (n cap0 n1 cap1 : Nat) (f g : Nat → Int) (w : World) (hn : n ≤ 4096) (hn1 : n1 ≤ 9223372036854775807)
    (hci : ∀ i, i < n → ∃ b o, a0 = some ⟨b, o, none⟩ ∧ b < w.heap.size ∧ w.cell? ⟨b, o + i, none⟩ = some (.int .i64 (f i)))
    (hca : ∀ i, i < n1 → ∃ b o, a1 = some ⟨b, o, none⟩ ∧ b < w.heap.size ∧ w.cell? ⟨b, o + i, none⟩ = some (.int .i64 (g i)))
    (h0 : ∀ i, n1 ≤ i → g i = 0) :
    Calls Yba.prog 6 #[.slice a0 n cap0, .slice a1 n1 cap1] w fun e w' => e = .returned (.bool true) ∧ Below w.heap.size w w' := by
  go_enter Yba.func6, Yba.ntmps6
  go_wp2_with fail
  refine (sub_any a0 a1 n cap0 n1 cap1 f g w hn hn1 hci hca h0).mono ?_
  rintro e w1 ⟨rfl, S⟩
  have hS : Hid (SubEnd w.heap.size n w f g w1) := S
  clear S hci hca h0
  go_wp2_with fail
  go_loopw [6, 7, 8] (fun s t i wr => ∃ k : Nat, k ≤ n ∧ i = .int .i64 k ∧ s = .int .i64 (wrap64 (psum (fun i => g i - f i) k)) ∧ t = .int .i64 (wrap64 (psum g k)) ∧ SubEnd w.heap.size n w f g wr) (fun _ _ i _ => n - (intOf i).toNat)
  case atStart => exact ⟨0, Nat.zero_le _, rfl, int_eq wrap_zero.symm, int_eq wrap_zero.symm, hS.out⟩
  case round =>
    clear hS w1
    obtain ⟨k, hk, rfl, rfl, rfl, S⟩ := hrel
    have hS : Hid (SubEnd w.heap.size n w f g wr) := S
    clear S
    by_cases hlt : k < n
    · have f2 := hS.out.f2
      have hp := hS.out.pool k hlt
      have hu := hS.out.use k hlt
      have he := hS.out.eni k hlt
      go_wp2_with fail
      refine (free_any (w.heap.size + 3 + n) w.heap.size n k (g k) (f k) wr hn hlt hS.out.f2 hS.out.f6 (hS.out.pool k hlt) (hS.out.use k hlt) (hS.out.eni k hlt) (hS.out.took k hlt 0 (by omega))).mono ?_
      rintro e w2 ⟨rfl, nq, rfl⟩
      go_wp2
      go_roundw
      case rel => exact ⟨k + 1, by omega, by go_num, int_eq (psum_free g f k), int_eq (psum_succ g k), hS.out.drewN nq⟩
      case measure => simp [intOf]; omega
    · obtain rfl : k = n := by omega
      go_wp2_with fail
      refine (takes_any _ (w.heap.size + 1 + 1) k f wr hn (by have := hS.out.size; omega) hS.out.f6 hS.out.took).mono ?_
      rintro e w2 ⟨rfl, hb2⟩
      go_wp2
      go_ret
      exact ⟨ret_bool (by rw [psum_end]; simp), hS.out.bel.trans (hb2.mono (by have := hS.out.size; omega))⟩
end Go.Proofs.Ybulkwjm

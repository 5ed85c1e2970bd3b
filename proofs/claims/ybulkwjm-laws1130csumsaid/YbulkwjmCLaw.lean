/- The walk of scaledown.LawS1130CSum (function 8) out of its callees' contracts. -/
import Derived.Test.YbulkwjmCBuild
import Derived.Test.YbulkwjmReq
import Derived.Deep.QuietTactic
import Derived.BigQuiet
namespace Go.Proofs.Ybulkwjm
open Go.RowKit

structure CL (N G : Nat) (w : World) (cv uv : Nat → Int) (wr : World) : Prop where
  bel : Below N w wr
  boxc : ∀ j, j < 10 → wr.cell? ⟨N, j, none⟩ = some (.int .u64 (cv j))
  boxu : ∀ j, j < 10 → wr.cell? ⟨N + 1, j, none⟩ = some (.int .u64 (uv j))
  got : ∀ j, j < 10 → wr.cell? ⟨G, j, none⟩ = some (.int .u64 (res cv uv j))

theorem CL.drewN {N G : Nat} {w : World} {cv uv : Nat → Int} {wr : World} (C : CL N G w cv uv wr) (nq : Nat) : CL N G w cv uv (wr.drewN nq) :=
  ⟨⟨C.bel.os, C.bel.tape, C.bel.output, C.bel.size, C.bel.block⟩, C.boxc, C.boxu, C.got⟩

theorem cl_start (w w1 w2 : World) (n i bc bu : Nat) (cv uv : Nat → Int) (t0 t1 t2 : TypeId) (B : CB (w.heap.size + 1 + 1) n i ((w.alloc (.cells (ten cv) t0)).alloc (.cells (ten uv) t1)) cv uv bc bu (n * 10) w1) (hb : Below w1.heap.size w1 w2) :
    CL w.heap.size w2.heap.size w cv uv (w2.alloc (.cells (ten (res cv uv)) t2)) := by
  have hz := B.size
  have hz2 := hb.size
  have old : ∀ b o, b < w.heap.size + 1 + 1 → (w2.alloc (.cells (ten (res cv uv)) t2)).cell? ⟨b, o, none⟩ = ((w.alloc (.cells (ten cv) t0)).alloc (.cells (ten uv) t1)).cell? ⟨b, o, none⟩ := fun b o h => by
    rw [World.cell?_alloc_past _ _ _ (by omega), hb.cell (p := ⟨b, o, none⟩) (by show b < _; omega), B.bel.cell (p := ⟨b, o, none⟩) h]
  refine ⟨?_, ?_, ?_, ?_⟩
  · have h1 : Below w.heap.size w ((w.alloc (.cells (ten cv) t0)).alloc (.cells (ten uv) t1)) := ((Below.refl _ _).alloc (by omega) _).alloc (by simp) _
    exact ((h1.trans (B.bel.mono (by omega))).trans (hb.mono (by omega))).alloc (by omega) _
  · intro j hj
    rw [old _ _ (by omega), World.cell?_alloc_past _ _ _ (by simp), World.cell?_alloc_at _ _ _ _ rfl]
    exact ten_get cv j hj
  · intro j hj
    rw [old _ _ (by omega), World.cell?_alloc_at _ _ _ _ (by simp)]
    exact ten_get uv j hj
  · intro j hj
    rw [World.cell?_alloc_at _ _ _ _ rfl]
    exact ten_get (res cv uv) j hj

set_option maxRecDepth 100000 in
set_option maxHeartbeats 1600000 in
theorem csum_any (a b : Nat) (cv uv : Nat → Int) (w : World) (ha : a ≤ 255) (hb : b ≤ 255)
    (hcb : ∀ j, j < 10 → 0 ≤ cv j ∧ cv j < 18446744073709551616) (hub : ∀ j, j < 10 → 0 ≤ uv j ∧ uv j < 18446744073709551616) :
    Calls Yba.prog 8 #[.agg (ten cv), .agg (ten uv), .int .u8 (a : Int), .int .u8 (b : Int)] w fun e w' => e = .returned (.bool true) ∧ Below w.heap.size w w' := by
  have ha' : (a : Int) ≤ 255 := by omega
  have hb' : (b : Int) ≤ 255 := by omega
  obtain ⟨n, hn⟩ : ∃ n, n = a % 4 + 1 := ⟨_, rfl⟩
  obtain ⟨i, hi⟩ : ∃ i, i = b % n := ⟨_, rfl⟩
  have hin : i < n := by rw [hi]; exact Nat.mod_lt _ (by omega)
  have hn4 : n ≤ 4 := by omega
  have en : (a : Int) % 4 + 1 = (n : Int) := by omega
  have ei : (b : Int) % (n : Int) = (i : Int) := by rw [hi]; simp
  clear hn hi
  unfold ten
  go_enter Yba.func8, Yba.ntmps8
  go_wp2_with fail
  refine (cbuild_any n i cv uv _ hn4).mono ?_
  rintro e w1 ⟨bc, bu, rfl, B⟩
  have hB : Hid (CB (w.heap.size + 1 + 1) n i ((w.alloc (.cells (ten cv) 70)).alloc (.cells (ten uv) 70)) cv uv bc bu (n * 10) w1) := by simp only [World.size_alloc] at B; exact B
  clear B
  go_wp2_with fail
  clear en ei
  refine (req_any _ bc bu n i cv uv w1 hin hn4 hB.out.fc hB.out.fu (fun j hj => ?_) (fun j hj => ?_) hcb hub).mono ?_
  · have := hB.out.dc (i * 10 + j) (by omega) (by omega)
    rw [show (i * 10 + j) % 10 = j by omega] at this
    exact this
  · have := hB.out.du (i * 10 + j) (by omega) (by omega)
    rw [show (i * 10 + j) % 10 = j by omega] at this
    exact this
  rintro e w2 ⟨rfl, hb2⟩
  have hC : Hid (CL w.heap.size w2.heap.size w cv uv (w2.alloc (.cells (ten (res cv uv)) 76))) := cl_start w w1 w2 n i bc bu cv uv 70 70 76 hB.out hb2
  obtain ⟨G, hG⟩ : ∃ G, G = w2.heap.size := ⟨_, rfl⟩
  have hC' : Hid (CL w.heap.size G w cv uv (w2.alloc (.cells (ten (res cv uv)) 76))) := by rw [hG]; exact hC
  clear hC hB hb2
  go_wp2
  rw [← hG]
  go_loopw [13] (fun q wr => ∃ k : Nat, k ≤ 5 ∧ q = .int .i64 k ∧ CL w.heap.size G w cv uv wr) (fun q _ => 5 - (intOf q).toNat)
  case atStart => exact ⟨0, Nat.zero_le _, rfl, hC'.out⟩
  case round =>
    clear hC' hG
    obtain ⟨k, hk, rfl, C⟩ := hrel
    by_cases hlt : k < 5
    · have x0 := C.boxc (k * 2) (by omega)
      have x1 := C.boxc (k * 2 + 1) (by omega)
      have y0 := C.boxu (k * 2) (by omega)
      have y1 := C.boxu (k * 2 + 1) (by omega)
      have g0 := C.got (k * 2) (by omega)
      have g1 := C.got (k * 2 + 1) (by omega)
      have H : Hid (CL w.heap.size G w cv uv wr) := C
      obtain ⟨b0, b0'⟩ := hcb (k * 2) (by omega)
      obtain ⟨b1, b1'⟩ := hcb (k * 2 + 1) (by omega)
      obtain ⟨d0, d0'⟩ := hub (k * 2) (by omega)
      obtain ⟨d1, d1'⟩ := hub (k * 2 + 1) (by omega)
      rw [res, if_pos (by omega)] at g0
      rw [res, if_neg (by omega)] at g1
      clear C hcb hub
      generalize cv (k * 2) = ch at *
      generalize cv (k * 2 + 1) = cl at *
      generalize uv (k * 2) = uh at *
      generalize uv (k * 2 + 1) = ul at *
      by_cases hcar : cl + ul < 18446744073709551616
      · have e1 : lo128 cl ul = cl + ul := by unfold lo128; omega
        have e0 : hi128 ch cl uh ul = IntKind.u64.wrap (IntKind.u64.wrap (ch + uh)) := by
          unfold hi128; rw [show (cl + ul) / 18446744073709551616 = 0 by omega, Int.add_zero]
        rw [e0] at g0
        rw [e1] at g1
        clear e0 e1
        go_wp2_with fail
        go_quiet (fail)
        go_wp2_with fail
        go_quiet (fail)
        go_wp2
        go_roundw
        case rel => exact ⟨k + 1, by omega, by go_num, H.out.drewN _⟩
        case measure => simp [intOf]; omega
      · have e1 : lo128 cl ul = IntKind.u64.wrap (cl + ul) := by unfold lo128; rw [IntKind.wrap_u64]
        have e0 : hi128 ch cl uh ul = IntKind.u64.wrap (IntKind.u64.wrap (ch + uh) + 1) := by
          unfold hi128; rw [show (cl + ul) / 18446744073709551616 = 1 by omega]
        have hlo : IntKind.u64.wrap (cl + ul) < cl := by rw [IntKind.wrap_u64]; omega
        rw [e0] at g0
        rw [e1] at g1
        clear e0 e1
        go_wp2_with fail
        go_quiet (fail)
        go_wp2_with fail
        go_quiet (fail)
        go_wp2
        go_roundw
        case rel => exact ⟨k + 1, by omega, by go_num, H.out.drewN _⟩
        case measure => simp [intOf]; omega
    · go_wp2
      go_ret
      exact ⟨rfl, C.bel⟩
end Go.Proofs.Ybulkwjm

/- The contract of plan.zzs1130abuild (function 10). -/
import Derived.Test.YbulkwjmRows
import Derived.Test.YbulkwjmAMem
import Derived.Test.YbulkwjmAPlain2
import Derived.RegionTactic
import Derived.BigRegion
import Derived.Deep.RegionWith
import Derived.Deep.DeepCutAuto
namespace Go.Proofs.Ybulkwjm
open Go.RowKit
theorem info131 : (Yba.prog.info? 131).map (fun i => (i.zero, i.size, i.bytes)) = some (some (.agg gz), 42, 432) := by kernel_rfl
theorem amake : ∀ w : World, (Instr.makeSlice 27 (.int .i64 2) (.int .i64 2)).run Yba.prog w = .ok (.slice (some ⟨w.heap.size, 0, none⟩) 2 2) (w.alloc (.cells grp 131)) := by
  intro w
  obtain ⟨i, hi, h0, h1, h2⟩ := info_parts info131
  have hr := run_make (P := Yba.prog) w 27 131 i (.agg gz) Yba.underlying27 hi h0 .i64 .i64 2 2 (by omega) (by omega) (by rw [h2]; omega) (by omega)
  rw [hr, h1]
  rfl

set_option maxRecDepth 100000 in
set_option maxHeartbeats 1600000 in
theorem abuild_any (bs ds : Nat → Int) (sw ka kb : Bool) (ma mb : Nat) (w : World) (hma : ma ≤ 255) (hmb : mb ≤ 255)
    (hbs : ∀ j, j < 5 → 0 ≤ bs j ∧ bs j ≤ 4294967295) (hds : ∀ j, j < 5 → 0 ≤ ds j ∧ ds j ≤ 255) :
    Calls Yba.prog 10 #[.agg (pcells bs ds sw ka kb ma mb)] w fun e w' =>
      e = .returned (.tuple #[.slice (some ⟨w.heap.size + 4, 0, none⟩) 2 2, .agg #[.int .i64 (memOf ma), .int .i64 (memOf mb)], .agg #[.int .i64 (FG bs ds sw ka kb 2 0), .int .i64 (FG bs ds sw ka kb 2 1), .int .i64 (FG bs ds sw ka kb 2 2), .int .i64 (FG bs ds sw ka kb 2 3), .int .i64 (FG bs ds sw ka kb 2 4), .int .i64 (FG bs ds sw ka kb 2 5), .int .i64 (FG bs ds sw ka kb 2 6), .int .i64 (FG bs ds sw ka kb 2 7), .int .i64 (FG bs ds sw ka kb 2 8), .int .i64 (FG bs ds sw ka kb 2 9)]]) ∧ AEnd w.heap.size w bs ds sw ka kb (memOf ma) (memOf mb) w' := by
  have mk := amake
  go_enter Yba.func10, Yba.ntmps10
  go_wp2
  go_loopw [6, 7, 8] (fun i _ _ wr => ∃ k : Nat, k ≤ 5 ∧ i = .int .i64 k ∧ A1 w.heap.size w bs ds sw ka kb ma mb k wr) (fun i _ _ _ => 5 - (intOf i).toNat)
  case atStart => exact ⟨0, Nat.zero_le _, rfl, af_start w _ _ _ _ _ _ _ _ rfl rfl rfl, by simp, fun j hj => by omega⟩
  case round =>
    obtain ⟨k, hk, rfl, A⟩ := hrel
    have hA : Hid (A1 w.heap.size w bs ds sw ka kb ma mb k wr) := A
    by_cases hlt : k < 5
    · have x0 := (A.af.box k).trans (pcells_b bs ds sw ka kb ma mb k hlt)
      have x1 := (A.af.box (5 + k)).trans (pcells_d bs ds sw ka kb ma mb k hlt)
      have x2 : wr.cell? ⟨w.heap.size, 10, none⟩ = some (.bool sw) := A.af.box 10
      obtain ⟨_, y0, f0⟩ := A.af.figs (k * 2) (by omega)
      obtain ⟨_, y1, f1⟩ := A.af.figs (k * 2 + 1) (by omega)
      obtain ⟨b0, b1⟩ := hbs k hlt
      obtain ⟨d0, d1⟩ := hds k hlt
      have e0 : Hid (FA bs ds sw (k * 2) = if sw then bs k * 100 + ds k else bs k * 100) := fa_even bs ds sw k
      have e1 : Hid (FA bs ds sw (k * 2 + 1) = if sw then bs k * 100 else bs k * 100 + ds k) := fa_odd bs ds sw k
      clear A hbs hds mk
      cases sw
      all_goals
        go_wp2
        go_roundw
        case rel =>
          have S := hA.out.step hlt
          rw [e0.out, e1.out] at S
          exact ⟨k + 1, by omega, by go_num, S⟩
        case measure => simp [intOf]; omega
    · obtain rfl : k = 5 := by omega
      have hz := A.size
      have x3 : wr.cell? ⟨w.heap.size, 13, none⟩ = some (.int .u8 ma) := A.af.box 13
      have x4 : wr.cell? ⟨w.heap.size, 14, none⟩ = some (.int .u8 mb) := A.af.box 14
      have x5 : wr.cell? ⟨w.heap.size, 11, none⟩ = some (.bool ka) := A.af.box 11
      have x6 : wr.cell? ⟨w.heap.size, 12, none⟩ = some (.bool kb) := A.af.box 12
      have g8 := grp_8
      have g50 := grp_50
      have gs := grp_size
      clear A hbs hds
      go_wp2
      have c8 : ((wr.alloc (.cells grp 131)).alloc (.cells #[.int .i64 0, .int .i64 0] 28)).drew.cell? ⟨w.heap.size + 4, 0 + 1 + 7, none⟩ = some (.int .i64 0) := by simp [go_sem, hz, grp_8]
      have f8 : ((wr.alloc (.cells grp 131)).alloc (.cells #[.int .i64 0, .int .i64 0] 28)).drew.frozen? ⟨w.heap.size + 4, 0 + 1 + 7, none⟩ = false := by simp [go_sem, hz]
      go_region_with (go_at_call 19; refine (amem_any (w.heap.size + 4) 0 ma _ hma _ c8 f8).mono ?_; rintro e w' ⟨rfl, rfl⟩)
      clear c8 f8
      go_wp2
      have c50 : ((wr.alloc (.cells (grp.setIfInBounds 8 (.int .i64 (memOf ma))) 131)).alloc (.cells #[.int .i64 (memOf ma), .int .i64 0] 28)).drew.drew.cell? ⟨w.heap.size + 4, 42 + 1 + 7, none⟩ = some (.int .i64 0) := by simp [go_sem, hz, grp_50]
      have f50 : ((wr.alloc (.cells (grp.setIfInBounds 8 (.int .i64 (memOf ma))) 131)).alloc (.cells #[.int .i64 (memOf ma), .int .i64 0] 28)).drew.drew.frozen? ⟨w.heap.size + 4, 42 + 1 + 7, none⟩ = false := by simp [go_sem, hz]
      go_region_with (go_at_call 19; refine (amem_any (w.heap.size + 4) 42 mb _ hmb _ c50 f50).mono ?_; rintro e w' ⟨rfl, rfl⟩)
      clear c50 f50
      go_wp2
      go_loopw [12] (fun i wr => ∃ s : Nat, s ≤ 2 ∧ i = .int .i64 s ∧ A2 w.heap.size w bs ds sw ka kb ma mb (memOf ma) (memOf mb) s wr) (fun i _ => 2 - (intOf i).toNat)
      case atStart => exact ⟨0, Nat.zero_le _, rfl, (a2_start hA.out (memOf ma) (memOf mb) 131 28 132).drew.drew⟩
      case round =>
        clear x3 x4 x5 x6 g8 g50 gs hA hz
        obtain ⟨s, hs, rfl, A⟩ := hrel
        have hA : Hid (A2 w.heap.size w bs ds sw ka kb ma mb (memOf ma) (memOf mb) s wr) := A
        by_cases hlt : s < 2
        · obtain ⟨k, hk⟩ : ∃ k, k = if s = 0 then ka else kb := ⟨_, rfl⟩
          have kk : wr.cell? ⟨w.heap.size + 4 + 1 + 1, s, none⟩ = some (.bool k) := by
            obtain rfl | rfl : s = 0 ∨ s = 1 := by omega
            · rw [hk]; exact A.kn0
            · rw [hk]; exact A.kn1
          have fgf : ∀ i, i < 5 → FG bs ds sw ka kb s (i * 2 + s) = FA bs ds sw (i * 2 + s) := fun i hi => by unfold FG; rw [if_neg (by omega), if_neg (by omega)]
          have q0 : wr.cell? ⟨w.heap.size + 1 + 1 + 1, s, none⟩ = some (.int .i64 (FA bs ds sw s)) := by have := A.fig (0 * 2 + s) (by omega); rw [fgf 0 (by omega), show 0 * 2 + s = s by omega] at this; exact this
          have q1 : wr.cell? ⟨w.heap.size + 1 + 1 + 1, 2 + s, none⟩ = some (.int .i64 (FA bs ds sw (2 + s))) := by have := A.fig (1 * 2 + s) (by omega); rw [fgf 1 (by omega), show 1 * 2 + s = 2 + s by omega] at this; exact this
          have q2 : wr.cell? ⟨w.heap.size + 1 + 1 + 1, 4 + s, none⟩ = some (.int .i64 (FA bs ds sw (4 + s))) := by have := A.fig (2 * 2 + s) (by omega); rw [fgf 2 (by omega), show 2 * 2 + s = 4 + s by omega] at this; exact this
          have q3 : wr.cell? ⟨w.heap.size + 1 + 1 + 1, 6 + s, none⟩ = some (.int .i64 (FA bs ds sw (6 + s))) := by have := A.fig (3 * 2 + s) (by omega); rw [fgf 3 (by omega), show 3 * 2 + s = 6 + s by omega] at this; exact this
          have q4 : wr.cell? ⟨w.heap.size + 1 + 1 + 1, 8 + s, none⟩ = some (.int .i64 (FA bs ds sw (8 + s))) := by have := A.fig (4 * 2 + s) (by omega); rw [fgf 4 (by omega), show 4 * 2 + s = 8 + s by omega] at this; exact this
          obtain ⟨_, fq⟩ := A.af.figs (4 + s) (by omega)
          have fq' := fq.2
          obtain ⟨_, g0, f0⟩ := A.grp (s * 42 + 27) (by omega)
          obtain ⟨_, g1, f1⟩ := A.grp (s * 42 + 27 + 1) (by omega)
          obtain ⟨_, g2, f2⟩ := A.grp (s * 42 + 27 + 2) (by omega)
          obtain ⟨_, g3, f3⟩ := A.grp (s * 42 + 27 + 3) (by omega)
          obtain ⟨_, g4, f4⟩ := A.grp (s * 42 + 27 + 4) (by omega)
          obtain ⟨_, g5, f5⟩ := A.grp (s * 42 + 27 + 5) (by omega)
          obtain ⟨_, g6, f6⟩ := A.grp (s * 42 + 27 + 6) (by omega)
          have HK : Hid (k = if s = 0 then ka else kb) := hk
          clear fq fgf A hk
          generalize hF : FA bs ds sw = F at *
          have HF : Hid (FA bs ds sw = F) := hF
          clear hF
          go_wp2
          go_region
          cases k
          · go_wp2
            go_roundw
            case rel =>
              have := HF.out
              subst this
              exact ⟨s + 1, by omega, by go_num, (hA.out.step_unknown hlt HK.out.symm _ rfl).drew⟩
            case measure => simp [intOf]; omega
          · go_wp2
            go_roundw
            case rel =>
              have := HF.out
              subst this
              exact ⟨s + 1, by omega, by go_num, (hA.out.step_known hlt HK.out.symm _ rfl).drew⟩
            case measure => simp [intOf]; omega
        · obtain rfl : s = 2 := by omega
          have y0 := A.mem0
          have y1 := A.mem1
          have z0 := A.fig 0 (by omega)
          have z1 := A.fig 1 (by omega)
          have z2 := A.fig 2 (by omega)
          have z3 := A.fig 3 (by omega)
          have z4 := A.fig 4 (by omega)
          have z5 := A.fig 5 (by omega)
          have z6 := A.fig 6 (by omega)
          have z7 := A.fig 7 (by omega)
          have z8 := A.fig 8 (by omega)
          have z9 := A.fig 9 (by omega)
          obtain ⟨_, r0, e0⟩ := A.af.r1 0 (by omega)
          obtain ⟨_, r1, e1⟩ := A.af.r1 1 (by omega)
          obtain ⟨_, t0, d0⟩ := A.af.r2 0 (by omega)
          obtain ⟨_, t1, d1⟩ := A.af.r2 1 (by omega)
          obtain ⟨_, t2, d2⟩ := A.af.r2 2 (by omega)
          obtain ⟨_, t3, d3⟩ := A.af.r2 3 (by omega)
          obtain ⟨_, t4, d4⟩ := A.af.r2 4 (by omega)
          obtain ⟨_, t5, d5⟩ := A.af.r2 5 (by omega)
          obtain ⟨_, t6, d6⟩ := A.af.r2 6 (by omega)
          obtain ⟨_, t7, d7⟩ := A.af.r2 7 (by omega)
          obtain ⟨_, t8, d8⟩ := A.af.r2 8 (by omega)
          obtain ⟨_, t9, d9⟩ := A.af.r2 9 (by omega)
          have hE : Hid (AEnd w.heap.size w bs ds sw ka kb (memOf ma) (memOf mb) wr) := A.toEnd
          clear A hA hlt hs
          go_wp2
          go_region
          go_wp2
          refine bodyPost_ret (v := .tuple #[.slice (some ⟨w.heap.size + 4, 0, none⟩) 2 2, .agg #[.int .i64 (memOf ma), .int .i64 (memOf mb)], .agg #[.int .i64 (FG bs ds sw ka kb 2 0), .int .i64 (FG bs ds sw ka kb 2 1), .int .i64 (FG bs ds sw ka kb 2 2), .int .i64 (FG bs ds sw ka kb 2 3), .int .i64 (FG bs ds sw ka kb 2 4), .int .i64 (FG bs ds sw ka kb 2 5), .int .i64 (FG bs ds sw ka kb 2 6), .int .i64 (FG bs ds sw ka kb 2 7), .int .i64 (FG bs ds sw ka kb 2 8), .int .i64 (FG bs ds sw ka kb 2 9)]]) (by simp [results, Yba.results10, go_sem, r0, r1, t0, t1, t2, t3, t4, t5, t6, t7, t8, t9]) rfl ⟨rfl, ?_⟩
          exact ((hE.out.set (w.heap.size + 1) 0 [.int .i64 (memOf ma), .int .i64 (memOf mb)] (by omega) (by omega)).set (w.heap.size + 1 + 1) 0 [.int .i64 (FG bs ds sw ka kb 2 0), .int .i64 (FG bs ds sw ka kb 2 1), .int .i64 (FG bs ds sw ka kb 2 2), .int .i64 (FG bs ds sw ka kb 2 3), .int .i64 (FG bs ds sw ka kb 2 4), .int .i64 (FG bs ds sw ka kb 2 5), .int .i64 (FG bs ds sw ka kb 2 6), .int .i64 (FG bs ds sw ka kb 2 7), .int .i64 (FG bs ds sw ka kb 2 8), .int .i64 (FG bs ds sw ka kb 2 9)] (by omega) (by omega)).drew
end Go.Proofs.Ybulkwjm

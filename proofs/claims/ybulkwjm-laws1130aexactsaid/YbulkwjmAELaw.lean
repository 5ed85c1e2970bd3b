/- The walk of plan.LawS1130AExact (function 3) out of its callees' contracts. -/
import Derived.Test.YbulkwjmABuild
import Derived.Test.YbulkwjmSim
import Derived.Test.YbulkwjmAEPlain
import Derived.Deep.QuietTactic
import Derived.BigQuiet
namespace Go.Proofs.Ybulkwjm
open Go.RowKit

theorem hid {p : Prop} (h : p) : Hid p := h
theorem near_symm (x y p : Int) : nearB x y p = nearB y x p := by
  unfold nearB
  rw [show max x y = max y x by omega, show min x y = min y x by omega]
theorem near_self (x p : Int) (hx : 0 ≤ x) (hp : 0 ≤ p) : nearB x x p = true := by
  unfold nearB
  have h := Int.mul_nonneg hx hp
  rw [show max x x = x by omega, show min x x = x by omega]
  simp
  omega
theorem sim_symm (m m' : Int) (X Y : Nat → Int) : simB m m' X Y = simB m' m Y X := by
  unfold simB
  rw [near_symm m m', near_symm (X 0), near_symm (X 1), near_symm (X 2), near_symm (X 3), near_symm (X 4)]
theorem sim_self (m : Int) (X : Nat → Int) (hm : 0 ≤ m) (hX : ∀ j, j < 5 → 0 ≤ X j) : simB m m X X = true := by
  unfold simB
  rw [near_self m 15 hm (by omega), near_self _ 50 (hX 0 (by omega)) (by omega), near_self _ 50 (hX 1 (by omega)) (by omega), near_self _ 50 (hX 2 (by omega)) (by omega), near_self _ 50 (hX 3 (by omega)) (by omega), near_self _ 50 (hX 4 (by omega)) (by omega)]
  rfl

/-- What the law expects at the head of round k. -/
def wantB (m m' : Int) (F : Nat → Int) : Nat → Bool
  | 0 => nearB m m' 15
  | k + 1 => if nearB (F (k * 2)) (F (k * 2 + 1)) 50 then wantB m m' F k else false
theorem want_sim (m m' : Int) (F X Y : Nat → Int) (hX : ∀ j, j < 5 → X j = F (j * 2)) (hY : ∀ j, j < 5 → Y j = F (j * 2 + 1)) : simB m m' X Y = wantB m m' F 5 := by
  unfold simB
  rw [hX 0 (by omega), hX 1 (by omega), hX 2 (by omega), hX 3 (by omega), hX 4 (by omega), hY 0 (by omega), hY 1 (by omega), hY 2 (by omega), hY 3 (by omega), hY 4 (by omega)]
  simp only [wantB]
  cases nearB m m' 15 <;> cases nearB (F (0 * 2)) (F (0 * 2 + 1)) 50 <;> cases nearB (F (1 * 2)) (F (1 * 2 + 1)) 50 <;> cases nearB (F (2 * 2)) (F (2 * 2 + 1)) 50 <;> cases nearB (F (3 * 2)) (F (3 * 2 + 1)) 50 <;> cases nearB (F (4 * 2)) (F (4 * 2 + 1)) 50 <;> rfl

theorem fig_fg0 (bs ds : Nat → Int) (sw ka kb : Bool) (j : Nat) (hj : j < 5) : fig5 (AQ bs ds sw 0) ka j = FG bs ds sw ka kb 2 (j * 2) := by
  match j, hj with
  | 0, _ | 1, _ | 3, _ | 4, _ => simp [fig5, AQ, FG]
  | 2, _ => cases ka <;> simp [fig5, kst, AQ, FG]
theorem fig_fg1 (bs ds : Nat → Int) (sw ka kb : Bool) (j : Nat) (hj : j < 5) : fig5 (AQ bs ds sw 1) kb j = FG bs ds sw ka kb 2 (j * 2 + 1) := by
  match j, hj with
  | 0, _ | 1, _ | 3, _ | 4, _ => simp [fig5, AQ, FG]
  | 2, _ => cases kb <;> simp [fig5, kst, AQ, FG]
theorem tval_eq (m : Int) (c : Nat) (hc : c < 13) : tcell m c = tval m c := by
  match c, hc with
  | 0, _ | 1, _ | 2, _ | 3, _ | 4, _ | 5, _ | 6, _ | 7, _ | 8, _ | 9, _ | 10, _ | 11, _ | 12, _ => rfl
theorem oval_eq (bs ds : Nat → Int) (sw k : Bool) (q c : Nat) (hc : c < 7) : ocell bs ds sw k q c = oval (AQ bs ds sw q) k c := by
  match c, hc with
  | 0, _ | 1, _ | 2, _ | 3, _ | 4, _ | 5, _ | 6, _ => rfl
theorem mem_bd (m : Nat) : 0 ≤ memOf m ∧ memOf m ≤ 1000000000000 := by
  unfold memOf
  repeat (first | omega | split)

/-- What the law reads in memory behind its own stores: the similarity in block B + 3, the figures in block B + 1. -/
structure AL (B G : Nat) (w : World) (M : Nat → Int) (A : Nat → Nat → Int) (K : Nat → Bool) (F : Nat → Int) (wr : World) : Prop where
  bel : Below w.heap.size w wr
  s0 : wr.cell? ⟨B + 1 + 1 + 1, 0, none⟩ = some (.pointer (some ⟨B + 1 + 1, 0, none⟩))
  s1 : wr.cell? ⟨B + 1 + 1 + 1, 1, none⟩ = some (.slice (some ⟨G, 0, none⟩) 2 2)
  l1 : wr.cell? ⟨B + 1 + 1, 1, none⟩ = some (.slice none 0 0)
  grp : ∀ q, q < 2 → (∀ c, c < 13 → wr.cell? ⟨G, q * 42 + 1 + c, none⟩ = some (tval (M q) c)) ∧ (∀ c, c < 7 → wr.cell? ⟨G, q * 42 + 27 + c, none⟩ = some (oval (A q) (K q) c))
  fig : ∀ j, j < 10 → wr.cell? ⟨B + 1, j, none⟩ = some (.int .i64 (F j))
theorem AL.drewN {B G : Nat} {w : World} {M : Nat → Int} {A : Nat → Nat → Int} {K : Nat → Bool} {F : Nat → Int} {wr : World} (L : AL B G w M A K F wr) (nq : Nat) : AL B G w M A K F (wr.drewN nq) :=
  ⟨⟨L.bel.os, L.bel.tape, L.bel.output, L.bel.size, L.bel.block⟩, L.s0, L.s1, L.l1, L.grp, L.fig⟩
theorem AL.later {B G : Nat} {w : World} {M : Nat → Int} {A : Nat → Nat → Int} {K : Nat → Bool} {F : Nat → Int} {wr wx : World} (L : AL B G w M A K F wr) (h : Below wr.heap.size wr wx) : AL B G w M A K F wx :=
  have c : ∀ {p v}, wr.cell? p = some v → wx.cell? p = some v := fun {p _} hp => (h.cell (World.block_lt_of_cell? wr p hp)).trans hp
  ⟨L.bel.trans (h.mono L.bel.size), c L.s0, c L.s1, c L.l1, fun q hq => ⟨fun i hi => c ((L.grp q hq).1 i hi), fun i hi => c ((L.grp q hq).2 i hi)⟩, fun j hj => c (L.fig j hj)⟩

theorem awithin_is (b : Bool) (x y p : Int) (w : World) (hx : 0 ≤ x) (hx' : x ≤ 1000000000000) (hy : 0 ≤ y) (hy' : y ≤ 1000000000000) (hp : p = 15 ∨ p = 50) (h : nearB x y p = b) :
    Calls Yba.prog 11 #[.int .i64 x, .int .i64 y, .int .i64 p] w fun e w' => e = .returned (.bool b) ∧ w' = w :=
  (awithin_any x y p w hx hx' hy hy' hp).mono fun e w' ⟨h1, h2⟩ => ⟨by rw [h1, h], h2⟩

def figs10 (F : Nat → Int) : Array Value := #[.int .i64 (F 0), .int .i64 (F 1), .int .i64 (F 2), .int .i64 (F 3), .int .i64 (F 4), .int .i64 (F 5), .int .i64 (F 6), .int .i64 (F 7), .int .i64 (F 8), .int .i64 (F 9)]
theorem figs10_get (F : Nat → Int) (j : Nat) (hj : j < 10) : (figs10 F)[j]? = some (.int .i64 (F j)) := by
  match j, hj with
  | 0, _ | 1, _ | 2, _ | 3, _ | 4, _ | 5, _ | 6, _ | 7, _ | 8, _ | 9, _ => rfl

theorem al_start (w w1 : World) (P c0 bal sim : Array Value) (t t0 t1 t2 t3 : TypeId) (bs ds : Nat → Int) (sw ka kb : Bool) (m0 m1 : Int)
    (E : AEnd (w.heap.size + 1) (w.alloc (.cells P t)) bs ds sw ka kb m0 m1 w1)
    (hb : bal[1]? = some (.slice none 0 0)) (hs0 : sim[0]? = some (.pointer (some ⟨w1.heap.size + 1 + 1, 0, none⟩))) (hs1 : sim[1]? = some (.slice (some ⟨w.heap.size + 1 + 4, 0, none⟩) 2 2)) :
    AL w1.heap.size (w.heap.size + 1 + 4) w (fun q => if q = 0 then m0 else m1) (AQ bs ds sw) (fun q => if q = 0 then ka else kb) (FG bs ds sw ka kb 2)
      ((((w1.alloc (.cells c0 t0)).alloc (.cells (figs10 (FG bs ds sw ka kb 2)) t1)).alloc (.cells bal t2)).alloc (.cells sim t3)) := by
  have hz := E.size
  have hbel : Below w.heap.size w w1 := (Below.alloc (Below.refl _ _) (Nat.le_refl _) _).trans (E.bel.mono (by omega))
  refine ⟨(((hbel.alloc hbel.size _).alloc (by simp; omega) _).alloc (by simp; omega) _).alloc (by simp; omega) _, ?_, ?_, ?_, ?_, ?_⟩
  · rw [World.cell?_alloc_at _ _ _ _ (by simp)]; exact hs0
  · rw [World.cell?_alloc_at _ _ _ _ (by simp)]; exact hs1
  · rw [World.cell?_alloc_past _ _ _ (by simp), World.cell?_alloc_at _ _ _ _ (by simp)]; exact hb
  · intro q hq
    refine ⟨fun c hc => ?_, fun c hc => ?_⟩
    · rw [World.cell?_alloc_past _ _ _ (by simp; omega), World.cell?_alloc_past _ _ _ (by simp; omega), World.cell?_alloc_past _ _ _ (by simp; omega), World.cell?_alloc_past _ _ _ (by omega), E.typ q hq c hc, tval_eq _ c hc]
    · rw [World.cell?_alloc_past _ _ _ (by simp; omega), World.cell?_alloc_past _ _ _ (by simp; omega), World.cell?_alloc_past _ _ _ (by simp; omega), World.cell?_alloc_past _ _ _ (by omega), E.off q hq c hc, oval_eq _ _ _ _ _ c hc]
  · intro j hj
    rw [World.cell?_alloc_past _ _ _ (by simp), World.cell?_alloc_past _ _ _ (by simp), World.cell?_alloc_at _ _ _ _ (by simp)]
    exact figs10_get _ j hj

/-- similar, out of what the law has laid. -/
theorem sim_is {B G : Nat} {w : World} {M : Nat → Int} {A : Nat → Nat → Int} {K : Nat → Bool} {F : Nat → Int} {wr : World} (L : AL B G w M A K F wr) (g o : Nat) (b : Bool) (hg : g < 2) (ho : o < 2)
    (hM : ∀ q, q < 2 → 0 ≤ M q ∧ M q ≤ 1000000000000) (hA : ∀ q, q < 2 → ∀ j, j < 5 → 0 ≤ A q j ∧ A q j ≤ 1000000000000)
    (h : simB (M g) (M o) (fig5 (A g) (K g)) (fig5 (A o) (K o)) = b) :
    Calls Yba.prog 12 #[.pointer (some ⟨B + 1 + 1 + 1, 0, none⟩), .int .i64 (g : Int), .int .i64 (o : Int)] wr fun e w' => e = .returned (.bool b) ∧ AL B G w M A K F w' :=
  (similar_nil _ _ G g o M A K wr hg ho L.s0 L.s1 L.l1 L.grp hM hA).mono fun e w' ⟨h1, h2⟩ => ⟨by rw [h1, h], L.later h2⟩

set_option maxRecDepth 100000 in
set_option maxHeartbeats 1600000 in
theorem aexact_any (bs ds : Nat → Int) (sw ka kb : Bool) (ma mb : Nat) (w : World) (hma : ma ≤ 255) (hmb : mb ≤ 255)
    (hbs : ∀ j, j < 5 → 0 ≤ bs j ∧ bs j ≤ 4294967295) (hds : ∀ j, j < 5 → 0 ≤ ds j ∧ ds j ≤ 255) :
    Calls Yba.prog 3 #[.agg (pcells bs ds sw ka kb ma mb)] w fun e w' => e = .returned (.bool true) ∧ Below w.heap.size w w' := by
  have hM : ∀ q, q < 2 → 0 ≤ (fun q => if q = 0 then memOf ma else memOf mb) q ∧ (fun q => if q = 0 then memOf ma else memOf mb) q ≤ 1000000000000 := fun q _ => by dsimp only; split <;> exact mem_bd _
  have hAQ := aq_bd bs ds sw hbs hds
  have hFG := fg_bd bs ds sw ka kb hbs hds
  have e01 : simB (memOf ma) (memOf mb) (fig5 (AQ bs ds sw 0) ka) (fig5 (AQ bs ds sw 1) kb) = wantB (memOf ma) (memOf mb) (FG bs ds sw ka kb 2) 5 := want_sim _ _ _ _ _ (fig_fg0 bs ds sw ka kb) (fig_fg1 bs ds sw ka kb)
  have e10 : simB (memOf mb) (memOf ma) (fig5 (AQ bs ds sw 1) kb) (fig5 (AQ bs ds sw 0) ka) = wantB (memOf ma) (memOf mb) (FG bs ds sw ka kb 2) 5 := (sim_symm _ _ _ _).trans e01
  have e00 : simB (memOf ma) (memOf ma) (fig5 (AQ bs ds sw 0) ka) (fig5 (AQ bs ds sw 0) ka) = true := sim_self _ _ (mem_bd ma).1 (fun j hj => (fig5_bd (hAQ 0 (by omega)) j hj).1)
  have e11 : simB (memOf mb) (memOf mb) (fig5 (AQ bs ds sw 1) kb) (fig5 (AQ bs ds sw 1) kb) = true := sim_self _ _ (mem_bd mb).1 (fun j hj => (fig5_bd (hAQ 1 (by omega)) j hj).1)
  have E01 := hid e01
  have E10 := hid e10
  have E00 := hid e00
  have E11 := hid e11
  have HM := hid hM
  have HAQ := hid hAQ
  have HFG := hid hFG
  clear e01 e10 e00 e11 hM hAQ hFG
  unfold pcells
  go_enter Yba.func3, Yba.ntmps3
  go_wp2_with fail
  refine (abuild_any bs ds sw ka kb ma mb _ hma hmb hbs hds).mono ?_
  rintro e w1 ⟨rfl, E⟩
  simp only [World.size_alloc] at E
  have HE := hid E
  clear E hbs hds
  go_wp2_with fail
  refine (awithin_any _ _ _ _ (mem_bd ma).1 (mem_bd ma).2 (mem_bd mb).1 (mem_bd mb).2 (Or.inl rfl)).mono ?_
  rintro e w2 ⟨rfl, hw2⟩
  have L0 : AL w1.heap.size (w.heap.size + 1 + 4) w (fun q => if q = 0 then memOf ma else memOf mb) (AQ bs ds sw) (fun q => if q = 0 then ka else kb) (FG bs ds sw ka kb 2) w2 := by
    rw [hw2]
    exact al_start w w1 _ _ _ _ _ _ _ _ _ bs ds sw ka kb _ _ HE.out rfl rfl rfl
  have HL := hid L0
  clear L0 hw2 HE
  go_wp2_with fail
  go_loopw [7, 8] (fun v i wr => ∃ k : Nat, k ≤ 5 ∧ i = .int .i64 k ∧ v = .bool (wantB (memOf ma) (memOf mb) (FG bs ds sw ka kb 2) k) ∧ AL w1.heap.size (w.heap.size + 1 + 4) w (fun q => if q = 0 then memOf ma else memOf mb) (AQ bs ds sw) (fun q => if q = 0 then ka else kb) (FG bs ds sw ka kb 2) wr) (fun _ i _ => 5 - (intOf i).toNat)
  case atStart => exact ⟨0, Nat.zero_le _, rfl, rfl, HL.out⟩
  case round =>
    clear HL
    obtain ⟨k, hk, rfl, rfl, L⟩ := hrel
    have HL := hid L
    by_cases hlt : k < 5
    · have f0 := L.fig (k * 2) (by omega)
      have f1 := L.fig (k * 2 + 1) (by omega)
      obtain ⟨b0, b0'⟩ := HFG.out (k * 2) (by omega)
      obtain ⟨b1, b1'⟩ := HFG.out (k * 2 + 1) (by omega)
      have hlt' : (k : Int) < 5 := by omega
      clear L
      by_cases hnk : nearB (FG bs ds sw ka kb 2 (k * 2)) (FG bs ds sw ka kb 2 (k * 2 + 1)) 50 = true
      · have HK := hid hnk
        have HW : Hid (wantB (memOf ma) (memOf mb) (FG bs ds sw ka kb 2) (k + 1) = wantB (memOf ma) (memOf mb) (FG bs ds sw ka kb 2) k) := by show wantB _ _ _ (k + 1) = _; rw [wantB, if_pos hnk]
        clear hnk
        go_wp2_with fail
        go_quiet ((go_at_call 11; exact Calls.quiet_of_same (awithin_is true _ _ _ _ b0 b0' b1 b1' (Or.inr rfl) HK.out)))
        go_wp2
        go_roundw
        case rel => exact ⟨k + 1, by omega, by go_num, by rw [HW.out], HL.out.drewN _⟩
        case measure => simp [intOf]; omega
      · have HK := hid (eq_false_of_ne_true hnk)
        have HW : Hid (wantB (memOf ma) (memOf mb) (FG bs ds sw ka kb 2) (k + 1) = false) := by show wantB _ _ _ (k + 1) = _; rw [wantB, if_neg hnk]
        clear hnk
        go_wp2_with fail
        go_quiet ((go_at_call 11; exact Calls.quiet_of_same (awithin_is false _ _ _ _ b0 b0' b1 b1' (Or.inr rfl) HK.out)))
        go_wp2
        go_roundw
        case rel => exact ⟨k + 1, by omega, by go_num, by rw [HW.out], HL.out.drewN _⟩
        case measure => simp [intOf]; omega
    · obtain rfl : k = 5 := by omega
      clear L
      generalize wantB (memOf ma) (memOf mb) (FG bs ds sw ka kb 2) 5 = W at *
      go_wp2_with fail
      refine (sim_is HL.out 0 1 W (by omega) (by omega) HM.out HAQ.out E01.out).mono ?_
      rintro e w3 ⟨rfl, L3⟩
      have HL3 := hid L3
      clear L3
      go_wp2_with fail
      refine (sim_is HL3.out 1 0 W (by omega) (by omega) HM.out HAQ.out E10.out).mono ?_
      rintro e w4 ⟨rfl, L4⟩
      have HL4 := hid L4
      clear L4
      go_wp2_with fail
      refine (sim_is HL4.out 0 0 true (by omega) (by omega) HM.out HAQ.out E00.out).mono ?_
      rintro e w5 ⟨rfl, L5⟩
      have HL5 := hid L5
      clear L5
      go_wp2_with fail
      refine (sim_is HL5.out 1 1 true (by omega) (by omega) HM.out HAQ.out E11.out).mono ?_
      rintro e w6 ⟨rfl, L6⟩
      have HL6 := hid L6
      clear L6
      go_wp2
      go_ret
      exact ⟨rfl, HL6.out.bel⟩
end Go.Proofs.Ybulkwjm

/- The contract of '(*similarity).similar' (function 12) where the Labels are nil. -/
import Derived.Test.YbulkwjmWithin
import Derived.Test.YbulkwjmMem
import Derived.RegionTactic
import Derived.BigRegion
import Derived.Deep.RegionWith
import Derived.Deep.RegionHeld3
import Derived.Deep.DeepCutAuto
namespace Go.Proofs.Ybulkwjm
open Go.RowKit
def tval (m : Int) : Nat → Value
  | 0 | 9 => .string ⟨#[]⟩
  | 7 => .int .i64 m
  | 8 | 11 => .slice none 0 0
  | 10 | 12 => .bool false
  | _ => .int .i64 0
def oval (A : Nat → Int) (k : Bool) : Nat → Value
  | 0 => .int .i64 (A 0)
  | 1 => .int .i64 (A 1)
  | 3 => .int .i64 (A 2)
  | 4 => .bool k
  | 5 => .int .i64 (A 3)
  | 6 => .int .i64 (A 4)
  | _ => .int .i64 0
/-- The five offered figures that are compared. -/
def fig5 (A : Nat → Int) (k : Bool) (j : Nat) : Int := if j = 2 then kst k (A 2) else A j
def simB (m m' : Int) (X Y : Nat → Int) : Bool :=
  nearB m m' 15 && (nearB (X 0) (Y 0) 50 && (nearB (X 1) (Y 1) 50 && (nearB (X 2) (Y 2) 50 && (nearB (X 3) (Y 3) 50 && nearB (X 4) (Y 4) 50))))
theorem fig5_bd {A : Nat → Int} {k : Bool} (h : ∀ j, j < 5 → 0 ≤ A j ∧ A j ≤ 1000000000000) (j : Nat) (hj : j < 5) : 0 ≤ fig5 A k j ∧ fig5 A k j ≤ 1000000000000 := by
  unfold fig5 kst
  have h2 := h 2 (by omega)
  have h' := h j hj
  split
  · split <;> omega
  · exact h'
theorem simB_true (m m' : Int) (X Y : Nat → Int) (h : nearB m m' 15 = true) (ha : ∀ j, j < 5 → nearB (X j) (Y j) 50 = true) : true = simB m m' X Y := by
  unfold simB
  rw [h, ha 0 (by omega), ha 1 (by omega), ha 2 (by omega), ha 3 (by omega), ha 4 (by omega)]; rfl
theorem simB_false (m m' : Int) (X Y : Nat → Int) (k : Nat) (hk : k < 5) (h : nearB (X k) (Y k) 50 = false) : false = simB m m' X Y := by
  unfold simB
  match k, hk with
  | 0, _ | 1, _ | 2, _ | 3, _ | 4, _ => rw [h]; simp

/-- Two offers lie in blocks b and b'. -/
def O7 (w : World) (b b' : Nat) (A A' : Nat → Int) (k k' : Bool) : Prop :=
  (∀ c, c < 7 → w.cell? ⟨b, c, none⟩ = some (oval A k c)) ∧ (∀ c, c < 7 → w.cell? ⟨b', c, none⟩ = some (oval A' k' c)) ∧ b < w.heap.size ∧ b' < w.heap.size
def o7 (A : Nat → Int) (k : Bool) : Array Value := #[.int .i64 (A 0), .int .i64 (A 1), .int .i64 0, .int .i64 (A 2), .bool k, .int .i64 (A 3), .int .i64 (A 4)]
theorem o7_get (A : Nat → Int) (k : Bool) (c : Nat) (hc : c < 7) : (o7 A k)[c]? = some (oval A k c) := by
  match c, hc with
  | 0, _ | 1, _ | 2, _ | 3, _ | 4, _ | 5, _ | 6, _ => rfl
theorem o7_two (w : World) (t t' : TypeId) (A A' : Nat → Int) (k k' : Bool) : O7 ((w.alloc (.cells (o7 A k) t)).alloc (.cells (o7 A' k') t')) w.heap.size (w.heap.size + 1) A A' k k' := by
  refine ⟨fun c hc => ?_, fun c hc => ?_, by simp; omega, by simp⟩
  · rw [World.cell?_alloc_past _ _ _ (by simp), World.cell?_alloc_at _ _ _ _ rfl]; exact o7_get A k c hc
  · rw [World.cell?_alloc_at _ _ _ _ (by simp)]; exact o7_get A' k' c hc
theorem O7.swap {w : World} {b b' : Nat} {A A' : Nat → Int} {k k' : Bool} (h : O7 w b b' A A' k k') : O7 w b' b A' A k' k := ⟨h.2.1, h.1, h.2.2.2, h.2.2.1⟩
theorem within_is (b : Bool) (x y p : Int) (w : World) (hx : 0 ≤ x) (hx' : x ≤ 1000000000000) (hy : 0 ≤ y) (hy' : y ≤ 1000000000000) (hp : p = 15 ∨ p = 50) (h : nearB x y p = b) :
    Calls Yba.prog 20 #[.int .i64 x, .int .i64 y, .int .i64 p] w fun e w' => e = .returned (.bool b) ∧ w = w' :=
  (within_any x y p w hx hx' hy hy' hp).mono fun e w' ⟨h1, h2⟩ => ⟨by rw [h1, h], h2.symm⟩

set_option maxRecDepth 100000 in
set_option maxHeartbeats 3200000 in
theorem similar_nil (bs bb G g o : Nat) (M : Nat → Int) (A : Nat → Nat → Int) (K : Nat → Bool) (w : World) (hg : g < 2) (ho : o < 2)
    (h0 : w.cell? ⟨bs, 0, none⟩ = some (.pointer (some ⟨bb, 0, none⟩))) (h1 : w.cell? ⟨bs, 1, none⟩ = some (.slice (some ⟨G, 0, none⟩) 2 2)) (h2 : w.cell? ⟨bb, 1, none⟩ = some (.slice none 0 0))
    (hG : ∀ q, q < 2 → (∀ c, c < 13 → w.cell? ⟨G, q * 42 + 1 + c, none⟩ = some (tval (M q) c)) ∧ (∀ c, c < 7 → w.cell? ⟨G, q * 42 + 27 + c, none⟩ = some (oval (A q) (K q) c)))
    (hM : ∀ q, q < 2 → 0 ≤ M q ∧ M q ≤ 1000000000000) (hA : ∀ q, q < 2 → ∀ j, j < 5 → 0 ≤ A q j ∧ A q j ≤ 1000000000000) :
    Calls Yba.prog 12 #[.pointer (some ⟨bs, 0, none⟩), .int .i64 (g : Int), .int .i64 (o : Int)] w fun e w' =>
      e = .returned (.bool (simB (M g) (M o) (fig5 (A g) (K g)) (fig5 (A o) (K o)))) ∧ Below w.heap.size w w' := by
  have hn := fun wx => run_neq_slice_nil_any (P := Yba.prog) wx 34 9 none 0 0 0 0 Yba.underlying34
  have hg' : (g : Int) < 2 := by omega
  have ho' : (o : Int) < 2 := by omega
  have tg0 : w.cell? ⟨G, g * 42 + 1, none⟩ = some (.string ⟨#[]⟩) := (hG g hg).1 0 (by omega)
  have tg1 : w.cell? ⟨G, g * 42 + 1 + 1, none⟩ = some (.int .i64 0) := (hG g hg).1 1 (by omega)
  have tg2 : w.cell? ⟨G, g * 42 + 1 + 2, none⟩ = some (.int .i64 0) := (hG g hg).1 2 (by omega)
  have tg3 : w.cell? ⟨G, g * 42 + 1 + 3, none⟩ = some (.int .i64 0) := (hG g hg).1 3 (by omega)
  have tg4 : w.cell? ⟨G, g * 42 + 1 + 4, none⟩ = some (.int .i64 0) := (hG g hg).1 4 (by omega)
  have tg5 : w.cell? ⟨G, g * 42 + 1 + 5, none⟩ = some (.int .i64 0) := (hG g hg).1 5 (by omega)
  have tg6 : w.cell? ⟨G, g * 42 + 1 + 6, none⟩ = some (.int .i64 0) := (hG g hg).1 6 (by omega)
  have tg7 : w.cell? ⟨G, g * 42 + 1 + 7, none⟩ = some (.int .i64 (M g)) := (hG g hg).1 7 (by omega)
  have tg8 : w.cell? ⟨G, g * 42 + 1 + 8, none⟩ = some (.slice none 0 0) := (hG g hg).1 8 (by omega)
  have tg9 : w.cell? ⟨G, g * 42 + 1 + 9, none⟩ = some (.string ⟨#[]⟩) := (hG g hg).1 9 (by omega)
  have tg10 : w.cell? ⟨G, g * 42 + 1 + 10, none⟩ = some (.bool false) := (hG g hg).1 10 (by omega)
  have tg11 : w.cell? ⟨G, g * 42 + 1 + 11, none⟩ = some (.slice none 0 0) := (hG g hg).1 11 (by omega)
  have tg12 : w.cell? ⟨G, g * 42 + 1 + 12, none⟩ = some (.bool false) := (hG g hg).1 12 (by omega)
  have ug0 : w.cell? ⟨G, g * 42 + 27, none⟩ = some (.int .i64 (A g 0)) := (hG g hg).2 0 (by omega)
  have ug1 : w.cell? ⟨G, g * 42 + 27 + 1, none⟩ = some (.int .i64 (A g 1)) := (hG g hg).2 1 (by omega)
  have ug2 : w.cell? ⟨G, g * 42 + 27 + 2, none⟩ = some (.int .i64 0) := (hG g hg).2 2 (by omega)
  have ug3 : w.cell? ⟨G, g * 42 + 27 + 3, none⟩ = some (.int .i64 (A g 2)) := (hG g hg).2 3 (by omega)
  have ug4 : w.cell? ⟨G, g * 42 + 27 + 4, none⟩ = some (.bool (K g)) := (hG g hg).2 4 (by omega)
  have ug5 : w.cell? ⟨G, g * 42 + 27 + 5, none⟩ = some (.int .i64 (A g 3)) := (hG g hg).2 5 (by omega)
  have ug6 : w.cell? ⟨G, g * 42 + 27 + 6, none⟩ = some (.int .i64 (A g 4)) := (hG g hg).2 6 (by omega)
  have to0 : w.cell? ⟨G, o * 42 + 1, none⟩ = some (.string ⟨#[]⟩) := (hG o ho).1 0 (by omega)
  have to1 : w.cell? ⟨G, o * 42 + 1 + 1, none⟩ = some (.int .i64 0) := (hG o ho).1 1 (by omega)
  have to2 : w.cell? ⟨G, o * 42 + 1 + 2, none⟩ = some (.int .i64 0) := (hG o ho).1 2 (by omega)
  have to3 : w.cell? ⟨G, o * 42 + 1 + 3, none⟩ = some (.int .i64 0) := (hG o ho).1 3 (by omega)
  have to4 : w.cell? ⟨G, o * 42 + 1 + 4, none⟩ = some (.int .i64 0) := (hG o ho).1 4 (by omega)
  have to5 : w.cell? ⟨G, o * 42 + 1 + 5, none⟩ = some (.int .i64 0) := (hG o ho).1 5 (by omega)
  have to6 : w.cell? ⟨G, o * 42 + 1 + 6, none⟩ = some (.int .i64 0) := (hG o ho).1 6 (by omega)
  have to7 : w.cell? ⟨G, o * 42 + 1 + 7, none⟩ = some (.int .i64 (M o)) := (hG o ho).1 7 (by omega)
  have to8 : w.cell? ⟨G, o * 42 + 1 + 8, none⟩ = some (.slice none 0 0) := (hG o ho).1 8 (by omega)
  have to9 : w.cell? ⟨G, o * 42 + 1 + 9, none⟩ = some (.string ⟨#[]⟩) := (hG o ho).1 9 (by omega)
  have to10 : w.cell? ⟨G, o * 42 + 1 + 10, none⟩ = some (.bool false) := (hG o ho).1 10 (by omega)
  have to11 : w.cell? ⟨G, o * 42 + 1 + 11, none⟩ = some (.slice none 0 0) := (hG o ho).1 11 (by omega)
  have to12 : w.cell? ⟨G, o * 42 + 1 + 12, none⟩ = some (.bool false) := (hG o ho).1 12 (by omega)
  have uo0 : w.cell? ⟨G, o * 42 + 27, none⟩ = some (.int .i64 (A o 0)) := (hG o ho).2 0 (by omega)
  have uo1 : w.cell? ⟨G, o * 42 + 27 + 1, none⟩ = some (.int .i64 (A o 1)) := (hG o ho).2 1 (by omega)
  have uo2 : w.cell? ⟨G, o * 42 + 27 + 2, none⟩ = some (.int .i64 0) := (hG o ho).2 2 (by omega)
  have uo3 : w.cell? ⟨G, o * 42 + 27 + 3, none⟩ = some (.int .i64 (A o 2)) := (hG o ho).2 3 (by omega)
  have uo4 : w.cell? ⟨G, o * 42 + 27 + 4, none⟩ = some (.bool (K o)) := (hG o ho).2 4 (by omega)
  have uo5 : w.cell? ⟨G, o * 42 + 27 + 5, none⟩ = some (.int .i64 (A o 3)) := (hG o ho).2 5 (by omega)
  have uo6 : w.cell? ⟨G, o * 42 + 27 + 6, none⟩ = some (.int .i64 (A o 4)) := (hG o ho).2 6 (by omega)
  have lG : G < w.heap.size := World.block_lt_of_cell? w _ tg0
  have lb : bs < w.heap.size := World.block_lt_of_cell? w _ h0
  clear hG
  go_enter Yba.func12, Yba.ntmps12
  go_upto_region 3 with fail
  go_cut [7, 8] (fun x y wc => ∃ b7 b8 : Nat, x = .pointer (some ⟨b7, 0, none⟩) ∧ y = .pointer (some ⟨b8, 0, none⟩) ∧ wc.cell? ⟨b7, 7, none⟩ = some (.int .i64 (M g)) ∧ wc.cell? ⟨b8, 7, none⟩ = some (.int .i64 (M o)) ∧ Below w.heap.size w wc)
  case first =>
    go_region
    all_goals go_wp2
    all_goals go_meet
    case rel => exact ⟨_, _, rfl, rfl, by simp [go_sem], by simp [go_sem], (((Below.refl _ _).alloc (Nat.le_refl _) _).alloc (by simp) _).drew⟩
    case rel => exact ⟨_, _, rfl, rfl, by simp [go_sem], by simp [go_sem], (((Below.refl _ _).alloc (Nat.le_refl _) _).alloc (by simp) _).drew⟩
  case rest =>
    obtain ⟨b7, b8, rfl, rfl, c7, c8, hb⟩ := hcut
    obtain ⟨m1, m2⟩ := hM g hg
    obtain ⟨m3, m4⟩ := hM o ho
    have HB : Hid (Below w.heap.size w wc) := hb
    clear tg0 to0 tg1 to1 tg2 to2 tg3 to3 tg4 to4 tg5 to5 tg6 to6 tg7 to7 tg8 to8 tg9 to9 tg10 to10 tg11 to11 tg12 to12
    by_cases hnear : nearB (M g) (M o) 15 = true
    · have HN : Hid (nearB (M g) (M o) 15 = true) := hnear
      clear hnear
      have lG' : G < wc.heap.size := by have := hb.size; omega
      have lb' : bs < wc.heap.size := by have := hb.size; omega
      have j1 := (hb.cell (p := ⟨bs, 1, none⟩) lb).trans h1
      have vg0 := (hb.cell (p := ⟨G, g * 42 + 27, none⟩) lG).trans ug0
      have vg1 := (hb.cell (p := ⟨G, g * 42 + 27 + 1, none⟩) lG).trans ug1
      have vg2 := (hb.cell (p := ⟨G, g * 42 + 27 + 2, none⟩) lG).trans ug2
      have vg3 := (hb.cell (p := ⟨G, g * 42 + 27 + 3, none⟩) lG).trans ug3
      have vg4 := (hb.cell (p := ⟨G, g * 42 + 27 + 4, none⟩) lG).trans ug4
      have vg5 := (hb.cell (p := ⟨G, g * 42 + 27 + 5, none⟩) lG).trans ug5
      have vg6 := (hb.cell (p := ⟨G, g * 42 + 27 + 6, none⟩) lG).trans ug6
      have vo0 := (hb.cell (p := ⟨G, o * 42 + 27, none⟩) lG).trans uo0
      have vo1 := (hb.cell (p := ⟨G, o * 42 + 27 + 1, none⟩) lG).trans uo1
      have vo2 := (hb.cell (p := ⟨G, o * 42 + 27 + 2, none⟩) lG).trans uo2
      have vo3 := (hb.cell (p := ⟨G, o * 42 + 27 + 3, none⟩) lG).trans uo3
      have vo4 := (hb.cell (p := ⟨G, o * 42 + 27 + 4, none⟩) lG).trans uo4
      have vo5 := (hb.cell (p := ⟨G, o * 42 + 27 + 5, none⟩) lG).trans uo5
      have vo6 := (hb.cell (p := ⟨G, o * 42 + 27 + 6, none⟩) lG).trans uo6
      clear ug0 uo0 ug1 uo1 ug2 uo2 ug3 uo3 ug4 uo4 ug5 uo5 ug6 uo6 h0 h1 h2 hb
      go_upto_region 6 with (go_at_call 20; refine (within_is true _ _ _ _ m1 m2 m3 m4 (Or.inl rfl) HN.out).mono ?_; rintro e w' ⟨rfl, rfl⟩)
      clear c7 c8
      go_cut [9, 10] (fun x y wd => ∃ b9 b10 : Nat, x = .pointer (some ⟨b9, 0, none⟩) ∧ y = .pointer (some ⟨b10, 0, none⟩) ∧ O7 wd b9 b10 (A g) (A o) (K g) (K o) ∧ Below w.heap.size w wd)
      case first =>
        go_region
        all_goals go_wp2
        all_goals go_meet
        case rel => exact ⟨_, _, rfl, rfl, o7_two wc 125 125 (A g) (A o) (K g) (K o), (((HB.out).alloc HB.out.size _).alloc (by have := HB.out.size; simp; omega) _).drew⟩
        case rel => exact ⟨_, _, rfl, rfl, (o7_two wc 125 125 (A o) (A g) (K o) (K g)).swap, (((HB.out).alloc HB.out.size _).alloc (by have := HB.out.size; simp; omega) _).drew⟩
      case rest =>
        obtain ⟨b9, b10, rfl, rfl, O, hb⟩ := hcut
        have p0 : wc.cell? ⟨b9, 0, none⟩ = some (.int .i64 (A g 0)) := O.1 0 (by omega)
        have q0 : wc.cell? ⟨b10, 0, none⟩ = some (.int .i64 (A o 0)) := O.2.1 0 (by omega)
        have p1 : wc.cell? ⟨b9, 1, none⟩ = some (.int .i64 (A g 1)) := O.1 1 (by omega)
        have q1 : wc.cell? ⟨b10, 1, none⟩ = some (.int .i64 (A o 1)) := O.2.1 1 (by omega)
        have p2 : wc.cell? ⟨b9, 2, none⟩ = some (.int .i64 0) := O.1 2 (by omega)
        have q2 : wc.cell? ⟨b10, 2, none⟩ = some (.int .i64 0) := O.2.1 2 (by omega)
        have p3 : wc.cell? ⟨b9, 3, none⟩ = some (.int .i64 (A g 2)) := O.1 3 (by omega)
        have q3 : wc.cell? ⟨b10, 3, none⟩ = some (.int .i64 (A o 2)) := O.2.1 3 (by omega)
        have p4 : wc.cell? ⟨b9, 4, none⟩ = some (.bool (K g)) := O.1 4 (by omega)
        have q4 : wc.cell? ⟨b10, 4, none⟩ = some (.bool (K o)) := O.2.1 4 (by omega)
        have p5 : wc.cell? ⟨b9, 5, none⟩ = some (.int .i64 (A g 3)) := O.1 5 (by omega)
        have q5 : wc.cell? ⟨b10, 5, none⟩ = some (.int .i64 (A o 3)) := O.2.1 5 (by omega)
        have p6 : wc.cell? ⟨b9, 6, none⟩ = some (.int .i64 (A g 4)) := O.1 6 (by omega)
        have q6 : wc.cell? ⟨b10, 6, none⟩ = some (.int .i64 (A o 4)) := O.2.1 6 (by omega)
        have l9 := O.2.2.1
        have l10 := O.2.2.2
        have HB2 : Hid (Below w.heap.size w wc) := hb
        clear O hb HB j1 vg0 vo0 vg1 vo1 vg2 vo2 vg3 vo3 vg4 vo4 vg5 vo5 vg6 vo6
        go_upto_region 7 with fail
        go_cut [86, 87] (fun x y wd => x = .agg #[.int .i64 (A g 0), .int .i64 (A o 0), .int .i64 (A g 1), .int .i64 (A o 1), .int .i64 (kst (K g) (A g 2)), .int .i64 (kst (K o) (A o 2)), .int .i64 (A g 3), .int .i64 (A o 3), .int .i64 (A g 4), .int .i64 (A o 4)] ∧ y = .int .i64 0 ∧ Below w.heap.size w wd)
        case first =>
          go_region_held3 (fun wz => b9 < wz.heap.size ∧ b10 < wz.heap.size ∧ wz.cell? ⟨b9, 0, none⟩ = some (.int .i64 (A g 0)) ∧ wz.cell? ⟨b9, 1, none⟩ = some (.int .i64 (A g 1)) ∧ wz.cell? ⟨b9, 2, none⟩ = some (.int .i64 0) ∧ wz.cell? ⟨b9, 3, none⟩ = some (.int .i64 (A g 2)) ∧ wz.cell? ⟨b9, 4, none⟩ = some (.bool (K g)) ∧ wz.cell? ⟨b9, 5, none⟩ = some (.int .i64 (A g 3)) ∧ wz.cell? ⟨b9, 6, none⟩ = some (.int .i64 (A g 4)) ∧ wz.cell? ⟨b10, 0, none⟩ = some (.int .i64 (A o 0)) ∧ wz.cell? ⟨b10, 1, none⟩ = some (.int .i64 (A o 1)) ∧ wz.cell? ⟨b10, 2, none⟩ = some (.int .i64 0) ∧ wz.cell? ⟨b10, 3, none⟩ = some (.int .i64 (A o 2)) ∧ wz.cell? ⟨b10, 4, none⟩ = some (.bool (K o)) ∧ wz.cell? ⟨b10, 5, none⟩ = some (.int .i64 (A o 3)) ∧ wz.cell? ⟨b10, 6, none⟩ = some (.int .i64 (A o 4))) (simp [go_sem, World.cell?_alloc_past, *]) (first | (go_at_call 21; refine (known_any _ _ _ _ _ _ _ _).mono ?_; rintro e w' ⟨rfl, rfl⟩))
          go_wp2
          go_meet
          case rel => exact ⟨rfl, rfl, (((HB2.out).alloc HB2.out.size _).alloc (by have := HB2.out.size; simp; omega) _).drew⟩
        case rest =>
          obtain ⟨rfl, rfl, hb⟩ := hcut
          have hX : ∀ k, k < 5 → 0 ≤ fig5 (A g) (K g) k ∧ fig5 (A g) (K g) k ≤ 1000000000000 := fun k hk => fig5_bd (hA g hg) k hk
          have hY : ∀ k, k < 5 → 0 ≤ fig5 (A o) (K o) k ∧ fig5 (A o) (K o) k ≤ 1000000000000 := fun k hk => fig5_bd (hA o ho) k hk
          have hidx : ∀ k : Nat, k < 5 → ∀ wx : World, (Instr.index 29 (.agg #[.int .i64 (A g 0), .int .i64 (A o 0), .int .i64 (A g 1), .int .i64 (A o 1), .int .i64 (kst (K g) (A g 2)), .int .i64 (kst (K o) (A o 2)), .int .i64 (A g 3), .int .i64 (A o 3), .int .i64 (A g 4), .int .i64 (A o 4)]) (.int .i64 (k : Int))).run Yba.prog wx = .ok (.agg #[.int .i64 (fig5 (A g) (K g) k), .int .i64 (fig5 (A o) (K o) k)]) wx := by
            intro k hk wx
            match k, hk with
            | 0, _ | 1, _ | 2, _ | 3, _ | 4, _ => (show (_ : Result _) = _); kernel_rfl
          go_wp2
          go_loopw [87, 12] (fun i _ wr => ∃ k : Nat, k ≤ 5 ∧ i = .int .i64 k ∧ (∀ j, j < k → nearB (fig5 (A g) (K g) j) (fig5 (A o) (K o) j) 50 = true) ∧ Below w.heap.size w wr) (fun i _ _ => 5 - (intOf i).toNat)
          case atStart => exact ⟨0, Nat.zero_le _, rfl, fun j hj => by omega, hb⟩
          case round =>
            clear hb HB2
            obtain ⟨k, hk, rfl, hall, hb⟩ := hrel
            have HA : Hid (∀ j, j < k → nearB (fig5 (A g) (K g) j) (fig5 (A o) (K o) j) 50 = true) := hall
            have HB3 : Hid (Below w.heap.size w wr) := hb
            clear hall hb
            by_cases hlt : k < 5
            · have ix := hidx k hlt
              obtain ⟨x1, x2⟩ := hX k hlt
              obtain ⟨y1, y2⟩ := hY k hlt
              clear hidx hX hY hM hA
              by_cases hnk : nearB (fig5 (A g) (K g) k) (fig5 (A o) (K o) k) 50 = true
              · have HK : Hid (nearB (fig5 (A g) (K g) k) (fig5 (A o) (K o) k) 50 = true) := hnk
                clear hnk
                go_wp2_with (go_at_call 20; refine (within_is true _ _ _ _ x1 x2 y1 y2 (Or.inr rfl) HK.out).mono ?_; rintro e w' ⟨rfl, rfl⟩)
                go_roundw
                case rel => exact ⟨k + 1, by omega, by go_num, fun j hj => by
                    by_cases e : j = k
                    · subst e; exact HK.out
                    · exact HA.out j (by omega), HB3.out.alloc HB3.out.size _⟩
                case measure => simp [intOf]; omega
              · have HK : Hid (nearB (fig5 (A g) (K g) k) (fig5 (A o) (K o) k) 50 = false) := eq_false_of_ne_true hnk
                clear hnk
                go_wp2_with (go_at_call 20; refine (within_is false _ _ _ _ x1 x2 y1 y2 (Or.inr rfl) HK.out).mono ?_; rintro e w' ⟨rfl, rfl⟩)
                go_ret
                exact ⟨retb (simB_false _ _ _ _ k hlt HK.out), HB3.out.alloc HB3.out.size _⟩
            · obtain rfl : k = 5 := by omega
              clear hidx hX hY hM hA
              go_wp2
              go_ret
              exact ⟨retb (simB_true _ _ _ _ HN.out HA.out), HB3.out⟩
    · have HN : Hid (nearB (M g) (M o) 15 = false) := eq_false_of_ne_true hnear
      clear hnear
      go_wp2_with (go_at_call 20; refine (within_is false _ _ _ _ m1 m2 m3 m4 (Or.inl rfl) HN.out).mono ?_; rintro e w' ⟨rfl, rfl⟩)
      go_ret
      exact ⟨retb (by unfold simB; rw [HN.out]; rfl), hb⟩
end Go.Proofs.Ybulkwjm

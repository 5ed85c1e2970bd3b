/- slices.BinarySearch[[]int,int] (function 8) over a row that does not fall; cmp.Less[int] (9). -/
import Derived.Test.YbulkwlqRows
import Derived.WalkKit
import Derived.WalkSpells
import Derived.WalkLawsBesides
import Derived.Outline
namespace Go.Proofs.Ybulkwlq
open Go.RowKit
theorem less_yes (a b : Int) (w : World) (h : a < b) : Calls Yba.prog 9 #[.int .i64 a, .int .i64 b] w fun e w' => e = .returned (.bool true) ∧ w = w' := by
  go_enter Yba.func9, Yba.ntmps9
  go_wp2
  go_ret
  exact ⟨rfl, rfl⟩
theorem less_no (a b : Int) (w : World) (h : ¬ a < b) : Calls Yba.prog 9 #[.int .i64 a, .int .i64 b] w fun e w' => e = .returned (.bool false) ∧ w = w' := by
  go_enter Yba.func9, Yba.ntmps9
  go_wp2
  go_ret
  exact ⟨rfl, rfl⟩

/-- The place of x: all before it are less, none from it on is. -/
def Found (n : Nat) (z : Nat → Int) (x : Int) (e : Ending) : Prop :=
  ∃ (i : Nat) (f : Bool), e = .returned (.tuple #[.int .i64 (i : Int), .bool f]) ∧ i ≤ n ∧ (∀ q, q < i → z q < x) ∧ (∀ q, i ≤ q → q < n → x ≤ z q)
set_option maxHeartbeats 800000 in
theorem search_any (g n cap : Nat) (z : Nat → Int) (x : Int) (w : World) (hn : n ≤ 256)
    (hc : ∀ i, i < n → w.cell? ⟨g, i, none⟩ = some (.int .i64 (z i))) (hm : ∀ i j, i ≤ j → j < n → z i ≤ z j) :
    Calls Yba.prog 8 #[.slice (some ⟨g, 0, none⟩) n cap, .int .i64 x] w fun e w' =>
      Found n z x e ∧ w = w' := by
  go_enter Yba.func8, Yba.ntmps8
  go_wp2
  go_loop [7, 8, 9] (fun a b _ => ∃ i j : Nat, a = .int .i64 i ∧ b = .int .i64 j ∧ i ≤ j ∧ j ≤ n ∧ (∀ q, q < i → z q < x) ∧ (∀ q, j ≤ q → q < n → x ≤ z q)) (fun a b _ => (intOf b - intOf a).toNat)
  case atStart => exact ⟨0, n, rfl, rfl, Nat.zero_le _, Nat.le_refl _, fun q hq => by omega, fun q h1 h2 => by omega⟩
  case round =>
    obtain ⟨i, j, rfl, rfl, hij, hjn, h1, h2⟩ := hrel
    by_cases hlt : i < j
    · have H1 : Hid (∀ q, q < i → z q < x) := h1
      have H2 : Hid (∀ q, j ≤ q → q < n → x ≤ z q) := h2
      obtain ⟨m, hmd⟩ : ∃ m, m = (i + j) / 2 := ⟨_, rfl⟩
      have hm1 : i ≤ m := by omega
      have hm2 : m < j := by omega
      have e2 : ((i : Int) + (j : Int)) / 2 = (m : Int) := by omega
      have cm := hc m (by omega)
      have HM : Hid (∀ i j, i ≤ j → j < n → z i ≤ z j) := hm
      have hmeas : m < j ∧ i ≤ m := ⟨hm2, hm1⟩
      clear h1 h2 hc hm hmd
      by_cases hz : z m < x
      · go_wp2_with (go_at_call 9; refine (less_yes _ _ _ hz).mono ?_; rintro e w' ⟨rfl, rfl⟩)
        go_round
        case rel => exact ⟨m + 1, j, by go_num, rfl, by omega, hjn, fun q hq => by
            have := HM.out q m (by omega) (by omega); omega, H2.out⟩
        case measure => simp [intOf]; omega
      · go_wp2_with (go_at_call 9; refine (less_no _ _ _ hz).mono ?_; rintro e w' ⟨rfl, rfl⟩)
        go_round
        case rel => exact ⟨i, m, rfl, by go_num, by omega, by omega, H1.out, fun q h1 h2 => by
            have := HM.out m q h1 h2; omega⟩
        case measure => simp [intOf]; omega
    · obtain rfl : i = j := by omega
      have H1 : Hid (∀ q, q < i → z q < x) := h1
      have H2 : Hid (∀ q, i ≤ q → q < n → x ≤ z q) := h2
      by_cases hin : i < n
      · have ci := hc i hin
        clear h1 h2 hc hm
        by_cases hz : z i = x
        · go_wp2
          go_ret2
          exact ⟨⟨i, _, rfl, hjn, H1.out, H2.out⟩, rfl⟩
        · have hz' : (z i == x) = false := by simpa using hz
          go_wp2
          go_ret2
          exact ⟨⟨i, _, rfl, hjn, H1.out, H2.out⟩, rfl⟩
      · clear h1 h2 hc hm
        go_wp2
        go_ret2
        exact ⟨⟨i, _, rfl, hjn, H1.out, H2.out⟩, rfl⟩
end Go.Proofs.Ybulkwlq

/- slices.Index (7), slices.Contains (5), slices.Equal (6) at []string, over rows of cells. -/
import Derived.Test.YbulkwngRows
import Derived.WalkKit
import Derived.WalkSpells
import Derived.WalkLawsBesides
import Derived.RegionTactic
import Derived.BigRegion
import Derived.Deep.QuietTactic
import Derived.BigQuiet
import Derived.Lib.SlicesS
namespace Go.Proofs.Ybulkwng
open Go.RowKit
theorem hid {p : Prop} (h : p) : Hid p := h

def IdxSaid (zs : List ByteArray) (x : ByteArray) (e : Ending) : Prop := ∃ r : Int, e = .returned (.int .i64 r) ∧ (0 ≤ r ↔ x ∈ zs)

set_option maxHeartbeats 800000 in
theorem index_any (g n cap : Nat) (zs : List ByteArray) (x : ByteArray) (w : World) (hn : n ≤ 4096) (hz : zs.length = n)
    (hc : ∀ j, j < n → w.cell? ⟨g, j, none⟩ = some (.string (zs.getD j ByteArray.empty))) :
    Calls Yba.prog 7 #[.slice (some ⟨g, 0, none⟩) n cap, .string x] w fun e w' => IdxSaid zs x e ∧ w = w' := by
  go_enter Yba.func7, Yba.ntmps7
  go_wp2
  go_loop [8] (fun a => ∃ k : Nat, k ≤ n ∧ a = .int .i64 k ∧ ∀ j, j < k → zs.getD j ByteArray.empty ≠ x) (fun a => n - (intOf a).toNat)
  case atStart => exact ⟨0, Nat.zero_le _, rfl, fun j hj => absurd hj (Nat.not_lt_zero _)⟩
  case round =>
    obtain ⟨k, hk, rfl, hne⟩ := hrel
    have A := hid hne
    have HZ := hid hz
    clear hne hz
    by_cases hlt : k < n
    · have ck := hc k hlt
      clear hc
      generalize hy : zs.getD k ByteArray.empty = y at ck
      have Y := hid hy
      clear hy
      by_cases hxy : x = y
      · subst hxy
        go_wp2
        go_ret
        refine ⟨⟨k, rfl, ?_⟩, rfl⟩
        have hz := HZ.out
        have hy := Y.out
        refine ⟨fun _ => ?_, fun _ => by omega⟩
        rw [← hy, List.getD_eq_getElem?_getD, List.getElem?_eq_getElem (by omega)]
        exact List.getElem_mem _
      · have hb : (x.toList == y.toList) = false := (Lib.bytes_beq_false_iff _ _).2 hxy
        go_wp2
        go_round
        case rel =>
          refine ⟨k + 1, by omega, by go_num, fun j hj => ?_⟩
          by_cases e : j = k
          · subst e
            rw [Y.out]
            exact fun h => hxy h.symm
          · exact A.out j (by omega)
        case measure => simp [intOf]; omega
    · have : k = n := by omega
      subst this
      clear hc
      go_wp2
      go_ret
      refine ⟨⟨-1, rfl, ?_⟩, rfl⟩
      have hz := HZ.out
      refine ⟨fun h => by omega, fun h => ?_⟩
      obtain ⟨j, hj, he⟩ := List.mem_iff_getElem.1 h
      exfalso
      refine A.out j (by omega) ?_
      rw [List.getD_eq_getElem?_getD, List.getElem?_eq_getElem hj]
      exact he

theorem contains_yes (g n cap : Nat) (zs : List ByteArray) (x : ByteArray) (w : World) (hn : n ≤ 4096) (hz : zs.length = n)
    (hc : ∀ j, j < n → w.cell? ⟨g, j, none⟩ = some (.string (zs.getD j ByteArray.empty))) (hx : x ∈ zs) :
    Calls Yba.prog 5 #[.slice (some ⟨g, 0, none⟩) n cap, .string x] w fun e w' => e = .returned (.bool true) ∧ w = w' := by
  have HC := hid (index_any g n cap zs x w hn hz hc)
  have HX := hid hx
  clear hc hx
  go_enter Yba.func5, Yba.ntmps5
  go_wp2_with (go_at_call 7; refine HC.out.mono ?_; rintro e w' ⟨⟨r, rfl, hr⟩, rfl⟩; replace hr : decide (0 ≤ r) = true := decide_eq_true (hr.2 HX.out))
  go_ret
  simp
theorem contains_no (g n cap : Nat) (zs : List ByteArray) (x : ByteArray) (w : World) (hn : n ≤ 4096) (hz : zs.length = n)
    (hc : ∀ j, j < n → w.cell? ⟨g, j, none⟩ = some (.string (zs.getD j ByteArray.empty))) (hx : x ∉ zs) :
    Calls Yba.prog 5 #[.slice (some ⟨g, 0, none⟩) n cap, .string x] w fun e w' => e = .returned (.bool false) ∧ w = w' := by
  have HC := hid (index_any g n cap zs x w hn hz hc)
  have HX := hid hx
  clear hc hx
  go_enter Yba.func5, Yba.ntmps5
  go_wp2_with (go_at_call 7; refine HC.out.mono ?_; rintro e w' ⟨⟨r, rfl, hr⟩, rfl⟩; replace hr : decide (0 ≤ r) = false := decide_eq_false fun h => HX.out (hr.1 h))
  go_ret
  simp

set_option maxHeartbeats 800000 in
theorem equal_same (g g' n cap cap' : Nat) (zs : List ByteArray) (w : World) (hn : n ≤ 4096)
    (hc : ∀ j, j < n → w.cell? ⟨g, j, none⟩ = some (.string (zs.getD j ByteArray.empty))) (hc' : ∀ j, j < n → w.cell? ⟨g', j, none⟩ = some (.string (zs.getD j ByteArray.empty))) :
    Calls Yba.prog 6 #[.slice (some ⟨g, 0, none⟩) n cap, .slice (some ⟨g', 0, none⟩) n cap'] w fun e w' => e = .returned (.bool true) ∧ Below w.heap.size w w' := by
  go_enter Yba.func6, Yba.ntmps6
  go_wp2
  go_loopw [13] (fun a wr => ∃ k : Nat, k ≤ n ∧ a = .int .i64 k ∧ Below w.heap.size w wr) (fun a _ => n - (intOf a).toNat)
  case atStart => exact ⟨0, Nat.zero_le _, rfl, Below.refl _ _⟩
  case round =>
    obtain ⟨k, hk, rfl, hb⟩ := hrel
    have HB := hid hb
    clear hb
    by_cases hlt : k < n
    · have ck := (HB.out.cell (World.block_lt_of_cell? w _ (hc k hlt))).trans (hc k hlt)
      have ck' := (HB.out.cell (World.block_lt_of_cell? w _ (hc' k hlt))).trans (hc' k hlt)
      clear hc hc'
      generalize zs.getD k ByteArray.empty = y at ck ck'
      go_wp2
      go_quiet (fail)
      go_wp2
      go_roundw
      case rel => exact ⟨k + 1, by omega, by go_num, HB.out.trans ⟨rfl, rfl, rfl, Nat.le_refl _, fun _ _ => rfl⟩⟩
      case measure => simp [intOf]; omega
    · have : k = n := by omega
      subst this
      clear hc hc'
      go_wp2
      go_ret
      exact ⟨rfl, HB.out⟩
end Go.Proofs.Ybulkwng

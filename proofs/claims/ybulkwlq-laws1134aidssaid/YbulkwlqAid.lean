/- The contract of rankweave.zzs1134aid (function 4): it gives some string; nothing old is touched. -/
import Derived.Test.YbulkwlqRows
import Derived.Test.YbulkwlqMem
import Derived.WalkKit
import Derived.WalkSpells
import Derived.WalkLawsBesides
import Derived.Outline
import Derived.Laws.BytesArg
namespace Go.Proofs.Ybulkwlq
open Go.RowKit
theorem info5 : (Yba.prog.info? 5).map (fun i => (i.zero, i.size, i.bytes)) = some (some (.int .u8 0), 1, 1) := by kernel_rfl

theorem owns_shape {w : World} {base : Nat} {e : TypeId} {size : Nat} {v : Value} {n : Nat} {xs : List Value} (h : w.ownsRow base e size v n xs) (hn : 0 < n) : ∃ g cap, v = .slice (some ⟨g, 0, none⟩) n cap ∧ base ≤ g ∧ g < w.heap.size := by
  rcases h.2 with ⟨_, h0⟩ | ⟨g, cap, cur, hv, hg, hh, _⟩
  · omega
  · exact ⟨g, cap, hv, hg, by
      rcases Nat.lt_or_ge g w.heap.size with h | h
      · exact h
      · rw [Array.getElem?_eq_none h] at hh; simp at hh⟩

set_option maxHeartbeats 800000 in
theorem aid_any (j : Nat) (w : World) (hj : j ≤ 1280) :
    Calls Yba.prog 4 #[.int .i64 (j : Int)] w fun e w' => (∃ s : ByteArray, e = .returned (.string s)) ∧ Below w.heap.size w w' := by
  obtain ⟨i, hi, hz0, hz1, hz2⟩ := info_parts info5
  by_cases h0 : j = 0
  · subst h0
    go_enter Yba.func4, Yba.ntmps4
    go_wp2
    go_ret
    exact ⟨⟨_, rfl⟩, Below.refl _ _⟩
  · have hpos : (0 : Int) < (j : Int) := by omega
    go_enter Yba.func4, Yba.ntmps4
    go_wp2
    go_loopw [0, 3] (fun q v wr => ∃ (J n : Nat) (xs : List Int), q = .int .i64 J ∧ n + J ≤ 1280 ∧ 0 < n + J ∧ xs.length = n ∧ wr.ownsRow w.heap.size 5 1 v n (xs.map (Value.int .u8)) ∧ Below w.heap.size w wr) (fun q _ _ => (intOf q).toNat)
    case atStart => exact ⟨j, 0, [], rfl, by omega, by omega, rfl, World.ownsRow_nil _ _ _ _, Below.refl _ _⟩
    case round =>
      clear hpos h0
      obtain ⟨J, n, xs, rfl, hnJ, hpos, hxs, hown, hb⟩ := hrel
      have hsz := hb.size
      by_cases hJ : 0 < J
      · have hJ' : (0 : Int) < (J : Int) := by omega
        have hJb : (J : Int) ≤ 1280 := by omega
        go_wp2_with (at_builtin; refine wpList_append_own _ rfl (.tmp 11) (.tmp 16) 22 rfl w.heap.size 5 i (.int .u8 0) 1 1 Yba.underlying22 hi hz0 hz1 hz2 rfl (by decide) _ n (xs.map (Value.int .u8)) rfl (hown.alloc _) ⟨wr.heap.size, 0, none⟩ 1 1 [.int .u8 (48 + (J : Int) % 10)] rfl rfl ?c1 ?c2 ?c3 ?c4 ?c5 ?_)
        case c1 =>
          intro q u hq
          match q, hq with
          | 0, hq => simp at hq; subst hq; simp [Addr.add]
        case c2 => intro u hu; simp at hu; subst hu; rfl
        case c3 => unfold maxLen; omega
        case c4 => omega
        case c5 => simp; omega
        · intro v' w1 hown' hgrow _
          have hb' : Hid (Below w.heap.size w w1) := (hb.alloc hsz _).grown hgrow (by simp; omega) (fun k hk => ownBlock_ge hown k hk)
          have HO : Hid (w1.ownsRow w.heap.size 5 1 v' (n + 1) ((xs ++ [48 + (J : Int) % 10]).map (Value.int .u8))) := by rw [List.map_append]; exact hown'
          clear hown' hgrow hown hb
          go_wp2
          go_roundw
          case rel => exact ⟨J / 10, n + 1, xs ++ [48 + (J : Int) % 10], by go_num, by omega, by omega, by simp [hxs], HO.out, hb'.out⟩
          case measure => simp [intOf]; omega
      · obtain rfl : J = 0 := by omega
        obtain ⟨g, cap, rfl, hg, hg'⟩ := owns_shape hown (by omega)
        have HO : Hid (wr.ownsRow w.heap.size 5 1 (.slice (some ⟨g, 0, none⟩) n cap) n (xs.map (Value.int .u8))) := hown
        have HB : Hid (Below w.heap.size w wr) := hb
        clear hown hb
        go_wp2
        go_loopw [4, 5, 6] (fun a b _ wx => ∃ (l r : Nat) (ys : List Int), a = .int .i64 l ∧ b = .int .i64 r ∧ l + r + 1 = n ∧ l ≤ r + 1 ∧ ys.length = n ∧ wx.ownsRow w.heap.size 5 1 (.slice (some ⟨g, 0, none⟩) n cap) n (ys.map (Value.int .u8)) ∧ Below w.heap.size w wx) (fun a b _ _ => (intOf b + 1 - intOf a).toNat)
        case atStart => exact ⟨0, n - 1, xs, rfl, by go_num, by omega, by omega, hxs, HO.out, HB.out⟩
        case round =>
          clear HO HB
          obtain ⟨l, r, ys, rfl, rfl, hlr, hle, hys, hown, hb⟩ := hrel
          have HO : Hid (wr.ownsRow w.heap.size 5 1 (.slice (some ⟨g, 0, none⟩) n cap) n (ys.map (Value.int .u8))) := hown
          have HB : Hid (Below w.heap.size w wr) := hb
          have hcell : ∀ q, q < n → wr.cell? ⟨g, q, none⟩ = some (.int .u8 (ys.getD q 0)) := fun q hq => by
            rw [hown.cellAt q (by omega)]; simp [hys, hq]
          by_cases hlt : l < r
          · have hll : l < n := by omega
            have hrl : r < n := by omega
            have c0 := hcell l (by omega)
            have c1 := hcell r (by omega)
            have f0 := hown.frozenAt l
            have f1 := hown.frozenAt r
            have ne : l ≠ r := by omega
            obtain ⟨a, ha⟩ : ∃ a, a = ys.getD l 0 := ⟨_, rfl⟩
            obtain ⟨b, hbb⟩ : ∃ b, b = ys.getD r 0 := ⟨_, rfl⟩
            rw [← ha] at c0
            rw [← hbb] at c1
            clear hown hb hcell ha hbb
            go_wp2
            go_roundw
            case rel => exact ⟨l + 1, r - 1, (ys.set l b).set r a, by go_num, by go_num, by omega, by omega, by simp [hys], by
                have h1 := (HO.out.stored l (.int .u8 b)).1
                have h2 := (h1.stored r (.int .u8 a)).1
                rw [List.map_set, List.map_set]; exact h2, (HB.out.setCell hg _).setCell hg _⟩
            case measure => simp [intOf]; omega
          · have hcv := run_convert_bytes_arg (P := Yba.prog) wr 22 5 Yba.underlying22 Yba.underlying5 g 0 n cap ys hys (fun q hq => by rw [Nat.zero_add]; exact hcell q hq) 9 Yba.underlying9
            obtain ⟨st, hst⟩ : ∃ st, st = strOfNums ys := ⟨_, rfl⟩
            have hss : st.size ≤ 1280 := by rw [hst]; simp [strOfNums, ByteArray.size]; omega
            rw [← hst] at hcv
            clear hown hb hcell hst
            go_wp2
            go_ret
            exact ⟨⟨_, rfl⟩, HB.out⟩
end Go.Proofs.Ybulkwlq

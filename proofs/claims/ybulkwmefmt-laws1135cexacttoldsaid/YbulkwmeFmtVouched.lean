/- wire.AppendVouched (6) over fmt.Appendf (11), fmt's text told. -/
import Derived.Test.YbulkwmeFmtFacts
import Derived.Stop.JoinedTold
namespace Go.Proofs.YbulkwmeFmt
open Go.RowKit Go.Extern.Stop Go.Stop Go.Extern Go.Kit
attribute [local go_sem] call15 guardF fmtA fmtAr op9_115 strict9
theorem info5 : (Ybaf.prog.info? 5).map (fun i => (i.zero, i.size, i.bytes)) = some (some (.int .u8 0), 1, 1) := by kernel_rfl
def vouchedL : List UInt8 := [118, 111, 117, 99, 104, 101, 100]
def wordL (ok : Bool) : List UInt8 := if ok then [121, 101, 115] else [110, 111]
def textL (ok : Bool) : List UInt8 := vouchedL ++ [32] ++ wordL ok ++ [10]
def tailC (ok : Bool) : List Value := (textL ok).map fun b => Value.int .u8 b.toNat

theorem told_st (F : Interp) (ok : Bool) : (FmtStop.textOf (F.told "fmt.Sprintf" (reading vouchedL (wordL ok)) 0)).data.toList = textL ok := by
  rw [textOf_list, told_string F (t_text vouchedL (wordL ok) (by decide) (by cases ok <;> decide)) (by cases ok <;> decide)]
  rfl
theorem st_cells {st : ByteArray} {ok : Bool} (h : st.data.toList = textL ok) : Lib.strCells st = tailC ok := by
  unfold Lib.strCells tailC; rw [h]
theorem st_size {st : ByteArray} {ok : Bool} (h : st.data.toList = textL ok) : st.size = (textL ok).length := by
  show st.data.size = _
  rw [← h, Array.length_toList]

/-- The row that AppendVouched hands back. -/
def Appended (B n : Nat) (xs : List Value) (ok : Bool) (e : Ending) (w' : World) : Prop :=
  ∃ v', e = .returned v' ∧ w'.ownsRow B 5 1 v' (n + (textL ok).length) (xs ++ tailC ok)

set_option maxRecDepth 100000 in
set_option maxHeartbeats 1600000 in
theorem vouched_any (F : Interp) (ok : Bool) (v : Value) (n B : Nat) (xs : List Value) (w : World) (hB : B ≤ w.heap.size) (hn : n ≤ 1024) (hown : w.ownsRow B 5 1 v n xs) (hF : F.told.answers w.tape) :
    Calls Ybaf.prog 6 #[v, .bool ok] w fun e w' => Appended B n xs ok e w' ∧ Below B w w' := by
  obtain ⟨i, hi, hz, hsz, hby⟩ := info_parts info5
  have hF' := answers_open hF
  cases ok
  · have hst := told_st F false
    have hss := st_size hst
    have hsc := st_cells hst
    have hl : (textL false).length = 11 := by decide
    have HS : Hid (Lib.strCells (FmtStop.textOf (F.told "fmt.Sprintf" (reading vouchedL (wordL false)) 0)) = tailC false) := hsc
    have HZ : Hid ((FmtStop.textOf (F.told "fmt.Sprintf" (reading vouchedL (wordL false)) 0)).size = (textL false).length) := hss
    clear hst hss hsc
    go_enter Ybaf.func6, Ybaf.ntmps6
    go_wp2_with (first | (at_builtin; refine Lib.wpList_append_own_string _ rfl (.tmp 11) (.tmp 12) 22 9 rfl B 5 i Ybaf.underlying22 Ybaf.underlying9 hi hz hsz hby v n xs rfl ((hown.alloc _).drew) (FmtStop.textOf (F.told "fmt.Sprintf" (reading vouchedL (wordL false)) 0)) rfl ?a1 ?a2 ?a3 ?_) | go_in)
    case a1 => rw [HZ.out]; unfold maxLen; omega
    case a2 => rw [HZ.out]; omega
    case a3 => simp; omega
    intro v' w1 ho hg _
    rw [HZ.out, HS.out] at ho
    have hb1 : Hid (Below B w w1) := (((Below.refl B w).alloc hB _).drew).grown hg (by simp; omega) (fun k hk => (hown.lt k hk).1)
    have HO : Hid (w1.ownsRow B 5 1 v' (n + (textL false).length) (xs ++ tailC false)) := ho
    clear ho hg hown HS HZ
    go_wp2
    go_ret
    exact ⟨⟨v', rfl, HO.out⟩, hb1.out⟩
  · have hst := told_st F true
    have hss := st_size hst
    have hsc := st_cells hst
    have hl : (textL true).length = 12 := by decide
    have HS : Hid (Lib.strCells (FmtStop.textOf (F.told "fmt.Sprintf" (reading vouchedL (wordL true)) 0)) = tailC true) := hsc
    have HZ : Hid ((FmtStop.textOf (F.told "fmt.Sprintf" (reading vouchedL (wordL true)) 0)).size = (textL true).length) := hss
    clear hst hss hsc
    go_enter Ybaf.func6, Ybaf.ntmps6
    go_wp2_with (first | (at_builtin; refine Lib.wpList_append_own_string _ rfl (.tmp 11) (.tmp 12) 22 9 rfl B 5 i Ybaf.underlying22 Ybaf.underlying9 hi hz hsz hby v n xs rfl ((hown.alloc _).drew) (FmtStop.textOf (F.told "fmt.Sprintf" (reading vouchedL (wordL true)) 0)) rfl ?b1 ?b2 ?b3 ?_) | go_in)
    case b1 => rw [HZ.out]; unfold maxLen; omega
    case b2 => rw [HZ.out]; omega
    case b3 => simp; omega
    intro v' w1 ho hg _
    rw [HZ.out, HS.out] at ho
    have hb1 : Hid (Below B w w1) := (((Below.refl B w).alloc hB _).drew).grown hg (by simp; omega) (fun k hk => (hown.lt k hk).1)
    have HO : Hid (w1.ownsRow B 5 1 v' (n + (textL true).length) (xs ++ tailC true)) := ho
    clear ho hg hown HS HZ
    go_wp2
    go_ret
    exact ⟨⟨v', rfl, HO.out⟩, hb1.out⟩
end Go.Proofs.YbulkwmeFmt

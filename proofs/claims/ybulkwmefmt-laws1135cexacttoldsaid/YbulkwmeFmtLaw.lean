/- bytes.Equal (7) on two rows of the call's own, and the law wire.LawS1135CExact (3). -/
import Derived.Test.YbulkwmeFmtRest
namespace Go.Proofs.YbulkwmeFmt
open Go.RowKit Go.Extern.Stop Go.Stop Go.Extern
theorem hid {p : Prop} (h : p) : Hid p := h
def tailI (ok : Bool) : List Int := (textL ok).map fun b => (b.toNat : Int)
theorem tailC_nums (ok : Bool) : tailC ok = nums (tailI ok) := by simp [tailC, nums, tailI]
theorem row_nums (zs : List Int) (ok : Bool) : nums zs ++ tailC ok = nums (zs ++ tailI ok) := by rw [tailC_nums]; simp [nums]

theorem owns_below {w w' : World} {base : Nat} {e : TypeId} {size : Nat} {v : Value} {n : Nat} {xs : List Value} (h : w.ownsRow base e size v n xs) (hb : Below w.heap.size w w') : w'.ownsRow base e size v n xs := by
  refine ⟨h.1, ?_⟩
  rcases h.2 with hn | ⟨g, cap, cur, hv, hg, hh, r⟩
  · exact .inl hn
  · exact .inr ⟨g, cap, cur, hv, hg, by rw [hb.block g (Array.getElem?_eq_some_iff.1 hh).1]; exact hh, r⟩

/-- What 'string(..)' gives of a row of the call's own. -/
theorem conv_row {w : World} {B n : Nat} {v : Value} {zs : List Int} (h : w.ownsRow B 5 1 v n (nums zs)) : (convert 22 9 v).run Ybaf.prog w = .ok (.string (strOfNums zs)) w := by
  have h0 := h
  rcases h.2 with ⟨rfl, rfl⟩ | ⟨g, cap, cur, rfl, _⟩
  · have hz : zs = [] := by simpa [nums] using h0.1
    subst hz
    exact run_convert_bytes_nil w 22 5 Ybaf.underlying22 Ybaf.underlying5 0 0 9 Ybaf.underlying9
  · have hl : zs.length = n := by simpa [nums] using h0.1
    refine run_convert_bytes_arg w 22 5 Ybaf.underlying22 Ybaf.underlying5 g 0 n cap zs hl (fun j hj => ?_) 9 Ybaf.underlying9
    rw [Nat.zero_add, h0.cellAt j (by omega)]
    simp [nums, show j < zs.length by omega]

theorem equal_same (w : World) (B B' n n' : Nat) (v v' : Value) (zs : List Int) (h : w.ownsRow B 5 1 v n (nums zs)) (h' : w.ownsRow B' 5 1 v' n' (nums zs)) :
    Calls Ybaf.prog 7 #[v, v'] w fun e w' => e = .returned (.bool true) ∧ w' = w := by
  have c1 := conv_row h
  have c2 := conv_row h'
  clear h h'
  go_enter Ybaf.func7, Ybaf.ntmps7
  go_wp2
  go_ret
  simp

theorem law_big (ok : Bool) (p : Option Addr) (n c : Nat) (w : World) (hn : 1024 < n) :
    Calls Ybaf.prog 3 #[.slice p n c, .bool ok] w fun e w' => e = .returned (.bool true) ∧ w' = w := by
  have h1 : decide ((1024 : Int) < (n : Int)) = true := by simp; omega
  go_enter Ybaf.func3, Ybaf.ntmps3
  go_wp2
  go_ret
  exact ⟨rfl, rfl⟩

set_option maxRecDepth 100000 in
theorem law_small (F : Interp) (ok : Bool) (p : Option Addr) (n c : Nat) (zs : List Int) (w : World) (hn : n ≤ 1024) (hF : F.told.answers w.tape)
    (hcl : Calls Ybaf.prog 5 #[.slice p n c] w fun e w' => Row w.heap.size n (nums zs) e w' ∧ Below w.heap.size w w')
    (hex : ∀ w1, Below w.heap.size w w1 → Calls Ybaf.prog 8 #[.slice p n c, .bool ok] w1 fun e w' => Row w1.heap.size (n + (textL ok).length) (nums zs ++ tailC ok) e w' ∧ Below w1.heap.size w1 w') :
    Calls Ybaf.prog 3 #[.slice p n c, .bool ok] w fun e w' => e = .returned (.bool true) ∧ Below w.heap.size w w' := by
  have h1 : decide ((1024 : Int) < (n : Int)) = false := by simp; omega
  have HC := hid hcl
  have HX := hid hex
  have HF := hid hF
  clear hcl hex hF
  go_enter Ybaf.func3, Ybaf.ntmps3
  go_wp2_with (go_at_call 5; refine HC.out.mono ?_; rintro e w1 ⟨⟨v1, rfl, ho1⟩, hb1⟩)
  have HO1 := hid ho1
  have HB1 := hid hb1
  clear ho1 hb1
  go_wp2_with (go_at_call 6; refine (vouched_any F ok v1 n w.heap.size (nums zs) w1 HB1.out.size hn HO1.out (by rw [HB1.out.tape]; exact HF.out)).mono ?_; rintro e w2 ⟨⟨v2, rfl, ho2⟩, hb2⟩)
  have HB2 := hid (HB1.out.trans hb2)
  have HO2 := hid ho2
  clear ho2 hb2
  go_wp2_with (go_at_call 8; refine (HX.out w2 HB2.out).mono ?_; rintro e w3 ⟨⟨v3, rfl, ho3⟩, hb3⟩)
  have HO2' := hid (owns_below HO2.out hb3)
  have HB3 := hid (HB2.out.trans (hb3.mono HB2.out.size))
  have HO3 := hid ho3
  clear ho3 hb3
  go_wp2_with (go_at_call 7; refine (equal_same w3 _ _ _ _ v2 v3 (zs ++ tailI ok) (by rw [← row_nums]; exact HO2'.out) (by rw [← row_nums]; exact HO3.out)).mono ?_; rintro e w4 ⟨rfl, rfl⟩)
  go_ret
  exact ⟨rfl, HB3.out⟩

theorem law_nil (F : Interp) (ok : Bool) (w : World) (hF : F.told.answers w.tape) :
    Calls Ybaf.prog 3 #[.slice none 0 0, .bool ok] w fun e w' => e = .returned (.bool true) ∧ Below w.heap.size w w' :=
  law_small F ok none 0 0 [] w (by omega) hF (clone_nil w) fun w1 _ => expect_nil ok w1

theorem law_some (F : Interp) (ok : Bool) (ad : Addr) (n c : Nat) (zs : List Int) (w : World) (hn : n ≤ 1024) (hz : zs.length = n) (hc : ∀ j, j < n → w.cell? (ad.add j) = some (.int .u8 (zs.getD j 0))) (hF : F.told.answers w.tape) :
    Calls Ybaf.prog 3 #[.slice (some ad) n c, .bool ok] w fun e w' => e = .returned (.bool true) ∧ Below w.heap.size w w' :=
  law_small F ok (some ad) n c zs w hn hF (clone_some ad n c zs w hn hz hc) fun w1 hb => expect_some ok ad n c zs w1 hn hz fun j hj => by
    rw [hb.cell (World.block_lt_of_cell? w _ (hc j hj))]; exact hc j hj
end Go.Proofs.YbulkwmeFmt

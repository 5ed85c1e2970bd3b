/- slices.Clone (5), wire.zzs1135cexpect (8), bytes.Equal (7). -/
import Derived.Test.YbulkwmeFmtVouched
import Derived.Laws.AppendOwnNone
import Derived.Laws.BytesArg
namespace Go.Proofs.YbulkwmeFmt
open Go.RowKit
def nums (zs : List Int) : List Value := zs.map (Value.int .u8)

/-- A row of n bytes that the call owns from B on. -/
def Row (B n : Nat) (xs : List Value) (e : Ending) (w' : World) : Prop := ∃ v', e = .returned v' ∧ w'.ownsRow B 5 1 v' n xs

theorem lit_new (W : World) (L : List Value) (t : TypeId) : ∀ (j : Nat) (u : Value), L[j]? = some u → (W.alloc (.cells L.toArray t)).cell? ((⟨W.heap.size, 0, none⟩ : Addr).add j) = some u := by
  intro j u hj
  have e : (⟨W.heap.size, 0, none⟩ : Addr).add j = ⟨W.heap.size, j, none⟩ := by unfold Addr.add; split <;> simp_all
  rw [e, World.cell?_alloc_at _ _ _ _ rfl]
  simpa using hj
theorem nums_one (zs : List Int) : ∀ u ∈ nums zs, u.oneCell' = true := by
  intro u hu
  simp [nums] at hu
  obtain ⟨_, _, rfl⟩ := hu
  rfl

theorem clone_nil (w : World) : Calls Ybaf.prog 5 #[.slice none 0 0] w fun e w' => Row w.heap.size 0 [] e w' ∧ Below w.heap.size w w' := by
  have hn := fun wx => Lib.run_eql_slice_nil (P := Ybaf.prog) wx 22 5 none 0 0 0 0 Ybaf.underlying22
  go_enter Ybaf.func5, Ybaf.ntmps5
  go_wp2
  go_ret
  exact ⟨⟨_, rfl, World.ownsRow_nil _ _ _ _⟩, Below.refl _ _⟩

theorem clone_some (ad : Addr) (n c : Nat) (zs : List Int) (w : World) (hn : n ≤ 1024) (hz : zs.length = n) (hc : ∀ j, j < n → w.cell? (ad.add j) = some (.int .u8 (zs.getD j 0))) :
    Calls Ybaf.prog 5 #[.slice (some ad) n c] w fun e w' => Row w.heap.size n (nums zs) e w' ∧ Below w.heap.size w w' := by
  obtain ⟨i, hi, hz0, hz1, hz2⟩ := info_parts info5
  have hnl := fun wx => Lib.run_eql_slice_nil (P := Ybaf.prog) wx 22 5 (some ad) n c 0 0 Ybaf.underlying22
  go_enter Ybaf.func5, Ybaf.ntmps5
  go_wp2_with (at_builtin; refine wpList_append_own _ rfl (.tmp 5) (.tmp 6) 22 rfl w.heap.size 5 i (.int .u8 0) 1 1 Ybaf.underlying22 hi hz0 hz1 hz2 rfl (by decide) (.slice (some ⟨w.heap.size, 0, none⟩) 0 0) 0 [] rfl ?own ad n c (nums zs) rfl ?len ?news ?one ?mx ?hb ?base ?_)
  case own => exact ⟨rfl, Or.inr ⟨w.heap.size, 0, #[], rfl, Nat.le_refl _, by show (w.heap.push _)[w.heap.size]? = _; simp, Nat.le_refl _, Nat.zero_le _, rfl, rfl⟩⟩
  case len => simp [nums, hz]
  case news =>
    intro j u hj
    simp [nums] at hj
    obtain ⟨x, hx, rfl⟩ := hj
    have hjl : j < n := by have := (List.getElem?_eq_some_iff.1 hx).1; omega
    have hlt := World.block_lt_of_cell? w _ (hc j hjl)
    rw [World.cell?_alloc_lt _ _ _ hlt, hc j hjl]
    simp [hx]
  case one => exact nums_one zs
  case mx => unfold maxLen; omega
  case hb => omega
  case base => simp
  intro v' w1 ho hg _
  have hb1 : Hid (Below w.heap.size w w1) := ((Below.refl _ w).alloc (Nat.le_refl _) _).grown hg (by simp) (fun k hk => by simp [Value.ownBlock] at hk; omega)
  have ho2 : w1.ownsRow w.heap.size 5 1 v' n (nums zs) := by simpa using ho
  have HO : Hid (w1.ownsRow w.heap.size 5 1 v' n (nums zs)) := ho2
  clear ho2
  clear ho hg
  go_wp2
  go_ret
  exact ⟨⟨v', rfl, HO.out⟩, hb1.out⟩

theorem emake (n : Nat) (hn : n ≤ 1024) : ∀ w : World, (Instr.makeSlice 22 (.int .i64 0) (.int .i64 ((n : Int) + 16))).run Ybaf.prog w = .ok (.slice (some ⟨w.heap.size, 0, none⟩) 0 (n + 16)) (w.alloc (.cells (madeCells #[.int .u8 0] (n + 16)) 5)) := by
  intro w
  obtain ⟨i, hi, h0, h1, h2⟩ := info_parts info5
  have hr := run_make (P := Ybaf.prog) w 22 5 i (.int .u8 0) Ybaf.underlying22 hi h0 .i64 .i64 0 ((n : Int) + 16) (by omega) (by omega) (by rw [h2]; omega) (by omega)
  rw [hr, h1, show ((n : Int) + 16).toNat = n + 16 by omega]
  simp [Value.cells]

theorem own_made (w : World) (n : Nat) (hn : n ≤ 1024) : (w.alloc (.cells (madeCells #[.int .u8 0] (n + 16)) 5)).ownsRow w.heap.size 5 1 (.slice (some ⟨w.heap.size, 0, none⟩) 0 (n + 16)) 0 [] :=
  World.ownsRow_made w _ _ (Nat.le_refl _) (by unfold maxLen; omega) (by rw [size_madeCells]; omega)

/-- Behind the first append: the rest of zzs1135cexpect writes the text. -/
def litV : List Value := [.int .u8 118, .int .u8 111, .int .u8 117, .int .u8 99, .int .u8 104, .int .u8 101, .int .u8 100, .int .u8 32]
def litA (ok : Bool) : List Value := if ok then [.int .u8 121, .int .u8 101, .int .u8 115] else [.int .u8 110, .int .u8 111]
theorem tail_lits (ok : Bool) : litV ++ litA ok ++ [.int .u8 10] = tailC ok := by cases ok <;> rfl
theorem tail_len (ok : Bool) : 8 + (litA ok).length + 1 = (textL ok).length := by cases ok <;> rfl

theorem litV_one : ∀ u ∈ litV, u.oneCell' = true := by
  intro u hu
  simp [litV] at hu
  rcases hu with rfl | rfl | rfl | rfl | rfl | rfl | rfl | rfl <;> rfl
theorem litA_one (ok : Bool) : ∀ u ∈ litA ok, u.oneCell' = true := by
  intro u hu
  cases ok <;> simp [litA] at hu
  · rcases hu with rfl | rfl <;> rfl
  · rcases hu with rfl | rfl | rfl <;> rfl

set_option maxRecDepth 100000 in
set_option maxHeartbeats 1600000 in
theorem expect_some (ok : Bool) (ad : Addr) (n c : Nat) (zs : List Int) (w : World) (hn : n ≤ 1024) (hz : zs.length = n) (hc : ∀ j, j < n → w.cell? (ad.add j) = some (.int .u8 (zs.getD j 0))) :
    Calls Ybaf.prog 8 #[.slice (some ad) n c, .bool ok] w fun e w' => Row w.heap.size (n + (textL ok).length) (nums zs ++ tailC ok) e w' ∧ Below w.heap.size w w' := by
  obtain ⟨i, hi, hz0, hz1, hz2⟩ := info_parts info5
  have mk := emake n hn
  have hn' : (n : Int) ≤ 1024 := by omega
  go_enter Ybaf.func8, Ybaf.ntmps8
  go_wp2_with (at_builtin; refine wpList_append_own _ rfl (.tmp 10) (.tmp 11) 22 rfl w.heap.size 5 i (.int .u8 0) 1 1 Ybaf.underlying22 hi hz0 hz1 hz2 rfl (by decide) _ 0 [] rfl (own_made w n hn) ad n c (nums zs) rfl ?len ?news ?one ?mx ?hb ?base ?_)
  case len => simp [nums, hz]
  case news =>
    intro j u hj
    simp [nums] at hj
    obtain ⟨x, hx, rfl⟩ := hj
    have hjl : j < n := by have := (List.getElem?_eq_some_iff.1 hx).1; omega
    have hlt := World.block_lt_of_cell? w _ (hc j hjl)
    rw [World.cell?_alloc_lt _ _ _ hlt, hc j hjl]
    simp [hx]
  case one => exact nums_one zs
  case mx => unfold maxLen; omega
  case hb => omega
  case base => simp
  intro v1 w1 ho1 hg1 _
  have hb1 : Below w.heap.size w w1 := ((Below.refl _ w).alloc (Nat.le_refl _) _).grown hg1 (by simp) (fun k hk => by simp [Value.ownBlock] at hk; omega)
  have ho1' : w1.ownsRow w.heap.size 5 1 v1 n (nums zs) := by simpa using ho1
  clear ho1 hg1 mk hc
  have hs1 := hb1.size
  cases ok
  · go_wp2_with (at_builtin; refine wpList_append_own _ rfl (.tmp 13) (.tmp 14) 22 rfl w.heap.size 5 i (.int .u8 0) 1 1 Ybaf.underlying22 hi hz0 hz1 hz2 rfl (by decide) _ n (nums zs) rfl (ho1'.alloc _) ⟨w1.heap.size, 0, none⟩ 8 8 litV rfl rfl ?a1 ?a2 ?a3 ?a4 ?a5 ?_)
    case a1 => exact lit_new w1 litV 5
    case a2 => exact litV_one
    case a3 => unfold maxLen; omega
    case a4 => omega
    case a5 => simp; omega
    intro v2 w2 ho2 hg2 _
    have hb2 : Below w.heap.size w w2 := (hb1.alloc hs1 _).grown hg2 (by simp; omega) (fun k hk => (ho1'.lt k hk).1)
    have hs2 := hb2.size
    clear hg2 ho1' hb1 hs1
    go_wp2_with (at_builtin; refine wpList_append_own _ rfl (.tmp 20) (.tmp 21) 22 rfl w.heap.size 5 i (.int .u8 0) 1 1 Ybaf.underlying22 hi hz0 hz1 hz2 rfl (by decide) _ (n + 8) (nums zs ++ litV) rfl (ho2.alloc _) ⟨w2.heap.size, 0, none⟩ 2 2 (litA false) rfl rfl ?b1 ?b2 ?b3 ?b4 ?b5 ?_)
    case b1 => exact lit_new w2 (litA false) 5
    case b2 => exact litA_one false
    case b3 => unfold maxLen; omega
    case b4 => omega
    case b5 => simp; omega
    intro v3 w3 ho3 hg3 _
    have hb3 : Below w.heap.size w w3 := (hb2.alloc hs2 _).grown hg3 (by simp; omega) (fun k hk => (ho2.lt k hk).1)
    have hs3 := hb3.size
    clear hg3 ho2 hb2 hs2
    go_wp2_with (at_builtin; refine wpList_append_own _ rfl (.tmp 23) (.tmp 24) 22 rfl w.heap.size 5 i (.int .u8 0) 1 1 Ybaf.underlying22 hi hz0 hz1 hz2 rfl (by decide) _ (n + 8 + 2) _ rfl (ho3.alloc _) ⟨w3.heap.size, 0, none⟩ 1 1 [.int .u8 10] rfl rfl ?d1 ?d2 ?d3 ?d4 ?d5 ?_)
    case d1 => exact lit_new w3 [.int .u8 10] 5
    case d2 => intro u hu; simp at hu; subst hu; rfl
    case d3 => unfold maxLen; omega
    case d4 => omega
    case d5 => simp; omega
    intro v4 w4 ho4 hg4 _
    have hb4 : Hid (Below w.heap.size w w4) := (hb3.alloc hs3 _).grown hg4 (by simp; omega) (fun k hk => (ho3.lt k hk).1)
    have ho5 : w4.ownsRow w.heap.size 5 1 v4 (n + (textL false).length) (nums zs ++ tailC false) := by
      rw [← tail_lits false]
      simp only [List.append_assoc] at ho4 ⊢
      exact ho4
    have HO : Hid (w4.ownsRow w.heap.size 5 1 v4 (n + (textL false).length) (nums zs ++ tailC false)) := ho5
    clear ho5
    clear ho4 hg4 ho3 hb3 hs3
    go_wp2
    go_ret
    exact ⟨⟨v4, rfl, HO.out⟩, hb4.out⟩
  · go_wp2_with (at_builtin; refine wpList_append_own _ rfl (.tmp 13) (.tmp 14) 22 rfl w.heap.size 5 i (.int .u8 0) 1 1 Ybaf.underlying22 hi hz0 hz1 hz2 rfl (by decide) _ n (nums zs) rfl (ho1'.alloc _) ⟨w1.heap.size, 0, none⟩ 8 8 litV rfl rfl ?a1 ?a2 ?a3 ?a4 ?a5 ?_)
    case a1 => exact lit_new w1 litV 5
    case a2 => exact litV_one
    case a3 => unfold maxLen; omega
    case a4 => omega
    case a5 => simp; omega
    intro v2 w2 ho2 hg2 _
    have hb2 : Below w.heap.size w w2 := (hb1.alloc hs1 _).grown hg2 (by simp; omega) (fun k hk => (ho1'.lt k hk).1)
    have hs2 := hb2.size
    clear hg2 ho1' hb1 hs1
    go_wp2_with (at_builtin; refine wpList_append_own _ rfl (.tmp 17) (.tmp 18) 22 rfl w.heap.size 5 i (.int .u8 0) 1 1 Ybaf.underlying22 hi hz0 hz1 hz2 rfl (by decide) _ (n + 8) (nums zs ++ litV) rfl (ho2.alloc _) ⟨w2.heap.size, 0, none⟩ 3 3 (litA true) rfl rfl ?b1 ?b2 ?b3 ?b4 ?b5 ?_)
    case b1 => exact lit_new w2 (litA true) 5
    case b2 => exact litA_one true
    case b3 => unfold maxLen; omega
    case b4 => omega
    case b5 => simp; omega
    intro v3 w3 ho3 hg3 _
    have hb3 : Below w.heap.size w w3 := (hb2.alloc hs2 _).grown hg3 (by simp; omega) (fun k hk => (ho2.lt k hk).1)
    have hs3 := hb3.size
    clear hg3 ho2 hb2 hs2
    go_wp2_with (at_builtin; refine wpList_append_own _ rfl (.tmp 23) (.tmp 24) 22 rfl w.heap.size 5 i (.int .u8 0) 1 1 Ybaf.underlying22 hi hz0 hz1 hz2 rfl (by decide) _ (n + 8 + 3) _ rfl (ho3.alloc _) ⟨w3.heap.size, 0, none⟩ 1 1 [.int .u8 10] rfl rfl ?d1 ?d2 ?d3 ?d4 ?d5 ?_)
    case d1 => exact lit_new w3 [.int .u8 10] 5
    case d2 => intro u hu; simp at hu; subst hu; rfl
    case d3 => unfold maxLen; omega
    case d4 => omega
    case d5 => simp; omega
    intro v4 w4 ho4 hg4 _
    have hb4 : Hid (Below w.heap.size w w4) := (hb3.alloc hs3 _).grown hg4 (by simp; omega) (fun k hk => (ho3.lt k hk).1)
    have ho5 : w4.ownsRow w.heap.size 5 1 v4 (n + (textL true).length) (nums zs ++ tailC true) := by
      rw [← tail_lits true]
      simp only [List.append_assoc] at ho4 ⊢
      exact ho4
    have HO : Hid (w4.ownsRow w.heap.size 5 1 v4 (n + (textL true).length) (nums zs ++ tailC true)) := ho5
    clear ho5
    clear ho4 hg4 ho3 hb3 hs3
    go_wp2
    go_ret
    exact ⟨⟨v4, rfl, HO.out⟩, hb4.out⟩

/-- append(buf, nil...), buf the call's own: the world afterwards is kept abstract. -/
theorem append_none_abs {P : Program} {w0 w : World} {ops : Array Oper} {rest : List Oper} {o : Oper} {a : Act} {Q : Exit → Act → World → Prop} (hgd : o.guard = none) (s x : Operand) (t : TypeId)
    (ho : o.op = .call { callee := .builtin .append, args := #[s, x], argTypes := #[t, t] })
    (base : Nat) (e : TypeId) (i : TypeInfo) (size : Nat) (ht : P.underlying t = some (.slice e)) (hi : P.info? e = some i)
    (v : Value) (n : Nat) (xs : List Value) (hs : a.eval s = v) (hown : w.ownsRow base e size v n xs) (hx : a.eval x = .slice none 0 0) (hb : Below base w0 w)
    (h : ∀ v' w', w'.ownsRow base e size v' n xs → Below base w0 w' → wpList P ops Q rest (a.put o.dst v') w') : wpList P ops Q (o :: rest) a w :=
  wpList_append_own_none hgd s x t ho base e i size ht hi v n xs hs hown hx (h _ _ hown hb)

set_option maxRecDepth 100000 in
set_option maxHeartbeats 1600000 in
theorem expect_nil (ok : Bool) (w : World) :
    Calls Ybaf.prog 8 #[.slice none 0 0, .bool ok] w fun e w' => Row w.heap.size (0 + (textL ok).length) (nums [] ++ tailC ok) e w' ∧ Below w.heap.size w w' := by
  obtain ⟨i, hi, hz0, hz1, hz2⟩ := info_parts info5
  have mk : ∀ w : World, (Instr.makeSlice 22 (.int .i64 0) (.int .i64 16)).run Ybaf.prog w = .ok (.slice (some ⟨w.heap.size, 0, none⟩) 0 (0 + 16)) (w.alloc (.cells (madeCells #[.int .u8 0] (0 + 16)) 5)) := fun w => emake 0 (by omega) w
  go_enter Ybaf.func8, Ybaf.ntmps8
  go_wp2_with (at_builtin; refine append_none_abs (w0 := w) rfl (.tmp 10) (.tmp 11) 22 rfl w.heap.size 5 i 1 Ybaf.underlying22 hi _ 0 (nums []) rfl (own_made w 0 (by omega)) rfl ((Below.refl _ w).alloc (Nat.le_refl _) _) ?_)
  intro v1 w1 ho1' hb1
  clear mk
  have hs1 := hb1.size
  cases ok
  · go_wp2_with (at_builtin; refine wpList_append_own _ rfl (.tmp 13) (.tmp 14) 22 rfl w.heap.size 5 i (.int .u8 0) 1 1 Ybaf.underlying22 hi hz0 hz1 hz2 rfl (by decide) _ 0 (nums []) rfl (ho1'.alloc _) ⟨w1.heap.size, 0, none⟩ 8 8 litV rfl rfl ?a1 ?a2 ?a3 ?a4 ?a5 ?_)
    case a1 => exact lit_new w1 litV 5
    case a2 => exact litV_one
    case a3 => unfold maxLen; omega
    case a4 => omega
    case a5 => simp; omega
    intro v2 w2 ho2 hg2 _
    have hb2 : Below w.heap.size w w2 := (hb1.alloc hs1 _).grown hg2 (by simp; omega) (fun k hk => (ho1'.lt k hk).1)
    have hs2 := hb2.size
    clear hg2 ho1' hb1 hs1
    go_wp2_with (at_builtin; refine wpList_append_own _ rfl (.tmp 20) (.tmp 21) 22 rfl w.heap.size 5 i (.int .u8 0) 1 1 Ybaf.underlying22 hi hz0 hz1 hz2 rfl (by decide) _ (0 + 8) (nums [] ++ litV) rfl (ho2.alloc _) ⟨w2.heap.size, 0, none⟩ 2 2 (litA false) rfl rfl ?b1 ?b2 ?b3 ?b4 ?b5 ?_)
    case b1 => exact lit_new w2 (litA false) 5
    case b2 => exact litA_one false
    case b3 => unfold maxLen; omega
    case b4 => omega
    case b5 => simp; omega
    intro v3 w3 ho3 hg3 _
    have hb3 : Below w.heap.size w w3 := (hb2.alloc hs2 _).grown hg3 (by simp; omega) (fun k hk => (ho2.lt k hk).1)
    have hs3 := hb3.size
    clear hg3 ho2 hb2 hs2
    go_wp2_with (at_builtin; refine wpList_append_own _ rfl (.tmp 23) (.tmp 24) 22 rfl w.heap.size 5 i (.int .u8 0) 1 1 Ybaf.underlying22 hi hz0 hz1 hz2 rfl (by decide) _ (0 + 8 + 2) _ rfl (ho3.alloc _) ⟨w3.heap.size, 0, none⟩ 1 1 [.int .u8 10] rfl rfl ?d1 ?d2 ?d3 ?d4 ?d5 ?_)
    case d1 => exact lit_new w3 [.int .u8 10] 5
    case d2 => intro u hu; simp at hu; subst hu; rfl
    case d3 => unfold maxLen; omega
    case d4 => omega
    case d5 => simp; omega
    intro v4 w4 ho4 hg4 _
    have hb4 : Hid (Below w.heap.size w w4) := (hb3.alloc hs3 _).grown hg4 (by simp; omega) (fun k hk => (ho3.lt k hk).1)
    have ho5 : w4.ownsRow w.heap.size 5 1 v4 (0 + (textL false).length) (nums [] ++ tailC false) := by
      rw [← tail_lits false]
      simp only [List.append_assoc] at ho4 ⊢
      exact ho4
    have HO : Hid (w4.ownsRow w.heap.size 5 1 v4 (0 + (textL false).length) (nums [] ++ tailC false)) := ho5
    clear ho5
    clear ho4 hg4 ho3 hb3 hs3
    go_wp2
    go_ret
    exact ⟨⟨v4, rfl, HO.out⟩, hb4.out⟩
  · go_wp2_with (at_builtin; refine wpList_append_own _ rfl (.tmp 13) (.tmp 14) 22 rfl w.heap.size 5 i (.int .u8 0) 1 1 Ybaf.underlying22 hi hz0 hz1 hz2 rfl (by decide) _ 0 (nums []) rfl (ho1'.alloc _) ⟨w1.heap.size, 0, none⟩ 8 8 litV rfl rfl ?a1 ?a2 ?a3 ?a4 ?a5 ?_)
    case a1 => exact lit_new w1 litV 5
    case a2 => exact litV_one
    case a3 => unfold maxLen; omega
    case a4 => omega
    case a5 => simp; omega
    intro v2 w2 ho2 hg2 _
    have hb2 : Below w.heap.size w w2 := (hb1.alloc hs1 _).grown hg2 (by simp; omega) (fun k hk => (ho1'.lt k hk).1)
    have hs2 := hb2.size
    clear hg2 ho1' hb1 hs1
    go_wp2_with (at_builtin; refine wpList_append_own _ rfl (.tmp 17) (.tmp 18) 22 rfl w.heap.size 5 i (.int .u8 0) 1 1 Ybaf.underlying22 hi hz0 hz1 hz2 rfl (by decide) _ (0 + 8) (nums [] ++ litV) rfl (ho2.alloc _) ⟨w2.heap.size, 0, none⟩ 3 3 (litA true) rfl rfl ?b1 ?b2 ?b3 ?b4 ?b5 ?_)
    case b1 => exact lit_new w2 (litA true) 5
    case b2 => exact litA_one true
    case b3 => unfold maxLen; omega
    case b4 => omega
    case b5 => simp; omega
    intro v3 w3 ho3 hg3 _
    have hb3 : Below w.heap.size w w3 := (hb2.alloc hs2 _).grown hg3 (by simp; omega) (fun k hk => (ho2.lt k hk).1)
    have hs3 := hb3.size
    clear hg3 ho2 hb2 hs2
    go_wp2_with (at_builtin; refine wpList_append_own _ rfl (.tmp 23) (.tmp 24) 22 rfl w.heap.size 5 i (.int .u8 0) 1 1 Ybaf.underlying22 hi hz0 hz1 hz2 rfl (by decide) _ (0 + 8 + 3) _ rfl (ho3.alloc _) ⟨w3.heap.size, 0, none⟩ 1 1 [.int .u8 10] rfl rfl ?d1 ?d2 ?d3 ?d4 ?d5 ?_)
    case d1 => exact lit_new w3 [.int .u8 10] 5
    case d2 => intro u hu; simp at hu; subst hu; rfl
    case d3 => unfold maxLen; omega
    case d4 => omega
    case d5 => simp; omega
    intro v4 w4 ho4 hg4 _
    have hb4 : Hid (Below w.heap.size w w4) := (hb3.alloc hs3 _).grown hg4 (by simp; omega) (fun k hk => (ho3.lt k hk).1)
    have ho5 : w4.ownsRow w.heap.size 5 1 v4 (0 + (textL true).length) (nums [] ++ tailC true) := by
      rw [← tail_lits true]
      simp only [List.append_assoc] at ho4 ⊢
      exact ho4
    have HO : Hid (w4.ownsRow w.heap.size 5 1 v4 (0 + (textL true).length) (nums [] ++ tailC true)) := ho5
    clear ho5
    clear ho4 hg4 ho3 hb3 hs3
    go_wp2
    go_ret
    exact ⟨⟨v4, rfl, HO.out⟩, hb4.out⟩
end Go.Proofs.YbulkwmeFmt

import Derived.Test.YbulkwlqAid
import Derived.Test.YbulkwlqRest
import Derived.RegionTactic
import Derived.BigRegion
import Derived.Deep.QuietTactic
import Derived.BigQuiet
namespace Go.Proofs.Ybulkwlq
open Go.RowKit
theorem info9 : (Yba.prog.info? 9).map (fun i => (i.zero, i.size, i.bytes)) = some (some (.string ⟨#[]⟩), 1, 16) := by kernel_rfl
theorem info3 : (Yba.prog.info? 3).map (fun i => (i.zero, i.size, i.bytes)) = some (some (.int .i64 0), 1, 8) := by kernel_rfl
theorem info52 : (Yba.prog.info? 52).map (fun i => (i.zero, i.size, i.bytes)) = some (some (.agg #[.pointer none, .pointer none]), 2, 16) := by kernel_rfl
theorem info60 : (Yba.prog.info? 60).map (fun i => (i.zero, i.size, i.bytes)) = some (some (.float .f64 0), 1, 8) := by kernel_rfl
theorem hid {p : Prop} (h : p) : Hid p := h
attribute [local go_sem] run_store_float
theorem owns_slice {w : World} {base : Nat} {e : TypeId} {size : Nat} {v : Value} {n : Nat} {xs : List Value} (h : w.ownsRow base e size v n xs) : ∃ a l c, v = .slice a l c := by
  rcases h.2 with ⟨h, _⟩ | ⟨g, cap, cur, h, _⟩
  · exact ⟨_, _, _, h⟩
  · exact ⟨_, _, _, h⟩
theorem heap_new (w : World) (o : Obj) : (w.alloc o).heap[w.heap.size]? = some o := by
  show (w.heap.push o)[w.heap.size]? = some o
  simp

theorem one_new (W : World) (v : Value) (t : TypeId) : ∀ (j : Nat) (u : Value), [v][j]? = some u → (W.alloc (.cells #[v] t)).cell? ((⟨W.heap.size, 0, none⟩ : Addr).add j) = some u := by
  intro j u hj
  match j, hj with
  | 0, hj => simp at hj; subst hj; simp [Addr.add]

theorem two_new (W : World) (b : Nat) (v u : Value) (t : TypeId) (hb : b = W.heap.size) : ∀ (j : Nat) (x : Value), [v, u][j]? = some x → (W.alloc (.cells #[v, u] t)).cell? ((⟨b, 0, none⟩ : Addr).add j) = some x := by
  intro j x hj
  subst hb
  match j, hj with
  | 0, hj => simp at hj; subst hj; simp [Addr.add]
  | 1, hj => simp at hj; subst hj; simp [Addr.add]
theorem row_cells {W : World} {b : Nat} {L : List Value} {t : TypeId} {fr : Nat × Nat} (h : W.heap[b]? = some (.cells L.toArray t fr)) : ∀ (j : Nat) (u : Value), L[j]? = some u → W.cell? ((⟨b, 0, none⟩ : Addr).add j) = some u := by
  intro j u hj
  have e : (⟨b, 0, none⟩ : Addr).add j = ⟨b, j, none⟩ := by unfold Addr.add; split <;> simp_all
  rw [e, cell_of_row W b j _ t fr h]
  simpa using hj
theorem strC_one (S : Nat → ByteArray) (a n : Nat) : ∀ u ∈ strC S a n, u.oneCell' = true := by
  intro u hu
  simp [strC] at hu
  obtain ⟨_, _, rfl⟩ := hu
  rfl
/-- A segment that bears ids alone. -/
def segO (I n : Nat) : Obj := .cells #[.string ⟨#[]⟩, .int .i64 0, .slice (some ⟨I, 0, none⟩) n n, .slice none 0 0, .slice none 0 0, .slice none 0 0, .int .u32 0, .int .i32 0, .int .u32 0, .map none] 49

def szf (a : Nat → Nat) (i : Nat) : Nat := a i % 6
def bsum (z : Nat → Nat) : Nat → Nat
  | 0 => 0
  | k + 1 => bsum z k + z k
theorem bsum_le (a : Nat → Nat) : ∀ k, bsum (szf a) k ≤ 5 * k
  | 0 => Nat.le_refl _
  | k + 1 => by
    have := bsum_le a k
    have h : szf a k < 6 := Nat.mod_lt _ (by omega)
    show bsum (szf a) k + szf a k ≤ 5 * (k + 1)
    omega
theorem bsum_mono (z : Nat → Nat) : ∀ i j, i ≤ j → bsum z i ≤ bsum z j := by
  intro i j h
  induction j with
  | zero => have : i = 0 := by omega
            subst this; exact Nat.le_refl _
  | succ j ih =>
    by_cases e : i = j + 1
    · subst e; exact Nat.le_refl _
    · have := ih (by omega)
      show bsum z i ≤ bsum z j + z j
      omega
theorem bsum_step (z : Nat → Nat) (i k : Nat) (h : i < k) : bsum z i + z i ≤ bsum z k := bsum_mono z (i + 1) k h

/-- The head of round k of the first loop. -/
def L1 (w : World) (a : Nat → Nat) (k : Nat) (v7 v8 v9 : Value) (W : World) : Prop :=
  ∃ (sb ib : Nat → Nat) (S : Nat → ByteArray), LX w (bsum (szf a)) (szf a) k k sb ib S k k (bsum (szf a) k) (segC sb k) (baseC (bsum (szf a)) k) (strC S 0 (bsum (szf a) k)) v7 v8 v9 W

/-- Out of what the first loop laid: the snapshot as its readers read it, and the list of all ids. -/
theorem snap_of {w : World} {a : Nat → Nat} {n : Nat} {sb ib : Nat → Nat} {S : Nat → ByteArray} {gs gb ga cS cB cA : Nat} {W : World} {C : Array Value} {t : TypeId}
    (X : LX w (bsum (szf a)) (szf a) n n sb ib S n n (bsum (szf a) n) (segC sb n) (baseC (bsum (szf a)) n) (strC S 0 (bsum (szf a) n)) (.slice (some ⟨gs, 0, none⟩) n cS) (.slice (some ⟨gb, 0, none⟩) n cB) (.slice (some ⟨ga, 0, none⟩) (bsum (szf a) n) cA) W)
    (h1 : C[1]? = some (.slice (some ⟨gs, 0, none⟩) n cS)) (h2 : C[2]? = some (.slice (some ⟨gb, 0, none⟩) n cB)) :
    Snap W.heap.size gs gb n cS cB (bsum (szf a)) (szf a) sb ib S (W.alloc (.cells C t)) ∧ (∀ q, q < bsum (szf a) n → (W.alloc (.cells C t)).cell? ⟨ga, q, none⟩ = some (.string (S q))) := by
  have Y := X.later (below_alloc W (.cells C t))
  refine ⟨⟨?_, ?_, ?_, ?_, ?_, ?_⟩, ?_⟩
  · rw [World.cell?_alloc_at _ _ _ _ rfl]; exact h1
  · rw [World.cell?_alloc_at _ _ _ _ rfl]; exact h2
  · intro i hi
    rw [Y.bas.cellAt i (by omega)]; exact baseC_get _ _ _ hi
  · intro i hi
    rw [Y.segs.cellAt (i * 2) (by omega)]; exact segC_get _ _ _ hi
  · intro i hi
    obtain ⟨D, d1, d2⟩ := Y.box i hi
    rw [cell_of_row _ _ _ _ _ _ d1]; exact d2
  · intro i hi j hj
    rw [cell_of_row _ _ _ _ _ _ (Y.ids i hi).1]
    have := strC_get S (bsum (szf a) i) (szf a i) j hj
    simpa using this
  · intro q hq
    rw [Y.all.cellAt q (by omega), strC_get _ _ _ _ hq, Nat.zero_add]

set_option maxRecDepth 100000 in
set_option maxHeartbeats 1600000 in
theorem law_in (xi xp xs : Option Addr) (n ci np cp ns cs : Nat) (a p : Nat → Nat) (f : Nat → Nat) (w : World) (hn : n ≤ 256) (hnp : np ≤ 1024) (hns : ns ≤ 1024)
    (ha : ∀ i, i < n → ∃ b o, xi = some ⟨b, o, none⟩ ∧ b < w.heap.size ∧ w.cell? ⟨b, o + i, none⟩ = some (.int .u8 (a i : Int)) ∧ a i ≤ 255)
    (hp : ∀ i, i < np → ∃ b o, xp = some ⟨b, o, none⟩ ∧ b < w.heap.size ∧ w.cell? ⟨b, o + i, none⟩ = some (.int .u16 (p i : Int)) ∧ p i ≤ 65535)
    (hf : ∀ i, i < ns → ∃ b o, xs = some ⟨b, o, none⟩ ∧ b < w.heap.size ∧ w.cell? ⟨b, o + i, none⟩ = some (.float .f64 (f i))) :
    Calls Yba.prog 3 #[.slice xi n ci, .slice xp np cp, .slice xs ns cs] w fun e w' => e = .returned (.bool true) ∧ Below w.heap.size w w' := by
  obtain ⟨i3, hi3, h30, h31, h32⟩ := info_parts info3
  obtain ⟨i9, hi9, h90, h91, h92⟩ := info_parts info9
  obtain ⟨i52, hi52, h520, h521, h522⟩ := info_parts info52
  have hn' : (n : Int) ≤ 256 := by omega
  have hnp' : (np : Int) ≤ 1024 := by omega
  have hns' : (ns : Int) ≤ 1024 := by omega
  have d1 : decide ((256 : Int) < (n : Int)) = false := by simp; omega
  have d2 : decide ((1024 : Int) < (np : Int)) = false := by simp; omega
  have d3 : decide ((1024 : Int) < (ns : Int)) = false := by simp; omega
  go_enter Yba.func3, Yba.ntmps3
  go_wp2
  go_loopw [7, 8, 9, 10, 12, 13, 14, 15, 37] (fun v7 v8 v9 t _ _ _ _ i wr => ∃ k : Nat, k ≤ n ∧ i = .int .i64 k ∧ t = .int .i64 (bsum (szf a) k : Int) ∧ L1 w a k v7 v8 v9 wr) (fun _ _ _ _ _ _ _ _ i _ => n - (intOf i).toNat)
  case atStart => exact ⟨0, Nat.zero_le _, rfl, rfl, fun _ => 0, fun _ => 0, fun _ => ByteArray.empty, Below.refl _ _, World.ownsRow_nil _ _ _ _, World.ownsRow_nil _ _ _ _, World.ownsRow_nil _ _ _ _, fun i hi => by omega, fun i hi => by omega⟩
  case round =>
    obtain ⟨k, hk, rfl, rfl, L⟩ := hrel
    by_cases hlt : k < n
    · obtain ⟨b, o, rfl, hbw, hc, hak⟩ := ha k hlt
      obtain ⟨sb, ib, S, X⟩ := L
      have hc' := (X.bel.cell (p := ⟨b, o + k, none⟩) hbw).trans hc
      have hsz := X.bel.size
      have hbk := bsum_le a k
      have hz6 : szf a k < 6 := Nat.mod_lt _ (by omega)
      have em : (a k : Int) % 6 = (szf a k : Int) := by unfold szf; omega
      have HX : Hid (LX w (bsum (szf a)) (szf a) k k sb ib S k k (bsum (szf a) k) (segC sb k) (baseC (bsum (szf a)) k) (strC S 0 (bsum (szf a) k)) u7 u8 u9 wr) := X
      have mk := make_any (t := 27) (by exact Yba.underlying27) info9 (szf a k) (by omega) (by omega)
      clear ha hp hf hc X
      go_wp2
      clear em
      rename World => W0
      go_loopw [15] (fun q wx => ∃ (j : Nat) (s : Nat → ByteArray) (C : Array Value), j ≤ szf a k ∧ q = .int .i64 j ∧ Below W0.heap.size W0 wx ∧ W0.heap.size < wx.heap.size ∧ wx.heap[W0.heap.size]? = some (.cells C 9 (0, 0)) ∧ C.size = szf a k ∧ ∀ q, q < j → C[q]? = some (.string (s q))) (fun q _ => szf a k - (intOf q).toNat)
      case atStart => exact ⟨0, fun _ => ByteArray.empty, _, Nat.zero_le _, rfl, below_alloc W0 _, by simp, heap_new W0 _, size_madeCells _ _, fun q hq => by omega⟩
      case round =>
        clear mk
        obtain ⟨j, s, C, hj, rfl, hb, hI, hC, hCs, hCg⟩ := hrel
        by_cases hjl : j < szf a k
        · have HB : Hid (Below W0.heap.size W0 wr) := hb
          have HC : Hid (wr.heap[W0.heap.size]? = some (.cells C 9 (0, 0))) := hC
          have HG : Hid (∀ q, q < j → C[q]? = some (.string (s q))) := hCg
          clear hb hC hCg
          go_wp2_with fail
          rw [show ((bsum (szf a) k : Int) + (j : Int)) = ((bsum (szf a) k + j : Nat) : Int) from by omega]
          refine (aid_any _ _ (by omega)).mono ?_
          rintro e w1 ⟨⟨st, rfl⟩, hb1⟩
          have hC1 : w1.heap[W0.heap.size]? = some (.cells C 9 (0, 0)) := (hb1.block _ hI).trans HC.out
          obtain ⟨x, hx⟩ : ∃ x, w1.cell? ⟨W0.heap.size, j, none⟩ = some x := ⟨C[j], by rw [cell_of_row w1 _ _ _ _ _ hC1]; simp [hCs, hjl]⟩
          have hfz : w1.frozen? ⟨W0.heap.size, j, none⟩ = false := frozen_of_row w1 _ _ _ _ hC1
          have H1 : Hid (Below wr.heap.size wr w1) := hb1
          have HC1 : Hid (w1.heap[W0.heap.size]? = some (.cells C 9 (0, 0))) := hC1
          clear hb1 hC1
          go_wp2
          go_roundw
          case rel => exact ⟨j + 1, upd s j st, C.setIfInBounds j (.string st), by omega, by go_num, (HB.out.trans (H1.out.mono (by omega))).setCell (Nat.le_refl _) _, by have := H1.out.size; simp; omega,
              heap_setCell_same w1 _ _ _ _ _ HC1.out, by simp [hCs], fun q hq => by
                by_cases e : q = j
                · subst e; simp [hCs, hjl, upd_at]
                · rw [Array.getElem?_setIfInBounds_ne (by omega), HG.out q (by omega), upd_lt s st (by omega)]⟩
          case measure => simp [intOf]; omega
        · obtain rfl : j = szf a k := by omega
          have hCe : C = (strC (joinS S s (bsum (szf a) k)) (bsum (szf a) k) (szf a k)).toArray := joinS_row hCs hCg
          rw [hCe] at hC
          have X2 := (HX.out.later hb).addIds (I := W0.heap.size) hC (fun e => by have := ownBlock_lt HX.out.all _ e; omega) (fun q hq => joinS_old hq) (fun i hi => bsum_step _ i k hi)
          have hz2 : w.heap.size ≤ wr.heap.size := X2.bel.size
          clear hCe hCg hC hb HX hsz hCs
          go_wp2_with (at_builtin; refine wpList_append_where _ rfl (.tmp 58) (.tmp 60) 26 rfl w.heap.size 3 i3 (.int .i64 0) 1 8 Yba.underlying26 hi3 h30 h31 h32 rfl (by decide) _ k (baseC (bsum (szf a)) k) rfl (X2.bas.alloc _) ⟨wr.heap.size, 0, none⟩ 1 1 [.int .i64 (bsum (szf a) k : Int)] rfl rfl ?a1 ?a2 ?a3 ?a4 ?a5 ?_)
          case a1 => exact one_new wr _ _
          case a2 => intro u hu; simp at hu; subst hu; rfl
          case a3 => unfold maxLen; omega
          case a4 => omega
          case a5 => simp; omega
          intro v8' W4 ho4 hg4 _
          have X4 := (X2.later (below_alloc wr (.cells #[.int .i64 (bsum (szf a) k : Int)] 3))).app8 ho4 hg4
          have hz4 : w.heap.size ≤ W4.heap.size := X4.bel.size
          clear X2 ho4 hg4
          go_wp2_with (at_builtin; refine wpList_append_where _ rfl (.tmp 62) (.tmp 67) 25 rfl w.heap.size 52 i52 (.agg #[.pointer none, .pointer none]) 2 16 Yba.underlying25 hi52 h520 h521 h522 rfl (by decide) _ k (segC sb k) rfl ((X4.segs.alloc _).alloc _) ⟨W4.heap.size + 1, 0, none⟩ 1 1 [.pointer (some ⟨W4.heap.size, 0, none⟩), .pointer none] rfl rfl ?b1 ?b2 ?b3 ?b4 ?b5 ?_)
          case b1 => exact two_new _ _ _ _ _ (by simp)
          case b2 => intro u hu; simp at hu; rcases hu with rfl | rfl <;> rfl
          case b3 => unfold maxLen; omega
          case b4 => omega
          case b5 => simp; omega
          intro v7' W7 ho7 hg7 _
          have X5 := (X4.later (below_alloc W4 (segO W0.heap.size (szf a k)))).addBox (B := W4.heap.size) (heap_new W4 _) (by rw [upd_at]; rfl)
          have X7 := (X5.later (below_alloc _ (.cells #[.pointer (some ⟨W4.heap.size, 0, none⟩), .pointer none] 52))).app7 ho7 hg7
          have hz7 : w.heap.size ≤ W7.heap.size := X7.bel.size
          have hI7 := (X7.ids k (by omega)).1
          rw [upd_at] at hI7
          clear X4 X5 ho7 hg7
          go_wp2_with (at_builtin; refine wpList_append_where _ rfl (.tmp 69) (.tmp 70) 27 rfl w.heap.size 9 i9 (.string ⟨#[]⟩) 1 16 Yba.underlying27 hi9 h90 h91 h92 rfl (by decide) _ (bsum (szf a) k) (strC S 0 (bsum (szf a) k)) rfl X7.all ⟨W0.heap.size, 0, none⟩ (szf a k) (szf a k) (strC (joinS S s (bsum (szf a) k)) (bsum (szf a) k) (szf a k)) rfl ?d1 ?d2 ?d3 ?d4 ?d5 ?d6 ?_)
          case d1 => rw [strC_len]; omega
          case d2 => exact row_cells hI7
          case d3 => exact strC_one _ _ _
          case d4 => unfold maxLen; omega
          case d5 => omega
          case d6 => exact hz7
          intro v9' W8 ho8 hg8 hw8
          have X8 := lx_next rfl rfl (X7.app9 ho8 hg8 hw8)
          have H8 : Hid (L1 w a (k + 1) v7' v8' v9' W8) := ⟨_, _, _, X8⟩
          clear X7 X8 ho8 hg8 hw8 hI7
          go_wp2
          go_roundw
          case rel => exact ⟨k + 1, by omega, by go_num, by go_num, H8.out⟩
          case measure => simp [intOf]; omega
    · obtain rfl : k = n := by omega
      obtain ⟨sb, ib, S, X⟩ := L
      have hbel : Hid (Below w.heap.size w wr) := X.bel
      have hsz := X.bel.size
      have hT := bsum_le a k
      by_cases hT0 : bsum (szf a) k = 0
      · have hT0' : ((bsum (szf a) k : Nat) : Int) = 0 := by omega
        obtain ⟨a7, l7, c7, rfl⟩ := owns_slice X.segs
        obtain ⟨a8, l8, c8, rfl⟩ := owns_slice X.bas
        obtain ⟨a9, l9, c9, rfl⟩ := owns_slice X.all
        clear X ha hp hf
        go_wp2_with fail
        refine (hits_zero _ _).mono ?_
        rintro e w1 ⟨rfl, hb1⟩
        have hm0 : w1.cell? ⟨wr.heap.size + 1, 0, none⟩ = some (.slice none 0 0) := by
          rw [hb1.cell (p := ⟨wr.heap.size + 1, 0, none⟩) (by simp)]; simp [go_sem]
        have HB1 : Hid (Below w.heap.size w w1) := ((hbel.out.alloc hsz _).alloc (by simp; omega) _).trans (hb1.mono (by simp; omega))
        clear hb1
        go_wp2_with fail
        refine wp_loop_rounds 1 ?_
        rw [rounds_succ]
        go_wp2
        go_ret
        exact ⟨rfl, HB1.out⟩
      · have hTp : (0 : Int) < ((bsum (szf a) k : Nat) : Int) := by omega
        have hTb : ((bsum (szf a) k : Nat) : Int) ≤ 1280 := by omega
        have hk0 : 0 < k := by
          rcases Nat.eq_zero_or_pos k with h | h
          · subst h; exact absurd rfl hT0
          · exact h
        obtain ⟨gs, cS, rfl, _, _⟩ := owns_shape X.segs hk0
        obtain ⟨gb, cB, rfl, _, _⟩ := owns_shape X.bas hk0
        obtain ⟨ga, cA, rfl, _, _⟩ := owns_shape X.all (by omega)
        have HX : Hid (LX w (bsum (szf a)) (szf a) k k sb ib S k k (bsum (szf a) k) (segC sb k) (baseC (bsum (szf a)) k) (strC S 0 (bsum (szf a) k)) (.slice (some ⟨gs, 0, none⟩) k cS) (.slice (some ⟨gb, 0, none⟩) k cB) (.slice (some ⟨ga, 0, none⟩) (bsum (szf a) k) cA) wr) := X
        have mk1 := make_any (t := 26) (by exact Yba.underlying26) info3 np (by omega) (by omega)
        have mk2 := make_any (t := 24) (by exact Yba.underlying24) info60 np (by omega) (by omega)
        have d4 : decide (0 < bsum (szf a) k) = true := by simp; omega
        obtain ⟨SN, AL⟩ := snap_of (C := #[.pointer none, .slice (some ⟨gs, 0, none⟩) k cS, .slice (some ⟨gb, 0, none⟩) k cB, .int .i64 (bsum (szf a) k : Int), .int .i64 (bsum (szf a) k : Int)]) (t := 56) X rfl rfl
        have HSN := hid SN
        have HAL := hid AL
        clear X ha SN AL
        go_wp2_with fail
        clear mk1 mk2
        rename World => W0
        go_loopw [18, 19, 94] (fun _ _ i wx => ∃ q : Nat, q ≤ np ∧ i = .int .i64 q ∧ L3 (W0.heap.size + 1) (W0.alloc (.cells #[.pointer none, .slice (some ⟨gs, 0, none⟩) k cS, .slice (some ⟨gb, 0, none⟩) k cB, .int .i64 (bsum (szf a) k : Int), .int .i64 (bsum (szf a) k : Int)] 56)) np (bsum (szf a) k) ns p f q wx) (fun _ _ i _ => np - (intOf i).toNat)
        case atStart => exact ⟨0, Nat.zero_le _, rfl, l3_start _ _ (by simp) np _ ns p f _ _ _⟩
        case round =>
          obtain ⟨q, hq, rfl, L⟩ := hrel
          have HL := hid L
          by_cases hlq : q < np
          · obtain ⟨pb, po, rfl, hpw, hpc, hpq⟩ := hp q hlq
            have hbw : Below w.heap.size w wr := (hbel.out.alloc hsz _).trans (L.bel.mono (by omega))
            have cp' := (hbw.cell (p := ⟨pb, po + q, none⟩) hpw).trans hpc
            have b0 := L.b0
            have b1 := L.b1
            obtain ⟨_, r0, z0⟩ := L.doc q hlq
            obtain ⟨r1, z1⟩ := L.sc q hlq
            have hpq' : ((p q : Nat) : Int) ≤ 65535 := by omega
            by_cases hqs : q < ns
            · obtain ⟨fb, fo, rfl, hfw, hfc⟩ := hf q hqs
              have cf' := (hbw.cell (p := ⟨fb, fo + q, none⟩) hfw).trans hfc
              clear hp hf L hbw hpc hfc
              go_wp2_with fail
              go_region
              go_wp2_with fail
              go_region
              go_wp2
              go_roundw
              case rel => exact ⟨q + 1, by omega, by go_num, (HL.out.scored hlq hqs).drew.drew⟩
              case measure => simp [intOf]; omega
            · clear hp hf L hbw hpc
              go_wp2_with fail
              go_region
              go_wp2
              go_roundw
              case rel => exact ⟨q + 1, by omega, by go_num, (HL.out.bare hlq hqs).drew⟩
              case measure => simp [intOf]; omega
          · obtain rfl : q = np := by omega
            have hbw : Below w.heap.size w wr := (hbel.out.alloc hsz _).trans (L.bel.mono (by omega))
            have hb1 : Below (W0.alloc (.cells #[.pointer none, .slice (some ⟨gs, 0, none⟩) k cS, .slice (some ⟨gb, 0, none⟩) k cB, .int .i64 (bsum (szf a) k : Int), .int .i64 (bsum (szf a) k : Int)] 56)).heap.size (W0.alloc (.cells #[.pointer none, .slice (some ⟨gs, 0, none⟩) k cS, .slice (some ⟨gb, 0, none⟩) k cB, .int .i64 (bsum (szf a) k : Int), .int .i64 (bsum (szf a) k : Int)] 56)) wr := by
              have := L.bel
              rw [World.size_alloc]
              exact this
            have SN2 := HSN.out.later hb1
            have AL2 : ∀ y, y < bsum (szf a) k → wr.cell? ⟨ga, y, none⟩ = some (.string (S y)) := fun y hy => (hb1.cell (World.block_lt_of_cell? _ _ (HAL.out y hy))).trans (HAL.out y hy)
            have H2 := hid SN2
            have H3 := hid AL2
            have H4 := hid hbw
            have b0 := L.b0
            have b1 := L.b1
            clear hp hf L hbw hb1 SN2 AL2
            rename World => W2
            go_wp2_with fail
            refine (hits_any W0.heap.size gs gb k cS cB (bsum (szf a)) (szf a) sb ib S W2 H2.out hn rfl (fun i => rfl) (by omega) (bsum_mono _) q hnp (some ⟨W0.heap.size + 1 + 1, 0, none⟩) (some ⟨W0.heap.size + 1 + 1 + 1, 0, none⟩) (fun i => p i % bsum (szf a) k) (scr f ns q) (l3_docs HL.out (by omega)) (fun i hi => ⟨_, rfl, (HL.out.sc i hi).1⟩)).mono ?_
            rintro e w3 ⟨rfl, R3⟩
            have F := f4_of HL.out (by omega) H4.out H3.out R3
            have HF := hid F
            have fb0 := F.b0
            clear R3 F b0 b1
            go_wp2_with fail
            clear fb0
            go_loopw [21, 131] (fun _ i wx => ∃ y : Nat, y ≤ q ∧ i = .int .i64 y ∧ F4 (W2.heap.size + 1) (W0.heap.size + 1) q (bsum (szf a) k) ga w (fun i => p i % bsum (szf a) k) (scr f ns q) S wx) (fun _ i _ => q - (intOf i).toNat)
            case atStart => exact ⟨0, Nat.zero_le _, rfl, HF.out⟩
            case round =>
              clear HF
              obtain ⟨y, hy, rfl, F⟩ := hrel
              have HF := hid F
              by_cases hyq : y < q
              · obtain ⟨t0, t1, t2⟩ := F.hit y hyq
                obtain ⟨t3, hdT⟩ := F.doc y hyq
                have t4 := F.sc y hyq
                have t5 := F.all _ hdT
                have t6 := F.b0
                have t7 := F.b1
                obtain ⟨d, hd⟩ : ∃ d, d = p y % bsum (szf a) k := ⟨_, rfl⟩
                rw [← hd] at t0 t3 t5 hdT
                have hdT' : (d : Int) < ((bsum (szf a) k : Nat) : Int) := by omega
                have hyq' : (y : Int) < (q : Int) := by omega
                have fb := fun wx => f64bits (scr f ns q y) wx
                have hnil := fun wx => run_neq_slice_nil_any (P := Yba.prog) wx 63 122 none 0 0 0 0 Yba.underlying63
                clear F hd
                go_wp2_with fail
                go_quiet (fail)
                go_wp2_with fail
                go_quiet (simp only [f64bits])
                go_wp2
                go_roundw
                case rel => exact ⟨y + 1, by omega, by go_num, HF.out.drewN _⟩
                case measure => simp [intOf]; omega
              · clear F
                go_wp2
                go_ret
                exact ⟨rfl, HF.out.bel⟩
end Go.Proofs.Ybulkwlq

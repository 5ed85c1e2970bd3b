/- The walk of plan.LawS1130ALabels (function 4). -/
import Derived.Test.YbulkwjmABuild
import Derived.Laws.AppendOwnNone
namespace Go.Proofs.Ybulkwjm
open Go.RowKit
theorem info9 : (Yba.prog.info? 9).map (fun i => (i.zero, i.size, i.bytes)) = some (some (.string ⟨#[]⟩), 1, 16) := by kernel_rfl

theorem heap_at_new (w : World) (o : Obj) (k : Nat) (h : k = w.heap.size) : (w.alloc o).heap[k]? = some o := by
  subst h
  show (w.heap.push o)[w.heap.size]? = some o
  simp

/-- Where the Labels are not nil any two groups are similar. -/
theorem similar_labels (bs bb n c : Nat) (ad : Addr) (a b : Int) (w : World) (h0 : w.cell? ⟨bs, 0, none⟩ = some (.pointer (some ⟨bb, 0, none⟩))) (h1 : w.cell? ⟨bb, 1, none⟩ = some (.slice (some ad) n c)) :
    Calls Yba.prog 12 #[.pointer (some ⟨bs, 0, none⟩), .int .i64 a, .int .i64 b] w fun e w' => e = .returned (.bool true) ∧ w' = w := by
  have hn := fun wx => run_neq_slice_nil_any (P := Yba.prog) wx 34 9 (some ad) n c 0 0 Yba.underlying34
  go_enter Yba.func12, Yba.ntmps12
  go_wp2
  go_ret
  exact ⟨rfl, rfl⟩

set_option maxRecDepth 100000 in
set_option maxHeartbeats 1600000 in
theorem alab_none (bs ds : Nat → Int) (sw ka kb : Bool) (ma mb : Nat) (w : World) (hma : ma ≤ 255) (hmb : mb ≤ 255)
    (hbs : ∀ j, j < 5 → 0 ≤ bs j ∧ bs j ≤ 4294967295) (hds : ∀ j, j < 5 → 0 ≤ ds j ∧ ds j ≤ 255) :
    Calls Yba.prog 4 #[.slice none 0 0, .agg (pcells bs ds sw ka kb ma mb)] w fun e w' => e = .returned (.bool true) ∧ Below w.heap.size w w' := by
  obtain ⟨i, hi, hz, hsz, hby⟩ := info_parts info9
  unfold pcells
  go_enter Yba.func4, Yba.ntmps4
  go_wp2_with fail
  refine (abuild_any bs ds sw ka kb ma mb _ hma hmb hbs hds).mono ?_
  rintro e w1 ⟨rfl, E⟩
  have hb : Hid (Below w.heap.size w w1) := ((Below.alloc (Below.refl _ _) (Nat.le_refl _) _).alloc (by simp) _).trans (E.bel.mono (by simp; omega))
  have hz : w.heap.size ≤ w1.heap.size := hb.out.size
  clear E hbs hds
  go_wp2_with fail
  refine (similar_labels _ (w1.heap.size + 1 + 1) 0 0 ⟨w.heap.size + 1, 0, none⟩ 0 1 _ (by simp [go_sem]) (by simp [go_sem])).mono ?_
  rintro e w2 ⟨rfl, rfl⟩
  go_wp2_with fail
  refine (similar_labels _ (w1.heap.size + 1 + 1) 0 0 ⟨w.heap.size + 1, 0, none⟩ 1 0 _ (by simp [go_sem]) (by simp [go_sem])).mono ?_
  rintro e w2 ⟨rfl, rfl⟩
  go_wp2
  go_ret
  exact ⟨rfl, (((hb.out.alloc hz _).alloc (by simp; omega) _).alloc (by simp; omega) _).alloc (by simp; omega) _⟩

set_option maxRecDepth 100000 in
set_option maxHeartbeats 1600000 in
theorem alab_some (ad : Addr) (n c : Nat) (ss : List ByteArray) (bs ds : Nat → Int) (sw ka kb : Bool) (ma mb : Nat) (w : World) (hn : n ≤ 1024) (hss : ss.length = n)
    (hcell : ∀ j, j < n → w.cell? (ad.add j) = some (.string (ss.getD j ByteArray.empty))) (hma : ma ≤ 255) (hmb : mb ≤ 255)
    (hbs : ∀ j, j < 5 → 0 ≤ bs j ∧ bs j ≤ 4294967295) (hds : ∀ j, j < 5 → 0 ≤ ds j ∧ ds j ≤ 255) :
    Calls Yba.prog 4 #[.slice (some ad) n c, .agg (pcells bs ds sw ka kb ma mb)] w fun e w' => e = .returned (.bool true) ∧ Below w.heap.size w w' := by
  obtain ⟨i, hi, hz, hsz, hby⟩ := info_parts info9
  unfold pcells
  go_enter Yba.func4, Yba.ntmps4
  go_wp2_with (at_builtin; refine wpList_append_own _ rfl (.tmp 13) (.tmp 14) 34 rfl (w.heap.size + 1) 9 i (.string ⟨#[]⟩) 1 16 Yba.underlying34 hi hz hsz hby rfl (by decide) (.slice (some ⟨w.heap.size + 1, 0, none⟩) 0 0) 0 [] rfl ?own ad n c (ss.map Value.string) rfl ?len ?news ?one ?mx ?hb ?base ?_)
  case own => exact ⟨rfl, Or.inr ⟨w.heap.size + 1, 0, #[], rfl, Nat.le_refl _, by rw [heap_at_new _ _ _ (by simp)], Nat.le_refl _, Nat.zero_le _, rfl, rfl⟩⟩
  case len => simp [hss]
  case news =>
    intro j u hj
    simp at hj
    obtain ⟨x, hx, rfl⟩ := hj
    have hjl : j < n := by have := (List.getElem?_eq_some_iff.1 hx).1; omega
    have hlt := World.block_lt_of_cell? w _ (hcell j hjl)
    rw [World.cell?_alloc_lt _ _ _ (by simp; omega), World.cell?_alloc_lt _ _ _ hlt, hcell j hjl]
    simp [hx]
  case one =>
    intro u hu
    simp at hu
    obtain ⟨x, _, rfl⟩ := hu
    rfl
  case mx => unfold maxLen; omega
  case hb => omega
  case base => simp
  intro v' w0 hown hgrow hnil
  obtain ⟨g, cap, hv⟩ : ∃ g cap, v' = .slice (some ⟨g, 0, none⟩) n cap := by
    rcases hown.2 with ⟨h, _⟩ | ⟨g, cap, _, h, _⟩
    · exact absurd h hnil
    · exact ⟨g, cap, by simpa using h⟩
  rw [hv]
  have hbb : Below (w.heap.size + 1) ((w.alloc (.cells (pcells bs ds sw ka kb ma mb) 26)).alloc (.cells #[] 9)) w0 := Below.grown (Below.refl _ _) hgrow (by simp) (fun k hk => by simp [Value.ownBlock] at hk; omega)
  have hb0 : Hid (Below w.heap.size w w0) := ((Below.alloc (Below.refl _ _) (Nat.le_refl _) _).alloc (by simp) _).trans (hbb.mono (by omega))
  have hz0 : w.heap.size ≤ w0.heap.size := hb0.out.size
  have bx : ∀ j, w0.cell? ⟨w.heap.size, j, none⟩ = (pcells bs ds sw ka kb ma mb)[j]? := fun j => by
    rw [hbb.cell (p := ⟨w.heap.size, j, none⟩) (by simp), World.cell?_alloc_past _ _ _ (by simp), World.cell?_alloc_at _ _ _ _ rfl]
  have x0 : w0.cell? ⟨w.heap.size, 0, none⟩ = some (.int .u32 (bs 0)) := bx 0
  have x1 : w0.cell? ⟨w.heap.size, 1, none⟩ = some (.int .u32 (bs 1)) := bx 1
  have x2 : w0.cell? ⟨w.heap.size, 2, none⟩ = some (.int .u32 (bs 2)) := bx 2
  have x3 : w0.cell? ⟨w.heap.size, 3, none⟩ = some (.int .u32 (bs 3)) := bx 3
  have x4 : w0.cell? ⟨w.heap.size, 4, none⟩ = some (.int .u32 (bs 4)) := bx 4
  have x5 : w0.cell? ⟨w.heap.size, 5, none⟩ = some (.int .u8 (ds 0)) := bx 5
  have x6 : w0.cell? ⟨w.heap.size, 6, none⟩ = some (.int .u8 (ds 1)) := bx 6
  have x7 : w0.cell? ⟨w.heap.size, 7, none⟩ = some (.int .u8 (ds 2)) := bx 7
  have x8 : w0.cell? ⟨w.heap.size, 8, none⟩ = some (.int .u8 (ds 3)) := bx 8
  have x9 : w0.cell? ⟨w.heap.size, 9, none⟩ = some (.int .u8 (ds 4)) := bx 9
  have x10 : w0.cell? ⟨w.heap.size, 10, none⟩ = some (.bool sw) := bx 10
  have x11 : w0.cell? ⟨w.heap.size, 11, none⟩ = some (.bool ka) := bx 11
  have x12 : w0.cell? ⟨w.heap.size, 12, none⟩ = some (.bool kb) := bx 12
  have x13 : w0.cell? ⟨w.heap.size, 13, none⟩ = some (.int .u8 ma) := bx 13
  have x14 : w0.cell? ⟨w.heap.size, 14, none⟩ = some (.int .u8 mb) := bx 14
  clear hv hnil hown hgrow bx hbb hcell
  go_wp2_with fail
  refine (abuild_any bs ds sw ka kb ma mb _ hma hmb hbs hds).mono ?_
  rintro e w1 ⟨rfl, E⟩
  have hb : Hid (Below w.heap.size w w1) := hb0.out.trans (E.bel.mono hz0)
  have hz1 : w.heap.size ≤ w1.heap.size := hb.out.size
  clear E hbs hds x0 x1 x2 x3 x4 x5 x6 x7 x8 x9 x10 x11 x12 x13 x14
  go_wp2_with fail
  refine (similar_labels _ (w1.heap.size + 1 + 1) n cap ⟨g, 0, none⟩ 0 1 _ (by simp [go_sem]) (by simp [go_sem])).mono ?_
  rintro e w2 ⟨rfl, rfl⟩
  go_wp2_with fail
  refine (similar_labels _ (w1.heap.size + 1 + 1) n cap ⟨g, 0, none⟩ 1 0 _ (by simp [go_sem]) (by simp [go_sem])).mono ?_
  rintro e w2 ⟨rfl, rfl⟩
  go_wp2
  go_ret
  exact ⟨rfl, (((hb.out.alloc hz1 _).alloc (by simp; omega) _).alloc (by simp; omega) _).alloc (by simp; omega) _⟩

theorem alab_out (a : Option Addr) (n c : Nat) (v : Array Value) (w : World) (hn : 1024 < n) (_hm : n ≤ 9223372036854775807) :
    Calls Yba.prog 4 #[.slice a n c, .agg v] w fun e w' => e = .returned (.bool true) ∧ Below w.heap.size w w' := by
  go_enter Yba.func4, Yba.ntmps4
  go_wp2
  go_ret
  exact ⟨rfl, (Below.refl _ _).alloc (Nat.le_refl _) _⟩
end Go.Proofs.Ybulkwjm

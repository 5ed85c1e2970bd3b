/- '(*snapshot).hits' (function 5). -/
import Derived.Test.YbulkwlqLocate
namespace Go.Proofs.Ybulkwlq
open Go.RowKit
/-- A float is one cell: the kit's stores know every kind but this one. -/
theorem run_store_float {P : Program} {w : World} {a : Addr} {m : Mode} (k : FloatKind) (b : Nat) : (store a (.float k b) m).run P w = stored P w a (.float k b) m := run_store P w a _ m rfl
attribute [local go_sem] run_store_float
theorem info65 : (Yba.prog.info? 65).map (fun i => (i.zero, i.size, i.bytes)) = some (some (.agg #[.string ⟨#[]⟩, .float .f64 0, .slice none 0 0]), 3, 48) := by kernel_rfl
theorem make_any {t e : TypeId} {z : Value} {size bytes : Nat} (ht : Yba.prog.underlying t = some (.slice e))
    (hinfo : (Yba.prog.info? e).map (fun i => (i.zero, i.size, i.bytes)) = some (some z, size, bytes)) (n : Nat) (hb : bytes * n ≤ 281474976710656) (h63 : n ≤ 9223372036854775807) :
    ∀ w : World, (Instr.makeSlice t (.int .i64 (n : Int)) (.int .i64 (n : Int))).run Yba.prog w = .ok (.slice (some ⟨w.heap.size, 0, none⟩) n n) (w.alloc (.cells (madeCells z.cells (n * size)) e)) := by
  intro w
  obtain ⟨i, hi, h0, h1, h2⟩ := info_parts hinfo
  have hb' : (i.bytes : Int) * (n : Int) ≤ 281474976710656 := by
    subst h2
    have h : ((i.bytes * n : Nat) : Int) ≤ 281474976710656 := by omega
    rwa [Int.natCast_mul] at h
  have hr := run_make (P := Yba.prog) w t e i z ht hi h0 .i64 .i64 n n (by omega) (by omega) hb' (by omega)
  simp only [Int.toNat_natCast] at hr
  rw [hr, h1]

theorem hr_start (w : World) (m : Nat) (v0 v1 : Value) (D : Nat → Nat) (S : Nat → ByteArray) (f : Nat → Nat) (c : Array Value) (t0 t1 : TypeId) (hc : c.size = m * 3) :
    HR w.heap.size m w v0 v1 D S f 0 ((w.alloc (.cells #[v0, v1] t0)).alloc (.cells c t1)) := by
  refine ⟨((Below.refl _ _).alloc (Nat.le_refl _) _).alloc (by simp) _, by simp, ?_, ?_, ?_, by intro i hi; omega⟩
  · rw [World.cell?_alloc_past _ _ _ (by simp), World.cell?_alloc_at _ _ _ _ rfl]; rfl
  · rw [World.cell?_alloc_past _ _ _ (by simp), World.cell?_alloc_at _ _ _ _ rfl]; rfl
  · intro j hj
    exact ⟨c[j]'(by omega), by rw [World.cell?_alloc_at _ _ _ _ (by simp)]; simp [hc, hj], World.frozen?_alloc_at _ _ _ _ (by simp)⟩

set_option maxRecDepth 100000 in
set_option maxHeartbeats 1600000 in
theorem hits_any (sn gs gb n cS cB : Nat) (base sz sb ib : Nat → Nat) (S : Nat → ByteArray) (w : World) (X : Snap sn gs gb n cS cB base sz sb ib S w) (hn : n ≤ 256)
    (h0 : base 0 = 0) (hs : ∀ i, base (i + 1) = base i + sz i) (hT : base n ≤ 1280) (hm : ∀ i j, i ≤ j → base i ≤ base j)
    (m : Nat) (hm4 : m ≤ 1024) (xd xf : Option Addr) (D : Nat → Nat) (f : Nat → Nat)
    (hD : ∀ i, i < m → ∃ g, xd = some ⟨g, 0, none⟩ ∧ w.cell? ⟨g, i, none⟩ = some (.int .i64 (D i : Int)) ∧ D i < base n)
    (hF : ∀ i, i < m → ∃ g, xf = some ⟨g, 0, none⟩ ∧ w.cell? ⟨g, i, none⟩ = some (.float .f64 (f i))) :
    Calls Yba.prog 5 #[.pointer (some ⟨sn, 0, none⟩), .agg #[.slice xd m m, .slice xf m m]] w fun e w' =>
      e = .returned (.slice (some ⟨w.heap.size + 1, 0, none⟩) m m) ∧ HR w.heap.size m w (.slice xd m m) (.slice xf m m) D S f m w' := by
  have mk := make_any (t := 61) (by exact Yba.underlying61) info65 m (by omega) (by omega)
  have HX : Hid (Snap sn gs gb n cS cB base sz sb ib S w) := X
  have HM : Hid (∀ i j, i ≤ j → base i ≤ base j) := hm
  have HS : Hid (∀ i, base (i + 1) = base i + sz i) := hs
  have H0 : Hid (base 0 = 0) := h0
  clear X hm hs h0
  go_enter Yba.func5, Yba.ntmps5
  go_wp2
  go_loopw [6, 7, 8, 9, 17] (fun _ _ _ _ i wr => ∃ k : Nat, k ≤ m ∧ i = .int .i64 k ∧ HR w.heap.size m w (.slice xd m m) (.slice xf m m) D S f k wr) (fun _ _ _ _ i _ => m - (intOf i).toNat)
  case atStart => exact ⟨0, Nat.zero_le _, rfl, hr_start w m _ _ D S f _ _ _ (size_madeCells _ _)⟩
  case round =>
    clear mk
    obtain ⟨k, hk, rfl, R⟩ := hrel
    have HR' : Hid (HR w.heap.size m w (.slice xd m m) (.slice xf m m) D S f k wr) := R
    by_cases hlt : k < m
    · obtain ⟨gd, rfl, cd, hDk⟩ := hD k hlt
      obtain ⟨gf, rfl, cf⟩ := hF k hlt
      have old : ∀ {p v}, w.cell? p = some v → wr.cell? p = some v := fun {p _} hp => (R.bel.cell (World.block_lt_of_cell? w p hp)).trans hp
      have cd' := old cd
      have cf' := old cf
      have b0 := R.b0
      have b1 := R.b1
      obtain ⟨_, r0, e0⟩ := R.row (k * 3) (by omega)
      obtain ⟨_, r1, e1⟩ := R.row (k * 3 + 1) (by omega)
      obtain ⟨_, r2, e2⟩ := R.row (k * 3 + 2) (by omega)
      have hX2 : Snap sn gs gb n cS cB base sz sb ib S wr := HX.out.later R.bel
      clear cd cf hD hF R
      go_wp2_with fail
      refine (locate_any sn gs gb n cS cB base sz sb ib S wr hX2 hn (D k) H0.out HS.out hDk hT HM.out).mono ?_
      rintro e w1 ⟨⟨si, l, hsi, hl, hdl, rfl⟩, nq, rfl⟩
      have q1 := hX2.ids si hsi
      have q2 := hX2.str si hsi l hl
      rw [hdl] at q2
      have hl' : (l : Int) < (sz si : Int) := by omega
      clear hX2 old hdl
      go_wp2_with fail
      go_region
      go_wp2
      go_roundw
      case rel => exact ⟨k + 1, by omega, by go_num, ((HR'.out.step hlt).drewN _).drew⟩
      case measure => simp [intOf]; omega
    · obtain rfl : k = m := by omega
      clear hD hF R
      go_wp2
      go_ret
      exact ⟨rfl, HR'.out⟩
end Go.Proofs.Ybulkwlq

/- '(*snapshot).locate' (function 7) and '(*snapshot).hits' (function 5). -/
import Derived.Test.YbulkwlqSearch
import Derived.Test.YbulkwlqMem
import Derived.RegionTactic
import Derived.BigRegion
import Derived.Deep.QuietTactic
import Derived.BigQuiet
namespace Go.Proofs.Ybulkwlq
open Go.RowKit
structure Snap (sn gs gb n cS cB : Nat) (base sz sb ib : Nat → Nat) (S : Nat → ByteArray) (W : World) : Prop where
  f1 : W.cell? ⟨sn, 1, none⟩ = some (.slice (some ⟨gs, 0, none⟩) n cS)
  f2 : W.cell? ⟨sn, 2, none⟩ = some (.slice (some ⟨gb, 0, none⟩) n cB)
  bas : ∀ i, i < n → W.cell? ⟨gb, i, none⟩ = some (.int .i64 (base i : Int))
  seg : ∀ i, i < n → W.cell? ⟨gs, i * 2, none⟩ = some (.pointer (some ⟨sb i, 0, none⟩))
  ids : ∀ i, i < n → W.cell? ⟨sb i, 2, none⟩ = some (.slice (some ⟨ib i, 0, none⟩) (sz i) (sz i))
  str : ∀ i, i < n → ∀ j, j < sz i → W.cell? ⟨ib i, j, none⟩ = some (.string (S (base i + j)))
theorem Snap.later {sn gs gb n cS cB : Nat} {base sz sb ib : Nat → Nat} {S : Nat → ByteArray} {W W' : World} (X : Snap sn gs gb n cS cB base sz sb ib S W) (h : Below W.heap.size W W') : Snap sn gs gb n cS cB base sz sb ib S W' :=
  have c : ∀ {p v}, W.cell? p = some v → W'.cell? p = some v := fun {p _} hp => (h.cell (World.block_lt_of_cell? W p hp)).trans hp
  ⟨c X.f1, c X.f2, fun i hi => c (X.bas i hi), fun i hi => c (X.seg i hi), fun i hi => c (X.ids i hi), fun i hi j hj => c (X.str i hi j hj)⟩

/-- Where document d lies. -/
def Located (n d : Nat) (base sz sb : Nat → Nat) (e : Ending) : Prop :=
  ∃ si l, si < n ∧ l < sz si ∧ base si + l = d ∧ e = .returned (.tuple #[.pointer (some ⟨sb si, 0, none⟩), .int .i64 (l : Int)])

set_option maxHeartbeats 800000 in
theorem locate_any (sn gs gb n cS cB : Nat) (base sz sb ib : Nat → Nat) (S : Nat → ByteArray) (w : World) (X : Snap sn gs gb n cS cB base sz sb ib S w) (hn : n ≤ 256) (d : Nat)
    (h0 : base 0 = 0) (hs : ∀ i, base (i + 1) = base i + sz i) (hd : d < base n) (hT : base n ≤ 1280) (hm : ∀ i j, i ≤ j → base i ≤ base j) :
    Calls Yba.prog 7 #[.pointer (some ⟨sn, 0, none⟩), .int .i64 (d : Int)] w fun e w' => Located n d base sz sb e ∧ ∃ nq, w' = w.drewN nq := by
  have f1 := X.f1
  have f2 := X.f2
  have hd' : (d : Int) ≤ 1280 := by omega
  have HX : Hid (Snap sn gs gb n cS cB base sz sb ib S w) := X
  have HM : Hid (∀ i j, i ≤ j → base i ≤ base j) := hm
  have HS : Hid (∀ i, base (i + 1) = base i + sz i) := hs
  have H0 : Hid (base 0 = 0) := h0
  clear X hm hs h0
  go_enter Yba.func7, Yba.ntmps7
  go_wp2_with fail
  refine (search_any gb n cB (fun i => (base i : Int)) _ w hn (fun i hi => HX.out.bas i hi) (fun i j h _ => by have := HM.out i j h; simp; omega)).mono ?_
  rintro e w1 ⟨⟨i, fd, rfl, hin, hlo, hhi⟩, rfl⟩
  have hi0 : 0 < i := by
    rcases Nat.eq_zero_or_pos i with h | h
    · subst h
      by_cases hz : 0 < n
      · have := hhi 0 (by omega) hz; have := H0.out; simp at *; omega
      · obtain rfl : n = 0 := by omega
        have := H0.out; omega
    · exact h
  obtain ⟨si, rfl⟩ : ∃ si, i = si + 1 := ⟨i - 1, by omega⟩
  have hlo' : base si ≤ d := by have := hlo si (by omega); simp at this; omega
  have hhi' : d < base si + sz si := by
    rw [← HS.out si]
    by_cases h : si + 1 < n
    · have := hhi (si + 1) (by omega) h; simp at this; omega
    · obtain rfl : n = si + 1 := by omega
      exact hd
  have c1 := HX.out.seg si (by omega)
  have c2 := HX.out.bas si (by omega)
  have hsi : (si : Int) < (n : Int) := by omega
  have hlo2 : (base si : Int) ≤ (d : Int) := by omega
  clear hlo hhi
  go_wp2_with fail
  go_quiet (fail)
  go_wp2
  go_ret2
  exact ⟨⟨si, d - base si, by omega, by omega, by omega, by simp; omega⟩, _, rfl⟩

/-- The head of round k of hits' loop. -/
structure HR (N m : Nat) (w : World) (v0 v1 : Value) (D : Nat → Nat) (S : Nat → ByteArray) (f : Nat → Nat) (k : Nat) (wr : World) : Prop where
  bel : Below N w wr
  size : wr.heap.size = N + 2
  b0 : wr.cell? ⟨N, 0, none⟩ = some v0
  b1 : wr.cell? ⟨N, 1, none⟩ = some v1
  row : ∀ j, j < m * 3 → ∃ v, wr.cell? ⟨N + 1, j, none⟩ = some v ∧ wr.frozen? ⟨N + 1, j, none⟩ = false
  hit : ∀ i, i < k → wr.cell? ⟨N + 1, i * 3, none⟩ = some (.string (S (D i))) ∧ wr.cell? ⟨N + 1, i * 3 + 1, none⟩ = some (.float .f64 (f i)) ∧ wr.cell? ⟨N + 1, i * 3 + 2, none⟩ = some (.slice none 0 0)

theorem HR.drew {N m : Nat} {w : World} {v0 v1 : Value} {D : Nat → Nat} {S : Nat → ByteArray} {f : Nat → Nat} {k : Nat} {wr : World} (R : HR N m w v0 v1 D S f k wr) : HR N m w v0 v1 D S f k wr.drew := ⟨R.bel.drew, R.size, R.b0, R.b1, R.row, R.hit⟩
theorem HR.drewN {N m : Nat} {w : World} {v0 v1 : Value} {D : Nat → Nat} {S : Nat → ByteArray} {f : Nat → Nat} {k : Nat} {wr : World} (R : HR N m w v0 v1 D S f k wr) (nq : Nat) : HR N m w v0 v1 D S f k (wr.drewN nq) :=
  ⟨⟨R.bel.os, R.bel.tape, R.bel.output, R.bel.size, R.bel.block⟩, R.size, R.b0, R.b1, R.row, R.hit⟩

theorem HR.step {N m : Nat} {w : World} {v0 v1 : Value} {D : Nat → Nat} {S : Nat → ByteArray} {f : Nat → Nat} {k : Nat} {wr : World} (R : HR N m w v0 v1 D S f k wr) (hk : k < m) :
    HR N m w v0 v1 D S f (k + 1) (((wr.setCell ⟨N + 1, k * 3, none⟩ (.string (S (D k)))).setCell ⟨N + 1, k * 3 + 1, none⟩ (.float .f64 (f k))).setCell ⟨N + 1, k * 3 + 2, none⟩ (.slice none 0 0)) := by
  have there : ∀ (W : World) (a : Addr) (u : Value) (x : Addr), (∃ v, W.cell? x = some v ∧ W.frozen? x = false) → ∃ v, (W.setCell a u).cell? x = some v ∧ (W.setCell a u).frozen? x = false := fun W a u x ⟨v, h1, h2⟩ => by
    obtain ⟨v', hv'⟩ := cell?_setCell_some (p := a) (x := u) h1
    exact ⟨v', hv', by simpa using h2⟩
  have oth : ∀ (b o : Nat), (b ≠ N + 1 ∨ (o ≠ k * 3 ∧ o ≠ k * 3 + 1 ∧ o ≠ k * 3 + 2)) → (((wr.setCell ⟨N + 1, k * 3, none⟩ (.string (S (D k)))).setCell ⟨N + 1, k * 3 + 1, none⟩ (.float .f64 (f k))).setCell ⟨N + 1, k * 3 + 2, none⟩ (.slice none 0 0)).cell? ⟨b, o, none⟩ = wr.cell? ⟨b, o, none⟩ := fun b o h => by
    rw [World.cell?_setCell_other _ _ _ _ (by simp; omega), World.cell?_setCell_other _ _ _ _ (by simp; omega), World.cell?_setCell_other _ _ _ _ (by simp; omega)]
  refine ⟨((R.bel.setCell (by simp) _).setCell (by simp) _).setCell (by simp) _, by simp [R.size], ?_, ?_, ?_, ?_⟩
  · rw [oth _ _ (by omega)]; exact R.b0
  · rw [oth _ _ (by omega)]; exact R.b1
  · exact fun j hj => there _ _ _ _ (there _ _ _ _ (there _ _ _ _ (R.row j hj)))
  · intro i hi
    by_cases e : i = k
    · subst e
      obtain ⟨_, r0, _⟩ := R.row (i * 3) (by omega)
      obtain ⟨_, r1, _⟩ := there wr ⟨N + 1, i * 3, none⟩ (.string (S (D i))) _ (R.row (i * 3 + 1) (by omega))
      obtain ⟨_, r2, _⟩ := there _ ⟨N + 1, i * 3 + 1, none⟩ (.float .f64 (f i)) _ (there wr ⟨N + 1, i * 3, none⟩ (.string (S (D i))) _ (R.row (i * 3 + 2) (by omega)))
      refine ⟨?_, ?_, ?_⟩
      · rw [World.cell?_setCell_other _ _ _ _ (by simp), World.cell?_setCell_other _ _ _ _ (by simp)]; exact World.cell?_setCell_same _ _ _ r0
      · rw [World.cell?_setCell_other _ _ _ _ (by simp)]; exact World.cell?_setCell_same _ _ _ r1
      · exact World.cell?_setCell_same _ _ _ r2
    · rw [oth _ _ (by omega), oth _ _ (by omega), oth _ _ (by omega)]; exact R.hit i (by omega)
end Go.Proofs.Ybulkwlq

/- What lies in memory behind LawS1134AIds's first loop. -/
import Derived.Test.YbulkwlqHits
import Derived.Test.YbulkwlqSegs
import Derived.Laws.Externs
namespace Go.Proofs.Ybulkwlq
open Go.RowKit

/-- hits of an empty match list. -/
theorem hits_zero (sn : Nat) (w : World) : Calls Yba.prog 5 #[.pointer (some ⟨sn, 0, none⟩), .agg #[.slice none 0 0, .slice none 0 0]] w fun e w' =>
    e = .returned (.slice (some ⟨w.heap.size + 1, 0, none⟩) 0 0) ∧ Below w.heap.size w w' := by
  have mk : ∀ w : World, (Instr.makeSlice 61 (.int .i64 0) (.int .i64 0)).run Yba.prog w = .ok (.slice (some ⟨w.heap.size, 0, none⟩) 0 0) (w.alloc (.cells (madeCells #[.string ⟨#[]⟩, .float .f64 0, .slice none 0 0] 0) 65)) := make_any (t := 61) (by exact Yba.underlying61) info65 0 (by omega) (by omega)
  go_enter Yba.func5, Yba.ntmps5
  go_wp2
  refine wp_loop_rounds 1 ?_
  rw [rounds_succ]
  go_wp2
  go_ret
  exact ⟨rfl, ((Below.refl _ _).alloc (Nat.le_refl _) _).alloc (by simp) _⟩

theorem f64bits (b : Nat) (w : World) : (callFunc 6 #[.float .f64 b]).run Yba.prog w = .ok (.value (.int .u64 (b : Int))) w := by
  rw [run_callFunc_extern Yba.func6 (by kernel_rfl) (by kernel_rfl) (by kernel_rfl) (e := Extern.MathFloatBits.float64bits) (by kernel_rfl)]
  rfl

def scr (f : Nat → Nat) (ns k i : Nat) : Nat := if i < k ∧ i < ns then f i else 0

/-- The head of round k of the third loop: W1 holds all that was laid before. -/
structure L3 (M : Nat) (W1 : World) (np T ns : Nat) (p f : Nat → Nat) (k : Nat) (wx : World) : Prop where
  bel : Below M W1 wx
  b0 : wx.cell? ⟨M, 0, none⟩ = some (.slice (some ⟨M + 1, 0, none⟩) np np)
  b1 : wx.cell? ⟨M, 1, none⟩ = some (.slice (some ⟨M + 1 + 1, 0, none⟩) np np)
  doc : ∀ i, i < np → ∃ v, wx.cell? ⟨M + 1, i, none⟩ = some v ∧ wx.frozen? ⟨M + 1, i, none⟩ = false
  dk : ∀ i, i < k → wx.cell? ⟨M + 1, i, none⟩ = some (.int .i64 ((p i : Int) % (T : Int)))
  sc : ∀ i, i < np → wx.cell? ⟨M + 1 + 1, i, none⟩ = some (.float .f64 (scr f ns k i)) ∧ wx.frozen? ⟨M + 1 + 1, i, none⟩ = false

theorem L3.drew {M : Nat} {W1 : World} {np T ns : Nat} {p f : Nat → Nat} {k : Nat} {wx : World} (L : L3 M W1 np T ns p f k wx) : L3 M W1 np T ns p f k wx.drew := ⟨L.bel.drew, L.b0, L.b1, L.doc, L.dk, L.sc⟩

/-- The document is stored. The score is not yet. -/
theorem L3.pick {M : Nat} {W1 : World} {np T ns : Nat} {p f : Nat → Nat} {k : Nat} {wx : World} (L : L3 M W1 np T ns p f k wx) (hk : k < np) :
    Below M W1 (wx.setCell ⟨M + 1, k, none⟩ (.int .i64 ((p k : Int) % (T : Int)))) ∧
    (wx.setCell ⟨M + 1, k, none⟩ (.int .i64 ((p k : Int) % (T : Int)))).cell? ⟨M, 0, none⟩ = some (.slice (some ⟨M + 1, 0, none⟩) np np) ∧
    (wx.setCell ⟨M + 1, k, none⟩ (.int .i64 ((p k : Int) % (T : Int)))).cell? ⟨M, 1, none⟩ = some (.slice (some ⟨M + 1 + 1, 0, none⟩) np np) ∧
    (∀ i, i < np → ∃ v, (wx.setCell ⟨M + 1, k, none⟩ (.int .i64 ((p k : Int) % (T : Int)))).cell? ⟨M + 1, i, none⟩ = some v ∧ (wx.setCell ⟨M + 1, k, none⟩ (.int .i64 ((p k : Int) % (T : Int)))).frozen? ⟨M + 1, i, none⟩ = false) ∧
    (∀ i, i < k + 1 → (wx.setCell ⟨M + 1, k, none⟩ (.int .i64 ((p k : Int) % (T : Int)))).cell? ⟨M + 1, i, none⟩ = some (.int .i64 ((p i : Int) % (T : Int)))) ∧
    (∀ i, i < np → (wx.setCell ⟨M + 1, k, none⟩ (.int .i64 ((p k : Int) % (T : Int)))).cell? ⟨M + 1 + 1, i, none⟩ = some (.float .f64 (scr f ns k i)) ∧ (wx.setCell ⟨M + 1, k, none⟩ (.int .i64 ((p k : Int) % (T : Int)))).frozen? ⟨M + 1 + 1, i, none⟩ = false) := by
  refine ⟨L.bel.setCell (by simp) _, ?_, ?_, ?_, ?_, ?_⟩
  · rw [World.cell?_setCell_other _ _ _ _ (by simp)]; exact L.b0
  · rw [World.cell?_setCell_other _ _ _ _ (by simp)]; exact L.b1
  · intro i hi
    obtain ⟨v, h1, h2⟩ := L.doc i hi
    obtain ⟨v', hv'⟩ := cell?_setCell_some (p := ⟨M + 1, k, none⟩) (x := .int .i64 ((p k : Int) % (T : Int))) h1
    exact ⟨v', hv', by simpa using h2⟩
  · intro i hi
    by_cases e : i = k
    · subst e
      obtain ⟨v, h1, _⟩ := L.doc i hk
      exact World.cell?_setCell_same _ _ _ h1
    · have hne : (⟨M + 1, k, none⟩ : Addr) ≠ ⟨M + 1, i, none⟩ := fun h => e (by injection h with _ h2; exact h2.symm)
      exact (World.cell?_setCell_other wx _ _ _ hne).trans (L.dk i (by omega))
  · intro i hi
    rw [World.cell?_setCell_other _ _ _ _ (by simp)]
    exact ⟨(L.sc i hi).1, by simpa using (L.sc i hi).2⟩

theorem L3.bare {M : Nat} {W1 : World} {np T ns : Nat} {p f : Nat → Nat} {k : Nat} {wx : World} (L : L3 M W1 np T ns p f k wx) (hk : k < np) (hs : ¬ k < ns) :
    L3 M W1 np T ns p f (k + 1) (wx.setCell ⟨M + 1, k, none⟩ (.int .i64 ((p k : Int) % (T : Int)))) := by
  obtain ⟨h1, h2, h3, h4, h5, h6⟩ := L.pick hk
  refine ⟨h1, h2, h3, h4, h5, fun i hi => ⟨?_, (h6 i hi).2⟩⟩
  rw [(h6 i hi).1]
  unfold scr
  by_cases e : i < k ∧ i < ns
  · rw [if_pos e, if_pos (by omega)]
  · rw [if_neg e, if_neg (by omega)]

theorem L3.scored {M : Nat} {W1 : World} {np T ns : Nat} {p f : Nat → Nat} {k : Nat} {wx : World} (L : L3 M W1 np T ns p f k wx) (hk : k < np) (hs : k < ns) :
    L3 M W1 np T ns p f (k + 1) ((wx.setCell ⟨M + 1, k, none⟩ (.int .i64 ((p k : Int) % (T : Int)))).setCell ⟨M + 1 + 1, k, none⟩ (.float .f64 (f k))) := by
  obtain ⟨h1, h2, h3, h4, h5, h6⟩ := L.pick hk
  have oth : ∀ b o, b ≠ M + 1 + 1 ∨ o ≠ k → ((wx.setCell ⟨M + 1, k, none⟩ (.int .i64 ((p k : Int) % (T : Int)))).setCell ⟨M + 1 + 1, k, none⟩ (.float .f64 (f k))).cell? ⟨b, o, none⟩ = (wx.setCell ⟨M + 1, k, none⟩ (.int .i64 ((p k : Int) % (T : Int)))).cell? ⟨b, o, none⟩ :=
    fun b o h => World.cell?_setCell_other _ _ _ _ (by simp; omega)
  refine ⟨h1.setCell (by simp; omega) _, by rw [oth _ _ (by omega)]; exact h2, by rw [oth _ _ (by omega)]; exact h3, fun i hi => ?_, fun i hi => by rw [oth _ _ (by omega)]; exact h5 i hi, fun i hi => ?_⟩
  · rw [oth _ _ (by omega)]
    obtain ⟨v, q1, q2⟩ := h4 i hi
    exact ⟨v, q1, by simpa using q2⟩
  · refine ⟨?_, by simpa using (h6 i hi).2⟩
    by_cases e : i = k
    · subst e
      rw [World.cell?_setCell_same _ _ _ (h6 i hk).1]
      unfold scr
      rw [if_pos (by omega)]
    · rw [oth _ _ (by omega), (h6 i hi).1]
      unfold scr
      by_cases e' : i < k ∧ i < ns
      · rw [if_pos e', if_pos (by omega)]
      · rw [if_neg e', if_neg (by omega)]

theorem made_one (z : Value) (n i : Nat) (hi : i < n) : (madeCells #[z] n)[i]? = some z := by
  have h : (madeCells #[z] n).toList = List.replicate n z := toList_madeCells_one z n
  rw [← Array.getElem?_toList, h]
  simp [hi]

theorem l3_start (M : Nat) (W1 : World) (hM : M = W1.heap.size) (np T ns : Nat) (p f : Nat → Nat) (t0 t1 t2 : TypeId) :
    L3 M W1 np T ns p f 0 (((W1.alloc (.cells #[.slice (some ⟨M + 1, 0, none⟩) np np, .slice (some ⟨M + 1 + 1, 0, none⟩) np np] t0)).alloc (.cells (madeCells #[.int .i64 0] np) t1)).alloc (.cells (madeCells #[.float .f64 0] np) t2)) := by
  subst hM
  refine ⟨(((Below.refl _ _).alloc (Nat.le_refl _) _).alloc (by simp) _).alloc (by simp; omega) _, ?_, ?_, ?_, by intro i hi; omega, ?_⟩
  · rw [World.cell?_alloc_past _ _ _ (by simp; omega), World.cell?_alloc_past _ _ _ (by simp), World.cell?_alloc_at _ _ _ _ rfl]; rfl
  · rw [World.cell?_alloc_past _ _ _ (by simp; omega), World.cell?_alloc_past _ _ _ (by simp), World.cell?_alloc_at _ _ _ _ rfl]; rfl
  · intro i hi
    refine ⟨.int .i64 0, ?_, ?_⟩
    · rw [World.cell?_alloc_past _ _ _ (by simp), World.cell?_alloc_at _ _ _ _ (by simp)]; exact made_one _ _ _ hi
    · rw [World.frozen?_alloc_past _ _ _ (by simp), World.frozen?_alloc_at _ _ _ _ (by simp)]
  · intro i hi
    refine ⟨?_, ?_⟩
    · rw [World.cell?_alloc_at _ _ _ _ (by simp)]; exact made_one _ _ _ hi
    · rw [World.frozen?_alloc_at _ _ _ _ (by simp)]

/-- All that the fourth loop reads. -/
structure F4 (H M np T ga : Nat) (w : World) (D g : Nat → Nat) (S : Nat → ByteArray) (wx : World) : Prop where
  bel : Below w.heap.size w wx
  hit : ∀ i, i < np → wx.cell? ⟨H, i * 3, none⟩ = some (.string (S (D i))) ∧ wx.cell? ⟨H, i * 3 + 1, none⟩ = some (.float .f64 (g i)) ∧ wx.cell? ⟨H, i * 3 + 2, none⟩ = some (.slice none 0 0)
  b0 : wx.cell? ⟨M, 0, none⟩ = some (.slice (some ⟨M + 1, 0, none⟩) np np)
  b1 : wx.cell? ⟨M, 1, none⟩ = some (.slice (some ⟨M + 1 + 1, 0, none⟩) np np)
  doc : ∀ i, i < np → wx.cell? ⟨M + 1, i, none⟩ = some (.int .i64 (D i : Int)) ∧ D i < T
  sc : ∀ i, i < np → wx.cell? ⟨M + 1 + 1, i, none⟩ = some (.float .f64 (g i))
  all : ∀ q, q < T → wx.cell? ⟨ga, q, none⟩ = some (.string (S q))
theorem F4.drewN {H M np T ga : Nat} {w : World} {D g : Nat → Nat} {S : Nat → ByteArray} {wx : World} (F : F4 H M np T ga w D g S wx) (nq : Nat) : F4 H M np T ga w D g S (wx.drewN nq) :=
  ⟨⟨F.bel.os, F.bel.tape, F.bel.output, F.bel.size, F.bel.block⟩, F.hit, F.b0, F.b1, F.doc, F.sc, F.all⟩

theorem f4_of {M np T ns ga : Nat} {w W1 wx w3 : World} {p f : Nat → Nat} {S : Nat → ByteArray} {v0 v1 : Value} (L : L3 M W1 np T ns p f np wx) (hT : 0 < T) (hw : Below w.heap.size w wx) (hal : ∀ q, q < T → wx.cell? ⟨ga, q, none⟩ = some (.string (S q)))
    (R : HR wx.heap.size np wx v0 v1 (fun i => p i % T) S (scr f ns np) np w3) : F4 (wx.heap.size + 1) M np T ga w (fun i => p i % T) (scr f ns np) S w3 := by
  have c : ∀ {p v}, wx.cell? p = some v → w3.cell? p = some v := fun {p _} hp => (R.bel.cell (World.block_lt_of_cell? wx p hp)).trans hp
  exact ⟨hw.trans (R.bel.mono hw.size), fun i hi => R.hit i hi, c L.b0, c L.b1, fun i hi => ⟨by rw [c (L.dk i hi)]; simp, Nat.mod_lt _ hT⟩, fun i hi => c (L.sc i hi).1, fun q hq => c (hal q hq)⟩
theorem l3_docs {M np T ns : Nat} {W1 wx : World} {p f : Nat → Nat} (L : L3 M W1 np T ns p f np wx) (hT : 0 < T) : ∀ i, i < np → ∃ g, (some ⟨M + 1, 0, none⟩ : Option Addr) = some ⟨g, 0, none⟩ ∧ wx.cell? ⟨g, i, none⟩ = some (.int .i64 (((fun i => p i % T) i : Nat) : Int)) ∧ (fun i => p i % T) i < T :=
  fun i hi => ⟨M + 1, rfl, by rw [L.dk i hi]; simp, Nat.mod_lt _ hT⟩
end Go.Proofs.Ybulkwlq

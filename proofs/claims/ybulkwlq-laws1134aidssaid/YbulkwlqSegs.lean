/- What lies in memory while LawS1134AIds lays its segments. Nothing of the program. -/
import Derived.Test.YbulkwlqMem
namespace Go.Proofs.Ybulkwlq
open Go.RowKit
def strC (S : Nat → ByteArray) (a n : Nat) : List Value := (List.range n).map fun j => .string (S (a + j))
def segC (sb : Nat → Nat) (k : Nat) : List Value := (List.range k).flatMap fun i => [.pointer (some ⟨sb i, 0, none⟩), .pointer none]
def baseC (base : Nat → Nat) (k : Nat) : List Value := (List.range k).map fun i => .int .i64 (base i : Int)
def upd {α : Type} (f : Nat → α) (k : Nat) (x : α) : Nat → α := fun i => if i = k then x else f i

theorem upd_at {α : Type} (f : Nat → α) (k : Nat) (x : α) : upd f k x k = x := by simp [upd]
theorem upd_lt {α : Type} (f : Nat → α) {k i : Nat} (x : α) (h : i < k) : upd f k x i = f i := by simp [upd]; omega
theorem strC_len (S : Nat → ByteArray) (a n : Nat) : (strC S a n).length = n := by simp [strC]
theorem strC_get (S : Nat → ByteArray) (a n j : Nat) (h : j < n) : (strC S a n)[j]? = some (.string (S (a + j))) := by simp [strC, h]
theorem strC_congr {S S' : Nat → ByteArray} {a n : Nat} (h : ∀ q, a ≤ q → q < a + n → S q = S' q) : strC S a n = strC S' a n := by
  unfold strC
  refine List.map_congr_left fun j hj => ?_
  rw [List.mem_range] at hj
  rw [h _ (by omega) (by omega)]
theorem strC_add (S : Nat → ByteArray) (n m : Nat) : strC S 0 (n + m) = strC S 0 n ++ strC S n m := by
  unfold strC
  rw [List.range_add, List.map_append, List.map_map]
  simp [Function.comp_def]
theorem segC_succ (sb : Nat → Nat) (k : Nat) : segC sb (k + 1) = segC sb k ++ [.pointer (some ⟨sb k, 0, none⟩), .pointer none] := by
  unfold segC
  rw [List.range_succ, List.flatMap_append]
  simp
theorem segC_congr {sb sb' : Nat → Nat} {k : Nat} (h : ∀ i, i < k → sb i = sb' i) : segC sb k = segC sb' k := by
  induction k with
  | zero => rfl
  | succ k ih => rw [segC_succ, segC_succ, ih (fun i hi => h i (by omega)), h k (by omega)]
theorem segC_get (sb : Nat → Nat) : ∀ (k i : Nat), i < k → (segC sb k)[i * 2]? = some (.pointer (some ⟨sb i, 0, none⟩))
  | k + 1, i, h => by
    have hl : (segC sb k).length = k * 2 := by
      clear h
      induction k with
      | zero => rfl
      | succ k ih => rw [segC_succ, List.length_append, ih]; simp; omega
    rw [segC_succ]
    by_cases e : i = k
    · subst e; rw [List.getElem?_append_right (by omega), hl]; simp
    · rw [List.getElem?_append_left (by omega)]; exact segC_get sb k i (by omega)
theorem baseC_succ (base : Nat → Nat) (k : Nat) : baseC base (k + 1) = baseC base k ++ [.int .i64 (base k : Int)] := by
  unfold baseC
  rw [List.range_succ, List.map_append]; rfl
theorem baseC_get (base : Nat → Nat) (k i : Nat) (h : i < k) : (baseC base k)[i]? = some (.int .i64 (base i : Int)) := by simp [baseC, h]

structure LX (w : World) (base sz : Nat → Nat) (kb ki : Nat) (sb ib : Nat → Nat) (S : Nat → ByteArray) (n7 n8 n9 : Nat) (c7 c8 c9 : List Value) (v7 v8 v9 : Value) (W : World) : Prop where
  bel : Below w.heap.size w W
  segs : W.ownsRow w.heap.size 52 2 v7 n7 c7
  bas : W.ownsRow w.heap.size 3 1 v8 n8 c8
  all : W.ownsRow w.heap.size 9 1 v9 n9 c9
  box : ∀ i, i < kb → ∃ C : Array Value, W.heap[sb i]? = some (.cells C 49 (0, 0)) ∧ C[2]? = some (.slice (some ⟨ib i, 0, none⟩) (sz i) (sz i))
  ids : ∀ i, i < ki → W.heap[ib i]? = some (.cells (strC S (base i) (sz i)).toArray 9 (0, 0)) ∧ v9.ownBlock ≠ some (ib i)

section
variable {w : World} {base sz : Nat → Nat} {kb ki : Nat} {sb ib : Nat → Nat} {S : Nat → ByteArray} {n7 n8 n9 : Nat} {c7 c8 c9 : List Value} {v7 v8 v9 : Value} {W W' : World}

theorem LX.later (L : LX w base sz kb ki sb ib S n7 n8 n9 c7 c8 c9 v7 v8 v9 W) (hb : Below W.heap.size W W') : LX w base sz kb ki sb ib S n7 n8 n9 c7 c8 c9 v7 v8 v9 W' :=
  ⟨L.bel.trans (hb.mono L.bel.size), owns_below L.segs hb, owns_below L.bas hb, owns_below L.all hb,
    fun i hi => by obtain ⟨C, h1, h2⟩ := L.box i hi; exact ⟨C, by rw [hb.block _ (lt_of_heap h1)]; exact h1, h2⟩,
    fun i hi => by obtain ⟨h1, h2⟩ := L.ids i hi; exact ⟨by rw [hb.block _ (lt_of_heap h1)]; exact h1, h2⟩⟩

theorem below_alloc (W : World) (o : Obj) : Below W.heap.size W (W.alloc o) := (Below.refl _ _).alloc (Nat.le_refl _) o

theorem LX.app8 (L : LX w base sz kb ki sb ib S n7 n8 n9 c7 c8 c9 v7 v8 v9 W) {v8' : Value} {n8' : Nat} {c8' : List Value} (ho : W'.ownsRow w.heap.size 3 1 v8' n8' c8') (hg : W.grownBy W' v8.ownBlock) :
    LX w base sz kb ki sb ib S n7 n8' n9 c7 c8' c9 v7 v8' v9 W' :=
  ⟨L.bel.grown hg L.bel.size (fun k hk => ownBlock_ge L.bas k hk), L.segs.kept hg (own_own L.segs L.bas (by decide)), ho, L.all.kept hg (own_own L.all L.bas (by decide)),
    fun i hi => by obtain ⟨C, h1, h2⟩ := L.box i hi; exact ⟨C, by rw [hg.block _ (lt_of_heap h1) (fun e => own_ne L.bas h1 (by decide) e.symm)]; exact h1, h2⟩,
    fun i hi => by obtain ⟨h1, h2⟩ := L.ids i hi; exact ⟨by rw [hg.block _ (lt_of_heap h1) (fun e => own_ne L.bas h1 (by decide) e.symm)]; exact h1, h2⟩⟩

theorem LX.app7 (L : LX w base sz kb ki sb ib S n7 n8 n9 c7 c8 c9 v7 v8 v9 W) {v7' : Value} {n7' : Nat} {c7' : List Value} (ho : W'.ownsRow w.heap.size 52 2 v7' n7' c7') (hg : W.grownBy W' v7.ownBlock) :
    LX w base sz kb ki sb ib S n7' n8 n9 c7' c8 c9 v7' v8 v9 W' :=
  ⟨L.bel.grown hg L.bel.size (fun k hk => ownBlock_ge L.segs k hk), ho, L.bas.kept hg (own_own L.bas L.segs (by decide)), L.all.kept hg (own_own L.all L.segs (by decide)),
    fun i hi => by obtain ⟨C, h1, h2⟩ := L.box i hi; exact ⟨C, by rw [hg.block _ (lt_of_heap h1) (fun e => own_ne L.segs h1 (by decide) e.symm)]; exact h1, h2⟩,
    fun i hi => by obtain ⟨h1, h2⟩ := L.ids i hi; exact ⟨by rw [hg.block _ (lt_of_heap h1) (fun e => own_ne L.segs h1 (by decide) e.symm)]; exact h1, h2⟩⟩

theorem LX.app9 (L : LX w base sz kb ki sb ib S n7 n8 n9 c7 c8 c9 v7 v8 v9 W) {v9' : Value} {n9' : Nat} {c9' : List Value} (ho : W'.ownsRow w.heap.size 9 1 v9' n9' c9') (hg : W.grownBy W' v9.ownBlock)
    (hw : v9'.ownBlock = v9.ownBlock ∨ v9'.ownBlock = some W.heap.size) :
    LX w base sz kb ki sb ib S n7 n8 n9' c7 c8 c9' v7 v8 v9' W' :=
  ⟨L.bel.grown hg L.bel.size (fun k hk => ownBlock_ge L.all k hk), L.segs.kept hg (own_own L.segs L.all (by decide)), L.bas.kept hg (own_own L.bas L.all (by decide)), ho,
    fun i hi => by obtain ⟨C, h1, h2⟩ := L.box i hi; exact ⟨C, by rw [hg.block _ (lt_of_heap h1) (fun e => own_ne L.all h1 (by decide) e.symm)]; exact h1, h2⟩,
    fun i hi => by
      obtain ⟨h1, h2⟩ := L.ids i hi
      refine ⟨by rw [hg.block _ (lt_of_heap h1) (fun e => h2 e.symm)]; exact h1, fun e => ?_⟩
      rcases hw with hw | hw
      · exact h2 (hw ▸ e)
      · rw [hw] at e
        have := lt_of_heap h1
        simp at e
        omega⟩

theorem LX.addIds (L : LX w base sz ki ki sb ib S n7 n8 n9 c7 c8 c9 v7 v8 v9 W) {S' : Nat → ByteArray} {I : Nat} (hI : W.heap[I]? = some (.cells (strC S' (base ki) (sz ki)).toArray 9 (0, 0))) (hv : v9.ownBlock ≠ some I)
    (hS : ∀ q, q < base ki → S q = S' q) (hbs : ∀ i, i < ki → base i + sz i ≤ base ki) :
    LX w base sz ki (ki + 1) sb (upd ib ki I) S' n7 n8 n9 c7 c8 c9 v7 v8 v9 W :=
  ⟨L.bel, L.segs, L.bas, L.all, fun i hi => by rw [upd_lt ib I hi]; exact L.box i hi, fun i hi => by
    by_cases e : i = ki
    · subst e; rw [upd_at]; exact ⟨hI, hv⟩
    · rw [upd_lt ib I (by omega), ← strC_congr (S := S) (fun q _ hq => hS q (by have := hbs i (by omega); omega))]; exact L.ids i (by omega)⟩

theorem LX.addBox (L : LX w base sz kb ki sb ib S n7 n8 n9 c7 c8 c9 v7 v8 v9 W) {B : Nat} {C : Array Value} (hB : W.heap[B]? = some (.cells C 49 (0, 0))) (hC : C[2]? = some (.slice (some ⟨ib kb, 0, none⟩) (sz kb) (sz kb))) :
    LX w base sz (kb + 1) ki (upd sb kb B) ib S n7 n8 n9 c7 c8 c9 v7 v8 v9 W :=
  ⟨L.bel, L.segs, L.bas, L.all, fun i hi => by
    by_cases e : i = kb
    · subst e; rw [upd_at]; exact ⟨C, hB, hC⟩
    · rw [upd_lt sb B (by omega)]; exact L.box i (by omega), L.ids⟩
end
/-- The old strings below n, the new ones from n on. -/
def joinS (S s : Nat → ByteArray) (n : Nat) : Nat → ByteArray := fun q => if q < n then S q else s (q - n)
theorem joinS_old {S s : Nat → ByteArray} {n q : Nat} (h : q < n) : S q = joinS S s n q := by simp [joinS, h]
theorem joinS_row {S s : Nat → ByteArray} {n m : Nat} {C : Array Value} (hC : C.size = m) (hg : ∀ q, q < m → C[q]? = some (.string (s q))) : C = (strC (joinS S s n) n m).toArray := by
  apply Array.ext_getElem?
  intro q
  have e : (strC (joinS S s n) n m).toArray[q]? = (strC (joinS S s n) n m)[q]? := by simp
  rw [e]
  by_cases h : q < m
  · rw [hg q h, strC_get _ _ _ _ h, joinS, if_neg (by omega), Nat.add_sub_cancel_left]
  · rw [Array.getElem?_eq_none (by omega), List.getElem?_eq_none (by rw [strC_len]; omega)]
theorem lx_next {w : World} {base sz : Nat → Nat} {k : Nat} {sb ib : Nat → Nat} {S s : Nat → ByteArray} {B : Nat} {v7 v8 v9 : Value} {W : World} {n : Nat} (hn : n = base k + sz k) (hb : base (k + 1) = base k + sz k)
    (L : LX w base sz (k + 1) (k + 1) (upd sb k B) ib (joinS S s (base k)) (k + 1) (k + 1) n (segC sb k ++ [.pointer (some ⟨B, 0, none⟩), .pointer none]) (baseC base k ++ [.int .i64 (base k : Int)]) (strC S 0 (base k) ++ strC (joinS S s (base k)) (base k) (sz k)) v7 v8 v9 W) :
    LX w base sz (k + 1) (k + 1) (upd sb k B) ib (joinS S s (base k)) (k + 1) (k + 1) (base (k + 1)) (segC (upd sb k B) (k + 1)) (baseC base (k + 1)) (strC (joinS S s (base k)) 0 (base (k + 1))) v7 v8 v9 W := by
  rw [segC_succ, ← segC_congr (sb := sb) (fun i hi => (upd_lt sb B hi).symm), upd_at, baseC_succ, hb, strC_add, ← strC_congr (S := S) (fun q _ hq => joinS_old (by omega)), ← hn]
  exact L
end Go.Proofs.Ybulkwlq

/- The state of a *pkg that the law made: a map of names to tests, the order of the names, the tests. -/
import Derived.Test.YbulkwngSl
import Derived.Test.YbulkwngMem
import Derived.Maps.Own
import Derived.Maps.OwnSet
import Derived.Maps.OwnOps
import Derived.Maps.Views
import Derived.StringKeys
namespace Go.Proofs.Ybulkwng
open Go.RowKit Go.ChangeMaps
open Go.WideMaps (keyOf_string_mk)
open Go.Maps (Keyed string_keyed Tidy)

/-- How a pointer to a test reads here: by its block. -/
def code : Option Nat → DataW Unit
  | none => .nil
  | some b => .lit (.int .i64 b)
def ptrV : Option Nat → Value
  | none => .pointer none
  | some b => .pointer (some ⟨b, 0, none⟩)
def ptrElem : Value → Option (DataW Unit × List MemPlace)
  | .pointer none => some (.nil, [])
  | .pointer (some ⟨b, 0, none⟩) => some (.lit (.int .i64 b), [])
  | _ => none
theorem ptrElem_mk (o : Option Nat) : ptrElem (ptrV o) = some (code o, []) := by cases o <;> rfl
theorem ptrElem_inv {v : Value} {o : Option Nat} {ps : List MemPlace} (h : ptrElem v = some (code o, ps)) : v = ptrV o := by
  unfold ptrElem at h
  split at h
  · cases o
    · rfl
    · simp [code] at h
  · cases o
    · simp [code] at h
    · simp [code] at h
      obtain ⟨h, _⟩ := h
      have h' := Int.ofNat.inj h
      rw [h', ptrV]
  · cases h

def find : List (ByteArray × Nat) → ByteArray → Option Nat
  | [], _ => none
  | p :: r, s => if p.1.data.toList = s.data.toList then some p.2 else find r s
theorem data_inj {s t : ByteArray} (h : s.data.toList = t.data.toList) : s = t := by
  cases s; cases t; simp at h; subst h; rfl
theorem find_some {L : List (ByteArray × Nat)} {s : ByteArray} {q : Nat} (h : find L s = some q) : (s, q) ∈ L := by
  induction L with
  | nil => simp [find] at h
  | cons p r ih =>
    unfold find at h
    split at h
    · rename_i e
      have e1 := data_inj e
      simp at h
      subst e1; subst h
      simp
    · exact List.mem_cons_of_mem _ (ih h)
theorem find_none {L : List (ByteArray × Nat)} {s : ByteArray} (h : find L s = none) : s ∉ L.map (·.1) := by
  induction L with
  | nil => simp
  | cons p r ih =>
    unfold find at h
    split at h
    · simp at h
    · rename_i e
      have := ih h
      simp only [List.map_cons, List.mem_cons, not_or]
      exact ⟨fun e1 => e (by rw [e1]), this⟩
theorem find_mem {L : List (ByteArray × Nat)} {s : ByteArray} {q : Nat} (h : find L s = some q) : s ∈ L.map (·.1) := List.mem_map.2 ⟨_, find_some h, rfl⟩
theorem find_snoc (L : List (ByteArray × Nat)) (s t : ByteArray) (q : Nat) (h : find L s = none) : find (L ++ [(s, q)]) t = if s.data.toList = t.data.toList then some q else find L t := by
  induction L with
  | nil => simp [find]
  | cons p r ih =>
    unfold find at h
    split at h
    · simp at h
    · rename_i e
      have := ih h
      simp only [List.cons_append, find]
      rw [this]
      split
      · rename_i e1
        rw [if_neg (fun e2 => e (by rw [e1, e2]))]
      · rfl
theorem find_snoc_self {L : List (ByteArray × Nat)} {s : ByteArray} {q : Nat} (h : find L s = none) : find (L ++ [(s, q)]) s = some q := by rw [find_snoc L s s q h, if_pos rfl]

theorem law9 : Keyed Yba.prog 9 := string_keyed Yba.underlying9
theorem zero23 (w : World) : (zeroValue 23).run Yba.prog w = .ok (.pointer none) w := by kernel_rfl

/-- Block bm of w is a map that holds just what L says. -/
structure MapIs (w : World) (bm : Nat) (L : List (ByteArray × Nat)) (D : DataW Unit) : Prop where
  own : w.ownsMap Yba.prog 9 ptrElem bm L.length D
  size : Maps.size D = L.length
  has : ∀ s : ByteArray, Maps.has D (.string s.data.toList) = (find L s).isSome
  at_ : ∀ s : ByteArray, D.atKey (.string s.data.toList) .nil = code (find L s)

theorem MapIs.look {w : World} {bm : Nat} {L : List (ByteArray × Nat)} {D : DataW Unit} (h : MapIs w bm L D) {s : ByteArray} (hs : s.size ≤ maxLen) :
    (Instr.lookup 29 (.map (some bm)) (.string s) false).run Yba.prog w = .ok (ptrV (find L s)) w := by
  obtain ⟨v, ps, hrun, hv⟩ := h.own.lookup law9 Yba.underlying29 (zero23 w) (zd := .nil) (zp := []) rfl (keyOf_string_mk Yba.underlying9 hs)
  rw [h.at_ s] at hv
  rw [hrun, ptrElem_inv hv]

theorem MapIs.len {w : World} {bm : Nat} {L : List (ByteArray × Nat)} {D : DataW Unit} (h : MapIs w bm L D) (ty : TypeId) : (Builtin.len_ #[29] ty #[.map (some bm)]).run Yba.prog w = .ok (.int .i64 L.length) w := by
  rw [h.own.len Yba.underlying29 ty, h.size]

/-- What a store makes of it. -/
theorem MapIs.snoc {w w' : World} {bm : Nat} {L : List (ByteArray × Nat)} {D : DataW Unit} (h : MapIs w bm L D) {s : ByteArray} {q : Nat} (hn : find L s = none)
    (hown : w'.ownsMap Yba.prog 9 ptrElem bm (L.length + 1) (D.put (.string s.data.toList) (code (some q)))) : MapIs w' bm (L ++ [(s, q)]) (D.put (.string s.data.toList) (code (some q))) := by
  have hk : WideAt.IsKeyLit (.string s.data.toList) := trivial
  refine ⟨by simpa using hown, ?_, fun t => ?_, fun t => ?_⟩
  · rw [Maps.size_put (h.own.tidy law9), h.has s, hn, h.size]
    simp
  · rw [find_snoc L s t q hn]
    split
    · rename_i e
      rw [← e, Maps.has_put_same h.own.isMap hk]; rfl
    · rename_i e
      rw [Maps.has_put_other (fun e1 => e (by injection e1 with e1; exact e1.symm)), h.has t]
  · rw [find_snoc L s t q hn]
    split
    · rename_i e
      rw [← e, Maps.atKey_put_same h.own.isMap hk]
    · rename_i e
      rw [Maps.atKey_put_other (fun e1 => e (by injection e1 with e1; exact e1.symm)), h.at_ t]

theorem MapIs.same {w w' : World} {bm : Nat} {L : List (ByteArray × Nat)} {D : DataW Unit} (h : MapIs w bm L D) (hb : w'.heap[bm]? = w.heap[bm]?) : MapIs w' bm L D := by
  obtain ⟨es, clock, h1, h2⟩ := h.own
  exact ⟨⟨es, clock, hb.trans h1, h2⟩, h.size, h.has, h.at_⟩

theorem MapIs.heap {w : World} {bm : Nat} {L : List (ByteArray × Nat)} {D : DataW Unit} (h : MapIs w bm L D) : ∃ es clock, w.heap[bm]? = some (.map es clock) := by
  obtain ⟨es, clock, h1, _⟩ := h.own
  exact ⟨es, clock, h1⟩

/-- An empty map. -/
theorem MapIs_made (w : World) : MapIs (w.alloc (.map #[] 0)) w.heap.size [] (.map []) := by
  refine ⟨World.ownsMap_made w Yba.prog 9 ptrElem, rfl, fun s => rfl, fun s => rfl⟩

def failS : ByteArray := ⟨#[102, 97, 105, 108]⟩
def endOf (s : ByteArray) : ByteArray := if s.data.toList = [] then failS else ⟨#[]⟩

/-- The state of the *pkg in block bp: v its order, bm its map. -/
structure Pk (B : Nat) (w : World) (bp bm : Nat) (v : Value) (L : List (ByteArray × Nat)) (D : DataW Unit) : Prop where
  hp : w.heap[bp]? = some (.cells #[.bool false, v, .map (some bm)] 31 (0, 0))
  ho : w.ownsRow B 9 1 v L.length ((L.map (·.1)).map Value.string)
  hm : MapIs w bm L D
  gp : B ≤ bp
  gm : B ≤ bm
  ts : ∀ p ∈ L, B ≤ p.2 ∧ w.heap[p.2]? = some (.cells #[.string (endOf p.1), .pointer none] 27 (0, 0))
end Go.Proofs.Ybulkwng

/- What lies in memory in the second loop of plan.zzs1130abuild. Nothing of the program. -/
import Derived.Test.YbulkwjmAPlain
namespace Go.Proofs.Ybulkwjm
open Go.RowKit
def gz : Array Value := #[.string ⟨#[]⟩, .string ⟨#[]⟩, .int .i64 0, .int .i64 0, .int .i64 0, .int .i64 0, .int .i64 0, .int .i64 0, .int .i64 0, .slice none 0 0, .string ⟨#[]⟩, .bool false, .slice none 0 0, .bool false,
  .int .i64 0, .int .i64 0, .int .i64 0, .int .i64 0, .int .i64 0, .int .i64 0, .int .i64 0, .int .u8 0, .int .u8 0, .int .i64 0, .int .i64 0, .map none, .slice none 0 0,
  .int .i64 0, .int .i64 0, .int .i64 0, .int .i64 0, .bool false, .int .i64 0, .int .i64 0, .nilIface, .slice none 0 0, .map none, .int .i64 0, .int .i64 0, .slice none 0 0, .bool false, .bool false]
def grp : Array Value := madeCells gz 84
theorem grp_size : grp.size = 84 := size_madeCells _ _
theorem grp_8 : grp[8]? = some (.int .i64 0) := by kernel_rfl
theorem grp_50 : grp[50]? = some (.int .i64 0) := by kernel_rfl

/-- The thirteen cells of an instance type whose memory is m. -/
def tcell (m : Int) : Nat → Value
  | 0 | 9 => .string ⟨#[]⟩
  | 7 => .int .i64 m
  | 8 | 11 => .slice none 0 0
  | 10 | 12 => .bool false
  | _ => .int .i64 0
/-- The seven cells of a group's offer. -/
def ocell (bs ds : Nat → Int) (sw k : Bool) (q : Nat) : Nat → Value
  | 0 => .int .i64 (FA bs ds sw q)
  | 1 => .int .i64 (FA bs ds sw (2 + q))
  | 3 => .int .i64 (FA bs ds sw (4 + q))
  | 4 => .bool k
  | 5 => .int .i64 (FA bs ds sw (6 + q))
  | 6 => .int .i64 (FA bs ds sw (8 + q))
  | _ => .int .i64 0
/-- The figures, those of unknown storage struck in the groups below s. -/
def FG (bs ds : Nat → Int) (sw ka kb : Bool) (s j : Nat) : Int :=
  if j = 4 ∧ 0 < s ∧ ka = false then 0 else if j = 5 ∧ 1 < s ∧ kb = false then 0 else FA bs ds sw j

structure A2 (N : Nat) (w : World) (bs ds : Nat → Int) (sw ka kb : Bool) (ma mb : Nat) (m0 m1 : Int) (s : Nat) (wr : World) : Prop where
  af : AF N w (pcells bs ds sw ka kb ma mb) wr
  size : wr.heap.size = N + 7
  fig : ∀ j, j < 10 → wr.cell? ⟨N + 1 + 1 + 1, j, none⟩ = some (.int .i64 (FG bs ds sw ka kb s j))
  grp : ∀ j, j < 84 → ∃ v, wr.cell? ⟨N + 4, j, none⟩ = some v ∧ wr.frozen? ⟨N + 4, j, none⟩ = false
  typ : ∀ q, q < 2 → ∀ c, c < 13 → wr.cell? ⟨N + 4, q * 42 + 1 + c, none⟩ = some (tcell (if q = 0 then m0 else m1) c)
  off : ∀ q, q < s → q < 2 → ∀ c, c < 7 → wr.cell? ⟨N + 4, q * 42 + 27 + c, none⟩ = some (ocell bs ds sw (if q = 0 then ka else kb) q c)
  mem0 : wr.cell? ⟨N + 4 + 1, 0, none⟩ = some (.int .i64 m0)
  mem1 : wr.cell? ⟨N + 4 + 1, 1, none⟩ = some (.int .i64 m1)
  kn0 : wr.cell? ⟨N + 4 + 1 + 1, 0, none⟩ = some (.bool ka)
  kn1 : wr.cell? ⟨N + 4 + 1 + 1, 1, none⟩ = some (.bool kb)

theorem A2.drew {N : Nat} {w : World} {bs ds : Nat → Int} {sw ka kb : Bool} {ma mb : Nat} {m0 m1 : Int} {s : Nat} {wr : World} (A : A2 N w bs ds sw ka kb ma mb m0 m1 s wr) : A2 N w bs ds sw ka kb ma mb m0 m1 s wr.drew :=
  ⟨A.af.drew, A.size, A.fig, A.grp, A.typ, A.off, A.mem0, A.mem1, A.kn0, A.kn1⟩

/-- The offer of group s is laid. The figures are not yet touched. -/
theorem A2.offer {N : Nat} {w : World} {bs ds : Nat → Int} {sw ka kb : Bool} {ma mb : Nat} {m0 m1 : Int} {s : Nat} {wr : World} (A : A2 N w bs ds sw ka kb ma mb m0 m1 s wr) (hs : s < 2) (k : Bool) (hk : k = if s = 0 then ka else kb) (vs : List Value)
    (hv : vs = [ocell bs ds sw k s 0, ocell bs ds sw k s 1, ocell bs ds sw k s 2, ocell bs ds sw k s 3, ocell bs ds sw k s 4, ocell bs ds sw k s 5, ocell bs ds sw k s 6]) :
    AF N w (pcells bs ds sw ka kb ma mb) (wr.setCells (N + 4) (s * 42 + 27) vs) ∧ (wr.setCells (N + 4) (s * 42 + 27) vs).heap.size = N + 7 ∧
    (∀ j, j < 10 → (wr.setCells (N + 4) (s * 42 + 27) vs).cell? ⟨N + 1 + 1 + 1, j, none⟩ = some (.int .i64 (FG bs ds sw ka kb s j))) ∧
    (∀ j, j < 84 → ∃ v, (wr.setCells (N + 4) (s * 42 + 27) vs).cell? ⟨N + 4, j, none⟩ = some v ∧ (wr.setCells (N + 4) (s * 42 + 27) vs).frozen? ⟨N + 4, j, none⟩ = false) ∧
    (∀ q, q < 2 → ∀ c, c < 13 → (wr.setCells (N + 4) (s * 42 + 27) vs).cell? ⟨N + 4, q * 42 + 1 + c, none⟩ = some (tcell (if q = 0 then m0 else m1) c)) ∧
    (∀ q, q < s + 1 → q < 2 → ∀ c, c < 7 → (wr.setCells (N + 4) (s * 42 + 27) vs).cell? ⟨N + 4, q * 42 + 27 + c, none⟩ = some (ocell bs ds sw (if q = 0 then ka else kb) q c)) ∧
    (∀ b o, b = N + 4 + 1 ∨ b = N + 4 + 1 + 1 → (wr.setCells (N + 4) (s * 42 + 27) vs).cell? ⟨b, o, none⟩ = wr.cell? ⟨b, o, none⟩) := by
  have lv : vs.length = 7 := by rw [hv]; rfl
  have th : ∀ j, j < vs.length → ∃ v, wr.cell? ⟨N + 4, s * 42 + 27 + j, none⟩ = some v ∧ wr.frozen? ⟨N + 4, s * 42 + 27 + j, none⟩ = false := fun j hj => A.grp _ (by omega)
  refine ⟨A.af.set _ _ _ (by omega), by rw [size_setCells]; exact A.size, ?_, ?_, ?_, ?_, ?_⟩
  · intro j hj; rw [cell_out _ _ _ _ _ _ (by omega)]; exact A.fig j hj
  · exact fun j hj => there_setCells1 _ _ _ _ _ (A.grp j hj)
  · intro q hq c hc; rw [cell_out _ _ _ _ _ _ (by omega)]; exact A.typ q hq c hc
  · intro q hq hq2 c hc
    by_cases h : q = s
    · subst h
      refine cell_in wr (N + 4) (q * 42 + 27) vs th c _ ?_
      rw [hv, ← hk]
      match c, hc with
      | 0, _ | 1, _ | 2, _ | 3, _ | 4, _ | 5, _ | 6, _ => rfl
    · rw [cell_out _ _ _ _ _ _ (by omega)]; exact A.off q (by omega) hq2 c hc
  · intro b o hb; rw [cell_out _ _ _ _ _ _ (by omega)]

theorem fg_kept (bs ds : Nat → Int) (sw ka kb : Bool) (s j : Nat) (hs : s < 2) (hk : (if s = 0 then ka else kb) = true) : FG bs ds sw ka kb s j = FG bs ds sw ka kb (s + 1) j := by
  unfold FG
  obtain rfl | rfl : s = 0 ∨ s = 1 := by omega
  · simp at hk; simp [hk]
  · simp at hk; simp [hk]

theorem A2.step_known {N : Nat} {w : World} {bs ds : Nat → Int} {sw ka kb : Bool} {ma mb : Nat} {m0 m1 : Int} {s : Nat} {wr : World} (A : A2 N w bs ds sw ka kb ma mb m0 m1 s wr) (hs : s < 2) (hk : (if s = 0 then ka else kb) = true) (vs : List Value)
    (hv : vs = [ocell bs ds sw true s 0, ocell bs ds sw true s 1, ocell bs ds sw true s 2, ocell bs ds sw true s 3, ocell bs ds sw true s 4, ocell bs ds sw true s 5, ocell bs ds sw true s 6]) :
    A2 N w bs ds sw ka kb ma mb m0 m1 (s + 1) (wr.setCells (N + 4) (s * 42 + 27) vs) := by
  obtain ⟨h1, h2, h3, h4, h5, h6, h7⟩ := A.offer hs true hk.symm vs hv
  exact ⟨h1, h2, fun j hj => by rw [h3 j hj, fg_kept bs ds sw ka kb s j hs hk], h4, h5, h6, by rw [h7 _ _ (Or.inl rfl)]; exact A.mem0, by rw [h7 _ _ (Or.inl rfl)]; exact A.mem1, by rw [h7 _ _ (Or.inr rfl)]; exact A.kn0, by rw [h7 _ _ (Or.inr rfl)]; exact A.kn1⟩

theorem fg_struck (bs ds : Nat → Int) (sw ka kb : Bool) (s j : Nat) (hs : s < 2) (hk : (if s = 0 then ka else kb) = false) : FG bs ds sw ka kb (s + 1) j = if j = 4 + s then 0 else FG bs ds sw ka kb s j := by
  unfold FG
  obtain rfl | rfl : s = 0 ∨ s = 1 := by omega
  · simp at hk; simp [hk]
  · simp at hk; simp [hk]
    by_cases h : j = 5
    · subst h; simp
    · simp [h]

theorem A2.step_unknown {N : Nat} {w : World} {bs ds : Nat → Int} {sw ka kb : Bool} {ma mb : Nat} {m0 m1 : Int} {s : Nat} {wr : World} (A : A2 N w bs ds sw ka kb ma mb m0 m1 s wr) (hs : s < 2) (hk : (if s = 0 then ka else kb) = false) (vs : List Value)
    (hv : vs = [ocell bs ds sw false s 0, ocell bs ds sw false s 1, ocell bs ds sw false s 2, ocell bs ds sw false s 3, ocell bs ds sw false s 4, ocell bs ds sw false s 5, ocell bs ds sw false s 6]) :
    A2 N w bs ds sw ka kb ma mb m0 m1 (s + 1) ((wr.setCells (N + 4) (s * 42 + 27) vs).setCells (N + 1 + 1 + 1) (4 + s) [.int .i64 0]) := by
  obtain ⟨h1, h2, h3, h4, h5, h6, h7⟩ := A.offer hs false hk.symm vs hv
  have out : ∀ b o, b ≠ N + 1 + 1 + 1 → ((wr.setCells (N + 4) (s * 42 + 27) vs).setCells (N + 1 + 1 + 1) (4 + s) [.int .i64 0]).cell? ⟨b, o, none⟩ = (wr.setCells (N + 4) (s * 42 + 27) vs).cell? ⟨b, o, none⟩ := fun b o hb => cell_out _ _ _ _ _ _ (fun e => absurd e hb)
  refine ⟨h1.set _ _ _ (by omega), by rw [size_setCells]; exact h2, ?_, fun j hj => there_setCells1 _ _ _ _ _ (h4 j hj), ?_, ?_, ?_, ?_, ?_, ?_⟩
  · intro j hj
    rw [fg_struck bs ds sw ka kb s j hs hk]
    by_cases h : j = 4 + s
    · subst h
      rw [if_pos rfl]
      exact cell_in _ _ (4 + s) [.int .i64 0] (fun i hi => h1.figs _ (by simp at hi; omega)) 0 _ rfl
    · rw [if_neg h, cell_out _ _ _ _ _ _ (by simp; omega)]; exact h3 j hj
  · intro q hq c hc; rw [out _ _ (by omega)]; exact h5 q hq c hc
  · intro q hq hq2 c hc; rw [out _ _ (by omega)]; exact h6 q hq hq2 c hc
  · rw [out _ _ (by omega), h7 _ _ (Or.inl rfl)]; exact A.mem0
  · rw [out _ _ (by omega), h7 _ _ (Or.inl rfl)]; exact A.mem1
  · rw [out _ _ (by omega), h7 _ _ (Or.inr rfl)]; exact A.kn0
  · rw [out _ _ (by omega), h7 _ _ (Or.inr rfl)]; exact A.kn1

theorem grp_typ (m0 m1 : Int) (q c : Nat) (hq : q < 2) (hc : c < 13) : ((grp.setIfInBounds 8 (.int .i64 m0)).setIfInBounds 50 (.int .i64 m1))[q * 42 + 1 + c]? = some (tcell (if q = 0 then m0 else m1) c) := by
  obtain rfl | rfl : q = 0 ∨ q = 1 := by omega
  all_goals
    match c, hc with
    | 0, _ | 1, _ | 2, _ | 3, _ | 4, _ | 5, _ | 6, _ | 7, _ | 8, _ | 9, _ | 10, _ | 11, _ | 12, _ => (show (_ : Option Value) = _); kernel_rfl

theorem a2_start {N : Nat} {w : World} {bs ds : Nat → Int} {sw ka kb : Bool} {ma mb : Nat} {wr : World} (A : A1 N w bs ds sw ka kb ma mb 5 wr) (m0 m1 : Int) (t0 t1 t2 : TypeId) :
    A2 N w bs ds sw ka kb ma mb m0 m1 0 (((wr.alloc (.cells ((grp.setIfInBounds 8 (.int .i64 m0)).setIfInBounds 50 (.int .i64 m1)) t0)).alloc (.cells #[.int .i64 m0, .int .i64 m1] t1)).alloc (.cells #[.bool ka, .bool kb] t2)) := by
  have hz := A.size
  refine ⟨((A.af.alloc _ (by omega)).alloc _ (by simp; omega)).alloc _ (by simp; omega), by simp [hz], ?_, ?_, ?_, by intro q hq; omega, ?_, ?_, ?_, ?_⟩
  · intro j hj
    rw [World.cell?_alloc_past _ _ _ (by simp; omega), World.cell?_alloc_past _ _ _ (by simp; omega), World.cell?_alloc_past _ _ _ (by omega), A.fig j (by omega)]
    unfold FG; simp
  · intro j hj
    have := there_made wr ((grp.setIfInBounds 8 (.int .i64 m0)).setIfInBounds 50 (.int .i64 m1)) t0 j (by simp [grp_size]; omega)
    rw [hz] at this
    exact there_alloc _ _ _ (by simp [hz]) (there_alloc _ _ _ (by simp [hz]) this)
  · intro q hq c hc
    rw [World.cell?_alloc_past _ _ _ (by simp [hz]), World.cell?_alloc_past _ _ _ (by simp [hz]), World.cell?_alloc_at _ _ _ _ hz.symm]
    exact grp_typ m0 m1 q c hq hc
  · rw [World.cell?_alloc_past _ _ _ (by simp [hz]), World.cell?_alloc_at _ _ _ _ (by simp [hz])]; rfl
  · rw [World.cell?_alloc_past _ _ _ (by simp [hz]), World.cell?_alloc_at _ _ _ _ (by simp [hz])]; rfl
  · rw [World.cell?_alloc_at _ _ _ _ (by simp [hz])]; rfl
  · rw [World.cell?_alloc_at _ _ _ _ (by simp [hz])]; rfl

/-- What the builder leaves of its two groups. -/
structure AEnd (N : Nat) (w : World) (bs ds : Nat → Int) (sw ka kb : Bool) (m0 m1 : Int) (wr : World) : Prop where
  bel : Below N w wr
  size : N + 4 < wr.heap.size
  typ : ∀ q, q < 2 → ∀ c, c < 13 → wr.cell? ⟨N + 4, q * 42 + 1 + c, none⟩ = some (tcell (if q = 0 then m0 else m1) c)
  off : ∀ q, q < 2 → ∀ c, c < 7 → wr.cell? ⟨N + 4, q * 42 + 27 + c, none⟩ = some (ocell bs ds sw (if q = 0 then ka else kb) q c)
theorem A2.toEnd {N : Nat} {w : World} {bs ds : Nat → Int} {sw ka kb : Bool} {ma mb : Nat} {m0 m1 : Int} {wr : World} (A : A2 N w bs ds sw ka kb ma mb m0 m1 2 wr) : AEnd N w bs ds sw ka kb m0 m1 wr :=
  ⟨A.af.bel, by have := A.size; omega, A.typ, fun q hq => A.off q hq hq⟩
theorem AEnd.set {N : Nat} {w : World} {bs ds : Nat → Int} {sw ka kb : Bool} {m0 m1 : Int} {wr : World} (A : AEnd N w bs ds sw ka kb m0 m1 wr) (b o : Nat) (vs : List Value) (h1 : N ≤ b) (h2 : N + 4 ≠ b) : AEnd N w bs ds sw ka kb m0 m1 (wr.setCells b o vs) :=
  ⟨below_setCells _ h1 _ _ _ A.bel, by rw [size_setCells]; exact A.size, fun q hq c hc => by rw [cell_out _ _ _ _ _ _ (fun e => absurd e h2)]; exact A.typ q hq c hc, fun q hq c hc => by rw [cell_out _ _ _ _ _ _ (fun e => absurd e h2)]; exact A.off q hq c hc⟩
theorem AEnd.drew {N : Nat} {w : World} {bs ds : Nat → Int} {sw ka kb : Bool} {m0 m1 : Int} {wr : World} (A : AEnd N w bs ds sw ka kb m0 m1 wr) : AEnd N w bs ds sw ka kb m0 m1 wr.drew := ⟨A.bel.drew, A.size, A.typ, A.off⟩
end Go.Proofs.Ybulkwjm

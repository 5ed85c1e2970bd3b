/- verdict.LawS1137BOrder (3). -/
import Derived.Test.YbulkwngTest
import Derived.Lib.Builder
import Derived.Lib.Strings
namespace Go.Proofs.Ybulkwng
open Go.RowKit Go.ChangeMaps
open Go.Maps (Keyed)
open Go.WideMaps (keyOf_string_mk)

/-- A map's literal: an entry is laid as by a store. -/
theorem wpList_insert_own {H : Type} {P : Program} (w : World) {ops : Array Oper} {rest : List Oper} {o : Oper} {a : Act} {Q : Exit → Act → World → Prop}
    (hg : o.guard = none) (m x v : Operand) (t : TypeId) (hop : o.op = Op.insert t m x v)
    (k e : TypeId) (K : Keyed P k) (ht : P.underlying t = some (.map k e)) (R : Value → Option (DataW H × List MemPlace)) (b n : Nat) (D : DataW H)
    (hm : a.eval m = .map (some b)) (hown : w.ownsMap P k R b n D) (hn : n < maxLen) (key val : Value) (kl : Lit) (hx : a.eval x = key) (hv : a.eval v = val) (hkey : keyOf P k key = some kl)
    (d : DataW H) (ps : List MemPlace) (hval : R val = some (d, ps))
    (hK : ∀ w', w'.ownsMap P k R b (n + 1) (D.put kl d) → w.grownBy w' (some b) → wpList P ops Q rest (a.put o.dst undef) w') :
    wpList P ops Q (o :: rest) a w := by
  refine wpList_plain hg fun K' hK' => ?_
  obtain ⟨w', hrun, r1, r2⟩ := hown.update K ht hn hkey hval
  unfold Oper.wp
  simp [execOp, hop, hm, hx, hv, hrun, Result.andThen]
  exact hK' _ _ (hK w' r1 r2)

theorem Pk.kept {B : Nat} {w w' : World} {bp bm : Nat} {v : Value} {L : List (ByteArray × Nat)} {D : DataW Unit} (h : Pk B w bp bm v L D)
    (hb : ∀ k, (k = bp ∨ k = bm ∨ v.ownBlock = some k ∨ ∃ p ∈ L, p.2 = k) → w'.heap[k]? = w.heap[k]?) : Pk B w' bp bm v L D :=
  ⟨(hb bp (.inl rfl)).trans h.hp, owns_same h.ho fun k hk => hb k (.inr (.inr (.inl hk))), h.hm.same (hb bm (.inr (.inl rfl))), h.gp, h.gm,
    fun p hp => ⟨(h.ts p hp).1, (hb p.2 (.inr (.inr (.inr ⟨p, hp, rfl⟩)))).trans (h.ts p hp).2⟩⟩

theorem Pk.lt {B : Nat} {w : World} {bp bm : Nat} {v : Value} {L : List (ByteArray × Nat)} {D : DataW Unit} (h : Pk B w bp bm v L D)
    {k : Nat} (hk : k = bp ∨ k = bm ∨ v.ownBlock = some k ∨ ∃ p ∈ L, p.2 = k) : k < w.heap.size := by
  rcases hk with rfl | rfl | hk | ⟨p, hp, rfl⟩
  · exact lt_of_heap h.hp
  · exact h.hm.own.lt
  · exact ownBlock_lt h.ho k hk
  · exact lt_of_heap (h.ts p hp).2

theorem Pk.below {B : Nat} {w w' : World} {bp bm : Nat} {v : Value} {L : List (ByteArray × Nat)} {D : DataW Unit} (h : Pk B w bp bm v L D) (hb : Below w.heap.size w w') : Pk B w' bp bm v L D :=
  h.kept fun k hk => hb.block k (h.lt hk)

/-- The row of another slice turns: the *pkg does not. -/
theorem Pk.grown {B : Nat} {w w' : World} {bp bm : Nat} {v vw : Value} {L : List (ByteArray × Nat)} {D : DataW Unit} (h : Pk B w bp bm v L D) {nw : Nat} {xs : List Value} (hw : w.ownsRow B 9 1 vw nw xs) (hne : v.ownBlock ≠ vw.ownBlock)
    (hg : w.grownBy w' vw.ownBlock) : Pk B w' bp bm v L D := by
  refine h.kept fun k hk => hg.block k (h.lt hk) ?_
  rcases hk with rfl | rfl | hk | ⟨p, hp, rfl⟩
  · exact fun e => own_ne hw h.hp (by decide) e.symm
  · obtain ⟨es, ck, hh⟩ := h.hm.heap
    exact fun e => own_ne_map hw hh e.symm
  · exact fun e => hne (by rw [hk, e])
  · exact fun e => own_ne hw (h.ts p hp).2 (by decide) e.symm

theorem Pk.alloc {B : Nat} {w : World} {bp bm : Nat} {v : Value} {L : List (ByteArray × Nat)} {D : DataW Unit} (h : Pk B w bp bm v L D) (o : Obj) : Pk B (w.alloc o) bp bm v L D :=
  h.kept fun k hk => Below.heap_alloc w o k (h.lt hk)

def names (L : List (ByteArray × Nat)) : List ByteArray := L.map (·.1)

/-- The head of a round. -/
structure LI (w0 : World) (bp bm : Nat) (v vw : Value) (L : List (ByteArray × Nat)) (D : DataW Unit) (wr : World) : Prop where
  pk : Pk w0.heap.size wr bp bm v L D
  row : wr.ownsRow w0.heap.size 9 1 vw L.length ((names L).map Value.string)
  ne : v.ownBlock ≠ vw.ownBlock
  bel : Below w0.heap.size w0 wr
  root : find L ⟨#[]⟩ = some w0.heap.size

theorem pos_of_root {L : List (ByteArray × Nat)} {s : ByteArray} {b : Nat} (h : find L s = some b) : 0 < L.length := by
  cases L with
  | nil => simp [find] at h
  | cons p r => simp

theorem row_form {w : World} {B n : Nat} {v : Value} {xs : List Value} (h : w.ownsRow B 9 1 v n xs) (hn : 0 < n) : ∃ g cap, v = .slice (some ⟨g, 0, none⟩) n cap := by
  rcases h.2 with ⟨_, h0⟩ | ⟨g, cap, _, h0, _⟩
  · omega
  · exact ⟨g, cap, h0⟩

theorem row_cell {w : World} {B n g cap : Nat} {zs : List ByteArray} (h : w.ownsRow B 9 1 (.slice (some ⟨g, 0, none⟩) n cap) n (zs.map Value.string)) : ∀ j, j < n → w.cell? ⟨g, j, none⟩ = some (.string (zs.getD j ByteArray.empty)) := by
  intro j hj
  have hl : zs.length = n := by simpa using h.1
  rw [h.cellAt j (by omega)]
  simp [show j < zs.length by omega]

theorem LI.test {w0 : World} {bp bm : Nat} {v vw : Value} {L : List (ByteArray × Nat)} {D : DataW Unit} {wr : World} (h : LI w0 bp bm v vw L D wr) {s : ByteArray} {q : Nat} (hf : find L s = some q) :
    wr.cell? ⟨q, 0, none⟩ = some (.string (endOf s)) ∧ wr.cell? ⟨q, 1, none⟩ = some (.pointer none) := by
  have := (h.pk.ts (s, q) (find_some hf)).2
  exact ⟨by rw [cell_of_heap this]; rfl, by rw [cell_of_heap this]; rfl⟩

theorem start_LI {w w2 : World} {D0 : DataW Unit} (hm : MapIs w2 (w.heap.size + 1) [(⟨#[]⟩, w.heap.size)] D0) (hpre : w2.heap[w.heap.size]? = some (.cells #[.string failS, .pointer none] 27 (0, 0))) (bel : Below w.heap.size w w2)
    (hs2 : w.heap.size + 2 ≤ w2.heap.size) : LI w (w2.heap.size + 1) (w.heap.size + 1) (.slice (some ⟨w2.heap.size, 0, none⟩) 1 1) (.slice (some ⟨w2.heap.size + 1 + 1, 0, none⟩) 1 1) [(⟨#[]⟩, w.heap.size)] D0
      (((w2.alloc (.cells #[.string ⟨#[]⟩] 9)).alloc (.cells #[.bool false, .slice (some ⟨w2.heap.size, 0, none⟩) 1 1, .map (some (w.heap.size + 1))] 31)).alloc (.cells #[.string ⟨#[]⟩] 9)) := by
  refine ⟨⟨?_, ?_, ?_, by omega, by omega, ?_⟩, ?_, ?_, ?_, rfl⟩
  · rw [Below.heap_alloc _ _ _ (by simp)]
    have := (MapKept.heap_alloc (w2.alloc (.cells #[.string ⟨#[]⟩] 9)) (.cells #[.bool false, .slice (some ⟨w2.heap.size, 0, none⟩) 1 1, .map (some (w.heap.size + 1))] 31)).1
    simpa using this
  · exact ((World.ownsRow_lit w2 #[.string ⟨#[]⟩] 1 (by omega) (by decide) rfl).alloc _).alloc _
  · refine hm.same ?_
    rw [Below.heap_alloc _ _ _ (by simp; omega), Below.heap_alloc _ _ _ (by simp; omega), Below.heap_alloc _ _ _ (by omega)]
  · intro p hp
    simp at hp
    subst hp
    refine ⟨Nat.le_refl _, ?_⟩
    rw [Below.heap_alloc _ _ _ (by simp; omega), Below.heap_alloc _ _ _ (by simp; omega), Below.heap_alloc _ _ _ (by omega)]
    exact hpre
  · have := World.ownsRow_lit (base := w.heap.size) (e := 9) (size := 1) ((w2.alloc (.cells #[.string ⟨#[]⟩] 9)).alloc (.cells #[.bool false, .slice (some ⟨w2.heap.size, 0, none⟩) 1 1, .map (some (w.heap.size + 1))] 31)) #[.string ⟨#[]⟩] 1 (by simp; omega) (by decide) rfl
    simpa [names] using this
  · simp [Value.ownBlock]; omega
  · exact ((bel.alloc (by omega) _).alloc (by simp; omega) _).alloc (by simp; omega) _

theorem notEmpty {s : ByteArray} (h : s.data.toList ≠ []) : s.toList.isEmpty = false := by
  rw [Lib.toList_data]
  cases e : s.data.toList with
  | nil => exact absurd e h
  | cons x r => rfl
/-- A new name laid in both rows. -/
theorem LI.pushed {w0 : World} {bp bm : Nat} {v v' vw vw' : Value} {L : List (ByteArray × Nat)} {D D' : DataW Unit} {wr w3 w4 : World} {s : ByteArray} {q : Nat} {o : Obj} (h : LI w0 bp bm v vw L D wr) (hf : find L s = none)
    (pk : Pk w0.heap.size w3 bp bm v' (L ++ [(s, q)]) D') (bel : Below w0.heap.size wr w3) (row : w3.ownsRow w0.heap.size 9 1 vw L.length ((names L).map Value.string)) (ne : v'.ownBlock ≠ vw.ownBlock)
    (row' : w4.ownsRow w0.heap.size 9 1 vw' (L.length + 1) ((names L).map Value.string ++ [.string s])) (hg : (w3.alloc o).grownBy w4 vw.ownBlock) (hloc : vw'.ownBlock = vw.ownBlock ∨ vw'.ownBlock = some (w3.alloc o).heap.size) :
    LI w0 bp bm v' vw' (L ++ [(s, q)]) D' w4 := by
  have hs3 : w0.heap.size ≤ w3.heap.size := Nat.le_trans h.bel.size bel.size
  refine ⟨(pk.alloc o).grown (row.alloc o) ne hg, ?_, ?_, ?_, ?_⟩
  · simpa [names] using row'
  · rcases hloc with e | e
    · rw [e]; exact ne
    · rw [e]
      intro e1
      have := ownBlock_lt pk.ho _ e1
      simp at this
      omega
  · exact ((h.bel.trans bel).alloc hs3 o).grown hg (by simp; omega) (fun k hk => ownBlock_ge row k hk)
  · rw [find_snoc L s _ q hf]
    split
    · rename_i e
      rw [data_inj e, h.root] at hf
      cases hf
    · exact h.root
theorem info27 : (Yba.prog.info? 27).isSome = true := by kernel_rfl
theorem ne_same (a : Addr) (w : World) : (binOp .neq 23 (.pointer (some a)) (.pointer (some a))).run Yba.prog w = .ok (.bool false) w := by
  obtain ⟨j, hj⟩ := Option.isSome_iff_exists.1 info27
  exact Lib.run_neq_ptr_same w a Yba.underlying23 hj

theorem law_big (p : Option Addr) (n c : Nat) (w : World) (hn : 1024 < n) :
    Calls Yba.prog 3 #[.slice p n c] w fun e w' => e = .returned (.bool true) ∧ w' = w := by
  have h1 : decide ((1024 : Int) < (n : Int)) = true := by simp; omega
  go_enter Yba.func3, Yba.ntmps3
  go_wp2
  go_ret
  exact ⟨rfl, rfl⟩

set_option maxRecDepth 100000 in
set_option maxHeartbeats 1600000 in
theorem law_small (a : Option Addr) (n c : Nat) (f : Nat → ByteArray) (w : World) (hn : n ≤ 1024)
    (hc : ∀ i, i < n → ∃ b o, a = some ⟨b, o, none⟩ ∧ b < w.heap.size ∧ w.cell? ⟨b, o + i, none⟩ = some (.string (f i)) ∧ (f i).size ≤ maxLen) :
    Calls Yba.prog 3 #[.slice a n c] w fun e w' => e = .returned (.bool true) ∧ Below w.heap.size w w' := by
  have h1 : decide ((1024 : Int) < (n : Int)) = false := by simp; omega
  have hmm := @run_makeMap Yba.prog
  obtain ⟨i, hi, hz0, hz1, hz2⟩ := info_parts info9
  have HC := hid hc
  clear hc
  go_enter Yba.func3, Yba.ntmps3
  go_wp2_with (refine wpList_insert_own _ rfl _ _ _ 29 rfl 9 23 law9 Yba.underlying29 ptrElem (w.heap.size + 1) 0 (.map []) rfl ?own (by decide) _ _ (.string []) rfl rfl (keyOf_string_mk Yba.underlying9 (s := ⟨#[]⟩) (by decide)) (code (some w.heap.size)) [] rfl ?_)
  case own => have := World.ownsMap_made (w.alloc (.cells #[.string ⟨#[102, 97, 105, 108]⟩, .pointer none] 27)) Yba.prog 9 ptrElem; simpa using this
  intro w2 hm2 hg2
  obtain ⟨D0, hD0⟩ : ∃ D0, D0 = (DataW.map [] : DataW Unit).put (.string []) (code (some w.heap.size)) := ⟨_, rfl⟩
  have hmap : MapIs w2 (w.heap.size + 1) [(⟨#[]⟩, w.heap.size)] D0 := by
    have h0 := MapIs_made (w.alloc (.cells #[.string ⟨#[102, 97, 105, 108]⟩, .pointer none] 27))
    simp only [World.size_alloc] at h0
    rw [hD0]
    exact h0.snoc (s := ⟨#[]⟩) (q := w.heap.size) rfl hm2
  have hs2 : w.heap.size + 2 ≤ w2.heap.size := by have := hg2.size; simp at this; omega
  have hpre : w2.heap[w.heap.size]? = some (.cells #[.string failS, .pointer none] 27 (0, 0)) := by
    rw [hg2.block w.heap.size (by simp; omega) (by simp), Below.heap_alloc _ _ _ (by simp)]
    exact (MapKept.heap_alloc w _).1
  have bel2 : Below w.heap.size w w2 := (((Below.refl _ w).alloc (Nat.le_refl _) _).alloc (by simp) _).grown hg2 (by simp; omega) (fun k hk => by cases hk; omega)
  have HM := hid hmap
  have HPRE := hid hpre
  have BEL2 := hid bel2
  have HS2 := hid hs2
  clear hmap hpre bel2 hm2 hg2 hmm hD0
  go_wp2
  go_loopw [5, 23] (fun a5 a23 wr => ∃ (k : Nat) (v : Value) (L : List (ByteArray × Nat)) (D : DataW Unit), k ≤ n ∧ a23 = .int .i64 k ∧ L.length ≤ k + 1 ∧ LI w (w2.heap.size + 1) (w.heap.size + 1) v a5 L D wr) (fun _ a23 _ => n - (intOf a23).toNat)
  case atStart => exact ⟨0, _, _, _, Nat.zero_le _, rfl, by simp, start_LI HM.out HPRE.out BEL2.out HS2.out⟩
  case round =>
    obtain ⟨k, v, L, D, hk, rfl, hLk, hli⟩ := hrel
    obtain ⟨g, cap, rfl⟩ := row_form hli.row (pos_of_root hli.root)
    have LI0 := hid hli
    clear hli HM HPRE BEL2 HS2
    by_cases hlt : k < n
    · obtain ⟨b, o, rfl, hbw, hcell, hsz⟩ := HC.out k hlt
      generalize f k = s at hcell hsz
      have ck : wr.cell? ⟨b, o + k, none⟩ = some (.string s) := (LI0.out.bel.cell hbw).trans hcell
      have HC2 := HC
      clear HC hcell
      cases hf : find L s with
      | some q =>
        have cm : wr.cell? ⟨w2.heap.size + 1, 2, none⟩ = some (.map (some (w.heap.size + 1))) := by rw [cell_of_heap LI0.out.pk.hp]; rfl
        have hlook := LI0.out.pk.hm.look hsz
        rw [hf] at hlook
        replace hlook : (Instr.lookup 29 (.map (some (w.heap.size + 1))) (.string s) false).run Yba.prog wr = .ok (.pointer (some ⟨q, 0, none⟩)) wr := hlook
        obtain ⟨ce, cz⟩ := LI0.out.test hf
        have hps := ne_same ⟨q, 0, none⟩ wr
        have T4 := hid (test_old LI0.out.pk hsz hf)
        have T5 := hid (contains_yes g L.length cap (names L) s wr (by omega) (by simp [names]) (row_cell LI0.out.row) (find_mem hf))
        by_cases he : s.data.toList = []
        · obtain rfl : s = ⟨#[]⟩ := data_inj he
          obtain rfl : q = w.heap.size := by have := LI0.out.root; rw [hf] at this; injection this
          replace ce : wr.cell? ⟨w.heap.size, 0, none⟩ = some (.string ⟨#[102, 97, 105, 108]⟩) := ce
          go_wp2_with (first | (go_at_call 4; refine T4.out.mono ?_; rintro e w' ⟨rfl, rfl⟩) | (go_at_call 5; refine T5.out.mono ?_; rintro e w' ⟨rfl, rfl⟩))
          go_roundw
          case rel => exact ⟨k + 1, v, L, D, by omega, by go_num, by omega, LI0.out⟩
          case measure => simp [intOf]; omega
        · have hse : s.toList.isEmpty = false := notEmpty he
          replace ce : wr.cell? ⟨q, 0, none⟩ = some (.string ⟨#[]⟩) := by rw [ce, endOf, if_neg he]
          go_wp2_with (first | (go_at_call 4; refine T4.out.mono ?_; rintro e w' ⟨rfl, rfl⟩) | (go_at_call 5; refine T5.out.mono ?_; rintro e w' ⟨rfl, rfl⟩))
          go_roundw
          case rel => exact ⟨k + 1, v, L, D, by omega, by go_num, by omega, LI0.out⟩
          case measure => simp [intOf]; omega
      | none =>
        have hse : s.data.toList ≠ [] := fun he => by
          rw [data_inj (s := s) (t := ⟨#[]⟩) he, LI0.out.root] at hf
          cases hf
        have hse' := notEmpty hse
        have T4 := hid (test_new LI0.out.pk hsz hf hse (by omega) LI0.out.bel.size LI0.out.row LI0.out.ne)
        go_wp2_with (go_at_call 4; refine T4.out.mono ?_)
        rintro e w3 ⟨q, v', D', rfl, pk', bel', row', ne'⟩
        have cm3 : w3.cell? ⟨w2.heap.size + 1, 2, none⟩ = some (.map (some (w.heap.size + 1))) := by rw [cell_of_heap pk'.hp]; rfl
        have hlook := pk'.hm.look hsz
        rw [find_snoc_self hf] at hlook
        replace hlook : (Instr.lookup 29 (.map (some (w.heap.size + 1))) (.string s) false).run Yba.prog w3 = .ok (.pointer (some ⟨q, 0, none⟩)) w3 := hlook
        have hps := ne_same ⟨q, 0, none⟩ w3
        have ht := (pk'.ts (s, q) (by simp)).2
        have ce : w3.cell? ⟨q, 0, none⟩ = some (.string ⟨#[]⟩) := by rw [cell_of_heap ht]; simp [endOf, hse]
        have cz : w3.cell? ⟨q, 1, none⟩ = some (.pointer none) := by rw [cell_of_heap ht]; rfl
        have T5 := hid (contains_no g L.length cap (names L) s w3 (by omega) (by simp [names]) (row_cell row') (find_none hf))
        have PK := hid pk'
        have BEL := hid bel'
        have ROW := hid row'
        have NE := hid ne'
        have HS3 : w.heap.size ≤ w3.heap.size := Nat.le_trans LI0.out.bel.size bel'.size
        clear pk' bel' row' ne' ht T4 ck
        go_wp2_with (first | (go_at_call 5; refine T5.out.mono ?_; rintro e w' ⟨rfl, rfl⟩) | (at_builtin; refine wpList_append_where _ rfl (.tmp 77) (.tmp 79) 22 rfl w.heap.size 9 i (.string ⟨#[]⟩) 1 16 Yba.underlying22 hi hz0 hz1 hz2 rfl (by decide) (.slice (some ⟨g, 0, none⟩) L.length cap) L.length _ rfl (ROW.out.alloc _) ⟨w3.heap.size, 0, none⟩ 1 1 [.string s] rfl rfl ?a1 ?a2 ?a3 ?a4 ?a5 ?_))
        case a1 =>
          intro j u hj
          have e : (⟨w3.heap.size, 0, none⟩ : Addr).add j = ⟨w3.heap.size, j, none⟩ := by unfold Addr.add; split <;> simp_all
          rw [e, World.cell?_alloc_at _ _ _ _ rfl]
          simpa using hj
        case a2 => intro u hu; simp at hu; subst hu; rfl
        case a3 => unfold maxLen; omega
        case a4 => omega
        case a5 => simp; omega
        intro vw4 w4 ho4 hg4 hloc
        have LI4 := hid (LI0.out.pushed hf PK.out BEL.out ROW.out NE.out (by simpa [names] using ho4) hg4 (by simpa using hloc))
        clear ho4 hg4 hloc
        go_wp2
        go_roundw
        case rel => exact ⟨k + 1, v', L ++ [(s, q)], D', by omega, by go_num, by simp; omega, LI4.out⟩
        case measure => simp [intOf]; omega
    · obtain rfl : k = n := by omega
      have hlt' : decide ((k : Int) < (k : Int)) = false := by simp
      obtain ⟨g', cap', rfl⟩ := row_form LI0.out.pk.ho (pos_of_root LI0.out.root)
      have c1 : wr.cell? ⟨w2.heap.size + 1, 1, none⟩ = some (.slice (some ⟨g', 0, none⟩) L.length cap') := by rw [cell_of_heap LI0.out.pk.hp]; rfl
      have T6 := hid (equal_same g' g L.length cap' cap (names L) wr (by omega) (row_cell LI0.out.pk.ho) (row_cell LI0.out.row))
      clear HC
      go_wp2_with (go_at_call 6; refine T6.out.mono ?_)
      rintro e w6 ⟨rfl, bel6⟩
      have pk6 := LI0.out.pk.below bel6
      have cm6 : w6.cell? ⟨w2.heap.size + 1, 2, none⟩ = some (.map (some (w.heap.size + 1))) := by rw [cell_of_heap pk6.hp]; rfl
      have hlen : ∀ ty, (Builtin.len_ #[29] ty #[.map (some (w.heap.size + 1))]).run Yba.prog w6 = .ok (.int .i64 L.length) w6 := fun ty => pk6.hm.len ty
      have ce6 : w6.cell? ⟨w.heap.size, 0, none⟩ = some (.string ⟨#[102, 97, 105, 108]⟩) := by rw [cell_of_heap (pk6.ts _ (find_some LI0.out.root)).2]; rfl
      have BEL6 := hid (LI0.out.bel.trans (bel6.mono LI0.out.bel.size))
      clear pk6 bel6 T6 c1
      go_wp2
      go_ret
      exact ⟨rfl, BEL6.out⟩
end Go.Proofs.Ybulkwng

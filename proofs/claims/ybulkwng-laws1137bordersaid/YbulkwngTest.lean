/- (*pkg).test (4). -/
import Derived.Test.YbulkwngState
namespace Go.Proofs.Ybulkwng
open Go.RowKit Go.ChangeMaps
open Go.WideMaps (keyOf_string_mk)

theorem cell_of_heap {w : World} {b : Nat} {c : Array Value} {t : TypeId} {fr : Nat × Nat} (h : w.heap[b]? = some (.cells c t fr)) (j : Nat) : w.cell? ⟨b, j, none⟩ = c[j]? := by
  simp [World.cell?, h]
theorem frozen_of_heap {w : World} {b : Nat} {c : Array Value} {t : TypeId} (h : w.heap[b]? = some (.cells c t (0, 0))) (j : Nat) : w.frozen? ⟨b, j, none⟩ = false := by
  simp [World.frozen?, h]

theorem test_old {B : Nat} {w : World} {bp bm : Nat} {v : Value} {L : List (ByteArray × Nat)} {D : DataW Unit} (h : Pk B w bp bm v L D) {s : ByteArray} {q : Nat} (hs : s.size ≤ maxLen) (hf : find L s = some q) :
    Calls Yba.prog 4 #[.pointer (some ⟨bp, 0, none⟩), .string s] w fun e w' => e = .returned (.pointer (some ⟨q, 0, none⟩)) ∧ w = w' := by
  have hl := h.hm.look hs
  rw [hf] at hl
  replace hl : (Instr.lookup 29 (.map (some bm)) (.string s) false).run Yba.prog w = .ok (.pointer (some ⟨q, 0, none⟩)) w := hl
  have c2 : w.cell? ⟨bp, 2, none⟩ = some (.map (some bm)) := by rw [cell_of_heap h.hp]; rfl
  clear h
  go_enter Yba.func4, Yba.ntmps4
  go_wp2
  go_ret
  exact ⟨rfl, rfl⟩

theorem info9 : (Yba.prog.info? 9).map (fun i => (i.zero, i.size, i.bytes)) = some (some (.string ⟨#[]⟩), 1, 16) := by kernel_rfl

theorem owns_same {w w' : World} {base : Nat} {e : TypeId} {size : Nat} {v : Value} {n : Nat} {xs : List Value} (h : w.ownsRow base e size v n xs) (hb : ∀ k, v.ownBlock = some k → w'.heap[k]? = w.heap[k]?) : w'.ownsRow base e size v n xs := by
  refine ⟨h.1, ?_⟩
  rcases h.2 with hn | ⟨g, cap, cur, rfl, hg, hh, r⟩
  · exact .inl hn
  · exact .inr ⟨g, cap, cur, rfl, hg, by rw [hb g rfl]; exact hh, r⟩

theorem own_ne_map {w : World} {base : Nat} {e : TypeId} {size : Nat} {v : Value} {n : Nat} {xs : List Value} (h : w.ownsRow base e size v n xs) {b : Nat} {es : Array MapEntry} {c : Nat} (hb : w.heap[b]? = some (.map es c)) : v.ownBlock ≠ some b := by
  rcases h.2 with ⟨rfl, _⟩ | ⟨g, cap, cur, rfl, hg, hh, _⟩
  · simp [Value.ownBlock]
  · simp only [Value.ownBlock, ne_eq, Option.some.injEq]
    intro e'
    subst e'
    rw [hb] at hh
    simp at hh

theorem heap_set {w : World} {bp : Nat} {a b c x : Value} {t : TypeId} (h : w.heap[bp]? = some (.cells #[a, b, c] t (0, 0))) : (w.setCell ⟨bp, 1, none⟩ x).heap[bp]? = some (.cells #[a, x, c] t (0, 0)) := by
  have hlt := lt_of_heap h
  have h' := (Array.getElem?_eq_some_iff.1 h).2
  simp [World.setCell, hlt, Array.getElem_modify, h']

/-- What the call leaves where the name is new. -/
def Made (B bp bm : Nat) (L : List (ByteArray × Nat)) (s : ByteArray) (vw : Value) (nw : Nat) (xs : List Value) (w : World) (e : Ending) (w' : World) : Prop :=
  ∃ (q : Nat) (v' : Value) (D' : DataW Unit), e = .returned (.pointer (some ⟨q, 0, none⟩)) ∧ Pk B w' bp bm v' (L ++ [(s, q)]) D' ∧ Below B w w' ∧ w'.ownsRow B 9 1 vw nw xs ∧ v'.ownBlock ≠ vw.ownBlock

set_option maxRecDepth 100000 in
set_option maxHeartbeats 1600000 in
theorem test_new {B : Nat} {w : World} {bp bm : Nat} {v : Value} {L : List (ByteArray × Nat)} {D : DataW Unit} (h : Pk B w bp bm v L D) {s : ByteArray} (hs : s.size ≤ maxLen) (hf : find L s = none) (hse : s.data.toList ≠ []) (hL : L.length ≤ 2000)
    (hB : B ≤ w.heap.size) {vw : Value} {nw : Nat} {xs : List Value} (hw : w.ownsRow B 9 1 vw nw xs) (hne : v.ownBlock ≠ vw.ownBlock) :
    Calls Yba.prog 4 #[.pointer (some ⟨bp, 0, none⟩), .string s] w fun e w' => Made B bp bm L s vw nw xs w e w' := by
  obtain ⟨i, hi, hz0, hz1, hz2⟩ := info_parts info9
  have hl := h.hm.look hs
  rw [hf] at hl
  replace hl : (Instr.lookup 29 (.map (some bm)) (.string s) false).run Yba.prog w = .ok (.pointer none) w := hl
  have c2 : w.cell? ⟨bp, 2, none⟩ = some (.map (some bm)) := by rw [cell_of_heap h.hp]; rfl
  have hlp := lt_of_heap h.hp
  have c2a : ∀ o, (w.alloc o).cell? ⟨bp, 2, none⟩ = some (.map (some bm)) := fun o => by rw [World.cell?_alloc_lt _ _ _ hlp]; exact c2
  have hkey := keyOf_string_mk Yba.underlying9 hs
  have H := hid h
  have HW := hid hw
  have HNE := hid hne
  clear h hw hne
  go_enter Yba.func4, Yba.ntmps4
  go_wp2_with (at_mapUpdate; refine wpList_mapUpdate_own _ rfl _ _ _ 29 rfl 9 23 law9 Yba.underlying29 ptrElem bm L.length D rfl (H.out.hm.own.alloc _) (by unfold maxLen; omega) _ _ (.string s.data.toList) rfl rfl hkey (code (some w.heap.size)) [] rfl ?_)
  intro w2 hm2 hg2
  have hm2' : Hid (MapIs w2 bm (L ++ [(s, w.heap.size)]) (D.put (.string s.data.toList) (code (some w.heap.size)))) := H.out.hm.snoc hf hm2
  clear hm2
  obtain ⟨o1, ho1⟩ : ∃ o1 : Obj, o1 = .cells #[.string ⟨#[]⟩, .pointer none] 27 (0, 0) := ⟨_, rfl⟩
  have hg2' : w.grownBy w2 (some bm) := by
    have g0 := World.grownBy_alloc w o1 (some bm)
    rw [ho1] at g0
    exact g0.trans hg2
  have nmp : bp ≠ bm := by
    intro e
    obtain ⟨es, ck, hh⟩ := H.out.hm.heap
    rw [← e, H.out.hp] at hh
    cases hh
  have hs2 := hg2'.size
  have hnew : w2.heap[w.heap.size]? = some (.cells #[.string ⟨#[]⟩, .pointer none] 27 (0, 0)) := by
    have hlm : bm < w.heap.size := H.out.hm.own.lt
    rw [hg2.block w.heap.size (by simp) (by simp; omega)]
    exact (MapKept.heap_alloc w _).1
  have hsz2 : w.heap.size < w2.heap.size := lt_of_heap hnew
  have hp2 : w2.heap[bp]? = some (.cells #[.bool false, v, .map (some bm)] 31 (0, 0)) := by
    rw [hg2'.block bp hlp (by simp; exact nmp)]; exact H.out.hp
  have own2 : w2.ownsRow B 9 1 v L.length ((L.map (·.1)).map Value.string) := owns_same H.out.ho fun k hk => hg2'.block k (ownBlock_lt H.out.ho k hk) (by
    obtain ⟨es, ck, hh⟩ := H.out.hm.heap
    intro e
    exact own_ne_map H.out.ho hh (by rw [hk, e]))
  have ownw2 : w2.ownsRow B 9 1 vw nw xs := owns_same HW.out fun k hk => hg2'.block k (ownBlock_lt HW.out k hk) (by
    obtain ⟨es, ck, hh⟩ := H.out.hm.heap
    intro e
    exact own_ne_map HW.out hh (by rw [hk, e]))
  have ts2 : ∀ p ∈ L ++ [(s, w.heap.size)], B ≤ p.2 ∧ w2.heap[p.2]? = some (.cells #[.string (endOf p.1), .pointer none] 27 (0, 0)) := by
    intro p hp
    rcases List.mem_append.1 hp with hp | hp
    · obtain ⟨t1, t2⟩ := H.out.ts p hp
      refine ⟨t1, ?_⟩
      rw [hg2'.block p.2 (lt_of_heap t2) (by
        obtain ⟨es, ck, hh⟩ := H.out.hm.heap
        intro e
        rw [Option.some.inj e, hh] at t2
        cases t2)]
      exact t2
    · simp at hp
      subst hp
      refine ⟨hB, ?_⟩
      simp only [endOf, if_neg hse]
      exact hnew
  have bel2 : Below B w w2 := (Below.refl B w).grown hg2' hB (fun k hk => by cases hk; exact H.out.gm)
  have c1 : w2.cell? ⟨bp, 1, none⟩ = some v := by rw [cell_of_heap hp2]; rfl
  have OWN2 := hid own2
  have OWNW2 := hid ownw2
  have TS2 := hid ts2
  have HP2 := hid hp2
  have BEL2 := hid bel2
  clear own2 ownw2 ts2 hp2 bel2 hg2 hg2' hnew ho1 hl c2 c2a
  go_wp2_with (at_builtin; refine wpList_append_where _ rfl (.tmp 25) (.tmp 27) 22 rfl B 9 i (.string ⟨#[]⟩) 1 16 Yba.underlying22 hi hz0 hz1 hz2 rfl (by decide) v L.length _ rfl (OWN2.out.alloc _) ⟨w2.heap.size, 0, none⟩ 1 1 [.string s] rfl rfl ?a1 ?a2 ?a3 ?a4 ?a5 ?_)
  case a1 =>
    intro j u hj
    have e : (⟨w2.heap.size, 0, none⟩ : Addr).add j = ⟨w2.heap.size, j, none⟩ := by unfold Addr.add; split <;> simp_all
    rw [e, World.cell?_alloc_at _ _ _ _ rfl]
    simpa using hj
  case a2 => intro u hu; simp at hu; subst hu; rfl
  case a3 => unfold maxLen; omega
  case a4 => omega
  case a5 => simp; omega
  intro v3 w3 ho3 hg3 hloc
  have hs3 : w2.heap.size ≤ w3.heap.size := by have := hg3.size; simp at this; omega
  have hblk : ∀ k, k < w2.heap.size → some k ≠ v.ownBlock → w3.heap[k]? = w2.heap[k]? := fun k hk hk' => by
    rw [hg3.block k (by simp; omega) hk', Below.heap_alloc w2 _ k hk]
  have hlp2 := lt_of_heap HP2.out
  have hp3 : w3.heap[bp]? = some (.cells #[.bool false, v, .map (some bm)] 31 (0, 0)) := by
    rw [hblk bp hlp2 (fun e => own_ne OWN2.out HP2.out (by decide) e.symm)]; exact HP2.out
  have c31 : w3.cell? ⟨bp, 1, none⟩ = some v := by rw [cell_of_heap hp3]; rfl
  have f31 : w3.frozen? ⟨bp, 1, none⟩ = false := frozen_of_heap hp3 1
  have hgr : ∀ k, k < w2.heap.size → k ≠ bp → some k ≠ v.ownBlock → (w3.setCell ⟨bp, 1, none⟩ v3).heap[k]? = w2.heap[k]? := fun k hk hkp hk' => by
    rw [Below.heap_setCell w3 _ _ k hkp]; exact hblk k hk hk'
  have v3lt : ∀ k, v3.ownBlock = some k → k ≠ bp := fun k hk e => own_ne ho3 hp3 (by decide) (by rw [hk, e])
  have fin : Made B bp bm L s vw nw xs w (.returned (.pointer (some ⟨w.heap.size, 0, none⟩))) (w3.setCell ⟨bp, 1, none⟩ v3) := by
    refine ⟨w.heap.size, v3, D.put (.string s.data.toList) (code (some w.heap.size)), rfl, ⟨heap_set hp3, ?_, ?_, H.out.gp, H.out.gm, ?_⟩, ?_, ?_, ?_⟩
    · have := owns_same (w' := w3.setCell ⟨bp, 1, none⟩ v3) ho3 fun k hk => Below.heap_setCell w3 _ _ k (v3lt k hk)
      simpa using this
    · refine hm2'.out.same (hgr bm (by have := hm2'.out.own.lt; omega) ?_ ?_)
      · intro e
        obtain ⟨es, ck, hh⟩ := hm2'.out.heap
        rw [e, HP2.out] at hh
        cases hh
      · obtain ⟨es, ck, hh⟩ := hm2'.out.heap
        exact fun e => own_ne_map OWN2.out hh e.symm
    · intro p hp
      obtain ⟨t1, t2⟩ := TS2.out p hp
      refine ⟨t1, ?_⟩
      rw [hgr p.2 (lt_of_heap t2) ?_ ?_]
      · exact t2
      · intro e
        rw [e, HP2.out] at t2
        simp at t2
      · exact fun e => own_ne OWN2.out t2 (by decide) e.symm
    · refine BEL2.out.trans ⟨hg3.os, hg3.tape, hg3.output, by simpa using hs3, fun k hk => ?_⟩
      exact hgr k (by omega) (fun e => by have := H.out.gp; omega) (fun e => by have := ownBlock_ge OWN2.out k e.symm; omega)
    · refine owns_same OWNW2.out fun k hk => hgr k (ownBlock_lt OWNW2.out k hk) (fun e => own_ne OWNW2.out HP2.out (by decide) (by rw [hk, e])) (fun e => HNE.out (by rw [hk, e]))
    · rcases hloc with e | e
      · rw [e]; exact HNE.out
      · rw [e]
        intro e1
        have := ownBlock_lt OWNW2.out _ e1.symm
        omega
  have hform : ∃ g cap, v3 = .slice (some ⟨g, 0, none⟩) (L.length + 1) cap := by
    rcases ho3.2 with ⟨_, h0⟩ | ⟨g, cap, _, h0, _⟩
    · omega
    · exact ⟨g, cap, h0⟩
  have FIN := hid fin
  clear fin hgr hblk ho3 hg3 hloc hp3 v3lt
  obtain ⟨g3, cap3, rfl⟩ := hform
  go_wp2
  go_ret
  exact FIN.out
end Go.Proofs.Ybulkwng

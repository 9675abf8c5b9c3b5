import Derived.Test.YbulkpqmC4
namespace Go.Proofs.Ybulkpqm.lawC
open Go.ChangeShapes Go.WideShapes Go.ChangeAt Go.RowKit Go.Lib Go.Sort Go.Shelf
set_option linter.unusedVariables false

theorem Elem.c0 {w : World} {E M c : Nat} {v : Value} (h : Elem w E M c v) : w.cell? ⟨E, 0, none⟩ = some (.slice (some ⟨M, 0, none⟩) c c) := by simp [World.cell?, show w.heap[E]? = _ from h]
theorem Elem.c3 {w : World} {E M c : Nat} {v : Value} (h : Elem w E M c v) : w.cell? ⟨E, 3, none⟩ = some v := by simp [World.cell?, show w.heap[E]? = _ from h]
theorem Elem.f3 {w : World} {E M c : Nat} {v : Value} (h : Elem w E M c v) : w.frozen? ⟨E, 3, none⟩ = false := by simp [World.frozen?, show w.heap[E]? = _ from h]
theorem Elem.lt {w : World} {E M c : Nat} {v : Value} (h : Elem w E M c v) : E < w.heap.size := lt_of_block h
theorem Elem.set {w : World} {E M c : Nat} {v : Value} (h : Elem w E M c v) (u : Value) : Elem (w.setCell ⟨E, 3, none⟩ u) E M c u := by
  have hlt := h.lt
  have h' : w.heap[E] = .cells #[.slice (some ⟨M, 0, none⟩) c c, .slice none 0 0, .slice none 0 0, v, .string ⟨#[]⟩, .int .i64 0, .int .u8 0] 50 (0, 0) := by simpa [Array.getElem?_eq_getElem hlt] using (show w.heap[E]? = _ from h)
  unfold Elem
  show (w.heap.modify E _)[E]? = _
  rw [Array.getElem?_eq_getElem (by simpa using hlt), Array.getElem_modify_self, h']
  rfl
theorem Elem.below {w w' : World} {E M c B : Nat} {v : Value} (h : Elem w E M c v) (hb : Go.RowKit.Below B w w') (hE : E < B) : Elem w' E M c v := (hb.block E hE).trans h

set_option maxHeartbeats 800000 in
theorem index_small (E M c : Nat) (p : Addr) (w : World) (hc : c ≤ 8) (hE : Elem w E M c (.pointer (some p))) :
    Calls Yba.prog 14 #[.pointer (some ⟨E, 0, none⟩)] w fun e w' => e = .returned (.tuple #[]) ∧ Elem w' E M c (.pointer none) ∧ Go.RowKit.Below E w w' := by
  have h0 := hE.c0
  have h3 := hE.c3
  have f3 := hE.f3
  have hS := hE.set (.pointer none)
  have h0' := hS.c0
  go_enter Yba.func14, Yba.ntmps14
  go_wp2
  refine bodyPost_ret (v := .tuple #[]) (results_none rfl _ _ _) rfl ?_
  exact ⟨rfl, hS, (Below.refl E w).setCell (p := ⟨E, 3, none⟩) (by exact Nat.le_refl _) _⟩

set_option maxHeartbeats 800000 in
theorem index_big (E M c : Nat) (p : Addr) (f : Nat → ByteArray) (w : World) (hc : 9 ≤ c) (hc2 : c ≤ 63) (hE : Elem w E M c (.pointer (some p))) (hM : Mem w M f c) (hME : M < E) :
    Calls Yba.prog 14 #[.pointer (some ⟨E, 0, none⟩)] w fun e w' => e = .returned (.tuple #[]) ∧ ∃ I R d, E < I ∧ E < R ∧ I < w'.heap.size ∧ R < w'.heap.size ∧ Elem w' E M c (.pointer (some ⟨I, 0, none⟩)) ∧
      w'.cell? ⟨I, 0, none⟩ = some (.slice (some ⟨R, 0, none⟩) c c) ∧ Ord f c (fun k => d[k]!) ∧ d.size = c ∧ Holds (encN c) w' R 0 d ∧ Go.RowKit.Below E w w' := by
  have h0 := hE.c0
  have h3 := hE.c3
  have f3 := hE.f3
  have hS := hE.set (.pointer none)
  have h0' := hS.c0
  have hlt := hE.lt
  have hb0 : Go.RowKit.Below E w (w.setCell ⟨E, 3, none⟩ (.pointer none)) := (Below.refl E w).setCell (p := ⟨E, 3, none⟩) (by exact Nat.le_refl _) _
  have hcon := byName_any M c f (w.setCell ⟨E, 3, none⟩ (.pointer none)) (by omega) hc2 (hM.below hb0 hME) (by simp; omega)
  go_enter Yba.func14, Yba.ntmps14
  go_wp2_with fail
  refine hcon.mono ?_
  rintro e w1 ⟨R, d, hR1, hR2, rfl, hO, hsz, hH, hB⟩
  simp at hR1
  have hS1 := hS.below hB (by simpa using hlt)
  have e3 := hS1.c3
  have ef := hS1.f3
  have lE := hS1.lt
  clear h0 h3 f3 h0' hcon
  have hS2 := hS1.set (.pointer (some ⟨w1.heap.size, 0, none⟩))
  go_wp2
  go_end0
  have hb1 : Go.RowKit.Below E w1 (w1.setCell ⟨E, 3, none⟩ (.pointer (some ⟨w1.heap.size, 0, none⟩))) := (Below.refl E w1).setCell (p := ⟨E, 3, none⟩) (by exact Nat.le_refl _) _
  obtain ⟨w2, hw2⟩ : ∃ w2, w2 = w1.setCell ⟨E, 3, none⟩ (.pointer (some ⟨w1.heap.size, 0, none⟩)) := ⟨_, rfl⟩
  have s2 : w2.heap.size = w1.heap.size := by rw [hw2]; simp
  have hH2 : Holds (encN c) w2 R 0 d := by
    rw [hw2]
    intro j hj
    refine ⟨?_, by rw [World.frozen?_setCell]; exact (hH j hj).2⟩
    rw [World.cell?_setCell_other _ _ _ _ (by intro e; simp only [Addr.mk.injEq] at e; omega)]
    exact (hH j hj).1
  rw [← hw2] at hS2 hb1 ⊢
  have ba : Go.RowKit.Below w2.heap.size w2 (w2.alloc (.cells #[.slice (some ⟨R, 0, none⟩) c c] 26)) := (Below.refl _ _).alloc (Nat.le_refl _) _
  refine ⟨rfl, w1.heap.size, R, d, lE, by omega, by simp; omega, by simp; omega, hS2.below ba (by omega), ?_, hO, hsz, ?_, ((hb0.trans (hB.mono (by simp; omega))).trans hb1).trans (ba.mono (by omega))⟩
  · rw [← s2]; simp
  · intro j hj
    have := hH2 j hj
    exact ⟨(ba.cell (by show R < _; omega)).trans this.1, (ba.frozen (by show R < _; omega)).trans this.2⟩

end Go.Proofs.Ybulkpqm.lawC

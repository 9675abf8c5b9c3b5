import Derived.Test.YbulkpqmCPlain
import Derived.Shelf.SlSortCmp.Kit1
namespace Go.Proofs.Ybulkpqm.lawC
open Go.ChangeShapes Go.WideShapes Go.ChangeAt Go.RowKit Go.Lib Go.Sort Go.Shelf
set_option linter.unusedVariables false

def encN (c x : Nat) : Value := .int .i32 ((min x (c - 1) : Nat) : Int)
def cfN (f : Nat → ByteArray) (c x y : Nat) : Int := cf f (min x (c - 1)) (min y (c - 1))

theorem encN_lt {c x : Nat} (h : x < c) : encN c x = .int .i32 (x : Int) := by
  unfold encN
  rw [Nat.min_eq_left (by omega)]

theorem swo_irrefl (f : Nat → ByteArray) (c x : Nat) : ltOf (cfN f c) x x = false := by unfold ltOf cfN; exact decide_eq_false lt_irrefl3

theorem swo_trans (f : Nat → ByteArray) (c x y z : Nat) (h1 : ltOf (cfN f c) x y = true) (h2 : ltOf (cfN f c) y z = true) : ltOf (cfN f c) x z = true := by
  unfold ltOf cfN at *
  exact decide_eq_true (lt_trans3 (of_decide_eq_true h1) (of_decide_eq_true h2))

theorem swo_ntrans (f : Nat → ByteArray) (c x y z : Nat) (h1 : ltOf (cfN f c) x y = false) (h2 : ltOf (cfN f c) y z = false) : ltOf (cfN f c) x z = false := by
  unfold ltOf cfN at *
  refine decide_eq_false fun h => ?_
  have h1' := of_decide_eq_false h1
  have h2' := of_decide_eq_false h2
  rcases lt_total3 h1' with e | h3
  · rw [e] at h; exact h2' h
  · exact h2' (lt_trans3 h3 h)

theorem swoN (f : Nat → ByteArray) (c : Nat) : SWO (ltOf (cfN f c)) := ⟨swo_irrefl f c, swo_trans f c, swo_ntrans f c⟩

/-- A cell of another block than the sorted row's. -/
theorem cell_sortWorld {α : Type} [Inhabited α] {enc : α → Value} {w : World} {blk off n : Nat} {d : Array α} {os : Array Obj} {a : Addr} (h1 : a.block < w.heap.size) (h2 : a.block ≠ blk) :
    (sortWorld enc w blk off n d os).cell? a = w.cell? a := by
  apply World.cell?_of_block
  unfold sortWorld
  rw [heap_grow_old _ _ (by simpa [size_putRow, Sort.ahead] using h1)]
  simp [putRow, mapBlock, Sort.ahead, Array.getElem?_modify, Ne.symm h2]

theorem below_sortWorld {α : Type} [Inhabited α] {enc : α → Value} {w : World} {blk off n : Nat} {d : Array α} {os : Array Obj} {B : Nat} (hB : B ≤ blk) (hb : blk < w.heap.size) :
    Go.RowKit.Below B w (sortWorld enc w blk off n d os) := by
  refine ⟨rfl, rfl, rfl, by unfold sortWorld; rw [size_grow, size_putRow]; show w.heap.size ≤ w.heap.size + _; omega, fun k hk => ?_⟩
  unfold sortWorld
  rw [heap_grow_old _ _ (by rw [size_putRow]; show k < w.heap.size; omega)]
  have : blk ≠ k := by omega
  simp [putRow, mapBlock, Sort.ahead, Array.getElem?_modify, this]

theorem cmpLays (V M R c : Nat) (f : Nat → ByteArray) (w : World) (h0 : 0 < c) (hc : c ≤ 63) (hV : w.cell? ⟨V, 0, none⟩ = some (.slice (some ⟨M, 0, none⟩) c c)) (hM : Mem w M f c)
    (lV : V < w.heap.size) (lM : M < w.heap.size) (nV : V ≠ R) (nM : M ≠ R) : CmpLays1 Yba.prog 23 #[.pointer (some ⟨V, 0, none⟩)] (encN c) (cfN f c) R 0 c w := by
  intro m os dk hs x y
  refine (closure_any V M c (min x (c - 1)) (min y (c - 1)) f _ hc ?_ ?_ (by omega) (by omega)).mono ?_
  · rw [cell_sortWorld (by exact lV) (by exact nV)]; exact hV
  · intro i hi
    obtain ⟨m0, m1, m2, m3⟩ := hM i hi
    refine ⟨?_, ?_, ?_, ?_⟩
    all_goals (rw [cell_sortWorld (by exact lM) (by exact nM)]; assumption)
  · rintro e w' ⟨he, n, o, hw⟩
    exact ⟨he, n, #[o], by rw [hw, alloc_eq_grow]; rfl⟩

/-- Room of one cell each. -/
def Room1 (w : World) (M n : Nat) : Prop := ∀ j, j < n → (∃ v, w.cell? ⟨M, j, none⟩ = some v) ∧ w.frozen? ⟨M, j, none⟩ = false

theorem Room1.set {w : World} {M n : Nat} (h : Room1 w M n) (a : Addr) (v : Value) : Room1 (w.setCell a v) M n := by
  intro j hj
  obtain ⟨⟨u, hu⟩, hf⟩ := h j hj
  refine ⟨?_, by rw [World.frozen?_setCell]; exact hf⟩
  by_cases e : a = ⟨M, j, none⟩
  · subst e; exact ⟨v, World.cell?_setCell_same _ _ _ hu⟩
  · exact ⟨u, (World.cell?_setCell_other _ _ _ _ e).trans hu⟩

theorem room1_of {w : World} {B e n g : Nat} {xs : List Value} (h : w.ownsRow B e 1 (.slice (some ⟨g, 0, none⟩) n n) n xs) : Room1 w g n := by
  obtain ⟨hl, h | ⟨g', cap, cur, hv, hg, hh, h1, h2, h3, h4⟩⟩ := h
  · simp at h
  · simp at hv
    obtain ⟨rfl, rfl⟩ := hv
    intro j hj
    have hj' : j < cur.size := by omega
    refine ⟨⟨cur[j], ?_⟩, ?_⟩
    · simp [World.cell?, hh, hj']
    · simp [World.frozen?, hh]

/-- The first k places hold their own numbers. -/
def Idn (w : World) (R k : Nat) : Prop := ∀ j, j < k → w.cell? ⟨R, j, none⟩ = some (.int .i32 (j : Int))

theorem Idn.set {w : World} {R k n : Nat} (h : Idn w R k) (hr : Room1 w R n) (hk : k < n) : Idn (w.setCell ⟨R, k, none⟩ (.int .i32 (k : Int))) R (k + 1) := by
  intro j hj
  by_cases e : j = k
  · subst e; exact set_eq (hr j hk).1
  · rw [set_ne e]; exact h j (by omega)

theorem holds_id {w : World} {R c : Nat} (h : Idn w R c) (hr : Room1 w R c) : Holds (encN c) w R 0 (Array.range c) := by
  intro j hj
  have hj' : j < c := by simpa using hj
  have e : (Array.range c)[j]! = j := by rw [getElem!_pos (Array.range c) j hj]; simp
  rw [e, encN_lt hj', Nat.zero_add]
  exact ⟨h j hj', (hr j hj').2⟩

/-- From the sort's answer to the plain order. -/
theorem ord_of {f : Nat → ByteArray} {c : Nat} {d : Array Nat} (hp : PermIn 0 c (Array.range c) d) (hs : SortedIn (ltOf (cfN f c)) 0 c d) : Ord f c (fun k => d[k]!) ∧ d.size = c := by
  obtain ⟨h1, _, h3⟩ := hp
  have hsz : d.size = c := by simpa using h1
  have e1 : (d.extract 0 c) = d := by rw [← hsz]; exact Array.extract_size
  have e2 : ((Array.range c).extract 0 c) = Array.range c := by have := Array.extract_size (xs := Array.range c); rwa [Array.size_range] at this
  rw [e1, e2, Array.toList_range] at h3
  have hget : ∀ k (hk : k < c), d[k]! = d.toList[k]'(by simpa [hsz] using hk) := fun k hk => by rw [getElem!_pos d k (by omega)]; simp
  have hlt : ∀ k, k < c → d[k]! < c := fun k hk => by
    have : d[k]! ∈ d.toList := by rw [hget k hk]; exact List.getElem_mem _
    simpa using h3.mem_iff.1 this
  have hnd : d.toList.Nodup := h3.nodup_iff.2 List.nodup_range
  have hinj : ∀ k l, k < l → l < c → d[k]! ≠ d[l]! := fun k l hkl hl e => by
    rw [hget k (by omega), hget l hl] at e
    exact List.pairwise_iff_getElem.1 hnd k l _ _ hkl e
  refine ⟨⟨hlt, hinj, fun i hi => ?_, fun k l hkl hl => ?_⟩, hsz⟩
  · have : i ∈ d.toList := h3.mem_iff.2 (by simpa using hi)
    obtain ⟨k, hk, e⟩ := List.getElem_of_mem this
    exact ⟨k, by simpa [hsz] using hk, by rw [hget k (by simpa [hsz] using hk)]; exact e⟩
  · have h := hs k l (Nat.zero_le _) hkl hl
    unfold ltOf cfN at h
    have a := hlt k (by omega)
    have b := hlt l hl
    rw [Nat.min_eq_left (by omega), Nat.min_eq_left (by omega)] at h
    rcases lt_total3 (of_decide_eq_false h) with e | e
    · exact absurd e.symm (hinj k l hkl hl)
    · exact e

end Go.Proofs.Ybulkpqm.lawC

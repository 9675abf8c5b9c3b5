import Derived.Test.YbulkpsqDoorQ1
import Derived.Deep.DeepCutAuto
namespace Go.Proofs.YbulkpsqDoor.law
open Go.ChangeShapes Go.WideShapes Go.ChangeAt Go.RowKit
set_option linter.unusedVariables false

/-- Only these blocks have turned. -/
def Only (bs : List Nat) (w w' : World) : Prop := w'.os = w.os ∧ w'.tape = w.tape ∧ w'.output = w.output ∧ w.heap.size ≤ w'.heap.size ∧ ∀ i, i < w.heap.size → i ∉ bs → w'.heap[i]? = w.heap[i]?

theorem Only.refl (bs : List Nat) (w : World) : Only bs w w := ⟨rfl, rfl, rfl, Nat.le_refl _, fun _ _ _ => rfl⟩
theorem Only.trans {bs : List Nat} {a b c : World} (h : Only bs a b) (k : Only bs b c) : Only bs a c :=
  ⟨k.1.trans h.1, k.2.1.trans h.2.1, k.2.2.1.trans h.2.2.1, Nat.le_trans h.2.2.2.1 k.2.2.2.1, fun i hi hn => (k.2.2.2.2 i (Nat.lt_of_lt_of_le hi h.2.2.2.1) hn).trans (h.2.2.2.2 i hi hn)⟩
theorem Only.of {bs : List Nat} {w w' : World} {D : Nat} (h : w.grownBy w' (some D)) (hm : D ∈ bs) : Only bs w w' :=
  ⟨h.os, h.tape, h.output, h.size, fun i hi hn => h.block i hi (by simp only [ne_eq, Option.some.injEq]; intro e; exact hn (e ▸ hm))⟩
theorem Only.set {bs : List Nat} (w : World) (D o : Nat) (v : Value) (hm : D ∈ bs) : Only bs w (w.setCell ⟨D, o, none⟩ v) := Only.of (grown_set w D o v) hm
theorem Only.drewN {bs : List Nat} {w w' : World} (h : Only bs w w') (n : Nat) : Only bs w (w'.drewN n) := h
theorem Only.more {bs cs : List Nat} {w w' : World} (h : Only bs w w') (hs : ∀ x ∈ bs, x ∈ cs) : Only cs w w' :=
  ⟨h.1, h.2.1, h.2.2.1, h.2.2.2.1, fun i hi hn => h.2.2.2.2 i hi (fun hm => hn (hs i hm))⟩
theorem Only.below {bs : List Nat} {a w w' : World} {B : Nat} (h : Only bs w w') (hb : Below B a w) (hB : B ≤ w.heap.size) (hs : ∀ x ∈ bs, B ≤ x) : Below B a w' :=
  hb.trans ⟨h.1, h.2.1, h.2.2.1, h.2.2.2.1, fun k hk => h.2.2.2.2 k (Nat.lt_of_lt_of_le hk hB) (fun hm => by have := hs k hm; omega)⟩
theorem Only.dig {bs : List Nat} {w w' : World} {b N : Nat} {F : Nat → Value} (h : Only bs w w') (hd : Dig w b F N) (hb : b < w.heap.size) (hn : b ∉ bs) : Dig w' b F N :=
  fun j hj => ⟨(World.cell?_of_block (h.2.2.2.2 b hb hn)).trans (hd j hj).1, (World.frozen?_of_block (h.2.2.2.2 b hb hn)).trans (hd j hj).2⟩

/-- A chunk as it came in. -/
def Chunk (w : World) (v : Value) (c : List Int) : Prop := ∃ A C, v = .slice A c.length C ∧ c.length ≤ C ∧ C ≤ maxLen ∧ (c = [] ∨ ∃ b o, A = some ⟨b, o, none⟩ ∧ ∀ j, j < c.length → w.cell? ⟨b, o + j, none⟩ = some (.int .u8 (c.getD j 0)))
def Chs (w : World) (ov : Value) (cs : List (List Int)) : Prop := ∃ oa oc, ov = .slice oa cs.length oc ∧ cs.length ≤ oc ∧ oc ≤ maxLen ∧ (cs = [] ∨ ∃ ob oo, oa = some ⟨ob, oo, none⟩ ∧ ∀ i, i < cs.length → ∃ v, w.cell? ⟨ob, oo + i, none⟩ = some v ∧ Chunk w v (cs.getD i []))

theorem Chunk.below {w w' : World} {v : Value} {c : List Int} (h : Chunk w v c) (hb : Below w.heap.size w w') : Chunk w' v c := by
  obtain ⟨A, C, h1, h2, h3, h4 | ⟨b, o, rfl, hc⟩⟩ := h
  · exact ⟨A, C, h1, h2, h3, .inl h4⟩
  · exact ⟨_, C, h1, h2, h3, .inr ⟨b, o, rfl, fun j hj => (hb.cell (cell_lt (hc j hj))).trans (hc j hj)⟩⟩
theorem Chs.below {w w' : World} {ov : Value} {cs : List (List Int)} (h : Chs w ov cs) (hb : Below w.heap.size w w') : Chs w' ov cs := by
  obtain ⟨oa, oc, h1, h2, h3, h4 | ⟨ob, oo, rfl, hc⟩⟩ := h
  · exact ⟨oa, oc, h1, h2, h3, .inl h4⟩
  refine ⟨_, oc, h1, h2, h3, .inr ⟨ob, oo, rfl, fun i hi => ?_⟩⟩
  obtain ⟨v, hv, hch⟩ := hc i hi
  exact ⟨v, (hb.cell (cell_lt hv)).trans hv, hch.below hb⟩

/-- The reader's struct. -/
def rdF (ov : Value) (k off : Nat) (fv : Value) (wd : Bool) : Nat → Value := fun j => if j = 0 then ov else if j = 1 then .int .i64 k else if j = 2 then .int .i64 off else if j = 3 then fv else .bool wd

theorem rdF_set (ov : Value) (k off k' off' : Nat) (fv : Value) (wd : Bool) (j : Nat) : upd (upd (upd (rdF ov k off fv wd) 2 (.int .i64 (off' : Nat))) 1 (.int .i64 (k' : Nat))) 2 (.int .i64 0) j = rdF ov k' 0 fv wd j := by
  unfold upd rdF
  by_cases h2 : j = 2
  · subst h2; rfl
  · by_cases h1 : j = 1
    · subst h1; rfl
    · simp [h1, h2]
theorem rdF_off (ov : Value) (k off off' : Nat) (fv : Value) (wd : Bool) (j : Nat) : upd (rdF ov k off fv wd) 2 (.int .i64 (off' : Nat)) j = rdF ov k off' fv wd j := by
  unfold upd rdF
  by_cases h2 : j = 2
  · subst h2; rfl
  · simp [h2]

/-- Where the reader stands, and what it still has. -/
def Pos (cs : List (List Int)) (k off : Nat) (R : List (List Int)) : Prop := (k = cs.length ∧ off = 0 ∧ R = []) ∨ (k < cs.length ∧ (off = 0 ∨ off < (cs.getD k []).length) ∧ R = (cs.getD k []).drop off :: cs.drop (k + 1))

theorem pos_next {cs : List (List Int)} {k : Nat} (h : k < cs.length) : Pos cs (k + 1) 0 (cs.drop (k + 1)) := by
  by_cases hk : k + 1 = cs.length
  · exact .inl ⟨hk, rfl, by rw [List.drop_eq_nil_iff]; omega⟩
  · refine .inr ⟨by omega, .inl rfl, ?_⟩
    rw [List.drop_zero, List.getD_eq_getElem?_getD, List.getElem?_eq_getElem (by omega)]
    exact List.drop_eq_getElem_cons (by omega)

/-- What Read leaves. -/
def Red (ov : Value) (cs : List (List Int)) (fv : Value) (wd : Bool) (Rb U S : Nat) (R : List (List Int)) (w w' : World) : Prop :=
  ∃ (k' off' : Nat) (bf' : Nat → Int), Pos cs k' off' (rdR S R) ∧ Dig w' Rb (rdF ov k' off' fv wd) 5 ∧ Dig w' U (fun j => .int .u8 (bf' j)) S ∧ (∀ j, j < rdN S R → bf' j = (rdB S R).getD j 0) ∧ Only [Rb, U] w w'

set_option maxHeartbeats 800000 in
set_option maxRecDepth 1000000 in
theorem read_end (ov : Value) (cs : List (List Int)) (fv : Value) (wd : Bool) (Rb U S : Nat) (bf : Nat → Int) (w : World) (hC : Chs w ov cs) (hM : cs.length ≤ 1024)
    (hR : Dig w Rb (rdF ov cs.length 0 fv wd) 5) (hU : Dig w U (fun j => .int .u8 (bf j)) S) :
    Calls Ybad.prog 21 #[.pointer (some ⟨Rb, 0, none⟩), .slice (some ⟨U, 0, none⟩) S S] w fun e w' => e = .returned (.tuple #[.int .i64 0, fv]) ∧ ∃ q, w' = w.drewN q := by
  obtain ⟨oa, oc, rfl, h2, h3, h4⟩ := hC
  have r0 : w.cell? ⟨Rb, 0, none⟩ = some (.slice oa cs.length oc) := (hR 0 (by omega)).1
  have r1 : w.cell? ⟨Rb, 1, none⟩ = some (.int .i64 cs.length) := (hR 1 (by omega)).1
  have r3 : w.cell? ⟨Rb, 3, none⟩ = some fv := (hR 3 (by omega)).1
  clear hR hU h4
  unfold maxLen at h3
  go_enter Ybad.func21, Ybad.ntmps21
  go_wp2
  go_quiet (fail)
  go_wp2
  go_quiet (fail)
  go_wp2
  go_ret2
  exact ⟨rfl, _, World.drewN_drewN _ _ _⟩

/-- What stands ahead of a read in the midst of the chunks: chunk k's value and cells. -/
theorem chunk_at {w : World} {ov : Value} {cs : List (List Int)} (hC : Chs w ov cs) {k : Nat} (hk : k < cs.length) :
    ∃ ob oo oc A C, ov = .slice (some ⟨ob, oo, none⟩) cs.length oc ∧ cs.length ≤ oc ∧ w.cell? ⟨ob, oo + k, none⟩ = some (.slice A (cs.getD k []).length C) ∧ (cs.getD k []).length ≤ C ∧ C ≤ 9223372036854775807 ∧
      (cs.getD k [] = [] ∨ ∃ b o, A = some ⟨b, o, none⟩ ∧ ∀ j, j < (cs.getD k []).length → w.cell? ⟨b, o + j, none⟩ = some (.int .u8 ((cs.getD k []).getD j 0))) := by
  obtain ⟨oa, oc, rfl, h2, h3, h4 | ⟨ob, oo, rfl, hc⟩⟩ := hC
  · subst h4; simp at hk
  · obtain ⟨v, hv, A, C, rfl, c1, c2, c3⟩ := hc k hk
    exact ⟨ob, oo, oc, A, C, rfl, h2, hv, c1, by unfold maxLen at c2; omega, c3⟩

theorem copy_none (U S : Nat) (w : World) (A : Option Addr) (C : Nat) : (Builtin.copy_ #[23, 23] 3 #[.slice (some ⟨U, 0, none⟩) S S, .slice A 0 C]).run Ybad.prog w = .ok (goInt 0) w := by
  have hsz : (Ybad.prog.info? 5).map (·.size) = some 1 := by
    obtain ⟨i0, hi, hz0, hz1, hz2⟩ := info_parts info5
    rw [hi]; simp [hz1]
  exact run_copy_none (P := Ybad.prog) w 23 23 3 5 (some ⟨U, 0, none⟩) A S S 0 C Ybad.underlying23 hsz (by simp)

/-- z.off += n; z.k++; z.off = 0 -/
theorem sets3 {w : World} {Rb : Nat} {ov : Value} {k off : Nat} {fv : Value} {wd : Bool} {bs : List Nat} (h : Dig w Rb (rdF ov k off fv wd) 5) (hm : Rb ∈ bs) (x : Int) :
    Dig (((w.setCell ⟨Rb, 2, none⟩ (.int .i64 x)).setCell ⟨Rb, 1, none⟩ (.int .i64 ((k : Int) + 1))).setCell ⟨Rb, 2, none⟩ (.int .i64 0)) Rb (rdF ov (k + 1) 0 fv wd) 5 ∧ Only bs w (((w.setCell ⟨Rb, 2, none⟩ (.int .i64 x)).setCell ⟨Rb, 1, none⟩ (.int .i64 ((k : Int) + 1))).setCell ⟨Rb, 2, none⟩ (.int .i64 0)) := by
  refine ⟨(((h.set 2 (by omega) _).set 1 (by omega) _).set 2 (by omega) _).congr fun j hj => ?_, ((Only.set _ _ _ _ hm).trans (Only.set _ _ _ _ hm)).trans (Only.set _ _ _ _ hm)⟩
  unfold upd rdF
  by_cases h2 : j = 2
  · subst h2; rfl
  · by_cases h1 : j = 1
    · subst h1; rfl
    · simp [h1, h2]

/-- What a read that ends a chunk leaves. -/
def Rpost (n : Int) (er ov : Value) (cs : List (List Int)) (fv : Value) (wd : Bool) (Rb U k off : Nat) (w : World) (e : Ending) (w' : World) : Prop :=
  e = .returned (.tuple #[.int .i64 n, er]) ∧ Dig w' Rb (rdF ov k off fv wd) 5 ∧ Only [Rb, U] w w'
def erAt (cs : List (List Int)) (k : Nat) (wd : Bool) (fv : Value) : Value := if k + 1 = cs.length ∧ wd = true then fv else .nilIface

set_option maxHeartbeats 1600000 in
set_option maxRecDepth 1000000 in
theorem read_empty (ov : Value) (cs : List (List Int)) (fv : Value) (wd : Bool) (Rb U S k : Nat) (bf : Nat → Int) (w : World) (hC : Chs w ov cs) (hM : cs.length ≤ 1024) (hk : k < cs.length) (hc : cs.getD k [] = [])
    (hR : Dig w Rb (rdF ov k 0 fv wd) 5) (hU : Dig w U (fun j => .int .u8 (bf j)) S) (lR : Rb < w.heap.size) (lU : U < w.heap.size) (ne : U ≠ Rb) :
    Calls Ybad.prog 21 #[.pointer (some ⟨Rb, 0, none⟩), .slice (some ⟨U, 0, none⟩) S S] w (Rpost 0 (erAt cs k wd fv) ov cs fv wd Rb Rb (k + 1) 0 w) := by
  have HE : Hid (erAt cs k wd fv = if k + 1 = cs.length ∧ wd = true then fv else .nilIface) := rfl
  generalize erAt cs k wd fv = er at HE ⊢
  obtain ⟨ob, oo, oc, A, C, rfl, h2, hv, c1, c2, _⟩ := chunk_at hC hk
  rw [hc] at hv
  have hv' : w.cell? ⟨ob, oo + k, none⟩ = some (.slice A 0 C) := hv
  obtain ⟨r0, f0⟩ := hR 0 (by omega)
  obtain ⟨r1, f1⟩ := hR 1 (by omega)
  obtain ⟨r2, f2⟩ := hR 2 (by omega)
  obtain ⟨r3, f3⟩ := hR 3 (by omega)
  obtain ⟨r4, f4⟩ := hR 4 (by omega)
  have r0' : w.cell? ⟨Rb, 0, none⟩ = some (.slice (some ⟨ob, oo, none⟩) cs.length oc) := r0
  have r1' : w.cell? ⟨Rb, 1, none⟩ = some (.int .i64 k) := r1
  have r2' : w.cell? ⟨Rb, 2, none⟩ = some (.int .i64 0) := r2
  have r3' : w.cell? ⟨Rb, 3, none⟩ = some fv := r3
  have r4' : w.cell? ⟨Rb, 4, none⟩ = some (.bool wd) := r4
  have HR : Hid (Dig w Rb (rdF (.slice (some ⟨ob, oo, none⟩) cs.length oc) k 0 fv wd) 5) := hR
  clear hR hU r0 r1 r2 r3 r4 hv hc hC
  have hcp := copy_none U S
  have n1 : ¬ cs.length ≤ k := by omega
  go_enter Ybad.func21, Ybad.ntmps21
  go_wp2
  go_quiet (fail)
  generalize nq = nq0
  go_wp2
  go_quiet (fail)
  go_wp2
  obtain ⟨hD, hO⟩ := sets3 (w := w.drewN (nq0 + nq)) (bs := [Rb, Rb]) HR.out (by simp) 0
  have hO' : Only [Rb, Rb] w _ := Only.trans (Only.drewN (Only.refl _ w) (nq0 + nq)) hO
  clear hO r0' r1' r2' r3' r4' f0 f1 f2 f3 f4 hv' hcp HR
  generalize (((w.drewN (nq0 + nq)).setCell ⟨Rb, 2, none⟩ (.int .i64 0)).setCell ⟨Rb, 1, none⟩ (.int .i64 ((k : Int) + 1))).setCell ⟨Rb, 2, none⟩ (.int .i64 0) = w2 at hD hO' ⊢
  have r0 : w2.cell? ⟨Rb, 0, none⟩ = some (.slice (some ⟨ob, oo, none⟩) cs.length oc) := (hD 0 (by omega)).1
  have r1 : w2.cell? ⟨Rb, 1, none⟩ = some (.int .i64 ((k : Int) + 1)) := (hD 1 (by omega)).1
  have r3 : w2.cell? ⟨Rb, 3, none⟩ = some fv := (hD 3 (by omega)).1
  have r4 : w2.cell? ⟨Rb, 4, none⟩ = some (.bool wd) := (hD 4 (by omega)).1
  have HD : Hid (Dig w2 Rb (rdF (.slice (some ⟨ob, oo, none⟩) cs.length oc) (k + 1) 0 fv wd) 5) := hD
  have HO : Hid (Only [Rb, Rb] w w2) := hO'
  clear hD hO'
  by_cases hk1 : k + 1 = cs.length
  · have hd : ((k : Int) + 1 == (cs.length : Int)) = true := by simp; omega
    cases wd
    · go_quiet (fail)
      go_wp2
      go_ret2
      exact ⟨by rw [HE.out.trans (if_neg (by simp))]; rfl, HD.out, HO.out.drewN _⟩
    · go_quiet (fail)
      go_wp2
      go_quiet (fail)
      go_wp2
      go_ret2
      exact ⟨by rw [HE.out.trans (if_pos (by simp [hk1]))]; rfl, HD.out, (HO.out.drewN _).drewN _⟩
  · have hd : ((k : Int) + 1 == (cs.length : Int)) = false := by simp; omega
    go_quiet (fail)
    go_wp2
    go_ret2
    exact ⟨by rw [HE.out.trans (if_neg (fun h => hk1 h.1))]; rfl, HD.out, HO.out.drewN _⟩

/-- What copy takes. -/
def got (c : List Int) (off S : Nat) : List Int := (c.drop off).take S
theorem got_len (c : List Int) (off S : Nat) : (got c off S).length = min S (c.length - off) := by simp [got]

theorem got_at (c : List Int) (off S j : Nat) (h : j < min S (c.length - off)) : (got c off S).getD j 0 = c.getD (off + j) 0 := by
  unfold got
  simp only [List.getD_eq_getElem?_getD]
  rw [List.getElem?_take, if_pos (by omega), List.getElem?_drop]

theorem copy_got (U S b o off C : Nat) (c : List Int) (bf : Nat → Int) (w : World) (hoff : off ≤ c.length) (hU : Dig w U (fun j => .int .u8 (bf j)) S) (hc : ∀ j, j < c.length → w.cell? ⟨b, o + j, none⟩ = some (.int .u8 (c.getD j 0))) (q : Nat) :
    (Builtin.copy_ #[23, 23] 3 #[.slice (some ⟨U, 0, none⟩) S S, .slice (some ⟨b, o + off, none⟩) (c.length - off) C]).run Ybad.prog (w.drewN q) = .ok (.int .i64 ((min S (c.length - off) : Nat) : Int)) (puts (w.drewN q) U 0 (by8 (got c off S))) := by
  have h := run_copy_dig U 0 S S b (o + off) (c.length - off) C S (fun j => .int .u8 (bf j)) (by8 (got c off S)) (w.drewN q) hU (by rw [by8_len, got_len]; exact Nat.min_comm _ _) (by rw [by8_len, got_len]; omega) (by8_one _) (fun j v hj => by
    obtain ⟨h1, rfl⟩ := by8_at hj
    rw [got_len] at h1
    rw [got_at c off S j h1]
    have := hc (off + j) (by omega)
    rw [← Nat.add_assoc] at this
    exact this)
  rw [h, by8_len, got_len]
  rfl

def bf2 (bf : Nat → Int) (l : List Int) : Nat → Int := fun j => if j < l.length then l.getD j 0 else bf j
theorem dig_got {w : World} {U S : Nat} {bf : Nat → Int} (l : List Int) (hl : l.length ≤ S) (hU : Dig w U (fun j => .int .u8 (bf j)) S) : Dig (puts w U 0 (by8 l)) U (fun j => .int .u8 (bf2 bf l j)) S := by
  refine (Dig.puts (o := 0) (by8 l) hU (by rw [by8_len]; omega)).congr fun j hj => ?_
  rw [over_at, by8_len]
  simp only [bf2, Nat.zero_le, true_and, Nat.zero_add, Nat.sub_zero]
  by_cases h : j < l.length
  · rw [if_pos h, if_pos h]
    have : (by8 l)[j]? = some (.int .u8 (l.getD j 0)) := by simp [by8, h, List.getD_eq_getElem?_getD]
    rw [List.getD_eq_getElem?_getD, this]
    rfl
  · rw [if_neg h, if_neg h]

def Bpost (ov : Value) (cs : List (List Int)) (c : List Int) (fv : Value) (wd : Bool) (Rb U S k off : Nat) (bf : Nat → Int) (w : World) (e : Ending) (w' : World) : Prop :=
  Rpost (min S (c.length - off) : Nat) (if c.length - off ≤ S then erAt cs k wd fv else .nilIface) ov cs fv wd Rb U (if c.length - off ≤ S then k + 1 else k) (if c.length - off ≤ S then 0 else off + S) w e w' ∧ Dig w' U (fun j => .int .u8 (bf2 bf (got c off S) j)) S

set_option maxHeartbeats 1600000 in
set_option maxRecDepth 1000000 in
theorem read_bytes (ov : Value) (cs : List (List Int)) (c : List Int) (fv : Value) (wd : Bool) (Rb U S k off : Nat) (bf : Nat → Int) (w : World) (hC : Chs w ov cs) (hM : cs.length ≤ 1024) (hk : k < cs.length) (hc : cs.getD k [] = c) (hoff : off < c.length) (hcl : c.length ≤ 4096)
    (hS1 : 0 < S) (hS2 : S ≤ 32) (hR : Dig w Rb (rdF ov k off fv wd) 5) (hU : Dig w U (fun j => .int .u8 (bf j)) S) (lR : Rb < w.heap.size) (lU : U < w.heap.size) (ne : U ≠ Rb) :
    Calls Ybad.prog 21 #[.pointer (some ⟨Rb, 0, none⟩), .slice (some ⟨U, 0, none⟩) S S] w (Bpost ov cs c fv wd Rb U S k off bf w) := by
  obtain ⟨ob, oo, oc, A, C, rfl, h2, hv, c1, c2, h | ⟨b, o, rfl, hcell⟩⟩ := chunk_at hC hk
  · rw [hc] at h; subst h; simp at hoff
  rw [hc] at hv c1 hcell
  have hcp := copy_got U S b o off (C - off) c bf w (by omega) hU hcell
  obtain ⟨r0, f0⟩ := hR 0 (by omega)
  obtain ⟨r1, f1⟩ := hR 1 (by omega)
  obtain ⟨r2, f2⟩ := hR 2 (by omega)
  obtain ⟨r3, f3⟩ := hR 3 (by omega)
  obtain ⟨r4, f4⟩ := hR 4 (by omega)
  have r0' : w.cell? ⟨Rb, 0, none⟩ = some (.slice (some ⟨ob, oo, none⟩) cs.length oc) := r0
  have r1' : w.cell? ⟨Rb, 1, none⟩ = some (.int .i64 k) := r1
  have r2' : w.cell? ⟨Rb, 2, none⟩ = some (.int .i64 off) := r2
  have r3' : w.cell? ⟨Rb, 3, none⟩ = some fv := r3
  have r4' : w.cell? ⟨Rb, 4, none⟩ = some (.bool wd) := r4
  have HR : Hid (Dig w Rb (rdF (.slice (some ⟨ob, oo, none⟩) cs.length oc) k off fv wd) 5) := hR
  have HU : Hid (Dig w U (fun j => .int .u8 (bf j)) S) := hU
  clear hR hU r0 r1 r2 r3 r4 hc hC hcell
  have n1 : ¬ cs.length ≤ k := by omega
  have n2 : ¬ C = off := by omega
  have n3 : (off : Int) ≤ (c.length : Int) := by omega
  have HN : Hid (∀ e w', Rpost (min S (c.length - off) : Nat) (if c.length - off ≤ S then erAt cs k wd fv else .nilIface) (.slice (some ⟨ob, oo, none⟩) cs.length oc) cs fv wd Rb U (if c.length - off ≤ S then k + 1 else k) (if c.length - off ≤ S then 0 else off + S) w e w' ∧ Dig w' U (fun j => .int .u8 (bf2 bf (got c off S) j)) S → Bpost (.slice (some ⟨ob, oo, none⟩) cs.length oc) cs c fv wd Rb U S k off bf w e w') := fun _ _ h => h
  generalize Bpost (.slice (some ⟨ob, oo, none⟩) cs.length oc) cs c fv wd Rb U S k off bf w = PP at HN ⊢
  have hgl := got_len c off S
  generalize got c off S = gl at *
  generalize hn : c.length - off = n at *
  generalize hN : c.length = N at *
  go_enter Ybad.func21, Ybad.ntmps21
  go_wp2
  go_quiet (fail)
  generalize nq = nq0
  go_wp2
  go_quiet (fail)
  go_upto_region 5 with fail
  have g1 : (w.drewN (nq0 + nq)).grownBy (puts (w.drewN (nq0 + nq)) U 0 (by8 gl)) (some U) := grown_puts _ _ _ _
  have hU1 : Dig (puts (w.drewN (nq0 + nq)) U 0 (by8 gl)) U (fun j => .int .u8 (bf2 bf gl j)) S := dig_got gl (by omega) HU.out
  have hR1 : Dig (puts (w.drewN (nq0 + nq)) U 0 (by8 gl)) Rb (rdF (.slice (some ⟨ob, oo, none⟩) cs.length oc) k off fv wd) 5 := dig_grown (w := w.drewN (nq0 + nq)) HR.out g1 lR (fun e => ne e.symm)
  have o1 : Only [Rb, U] w (puts (w.drewN (nq0 + nq)) U 0 (by8 gl)) := Only.trans (Only.drewN (Only.refl _ w) (nq0 + nq)) (Only.of g1 (by simp))
  clear hcp r0' r1' r2' r3' r4' f0 f1 f2 f3 f4 hv HR HU g1
  generalize puts (w.drewN (nq0 + nq)) U 0 (by8 gl) = w1 at *
  obtain ⟨r0, f0⟩ := hR1 0 (by omega)
  obtain ⟨r1, f1⟩ := hR1 1 (by omega)
  obtain ⟨r2, f2⟩ := hR1 2 (by omega)
  obtain ⟨r3, f3⟩ := hR1 3 (by omega)
  obtain ⟨r4, f4⟩ := hR1 4 (by omega)
  have r0' : w1.cell? ⟨Rb, 0, none⟩ = some (.slice (some ⟨ob, oo, none⟩) cs.length oc) := r0
  have r1' : w1.cell? ⟨Rb, 1, none⟩ = some (.int .i64 k) := r1
  have r2' : w1.cell? ⟨Rb, 2, none⟩ = some (.int .i64 off) := r2
  have lR1 : Rb < w1.heap.size := Nat.lt_of_lt_of_le lR o1.2.2.2.1
  have lU1 : U < w1.heap.size := Nat.lt_of_lt_of_le lU o1.2.2.2.1
  clear r0 r1 r2 r3 r4
  have HR : Hid (Dig w1 Rb (rdF (.slice (some ⟨ob, oo, none⟩) cs.length oc) k off fv wd) 5) := hR1
  have HU : Hid (Dig w1 U (fun j => .int .u8 (bf2 bf gl j)) S) := hU1
  have HO : Hid (Only [Rb, U] w w1) := o1
  clear hR1 hU1 o1
  by_cases hle : n ≤ S
  · have hmin : min S n = n := by omega
    simp only [if_pos hle, hmin] at HN
    rw [hmin]
    have hsum : (off : Int) + (n : Int) = (N : Int) := by omega
    obtain ⟨hD, hO⟩ := sets3 (w := w1) (bs := [Rb, U]) HR.out (by simp) (N : Int)
    have hU2 : Dig (((w1.setCell ⟨Rb, 2, none⟩ (.int .i64 (N : Int))).setCell ⟨Rb, 1, none⟩ (.int .i64 ((k : Int) + 1))).setCell ⟨Rb, 2, none⟩ (.int .i64 0)) U (fun j => .int .u8 (bf2 bf gl j)) S :=
      dig_grown (dig_grown (dig_grown HU.out (grown_set _ _ _ _) lU1 ne) (grown_set _ _ _ _) (by simpa using lU1) ne) (grown_set _ _ _ _) (by simpa using lU1) ne
    go_upto_region 9 with fail
    have hO' : Only [Rb, U] w _ := HO.out.trans hO
    clear hO r0' r1' r2' f0 f1 f2 f3 f4 HR HU HO
    generalize ((w1.setCell ⟨Rb, 2, none⟩ (.int .i64 (N : Int))).setCell ⟨Rb, 1, none⟩ (.int .i64 ((k : Int) + 1))).setCell ⟨Rb, 2, none⟩ (.int .i64 0) = w2 at *
    have r0 : w2.cell? ⟨Rb, 0, none⟩ = some (.slice (some ⟨ob, oo, none⟩) cs.length oc) := (hD 0 (by omega)).1
    have r1 : w2.cell? ⟨Rb, 1, none⟩ = some (.int .i64 ((k : Int) + 1)) := (hD 1 (by omega)).1
    have r3 : w2.cell? ⟨Rb, 3, none⟩ = some fv := (hD 3 (by omega)).1
    have r4 : w2.cell? ⟨Rb, 4, none⟩ = some (.bool wd) := (hD 4 (by omega)).1
    have HD : Hid (Dig w2 Rb (rdF (.slice (some ⟨ob, oo, none⟩) cs.length oc) (k + 1) 0 fv wd) 5) := hD
    have HO : Hid (Only [Rb, U] w w2) := hO'
    have HU : Hid (Dig w2 U (fun j => .int .u8 (bf2 bf gl j)) S) := hU2
    have HE : Hid (erAt cs k wd fv = if k + 1 = cs.length ∧ wd = true then fv else .nilIface) := rfl
    generalize erAt cs k wd fv = er at HE HN
    clear hD hO' hU2
    by_cases hk1 : k + 1 = cs.length
    · have hd : ((k : Int) + 1 == (cs.length : Int)) = true := by simp; omega
      cases wd
      · go_quiet (fail)
        go_wp2
        exact HN.out _ _ ⟨⟨by rw [HE.out.trans (if_neg (by simp))]; rfl, HD.out, HO.out.drewN _⟩, HU.out⟩
      · go_quiet (fail)
        go_wp2
        go_quiet (fail)
        go_wp2
        exact HN.out _ _ ⟨⟨by rw [HE.out.trans (if_pos (by simp [hk1]))]; rfl, HD.out, (HO.out.drewN _).drewN _⟩, HU.out⟩
    · have hd : ((k : Int) + 1 == (cs.length : Int)) = false := by simp; omega
      go_quiet (fail)
      go_wp2
      exact HN.out _ _ ⟨⟨by rw [HE.out.trans (if_neg (fun h => hk1 h.1))]; rfl, HD.out, HO.out.drewN _⟩, HU.out⟩
  · have hmin : min S n = S := by omega
    simp only [if_neg hle, hmin] at HN
    rw [hmin]
    have hsum : ((off : Int) + (S : Int) == (N : Int)) = false := by simp; omega
    have hD : Hid (Dig (w1.setCell ⟨Rb, 2, none⟩ (.int .i64 ((off : Int) + (S : Int)))) Rb (rdF (.slice (some ⟨ob, oo, none⟩) cs.length oc) k (off + S) fv wd) 5) := (HR.out.set 2 (by omega) _).congr fun j hj => by
      unfold upd rdF
      by_cases h2 : j = 2
      · subst h2; rfl
      · simp [h2]
    have hU2 : Hid (Dig (w1.setCell ⟨Rb, 2, none⟩ (.int .i64 ((off : Int) + (S : Int)))) U (fun j => .int .u8 (bf2 bf gl j)) S) := dig_grown HU.out (grown_set _ _ _ _) lU1 ne
    have hO : Hid (Only [Rb, U] w (w1.setCell ⟨Rb, 2, none⟩ (.int .i64 ((off : Int) + (S : Int))))) := HO.out.trans (Only.set _ _ _ _ (by simp))
    go_wp2
    exact HN.out _ _ ⟨⟨rfl, hD.out, hO.out⟩, hU2.out⟩

theorem ret2_eq {a b c d : Value} (h1 : a = c) (h2 : b = d) : Ending.returned (.tuple #[a, b]) = .returned (.tuple #[c, d]) := by rw [h1, h2]

theorem er_eq (cs : List (List Int)) (k : Nat) (wd : Bool) (fv : Value) (hk : k < cs.length) : erAt cs k wd fv = if cs.drop (k + 1) = [] ∧ wd = true then fv else .nilIface := by
  unfold erAt
  have : (k + 1 = cs.length) ↔ (cs.drop (k + 1) = []) := by rw [List.drop_eq_nil_iff]; omega
  simp only [this]

theorem read_any (ov : Value) (cs R : List (List Int)) (fv : Value) (wd : Bool) (Rb U S k off : Nat) (bf : Nat → Int) (w : World) (hC : Chs w ov cs) (hM : cs.length ≤ 1024) (hL : ∀ i, (cs.getD i []).length ≤ 4096)
    (hS1 : 0 < S) (hS2 : S ≤ 32) (hR : Dig w Rb (rdF ov k off fv wd) 5) (hU : Dig w U (fun j => .int .u8 (bf j)) S) (lR : Rb < w.heap.size) (lU : U < w.heap.size) (ne : U ≠ Rb) (hp : Pos cs k off R) :
    Calls Ybad.prog 21 #[.pointer (some ⟨Rb, 0, none⟩), .slice (some ⟨U, 0, none⟩) S S] w fun e w' => e = .returned (.tuple #[.int .i64 (rdN S R : Nat), rdE S wd fv R]) ∧ Red ov cs fv wd Rb U S R w w' := by
  rcases hp with ⟨rfl, rfl, rfl⟩ | ⟨hk, ho, rfl⟩
  · refine (read_end ov cs fv wd Rb U S bf w hC hM hR hU).mono ?_
    rintro e w' ⟨rfl, q, rfl⟩
    exact ⟨rfl, cs.length, 0, bf, .inl ⟨rfl, rfl, rfl⟩, hR, hU, fun j hj => by simp [rdN] at hj, (Only.refl _ w).drewN q⟩
  · by_cases hc : cs.getD k [] = []
    · obtain rfl : off = 0 := by
        rcases ho with ho | ho
        · exact ho
        · rw [hc] at ho; simp at ho
      refine (read_empty ov cs fv wd Rb U S k bf w hC hM hk hc hR hU lR lU ne).mono ?_
      rintro e w' ⟨rfl, hD, hO⟩
      rw [hc]
      refine ⟨ret2_eq ?_ ?_, k + 1, 0, ?_⟩
      · simp [rdN]
      · rw [er_eq cs k wd fv hk]
        simp [rdE]
      · refine ⟨bf, ?_, hD, hO.dig hU lU (by simp [ne]), fun j hj => by simp [rdN] at hj, hO.more (fun x hx => by simp at hx; simp [hx])⟩
        simp only [rdR, List.drop_nil, List.length_nil, Nat.zero_le, if_true]
        exact pos_next hk
    · have hoff : off < (cs.getD k []).length := by
        rcases ho with rfl | ho
        · exact List.length_pos_iff.2 hc
        · exact ho
      refine (read_bytes ov cs (cs.getD k []) fv wd Rb U S k off bf w hC hM hk rfl hoff (hL k) hS1 hS2 hR hU lR lU ne).mono ?_
      rintro e w' ⟨⟨rfl, hD, hO⟩, hU'⟩
      have hlen : ((cs.getD k []).drop off).length = (cs.getD k []).length - off := by simp
      have hB : rdB S ((cs.getD k []).drop off :: cs.drop (k + 1)) = got (cs.getD k []) off S := rfl
      refine ⟨ret2_eq ?_ ?_, ?_⟩
      · simp [rdN]
      · rw [er_eq cs k wd fv hk]
        simp only [rdE, hlen]
      · by_cases hle : (cs.getD k []).length - off ≤ S
        · rw [if_pos hle, if_pos hle] at hD
          refine ⟨k + 1, 0, _, ?_, hD, hU', ?_, hO⟩
          · simp only [rdR, hlen, if_pos hle]
            exact pos_next hk
          · intro j hj
            rw [← rdB_len, hB] at hj
            rw [hB, bf2, if_pos hj]
        · rw [if_neg hle, if_neg hle] at hD
          refine ⟨k, off + S, _, ?_, hD, hU', ?_, hO⟩
          · simp only [rdR, hlen, if_neg hle]
            exact .inr ⟨hk, .inr (by omega), by rw [List.drop_drop]⟩
          · intro j hj
            rw [← rdB_len, hB] at hj
            rw [hB, bf2, if_pos hj]

end Go.Proofs.YbulkpsqDoor.law

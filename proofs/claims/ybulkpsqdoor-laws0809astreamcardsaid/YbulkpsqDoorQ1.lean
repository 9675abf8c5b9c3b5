import Derived.Test.YbulkpsqDoorRows
import Derived.WalkKit
import Derived.ProofKit
import Derived.OpenShut
import Derived.ShutString
import Derived.ChangeOld
import Derived.Below
import Derived.WalkLawsBesides
import Derived.Deep.RegionWith
import Derived.Deep.QuietTactic
import Derived.BigQuiet
import Derived.Laws.CopyRow
import Derived.Laws.CopyOwn
import Derived.Laws.Rows
import Derived.WalkSmall
namespace Go.Proofs.YbulkpsqDoor.law
open Go.ChangeShapes Go.WideShapes Go.ChangeAt Go.RowKit
set_option linter.unusedVariables false

theorem info5 : (Ybad.prog.info? 5).map (fun i => (i.zero, i.size, i.bytes)) = some (some (.int .u8 0), 1, 1) := by kernel_rfl

/-- Block D holds F, none of it frozen. -/
def Dig (w : World) (D : Nat) (F : Nat → Value) (N : Nat) : Prop := ∀ o, o < N → w.cell? ⟨D, o, none⟩ = some (F o) ∧ w.frozen? ⟨D, o, none⟩ = false

def upd (F : Nat → Value) (o : Nat) (v : Value) : Nat → Value := fun j => if j = o then v else F j

theorem Dig.set {w : World} {D N : Nat} {F : Nat → Value} (h : Dig w D F N) (o : Nat) (ho : o < N) (v : Value) : Dig (w.setCell ⟨D, o, none⟩ v) D (upd F o v) N := by
  intro j hj
  refine ⟨?_, by rw [World.frozen?_setCell]; exact (h j hj).2⟩
  unfold upd
  by_cases e : j = o
  · subst e
    rw [if_pos rfl]
    exact World.cell?_setCell_same _ _ _ (h j hj).1
  · rw [if_neg e, World.cell?_setCell_other _ _ _ _ (by intro e'; simp only [Addr.mk.injEq] at e'; omega)]
    exact (h j hj).1

theorem Dig.below {w w' : World} {D N B : Nat} {F : Nat → Value} (h : Dig w D F N) (hb : Below B w w') (hD : D < B) : Dig w' D F N :=
  fun j hj => ⟨(hb.cell (by exact hD)).trans (h j hj).1, (hb.frozen (by exact hD)).trans (h j hj).2⟩

theorem Dig.congr {w : World} {D N : Nat} {F G : Nat → Value} (h : Dig w D F N) (e : ∀ j, j < N → F j = G j) : Dig w D G N := fun j hj => by rw [← e j hj]; exact h j hj

theorem grown_trans {a b c : World} {r : Option Nat} (h : a.grownBy b r) (k : b.grownBy c r) : a.grownBy c r :=
  ⟨k.os.trans h.os, k.tape.trans h.tape, k.output.trans h.output, Nat.le_trans h.size k.size, fun i hi hr => (k.block i (Nat.lt_of_lt_of_le hi h.size) hr).trans (h.block i hi hr)⟩
theorem grown_set (w : World) (D o : Nat) (v : Value) : w.grownBy (w.setCell ⟨D, o, none⟩ v) (some D) :=
  ⟨rfl, rfl, rfl, by simp, fun k _ hr => Below.heap_setCell _ _ _ _ (by intro e; apply hr; rw [e])⟩
theorem grown_below {w w' : World} (h : Below w.heap.size w w') (r : Option Nat) : w.grownBy w' r := ⟨h.os, h.tape, h.output, h.size, fun k hk _ => h.block k hk⟩
theorem grown_cell {w w' : World} {D : Nat} (h : w.grownBy w' (some D)) {b o : Nat} (hb : b < w.heap.size) (hD : b ≠ D) : w'.cell? ⟨b, o, none⟩ = w.cell? ⟨b, o, none⟩ :=
  World.cell?_of_block (h.block b hb (by simpa using hD))
theorem grown_frozen {w w' : World} {D : Nat} (h : w.grownBy w' (some D)) {b o : Nat} (hb : b < w.heap.size) (hD : b ≠ D) : w'.frozen? ⟨b, o, none⟩ = w.frozen? ⟨b, o, none⟩ :=
  World.frozen?_of_block (h.block b hb (by simpa using hD))

theorem dig_of {w : World} {D t N : Nat} {c : Array Value} {F : Nat → Value} (h : w.heap[D]? = some (.cells c t (0, 0))) (hc : ∀ j, j < N → c[j]? = some (F j)) : Dig w D F N := by
  intro j hj
  refine ⟨?_, by simp [World.frozen?, h]⟩
  simp only [World.cell?, h]
  simpa using hc j hj

theorem dig_grown {w w' : World} {b D N : Nat} {F : Nat → Value} (h : Dig w b F N) (hG : w.grownBy w' (some D)) (hb : b < w.heap.size) (hD : b ≠ D) : Dig w' b F N :=
  fun j hj => ⟨(grown_cell hG hb hD).trans (h j hj).1, (grown_frozen hG hb hD).trans (h j hj).2⟩

/-- Stores one behind the other. -/
def puts (w : World) (D o : Nat) : List Value → World
  | [] => w
  | v :: vs => puts (w.setCell ⟨D, o, none⟩ v) D (o + 1) vs

/-- What they leave. -/
def over (F : Nat → Value) (o : Nat) : List Value → Nat → Value
  | [] => F
  | v :: vs => over (upd F o v) (o + 1) vs

theorem over_at : ∀ (vs : List Value) (F : Nat → Value) (o j : Nat), over F o vs j = if o ≤ j ∧ j < o + vs.length then vs.getD (j - o) (.bool false) else F j
  | [], F, o, j => by rw [if_neg (by simp)]; rfl
  | v :: vs, F, o, j => by
    rw [over, over_at vs]
    by_cases h : o + 1 ≤ j ∧ j < o + 1 + vs.length
    · rw [if_pos h, if_pos ⟨by omega, by simp; omega⟩]
      have : j - o = (j - (o + 1)) + 1 := by omega
      rw [this, List.getD_cons_succ]
    · rw [if_neg h]
      by_cases e : j = o
      · subst e
        rw [if_pos ⟨by omega, by simp⟩]
        simp [upd]
      · rw [if_neg (by simp; omega)]
        simp [upd, e]

theorem Dig.puts : ∀ (vs : List Value) {w : World} {D o N : Nat} {F : Nat → Value} (h : Dig w D F N) (hb : o + vs.length ≤ N), Dig (puts w D o vs) D (over F o vs) N
  | [], _, _, _, _, _, h, _ => h
  | v :: vs, _, _, _, _, _, h, hb => Dig.puts vs (h.set _ (by simp at hb; omega) v) (by simp at hb; omega)

theorem grown_puts : ∀ (vs : List Value) (w : World) (D o : Nat), w.grownBy (puts w D o vs) (some D)
  | [], w, _, _ => World.grownBy.refl w _
  | v :: vs, w, D, o => grown_trans (grown_set w D o v) (grown_puts vs _ D (o + 1))

theorem run_puts (P : Program) : ∀ (vs : List Value) (i : Nat) {w : World} {D o N : Nat} {F : Nat → Value} (h : Dig w D F N) (hb : o + i + vs.length ≤ N) (h1 : ∀ v ∈ vs, v.oneCell' = true),
    (storeCells ⟨D, o, none⟩ vs i).run P w = .ok () (puts w D (o + i) vs)
  | [], i, w, D, o, N, F, h, hb, h1 => rfl
  | v :: vs, i, w, D, o, N, F, h, hb, h1 => by
    have hi := h (o + i) (by simp at hb; omega)
    have hadd : (⟨D, o, none⟩ : Addr).add i = ⟨D, o + i, none⟩ := Addr.add_lit _ _ _
    have hst : (store ((⟨D, o, none⟩ : Addr).add i) v).run P w = .ok () (w.setCell ⟨D, o + i, none⟩ v) := by
      rw [hadd, run_store P w _ v _ (h1 v (by simp)), hi.1]
      simp [hi.2]
    have ih := run_puts P vs (i + 1) (o := o) (h.set (o + i) (by simp at hb; omega) v) (by simp at hb; omega) (fun x hx => h1 x (by simp [hx]))
    simp only [storeCells, Sem.run_bind, hst, Result.andThen_ok, ih]
    rfl

/-- copy into a block of bytes. -/
theorem run_copy_dig (D o dLen dCap g s sLen sCap N : Nat) (F : Nat → Value) (cs : List Value) (w : World) (h : Dig w D F N) (hn : cs.length = Nat.min sLen dLen) (hb : o + cs.length ≤ N) (h1 : ∀ v ∈ cs, v.oneCell' = true)
    (hsrc : ∀ j v, cs[j]? = some v → w.cell? ⟨g, s + j, none⟩ = some v) :
    (Builtin.copy_ #[23, 23] 3 #[.slice (some ⟨D, o, none⟩) dLen dCap, .slice (some ⟨g, s, none⟩) sLen sCap]).run Ybad.prog w = .ok (goInt cs.length) (puts w D o cs) := by
  have hl := run_loadCells_list (P := Ybad.prog) w ⟨g, s, none⟩ cs (fun j v hj => by rw [Addr.add_lit]; exact hsrc j v hj)
  have hst := run_puts Ybad.prog cs 0 (o := o) h (by simpa using hb) h1
  obtain ⟨i0, hi, hz0, hz1, hz2⟩ := info_parts info5
  simp [Builtin.copy_, run_underlying Ybad.underlying23, Builtin.lenOf, Builtin.firstCells, sizeOf, typeInfo, hi, hz1, ← hn, hl, hst]

theorem cell_lt {w : World} {p : Addr} {v : Value} (h : w.cell? p = some v) : p.block < w.heap.size := by
  rcases Nat.lt_or_ge p.block w.heap.size with h' | h'
  · exact h'
  · simp [World.cell?, Array.getElem?_eq_none h'] at h

def by8 (l : List Int) : List Value := l.map (Value.int .u8)
theorem by8_one (l : List Int) : ∀ u ∈ by8 l, u.oneCell' = true := by
  intro u hu
  obtain ⟨x, _, rfl⟩ := List.mem_map.1 hu
  rfl
theorem by8_len (l : List Int) : (by8 l).length = l.length := by simp [by8]
theorem by8_at {l : List Int} {j : Nat} {v : Value} (h : (by8 l)[j]? = some v) : j < l.length ∧ v = .int .u8 (l.getD j 0) := by
  have hj : j < l.length := by have := (List.getElem?_eq_some_iff.1 h).1; rwa [by8_len] at this
  refine ⟨hj, ?_⟩
  simp [by8, hj] at h
  rw [List.getD_eq_getElem?_getD, List.getElem?_eq_getElem hj]
  exact h.symm

/-! ### What the law expects -/
/-- What is still to come, and the error behind it: e empty reads lie behind us, cs is what the reader still has. -/
def W (wd : Bool) (fv np : Value) : Nat → List (List Int) → List Int × Value
  | e, [] => ([], if 100 ≤ e + 1 then np else fv)
  | e, c :: cs =>
    if 100 ≤ e then ([], np)
    else if c = [] then (if cs = [] ∧ wd = true then ([], if 100 ≤ e + 1 then np else fv) else W wd fv np (e + 1) cs)
    else if cs = [] ∧ wd = true then (c, fv)
    else (c ++ (W wd fv np 0 cs).1, (W wd fv np 0 cs).2)

theorem W_100 (wd : Bool) (fv np : Value) (e : Nat) (cs : List (List Int)) (h : 100 ≤ e) : W wd fv np e cs = ([], np) := by
  cases cs with
  | nil => rw [W, if_pos (by omega)]
  | cons c cs => rw [W, if_pos h]

/-! ### One read, plainly -/
def rdN (S : Nat) : List (List Int) → Nat
  | [] => 0
  | c :: _ => min S c.length
def rdE (S : Nat) (wd : Bool) (fv : Value) : List (List Int) → Value
  | [] => fv
  | c :: R => if c.length ≤ S then (if R = [] ∧ wd = true then fv else .nilIface) else .nilIface
def rdR (S : Nat) : List (List Int) → List (List Int)
  | [] => []
  | c :: R => if c.length ≤ S then R else c.drop S :: R
def rdB (S : Nat) : List (List Int) → List Int
  | [] => []
  | c :: _ => c.take S

theorem rdB_len (S : Nat) (R : List (List Int)) : (rdB S R).length = rdN S R := by
  cases R with
  | nil => rfl
  | cons c R => simp [rdB, rdN]

/-- A read that brings bytes. -/
theorem W_bytes (S : Nat) (wd : Bool) (fv np : Value) (e : Nat) (R : List (List Int)) (he : e < 100) (hS : 0 < S) (hn : 0 < rdN S R) :
    (rdE S wd fv R = .nilIface ∧ W wd fv np e R = (rdB S R ++ (W wd fv np 0 (rdR S R)).1, (W wd fv np 0 (rdR S R)).2)) ∨ (rdE S wd fv R = fv ∧ W wd fv np e R = (rdB S R, fv)) := by
  cases R with
  | nil => simp [rdN] at hn
  | cons c R =>
    have hc : c ≠ [] := by intro h; subst h; simp [rdN] at hn
    rw [W, if_neg (by omega), if_neg hc]
    by_cases hl : c.length ≤ S
    · have ht : c.take S = c := List.take_of_length_le hl
      by_cases hw : R = [] ∧ wd = true
      · right
        simp [rdE, rdB, hl, hw, ht]
      · left
        rw [if_neg hw]
        simp only [rdE, rdB, rdR, if_pos hl, if_neg hw, ht]
        exact ⟨trivial, trivial⟩
    · left
      have hd : c.drop S ≠ [] := by
        intro h
        have := congrArg List.length h
        simp at this
        omega
      have hW : W wd fv np 0 (c.drop S :: R) = if R = [] ∧ wd = true then (c.drop S, fv) else (c.drop S ++ (W wd fv np 0 R).1, (W wd fv np 0 R).2) := by
        rw [W, if_neg (by omega), if_neg hd]
      simp only [rdE, rdB, rdR, if_neg hl]
      refine ⟨trivial, ?_⟩
      rw [hW]
      by_cases hw : R = [] ∧ wd = true
      · rw [if_pos hw, if_pos hw, List.take_append_drop]
      · rw [if_neg hw, if_neg hw]
        rw [← List.append_assoc, List.take_append_drop]

/-- A read that brings none. -/
theorem W_none (S : Nat) (wd : Bool) (fv np : Value) (e : Nat) (R : List (List Int)) (he : e < 100) (hS : 0 < S) (hn : rdN S R = 0) :
    (rdE S wd fv R = .nilIface ∧ W wd fv np e R = W wd fv np (e + 1) (rdR S R)) ∨ (rdE S wd fv R = fv ∧ W wd fv np e R = ([], if 100 ≤ e + 1 then np else fv)) := by
  cases R with
  | nil => exact .inr ⟨rfl, by rw [W]⟩
  | cons c R =>
    have hc : c = [] := by
      simp [rdN] at hn
      rcases hn with hn | hn
      · omega
      · exact hn
    subst hc
    rw [W, if_neg (by omega), if_pos rfl]
    by_cases hw : R = [] ∧ wd = true
    · right
      rw [if_pos hw]
      simp [rdE, hw]
    · left
      rw [if_neg hw]
      simp [rdE, rdR, hw]

end Go.Proofs.YbulkpsqDoor.law

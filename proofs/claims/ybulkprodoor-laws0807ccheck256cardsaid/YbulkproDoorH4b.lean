import Derived.Test.YbulkproDoorH4
import Derived.Laws.CopyRow
namespace Go.Proofs.YbulkproDoor.law
open Go.ChangeShapes Go.WideShapes Go.ChangeAt Go.RowKit
set_option linter.unusedVariables false

/-- Stores one behind the other. -/
def puts (w : World) (D o : Nat) : List Value → World
  | [] => w
  | v :: vs => puts (w.setCell ⟨D, o, none⟩ v) D (o + 1) vs

/-- What they leave. -/
def over (F : Nat → Value) (o : Nat) : List Value → Nat → Value
  | [] => F
  | v :: vs => over (upd F o v) (o + 1) vs

theorem over_at : ∀ (vs : List Value) (F : Nat → Value) (o j : Nat), over F o vs j = if o ≤ j ∧ j < o + vs.length then vs.getD (j - o) (.bool false) else F j
  | [], F, o, j => by rw [if_neg (by simp)]; rfl
  | v :: vs, F, o, j => by
    rw [over, over_at vs]
    by_cases h : o + 1 ≤ j ∧ j < o + 1 + vs.length
    · rw [if_pos h, if_pos ⟨by omega, by simp; omega⟩]
      have : j - o = (j - (o + 1)) + 1 := by omega
      rw [this, List.getD_cons_succ]
    · rw [if_neg h]
      by_cases e : j = o
      · subst e
        rw [if_pos ⟨by omega, by simp⟩]
        simp [upd]
      · rw [if_neg (by simp; omega)]
        simp [upd, e]

theorem Dig.puts : ∀ (vs : List Value) {w : World} {D o N : Nat} {F : Nat → Value} (h : Dig w D F N) (hb : o + vs.length ≤ N), Dig (puts w D o vs) D (over F o vs) N
  | [], _, _, _, _, _, h, _ => h
  | v :: vs, _, _, _, _, _, h, hb => Dig.puts vs (h.set _ (by simp at hb; omega) v) (by simp at hb; omega)

theorem grown_puts : ∀ (vs : List Value) (w : World) (D o : Nat), w.grownBy (puts w D o vs) (some D)
  | [], w, _, _ => World.grownBy.refl w _
  | v :: vs, w, D, o => grown_trans (grown_set w D o v) (grown_puts vs _ D (o + 1))

theorem run_puts (P : Program) : ∀ (vs : List Value) (i : Nat) {w : World} {D o N : Nat} {F : Nat → Value} (h : Dig w D F N) (hb : o + i + vs.length ≤ N) (h1 : ∀ v ∈ vs, v.oneCell' = true),
    (storeCells ⟨D, o, none⟩ vs i).run P w = .ok () (puts w D (o + i) vs)
  | [], i, w, D, o, N, F, h, hb, h1 => rfl
  | v :: vs, i, w, D, o, N, F, h, hb, h1 => by
    have hi := h (o + i) (by simp at hb; omega)
    have hadd : (⟨D, o, none⟩ : Addr).add i = ⟨D, o + i, none⟩ := Addr.add_lit _ _ _
    have hst : (store ((⟨D, o, none⟩ : Addr).add i) v).run P w = .ok () (w.setCell ⟨D, o + i, none⟩ v) := by
      rw [hadd, run_store P w _ v _ (h1 v (by simp)), hi.1]
      simp [hi.2]
    have ih := run_puts P vs (i + 1) (o := o) (h.set (o + i) (by simp at hb; omega) v) (by simp at hb; omega) (fun x hx => h1 x (by simp [hx]))
    simp only [storeCells, Sem.run_bind, hst, Result.andThen_ok, ih]
    rfl

/-- copy into a digest's block. -/
theorem run_copy_dig (D o dLen dCap g s sLen sCap N : Nat) (F : Nat → Value) (cs : List Value) (w : World) (h : Dig w D F N) (hn : cs.length = Nat.min sLen dLen) (hb : o + cs.length ≤ N) (h1 : ∀ v ∈ cs, v.oneCell' = true)
    (hsrc : ∀ j v, cs[j]? = some v → w.cell? ⟨g, s + j, none⟩ = some v) :
    (Builtin.copy_ #[24, 24] 3 #[.slice (some ⟨D, o, none⟩) dLen dCap, .slice (some ⟨g, s, none⟩) sLen sCap]).run Ybad.prog w = .ok (goInt cs.length) (puts w D o cs) := by
  have hl := run_loadCells_list (P := Ybad.prog) w ⟨g, s, none⟩ cs (fun j v hj => by rw [Addr.add_lit]; exact hsrc j v hj)
  have hst := run_puts Ybad.prog cs 0 (o := o) h (by simpa using hb) h1
  obtain ⟨i0, hi, hz0, hz1, hz2⟩ := info_parts info5
  simp [Builtin.copy_, run_underlying Ybad.underlying24, Builtin.lenOf, Builtin.firstCells, sizeOf, typeInfo, hi, hz1, ← hn, hl, hst]

/-- n bytes of B from s on. -/
def seg (B : Nat → Int) (s n : Nat) : List Value := (List.range n).map (fun j => .int .u8 (B (s + j)))
theorem seg_len (B : Nat → Int) (s n : Nat) : (seg B s n).length = n := by simp [seg]
theorem seg_one (B : Nat → Int) (s n : Nat) : ∀ v ∈ seg B s n, v.oneCell' = true := by
  intro v hv
  obtain ⟨j, _, rfl⟩ := List.mem_map.1 hv
  rfl
theorem seg_at (B : Nat → Int) (s n j : Nat) (hj : j < n) : (seg B s n)[j]? = some (.int .u8 (B (s + j))) := by simp [seg, hj]
theorem seg_getD (B : Nat → Int) (s n j : Nat) (v : Value) (hj : j < n) : (seg B s n).getD j v = .int .u8 (B (s + j)) := by
  rw [List.getD_eq_getElem?_getD, seg_at B s n j hj]; rfl
theorem seg_src {B : Nat → Int} {s n j : Nat} {v : Value} (h : (seg B s n)[j]? = some v) : j < n ∧ v = .int .u8 (B (s + j)) := by
  have hj : j < n := by have := (List.getElem?_eq_some_iff.1 h).1; rwa [seg_len] at this
  rw [seg_at B s n j hj] at h
  exact ⟨hj, (Option.some.inj h).symm⟩

end Go.Proofs.YbulkproDoor.law

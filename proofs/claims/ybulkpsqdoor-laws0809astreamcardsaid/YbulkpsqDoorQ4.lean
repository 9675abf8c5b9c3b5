import Derived.Test.YbulkpsqDoorQ3
namespace Go.Proofs.YbulkpsqDoor.law
open Go.ChangeShapes Go.WideShapes Go.ChangeAt Go.RowKit
set_option linter.unusedVariables false

theorem St.drewN {w0 : World} {ov : Value} {cs : List (List Int)} {fv : Value} {wd : Bool} {Rb I U S : Nat} {R : List (List Int)} {r wp : Nat} {n : Int} {err : Value} {bf : Nat → Int} {w : World} (h : St w0 ov cs fv wd Rb I U S R r wp n err bf w) (q : Nat) :
    St w0 ov cs fv wd Rb I U S R r wp n err bf (w.drewN q) := ⟨below_drewN h.1 q, h.2⟩

/-- What lies behind the buffer: the reader, or the error. -/
def Back (fv np : Value) (wd : Bool) (R : List (List Int)) (err : Value) (ws : List Int) (er : Value) : Prop := (err = .nilIface ∧ W wd fv np 0 R = (ws, er)) ∨ (Err err ∧ ws = [] ∧ er = err)

/-- The input will give the bytes ws, then the error er. -/
def Inv (w0 : World) (ov : Value) (cs : List (List Int)) (fv np : Value) (wd : Bool) (Rb I U S : Nat) (ws : List Int) (er : Value) (w : World) : Prop :=
  ∃ R r n err bf bs ws', St w0 ov cs fv wd Rb I U S R r (r + bs.length) n err bf w ∧ r + bs.length ≤ S ∧ (∀ j, j < bs.length → bf (r + j) = bs.getD j 0) ∧ Back fv np wd R err ws' er ∧ ws = bs ++ ws'

/-- .. and a byte lies ready. -/
def Ready (w0 : World) (ov : Value) (cs : List (List Int)) (fv np : Value) (wd : Bool) (Rb I U S : Nat) (b : Int) (ws : List Int) (er : Value) (w : World) : Prop :=
  ∃ R r n err bf bs ws', St w0 ov cs fv wd Rb I U S R r (r + bs.length + 1) n err bf w ∧ r + bs.length + 1 ≤ S ∧ bf r = b ∧ (∀ j, j < bs.length → bf (r + 1 + j) = bs.getD j 0) ∧ Back fv np wd R err ws' er ∧ ws = bs ++ ws'

theorem Ready.drewN {w0 : World} {ov : Value} {cs : List (List Int)} {fv np : Value} {wd : Bool} {Rb I U S : Nat} {b : Int} {ws : List Int} {er : Value} {w : World} (h : Ready w0 ov cs fv np wd Rb I U S b ws er w) (q : Nat) : Ready w0 ov cs fv np wd Rb I U S b ws er (w.drewN q) := by
  obtain ⟨R, r, n, err, bf, bs, ws', hs, h2⟩ := h
  exact ⟨R, r, n, err, bf, bs, ws', hs.drewN q, h2⟩

theorem ready_of_filled {w0 : World} {ov : Value} {cs : List (List Int)} {fv np : Value} {wd : Bool} {Rb I U S : Nat} {b : Int} {ws : List Int} {er : Value} {e : Ending} {w : World} (hx : Ctx w0 ov cs fv np Rb I U S) (her : Err er)
    (h : Filled w0 ov cs fv np wd Rb I U S (b :: ws) er e w) : e = .returned (.bool true) ∧ Ready w0 ov cs fv np wd Rb I U S b ws er w := by
  rcases h with ⟨h, _⟩ | ⟨_, he, R, n, err, bf, bs, hs, hne, hle, hbf, hor⟩
  · cases h
  refine ⟨he, ?_⟩
  match bs, hne with
  | c :: bs, _ =>
    simp only [List.length_cons] at hs hle hbf
    have hc : bf 0 = c := by have := hbf 0 (by omega); simpa using this
    have hbs : ∀ j, j < bs.length → bf (0 + 1 + j) = bs.getD j 0 := fun j hj => by
      have := hbf (j + 1) (by omega)
      rw [List.getD_cons_succ] at this
      rw [show 0 + 1 + j = j + 1 by omega]
      exact this
    have hs' : St w0 ov cs fv wd Rb I U S R 0 (0 + bs.length + 1) n err bf w := by rw [Nat.zero_add]; exact hs
    rcases hor with ⟨e1, e2, e3⟩ | ⟨e1, e2⟩
    · rw [List.cons_append] at e2
      obtain ⟨e4, e5⟩ := List.cons.inj e2
      exact ⟨R, 0, n, err, bf, bs, (W wd fv np 0 R).1, hs', by omega, by rw [hc, e4], hbs, .inl ⟨e1, by rw [e3]⟩, e5⟩
    · obtain ⟨e4, e5⟩ := List.cons.inj e2
      exact ⟨R, 0, n, err, bf, bs, [], hs', by omega, by rw [hc, e4], hbs, .inr ⟨e1 ▸ her, rfl, e1.symm⟩, by rw [e5, List.append_nil]⟩

theorem St.next {w0 : World} {ov : Value} {cs : List (List Int)} {fv np : Value} {wd : Bool} {Rb I U S : Nat} (hx : Ctx w0 ov cs fv np Rb I U S) {w : World} {n : Int} {R : List (List Int)} {err : Value} {bf : Nat → Int} {r wp : Nat}
    (hs : St w0 ov cs fv wd Rb I U S R r wp n err bf w) : St w0 ov cs fv wd Rb I U S R (r + 1) wp n err bf (w.setCell ⟨I, 2, none⟩ (.int .i64 ((r : Int) + 1))) := by
  obtain ⟨hb, ⟨k, off, hpos, hdR⟩, hdI, hdU, lR, lI, lU, n0, n1⟩ := hs
  have hO : Only [I] w (w.setCell ⟨I, 2, none⟩ (.int .i64 ((r : Int) + 1))) := Only.set _ _ _ _ (by simp)
  refine ⟨hO.below hb hb.size (by intro x hm; simp at hm; rw [hm]; exact hx.gI), ⟨k, off, hpos, hO.dig hdR lR (by simp [hx.rI])⟩, ?_, hO.dig hdU lU (by simp [hx.iU]), Nat.lt_of_lt_of_le lR hO.2.2.2.1, Nat.lt_of_lt_of_le lI hO.2.2.2.1, Nat.lt_of_lt_of_le lU hO.2.2.2.1, n0, n1⟩
  refine (hdI.set 2 (by omega) _).congr fun j hj => ?_
  unfold upd inF
  by_cases h2 : j = 2
  · subst h2; rfl
  · simp [h2]

set_option maxHeartbeats 1600000 in
set_option maxRecDepth 1000000 in
theorem byte_cons (w0 : World) (ov : Value) (cs : List (List Int)) (fv np : Value) (wd : Bool) (Rb I U S : Nat) (hx : Ctx w0 ov cs fv np Rb I U S) (b : Int) (ws : List Int) (er : Value) (her : Err er) (w : World)
    (hi : Inv w0 ov cs fv np wd Rb I U S (b :: ws) er w) :
    Calls Ybad.prog 4 #[.pointer (some ⟨I, 0, none⟩)] w fun e w' => e = .returned (.tuple #[.int .u8 b, .nilIface]) ∧ Inv w0 ov cs fv np wd Rb I U S ws er w' := by
  have HX : Hid (Ctx w0 ov cs fv np Rb I U S) := hx
  have hS2 := hx.hS2
  obtain ⟨R, r, n, err, bf, bs, ws', hs, hle, hbf, hback, hws⟩ := hi
  have i2 : w.cell? ⟨I, 2, none⟩ = some (.int .i64 r) := (hs.2.2.1 2 (by omega)).1
  have i3 : w.cell? ⟨I, 3, none⟩ = some (.int .i64 ((r + bs.length : Nat) : Int)) := (hs.2.2.1 3 (by omega)).1
  have HS : Hid (St w0 ov cs fv wd Rb I U S R r (r + bs.length) n err bf w) := hs
  have HR : Hid (bs ≠ [] → Ready w0 ov cs fv np wd Rb I U S b ws er w) := by
    intro hne
    match bs, hne with
    | c :: bs, _ =>
      rw [List.cons_append] at hws
      obtain ⟨e4, e5⟩ := List.cons.inj hws
      simp only [List.length_cons] at hs hle hbf
      refine ⟨R, r, n, err, bf, bs, ws', hs, hle, ?_, fun j hj => ?_, hback, e5⟩
      · have := hbf 0 (by omega)
        rw [Nat.add_zero] at this
        rw [this, e4]; rfl
      · have := hbf (j + 1) (by omega)
        rw [List.getD_cons_succ] at this
        rw [show r + 1 + j = r + (j + 1) by omega]
        exact this
  have hfill : bs = [] → ∀ q, Calls Ybad.prog 5 #[.pointer (some ⟨I, 0, none⟩)] (w.drewN q) fun e w' => e = .returned (.bool true) ∧ Ready w0 ov cs fv np wd Rb I U S b ws er w' := by
    rintro rfl q
    have hb' : Back fv np wd R err (b :: ws) er := by rw [hws]; exact hback
    exact (fill_any w0 ov cs fv np wd Rb I U S hx (b :: ws) er (w.drewN q) n R err bf r hle (hs.drewN q) hb').mono fun e w' h => ready_of_filled hx her h
  clear hs hback hws hbf
  go_enter Ybad.func4, Ybad.ntmps4
  go_upto_region 1 with fail
  go_cut [18] (fun v wx => v = .bool false ∧ Ready w0 ov cs fv np wd Rb I U S b ws er wx)
  case first =>
    by_cases hbs : bs = []
    · have hf := hfill hbs
      subst hbs
      have i3' : w.cell? ⟨I, 3, none⟩ = some (.int .i64 r) := i3
      clear i3 hfill HR
      go_region_with (go_at_call 5; refine (hf 1).mono ?_; rintro e w' ⟨rfl, hrd⟩)
      all_goals (go_wp2_with fail; go_meet; exact ⟨rfl, hrd⟩)
    · have hrd := HR.out hbs
      have hlen : 0 < bs.length := List.length_pos_iff.2 hbs
      have HRD : Hid (Ready w0 ov cs fv np wd Rb I U S b ws er w) := hrd
      have hd : ((r : Int) == ((r + bs.length : Nat) : Int)) = false := by simp; omega
      clear hrd hfill HR
      generalize r + bs.length = wp at *
      go_quiet (fail)
      go_wp2
      go_meet
      exact ⟨rfl, HRD.out.drewN _⟩
  case rest =>
    obtain ⟨rfl, hrd⟩ := hcut
    clear hfill HR HS i2 i3 hle hx her
    obtain ⟨R, r, n, err, bf, bs, ws', hs, hle, hb, hbf, hback, hws⟩ := hrd
    have i1 : wc.cell? ⟨I, 1, none⟩ = some (.slice (some ⟨U, 0, none⟩) S S) := (hs.2.2.1 1 (by omega)).1
    obtain ⟨i2, f2⟩ := hs.2.2.1 2 (by omega)
    have i2' : wc.cell? ⟨I, 2, none⟩ = some (.int .i64 r) := i2
    have u0 : wc.cell? ⟨U, r, none⟩ = some (.int .u8 b) := by rw [← hb]; exact (hs.2.2.2.1 r (by omega)).1
    have HN : ∀ q, Hid (Inv w0 ov cs fv np wd Rb I U S ws er ((wc.drewN q).setCell ⟨I, 2, none⟩ (.int .i64 ((r : Int) + 1)))) := fun q =>
      ⟨R, r + 1, n, err, bf, bs, ws', by rw [show r + 1 + bs.length = r + bs.length + 1 by omega]; exact (hs.drewN q).next HX.out, by omega, hbf, hback, hws⟩
    have q0 : (r : Int) < (S : Int) := by omega
    clear hs hb hbf hback hws i2
    go_wp2
    go_quiet (fail)
    have HNq := HN nq
    clear HN
    go_wp2
    go_ret2
    exact ⟨rfl, HNq.out⟩

set_option maxHeartbeats 1600000 in
set_option maxRecDepth 1000000 in
theorem byte_nil (w0 : World) (ov : Value) (cs : List (List Int)) (fv np : Value) (wd : Bool) (Rb I U S : Nat) (hx : Ctx w0 ov cs fv np Rb I U S) (er : Value) (her : Err er) (w : World)
    (hi : Inv w0 ov cs fv np wd Rb I U S [] er w) :
    Calls Ybad.prog 4 #[.pointer (some ⟨I, 0, none⟩)] w fun e w' => e = .returned (.tuple #[.int .u8 0, er]) ∧ Inv w0 ov cs fv np wd Rb I U S [] er w' := by
  obtain ⟨R, r, n, err, bf, bs, ws', hs, hle, hbf, hback, hws⟩ := hi
  obtain ⟨rfl, rfl⟩ : bs = [] ∧ ws' = [] := List.append_eq_nil_iff.1 hws.symm
  have i2 : w.cell? ⟨I, 2, none⟩ = some (.int .i64 r) := (hs.2.2.1 2 (by omega)).1
  have i3 : w.cell? ⟨I, 3, none⟩ = some (.int .i64 r) := (hs.2.2.1 3 (by omega)).1
  have hf : Calls Ybad.prog 5 #[.pointer (some ⟨I, 0, none⟩)] (w.drewN 1) fun e w' => e = .returned (.bool false) ∧ ∃ R n bf, St w0 ov cs fv wd Rb I U S R 0 0 n er bf w' := by
    refine (fill_any w0 ov cs fv np wd Rb I U S hx [] er (w.drewN 1) n R err bf r hle (hs.drewN 1) hback).mono ?_
    rintro e w' (⟨_, h2, h3⟩ | ⟨h, _⟩)
    · exact ⟨h2, h3⟩
    · exact absurd rfl h
  clear hs hback hbf hws
  have HER : Hid (Err er) := her
  clear her hx
  go_enter Ybad.func4, Ybad.ntmps4
  go_upto_region 1 with fail
  go_cut [18] (fun v wx => v = .bool true ∧ ∃ R n bf, St w0 ov cs fv wd Rb I U S R 0 0 n er bf wx)
  case first =>
    go_region_with (go_at_call 5; refine hf.mono ?_; rintro e w' ⟨rfl, hrd⟩)
    all_goals (go_wp2_with fail; go_meet; exact ⟨rfl, hrd⟩)
  case rest =>
    obtain ⟨rfl, R, n, bf, hs⟩ := hcut
    clear hf i2 i3
    have i5 : wc.cell? ⟨I, 5, none⟩ = some er := (hs.2.2.1 5 (by omega)).1
    have HN : ∀ q, Hid (Inv w0 ov cs fv np wd Rb I U S [] er (wc.drewN q)) := fun q =>
      ⟨R, 0, n, er, bf, [], [], hs.drewN q, by simp, fun j hj => by simp at hj, .inr ⟨HER.out, rfl, rfl⟩, rfl⟩
    clear hs
    go_wp2
    go_quiet (fail)
    have HNq := HN nq
    clear HN
    go_wp2
    go_ret2
    exact ⟨rfl, HNq.out⟩

end Go.Proofs.YbulkpsqDoor.law

import Derived.Test.YbulkpsqDoorQ2
import Derived.BigRegion
namespace Go.Proofs.YbulkpsqDoor.law
open Go.ChangeShapes Go.WideShapes Go.ChangeAt Go.RowKit
set_option linter.unusedVariables false

/-- The input's struct. -/
def inF (Rb U S r wp : Nat) (n : Int) (err : Value) : Nat → Value := fun j => if j = 0 then .iface 26 (.pointer (some ⟨Rb, 0, none⟩)) else if j = 1 then .slice (some ⟨U, 0, none⟩) S S else if j = 2 then .int .i64 r else if j = 3 then .int .i64 wp else if j = 4 then .int .i64 n else err

def tot (R : List (List Int)) : Nat := (R.map List.length).sum

theorem tot_read (S : Nat) (R : List (List Int)) : rdN S R + tot (rdR S R) = tot R := by
  cases R with
  | nil => rfl
  | cons c R =>
    by_cases h : c.length ≤ S
    · simp [rdR, rdN, if_pos h, tot]; omega
    · simp [rdR, rdN, if_neg h, tot]; omega

theorem method_read (a : Addr) (w : World) : (method 168 26 (.pointer (some a)) "Read").run Ybad.prog w = .ok (21, .pointer (some a)) w := by kernel_rfl

/-- An error that is none of nil. -/
def Err (v : Value) : Prop := ∃ T p, v = .iface T (.pointer (some p))

/-- What does not turn: the chunks, the blocks, the errors. -/
structure Ctx (w0 : World) (ov : Value) (cs : List (List Int)) (fv np : Value) (Rb I U S : Nat) : Prop where
  ch : Chs w0 ov cs
  hM : cs.length ≤ 1024
  hL : ∀ i, (cs.getD i []).length ≤ 4096
  hS1 : 0 < S
  hS2 : S ≤ 32
  gR : w0.heap.size ≤ Rb
  gI : w0.heap.size ≤ I
  gU : w0.heap.size ≤ U
  rI : Rb ≠ I
  rU : U ≠ Rb
  iU : U ≠ I
  ef : Err fv
  en : Err np
  gl : w0.cell? ⟨2, 0, none⟩ = some np

/-- The state at a reading. -/
def St (w0 : World) (ov : Value) (cs : List (List Int)) (fv : Value) (wd : Bool) (Rb I U S : Nat) (R : List (List Int)) (r wp : Nat) (n : Int) (err : Value) (bf : Nat → Int) (w : World) : Prop :=
  Below w0.heap.size w0 w ∧ (∃ k off, Pos cs k off R ∧ Dig w Rb (rdF ov k off fv wd) 5) ∧ Dig w I (inF Rb U S r wp n err) 6 ∧ Dig w U (fun j => .int .u8 (bf j)) S ∧ Rb < w.heap.size ∧ I < w.heap.size ∧ U < w.heap.size ∧ 0 ≤ n ∧ n + tot R ≤ 4096

/-- The loop in fill: t reads lie behind us. -/
def LR (w0 : World) (ov : Value) (cs : List (List Int)) (fv np : Value) (wd : Bool) (Rb I U S : Nat) (ws : List Int) (er : Value) (t : Nat) (w : World) : Prop :=
  ∃ R n err bf, St w0 ov cs fv wd Rb I U S R 0 0 n err bf w ∧ ((err = .nilIface ∧ W wd fv np t R = (ws, er)) ∨ (Err err ∧ ws = [] ∧ er = if 100 ≤ t then np else err))

/-- What fill leaves. -/
def Filled (w0 : World) (ov : Value) (cs : List (List Int)) (fv np : Value) (wd : Bool) (Rb I U S : Nat) (ws : List Int) (er : Value) (e : Ending) (w : World) : Prop :=
  (ws = [] ∧ e = .returned (.bool false) ∧ ∃ R n bf, St w0 ov cs fv wd Rb I U S R 0 0 n er bf w) ∨
  (ws ≠ [] ∧ e = .returned (.bool true) ∧ ∃ R n err bf bs, St w0 ov cs fv wd Rb I U S R 0 bs.length n err bf w ∧ bs ≠ [] ∧ bs.length ≤ S ∧ (∀ j, j < bs.length → bf j = bs.getD j 0) ∧
    ((err = .nilIface ∧ ws = bs ++ (W wd fv np 0 R).1 ∧ er = (W wd fv np 0 R).2) ∨ (err = er ∧ ws = bs)))

theorem st_after {w0 : World} {ov : Value} {cs : List (List Int)} {fv np : Value} {wd : Bool} {Rb I U S : Nat} (hx : Ctx w0 ov cs fv np Rb I U S) {w : World} {R : List (List Int)} {k off wp : Nat} {n : Int} {rn : Nat} {err : Value} {bf : Nat → Int}
    (hb : Below w0.heap.size w0 w) (hpos : Pos cs k off R) (hdR : Dig w Rb (rdF ov k off fv wd) 5) (hI : Dig w I (inF Rb U S 0 wp n err) 6) (hdU : Dig w U (fun j => .int .u8 (bf j)) S) (lR : Rb < w.heap.size) (lI : I < w.heap.size) (lU : U < w.heap.size)
    (n0 : 0 ≤ n) (n1 : n + (rn : Int) + (tot R : Int) ≤ 4096) (re : Value) :
    St w0 ov cs fv wd Rb I U S R 0 rn (n + (rn : Int)) re bf (((w.setCell ⟨I, 3, none⟩ (.int .i64 (rn : Int))).setCell ⟨I, 4, none⟩ (.int .i64 (n + (rn : Int)))).setCell ⟨I, 5, none⟩ re) := by
  have hO : Only [I] w (((w.setCell ⟨I, 3, none⟩ (.int .i64 (rn : Int))).setCell ⟨I, 4, none⟩ (.int .i64 (n + (rn : Int)))).setCell ⟨I, 5, none⟩ re) := ((Only.set _ _ _ _ (by simp)).trans (Only.set _ _ _ _ (by simp))).trans (Only.set _ _ _ _ (by simp))
  refine ⟨hO.below hb hb.size (by intro x hm; simp at hm; rw [hm]; exact hx.gI), ⟨k, off, hpos, hO.dig hdR lR (by simp [hx.rI])⟩, ?_, hO.dig hdU lU (by simp [hx.iU]), Nat.lt_of_lt_of_le lR hO.2.2.2.1, Nat.lt_of_lt_of_le lI hO.2.2.2.1, Nat.lt_of_lt_of_le lU hO.2.2.2.1, by omega, n1⟩
  refine (((hI.set 3 (by omega) _).set 4 (by omega) _).set 5 (by omega) _).congr fun j hj => ?_
  unfold upd inF
  by_cases h5 : j = 5
  · subst h5; rfl
  · by_cases h4 : j = 4
    · subst h4; rfl
    · by_cases h3 : j = 3
      · subst h3; rfl
      · by_cases h2 : j = 2
        · subst h2; rfl
        · by_cases h1 : j = 1
          · subst h1; rfl
          · obtain rfl : j = 0 := by omega
            rfl

theorem st_zero {w0 : World} {ov : Value} {cs : List (List Int)} {fv np : Value} {wd : Bool} {Rb I U S : Nat} (hx : Ctx w0 ov cs fv np Rb I U S) {w : World} {n : Int} {R : List (List Int)} {err : Value} {bf : Nat → Int} {r : Nat}
    (hs : St w0 ov cs fv wd Rb I U S R r r n err bf w) : St w0 ov cs fv wd Rb I U S R 0 0 n err bf (((w.setCell ⟨I, 3, none⟩ (.int .i64 0)).setCell ⟨I, 2, none⟩ (.int .i64 0)).drew) := by
  obtain ⟨hb, ⟨k, off, hpos, hdR⟩, hdI, hdU, lR, lI, lU, n0, n1⟩ := hs
  have hO : Only [I] w (((w.setCell ⟨I, 3, none⟩ (.int .i64 0)).setCell ⟨I, 2, none⟩ (.int .i64 0)).drew) := Only.drewN ((Only.set _ _ _ _ (by simp)).trans (Only.set _ _ _ _ (by simp))) 1
  refine ⟨hO.below hb hb.size (by intro x hm; simp at hm; rw [hm]; exact hx.gI), ⟨k, off, hpos, hO.dig hdR lR (by simp [hx.rI])⟩, ?_, hO.dig hdU lU (by simp [hx.iU]), Nat.lt_of_lt_of_le lR hO.2.2.2.1, Nat.lt_of_lt_of_le lI hO.2.2.2.1, Nat.lt_of_lt_of_le lU hO.2.2.2.1, n0, n1⟩
  refine Dig.congr (F := upd (upd (inF Rb U S r r n err) 3 (.int .i64 0)) 2 (.int .i64 0)) ((hdI.set 3 (by omega) _).set 2 (by omega) _) fun j hj => ?_
  unfold upd inF
  by_cases h2 : j = 2
  · subst h2; rfl
  · by_cases h3 : j = 3
    · subst h3; rfl
    · simp [h2, h3]

theorem lr_start {w0 : World} {ov : Value} {cs : List (List Int)} {fv np : Value} {wd : Bool} {Rb I U S : Nat} {ws : List Int} {er : Value} {w : World} {n : Int} {R : List (List Int)} {err : Value} {bf : Nat → Int}
    (hs : St w0 ov cs fv wd Rb I U S R 0 0 n err bf w) (hp : (err = .nilIface ∧ W wd fv np 0 R = (ws, er)) ∨ (Err err ∧ ws = [] ∧ er = err)) : LR w0 ov cs fv np wd Rb I U S ws er 0 w := by
  rcases hp with hp | ⟨a, b, c⟩
  · exact ⟨R, n, err, bf, hs, .inl hp⟩
  · exact ⟨R, n, err, bf, hs, .inr ⟨a, b, by rw [if_neg (by omega)]; exact c⟩⟩

set_option maxHeartbeats 1600000 in
set_option maxRecDepth 1000000 in
theorem fill_any (w0 : World) (ov : Value) (cs : List (List Int)) (fv np : Value) (wd : Bool) (Rb I U S : Nat) (hx : Ctx w0 ov cs fv np Rb I U S) (ws : List Int) (er : Value) (w : World) (n : Int) (R : List (List Int)) (err : Value) (bf : Nat → Int) (r : Nat) (hr : r ≤ S)
    (hs : St w0 ov cs fv wd Rb I U S R r r n err bf w) (hp : (err = .nilIface ∧ W wd fv np 0 R = (ws, er)) ∨ (Err err ∧ ws = [] ∧ er = err)) :
    Calls Ybad.prog 5 #[.pointer (some ⟨I, 0, none⟩)] w (Filled w0 ov cs fv np wd Rb I U S ws er) := by
  have HX : Hid (Ctx w0 ov cs fv np Rb I U S) := hx
  have HS : Hid (St w0 ov cs fv wd Rb I U S R r r n err bf w) := hs
  have HP : Hid ((err = .nilIface ∧ W wd fv np 0 R = (ws, er)) ∨ (Err err ∧ ws = [] ∧ er = err)) := hp
  obtain ⟨i2, f2⟩ := hs.2.2.1 2 (by omega)
  obtain ⟨i3, f3⟩ := hs.2.2.1 3 (by omega)
  have i1 : w.cell? ⟨I, 1, none⟩ = some (.slice (some ⟨U, 0, none⟩) S S) := (hs.2.2.1 1 (by omega)).1
  have i2' : w.cell? ⟨I, 2, none⟩ = some (.int .i64 r) := i2
  have i3' : w.cell? ⟨I, 3, none⟩ = some (.int .i64 r) := i3
  have hcp := copy_none U S
  have s1 := hx.hS1
  have s2 := hx.hS2
  clear hs hp hx i2 i3
  go_enter Ybad.func5, Ybad.ntmps5
  go_upto_if 9 with fail
  go_cut [] (fun wx => LR w0 ov cs fv np wd Rb I U S ws er 0 wx)
  case first =>
    by_cases hr0 : r = 0
    · subst hr0
      go_wp2
      go_meet
      exact lr_start HS.out HP.out
    · have hr1 : 0 < r := by omega
      have HZ : Hid (LR w0 ov cs fv np wd Rb I U S ws er 0 (((w.setCell ⟨I, 3, none⟩ (.int .i64 0)).setCell ⟨I, 2, none⟩ (.int .i64 0)).drew)) := lr_start (st_zero HX.out HS.out) HP.out
      by_cases hrS : S = r
      · subst hrS
        go_wp2
        go_region
        go_wp2
        go_meet
        exact HZ.out
      · go_wp2
        go_region
        go_wp2
        go_meet
        exact HZ.out
  case rest =>
  have H0 : Hid (LR w0 ov cs fv np wd Rb I U S ws er 0 wc) := hcut
  clear hcut HS HP i1 i2' i3' f2 f3 hcp
  go_wp2
  go_loopw [34] (fun i wr => ∃ t : Nat, t ≤ 100 ∧ i = .int .i64 t ∧ LR w0 ov cs fv np wd Rb I U S ws er t wr) (fun i _ => 100 - (intOf i).toNat)
  case atStart => exact ⟨0, by omega, rfl, H0.out⟩
  case round =>
    clear H0
    obtain ⟨t, ht, rfl, R, n, err, bf, hs, hp⟩ := hrel
    have HS : Hid (St w0 ov cs fv wd Rb I U S R 0 0 n err bf wr) := hs
    have i5 : wr.cell? ⟨I, 5, none⟩ = some err := (hs.2.2.1 5 (by omega)).1
    clear hs
    by_cases hlt : t < 100
    · rcases hp with ⟨rfl, hW⟩ | ⟨he, rfl, her⟩
      · have i0 : wr.cell? ⟨I, 0, none⟩ = some (.iface 26 (.pointer (some ⟨Rb, 0, none⟩))) := (HS.out.2.2.1 0 (by omega)).1
        have i1 : wr.cell? ⟨I, 1, none⟩ = some (.slice (some ⟨U, 0, none⟩) S S) := (HS.out.2.2.1 1 (by omega)).1
        have i3 : wr.cell? ⟨I, 3, none⟩ = some (.int .i64 0) := (HS.out.2.2.1 3 (by omega)).1
        have HW : Hid (W wd fv np t R = (ws, er)) := hW
        clear hW
        go_upto_region 8 with fail
        obtain ⟨hb, ⟨k, off, hpos, hdR⟩, hdI, hdU, lR, lI, lU, n0, n1⟩ := HS.out
        have hrd : ∀ q, Calls Ybad.prog 21 #[.pointer (some ⟨Rb, 0, none⟩), .slice (some ⟨U, 0, none⟩) S S] (wr.drewN q) fun e w' => e = .returned (.tuple #[.int .i64 (rdN S R : Nat), rdE S wd fv R]) ∧ Red ov cs fv wd Rb U S R wr w' := fun q =>
          (read_any ov cs R fv wd Rb U S k off bf (wr.drewN q) (HX.out.ch.below (below_drewN hb q)) HX.out.hM HX.out.hL HX.out.hS1 HX.out.hS2 hdR hdU lR lU HX.out.rU hpos).mono fun e w' ⟨h1, k', off', bf', h2, h3, h4, h5, h6⟩ => ⟨h1, k', off', bf', h2, h3, h4, h5, h6⟩
        clear hb hpos hdR hdI hdU lR lI lU n0 n1
        have hme := method_read
        generalize hrn : rdN S R = rn at hrd
        generalize hre : rdE S wd fv R = re at hrd
        have HN : Hid (rdN S R = rn) := hrn
        have HE : Hid (rdE S wd fv R = re) := hre
        clear hrn hre
        have s1 := HX.out.hS1
        have s2 := HX.out.hS2
        go_cut [3, 4] (fun v3 v4 wx => v3 = .int .i64 (rn : Int) ∧ re = v4 ∧ Red ov cs fv wd Rb U S R wr wx)
        case first =>
          go_region_with (go_at_call 21; refine (hrd 1).mono ?_; rintro e w' ⟨rfl, hred⟩)
          all_goals (go_wp2_with fail; go_meet; exact ⟨rfl, rfl, hred⟩)
        case rest =>
          obtain ⟨rfl, rfl, hred⟩ := hcut
          clear hrd hme i0 i1 i3 i5
          obtain ⟨hb, _, hdI, hdU, lR, lI, lU, n0, n1⟩ := HS.out
          obtain ⟨k', off', bf', hpos, hdR', hdU', hbf, hO⟩ := hred
          have hI : Dig wc I (inF Rb U S 0 0 n .nilIface) 6 := hO.dig hdI lI (by simp [HX.out.rI.symm, HX.out.iU.symm])
          have htot := tot_read S R
          rw [HN.out] at htot
          have lRc := Nat.lt_of_lt_of_le lR hO.2.2.2.1
          have lIc := Nat.lt_of_lt_of_le lI hO.2.2.2.1
          have lUc := Nat.lt_of_lt_of_le lU hO.2.2.2.1
          have hs' := st_after HX.out (hO.below hb hb.size (by intro x hx; simp at hx; rcases hx with rfl | rfl; exact HX.out.gR; exact HX.out.gU)) hpos hdR' hI hdU' lRc lIc lUc n0 (show n + (rn : Int) + (tot (rdR S R) : Int) ≤ 4096 by omega) re
          have HS' : Hid (St w0 ov cs fv wd Rb I U S (rdR S R) 0 rn (n + (rn : Int)) re bf' (((wc.setCell ⟨I, 3, none⟩ (.int .i64 (rn : Int))).setCell ⟨I, 4, none⟩ (.int .i64 (n + (rn : Int)))).setCell ⟨I, 5, none⟩ re)) := hs'
          have HBF : Hid (∀ j, j < rdN S R → bf' j = (rdB S R).getD j 0) := hbf
          obtain ⟨i3, g3⟩ := hI 3 (by omega)
          obtain ⟨i4, g4⟩ := hI 4 (by omega)
          obtain ⟨i5, g5⟩ := hI 5 (by omega)
          have i3' : wc.cell? ⟨I, 3, none⟩ = some (.int .i64 0) := i3
          have i4' : wc.cell? ⟨I, 4, none⟩ = some (.int .i64 n) := i4
          have i5' : wc.cell? ⟨I, 5, none⟩ = some .nilIface := i5
          clear i3 i4 i5 hs' hbf hb hdI hdU hpos hdR' hdU' hO
          have hone : re = .nilIface ∨ Err re := by
            rw [← HE.out]
            cases R with
            | nil => exact .inr HX.out.ef
            | cons c R =>
              simp only [rdE]
              split
              · split
                · exact .inr HX.out.ef
                · exact .inl rfl
              · exact .inl rfl
          rcases hone with rfl | ⟨T, p, rfl⟩
          · clear hI
            by_cases hr0 : 0 < rn
            · go_wp2
              go_ret
              refine .inr ?_
              have hcase := W_bytes S wd fv np t R hlt s1 (by rw [HN.out]; exact hr0)
              have hlen := rdB_len S R
              rw [HN.out] at hlen
              have hne : rdB S R ≠ [] := by intro e; rw [e] at hlen; simp at hlen; omega
              rw [HW.out, HE.out] at hcase
              have hle : (rdB S R).length ≤ S := by
                rw [hlen, ← HN.out]
                cases R with
                | nil => simp [rdN]
                | cons c R => simp [rdN]; omega
              rcases hcase with ⟨e1, e2⟩ | ⟨e1, e2⟩
              · obtain ⟨e3, e4⟩ := Prod.mk.inj e2
                refine ⟨?_, rfl, rdR S R, n + (rn : Int), .nilIface, bf', rdB S R, ?_, hne, hle, ?_, .inl ⟨e1, e3, e4⟩⟩
                · rw [e3]; simp [hne]
                · rw [hlen]; exact HS'.out
                · intro j hj; rw [hlen, ← HN.out] at hj; exact HBF.out j hj
              · obtain ⟨e3, e4⟩ := Prod.mk.inj e2
                refine ⟨?_, rfl, rdR S R, n + (rn : Int), .nilIface, bf', rdB S R, ?_, hne, hle, ?_, .inr ⟨e1.trans e4.symm, e3⟩⟩
                · rw [e3]; exact hne
                · rw [hlen]; exact HS'.out
                · intro j hj; rw [hlen, ← HN.out] at hj; exact HBF.out j hj
            · obtain rfl : rn = 0 := by omega
              have HS0 : Hid (St w0 ov cs fv wd Rb I U S (rdR S R) 0 0 n .nilIface bf' (((wc.setCell ⟨I, 3, none⟩ (.int .i64 0)).setCell ⟨I, 4, none⟩ (.int .i64 n)).setCell ⟨I, 5, none⟩ .nilIface)) := by
                have h := HS'.out
                rw [show ((0 : Nat) : Int) = 0 from rfl, Int.add_zero] at h
                exact h
              clear HS'
              go_wp2
              go_roundw
              case rel =>
                refine ⟨t + 1, by omega, by go_num, rdR S R, n, .nilIface, bf', HS0.out, ?_⟩
                have hcase := W_none S wd fv np t R hlt s1 HN.out
                rw [HW.out, HE.out] at hcase
                rcases hcase with ⟨e1, e2⟩ | ⟨e1, e2⟩
                · exact .inl ⟨e1, e2.symm⟩
                · obtain ⟨e3, e4⟩ := Prod.mk.inj e2
                  exact .inr ⟨e1 ▸ HX.out.ef, e3, by rw [e1]; exact e4⟩
              case measure => simp [intOf]; omega
          · clear hI
            by_cases hr0 : 0 < rn
            · go_wp2
              go_ret
              refine .inr ?_
              have hcase := W_bytes S wd fv np t R hlt s1 (by rw [HN.out]; exact hr0)
              have hlen := rdB_len S R
              rw [HN.out] at hlen
              have hne : rdB S R ≠ [] := by intro e; rw [e] at hlen; simp at hlen; omega
              rw [HW.out, HE.out] at hcase
              have hle : (rdB S R).length ≤ S := by
                rw [hlen, ← HN.out]
                cases R with
                | nil => simp [rdN]
                | cons c R => simp [rdN]; omega
              rcases hcase with ⟨e1, e2⟩ | ⟨e1, e2⟩
              · obtain ⟨e3, e4⟩ := Prod.mk.inj e2
                refine ⟨?_, rfl, rdR S R, n + (rn : Int), (.iface T (.pointer (some p))), bf', rdB S R, ?_, hne, hle, ?_, .inl ⟨e1, e3, e4⟩⟩
                · rw [e3]; simp [hne]
                · rw [hlen]; exact HS'.out
                · intro j hj; rw [hlen, ← HN.out] at hj; exact HBF.out j hj
              · obtain ⟨e3, e4⟩ := Prod.mk.inj e2
                refine ⟨?_, rfl, rdR S R, n + (rn : Int), (.iface T (.pointer (some p))), bf', rdB S R, ?_, hne, hle, ?_, .inr ⟨e1.trans e4.symm, e3⟩⟩
                · rw [e3]; exact hne
                · rw [hlen]; exact HS'.out
                · intro j hj; rw [hlen, ← HN.out] at hj; exact HBF.out j hj
            · obtain rfl : rn = 0 := by omega
              have HS0 : Hid (St w0 ov cs fv wd Rb I U S (rdR S R) 0 0 n (.iface T (.pointer (some p))) bf' (((wc.setCell ⟨I, 3, none⟩ (.int .i64 0)).setCell ⟨I, 4, none⟩ (.int .i64 n)).setCell ⟨I, 5, none⟩ (.iface T (.pointer (some p))))) := by
                have h := HS'.out
                rw [show ((0 : Nat) : Int) = 0 from rfl, Int.add_zero] at h
                exact h
              clear HS'
              go_wp2
              go_roundw
              case rel =>
                refine ⟨t + 1, by omega, by go_num, rdR S R, n, (.iface T (.pointer (some p))), bf', HS0.out, ?_⟩
                have hcase := W_none S wd fv np t R hlt s1 HN.out
                rw [HW.out, HE.out] at hcase
                rcases hcase with ⟨e1, e2⟩ | ⟨e1, e2⟩
                · exact .inl ⟨e1, e2.symm⟩
                · obtain ⟨e3, e4⟩ := Prod.mk.inj e2
                  exact .inr ⟨e1 ▸ HX.out.ef, e3, by rw [e1]; exact e4⟩
              case measure => simp [intOf]; omega
      · rw [if_neg (by omega)] at her
        obtain ⟨T, p, rfl⟩ := he
        have HE : Hid (er = .iface T (.pointer (some p))) := her
        clear her
        go_wp2
        go_ret
        refine .inl ⟨rfl, rfl, R, n, bf, ?_⟩
        rw [HE.out]
        exact HS.out
    · obtain rfl : t = 100 := by omega
      obtain ⟨hb, ⟨k, off, hpos, hdR⟩, hdI, hdU, lR, lI, lU, n0, n1⟩ := HS.out
      have g2 : wr.cell? ⟨2, 0, none⟩ = some np := (hb.cell (cell_lt HX.out.gl)).trans HX.out.gl
      obtain ⟨T, p, hnp⟩ := HX.out.en
      have hfin : ws = [] ∧ er = np := by
        rcases hp with ⟨_, hW⟩ | ⟨_, h1, h2⟩
        · rw [W_100 wd fv np 100 R (by omega)] at hW
          obtain ⟨h1, h2⟩ := Prod.mk.inj hW
          exact ⟨h1.symm, h2.symm⟩
        · exact ⟨h1, h2.trans (if_pos (by omega))⟩
      have HF : Hid (ws = [] ∧ er = np) := hfin
      have f5 := (hdI 5 (by omega)).2
      have hO : Only [I] wr (wr.setCell ⟨I, 5, none⟩ np) := Only.set _ _ _ _ (by simp)
      have hnew : Hid (St w0 ov cs fv wd Rb I U S R 0 0 n np bf (wr.setCell ⟨I, 5, none⟩ np)) := by
        refine ⟨hO.below hb hb.size (by intro x hm; simp at hm; rw [hm]; exact HX.out.gI), ⟨k, off, hpos, hO.dig hdR lR (by simp [HX.out.rI])⟩, ?_, hO.dig hdU lU (by simp [HX.out.iU]), Nat.lt_of_lt_of_le lR hO.2.2.2.1, Nat.lt_of_lt_of_le lI hO.2.2.2.1, Nat.lt_of_lt_of_le lU hO.2.2.2.1, n0, n1⟩
        refine (hdI.set 5 (by omega) _).congr fun j hj => ?_
        unfold upd inF
        by_cases h5 : j = 5
        · subst h5; rfl
        · rw [if_neg h5]
          by_cases h4 : j = 4
          · subst h4; rfl
          · by_cases h3 : j = 3
            · subst h3; rfl
            · by_cases h2 : j = 2
              · subst h2; rfl
              · by_cases h1 : j = 1
                · subst h1; rfl
                · obtain rfl : j = 0 := by omega
                  rfl
      clear hb hpos hdR hdI hdU hO hfin hp n0 n1
      rw [hnp] at g2 hnew
      go_wp2
      go_ret
      refine .inl ⟨HF.out.1, rfl, R, n, bf, ?_⟩
      rw [HF.out.2, hnp]
      exact hnew.out

end Go.Proofs.YbulkpsqDoor.law

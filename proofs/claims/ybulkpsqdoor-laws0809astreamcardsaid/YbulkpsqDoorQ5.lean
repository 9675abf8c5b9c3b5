import Derived.Test.YbulkpsqDoorQ4
import Derived.Deep.CutBlock
import Derived.Deep.LoopGhost
import Derived.Deep.OwnRows
import Derived.LaidEql
namespace Go.Proofs.YbulkpsqDoor.law
open Go.ChangeShapes Go.WideShapes Go.ChangeAt Go.RowKit
set_option linter.unusedVariables false

theorem tot_take (cs : List (List Int)) (i : Nat) (h : i < cs.length) : tot (cs.take (i + 1)) = tot (cs.take i) + (cs.getD i []).length := by
  unfold tot
  rw [List.take_add_one, List.map_append, List.sum_append, List.getD_eq_getElem?_getD, List.getElem?_eq_getElem h]
  simp

theorem len_tot {cs : List (List Int)} {n : Nat} (h : tot cs ≤ n) (i : Nat) : (cs.getD i []).length ≤ n := by
  by_cases hi : i < cs.length
  · have h1 := tot_take cs i hi
    have h2 : tot (cs.take (i + 1)) ≤ tot cs := by
      have : tot cs = tot (cs.take (i + 1)) + tot (cs.drop (i + 1)) := by
        unfold tot
        rw [← List.sum_append, ← List.map_append, List.take_append_drop]
      omega
    omega
  · rw [List.getD_eq_getElem?_getD, List.getElem?_eq_none (by omega)]
    simp

theorem drop_at (cs : List (List Int)) (k : Nat) (h : k < cs.length) : cs.drop k = cs.getD k [] :: cs.drop (k + 1) := by
  rw [List.getD_eq_getElem?_getD, List.getElem?_eq_getElem h]
  exact List.drop_eq_getElem_cons h

/-- Where the loop over the chunks stands. -/
def Mid (w : World) (cs : List (List Int)) (wd : Bool) (fv np : Value) (k e : Nat) (wb : List Int) : Prop :=
  wb.length = tot (cs.take k) ∧ W wd fv np 0 cs = (wb ++ (W wd fv np e (cs.drop k)).1, (W wd fv np e (cs.drop k)).2)

section
variable {w : World} {cs : List (List Int)} {wd : Bool} {fv np : Value} {k e : Nat} {wb : List Int}
theorem mid_start : Mid w cs wd fv np 0 0 [] := ⟨rfl, rfl⟩
theorem mid_end (h : Mid w cs wd fv np cs.length e wb) : W wd fv np 0 cs = (wb, if 100 ≤ e + 1 then np else fv) := by
  have := h.2
  rw [List.drop_length, W, List.append_nil] at this
  exact this
theorem mid_last_empty (h : Mid w cs wd fv np k e wb) (hk : k < cs.length) (he : e < 100) (hc : cs.getD k [] = []) (hl : k + 1 = cs.length) (hw : wd = true) : W wd fv np 0 cs = (wb, if 100 ≤ e + 1 then np else fv) := by
  have := h.2
  rw [drop_at cs k hk, hc, W, if_neg (by omega), if_pos rfl, if_pos ⟨by rw [List.drop_eq_nil_iff]; omega, hw⟩, List.append_nil] at this
  exact this
theorem mid_empty (h : Mid w cs wd fv np k e wb) (hk : k < cs.length) (he : e < 100) (hc : cs.getD k [] = []) (hn : ¬ (k + 1 = cs.length ∧ wd = true)) : Mid w cs wd fv np (k + 1) (e + 1) wb := by
  have h2 := h.2
  rw [drop_at cs k hk, hc, W, if_neg (by omega), if_pos rfl, if_neg (by rw [List.drop_eq_nil_iff]; intro h; apply hn; exact ⟨by omega, h.2⟩)] at h2
  refine ⟨?_, h2⟩
  rw [tot_take cs k hk, hc, h.1]
  rfl
theorem mid_stuck (h : Mid w cs wd fv np k 100 wb) : W wd fv np 0 cs = (wb, np) := by
  have := h.2
  rw [W_100 wd fv np 100 _ (by omega), List.append_nil] at this
  exact this
theorem mid_last (h : Mid w cs wd fv np k e wb) (hk : k < cs.length) (he : e < 100) (hc : cs.getD k [] ≠ []) (hl : k + 1 = cs.length) (hw : wd = true) : W wd fv np 0 cs = (wb ++ cs.getD k [], fv) := by
  have := h.2
  rw [drop_at cs k hk, W, if_neg (by omega), if_neg hc, if_pos ⟨by rw [List.drop_eq_nil_iff]; omega, hw⟩] at this
  exact this
theorem mid_bytes (h : Mid w cs wd fv np k e wb) (hk : k < cs.length) (he : e < 100) (hc : cs.getD k [] ≠ []) (hn : ¬ (k + 1 = cs.length ∧ wd = true)) : Mid w cs wd fv np (k + 1) 0 (wb ++ cs.getD k []) := by
  have h2 := h.2
  rw [drop_at cs k hk, W, if_neg (by omega), if_neg hc, if_neg (by rw [List.drop_eq_nil_iff]; intro h; apply hn; exact ⟨by omega, h.2⟩)] at h2
  refine ⟨by rw [List.length_append, h.1, tot_take cs k hk], ?_⟩
  rw [List.append_assoc]
  exact h2
end

theorem own_ge {w : World} {B e sz n : Nat} {v : Value} {xs : List Value} (h : w.ownsRow B e sz v n xs) {k : Nat} (hk : v.ownBlock = some k) : B ≤ k := by
  obtain ⟨_, ⟨rfl, _⟩ | ⟨g, cap, cur, rfl, hg, _⟩⟩ := h
  · simp [Value.ownBlock] at hk
  · simp [Value.ownBlock] at hk; omega
theorem by8_append (a b : List Int) : by8 (a ++ b) = by8 a ++ by8 b := by simp [by8]

/-- What is set when the reading begins. -/
def fin (unexp : Bool) (ev uv : Value) : Value := if unexp = true then uv else ev

/-- Behind the loop over the chunks. -/
def After (w : World) (cs : List (List Int)) (wd : Bool) (fv np : Value) (want we done empt : Value) (wx : World) : Prop :=
  ∃ wb : List Int, wx.ownsRow w.heap.size 5 1 want wb.length (by8 wb) ∧ Below w.heap.size w wx ∧ wb.length ≤ 4096 ∧
    ((done = .bool true ∧ W wd fv np 0 cs = (wb, we)) ∨ (done = .bool false ∧ ∃ e : Nat, e < 100 ∧ empt = .int .i64 e ∧ W wd fv np 0 cs = (wb, if 100 ≤ e + 1 then np else fv)))

theorem after_split {w : World} {cs : List (List Int)} {wd : Bool} {fv np want we done empt : Value} {wx : World} (h : After w cs wd fv np want we done empt wx) :
    ∃ (wb : List Int) (db : Bool) (e : Nat), done = .bool db ∧ wx.ownsRow w.heap.size 5 1 want wb.length (by8 wb) ∧ Below w.heap.size w wx ∧ wb.length ≤ 4096 ∧ (db = true → W wd fv np 0 cs = (wb, we)) ∧ (db = false → e < 100 ∧ empt = .int .i64 e ∧ W wd fv np 0 cs = (wb, if 100 ≤ e + 1 then np else fv)) := by
  obtain ⟨wb, h1, h2, h3, ⟨h4, h5⟩ | ⟨h4, e, h5, h6, h7⟩⟩ := h
  · exact ⟨wb, true, 0, h4, h1, h2, h3, fun _ => h5, fun h => (by cases h)⟩
  · exact ⟨wb, false, e, h4, h1, h2, h3, fun h => (by cases h), fun _ => ⟨h5, h6, h7⟩⟩

def zN (n : Nat) : Array Value := Array.replicate n (.int .u8 0)
theorem digN (w : World) (n : Nat) (t : TypeId) : Dig (w.alloc (.cells (zN n) t)) w.heap.size (fun _ => .int .u8 0) n :=
  dig_of (t := t) (heap_alloc_new _ _) fun j hj => by unfold zN; rw [Array.getElem?_replicate, if_pos hj]
theorem made_zN (n : Nat) : madeCells #[.int .u8 0] n = zN n := by
  apply Array.toList_inj.1
  rw [toList_madeCells_one]
  simp [zN]
theorem make_bytes (n : Nat) (z : Int) (hz : (n : Int) = z) (h : n ≤ 1024) (w : World) : (Instr.makeSlice 23 (.int .i64 z) (.int .i64 z)).run Ybad.prog w = .ok (.slice (some ⟨w.heap.size, 0, none⟩) n n) (w.alloc (.cells (zN n) 5)) := by
  rw [← hz, run_make_row' 23 5 (.int .u8 0) 1 Ybad.underlying23 info5 rfl .i64 .i64 n (by omega) (by omega) w, made_zN]

/-- An error of errors.New's make. -/
def Er (v : Value) : Prop := ∃ p, v = .iface 40 (.pointer (some p))
theorem Er.err {v : Value} (h : Er v) : Err v := by
  obtain ⟨p, rfl⟩ := h
  exact ⟨40, p, rfl⟩

theorem W_err (wd : Bool) (fv np : Value) : ∀ (cs : List (List Int)) (e : Nat), (W wd fv np e cs).2 = fv ∨ (W wd fv np e cs).2 = np
  | [], e => by
    rw [W]
    split
    · exact .inr rfl
    · exact .inl rfl
  | c :: cs, e => by
    rw [W]
    split
    · exact .inr rfl
    · split
      · split
        · split
          · exact .inr rfl
          · exact .inl rfl
        · exact W_err wd fv np cs (e + 1)
      · split
        · exact .inl rfl
        · exact W_err wd fv np cs 0

theorem info40c : (Ybad.prog.info? 40).map (fun i => i.comparable) = some true := by kernel_rfl
theorem info60c : (Ybad.prog.info? 60).map (fun i => i.size) = some 1 := by kernel_rfl
theorem neq_same (a : Addr) (w : World) : (binOp .neq 25 (.iface 40 (.pointer (some a))) (.iface 40 (.pointer (some a)))).run Ybad.prog w = .ok (.bool false) w := by
  obtain ⟨i, h1, h2⟩ := Option.map_eq_some_iff.1 info40c
  obtain ⟨j, h3, _⟩ := Option.map_eq_some_iff.1 info60c
  simp only [binOp]
  simp [Op.equal, Op.maxDepth, run_equalIn_iface_ptr_same w 9998 a Ybad.underlying25 Ybad.underlying40 h1 h2 h3]

/-- The want row, as the walk reads it. -/
theorem want_shape {w wc : World} {v : Value} {wb : List Int} (h : wc.ownsRow w.heap.size 5 1 v wb.length (by8 wb)) :
    ∃ a c, v = .slice a wb.length c ∧ wb.length ≤ c ∧ ∀ j, j < wb.length → ∃ g, a = some ⟨g, 0, none⟩ ∧ wc.cell? ⟨g, j, none⟩ = some (.int .u8 (wb.getD j 0)) := by
  have h0 := h
  obtain ⟨_, ⟨rfl, hn⟩ | ⟨g, cap, cur, rfl, hg, hh, h1, h2, h3, h4⟩⟩ := h
  · exact ⟨none, 0, by rw [hn], by omega, fun j hj => by omega⟩
  · refine ⟨_, cap, rfl, h1, fun j hj => ⟨g, rfl, ?_⟩⟩
    rw [World.ownsRow.cellAt h0 j (by omega)]
    simp [by8, hj, List.getD_eq_getElem?_getD]

/-- The reading begins. -/
theorem start {wc : World} {oa : Option Addr} {oc : Nat} {cs : List (List Int)} {fv np : Value} {wd : Bool} {S : Nat} {ws : List Int} {er : Value} (hC : Chs wc (.slice oa cs.length oc) cs) (hM : cs.length ≤ 1024) (hT : tot cs ≤ 4096) (hS1 : 0 < S) (hS2 : S ≤ 32) (ef : Err fv) (en : Err np) (gn : wc.cell? ⟨2, 0, none⟩ = some np) (hW : W wd fv np 0 cs = (ws, er)) :
    Ctx wc (.slice oa cs.length oc) cs fv np wc.heap.size (wc.heap.size + 1 + 1) (wc.heap.size + 1) S ∧
    Inv wc (.slice oa cs.length oc) cs fv np wd wc.heap.size (wc.heap.size + 1 + 1) (wc.heap.size + 1) S ws er (((wc.alloc (.cells #[.slice oa cs.length oc, .int .i64 0, .int .i64 0, fv, .bool wd] 28)).alloc (.cells (zN S) 5)).alloc (.cells #[.iface 26 (.pointer (some ⟨wc.heap.size, 0, none⟩)), .slice (some ⟨wc.heap.size + 1, 0, none⟩) S S, .int .i64 0, .int .i64 0, .int .i64 0, .nilIface] 32)) := by
  refine ⟨{ ch := hC, hM := hM, hL := fun i => len_tot hT i, hS1 := hS1, hS2 := hS2, gR := Nat.le_refl _, gI := by omega, gU := by omega, rI := by omega, rU := by omega, iU := by omega, ef := ef, en := en, gl := gn }, ?_⟩
  have bA : Below wc.heap.size wc (wc.alloc (.cells #[.slice oa cs.length oc, .int .i64 0, .int .i64 0, fv, .bool wd] 28)) := (Below.refl _ _).alloc (Nat.le_refl _) _
  have sA : (wc.alloc (.cells #[.slice oa cs.length oc, .int .i64 0, .int .i64 0, fv, .bool wd] 28)).heap.size = wc.heap.size + 1 := by simp
  have dA : Dig (wc.alloc (.cells #[.slice oa cs.length oc, .int .i64 0, .int .i64 0, fv, .bool wd] 28)) wc.heap.size (rdF (.slice oa cs.length oc) 0 0 fv wd) 5 := dig_of (t := 28) (heap_alloc_new _ _) fun j hj => by
    match j, hj with
    | 0, _ => rfl
    | 1, _ => rfl
    | 2, _ => rfl
    | 3, _ => rfl
    | 4, _ => rfl
  generalize (wc.alloc (.cells #[.slice oa cs.length oc, .int .i64 0, .int .i64 0, fv, .bool wd] 28)) = w1 at *
  have bB : Below w1.heap.size w1 (w1.alloc (.cells (zN S) 5)) := (Below.refl _ _).alloc (Nat.le_refl _) _
  have sB : (w1.alloc (.cells (zN S) 5)).heap.size = wc.heap.size + 1 + 1 := by simp [sA]
  have dB := digN w1 S 5
  rw [sA] at dB
  have dA2 := dA.below bB (by omega)
  generalize (w1.alloc (.cells (zN S) 5)) = w2 at *
  have bC : Below w2.heap.size w2 (w2.alloc (.cells #[.iface 26 (.pointer (some ⟨wc.heap.size, 0, none⟩)), .slice (some ⟨wc.heap.size + 1, 0, none⟩) S S, .int .i64 0, .int .i64 0, .int .i64 0, .nilIface] 32)) := (Below.refl _ _).alloc (Nat.le_refl _) _
  have sC : (w2.alloc (.cells #[.iface 26 (.pointer (some ⟨wc.heap.size, 0, none⟩)), .slice (some ⟨wc.heap.size + 1, 0, none⟩) S S, .int .i64 0, .int .i64 0, .int .i64 0, .nilIface] 32)).heap.size = w2.heap.size + 1 := by simp
  have dC : Dig (w2.alloc (.cells #[.iface 26 (.pointer (some ⟨wc.heap.size, 0, none⟩)), .slice (some ⟨wc.heap.size + 1, 0, none⟩) S S, .int .i64 0, .int .i64 0, .int .i64 0, .nilIface] 32)) w2.heap.size (inF wc.heap.size (wc.heap.size + 1) S 0 0 0 .nilIface) 6 := dig_of (t := 32) (heap_alloc_new _ _) fun j hj => by
    match j, hj with
    | 0, _ => rfl
    | 1, _ => rfl
    | 2, _ => rfl
    | 3, _ => rfl
    | 4, _ => rfl
    | 5, _ => rfl
  rw [sB] at dC
  have dA3 := dA2.below bC (by omega)
  have dB3 := dB.below bC (by omega)
  refine ⟨cs, 0, 0, .nilIface, fun _ => 0, [], ws, ⟨?_, ⟨0, 0, ?_, dA3⟩, dC, dB3, by omega, by omega, by omega, by omega, by omega⟩, by simp, fun j hj => by simp at hj, .inl ⟨rfl, hW⟩, rfl⟩
  · exact (bA.trans (bB.mono (by omega))).trans (bC.mono (by omega))
  · by_cases hn : cs.length = 0
    · have : cs = [] := List.length_eq_zero_iff.1 hn
      subst this
      exact .inl ⟨rfl, rfl, rfl⟩
    · refine .inr ⟨by omega, .inl rfl, ?_⟩
      rw [List.drop_zero]
      exact drop_at cs 0 (by omega)

set_option maxHeartbeats 3200000 in
set_option maxRecDepth 1000000 in
theorem law_walk (ov : Value) (cs : List (List Int)) (unexp wd : Bool) (size : Int) (ev uv np : Value) (w : World) (h0 : 0 ≤ size) (h1 : size ≤ 255) (hC : Chs w ov cs) (hbig : ∀ i, (cs.getD i []).length ≤ 4611686018427387904) (hM : cs.length ≤ 1024)
    (hev : Er ev) (huv : Er uv) (hnp : Er np) (g0 : w.cell? ⟨0, 0, none⟩ = some ev) (g1 : w.cell? ⟨1, 0, none⟩ = some uv) (g2 : w.cell? ⟨2, 0, none⟩ = some np) :
    Calls Ybad.prog 3 #[ov, .bool unexp, .bool wd, .int .u8 size] w fun e w' => e = .returned (.bool true) ∧ Below w.heap.size w w' := by
  have HC : Hid (Chs w ov cs) := hC
  obtain ⟨oa, oc, rfl, hoc, hoc2, hor⟩ := hC
  clear hor
  unfold maxLen at hoc2
  have HB : Hid (∀ i, (cs.getD i []).length ≤ 4611686018427387904) := hbig
  have HE : Hid (Er ev ∧ Er uv ∧ Er np) := ⟨hev, huv, hnp⟩
  clear hbig hev huv hnp
  go_enter Ybad.func3, Ybad.ntmps3
  go_wp2
  go_loop [9, 32] (fun v i => ∃ k : Nat, k ≤ cs.length ∧ i = .int .i64 k ∧ v = .int .i64 (tot (cs.take k) : Nat) ∧ tot (cs.take k) ≤ 4096) (fun _ i => 1024 - (intOf i).toNat)
  case atStart => exact ⟨0, by omega, rfl, rfl, by simp [tot]⟩
  case round =>
    obtain ⟨k, hk, rfl, rfl, htk⟩ := hrel
    by_cases hlt : k < cs.length
    · obtain ⟨ob, oo, oc', A, C, hov, _, hv, c1, c2, _⟩ := chunk_at HC.out hlt
      obtain ⟨rfl, rfl⟩ : oa = some ⟨ob, oo, none⟩ ∧ oc = oc' := by simpa using hov
      clear hov
      have hb := HB.out k
      have htt := tot_take cs k hlt
      have HT : Hid (tot (cs.take (k + 1)) = tot (cs.take k) + (cs.getD k []).length) := htt
      generalize hln : (cs.getD k []).length = ln at hv hb c1 HT
      clear htt
      generalize hT : tot (cs.take k) = T at *
      by_cases hbig : T + ln ≤ 4096
      · go_wp2
        go_round
        case rel => exact ⟨k + 1, by omega, by go_num, by rw [HT.out]; go_num, by rw [HT.out]; omega⟩
        case measure => simp [intOf]; omega
      · go_wp2
        go_ret
        exact ⟨rfl, Below.refl _ _⟩
    · obtain rfl : k = cs.length := by omega
      rw [List.take_length] at htk
      generalize ((tot (cs.take cs.length) : Nat) : Int) = tt
      go_upto_if 44 with fail
      go_cut [12] (fun v wx => w = wx ∧ v = fin unexp ev uv)
      case first =>
        cases unexp
        · go_wp2
          go_meet
          exact ⟨rfl, rfl⟩
        · go_wp2
          go_meet
          exact ⟨rfl, rfl⟩
      case rest =>
        obtain ⟨rfl, rfl⟩ := hcut
        have hfe : Er (fin unexp ev uv) := by
          unfold fin
          split
          · exact HE.out.2.1
          · exact HE.out.1
        generalize fin unexp ev uv = fv at *
        have HF : Hid (Er fv) := hfe
        have HT : Hid (tot cs ≤ 4096) := htk
        clear hfe htk g0 g1
        go_upto_block 2 with fail
        go_cut [13, 14, 15, 16] (fun want we done empt wx => After w cs wd fv np want we done empt wx)
        case first =>
          go_wp2_with fail
          go_loopw [13, 14, 15, 16, 48] (fun want we done empt i wr => ∃ (k e : Nat) (wb : List Int), k ≤ cs.length ∧ e < 100 ∧ i = .int .i64 k ∧ empt = .int .i64 e ∧ done = .bool false ∧ wr.ownsRow w.heap.size 5 1 want wb.length (by8 wb) ∧ Below w.heap.size w wr ∧ Mid w cs wd fv np k e wb) (fun _ _ _ _ i _ => 1024 - (intOf i).toNat)
          case atStart => exact ⟨0, 0, [], by omega, by omega, rfl, rfl, rfl, ⟨rfl, .inl ⟨rfl, rfl⟩⟩, Below.refl _ _, mid_start⟩
          case round =>
            obtain ⟨k, e, wb, hk, he, rfl, rfl, rfl, ho, hb, hmid⟩ := hrel
            have HO : Hid (wr.ownsRow w.heap.size 5 1 u13 wb.length (by8 wb)) := ho
            have HBl : Hid (Below w.heap.size w wr) := hb
            have HMD : Hid (Mid w cs wd fv np k e wb) := hmid
            have hwb : wb.length ≤ 4096 := by
              rw [hmid.1]
              have := HT.out
              have h3 : tot cs = tot (cs.take k) + tot (cs.drop k) := by
                unfold tot
                rw [← List.sum_append, ← List.map_append, List.take_append_drop]
              omega
            have gn : wr.cell? ⟨2, 0, none⟩ = some np := (hb.cell (cell_lt g2)).trans g2
            clear ho hb hmid
            by_cases hlt2 : k < cs.length
            · obtain ⟨ob, oo, oc', A, C, hov, _, hv0, c1, c2, hcell⟩ := chunk_at HC.out hlt2
              obtain ⟨rfl, rfl⟩ : oa = some ⟨ob, oo, none⟩ ∧ oc = oc' := by simpa using hov
              clear hov
              have hv : wr.cell? ⟨ob, oo + k, none⟩ = some (.slice A (cs.getD k []).length C) := (HBl.out.cell (cell_lt hv0)).trans hv0
              clear hv0
              by_cases hc : cs.getD k [] = []
              · rw [hc] at hv
                have hv' : wr.cell? ⟨ob, oo + k, none⟩ = some (.slice A 0 C) := hv
                clear hv hcell c1
                by_cases hl : k + 1 = cs.length ∧ wd = true
                · obtain ⟨hl1, rfl⟩ := hl
                  have hd : ((k : Int) == (cs.length : Int) - 1) = true := by simp; omega
                  by_cases h99 : 100 ≤ e + 1
                  · go_wp2
                    go_meet
                    exact ⟨wb, HO.out, HBl.out, hwb, .inl ⟨rfl, (mid_last_empty HMD.out hlt2 he hc hl1 rfl).trans (by rw [if_pos h99])⟩⟩
                  · go_wp2
                    go_meet
                    exact ⟨wb, HO.out, HBl.out, hwb, .inl ⟨rfl, (mid_last_empty HMD.out hlt2 he hc hl1 rfl).trans (by rw [if_neg h99])⟩⟩
                · have hm2 := mid_empty HMD.out hlt2 he hc hl
                  have HM2 : Hid (Mid w cs wd fv np (k + 1) (e + 1) wb) := hm2
                  clear hm2
                  by_cases hl1 : k + 1 = cs.length
                  · obtain rfl : wd = false := by
                      cases wd
                      · rfl
                      · exact absurd ⟨hl1, rfl⟩ hl
                    have hd : ((k : Int) == (cs.length : Int) - 1) = true := by simp; omega
                    clear hl
                    by_cases h99 : 100 ≤ e + 1
                    · obtain rfl : e = 99 := by omega
                      go_wp2
                      go_meet
                      exact ⟨wb, HO.out, HBl.out, hwb, .inl ⟨rfl, mid_stuck HM2.out⟩⟩
                    · go_wp2
                      go_roundw
                      case rel => exact ⟨k + 1, e + 1, wb, by omega, by omega, by go_num, by go_num, rfl, HO.out, HBl.out, HM2.out⟩
                      case measure => simp [intOf]; omega
                  · have hd : ((k : Int) == (cs.length : Int) - 1) = false := by simp; omega
                    clear hl
                    by_cases h99 : 100 ≤ e + 1
                    · obtain rfl : e = 99 := by omega
                      go_wp2
                      go_meet
                      exact ⟨wb, HO.out, HBl.out, hwb, .inl ⟨rfl, mid_stuck HM2.out⟩⟩
                    · go_wp2
                      go_roundw
                      case rel => exact ⟨k + 1, e + 1, wb, by omega, by omega, by go_num, by go_num, rfl, HO.out, HBl.out, HM2.out⟩
                      case measure => simp [intOf]; omega
              · rcases hcell with h | ⟨b, o, rfl, hcell⟩
                · exact absurd h hc
                have hcell' : ∀ j, j < (cs.getD k []).length → wr.cell? ⟨b, o + j, none⟩ = some (.int .u8 ((cs.getD k []).getD j 0)) := fun j hj => (HBl.out.cell (cell_lt (hcell j hj))).trans (hcell j hj)
                have HCL : Hid (∀ j, j < (cs.getD k []).length → wr.cell? ⟨b, o + j, none⟩ = some (.int .u8 ((cs.getD k []).getD j 0))) := hcell'
                clear hcell hcell'
                have hclen : 0 < (cs.getD k []).length := List.length_pos_iff.2 hc
                have hcl4 : (cs.getD k []).length ≤ 4096 := len_tot HT.out k
                have hsum : wb.length + (cs.getD k []).length ≤ 4096 := by
                  rw [HMD.out.1, ← tot_take cs k hlt2]
                  have h4 := HT.out
                  have h3 : tot cs = tot (cs.take (k + 1)) + tot (cs.drop (k + 1)) := by
                    unfold tot
                    rw [← List.sum_append, ← List.map_append, List.take_append_drop]
                  omega
                have HC2 : Hid (cs.getD k [] ≠ []) := hc
                clear hc
                obtain ⟨i0, hi, hz0, hz1, hz2⟩ := info_parts info5
                by_cases hl : k + 1 = cs.length ∧ wd = true
                · have hm2 := mid_last HMD.out hlt2 he HC2.out hl.1 hl.2
                  obtain ⟨hl1, rfl⟩ := hl
                  have hd : ((k : Int) == (cs.length : Int) - 1) = true := by simp; omega
                  have HM2 : Hid (W true fv np 0 cs = (wb ++ cs.getD k [], fv)) := hm2
                  clear hm2
                  generalize hg : cs.getD k [] = c at *
                  have hne0 : ((c.length : Nat) : Int) ≠ 0 := by omega
                  go_wp2_with (at_builtin; refine wpList_append_own _ rfl (.tmp 75) (.tmp 76) 23 rfl w.heap.size 5 i0 (.int .u8 0) 1 1 Ybad.underlying23 hi hz0 hz1 hz2 rfl (by decide) _ _ _ rfl HO.out ⟨b, o, none⟩ c.length C (by8 c) rfl ?c0 ?c1 ?c2 ?c3 ?c4 ?c5 ?_)
                  case c0 => simp [by8]
                  case c1 =>
                    intro j u hj
                    obtain ⟨h1, rfl⟩ := by8_at hj
                    rw [Addr.add_lit]
                    exact HCL.out j h1
                  case c2 => exact by8_one _
                  case c3 => unfold maxLen; omega
                  case c4 => omega
                  case c5 => exact HBl.out.size
                  intro v2 w2 ho2 hg2 _
                  rw [← by8_append, ← List.length_append] at ho2
                  have b2 : Below w.heap.size w w2 := HBl.out.grown hg2 HBl.out.size (fun j hj => own_ge HO.out hj)
                  have H2 : Hid (w2.ownsRow w.heap.size 5 1 v2 (wb ++ c).length (by8 (wb ++ c))) := ho2
                  have B2 : Hid (Below w.heap.size w w2) := b2
                  clear ho2 hg2 b2
                  go_wp2
                  go_meet
                  exact ⟨wb ++ c, H2.out, B2.out, by rw [List.length_append]; exact hsum, .inl ⟨rfl, HM2.out⟩⟩
                · have hm2 := mid_bytes HMD.out hlt2 he HC2.out hl
                  have HM2 : Hid (Mid w cs wd fv np (k + 1) 0 (wb ++ cs.getD k [])) := hm2
                  clear hm2
                  generalize hg : cs.getD k [] = c at *
                  have hne0 : ((c.length : Nat) : Int) ≠ 0 := by omega
                  by_cases hl1 : k + 1 = cs.length
                  · obtain rfl : wd = false := by
                      cases wd
                      · rfl
                      · exact absurd ⟨hl1, rfl⟩ hl
                    have hd : ((k : Int) == (cs.length : Int) - 1) = true := by simp; omega
                    clear hl
                    go_wp2_with (at_builtin; refine wpList_append_own _ rfl (.tmp 75) (.tmp 76) 23 rfl w.heap.size 5 i0 (.int .u8 0) 1 1 Ybad.underlying23 hi hz0 hz1 hz2 rfl (by decide) _ _ _ rfl HO.out ⟨b, o, none⟩ c.length C (by8 c) rfl ?c0 ?c1 ?c2 ?c3 ?c4 ?c5 ?_)
                    case c0 => simp [by8]
                    case c1 =>
                      intro j u hj
                      obtain ⟨h1, rfl⟩ := by8_at hj
                      rw [Addr.add_lit]
                      exact HCL.out j h1
                    case c2 => exact by8_one _
                    case c3 => unfold maxLen; omega
                    case c4 => omega
                    case c5 => exact HBl.out.size
                    intro v2 w2 ho2 hg2 _
                    rw [← by8_append, ← List.length_append] at ho2
                    have b2 : Below w.heap.size w w2 := HBl.out.grown hg2 HBl.out.size (fun j hj => own_ge HO.out hj)
                    have H2 : Hid (w2.ownsRow w.heap.size 5 1 v2 (wb ++ c).length (by8 (wb ++ c))) := ho2
                    have B2 : Hid (Below w.heap.size w w2) := b2
                    clear ho2 hg2 b2
                    go_wp2
                    go_roundw
                    case rel => exact ⟨k + 1, 0, wb ++ c, by omega, by omega, by go_num, rfl, rfl, H2.out, B2.out, HM2.out⟩
                    case measure => simp [intOf]; omega
                  · have hd : ((k : Int) == (cs.length : Int) - 1) = false := by simp; omega
                    clear hl
                    go_wp2_with (at_builtin; refine wpList_append_own _ rfl (.tmp 75) (.tmp 76) 23 rfl w.heap.size 5 i0 (.int .u8 0) 1 1 Ybad.underlying23 hi hz0 hz1 hz2 rfl (by decide) _ _ _ rfl HO.out ⟨b, o, none⟩ c.length C (by8 c) rfl ?c0 ?c1 ?c2 ?c3 ?c4 ?c5 ?_)
                    case c0 => simp [by8]
                    case c1 =>
                      intro j u hj
                      obtain ⟨h1, rfl⟩ := by8_at hj
                      rw [Addr.add_lit]
                      exact HCL.out j h1
                    case c2 => exact by8_one _
                    case c3 => unfold maxLen; omega
                    case c4 => omega
                    case c5 => exact HBl.out.size
                    intro v2 w2 ho2 hg2 _
                    rw [← by8_append, ← List.length_append] at ho2
                    have b2 : Below w.heap.size w w2 := HBl.out.grown hg2 HBl.out.size (fun j hj => own_ge HO.out hj)
                    have H2 : Hid (w2.ownsRow w.heap.size 5 1 v2 (wb ++ c).length (by8 (wb ++ c))) := ho2
                    have B2 : Hid (Below w.heap.size w w2) := b2
                    clear ho2 hg2 b2
                    go_wp2
                    go_roundw
                    case rel => exact ⟨k + 1, 0, wb ++ c, by omega, by omega, by go_num, rfl, rfl, H2.out, B2.out, HM2.out⟩
                    case measure => simp [intOf]; omega
            · obtain rfl : k = cs.length := by omega
              have hme := mid_end HMD.out
              have HME : Hid (W wd fv np 0 cs = (wb, if 100 ≤ e + 1 then np else fv)) := hme
              clear hme
              go_wp2
              go_meet
              exact ⟨wb, HO.out, HBl.out, hwb, .inr ⟨rfl, e, he, rfl, HME.out⟩⟩
        case rest =>
          obtain ⟨wb, db, e, rfl, ho, hb, hwb, hT, hF⟩ := after_split hcut
          have HO : Hid (wc.ownsRow w.heap.size 5 1 u13 wb.length (by8 wb)) := ho
          have HBl : Hid (Below w.heap.size w wc) := hb
          have H1 : Hid (db = true → W wd fv np 0 cs = (wb, u14)) := hT
          have H2 : Hid (db = false → e < 100 ∧ u16 = .int .i64 e ∧ W wd fv np 0 cs = (wb, if 100 ≤ e + 1 then np else fv)) := hF
          have gn : wc.cell? ⟨2, 0, none⟩ = some np := (hb.cell (cell_lt g2)).trans g2
          clear ho hb hT hF hcut
          go_upto_if 85 with fail
          go_cut [14] (fun we wx => wc = wx ∧ W wd fv np 0 cs = (wb, we))
          case first =>
            cases db
            · obtain ⟨he, rfl, hW⟩ := H2.out rfl
              have HW : Hid (W wd fv np 0 cs = (wb, if 100 ≤ e + 1 then np else fv)) := hW
              clear hW H1 H2
              by_cases h99 : 100 ≤ e + 1
              · go_wp2
                go_meet
                exact ⟨rfl, HW.out.trans (by rw [if_pos h99])⟩
              · go_wp2
                go_meet
                exact ⟨rfl, HW.out.trans (by rw [if_neg h99])⟩
            · have hW := H1.out rfl
              have HW : Hid (W wd fv np 0 cs = (wb, u14)) := hW
              clear hW H1 H2
              go_wp2
              go_meet
              exact ⟨rfl, HW.out⟩
          case rest =>
            obtain ⟨rfl, hW⟩ := hcut
            have HW : Hid (W wd fv np 0 cs = (wb, u14)) := hW
            clear hW H1 H2
            have hS : ((1 + (size % 32).toNat : Nat) : Int) = 1 + size % 32 := by omega
            have hSb : 1 + (size % 32).toNat ≤ 32 := by omega
            have hS0 : 0 < 1 + (size % 32).toNat := by omega
            have hmk := make_bytes (1 + (size % 32).toNat) (1 + size % 32) hS (by omega)
            generalize 1 + (size % 32).toNat = S at *
            obtain ⟨pf, rfl⟩ := HF.out
            go_upto_region 44 with fail
            obtain ⟨hx, hinv⟩ := start (wd := wd) (HC.out.below HBl.out) hM HT.out hS0 hSb HF.out.err HE.out.2.2.err gn HW.out
            have her : Er u14 := by
              have h1 := W_err wd (.iface 40 (.pointer (some pf))) np cs 0
              rw [HW.out] at h1
              rcases h1 with h1 | h1
              · exact ⟨pf, h1⟩
              · rw [show u14 = np from h1]; exact HE.out.2.2
            obtain ⟨pe, rfl⟩ := her
            obtain ⟨wa, wcap, rfl, hwc, hcells⟩ := want_shape HO.out
            have HX : Hid (Ctx wc (.slice oa cs.length oc) cs (.iface 40 (.pointer (some pf))) np wc.heap.size (wc.heap.size + 1 + 1) (wc.heap.size + 1) S) := hx
            have HCE : Hid (∀ j, j < wb.length → ∃ g, wa = some ⟨g, 0, none⟩ ∧ wc.cell? ⟨g, j, none⟩ = some (.int .u8 (wb.getD j 0))) := hcells
            clear hx hcells hmk
            generalize (((wc.alloc (.cells #[.slice oa cs.length oc, .int .i64 0, .int .i64 0, .iface 40 (.pointer (some pf)), .bool wd] 28)).alloc (.cells (zN S) 5)).alloc (.cells #[.iface 26 (.pointer (some ⟨wc.heap.size, 0, none⟩)), .slice (some ⟨wc.heap.size + 1, 0, none⟩) S S, .int .i64 0, .int .i64 0, .int .i64 0, .nilIface] 32)) = w3 at *
            generalize wc.heap.size + 1 + 1 = I at *
            generalize wc.heap.size + 1 = U at *
            go_wp2
            go_loopw [106] (fun i wr => ∃ k : Nat, k ≤ wb.length ∧ i = .int .i64 k ∧ Inv wc (.slice oa cs.length oc) cs (.iface 40 (.pointer (some pf))) np wd wc.heap.size I U S (wb.drop k) (.iface 40 (.pointer (some pe))) wr) (fun i _ => 4096 - (intOf i).toNat)
            case atStart => exact ⟨0, by omega, rfl, by rw [List.drop_zero]; exact hinv⟩
            case round =>
              obtain ⟨k, hk, rfl, hin⟩ := hrel
              clear hinv
              by_cases hlt2 : k < wb.length
              · obtain ⟨g, rfl, hcg⟩ := HCE.out k hlt2
                have hdr : wb.drop k = wb.getD k 0 :: wb.drop (k + 1) := by
                  rw [List.getD_eq_getElem?_getD, List.getElem?_eq_getElem hlt2]
                  exact List.drop_eq_getElem_cons hlt2
                rw [hdr] at hin
                have hcall := byte_cons wc _ cs _ np wd wc.heap.size I U S HX.out (wb.getD k 0) (wb.drop (k + 1)) _ ⟨40, pe, rfl⟩ wr hin
                clear hin hdr
                generalize wb.getD k 0 = b at hcall hcg
                go_wp2_with fail
                refine hcall.mono ?_
                rintro e w4 ⟨rfl, hin4⟩
                have hbel : Below wc.heap.size wc w4 := by
                  obtain ⟨_, _, _, _, _, _, _, hs, _⟩ := hin4
                  exact hs.1
                have hcg4 : w4.cell? ⟨g, k, none⟩ = some (.int .u8 b) := (hbel.cell (cell_lt hcg)).trans hcg
                have HI4 : Hid (Inv wc (.slice oa cs.length oc) cs (.iface 40 (.pointer (some pf))) np wd wc.heap.size I U S (wb.drop (k + 1)) (.iface 40 (.pointer (some pe))) w4) := hin4
                clear hcall hin4 hcg hbel
                go_wp2
                go_roundw
                case rel => exact ⟨k + 1, by omega, by go_num, HI4.out⟩
                case measure => simp [intOf]; omega
              · obtain rfl : k = wb.length := by omega
                rw [List.drop_length] at hin
                have HIN : Hid (Inv wc (.slice oa cs.length oc) cs (.iface 40 (.pointer (some pf))) np wd wc.heap.size I U S [] (.iface 40 (.pointer (some pe))) wr) := hin
                clear hin
                go_wp2
                go_loopw [124] (fun i wr => ∃ k : Nat, k ≤ 2 ∧ i = .int .i64 k ∧ Inv wc (.slice oa cs.length oc) cs (.iface 40 (.pointer (some pf))) np wd wc.heap.size I U S [] (.iface 40 (.pointer (some pe))) wr) (fun i _ => 2 - (intOf i).toNat)
                case atStart => exact ⟨0, by omega, rfl, HIN.out⟩
                case round =>
                  clear HIN
                  obtain ⟨k, hk2, rfl, hin⟩ := hrel
                  by_cases hlt3 : k < 2
                  · have hcall := byte_nil wc _ cs _ np wd wc.heap.size I U S HX.out _ ⟨40, pe, rfl⟩ wr hin
                    clear hin
                    go_wp2_with fail
                    refine hcall.mono ?_
                    rintro e w4 ⟨rfl, hin4⟩
                    have HI4 : Hid (Inv wc (.slice oa cs.length oc) cs (.iface 40 (.pointer (some pf))) np wd wc.heap.size I U S [] (.iface 40 (.pointer (some pe))) w4) := hin4
                    have hnq := neq_same pe
                    clear hcall hin4
                    go_wp2
                    go_roundw
                    case rel => exact ⟨k + 1, by omega, by go_num, HI4.out⟩
                    case measure => simp [intOf]; omega
                  · obtain rfl : k = 2 := by omega
                    have hbel : Below wc.heap.size wc wr := by
                      obtain ⟨_, _, _, _, _, _, _, hs, _⟩ := hin
                      exact hs.1
                    have hfin : Hid (Below w.heap.size w wr) := HBl.out.trans (hbel.mono HBl.out.size)
                    clear hbel hin
                    go_wp2
                    go_ret
                    exact ⟨rfl, hfin.out⟩

end Go.Proofs.YbulkpsqDoor.law

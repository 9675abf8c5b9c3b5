import Derived.Test.YbulkproDoorK4a
import Derived.Deep.DeepCutAuto
import Derived.Deep.OwnRows
namespace Go.Proofs.YbulkproDoor.law
open Go.ChangeShapes Go.WideShapes Go.ChangeAt Go.RowKit
set_option linter.unusedVariables false

def zN (n : Nat) : Array Value := Array.replicate n (.int .u8 0)
theorem digN (w : World) (n : Nat) (t : TypeId) : Dig (w.alloc (.cells (zN n) t)) w.heap.size (fun _ => .int .u8 0) n :=
  dig_of (t := t) (heap_alloc_new _ _) fun j hj => by unfold zN; rw [Array.getElem?_replicate, if_pos hj]

/-- The slice c, as it stands at each meeting. -/
def Ok (w wx : World) (v : Value) : Prop := ∃ (G L : Nat) (B : Nat → Int), v = .slice (some ⟨G, 0, none⟩) L L ∧ L ≤ 1024 ∧ Dig wx G (fun j => .int .u8 (B j)) L ∧ (∀ j, 0 ≤ B j ∧ B j ≤ 255) ∧ w.heap.size ≤ G ∧ G < wx.heap.size ∧ Below w.heap.size w wx

theorem isRow_of_dig {w : World} {G L : Nat} {B : Nat → Int} (h : Dig w G (fun j => .int .u8 (B j)) L) (hL : L ≤ 1024) (hB : ∀ j, 0 ≤ B j ∧ B j ≤ 255) : IsRow .u8 w (some ⟨G, 0, none⟩) L L ((List.range L).map B) := by
  refine .inr ⟨_, rfl, Nat.le_refl _, by unfold maxLen; omega, by simp, ?_, ?_⟩
  · intro i hi
    have hi' : i < L := by simpa using hi
    rw [Addr.add_lit, Nat.zero_add, (h i hi').1]
    simp [List.getD_eq_getElem?_getD, hi']
  · intro n hn
    obtain ⟨j, _, rfl⟩ := List.mem_map.1 hn
    have := hB j
    simp [Lit.wf, IntKind.min, IntKind.max, IntKind.signed, IntKind.bits]
    omega

theorem made_zN (n : Nat) : madeCells #[.int .u8 0] n = zN n := by
  apply Array.toList_inj.1
  rw [toList_madeCells_one]
  simp [zN]
theorem make_bytes (n : Nat) (h : n ≤ 1024) (w : World) : (Instr.makeSlice 24 (.int .i64 (n : Int)) (.int .i64 (n : Int))).run Ybad.prog w = .ok (.slice (some ⟨w.heap.size, 0, none⟩) n n) (w.alloc (.cells (zN n) 5)) := by
  rw [run_make_row' 24 5 (.int .u8 0) 1 Ybad.underlying24 info5 rfl .i64 .i64 n (by omega) (by omega) w, made_zN]
theorem make_108 (w : World) : (Instr.makeSlice 24 (.int .i64 108) (.int .i64 108)).run Ybad.prog w = .ok (.slice (some ⟨w.heap.size, 0, none⟩) 108 108) (w.alloc (.cells (zN 108) 5)) := make_bytes 108 (by omega) w

theorem ok_c2 {w W : World} {v : Value} (h : Ok w W v) : ∃ m W2, (Builtin.copy_ #[24, 24] 3 #[.slice (some ⟨W.heap.size, 0, none⟩) 108 108, v]).run Ybad.prog (W.alloc (.cells (zN 108) 5)) = .ok (goInt m) W2 ∧ Ok w W2 (.slice (some ⟨W.heap.size, 0, none⟩) 108 108) := by
  obtain ⟨G, L, B, rfl, hL, hD, hB, hG1, hG2, hb⟩ := h
  have bA : Below W.heap.size W (W.alloc (.cells (zN 108) 5)) := (Below.refl _ _).alloc (Nat.le_refl _) _
  have hr := isRow_below (isRow_of_dig hD hL hB) bA
  obtain ⟨m, W2, hcp, hK, hG⟩ := copy_blk W.heap.size L L 108 _ _ _ (digN W 108 5) hr
  have s2 : W.heap.size + 1 ≤ W2.heap.size := by have := hG.size; simp at this; omega
  have hs := hb.size
  exact ⟨m, W2, hcp, _, _, _, rfl, by omega, hK, blk_bd hr, by omega, by omega, (hb.trans (bA.mono hs)).grown hG (by simp; omega) (fun k hk => by cases hk; omega)⟩

theorem ok_head {w W : World} {G L : Nat} {B : Nat → Int} (h4 : 4 ≤ L) (hL : L ≤ 1024) (hD : Dig W G (fun j => .int .u8 (B j)) L) (hB : ∀ j, 0 ≤ B j ∧ B j ≤ 255) (hG1 : w.heap.size ≤ G) (hG2 : G < W.heap.size) (hb : Below w.heap.size w W) :
    Ok w ((((W.setCell ⟨G, 0, none⟩ (.int .u8 104)).setCell ⟨G, 1, none⟩ (.int .u8 119)).setCell ⟨G, 2, none⟩ (.int .u8 1)).setCell ⟨G, 3, none⟩ (.int .u8 2)) (.slice (some ⟨G, 0, none⟩) L L) := by
  refine ⟨G, L, fun j => if j = 3 then 2 else if j = 2 then 1 else if j = 1 then 119 else if j = 0 then 104 else B j, rfl, hL, ?_, ?_, hG1, by simpa using hG2, ?_⟩
  · refine ((((hD.set 0 (by omega) _).set 1 (by omega) _).set 2 (by omega) _).set 3 (by omega) _).congr fun j hj => ?_
    simp only [upd]
    split
    · rfl
    · split
      · rfl
      · split
        · rfl
        · split
          · rfl
          · rfl
  · intro j
    have := hB j
    simp only []
    split
    · omega
    · split
      · omega
      · split
        · omega
        · split <;> omega
  · exact hb.grown (grown_trans (grown_trans (grown_trans (grown_set _ _ _ _) (grown_set _ _ _ _)) (grown_set _ _ _ _)) (grown_set _ _ _ _)) hb.size (fun k hk => by cases hk; omega)

set_option maxHeartbeats 800000 in
set_option maxRecDepth 1000000 in
theorem chk256 (a : Option Addr) (len cap : Nat) (zs : List Int) (mode : Int) (w : World) (hm0 : 0 ≤ mode) (hm1 : mode ≤ 255) (hl : len ≤ 1024) (hr : IsRow .u8 w a len cap zs) (ht : Tab w) :
    Calls Ybad.prog 4 #[.slice a len cap, .int .u8 mode] w fun e w' => e = .returned (.bool true) ∧ Below w.heap.size w w' := by
  have bA : Below w.heap.size w (w.alloc (.cells (zN len) 5)) := (Below.refl _ _).alloc (Nat.le_refl _) _
  obtain ⟨m, W1, hcp, hK1, hG1⟩ := copy_blk w.heap.size len cap len a zs _ (digN w len 5) (isRow_below hr bA)
  have s1 : w.heap.size + 1 ≤ W1.heap.size := by have := hG1.size; simp at this; omega
  have b1 : Below w.heap.size w W1 := bA.grown hG1 (by simp) (fun k hk => by cases hk; omega)
  have hmk := make_bytes len hl
  have hok : Ok w W1 (.slice (some ⟨w.heap.size, 0, none⟩) len len) := ⟨_, _, blk zs len, rfl, hl, hK1, blk_bd hr, Nat.le_refl _, by omega, b1⟩
  have hr3 : 0 ≤ mode % 3 ∧ mode % 3 ≤ 2 := by omega
  go_enter Ybad.func4, Ybad.ntmps4
  go_upto_if 31 with fail
  clear hcp hmk hK1 hG1 bA b1
  go_cut [5] (fun v wx => Ok w wx v)
  case first =>
    by_cases h2 : mode % 3 = 2
    · obtain ⟨m2, W2, hcp2, hok2⟩ := ok_c2 hok
      have hmk2 := make_108
      go_wp2
      go_meet
      exact hok2
    · go_wp2
      go_meet
      exact hok
  case rest =>
    clear hok
    obtain ⟨G, L, B, rfl, hL, hD, hB, hG1, hG2, hb⟩ := hcut
    have HD : Hid (Dig wc G (fun j => .int .u8 (B j)) L) := hD
    have HB : Hid (∀ j, 0 ≤ B j ∧ B j ≤ 255) := hB
    clear hD hB
    go_upto_region 10 with fail
    go_cut [43] (fun v wx => wc = wx ∧ v = .bool (decide (1 ≤ mode % 3 ∧ 4 ≤ L)))
    case first =>
      by_cases h1 : 1 ≤ mode % 3
      · by_cases h4 : 4 ≤ L
        · go_wp2
          go_meet
          exact ⟨rfl, by simp [h1, h4]; omega⟩
        · go_wp2
          go_meet
          exact ⟨rfl, by simp [h1, h4]; omega⟩
      · go_wp2
        go_meet
        exact ⟨rfl, by simp; intro h; omega⟩
    case rest =>
      obtain ⟨rfl, rfl⟩ := hcut
      go_upto_if 43 with fail
      go_cut [5] (fun v wx => Ok w wx v)
      case first =>
        by_cases hq : 1 ≤ mode % 3 ∧ 4 ≤ L
        · have hd : decide (1 ≤ mode % 3 ∧ 4 ≤ L) = true := by simp [hq]
          have H := ok_head hq.2 hL HD.out HB.out hG1 hG2 hb
          have HO : Hid (Ok w ((((wc.setCell ⟨G, 0, none⟩ (.int .u8 104)).setCell ⟨G, 1, none⟩ (.int .u8 119)).setCell ⟨G, 2, none⟩ (.int .u8 1)).setCell ⟨G, 3, none⟩ (.int .u8 2)) (.slice (some ⟨G, 0, none⟩) L L)) := H
          clear H
          obtain ⟨hq1, hq4⟩ := hq
          obtain ⟨c0, f0⟩ := HD.out 0 (by omega)
          obtain ⟨c1, f1⟩ := HD.out 1 (by omega)
          obtain ⟨c2, f2⟩ := HD.out 2 (by omega)
          obtain ⟨c3, f3⟩ := HD.out 3 (by omega)
          have q0 : 0 < L := by omega
          have q1 : (1 : Int) < (L : Int) := by omega
          have q2 : (2 : Int) < (L : Int) := by omega
          have q3 : (3 : Int) < (L : Int) := by omega
          go_wp2
          go_meet
          exact HO.out
        · have hd : decide (1 ≤ mode % 3 ∧ 4 ≤ L) = false := by simp only [hq, decide_false]
          go_wp2
          go_meet
          exact ⟨G, L, B, rfl, hL, HD.out, HB.out, hG1, hG2, hb⟩
      case rest =>
        clear HD HB hL hG1 hG2 hb
        obtain ⟨G, L, B, rfl, hL, hD, hB, hG1, hG2, hb⟩ := hcut
        have HD : Hid (Dig wc G (fun j => .int .u8 (B j)) L) := hD
        have HB : Hid (∀ j, 0 ≤ B j ∧ B j ≤ 255) := hB
        clear hD hB
        go_upto_region 15 with fail
        go_cut [8] (fun v wx => wc = wx ∧ ∃ vb : Bool, v = .bool vb ∧ (vb = true ↔ L = 108 ∧ B 0 = 104 ∧ B 1 = 119 ∧ B 2 = 1 ∧ B 3 = 2))
        case first =>
          by_cases h108 : L = 108
          · subst h108
            have c0 : wc.cell? ⟨G, 0, none⟩ = some (.int .u8 (B 0)) := (HD.out 0 (by omega)).1
            have c1 : wc.cell? ⟨G, 1, none⟩ = some (.int .u8 (B 1)) := (HD.out 1 (by omega)).1
            have c2 : wc.cell? ⟨G, 2, none⟩ = some (.int .u8 (B 2)) := (HD.out 2 (by omega)).1
            have c3 : wc.cell? ⟨G, 3, none⟩ = some (.int .u8 (B 3)) := (HD.out 3 (by omega)).1
            by_cases h0 : B 0 = 104
            · rw [h0] at c0
              by_cases h1 : B 1 = 119
              · rw [h1] at c1
                by_cases h2 : B 2 = 1
                · rw [h2] at c2
                  by_cases h3 : B 3 = 2
                  · rw [h3] at c3
                    go_wp2
                    go_meet
                    exact ⟨rfl, _, rfl, by simp [h0, h1, h2, h3]⟩
                  · go_wp2
                    go_meet
                    exact ⟨rfl, _, rfl, by simp [h0, h1, h2, h3]⟩
                · go_wp2
                  go_meet
                  exact ⟨rfl, _, rfl, by simp [h0, h1, h2]⟩
              · go_wp2
                go_meet
                exact ⟨rfl, _, rfl, by simp [h0, h1]⟩
            · go_wp2
              go_meet
              exact ⟨rfl, _, rfl, by simp [h0]⟩
          · go_wp2
            go_meet
            exact ⟨rfl, _, rfl, by simp [h108]⟩
        case rest =>
          obtain ⟨rfl, vb, rfl, hvb⟩ := hcut
          have HV : Hid (vb = true ↔ L = 108 ∧ B 0 = 104 ∧ B 1 = 119 ∧ B 2 = 1 ∧ B 3 = 2) := hvb
          clear hvb
          go_upto_region 17 with fail
          have hmd := made32b wc
          unfold eight at hmd
          go_wp2_with fail
          refine hmd.mono ?_
          rintro e w4 ⟨rfl, hD4, hb4, hV4, hs4⟩
          clear hmd
          have hcs : G < w4.heap.size := by omega
          have hBD : Dig w4 G (fun j => .int .u8 (B j)) L := HD.out.below hb4 hG2
          have b4 : Below w.heap.size w w4 := hb.trans (hb4.mono hb.size)
          have nG : G ≠ wc.heap.size + 2 := by omega
          have nV : wc.heap.size + 1 ≠ wc.heap.size + 2 := by omega
          have lV : wc.heap.size + 1 < w4.heap.size := by omega
          have lD : w.heap.size ≤ wc.heap.size + 2 := by have := hb.size; omega
          generalize wc.heap.size + 2 = D at *
          generalize wc.heap.size + 1 = V at *
          have HS : Hid (Dig ((((w4.setCell ⟨D, 14, none⟩ (.int .u8 9)).setCell ⟨D, 79, none⟩ (.int .u8 3)).setCell ⟨D, 138, none⟩ (.int .u64 77)).setCell ⟨D, 137, none⟩ (.int .i64 13)) D (befF V) 139) := (((hD4.set 14 (by omega) _).set 79 (by omega) _).set 138 (by omega) _).set 137 (by omega) _
          have HG : Hid (w4.grownBy ((((w4.setCell ⟨D, 14, none⟩ (.int .u8 9)).setCell ⟨D, 79, none⟩ (.int .u8 3)).setCell ⟨D, 138, none⟩ (.int .u64 77)).setCell ⟨D, 137, none⟩ (.int .i64 13)) (some D)) := grown_trans (grown_trans (grown_trans (grown_set _ _ _ _) (grown_set _ _ _ _)) (grown_set _ _ _ _)) (grown_set _ _ _ _)
          obtain ⟨c0, f0⟩ := hD4 14 (by omega)
          obtain ⟨c1, f1⟩ := hD4 79 (by omega)
          obtain ⟨c2, f2⟩ := hD4 138 (by omega)
          obtain ⟨c3, f3⟩ := hD4 137 (by omega)
          have HB4 : Hid (Dig w4 G (fun j => .int .u8 (B j)) L) := hBD
          clear hD4 HD hBD
          go_upto_region 23 with fail
          clear c0 c1 c2 c3 f0 f1 f2 f3
          generalize (((w4.setCell ⟨D, 14, none⟩ (.int .u8 9)).setCell ⟨D, 79, none⟩ (.int .u8 3)).setCell ⟨D, 138, none⟩ (.int .u64 77)).setCell ⟨D, 137, none⟩ (.int .i64 13) = w5 at *
          have hBD : Dig w5 G (fun j => .int .u8 (B j)) L := dig_grown HB4.out HG.out hcs nG
          have hV5 : w5.cell? ⟨V, 0, none⟩ = some (.int .u8 2) := (grown_cell HG.out lV nV).trans hV4
          have b5 : Below w.heap.size w w5 := b4.grown HG.out b4.size (fun k hk => by cases hk; exact lD)
          have s5 : w4.heap.size ≤ w5.heap.size := HG.out.size
          obtain ⟨Gz, hE, hE7, bE7⟩ := before_dig (befF V) w5
          have HE : Hid (Dig (w5.alloc (.cells z40 40)) w5.heap.size Gz 139) := hE
          have H7 : Hid (Dig (puts (w5.alloc (.cells z40 40)) w5.heap.size 0 (row (befF V) 139)) w5.heap.size (befF V) 139) := hE7
          have B7 : Hid (Below w5.heap.size w5 (puts (w5.alloc (.cells z40 40)) w5.heap.size 0 (row (befF V) 139))) := bE7
          have HB5 : Hid (Dig w5 G (fun j => .int .u8 (B j)) L) := hBD
          clear hE hE7 bE7 hBD HB4 HG
          have hz := zero40
          have hne := z40_ne
          have hst := store_snap w5.heap.size (befF V) Gz _ HE.out (bef_shape V).one
          have hsz := snap_size (befF V)
          have B5 : Hid (Dig (puts (w5.alloc (.cells z40 40)) w5.heap.size 0 (row (befF V) 139)) D (befF V) 139) := HS.out.below B7.out (by omega)
          have B6 : Hid (Dig (puts (w5.alloc (.cells z40 40)) w5.heap.size 0 (row (befF V) 139)) G (fun j => .int .u8 (B j)) L) := HB5.out.below B7.out (by omega)
          have s6 : w5.heap.size ≤ (puts (w5.alloc (.cells z40 40)) w5.heap.size 0 (row (befF V) 139)).heap.size := B7.out.size
          have hV6 : (puts (w5.alloc (.cells z40 40)) w5.heap.size 0 (row (befF V) 139)).cell? ⟨V, 0, none⟩ = some (.int .u8 2) := (B7.out.cell (by show V < _; omega)).trans hV5
          have b6 : Below w.heap.size w (puts (w5.alloc (.cells z40 40)) w5.heap.size 0 (row (befF V) 139)) := b5.trans (B7.out.mono (by have := b5.size; omega))
          have t6 : Tab (puts (w5.alloc (.cells z40 40)) w5.heap.size 0 (row (befF V) 139)) := ht.below b6
          generalize puts (w5.alloc (.cells z40 40)) w5.heap.size 0 (row (befF V) 139) = w6 at hst H7 B7 B5 B6 s6 hV6 b6 t6
          go_upto_region 24 with (refine wpList_load40 rfl _ rfl D ?h1 (befF V) ?h2 ?h3; (case h1 => kernel_rfl); (case h2 => exact HS.out))
          clear hst hsz hz hne HE
          have lE : w5.heap.size < w6.heap.size := cell_lt (H7.out 0 (by omega)).1
          have d0 : w6.cell? ⟨D, 0, none⟩ = some (.pointer (some ⟨V, 0, none⟩)) := (B5.out 0 (by omega)).1
          have lG6 : G < w6.heap.size := by omega
          have lD6 : D < w6.heap.size := by omega
          have lV6 : V < w6.heap.size := by omega
          have nE : w5.heap.size ≠ D := by omega
          clear B7 HS HB5 hV4 hV5 hb4 b4 b5 hs4 hcs lV s5 s6
          generalize w5.heap.size = E at *
          clear w5
          cases vb
          · have hbad : ¬ (L = 108 ∧ B 0 = 104 ∧ B 1 = 119 ∧ B 2 = 1 ∧ B 3 = 2) := fun h => by have := HV.out.2 h; cases this
            have hun := unm32_bad D V G L L B w6 hL (Nat.le_refl _) (by omega) d0 hV6 (fun i _ => HB.out i) (fun i hi => (B6.out i hi).1) t6 hbad
            clear hbad
            go_wp2_with fail
            refine hun.mono ?_
            rintro e w7 ⟨p, rfl, hb7⟩
            have HD7 : Hid (Dig w7 D (befF V) 139) := B5.out.below hb7 lD6
            have HE7 : Hid (Dig w7 E (befF V) 139) := H7.out.below hb7 lE
            have b7 : Below w.heap.size w w7 := b6.trans (hb7.mono b6.size)
            clear hun B5 B6 H7 hV6 d0 t6
            go_upto_region 26 with fail
            refine wp_region_quiet_lit (by kernel_rfl) (by kernel_rfl) ?_
            go_big_quiet_step (fail)
            go_big_quiet_step (fail)
            go_big_quiet_step (fail)
            go_big_quiet_step (fail)
            go_big_quiet_step (fail)
            go_big_quiet_want
            refine quiet_load40 _ rfl D (by kernel_rfl) (befF V) (fun w' hw' => by obtain ⟨n, rfl⟩ := hw'; exact HD7.out) ?_
            go_big_quiet_on
            go_simp
            go_big_quiet_want
            refine quiet_load40 _ rfl E (by kernel_rfl) (befF V) (fun w' hw' => by obtain ⟨n, rfl⟩ := hw'; exact HE7.out) ?_
            go_big_quiet_on
            go_simp
            go_big_quiet_want
            refine quiet_eql40 _ _ _ rfl (befF V) (by kernel_rfl) (by kernel_rfl) (bef_shape V) ?_
            go_big_quiet_on
            go_simp
            go_big_quiet_step (fail)
            go_big_quiet_step (fail)
            refine wpQuiet_nil ?_
            intro nq
            go_wp2
            go_ret
            exact ⟨rfl, below_drewN b7 nq⟩
          · obtain ⟨rfl, v0, v1, v2, v3⟩ := HV.out.1 rfl
            have hun := unm32 D V G 108 (befF V) B w6 (by omega) (by omega) B5.out rfl nV lD6 lG6 lV6 nG hV6 (fun i _ => HB.out i) (fun i hi => (B6.out i hi).1) v0 v1 v2 v3
            clear v0 v1 v2 v3 HV
            go_wp2_with fail
            refine hun.mono ?_
            rintro e w7 ⟨rfl, hD7, hG7⟩
            have b7 : Below w.heap.size w w7 := b6.grown hG7 b6.size (fun k hk => by cases hk; exact lD)
            have HD7 : Hid (Dig w7 D (un32 (befF V) B) 139) := hD7
            have HE7 : Hid (Dig w7 E (befF V) 139) := dig_grown H7.out hG7 lE nE
            have HB7 : Hid (Dig w7 G (fun j => .int .u8 (B j)) 108) := dig_grown B6.out hG7 lG6 nG
            clear hun B5 B6 H7 hV6 d0 t6 hG7 hD7 hr
            have d0 : w7.cell? ⟨D, 0, none⟩ = some (.pointer (some ⟨V, 0, none⟩)) := (HD7.out 0 (by omega)).1.trans (congrArg some (un32_zero _ _))
            have hpn := pneq29 ⟨V, 0, none⟩
            go_wp2
            clear d0 hpn
            go_loopw [14] (fun i wr => ∃ k : Nat, k ≤ 8 ∧ i = .int .i64 k ∧ ∃ q, wr = w7.drewN q) (fun i _ => 8 - (intOf i).toNat)
            case atStart => exact ⟨0, by omega, rfl, 0, rfl⟩
            case round =>
              obtain ⟨k, hk, rfl, q, hq⟩ := hrel
              have HQ : Hid (wr = w7.drewN q) := hq
              clear hq
              by_cases hk2 : k < 8
              · have cd : wr.cell? ⟨D, 1 + k, none⟩ = some (.int .u32 (val4 (fun t => B (4 + 4 * k + t)))) := by
                  rw [HQ.out]; exact (HD7.out (1 + k) (by omega)).1.trans (congrArg some (un32_word _ _ k hk2))
                have hg : ∀ n, Calls Ybad.prog 10 #[.slice (some ⟨G, 4 + 4 * k, none⟩) (108 - (4 + 4 * k)) (108 - (4 + 4 * k))] (wr.drewN n) fun e w' => e = .returned (.int .u32 (val4 (fun t => B (4 + 4 * k + t)))) ∧ ∃ m, w' = wr.drewN m := fun n =>
                  (get32_any G (4 + 4 * k) (108 - (4 + 4 * k)) (108 - (4 + 4 * k)) (fun t => B (4 + 4 * k + t)) (wr.drewN n) (by omega) (fun i _ => HB.out _) (fun i hi => by rw [HQ.out]; exact (HB7.out (4 + 4 * k + i) (by omega)).1)).mono fun e w' ⟨h1, q2, h2⟩ => ⟨h1, n + q2, by rw [h2]; simp [World.drewN, Nat.add_assoc]⟩
                generalize val4 (fun t => B (4 + 4 * k + t)) = y at cd hg
                have n1 : ¬ (108 = 4 + 4 * k) := by omega
                have n2 : (4 : Int) + 4 * (k : Int) ≤ 108 := by omega
                go_wp2
                go_quiet ((go_at_call 10; exact hg _))
                go_wp2
                go_roundw
                case rel => exact ⟨k + 1, by omega, by go_num, q + nq, by rw [HQ.out, World.drewN_drewN]⟩
                case measure => simp [intOf]; omega
              · obtain rfl : k = 8 := by omega
                go_wp2
                go_loopw [15] (fun i wr => ∃ k : Nat, k ≤ 64 ∧ i = .int .i64 k ∧ ∃ q, wr = w7.drewN q) (fun i _ => 64 - (intOf i).toNat)
                case atStart => exact ⟨0, by omega, rfl, q, HQ.out⟩
                case round =>
                  clear HQ
                  obtain ⟨k, hk, rfl, q, hq⟩ := hrel
                  have HQ : Hid (wr = w7.drewN q) := hq
                  clear hq
                  by_cases hk2 : k < 64
                  · have cd : wr.cell? ⟨D, 9 + k, none⟩ = some (.int .u8 (B (36 + k))) := by
                      rw [HQ.out]; exact (HD7.out (9 + k) (by omega)).1.trans (congrArg some (un32_buf _ _ k hk2))
                    have cg : wr.cell? ⟨G, 36 + k, none⟩ = some (.int .u8 (B (36 + k))) := by
                      rw [HQ.out]; exact (HB7.out (36 + k) (by omega)).1
                    generalize B (36 + k) = y at cd cg
                    go_wp2
                    go_quiet (fail)
                    go_wp2
                    go_roundw
                    case rel => exact ⟨k + 1, by omega, by go_num, q + nq, by rw [HQ.out, World.drewN_drewN]⟩
                    case measure => simp [intOf]; omega
                  · obtain rfl : k = 64 := by omega
                    go_wp2
                    go_loopw [16] (fun i wr => ∃ k : Nat, 64 ≤ k ∧ k ≤ 128 ∧ i = .int .i64 k ∧ ∃ q, wr = w7.drewN q) (fun i _ => 128 - (intOf i).toNat)
                    case atStart => exact ⟨64, by omega, by omega, rfl, q, HQ.out⟩
                    case round =>
                      clear HQ
                      obtain ⟨k, hk1, hk, rfl, q, hq⟩ := hrel
                      have HQ : Hid (wr = w7.drewN q) := hq
                      clear hq
                      by_cases hk2 : k < 128
                      · obtain ⟨y, hy⟩ := (bef_shape V).2.2.1 k hk2
                        have cd : wr.cell? ⟨D, 9 + k, none⟩ = some (.int .u8 y) := by
                          rw [HQ.out]; exact (HD7.out (9 + k) (by omega)).1.trans (congrArg some ((un32_tail _ _ k hk1 hk2).trans hy))
                        have ce : wr.cell? ⟨E, 9 + k, none⟩ = some (.int .u8 y) := by
                          rw [HQ.out]; exact (HE7.out (9 + k) (by omega)).1.trans (congrArg some hy)
                        clear hy
                        go_wp2
                        go_quiet (fail)
                        go_wp2
                        go_roundw
                        case rel => exact ⟨k + 1, by omega, by omega, by go_num, q + nq, by rw [HQ.out, World.drewN_drewN]⟩
                        case measure => simp [intOf]; omega
                      · obtain rfl : k = 128 := by omega
                        have c8 : wr.cell? ⟨D, 138, none⟩ = some (.int .u64 (val8 (fun t => B (100 + t)))) := by
                          rw [HQ.out]; exact (HD7.out 138 (by omega)).1
                        have c7 : wr.cell? ⟨D, 137, none⟩ = some (.int .i64 (val8 (fun t => B (100 + t)) % 64)) := by
                          rw [HQ.out]; exact (HD7.out 137 (by omega)).1
                        have hg := get64_any G 100 8 8 (fun t => B (100 + t)) wr (by omega) (by omega) (by omega) (fun i _ => HB.out _) (fun i hi => by rw [HQ.out]; exact (HB7.out (100 + i) (by omega)).1)
                        obtain ⟨y0, y1⟩ := val8_bd (fun t => B (100 + t)) (fun i _ => HB.out _)
                        generalize val8 (fun t => B (100 + t)) = y at c8 c7 hg y0 y1
                        go_wp2_with fail
                        refine hg.mono ?_
                        rintro e w8 ⟨rfl, q2, rfl⟩
                        clear hg
                        go_wp2
                        go_ret
                        exact ⟨rfl, by rw [HQ.out, World.drewN_drewN]; exact below_drewN b7 _⟩

end Go.Proofs.YbulkproDoor.law

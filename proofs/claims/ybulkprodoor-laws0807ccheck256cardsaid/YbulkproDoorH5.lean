import Derived.Test.YbulkproDoorH4b
import Derived.Laws.BytesArg
namespace Go.Proofs.YbulkproDoor.law
open Go.ChangeShapes Go.WideShapes Go.ChangeAt Go.RowKit
set_option linter.unusedVariables false

theorem conv2 (g c : Nat) (a b : Int) (w : World) (ha : w.cell? ⟨g, 0, none⟩ = some (.int .u8 a)) (hb : w.cell? ⟨g, 1, none⟩ = some (.int .u8 b)) :
    (convert 24 9 (.slice (some ⟨g, 0, none⟩) 2 c)).run Ybad.prog w = .ok (.string (strOfNums [a, b])) w := by
  refine run_convert_bytes_arg (P := Ybad.prog) w 24 5 Ybad.underlying24 Ybad.underlying5 g 0 2 c [a, b] rfl (fun i hi => ?_) 9 Ybad.underlying9
  match i, hi with
  | 0, _ => exact ha
  | 1, _ => exact hb
theorem conv_hw (g c : Nat) (w : World) (ha : w.cell? ⟨g, 0, none⟩ = some (.int .u8 104)) (hb : w.cell? ⟨g, 1, none⟩ = some (.int .u8 119)) :
    (convert 24 9 (.slice (some ⟨g, 0, none⟩) 2 c)).run Ybad.prog w = .ok (.string ⟨#[104, 119]⟩) w := conv2 g c 104 119 w ha hb

theorem val8_bd (z : Nat → Int) (h : ∀ i, i < 8 → 0 ≤ z i ∧ z i ≤ 255) : 0 ≤ val8 z ∧ val8 z ≤ 18446744073709551615 := by
  have h0 := h 0 (by omega)
  have h1 := h 1 (by omega)
  have h2 := h 2 (by omega)
  have h3 := h 3 (by omega)
  have h4 := h 4 (by omega)
  have h5 := h 5 (by omega)
  have h6 := h 6 (by omega)
  have h7 := h 7 (by omega)
  unfold val8
  omega

/-- The digest that UnmarshalBinary leaves. -/
def un64 (F : Nat → Value) (B : Nat → Int) : Nat → Value :=
  upd (upd (over (rd64 F (fun i => B (4 + i)) 8) 9 (seg B 68 128)) 138 (.int .u64 (val8 (fun t => B (196 + t))))) 137 (.int .i64 (val8 (fun t => B (196 + t)) % 128))

set_option maxHeartbeats 400000 in
set_option maxRecDepth 1000000 in
theorem unm64 (D V g c : Nat) (F : Nat → Value) (B : Nat → Int) (w : World) (hc1 : 204 ≤ c) (hc2 : c ≤ 9223372036854775807) (hD : Dig w D F 139) (hF : F 0 = .pointer (some ⟨V, 0, none⟩)) (nV : V ≠ D) (lD : D < w.heap.size) (lg : g < w.heap.size) (lV : V < w.heap.size) (ne : g ≠ D)
    (hV : w.cell? ⟨V, 0, none⟩ = some (.int .u8 4)) (hz : ∀ i, i < 204 → 0 ≤ B i ∧ B i ≤ 255) (hB : ∀ i, i < 204 → w.cell? ⟨g, i, none⟩ = some (.int .u8 (B i)))
    (b0 : B 0 = 104) (b1 : B 1 = 119) (b2 : B 2 = 1) (b3 : B 3 = 4) :
    Calls Ybad.prog 13 #[.pointer (some ⟨D, 0, none⟩), .slice (some ⟨g, 0, none⟩) 204 c] w fun e w' => e = .returned .nilIface ∧ Dig w' D (un64 F B) 139 ∧ w.grownBy w' (some D) := by
  have k0 := hB 0 (by omega)
  have k1 := hB 1 (by omega)
  have k2 := hB 2 (by omega)
  have k3 := hB 3 (by omega)
  rw [b0] at k0; rw [b1] at k1; rw [b2] at k2; rw [b3] at k3
  have d0 := (hD 0 (by omega)).1
  rw [hF] at d0
  have HB : Hid (∀ i, i < 204 → w.cell? ⟨g, i, none⟩ = some (.int .u8 (B i))) := hB
  have HZ : Hid (∀ i, i < 204 → 0 ≤ B i ∧ B i ≤ 255) := hz
  have HD : Hid (Dig w D F 139) := hD
  clear hB hz hD b0 b1 b2 b3
  have hcv := conv_hw g c w k0 k1
  have hr : ∀ q, Calls Ybad.prog 23 #[.pointer (some ⟨D, 1, none⟩), .slice (some ⟨g, 4, none⟩) 200 (c - 4)] (w.drewN q) fun e w' => e = .returned (.slice (some ⟨g, 68, none⟩) 136 (c - 68)) ∧ Dig w' D (rd64 F (fun i => B (4 + i)) 8) 139 ∧ w.grownBy w' (some D) := fun q =>
    (readWords64 D g 4 200 (c - 4) 139 F (fun i => B (4 + i)) (w.drewN q) (by omega) (by omega) (by omega) (by omega) HD.out lD lg ne (fun i hi => HZ.out _ (by omega)) (fun i hi => HB.out _ (by omega))).mono
      fun e w' ⟨h1, h2, h3⟩ => ⟨by rw [h1, Nat.sub_sub], h2, ⟨h3.os, h3.tape, h3.output, h3.size, h3.block⟩⟩
  go_enter Ybad.func13, Ybad.ntmps13
  go_wp2
  go_quiet (fail)
  go_wp2_with (go_at_call 22; refine (stateSize64 _ _).mono ?_; rintro e w' ⟨rfl, rfl⟩)
  clear hcv k0 k1 k2 k3
  have n1 : ¬ (c = 4) := by omega
  have n2 : ¬ (c - 68 = 128) := by omega
  go_region_with (go_at_call 23; refine (hr (nq + 1)).mono ?_; rintro e w1 ⟨rfl, hD1, hG1⟩)
  have H1 : Hid (Dig w1 D (rd64 F (fun i => B (4 + i)) 8) 139) := hD1
  have G1 : Hid (w.grownBy w1 (some D)) := hG1
  clear hr hD1 hG1 HD
  go_wp2_with (go_at_call 24; refine (blockSize64 _ _).mono ?_; rintro e w1 ⟨rfl, rfl⟩)
  have hcp := run_copy_dig D 9 128 128 g 68 128 (c - 68) 139 (rd64 F (fun i => B (4 + i)) 8) (seg B 68 128) w1.drew H1.out (by rw [seg_len]; rfl) (by rw [seg_len]; omega) (seg_one _ _ _) (fun j v hj => by
    obtain ⟨hj1, rfl⟩ := seg_src hj
    exact (grown_cell G1.out lg ne).trans (HB.out _ (by omega)))
  rw [seg_len] at hcp
  have H2 : Hid (Dig (puts w1.drew D 9 (seg B 68 128)) D (over (rd64 F (fun i => B (4 + i)) 8) 9 (seg B 68 128)) 139) := Dig.puts _ H1.out (by rw [seg_len]; omega)
  have G2 : Hid (w.grownBy (puts w1.drew D 9 (seg B 68 128)) (some D)) := grown_trans G1.out (grown_trans (grown_below ((Below.refl _ w1).drew) _) (grown_puts _ _ _ _))
  generalize puts w1.drew D 9 (seg B 68 128) = w2 at hcp H2 G2
  go_region
  clear hcp H1 G1
  have hu : Calls Ybad.prog 20 #[.agg #[], .slice (some ⟨g, 196, none⟩) 8 (c - 196)] w2.drew fun e w' => e = .returned (.int .u64 (val8 (fun t => B (196 + t)))) ∧ Below w2.heap.size w2 w' :=
    (u64_any g 196 8 (c - 196) (fun t => B (196 + t)) w2.drew (by omega) (fun i hi => HZ.out _ (by omega)) (fun i hi => (grown_cell G2.out lg ne).trans (HB.out _ (by omega)))).mono fun e w' ⟨h1, h2⟩ => ⟨h1, ⟨h2.os, h2.tape, h2.output, h2.size, h2.block⟩⟩
  have hxb := val8_bd (fun t => B (196 + t)) (fun i hi => HZ.out _ (by omega))
  have lD2 : D < w2.heap.size := Nat.lt_of_lt_of_le lD G2.out.size
  generalize hx : val8 (fun t => B (196 + t)) = x at hu hxb
  have HX : Hid (val8 (fun t => B (196 + t)) = x) := hx
  clear hx
  obtain ⟨x0, x1⟩ := hxb
  have n3 : c - 68 - 128 = c - 196 := by omega
  go_wp2
  go_region_with (go_at_call 20; refine hu.mono ?_; rintro e w3 ⟨rfl, hb3⟩; obtain ⟨cD, fD⟩ := (H2.out.below hb3 lD2) 138 (by omega))
  have H3 := (H2.out.below hb3 lD2).set 138 (by omega) (.int .u64 x)
  have G3 : w.grownBy (w3.setCell ⟨D, 138, none⟩ (.int .u64 x)) (some D) := grown_trans G2.out (grown_trans (grown_below hb3 _) (grown_set _ _ _ _))
  obtain ⟨c8, f8⟩ := H3 138 (by omega)
  obtain ⟨c7, f7⟩ := H3 137 (by omega)
  have e8 : upd (over (rd64 F (fun i => B (4 + i)) 8) 9 (seg B 68 128)) 138 (.int .u64 x) 138 = .int .u64 x := if_pos rfl
  rw [e8] at c8
  have H4 := H3.set 137 (by omega) (.int .i64 (x % 128))
  have HR : Hid (Dig ((w3.setCell ⟨D, 138, none⟩ (.int .u64 x)).setCell ⟨D, 137, none⟩ (.int .i64 (x % 128))) D (un64 F B) 139) := by unfold un64; rw [HX.out]; exact H4
  have HG : Hid (w.grownBy ((w3.setCell ⟨D, 138, none⟩ (.int .u64 x)).setCell ⟨D, 137, none⟩ (.int .i64 (x % 128))) (some D)) := grown_trans G3 (grown_set _ _ _ _)
  clear H4 H3 G3 hu H2 G2 HB HZ HX e8 cD fD
  generalize w3.setCell ⟨D, 138, none⟩ (.int .u64 x) = w4 at *
  go_wp2
  go_ret
  exact ⟨rfl, HR.out, HG.out⟩

/-- The digest that UnmarshalBinary leaves. -/
def un32 (F : Nat → Value) (B : Nat → Int) : Nat → Value :=
  upd (upd (over (rd32 F (fun i => B (4 + i)) 8) 9 (seg B 36 64)) 138 (.int .u64 (val8 (fun t => B (100 + t))))) 137 (.int .i64 (val8 (fun t => B (100 + t)) % 64))

set_option maxHeartbeats 400000 in
set_option maxRecDepth 1000000 in
theorem unm32 (D V g c : Nat) (F : Nat → Value) (B : Nat → Int) (w : World) (hc1 : 108 ≤ c) (hc2 : c ≤ 9223372036854775807) (hD : Dig w D F 139) (hF : F 0 = .pointer (some ⟨V, 0, none⟩)) (nV : V ≠ D) (lD : D < w.heap.size) (lg : g < w.heap.size) (lV : V < w.heap.size) (ne : g ≠ D)
    (hV : w.cell? ⟨V, 0, none⟩ = some (.int .u8 2)) (hz : ∀ i, i < 108 → 0 ≤ B i ∧ B i ≤ 255) (hB : ∀ i, i < 108 → w.cell? ⟨g, i, none⟩ = some (.int .u8 (B i)))
    (b0 : B 0 = 104) (b1 : B 1 = 119) (b2 : B 2 = 1) (b3 : B 3 = 2) :
    Calls Ybad.prog 9 #[.pointer (some ⟨D, 0, none⟩), .slice (some ⟨g, 0, none⟩) 108 c] w fun e w' => e = .returned .nilIface ∧ Dig w' D (un32 F B) 139 ∧ w.grownBy w' (some D) := by
  have k0 := hB 0 (by omega)
  have k1 := hB 1 (by omega)
  have k2 := hB 2 (by omega)
  have k3 := hB 3 (by omega)
  rw [b0] at k0; rw [b1] at k1; rw [b2] at k2; rw [b3] at k3
  have d0 := (hD 0 (by omega)).1
  rw [hF] at d0
  have HB : Hid (∀ i, i < 108 → w.cell? ⟨g, i, none⟩ = some (.int .u8 (B i))) := hB
  have HZ : Hid (∀ i, i < 108 → 0 ≤ B i ∧ B i ≤ 255) := hz
  have HD : Hid (Dig w D F 139) := hD
  clear hB hz hD b0 b1 b2 b3
  have hcv := conv_hw g c w k0 k1
  have hr : ∀ q, Calls Ybad.prog 18 #[.pointer (some ⟨D, 1, none⟩), .slice (some ⟨g, 4, none⟩) 104 (c - 4)] (w.drewN q) fun e w' => e = .returned (.slice (some ⟨g, 36, none⟩) 72 (c - 36)) ∧ Dig w' D (rd32 F (fun i => B (4 + i)) 8) 139 ∧ w.grownBy w' (some D) := fun q =>
    (readWords32 D g 4 104 (c - 4) 139 F (fun i => B (4 + i)) (w.drewN q) (by omega) (by omega) (by omega) (by omega) HD.out lD lg ne (fun i hi => HZ.out _ (by omega)) (fun i hi => HB.out _ (by omega))).mono
      fun e w' ⟨h1, h2, h3⟩ => ⟨by rw [h1, Nat.sub_sub], h2, ⟨h3.os, h3.tape, h3.output, h3.size, h3.block⟩⟩
  go_enter Ybad.func9, Ybad.ntmps9
  go_wp2
  go_quiet (fail)
  go_wp2_with (go_at_call 17; refine (stateSize32 _ _).mono ?_; rintro e w' ⟨rfl, rfl⟩)
  clear hcv k0 k1 k2 k3
  have n1 : ¬ (c = 4) := by omega
  have n2 : ¬ (c - 36 = 64) := by omega
  go_region_with (go_at_call 18; refine (hr (nq + 1)).mono ?_; rintro e w1 ⟨rfl, hD1, hG1⟩)
  have H1 : Hid (Dig w1 D (rd32 F (fun i => B (4 + i)) 8) 139) := hD1
  have G1 : Hid (w.grownBy w1 (some D)) := hG1
  clear hr hD1 hG1 HD
  go_wp2_with (go_at_call 19; refine (blockSize32 _ _).mono ?_; rintro e w1 ⟨rfl, rfl⟩)
  have hcp := run_copy_dig D 9 128 128 g 36 64 (c - 36) 139 (rd32 F (fun i => B (4 + i)) 8) (seg B 36 64) w1.drew H1.out (by rw [seg_len]; rfl) (by rw [seg_len]; omega) (seg_one _ _ _) (fun j v hj => by
    obtain ⟨hj1, rfl⟩ := seg_src hj
    exact (grown_cell G1.out lg ne).trans (HB.out _ (by omega)))
  rw [seg_len] at hcp
  have H2 : Hid (Dig (puts w1.drew D 9 (seg B 36 64)) D (over (rd32 F (fun i => B (4 + i)) 8) 9 (seg B 36 64)) 139) := Dig.puts _ H1.out (by rw [seg_len]; omega)
  have G2 : Hid (w.grownBy (puts w1.drew D 9 (seg B 36 64)) (some D)) := grown_trans G1.out (grown_trans (grown_below ((Below.refl _ w1).drew) _) (grown_puts _ _ _ _))
  generalize puts w1.drew D 9 (seg B 36 64) = w2 at hcp H2 G2
  go_region
  clear hcp H1 G1
  have hu : Calls Ybad.prog 20 #[.agg #[], .slice (some ⟨g, 100, none⟩) 8 (c - 100)] w2.drew fun e w' => e = .returned (.int .u64 (val8 (fun t => B (100 + t)))) ∧ Below w2.heap.size w2 w' :=
    (u64_any g 100 8 (c - 100) (fun t => B (100 + t)) w2.drew (by omega) (fun i hi => HZ.out _ (by omega)) (fun i hi => (grown_cell G2.out lg ne).trans (HB.out _ (by omega)))).mono fun e w' ⟨h1, h2⟩ => ⟨h1, ⟨h2.os, h2.tape, h2.output, h2.size, h2.block⟩⟩
  have hxb := val8_bd (fun t => B (100 + t)) (fun i hi => HZ.out _ (by omega))
  have lD2 : D < w2.heap.size := Nat.lt_of_lt_of_le lD G2.out.size
  generalize hx : val8 (fun t => B (100 + t)) = x at hu hxb
  have HX : Hid (val8 (fun t => B (100 + t)) = x) := hx
  clear hx
  obtain ⟨x0, x1⟩ := hxb
  have n3 : c - 36 - 64 = c - 100 := by omega
  go_wp2
  go_region_with (go_at_call 20; refine hu.mono ?_; rintro e w3 ⟨rfl, hb3⟩; obtain ⟨cD, fD⟩ := (H2.out.below hb3 lD2) 138 (by omega))
  have H3 := (H2.out.below hb3 lD2).set 138 (by omega) (.int .u64 x)
  have G3 : w.grownBy (w3.setCell ⟨D, 138, none⟩ (.int .u64 x)) (some D) := grown_trans G2.out (grown_trans (grown_below hb3 _) (grown_set _ _ _ _))
  obtain ⟨c8, f8⟩ := H3 138 (by omega)
  obtain ⟨c7, f7⟩ := H3 137 (by omega)
  have e8 : upd (over (rd32 F (fun i => B (4 + i)) 8) 9 (seg B 36 64)) 138 (.int .u64 x) 138 = .int .u64 x := if_pos rfl
  rw [e8] at c8
  have H4 := H3.set 137 (by omega) (.int .i64 (x % 64))
  have HR : Hid (Dig ((w3.setCell ⟨D, 138, none⟩ (.int .u64 x)).setCell ⟨D, 137, none⟩ (.int .i64 (x % 64))) D (un32 F B) 139) := by unfold un32; rw [HX.out]; exact H4
  have HG : Hid (w.grownBy ((w3.setCell ⟨D, 138, none⟩ (.int .u64 x)).setCell ⟨D, 137, none⟩ (.int .i64 (x % 64))) (some D)) := grown_trans G3 (grown_set _ _ _ _)
  clear H4 H3 G3 hu H2 G2 HB HZ HX e8 cD fD
  generalize w3.setCell ⟨D, 138, none⟩ (.int .u64 x) = w4 at *
  go_wp2
  go_ret
  exact ⟨rfl, HR.out, HG.out⟩

end Go.Proofs.YbulkproDoor.law

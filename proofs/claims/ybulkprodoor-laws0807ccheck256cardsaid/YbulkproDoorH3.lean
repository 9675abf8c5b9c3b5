import Derived.Test.YbulkproDoorH2
import Derived.Deep.RegionWith
import Derived.Deep.QuietTactic
import Derived.BigQuiet
namespace Go.Proofs.YbulkproDoor.law
open Go.ChangeShapes Go.WideShapes Go.ChangeAt Go.RowKit
set_option linter.unusedVariables false

/-- Block D holds F, none of it frozen. -/
def Dig (w : World) (D : Nat) (F : Nat → Value) (N : Nat) : Prop := ∀ o, o < N → w.cell? ⟨D, o, none⟩ = some (F o) ∧ w.frozen? ⟨D, o, none⟩ = false

def upd (F : Nat → Value) (o : Nat) (v : Value) : Nat → Value := fun j => if j = o then v else F j

theorem Dig.set {w : World} {D N : Nat} {F : Nat → Value} (h : Dig w D F N) (o : Nat) (ho : o < N) (v : Value) : Dig (w.setCell ⟨D, o, none⟩ v) D (upd F o v) N := by
  intro j hj
  refine ⟨?_, by rw [World.frozen?_setCell]; exact (h j hj).2⟩
  unfold upd
  by_cases e : j = o
  · subst e
    rw [if_pos rfl]
    exact World.cell?_setCell_same _ _ _ (h j hj).1
  · rw [if_neg e, World.cell?_setCell_other _ _ _ _ (by intro e'; simp only [Addr.mk.injEq] at e'; omega)]
    exact (h j hj).1

theorem Dig.below {w w' : World} {D N B : Nat} {F : Nat → Value} (h : Dig w D F N) (hb : Below B w w') (hD : D < B) : Dig w' D F N :=
  fun j hj => ⟨(hb.cell (by exact hD)).trans (h j hj).1, (hb.frozen (by exact hD)).trans (h j hj).2⟩

theorem Dig.congr {w : World} {D N : Nat} {F G : Nat → Value} (h : Dig w D F N) (e : ∀ j, j < N → F j = G j) : Dig w D G N := fun j hj => by rw [← e j hj]; exact h j hj

theorem grown_trans {a b c : World} {r : Option Nat} (h : a.grownBy b r) (k : b.grownBy c r) : a.grownBy c r :=
  ⟨k.os.trans h.os, k.tape.trans h.tape, k.output.trans h.output, Nat.le_trans h.size k.size, fun i hi hr => (k.block i (Nat.lt_of_lt_of_le hi h.size) hr).trans (h.block i hi hr)⟩
theorem grown_set (w : World) (D o : Nat) (v : Value) : w.grownBy (w.setCell ⟨D, o, none⟩ v) (some D) :=
  ⟨rfl, rfl, rfl, by simp, fun k _ hr => Below.heap_setCell _ _ _ _ (by intro e; apply hr; rw [e])⟩
theorem grown_below {w w' : World} (h : Below w.heap.size w w') (r : Option Nat) : w.grownBy w' r := ⟨h.os, h.tape, h.output, h.size, fun k hk _ => h.block k hk⟩
theorem grown_cell {w w' : World} {D : Nat} (h : w.grownBy w' (some D)) {b o : Nat} (hb : b < w.heap.size) (hD : b ≠ D) : w'.cell? ⟨b, o, none⟩ = w.cell? ⟨b, o, none⟩ :=
  World.cell?_of_block (h.block b hb (by simpa using hD))
theorem grown_frozen {w w' : World} {D : Nat} (h : w.grownBy w' (some D)) {b o : Nat} (hb : b < w.heap.size) (hD : b ≠ D) : w'.frozen? ⟨b, o, none⟩ = w.frozen? ⟨b, o, none⟩ :=
  World.frozen?_of_block (h.block b hb (by simpa using hD))

theorem assert_no (a : Addr) (w : World) : (Instr.typeAssert (.iface 47 (.pointer (some a))) 20 30 true).run Ybad.prog w = .ok (.tuple #[.pointer none, .bool false]) w := by kernel_rfl
theorem assert_yes (a : Addr) (w : World) : (Instr.typeAssert (.iface 47 (.pointer (some a))) 20 47 true).run Ybad.prog w = .ok (.tuple #[.pointer (some a), .bool true]) w := by kernel_rfl
theorem assert_32 (a : Addr) (w : World) : (Instr.typeAssert (.iface 30 (.pointer (some a))) 20 30 true).run Ybad.prog w = .ok (.tuple #[.pointer (some a), .bool true]) w := by kernel_rfl

/-- The digest behind k words read. -/
def rd64 (F : Nat → Value) (B : Nat → Int) (k : Nat) : Nat → Value := fun j => if 1 ≤ j ∧ j < 1 + k then .int .u64 (val8 (fun t => B (8 * (j - 1) + t))) else F j

theorem rd64_succ (F : Nat → Value) (B : Nat → Int) (k j : Nat) : upd (rd64 F B k) (1 + k) (.int .u64 (val8 (fun t => B (8 * k + t)))) j = rd64 F B (k + 1) j := by
  unfold upd rd64
  by_cases e : j = 1 + k
  · subst e
    rw [if_pos rfl, if_pos ⟨by omega, by omega⟩]
    rw [Nat.add_sub_cancel_left]
  · rw [if_neg e]
    by_cases h : 1 ≤ j ∧ j < 1 + k
    · rw [if_pos h, if_pos ⟨h.1, by omega⟩]
    · rw [if_neg h, if_neg (by omega)]

theorem slice_step (g o n c m k : Nat) : Value.slice (some ⟨g, o + m * k + m, none⟩) (n - m * k - m) (c - m * k - m) = .slice (some ⟨g, o + m * (k + 1), none⟩) (n - m * (k + 1)) (c - m * (k + 1)) := by
  rw [Nat.mul_succ, Nat.add_assoc, Nat.sub_sub, Nat.sub_sub]

set_option maxHeartbeats 1600000 in
set_option maxRecDepth 1000000 in
theorem readWords64 (D g o n c N : Nat) (F : Nat → Value) (B : Nat → Int) (w : World) (hn : 64 < n) (hcn : n ≤ c) (hc2 : c ≤ 9223372036854775807) (hN : 9 ≤ N) (hD : Dig w D F N) (lD : D < w.heap.size) (lg : g < w.heap.size) (ne : g ≠ D)
    (hz : ∀ i, i < 64 → 0 ≤ B i ∧ B i ≤ 255) (hc : ∀ i, i < 64 → w.cell? ⟨g, o + i, none⟩ = some (.int .u8 (B i))) :
    Calls Ybad.prog 23 #[.pointer (some ⟨D, 1, none⟩), .slice (some ⟨g, o, none⟩) n c] w fun e w' => e = .returned (.slice (some ⟨g, o + 64, none⟩) (n - 64) (c - 64)) ∧ Dig w' D (rd64 F B 8) N ∧ w.grownBy w' (some D) := by
  go_enter Ybad.func23, Ybad.ntmps23
  have ta := assert_no ⟨D, 1, none⟩
  have tb := assert_yes ⟨D, 1, none⟩
  go_wp2
  go_loopw [1, 30] (fun v i wr => ∃ k : Nat, k ≤ 8 ∧ i = .int .i64 k ∧ v = .slice (some ⟨g, o + 8 * k, none⟩) (n - 8 * k) (c - 8 * k) ∧ Dig wr D (rd64 F B k) N ∧ w.grownBy wr (some D)) (fun _ i _ => 8 - (intOf i).toNat)
  case atStart => exact ⟨0, by omega, rfl, rfl, hD.congr (fun j hj => by unfold rd64; rw [if_neg (by omega)]), World.grownBy.refl _ _⟩
  case round =>
    obtain ⟨k, hk, rfl, rfl, hDr, hG⟩ := hrel
    clear ta tb
    by_cases hlt : k < 8
    · have hz8 : ∀ i, i < 8 → 0 ≤ (fun t => B (8 * k + t)) i ∧ (fun t => B (8 * k + t)) i ≤ 255 := fun i hi => hz _ (by omega)
      have hc8 : ∀ i, i < 8 → wr.cell? ⟨g, o + 8 * k + i, none⟩ = some (.int .u8 ((fun t => B (8 * k + t)) i)) := fun i hi => by
        rw [grown_cell hG lg ne, Nat.add_assoc]; exact hc (8 * k + i) (by omega)
      have hu : Calls Ybad.prog 20 #[.agg #[], .slice (some ⟨g, o + 8 * k, none⟩) (n - 8 * k) (c - 8 * k)] wr.drew fun e w' => e = .returned (.int .u64 (val8 (fun t => B (8 * k + t)))) ∧ Below wr.heap.size wr w' :=
        (u64_any g (o + 8 * k) (n - 8 * k) (c - 8 * k) (fun t => B (8 * k + t)) wr.drew (by omega) hz8 hc8).mono fun e w' ⟨h1, h2⟩ => ⟨h1, ⟨h2.os, h2.tape, h2.output, h2.size, h2.block⟩⟩
      have lDr : D < wr.heap.size := Nat.lt_of_lt_of_le lD hG.size
      clear hz8 hc8
      generalize hx : val8 (fun t => B (8 * k + t)) = x at hu
      have HX : Hid (val8 (fun t => B (8 * k + t)) = x) := hx
      clear hx
      go_wp2
      go_region_with (go_at_call 20; refine hu.mono ?_; rintro e w' ⟨rfl, hb'⟩; obtain ⟨cD, fD⟩ := (hDr.below hb' lDr) (1 + k) (by omega))
      have HD : Dig (w'.setCell ⟨D, 1 + k, none⟩ (.int .u64 x)) D (rd64 F B (k + 1)) N :=
        ((hDr.below hb' lDr).set (1 + k) (by omega) (.int .u64 x)).congr (fun j hj => by rw [← HX.out]; exact rd64_succ F B k j)
      have HG : w.grownBy (w'.setCell ⟨D, 1 + k, none⟩ (.int .u64 x)) (some D) := grown_trans hG (grown_trans (grown_below hb' _) (grown_set _ _ _ _))
      clear cD fD hu hDr hG hD hz hc
      have k1 : ¬ (c - 8 * k = 8) := by omega
      go_wp2
      go_roundw
      case rel => exact ⟨k + 1, by omega, by go_num, slice_step g o n c 8 k, HD, HG⟩
      case measure => simp [intOf]; omega
    · obtain rfl : k = 8 := by omega
      go_wp2
      go_ret
      exact ⟨rfl, hDr, hG⟩

/-- The digest behind k words read. -/
def rd32 (F : Nat → Value) (B : Nat → Int) (k : Nat) : Nat → Value := fun j => if 1 ≤ j ∧ j < 1 + k then .int .u32 (val4 (fun t => B (4 * (j - 1) + t))) else F j

theorem rd32_succ (F : Nat → Value) (B : Nat → Int) (k j : Nat) : upd (rd32 F B k) (1 + k) (.int .u32 (val4 (fun t => B (4 * k + t)))) j = rd32 F B (k + 1) j := by
  unfold upd rd32
  by_cases e : j = 1 + k
  · subst e
    rw [if_pos rfl, if_pos ⟨by omega, by omega⟩]
    rw [Nat.add_sub_cancel_left]
  · rw [if_neg e]
    by_cases h : 1 ≤ j ∧ j < 1 + k
    · rw [if_pos h, if_pos ⟨h.1, by omega⟩]
    · rw [if_neg h, if_neg (by omega)]

set_option maxHeartbeats 1600000 in
set_option maxRecDepth 1000000 in
theorem readWords32 (D g o n c N : Nat) (F : Nat → Value) (B : Nat → Int) (w : World) (hn : 32 < n) (hcn : n ≤ c) (hc2 : c ≤ 9223372036854775807) (hN : 9 ≤ N) (hD : Dig w D F N) (lD : D < w.heap.size) (lg : g < w.heap.size) (ne : g ≠ D)
    (hz : ∀ i, i < 32 → 0 ≤ B i ∧ B i ≤ 255) (hc : ∀ i, i < 32 → w.cell? ⟨g, o + i, none⟩ = some (.int .u8 (B i))) :
    Calls Ybad.prog 18 #[.pointer (some ⟨D, 1, none⟩), .slice (some ⟨g, o, none⟩) n c] w fun e w' => e = .returned (.slice (some ⟨g, o + 32, none⟩) (n - 32) (c - 32)) ∧ Dig w' D (rd32 F B 8) N ∧ w.grownBy w' (some D) := by
  go_enter Ybad.func18, Ybad.ntmps18
  have ta := assert_32 ⟨D, 1, none⟩
  go_wp2
  go_loopw [1, 14] (fun v i wr => ∃ k : Nat, k ≤ 8 ∧ i = .int .i64 k ∧ v = .slice (some ⟨g, o + 4 * k, none⟩) (n - 4 * k) (c - 4 * k) ∧ Dig wr D (rd32 F B k) N ∧ w.grownBy wr (some D)) (fun _ i _ => 8 - (intOf i).toNat)
  case atStart => exact ⟨0, by omega, rfl, rfl, hD.congr (fun j hj => by unfold rd32; rw [if_neg (by omega)]), World.grownBy.refl _ _⟩
  case round =>
    obtain ⟨k, hk, rfl, rfl, hDr, hG⟩ := hrel
    clear ta
    by_cases hlt : k < 8
    · have hz4 : ∀ i, i < 4 → 0 ≤ (fun t => B (4 * k + t)) i ∧ (fun t => B (4 * k + t)) i ≤ 255 := fun i hi => hz _ (by omega)
      have hc4 : ∀ i, i < 4 → wr.cell? ⟨g, o + 4 * k + i, none⟩ = some (.int .u8 ((fun t => B (4 * k + t)) i)) := fun i hi => by
        rw [grown_cell hG lg ne, Nat.add_assoc]; exact hc (4 * k + i) (by omega)
      have hu : Calls Ybad.prog 27 #[.agg #[], .slice (some ⟨g, o + 4 * k, none⟩) (n - 4 * k) (c - 4 * k)] wr.drew fun e w' => e = .returned (.int .u32 (val4 (fun t => B (4 * k + t)))) ∧ Below wr.heap.size wr w' :=
        (u32_any g (o + 4 * k) (n - 4 * k) (c - 4 * k) (fun t => B (4 * k + t)) wr.drew (by omega) hz4 hc4).mono fun e w' ⟨h1, h2⟩ => ⟨h1, ⟨h2.os, h2.tape, h2.output, h2.size, h2.block⟩⟩
      have lDr : D < wr.heap.size := Nat.lt_of_lt_of_le lD hG.size
      clear hz4 hc4
      generalize hx : val4 (fun t => B (4 * k + t)) = x at hu
      have HX : Hid (val4 (fun t => B (4 * k + t)) = x) := hx
      clear hx
      go_wp2
      go_region_with (go_at_call 27; refine hu.mono ?_; rintro e w' ⟨rfl, hb'⟩; obtain ⟨cD, fD⟩ := (hDr.below hb' lDr) (1 + k) (by omega))
      have HD : Dig (w'.setCell ⟨D, 1 + k, none⟩ (.int .u32 x)) D (rd32 F B (k + 1)) N :=
        ((hDr.below hb' lDr).set (1 + k) (by omega) (.int .u32 x)).congr (fun j hj => by rw [← HX.out]; exact rd32_succ F B k j)
      have HG : w.grownBy (w'.setCell ⟨D, 1 + k, none⟩ (.int .u32 x)) (some D) := grown_trans hG (grown_trans (grown_below hb' _) (grown_set _ _ _ _))
      clear cD fD hu hDr hG hD hz hc
      have k1 : ¬ (c - 4 * k = 4) := by omega
      go_wp2
      go_roundw
      case rel => exact ⟨k + 1, by omega, by go_num, slice_step g o n c 4 k, HD, HG⟩
      case measure => simp [intOf]; omega
    · obtain rfl : k = 8 := by omega
      go_wp2
      go_ret
      exact ⟨rfl, hDr, hG⟩

end Go.Proofs.YbulkproDoor.law

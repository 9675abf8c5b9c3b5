import Derived.Test.YbulkproDoorR2
namespace Go.Proofs.YbulkproDoor.law
open Go.ChangeShapes Go.WideShapes Go.ChangeAt Go.RowKit
set_option linter.unusedVariables false

theorem or_swap (k : IntKind) (x y : Int) : bits .or k x y = bits .or k y x := by simp only [bits, BitVec.or_comm]

theorem or4 (a b c d : Int) (ha : 0 ≤ a ∧ a ≤ 255) (hb : 0 ≤ b ∧ b ≤ 255) (hc : 0 ≤ c ∧ c ≤ 255) (hd : 0 ≤ d ∧ d ≤ 255) :
    bits .or .u32 (bits .or .u32 (bits .or .u32 (a * 16777216) (b * 65536)) (c * 256)) d = a * 16777216 + b * 65536 + c * 256 + d := by
  rw [or_swap .u32 (a * 16777216) (b * 65536), u32_or24 (y := b * 65536) (x := a * 16777216) (by omega) (by omega) (by omega) (by omega) (by omega)]
  rw [or_swap .u32 _ (c * 256), u32_or16 (y := c * 256) (x := b * 65536 + a * 16777216) (by omega) (by omega) (by omega) (by omega) (by omega)]
  rw [or_swap .u32 _ d, u32_or8 (y := d) (x := c * 256 + (b * 65536 + a * 16777216)) (by omega) (by omega) (by omega) (by omega) (by omega)]
  omega

theorem or2w (a b : Int) (ha : 0 ≤ a ∧ a ≤ 4294967295) (hb : 0 ≤ b ∧ b ≤ 4294967295) : bits .or .u64 (a * 4294967296) b = a * 4294967296 + b := by
  rw [or_swap .u64 (a * 4294967296) b, u64_or32 (y := b) (x := a * 4294967296) (by omega) (by omega) (by omega) (by omega) (by omega)]
  omega

theorem ret_of {k : IntKind} {a b : Int} (h : a = b) : Ending.returned (.int k a) = .returned (.int k b) := by rw [h]

theorem val4_bd (z : Nat → Int) (h : ∀ i, i < 4 → 0 ≤ z i ∧ z i ≤ 255) : 0 ≤ val4 z ∧ val4 z ≤ 4294967295 := by
  have h0 := h 0 (by omega)
  have h1 := h 1 (by omega)
  have h2 := h 2 (by omega)
  have h3 := h 3 (by omega)
  unfold val4
  omega

set_option maxHeartbeats 800000 in
set_option maxRecDepth 100000 in
theorem get32_any (g o n c : Nat) (z : Nat → Int) (w : World) (hn : 4 ≤ n) (hz : ∀ i, i < 4 → 0 ≤ z i ∧ z i ≤ 255) (hc : ∀ i, i < 4 → w.cell? ⟨g, o + i, none⟩ = some (.int .u8 (z i))) :
    Calls Ybad.prog 10 #[.slice (some ⟨g, o, none⟩) n c] w fun e w' => e = .returned (.int .u32 (val4 z)) ∧ ∃ q, w' = w.drewN q := by
  have c0 := hc 0 (by omega)
  have c1 := hc 1 (by omega)
  have c2 := hc 2 (by omega)
  have c3 := hc 3 (by omega)
  obtain ⟨a0, b0⟩ := hz 0 (by omega)
  obtain ⟨a1, b1⟩ := hz 1 (by omega)
  obtain ⟨a2, b2⟩ := hz 2 (by omega)
  obtain ⟨a3, b3⟩ := hz 3 (by omega)
  have q0 : 0 < n := by omega
  have q1 : (1 : Int) < (n : Int) := by omega
  have q2 : (2 : Int) < (n : Int) := by omega
  have q3 : (3 : Int) < (n : Int) := by omega
  have hv : val4 z = z 0 * 16777216 + z 1 * 65536 + z 2 * 256 + z 3 := rfl
  have HV : Hid (val4 z = z 0 * 16777216 + z 1 * 65536 + z 2 * 256 + z 3) := hv
  clear hv hc hz
  rw [Nat.add_zero] at c0
  go_enter Ybad.func10, Ybad.ntmps10
  go_wp2
  go_quiet (fail)
  go_wp2
  go_ret
  exact ⟨ret_of (by rw [HV.out]; exact or4 _ _ _ _ ⟨a0, b0⟩ ⟨a1, b1⟩ ⟨a2, b2⟩ ⟨a3, b3⟩), nq, rfl⟩

set_option maxHeartbeats 800000 in
set_option maxRecDepth 100000 in
theorem get64_any (g o n c : Nat) (z : Nat → Int) (w : World) (hn : 8 ≤ n) (hnc : n ≤ c) (hc2 : c ≤ 9223372036854775807) (hz : ∀ i, i < 8 → 0 ≤ z i ∧ z i ≤ 255) (hc : ∀ i, i < 8 → w.cell? ⟨g, o + i, none⟩ = some (.int .u8 (z i))) :
    Calls Ybad.prog 11 #[.slice (some ⟨g, o, none⟩) n c] w fun e w' => e = .returned (.int .u64 (val8 z)) ∧ ∃ q, w' = w.drewN q := by
  have hA : ∀ q, Calls Ybad.prog 10 #[.slice (some ⟨g, o, none⟩) n c] (w.drewN q) fun e w' => e = .returned (.int .u32 (val4 z)) ∧ ∃ m, w' = w.drewN m := fun q =>
    (get32_any g o n c z (w.drewN q) (by omega) (fun i hi => hz i (by omega)) (fun i hi => hc i (by omega))).mono fun e w' ⟨h1, q2, h2⟩ => ⟨h1, q + q2, by rw [h2]; simp [World.drewN, Nat.add_assoc]⟩
  have hB : ∀ q, Calls Ybad.prog 10 #[.slice (some ⟨g, o + 4, none⟩) (n - 4) (c - 4)] (w.drewN q) fun e w' => e = .returned (.int .u32 (val4 (fun i => z (4 + i)))) ∧ ∃ m, w' = w.drewN m := fun q =>
    (get32_any g (o + 4) (n - 4) (c - 4) (fun i => z (4 + i)) (w.drewN q) (by omega) (fun i hi => hz _ (by omega)) (fun i hi => by rw [Nat.add_assoc]; exact hc _ (by omega))).mono fun e w' ⟨h1, q2, h2⟩ => ⟨h1, q + q2, by rw [h2]; simp [World.drewN, Nat.add_assoc]⟩
  have bA := val4_bd z (fun i hi => hz i (by omega))
  have bB := val4_bd (fun i => z (4 + i)) (fun i hi => hz _ (by omega))
  have HV : Hid (val8 z = val4 z * 4294967296 + val4 (fun i => z (4 + i))) := by show _ = _; unfold val8 val4; simp only [Nat.reduceAdd]; omega
  obtain ⟨a0, a1⟩ := bA
  obtain ⟨b0, b1⟩ := bB
  clear hz hc
  generalize val4 z = x at *
  generalize val4 (fun i => z (4 + i)) = y at *
  have n1 : ¬ (c = 4) := by omega
  have n2 : (4 : Int) ≤ (n : Int) := by omega
  go_enter Ybad.func11, Ybad.ntmps11
  go_wp2
  go_quiet ((first | (go_at_call_of 10 (Value.slice (some ⟨g, o, none⟩) n c); exact hA _) | (go_at_call 10; exact hB _)))
  go_wp2
  go_ret
  exact ⟨ret_of (by rw [HV.out]; exact or2w _ _ ⟨a0, a1⟩ ⟨b0, b1⟩), nq, rfl⟩

end Go.Proofs.YbulkproDoor.law

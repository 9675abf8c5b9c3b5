import Derived.Test.YbulkproDoorH1
import Derived.Test.YbulkproDoorShelf
namespace Go.Proofs.YbulkproDoor.law
open Go.ChangeShapes Go.WideShapes Go.ChangeAt Go.RowKit
set_option linter.unusedVariables false

def val8 (z : Nat → Int) : Int := z 0 * 72057594037927936 + z 1 * 281474976710656 + z 2 * 1099511627776 + z 3 * 4294967296 + z 4 * 16777216 + z 5 * 65536 + z 6 * 256 + z 7
def val4 (z : Nat → Int) : Int := z 0 * 16777216 + z 1 * 65536 + z 2 * 256 + z 3

theorem val8_be8 (x : Int) (h0 : 0 ≤ x) (h1 : x ≤ 18446744073709551615) : val8 (fun i => (be8 x).getD i 0) = x := by
  simp only [val8, be8, List.getD_cons_zero, List.getD_cons_succ]
  omega
theorem val4_be4 (x : Int) (h0 : 0 ≤ x) (h1 : x ≤ 4294967295) : val4 (fun i => (be4 x).getD i 0) = x := by
  simp only [val4, be4, List.getD_cons_zero, List.getD_cons_succ]
  omega

theorem u8_of (z : Int) (h0 : 0 ≤ z) (h1 : z ≤ 255) : ((UInt8.ofNat z.toNat).toNat : Int) = z := by
  rw [UInt8.toNat_ofNat']
  omega

theorem u64_any (g o n c : Nat) (z : Nat → Int) (w : World) (hn : 8 ≤ n) (hz : ∀ i, i < 8 → 0 ≤ z i ∧ z i ≤ 255) (hc : ∀ i, i < 8 → w.cell? ⟨g, o + i, none⟩ = some (.int .u8 (z i))) :
    Calls Ybad.prog 20 #[.agg #[], .slice (some ⟨g, o, none⟩) n c] w fun e w' => e = .returned (.int .u64 (val8 z)) ∧ Below w.heap.size w w' := by
  have k : ∀ i, i < 8 → w.cell? ⟨g, o + i, none⟩ = some (.int .u8 ((UInt8.ofNat (z i).toNat).toNat : Int)) := fun i hi => by
    rw [u8_of _ (hz i hi).1 (hz i hi).2]; exact hc i hi
  refine (Ybad.binary_BE_Uint64 g o n c _ _ _ _ _ _ _ _ w hn (k 0 (by omega)) (k 1 (by omega)) (k 2 (by omega)) (k 3 (by omega)) (k 4 (by omega)) (k 5 (by omega)) (k 6 (by omega)) (k 7 (by omega))).mono ?_
  rintro e w' ⟨rfl, hb⟩
  refine ⟨?_, hb⟩
  have e0 := u8_of _ (hz 0 (by omega)).1 (hz 0 (by omega)).2
  have e1 := u8_of _ (hz 1 (by omega)).1 (hz 1 (by omega)).2
  have e2 := u8_of _ (hz 2 (by omega)).1 (hz 2 (by omega)).2
  have e3 := u8_of _ (hz 3 (by omega)).1 (hz 3 (by omega)).2
  have e4 := u8_of _ (hz 4 (by omega)).1 (hz 4 (by omega)).2
  have e5 := u8_of _ (hz 5 (by omega)).1 (hz 5 (by omega)).2
  have e6 := u8_of _ (hz 6 (by omega)).1 (hz 6 (by omega)).2
  have e7 := u8_of _ (hz 7 (by omega)).1 (hz 7 (by omega)).2
  have : ((Lib.beNat [UInt8.ofNat (z 0).toNat, UInt8.ofNat (z 1).toNat, UInt8.ofNat (z 2).toNat, UInt8.ofNat (z 3).toNat, UInt8.ofNat (z 4).toNat, UInt8.ofNat (z 5).toNat, UInt8.ofNat (z 6).toNat, UInt8.ofNat (z 7).toNat] : Nat) : Int) = val8 z := by
    simp only [Lib.beNat, Lib.beFrom, val8]
    omega
  rw [this]

theorem u32_any (g o n c : Nat) (z : Nat → Int) (w : World) (hn : 4 ≤ n) (hz : ∀ i, i < 4 → 0 ≤ z i ∧ z i ≤ 255) (hc : ∀ i, i < 4 → w.cell? ⟨g, o + i, none⟩ = some (.int .u8 (z i))) :
    Calls Ybad.prog 27 #[.agg #[], .slice (some ⟨g, o, none⟩) n c] w fun e w' => e = .returned (.int .u32 (val4 z)) ∧ Below w.heap.size w w' := by
  have k : ∀ i, i < 4 → w.cell? ⟨g, o + i, none⟩ = some (.int .u8 ((UInt8.ofNat (z i).toNat).toNat : Int)) := fun i hi => by
    rw [u8_of _ (hz i hi).1 (hz i hi).2]; exact hc i hi
  refine (Ybad.binary_BE_Uint32 g o n c _ _ _ _ w hn (k 0 (by omega)) (k 1 (by omega)) (k 2 (by omega)) (k 3 (by omega))).mono ?_
  rintro e w' ⟨rfl, hb⟩
  refine ⟨?_, hb⟩
  have e0 := u8_of _ (hz 0 (by omega)).1 (hz 0 (by omega)).2
  have e1 := u8_of _ (hz 1 (by omega)).1 (hz 1 (by omega)).2
  have e2 := u8_of _ (hz 2 (by omega)).1 (hz 2 (by omega)).2
  have e3 := u8_of _ (hz 3 (by omega)).1 (hz 3 (by omega)).2
  have : ((Lib.beNat [UInt8.ofNat (z 0).toNat, UInt8.ofNat (z 1).toNat, UInt8.ofNat (z 2).toNat, UInt8.ofNat (z 3).toNat] : Nat) : Int) = val4 z := by
    simp only [Lib.beNat, Lib.beFrom, val4]
    omega
  rw [this]

theorem len64_max (w : World) : Calls Ybad.prog 32 #[.int .u64 18446744073709551615] w fun e w' => e = .returned (.int .i64 64) ∧ w' = w :=
  (Ybad.bits_Len64 18446744073709551615 w (by omega) (by omega)).mono fun e w' ⟨he, hw⟩ => ⟨by rw [he]; rfl, hw⟩
theorem len64_u32 (w : World) : Calls Ybad.prog 32 #[.int .u64 4294967295] w fun e w' => e = .returned (.int .i64 32) ∧ w' = w :=
  (Ybad.bits_Len64 4294967295 w (by omega) (by omega)).mono fun e w' ⟨he, hw⟩ => ⟨by rw [he]; rfl, hw⟩

theorem wordBits64 (w : World) : Calls Ybad.prog 29 #[] w fun e w' => e = .returned (.int .i64 64) ∧ w' = w := by
  go_enter Ybad.func29, Ybad.ntmps29
  go_wp2_with (go_at_call 32; refine (len64_max _).mono ?_; rintro e w' ⟨rfl, rfl⟩)
  go_ret
  exact ⟨rfl, rfl⟩
theorem wordBits32 (w : World) : Calls Ybad.prog 26 #[] w fun e w' => e = .returned (.int .i64 32) ∧ w' = w := by
  go_enter Ybad.func26, Ybad.ntmps26
  go_wp2_with (go_at_call 32; refine (len64_u32 _).mono ?_; rintro e w' ⟨rfl, rfl⟩)
  go_ret
  exact ⟨rfl, rfl⟩
theorem blockLen64 (w : World) : Calls Ybad.prog 30 #[] w fun e w' => e = .returned (.int .i64 128) ∧ w' = w := by
  go_enter Ybad.func30, Ybad.ntmps30
  go_wp2_with (go_at_call 29; refine (wordBits64 _).mono ?_; rintro e w' ⟨rfl, rfl⟩)
  go_ret
  exact ⟨rfl, rfl⟩
theorem blockLen32 (w : World) : Calls Ybad.prog 28 #[] w fun e w' => e = .returned (.int .i64 64) ∧ w' = w := by
  go_enter Ybad.func28, Ybad.ntmps28
  go_wp2_with (go_at_call 26; refine (wordBits32 _).mono ?_; rintro e w' ⟨rfl, rfl⟩)
  go_ret
  exact ⟨rfl, rfl⟩
theorem blockSize64 (a : Value) (w : World) : Calls Ybad.prog 24 #[a] w fun e w' => e = .returned (.int .i64 128) ∧ w' = w := by
  go_enter Ybad.func24, Ybad.ntmps24
  go_wp2_with (go_at_call 30; refine (blockLen64 _).mono ?_; rintro e w' ⟨rfl, rfl⟩)
  go_ret
  exact ⟨rfl, rfl⟩
theorem blockSize32 (a : Value) (w : World) : Calls Ybad.prog 19 #[a] w fun e w' => e = .returned (.int .i64 64) ∧ w' = w := by
  go_enter Ybad.func19, Ybad.ntmps19
  go_wp2_with (go_at_call 28; refine (blockLen32 _).mono ?_; rintro e w' ⟨rfl, rfl⟩)
  go_ret
  exact ⟨rfl, rfl⟩
theorem stateSize64 (a : Value) (w : World) : Calls Ybad.prog 22 #[a] w fun e w' => e = .returned (.int .i64 204) ∧ w' = w := by
  go_enter Ybad.func22, Ybad.ntmps22
  go_wp2_with (first | (go_at_call 29; refine (wordBits64 _).mono ?_; rintro e w' ⟨rfl, rfl⟩) | (go_at_call 24; refine (blockSize64 _ _).mono ?_; rintro e w' ⟨rfl, rfl⟩))
  go_ret
  exact ⟨rfl, rfl⟩
theorem stateSize32 (a : Value) (w : World) : Calls Ybad.prog 17 #[a] w fun e w' => e = .returned (.int .i64 108) ∧ w' = w := by
  go_enter Ybad.func17, Ybad.ntmps17
  go_wp2_with (first | (go_at_call 26; refine (wordBits32 _).mono ?_; rintro e w' ⟨rfl, rfl⟩) | (go_at_call 19; refine (blockSize32 _ _).mono ?_; rintro e w' ⟨rfl, rfl⟩))
  go_ret
  exact ⟨rfl, rfl⟩

end Go.Proofs.YbulkproDoor.law

import Derived.Test.YbulkpqmC1
import Derived.Deep.RegionWith
import Derived.Lib.Bytealg
namespace Go.Proofs.Ybulkpqm.lawC
open Go.ChangeShapes Go.WideShapes Go.ChangeAt Go.RowKit
set_option linter.unusedVariables false

/-- cmp.Compare on two numbers. -/
def cmpI (x y : Int) : Int := if x < y then -1 else if y < x then 1 else 0

set_option maxHeartbeats 400000 in
theorem isNaN_any (x : Int) (w : World) : Calls Yba.prog 29 #[.int .i32 x] w fun e w' => e = .returned (.bool false) ∧ w' = w := by
  have h : (x != x) = false := by simp
  go_enter Yba.func29, Yba.ntmps29
  go_wp2
  go_ret
  exact ⟨rfl, rfl⟩

set_option maxHeartbeats 400000 in
theorem compare_any (x y : Int) (w : World) : Calls Yba.prog 25 #[.int .i32 x, .int .i32 y] w fun e w' => e = .returned (.int .i64 (cmpI x y)) ∧ w' = w := by
  unfold cmpI
  by_cases h1 : x < y
  · rw [if_pos h1]
    go_enter Yba.func25, Yba.ntmps25
    go_wp2_with (go_at_call 29; refine (isNaN_any _ _).mono ?_; rintro e w' ⟨rfl, rfl⟩)
    go_ret
    exact ⟨rfl, rfl⟩
  · rw [if_neg h1]
    by_cases h2 : y < x
    · rw [if_pos h2]
      go_enter Yba.func25, Yba.ntmps25
      go_wp2_with (go_at_call 29; refine (isNaN_any _ _).mono ?_; rintro e w' ⟨rfl, rfl⟩)
      go_ret
      exact ⟨rfl, rfl⟩
    · rw [if_neg h2]
      go_enter Yba.func25, Yba.ntmps25
      go_wp2_with (go_at_call 29; refine (isNaN_any _ _).mono ?_; rintro e w' ⟨rfl, rfl⟩)
      go_ret
      exact ⟨rfl, rfl⟩

/-- cmp.Or of two. -/
def or2 (x y : Int) : Int := if x = 0 then y else x

set_option maxHeartbeats 400000 in
theorem or_first (b : Nat) (x : Int) (w : World) (hx : x ≠ 0) (h0 : w.cell? ⟨b, 0, none⟩ = some (.int .i64 x)) :
    Calls Yba.prog 24 #[.slice (some ⟨b, 0, none⟩) 2 2] w fun e w' => e = .returned (.int .i64 x) ∧ w' = w := by
  have hx' : (x != 0) = true := by simpa using hx
  go_enter Yba.func24, Yba.ntmps24
  go_wp2
  refine wp_loop_rounds 1 ?_
  rw [rounds_succ]
  go_wp2
  go_ret
  exact ⟨rfl, rfl⟩

set_option maxHeartbeats 800000 in
theorem or_second (b : Nat) (y : Int) (w : World) (h0 : w.cell? ⟨b, 0, none⟩ = some (.int .i64 0)) (h1 : w.cell? ⟨b, 1, none⟩ = some (.int .i64 y)) :
    Calls Yba.prog 24 #[.slice (some ⟨b, 0, none⟩) 2 2] w fun e w' => e = .returned (.int .i64 y) ∧ w' = w := by
  by_cases hy : y = 0
  · subst hy
    go_enter Yba.func24, Yba.ntmps24
    go_wp2
    refine wp_loop_rounds 3 ?_
    rw [rounds_succ]
    go_wp2
    rw [rounds_succ]
    go_wp2
    rw [rounds_succ]
    go_wp2
    go_ret
    exact ⟨rfl, rfl⟩
  · have hy' : (y != 0) = true := by simpa using hy
    go_enter Yba.func24, Yba.ntmps24
    go_wp2
    refine wp_loop_rounds 2 ?_
    rw [rounds_succ]
    go_wp2
    rw [rounds_succ]
    go_wp2
    go_ret
    exact ⟨rfl, rfl⟩

theorem or_any (b : Nat) (x y : Int) (w : World) (h0 : w.cell? ⟨b, 0, none⟩ = some (.int .i64 x)) (h1 : w.cell? ⟨b, 1, none⟩ = some (.int .i64 y)) :
    Calls Yba.prog 24 #[.slice (some ⟨b, 0, none⟩) 2 2] w fun e w' => e = .returned (.int .i64 (or2 x y)) ∧ w' = w := by
  unfold or2
  by_cases hx : x = 0
  · subst hx
    rw [if_pos rfl]
    exact or_second b y w h0 h1
  · rw [if_neg hx]
    exact or_first b x w hx h0

theorem or_new (W : World) (x y : Int) : Calls Yba.prog 24 #[.slice (some ⟨W.heap.size, 0, none⟩) 2 2] (W.alloc (.cells #[.int .i64 x, .int .i64 y] 3)).drew fun e w' => e = .returned (.int .i64 (or2 x y)) ∧ w' = (W.alloc (.cells #[.int .i64 x, .int .i64 y] 3)).drew :=
  or_any _ _ _ _ (by show (W.alloc _).cell? _ = _; simp) (by show (W.alloc _).cell? _ = _; simp)

/-- strings.Compare on bytes. -/
def cmpS (a b : ByteArray) : Int := Lib.compareBytes a.data.toList b.data.toList

set_option maxHeartbeats 1000000 in
set_option maxRecDepth 100000 in
theorem compareString_any (a b : ByteArray) (w : World) :
    Calls Yba.prog 26 #[.string a, .string b] w fun e w' => e = .returned (.int .i64 (cmpS a b)) ∧ w' = w := by
  go_enter Yba.func26, Yba.ntmps26
  go_wp2
  rw [run_callFunc_extern Yba.func30 (by kernel_rfl) (by kernel_rfl) (by kernel_rfl) (e := Extern.BytealgCompare.compare) (by kernel_rfl), Lib.run_compareString]
  simp only [Result.andThen]
  rw [Oper.upon_value]
  go_wp2
  go_ret
  exact ⟨rfl, rfl⟩

set_option maxHeartbeats 1000000 in
theorem stringsCompare_any (a b : ByteArray) (w : World) :
    Calls Yba.prog 21 #[.string a, .string b] w fun e w' => e = .returned (.int .i64 (cmpS a b)) ∧ w' = w := by
  go_enter Yba.func21, Yba.ntmps21
  go_wp2_with (go_at_call 26; refine (compareString_any _ _ _).mono ?_; rintro e w' ⟨rfl, rfl⟩)
  go_ret
  exact ⟨rfl, rfl⟩

/-- byName's comparison. -/
def cf (f : Nat → ByteArray) (i j : Nat) : Int := or2 (cmpS (f i) (f j)) (cmpI i j)

set_option maxHeartbeats 2000000 in
set_option maxRecDepth 100000 in
theorem closure_any (V M c i j : Nat) (f : Nat → ByteArray) (W : World) (hc : c ≤ 63) (hV : W.cell? ⟨V, 0, none⟩ = some (.slice (some ⟨M, 0, none⟩) c c)) (hM : Mem W M f c) (hi : i < c) (hj : j < c) :
    Calls Yba.prog 23 #[.int .i32 i, .int .i32 j, .pointer (some ⟨V, 0, none⟩)] W fun e w' => e = .returned (.int .i64 (cf f i j)) ∧ ∃ n o, w' = (W.alloc o).drewN n := by
  have ci := (hM i hi).1
  have cj := (hM j hj).1
  clear hM
  go_enter Yba.func23, Yba.ntmps23
  go_wp2
  go_region_with (first
    | (go_at_call 21; refine (stringsCompare_any _ _ _).mono ?_; rintro e w' ⟨rfl, rfl⟩)
    | (go_at_call 25; refine (compare_any _ _ _).mono ?_; rintro e w' ⟨rfl, rfl⟩)
    | (go_at_call 24; refine (or_new W (cmpS (f i) (f j)) (cmpI i j)).mono ?_; rintro e w' ⟨rfl, rfl⟩))
  all_goals (go_wp2; go_ret; exact ⟨rfl, 1, _, rfl⟩)

end Go.Proofs.Ybulkpqm.lawC

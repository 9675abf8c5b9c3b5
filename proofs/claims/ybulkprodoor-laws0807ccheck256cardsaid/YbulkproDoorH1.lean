import Derived.Test.YbulkproDoorRows
import Derived.WalkKit
import Derived.ProofKit
import Derived.OpenShut
import Derived.ShutString
import Derived.ChangeOld
import Derived.Below
import Derived.WalkLawsBesides
namespace Go.Proofs.YbulkproDoor.law
open Go.ChangeShapes Go.WideShapes Go.ChangeAt Go.RowKit
set_option linter.unusedVariables false

theorem info5 : (Ybad.prog.info? 5).map (fun i => (i.zero, i.size, i.bytes)) = some (some (.int .u8 0), 1, 1) := by kernel_rfl

theorem own_ge {w : World} {B e sz n : Nat} {v : Value} {xs : List Value} (h : w.ownsRow B e sz v n xs) {k : Nat} (hk : v.ownBlock = some k) : B ≤ k := by
  obtain ⟨_, ⟨rfl, _⟩ | ⟨g, cap, cur, rfl, hg, _⟩⟩ := h
  · simp [Value.ownBlock] at hk
  · simp [Value.ownBlock] at hk; omega

/-- The eight bytes of a uint64, the greatest first. -/
def be8 (x : Int) : List Int := [x / 72057594037927936, x / 281474976710656 % 256, x / 1099511627776 % 256, x / 4294967296 % 256, x / 16777216 % 256, x / 65536 % 256, x / 256 % 256, x % 256]
def be4 (x : Int) : List Int := [x / 16777216, x / 65536 % 256, x / 256 % 256, x % 256]
def by8 (l : List Int) : List Value := l.map (Value.int .u8)

theorem by8_one (l : List Int) : ∀ u ∈ by8 l, u.oneCell' = true := by
  intro u hu
  obtain ⟨x, _, rfl⟩ := List.mem_map.1 hu
  rfl

theorem new_cells (w : World) (l : List Value) (t : TypeId) : ∀ j u, l[j]? = some u → (w.alloc (.cells l.toArray t)).cell? ((⟨w.heap.size, 0, none⟩ : Addr).add j) = some u := by
  intro j u hj
  rw [Addr.add_lit, Nat.zero_add]
  have := heap_alloc_new w (.cells l.toArray t)
  simp only [World.cell?, this]
  simpa using hj

set_option maxHeartbeats 800000 in
set_option maxRecDepth 1000000 in
theorem put64_any (B : Nat) (v : Value) (n : Nat) (xs : List Value) (x : Int) (w : World) (h0 : 0 ≤ x) (h1 : x ≤ 18446744073709551615) (hn : n ≤ 1000) (ho : w.ownsRow B 5 1 v n xs) (hB : B ≤ w.heap.size) :
    Calls Ybad.prog 7 #[v, .int .u64 x] w fun e w' => ∃ v', e = .returned v' ∧ w'.ownsRow B 5 1 v' (n + 8) (xs ++ by8 (be8 x)) ∧ Below B w w' := by
  obtain ⟨i0, hi, hz0, hz1, hz2⟩ := info_parts info5
  have hnew := new_cells w (by8 (be8 x)) 5
  go_enter Ybad.func7, Ybad.ntmps7
  go_wp2_with (at_builtin; refine wpList_append_own _ rfl (.tmp 5) (.tmp 29) 24 rfl B 5 i0 (.int .u8 0) 1 1 Ybad.underlying24 hi hz0 hz1 hz2 rfl (by decide) _ _ _ rfl (ho.alloc _) ⟨w.heap.size, 0, none⟩ 8 8 (by8 (be8 x)) rfl rfl hnew (by8_one _) ?c3 ?c4 ?c5 ?_)
  case c3 => unfold maxLen; omega
  case c4 => omega
  case c5 => simp; omega
  intro v' w1 hown' hgrow _
  go_wp2
  go_ret
  refine ⟨v', rfl, hown', ((Below.refl B w).alloc hB _).grown hgrow (by simp; omega) ?_⟩
  intro k hk
  exact own_ge ho hk

set_option maxHeartbeats 800000 in
set_option maxRecDepth 1000000 in
theorem put32_any (B : Nat) (v : Value) (n : Nat) (xs : List Value) (x : Int) (w : World) (h0 : 0 ≤ x) (h1 : x ≤ 4294967295) (hn : n ≤ 1000) (ho : w.ownsRow B 5 1 v n xs) (hB : B ≤ w.heap.size) :
    Calls Ybad.prog 6 #[v, .int .u32 x] w fun e w' => ∃ v', e = .returned v' ∧ w'.ownsRow B 5 1 v' (n + 4) (xs ++ by8 (be4 x)) ∧ Below B w w' := by
  obtain ⟨i0, hi, hz0, hz1, hz2⟩ := info_parts info5
  have hnew := new_cells w (by8 (be4 x)) 5
  go_enter Ybad.func6, Ybad.ntmps6
  go_wp2_with (at_builtin; refine wpList_append_own _ rfl _ _ 24 rfl B 5 i0 (.int .u8 0) 1 1 Ybad.underlying24 hi hz0 hz1 hz2 rfl (by decide) _ _ _ rfl (ho.alloc _) ⟨w.heap.size, 0, none⟩ 4 4 (by8 (be4 x)) rfl rfl hnew (by8_one _) ?c3 ?c4 ?c5 ?_)
  case c3 => unfold maxLen; omega
  case c4 => omega
  case c5 => simp; omega
  intro v' w1 hown' hgrow _
  go_wp2
  go_ret
  refine ⟨v', rfl, hown', ((Below.refl B w).alloc hB _).grown hgrow (by simp; omega) ?_⟩
  intro k hk
  exact own_ge ho hk

end Go.Proofs.YbulkproDoor.law

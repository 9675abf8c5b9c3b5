import Derived.Test.YbulkpqmC3
import Derived.Test.YbulkpqmShelf
namespace Go.Proofs.Ybulkpqm.lawC
open Go.ChangeShapes Go.WideShapes Go.ChangeAt Go.RowKit Go.Lib Go.Sort Go.Shelf
set_option linter.unusedVariables false

theorem info21 : (Yba.prog.info? 21).map (fun i => (i.zero, i.size, i.bytes)) = some (some (.int .i32 0), 1, 4) := by kernel_rfl

/-- The sort, at our closure. -/
theorem sort_any (V M R c : Nat) (f : Nat → ByteArray) (w : World) (h0 : 0 < c) (hc : c ≤ 63) (hV : w.cell? ⟨V, 0, none⟩ = some (.slice (some ⟨M, 0, none⟩) c c)) (hM : Mem w M f c)
    (lV : V < w.heap.size) (lM : M < w.heap.size) (lR : R < w.heap.size) (nV : V ≠ R) (nM : M ≠ R) (hI : Idn w R c) (hr : Room1 w R c) :
    Calls Yba.prog 22 #[.slice (some ⟨R, 0, none⟩) c c, .func (.func 23) #[] #[.pointer (some ⟨V, 0, none⟩)]] w fun e w' => e = .returned (.tuple #[]) ∧
      ∃ d, Ord f c (fun k => d[k]!) ∧ d.size = c ∧ Holds (encN c) w' R 0 d ∧ Go.RowKit.Below R w w' := by
  have eg : ∀ args w, (callFunc 23 args).run Yba.prog w = .ok (.enter 23 args) w := enters_of Yba.func23 (by kernel_rfl) rfl
  have hH := holds_id hI hr
  have hcon := Any.slices_SortFunc Yba.sortF (encN c) (fun _ => rfl) (cfN f c) (swoN f c) 23 #[.pointer (some ⟨V, 0, none⟩)] R 0 c (Array.range c) w eg
    (by rw [Array.size_range]; exact cmpLays V M R c f w h0 hc hV hM lV lM nV nM) hH lR (by rw [Array.size_range]; omega)
  change Calls Yba.prog 22 _ _ _ at hcon
  rw [Array.size_range] at hcon
  refine hcon.mono ?_
  rintro e w' ⟨he, d, n, os, hp, hs, hw⟩
  obtain ⟨hO, hsz⟩ := ord_of hp hs
  exact ⟨he, d, hO, hsz, by rw [hw]; exact holds_sortWorld (encN c) w R 0 n _ d os lR hH (by rw [hsz, Array.size_range]), by rw [hw]; exact below_sortWorld (Nat.le_refl _) lR⟩

set_option maxHeartbeats 1600000 in
set_option maxRecDepth 1000000 in
theorem byName_any (M c : Nat) (f : Nat → ByteArray) (w : World) (h0 : 0 < c) (hc : c ≤ 63) (hM : Mem w M f c) (lM : M < w.heap.size) :
    Calls Yba.prog 18 #[.slice (some ⟨M, 0, none⟩) c c] w fun e w' => ∃ R d, w.heap.size ≤ R ∧ R < w'.heap.size ∧ e = .returned (.slice (some ⟨R, 0, none⟩) c c) ∧ Ord f c (fun k => d[k]!) ∧ d.size = c ∧ Holds (encN c) w' R 0 d ∧ Go.RowKit.Below w.heap.size w w' := by
  obtain ⟨i0, hi, hz0, hz1, hz2⟩ := info_parts info21
  go_enter Yba.func18, Yba.ntmps18
  go_wp2_with (at_make; refine wpList_make_full _ rfl _ _ 26 rfl w.heap.size 21 i0 _ 1 Yba.underlying26 hi hz0 hz1 _ _ _ _ c rfl rfl (by omega) (by omega) ?b2 ?b3 ?b4 ?_)
  case b2 => rw [hz2]; omega
  case b3 => unfold maxLen; omega
  case b4 => simp
  intro w0 hown0 hgrow0
  obtain ⟨wA, hwA⟩ : ∃ wA, wA = w.alloc (.cells #[.slice (some ⟨M, 0, none⟩) c c] 44) := ⟨_, rfl⟩
  rw [← hwA] at hgrow0
  have sA : wA.heap.size = w.heap.size + 1 := by rw [hwA]; simp
  have bA : Go.RowKit.Below w.heap.size w wA := by rw [hwA]; exact (Below.refl _ _).alloc (Nat.le_refl _) _
  have vA : wA.cell? ⟨w.heap.size, 0, none⟩ = some (.slice (some ⟨M, 0, none⟩) c c) := by rw [hwA]; simp
  have mA : Mem wA M f c := hM.below bA lM
  have hb0 : Go.RowKit.Below (w.heap.size + 1) wA w0 := (Below.refl _ _).grown hgrow0 (by omega) (fun k h => by cases h)
  have hr0 := room1_of hown0
  have hl0 := own_lt hown0
  clear hown0 hgrow0 hwA
  go_wp2
  go_loopw [10] (fun i wr => ∃ k : Nat, k ≤ c ∧ i = .int .i64 k ∧ Idn wr (w.heap.size + 1) k ∧ Room1 wr (w.heap.size + 1) c ∧ Go.RowKit.Below (w.heap.size + 1) wA wr ∧ w.heap.size + 1 < wr.heap.size)
    (fun i _ => c - (intOf i).toNat)
  case atStart => exact ⟨0, Nat.zero_le _, rfl, fun i hi => absurd hi (Nat.not_lt_zero _), hr0, hb0, hl0⟩
  case round =>
    obtain ⟨k, hk, rfl, hI, hR, hB, hS⟩ := hrel
    by_cases hlt : k < c
    · have HI := hI.set hR hlt
      obtain ⟨⟨v0, c0⟩, f0⟩ := hR k hlt
      go_wp2
      go_roundw
      case rel => exact ⟨k + 1, by omega, by go_num, HI, hR.set _ _, hB.setCell (Nat.le_refl _) _, by simpa using hS⟩
      case measure => simp [intOf]; omega
    · obtain rfl : k = c := by omega
      have hc2 := sort_any w.heap.size M (w.heap.size + 1) k f wr h0 hc ((hB.cell (by show w.heap.size < _; omega)).trans vA) (mA.below hB (by omega)) (by omega) (by omega) hS (by omega) (by omega) hI hR
      go_wp2_with (go_at_call 22; refine hc2.mono ?_; rintro e w' ⟨rfl, d, hO, hsz, hH, hbz⟩)
      go_ret
      exact ⟨w.heap.size + 1, d, by omega, Nat.lt_of_lt_of_le hS hbz.size, rfl, hO, hsz, hH, bA.trans ((hB.trans hbz).mono (by omega))⟩

end Go.Proofs.Ybulkpqm.lawC

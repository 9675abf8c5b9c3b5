import Derived.Test.YbulkproDoorK1
import Derived.Test.YbulkproDoorShelf2
import Derived.Lib.AppendIntMem
import Derived.Lib.ItoaLen
namespace Go.Proofs.YbulkproDoor.law
open Go.ChangeShapes Go.WideShapes Go.ChangeAt Go.RowKit
set_option linter.unusedVariables false

/-- The table's name, off the row. -/
def pow10 : String := (Rows.lawS0807CCheck256Row.laid.map Prod.fst).getD 2 ""

/-- The table stands, whatever is laid behind the heap. -/
def Tab (w : World) : Prop := Lib.TabBelow Ybad.prog w.heap.size w pow10 .u64 Lib.pow10Tab

theorem Tab.below {w w' : World} (h : Tab w) (hb : Below w.heap.size w w') : Tab w' := fun w2 hb2 => h w2 (hb.trans (hb2.mono hb.size))

theorem itoa_any (n : Int) (w : World) (h0 : 0 ≤ n) (h1 : n ≤ 100000) (ht : Tab w) :
    Calls Ybad.prog 16 #[.int .i64 n] w fun e w' => ∃ s, e = .returned (.string s) ∧ s.size ≤ 21 ∧ Below w.heap.size w w' := by
  have htab : Lib.TabIs Ybad.prog w pow10 .u64 Lib.pow10Tab := ht w (Below.refl _ _)
  refine (Any.strconv_Itoa Ybad.laysM171 n (by omega) (by omega) w htab).mono ?_
  rintro e w' ⟨rfl, k, os, rfl⟩
  exact ⟨_, rfl, by have := Lib.itoa_length_le n (by omega) (by omega); simpa [ByteArray.size] using this, Lib.below_grow _ _ (Nat.le_refl _) _ _⟩

theorem err_any (s : ByteArray) (w : World) :
    Calls Ybad.prog 15 #[.string s] w fun e w' => ∃ p, e = .returned (.iface 63 (.pointer (some p))) ∧ Below w.heap.size w w' := by
  go_enter Ybad.func15, Ybad.ntmps15
  go_wp2
  go_ret
  exact ⟨_, rfl, (Below.refl _ _).alloc (Nat.le_refl _) _⟩

theorem hw_of (a b : Int) (ha : 0 ≤ a ∧ a ≤ 255) (hb : 0 ≤ b ∧ b ≤ 255) (h : ¬ (a = 104 ∧ b = 119)) : ((strOfNums [a, b]).toList == [104, 119]) = false := by
  have e0 := u8_of a ha.1 ha.2
  have e1 := u8_of b hb.1 hb.2
  rw [beq_eq_false_iff_ne]
  intro e
  rw [ByteArray.toList_eq] at e
  simp [strOfNums] at e
  apply h
  rw [e.1] at e0
  rw [e.2] at e1
  exact ⟨e0.symm, e1.symm⟩

def errorAt (w : World) (e : Ending) (w' : World) : Prop := ∃ p, e = .returned (.iface 63 (.pointer (some p))) ∧ Below w.heap.size w w'

set_option maxHeartbeats 400000 in
set_option maxRecDepth 1000000 in
theorem bad_short (D g L c : Nat) (w : World) (h : L < 4) :
    Calls Ybad.prog 9 #[.pointer (some ⟨D, 0, none⟩), .slice (some ⟨g, 0, none⟩) L c] w (errorAt w) := by
  go_enter Ybad.func9, Ybad.ntmps9
  go_wp2_with (go_at_call 15; refine (err_any _ _).mono ?_; rintro e w' ⟨p, rfl, hb⟩)
  go_ret
  exact ⟨_, rfl, hb⟩

set_option maxHeartbeats 400000 in
set_option maxRecDepth 1000000 in
theorem bad_head (D g L c : Nat) (s : ByteArray) (w : World) (h : 4 ≤ L) (hc : L ≤ c) (hc2 : c ≤ 9223372036854775807) (hcv : (convert 24 9 (.slice (some ⟨g, 0, none⟩) 2 c)).run Ybad.prog w = .ok (.string s) w) (hs : (s.toList == [104, 119]) = false) :
    Calls Ybad.prog 9 #[.pointer (some ⟨D, 0, none⟩), .slice (some ⟨g, 0, none⟩) L c] w (errorAt w) := by
  go_enter Ybad.func9, Ybad.ntmps9
  go_wp2_with (go_at_call 15; refine (err_any _ _).mono ?_; rintro e w' ⟨p, rfl, hb⟩)
  go_ret
  exact ⟨_, rfl, hb⟩

set_option maxHeartbeats 400000 in
set_option maxRecDepth 1000000 in
theorem bad_version (D g L c : Nat) (v : Int) (w : World) (h : 4 ≤ L) (hc : L ≤ c) (hc2 : c ≤ 9223372036854775807) (hcv : (convert 24 9 (.slice (some ⟨g, 0, none⟩) 2 c)).run Ybad.prog w = .ok (.string ⟨#[104, 119]⟩) w)
    (k2 : w.cell? ⟨g, 2, none⟩ = some (.int .u8 v)) (v0 : 0 ≤ v) (v1 : v ≤ 255) (hv : ¬ v = 1) (ht : Tab w) :
    Calls Ybad.prog 9 #[.pointer (some ⟨D, 0, none⟩), .slice (some ⟨g, 0, none⟩) L c] w (errorAt w) := by
  have hi := itoa_any v w v0 (by omega) ht
  have q2 : (2 : Int) < (L : Int) := by omega
  go_enter Ybad.func9, Ybad.ntmps9
  go_wp2_with (first | (go_at_call 16; refine hi.mono ?_; rintro e w1 ⟨s, rfl, hs1, hb1⟩) | (go_at_call 15; refine (err_any _ _).mono ?_; rintro e w' ⟨p, rfl, hb⟩))
  go_ret
  exact ⟨_, rfl, hb1.trans (hb.mono hb1.size)⟩

set_option maxHeartbeats 400000 in
set_option maxRecDepth 1000000 in
theorem bad_id (D V g L c : Nat) (v : Int) (w : World) (h : 4 ≤ L) (hc : L ≤ c) (hc2 : c ≤ 9223372036854775807) (hcv : (convert 24 9 (.slice (some ⟨g, 0, none⟩) 2 c)).run Ybad.prog w = .ok (.string ⟨#[104, 119]⟩) w)
    (k2 : w.cell? ⟨g, 2, none⟩ = some (.int .u8 1)) (k3 : w.cell? ⟨g, 3, none⟩ = some (.int .u8 v)) (v0 : 0 ≤ v) (v1 : v ≤ 255) (hv : ¬ v = 2) (d0 : w.cell? ⟨D, 0, none⟩ = some (.pointer (some ⟨V, 0, none⟩))) (hV : w.cell? ⟨V, 0, none⟩ = some (.int .u8 2)) :
    Calls Ybad.prog 9 #[.pointer (some ⟨D, 0, none⟩), .slice (some ⟨g, 0, none⟩) L c] w (errorAt w) := by
  have q2 : (2 : Int) < (L : Int) := by omega
  have q3 : (3 : Int) < (L : Int) := by omega
  go_enter Ybad.func9, Ybad.ntmps9
  go_wp2
  go_quiet (fail)
  go_wp2_with (go_at_call 15; refine (err_any _ _).mono ?_; rintro e w' ⟨p, rfl, hb⟩)
  go_ret
  exact ⟨_, rfl, ⟨hb.os, hb.tape, hb.output, hb.size, hb.block⟩⟩

set_option maxHeartbeats 400000 in
set_option maxRecDepth 1000000 in
theorem bad_len (D V g L c : Nat) (w : World) (h : 4 ≤ L) (hl : ¬ L = 108) (hL : L ≤ 1024) (hc : L ≤ c) (hc2 : c ≤ 9223372036854775807) (hcv : (convert 24 9 (.slice (some ⟨g, 0, none⟩) 2 c)).run Ybad.prog w = .ok (.string ⟨#[104, 119]⟩) w)
    (k2 : w.cell? ⟨g, 2, none⟩ = some (.int .u8 1)) (k3 : w.cell? ⟨g, 3, none⟩ = some (.int .u8 2)) (d0 : w.cell? ⟨D, 0, none⟩ = some (.pointer (some ⟨V, 0, none⟩))) (hV : w.cell? ⟨V, 0, none⟩ = some (.int .u8 2)) (ht : Tab w) :
    Calls Ybad.prog 9 #[.pointer (some ⟨D, 0, none⟩), .slice (some ⟨g, 0, none⟩) L c] w (errorAt w) := by
  have q2 : (2 : Int) < (L : Int) := by omega
  have q3 : (3 : Int) < (L : Int) := by omega
  go_enter Ybad.func9, Ybad.ntmps9
  go_wp2
  go_quiet (fail)
  have tq : Tab (w.drewN nq) := ht.below ⟨rfl, rfl, rfl, Nat.le_refl _, fun _ _ => rfl⟩
  go_wp2_with (first | (go_at_call 17; refine (stateSize32 _ _).mono ?_; rintro e w' ⟨rfl, rfl⟩) | (go_at_call_of 16 (Value.int .i64 (L : Int)); refine (itoa_any L _ (by omega) (by omega) tq).mono ?_; rintro e w1 ⟨s1, rfl, hs1, hb1⟩; have t1 := tq.below hb1) | (go_at_call 16; refine (itoa_any 108 _ (by omega) (by omega) t1).mono ?_; rintro e w2 ⟨s2, rfl, hs2, hb2⟩) | (go_at_call 15; refine (err_any _ _).mono ?_; rintro e w3 ⟨p, rfl, hb3⟩))
  go_ret
  have hb := hb1.trans ((hb2.trans (hb3.mono hb2.size)).mono hb1.size)
  exact ⟨_, rfl, ⟨hb.os, hb.tape, hb.output, hb.size, hb.block⟩⟩

/-- UnmarshalBinary of no state of this kind: an error; of what was there nothing has turned. -/
theorem unm32_bad (D V g L c : Nat) (B : Nat → Int) (w : World) (hL : L ≤ 1024) (hc : L ≤ c) (hc2 : c ≤ 9223372036854775807) (d0 : w.cell? ⟨D, 0, none⟩ = some (.pointer (some ⟨V, 0, none⟩))) (hV : w.cell? ⟨V, 0, none⟩ = some (.int .u8 2))
    (hz : ∀ i, i < L → 0 ≤ B i ∧ B i ≤ 255) (hB : ∀ i, i < L → w.cell? ⟨g, i, none⟩ = some (.int .u8 (B i))) (ht : Tab w) (hbad : ¬ (L = 108 ∧ B 0 = 104 ∧ B 1 = 119 ∧ B 2 = 1 ∧ B 3 = 2)) :
    Calls Ybad.prog 9 #[.pointer (some ⟨D, 0, none⟩), .slice (some ⟨g, 0, none⟩) L c] w (errorAt w) := by
  by_cases h4 : L < 4
  · exact bad_short D g L c w h4
  have h4' : 4 ≤ L := by omega
  have hcv := conv2 g c (B 0) (B 1) w (hB 0 (by omega)) (hB 1 (by omega))
  by_cases h01 : B 0 = 104 ∧ B 1 = 119
  · rw [h01.1, h01.2] at hcv
    have hcv' : (convert 24 9 (.slice (some ⟨g, 0, none⟩) 2 c)).run Ybad.prog w = .ok (.string ⟨#[104, 119]⟩) w := hcv
    have k2 := hB 2 (by omega)
    have k3 := hB 3 (by omega)
    by_cases h2 : B 2 = 1
    · rw [h2] at k2
      by_cases h3 : B 3 = 2
      · rw [h3] at k3
        exact bad_len D V g L c w h4' (fun e => hbad ⟨e, h01.1, h01.2, h2, h3⟩) hL hc hc2 hcv' k2 k3 d0 hV ht
      · exact bad_id D V g L c (B 3) w h4' hc hc2 hcv' k2 k3 (hz 3 (by omega)).1 (hz 3 (by omega)).2 h3 d0 hV
    · exact bad_version D g L c (B 2) w h4' hc hc2 hcv' k2 (hz 2 (by omega)).1 (hz 2 (by omega)).2 h2 ht
  · exact bad_head D g L c _ w h4' hc hc2 hcv (hw_of _ _ (hz 0 (by omega)) (hz 1 (by omega)) h01)

end Go.Proofs.YbulkproDoor.law

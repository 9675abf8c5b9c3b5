import Derived.Test.YbulkpqmC7
namespace Go.Proofs.Ybulkpqm.lawC
open Go.ChangeShapes Go.WideShapes Go.ChangeAt Go.RowKit Go.Lib Go.Sort Go.Shelf
set_option linter.unusedVariables false

set_option maxHeartbeats 400000 in
theorem find_long (a : Option Addr) (len cap : Nat) (n : Int) (probe : ByteArray) (w : World) (h : 1024 < len) (hm : len ≤ maxLen) :
    Calls Yba.prog 8 #[.slice a len cap, .int .u8 n, .string probe] w fun e w' => e = .returned (.bool true) ∧ Go.RowKit.Below w.heap.size w w' := by
  unfold maxLen at hm
  go_enter Yba.func8, Yba.ntmps8
  go_wp2
  go_ret
  exact ⟨rfl, Below.refl _ _⟩

theorem nameof_back (a : Option Addr) (len cap i : Nat) (ns : Nat → ByteArray) (w : World) (hn : Names w a len ns) (hi : i ≤ 1000000) :
    Calls Yba.prog 15 #[.slice a len cap, .int .i64 i] w fun e w' => e = .returned (.string (nm ns len i)) ∧ w = w' :=
  (nameof_any a len cap i ns w hn hi).mono fun _ _ ⟨h1, h2⟩ => ⟨h1, h2.symm⟩

set_option maxHeartbeats 4000000 in
set_option maxRecDepth 1000000 in
theorem find_short (a : Option Addr) (len cap n : Nat) (probe : ByteArray) (ns : Nat → ByteArray) (w : World) (hn : n ≤ 255) (hN : Names w a len ns) :
    Calls Yba.prog 8 #[.slice a len cap, .int .u8 n, .string probe] w fun e w' => e = .returned (.bool true) ∧ Go.RowKit.Below w.heap.size w w' := by
  have hl := hN.1
  have hc64 : n % 64 < 64 := Nat.mod_lt _ (by omega)
  go_enter Yba.func8, Yba.ntmps8
  go_wp2_with fail
  refine (cbuild_any a len cap n ns _ hn hN).mono ?_
  rintro e w1 ⟨E, hE1, rfl, ⟨p, hE⟩, hM, hB1⟩
  have lE := hE.lt
  have e0 := hE.c0
  have hi := index_ready E w.heap.size (n % 64) p (nm ns len) w1 (by omega) hE hM hE1
  go_wp2_with fail
  refine hi.mono ?_
  rintro e W ⟨rfl, hRW, hBW⟩
  have bW : Go.RowKit.Below w.heap.size w W := hB1.trans (hBW.mono (by omega))
  have hNW : Names W a len ns := hN.below bW (Nat.le_refl _)
  clear e0 hi hE hM hB1 hBW
  go_wp2
  go_loopw [9] (fun i wr => ∃ k : Nat, k ≤ n % 64 + 1 ∧ i = .int .i64 k ∧ Go.RowKit.Below W.heap.size W wr) (fun i _ => n % 64 + 1 - (intOf i).toNat)
  case atStart => exact ⟨0, Nat.zero_le _, rfl, Below.refl _ _⟩
  case round =>
    obtain ⟨k, hk, rfl, hB⟩ := hrel
    have hNr := hNW.below hB (Nat.le_refl _)
    have hRr := hRW.below hB
    by_cases hkc : k < n % 64 + 1
    · by_cases hkl : k < n % 64
      · have na := nameof_back a len cap k ns wr hNr (by omega)
        have fi := find_any E w.heap.size (n % 64) (nm ns len) (nm ns len k) wr hRr
        generalize nm ns len k = y at na fi
        clear hRr hNW hRW
        go_wp2_with fail
        refine na.mono ?_
        rintro e w' ⟨rfl, rfl⟩
        clear na
        go_wp2
        go_loop [11, 12] (fun wt j => ∃ t : Nat, t ≤ n % 64 ∧ j = .int .i64 t ∧ wt = .int .i64 (-1) ∧ Hid (∀ i, i < t → nm ns len i ≠ y)) (fun _ j => n % 64 - (intOf j).toNat)
        case atStart => exact ⟨0, Nat.zero_le _, rfl, rfl, (fun t ht => absurd ht (Nat.not_lt_zero _) : ∀ i, i < 0 → nm ns len i ≠ y)⟩
        case round =>
          obtain ⟨t, ht, rfl, rfl, hF⟩ := hrel
          by_cases htc : t < n % 64
          · have nt := nameof_back a len cap t ns wr hNr (by omega)
            by_cases hx : nm ns len t = y
            · have hxx := str_eq hx
              have HF : Hid (∀ r ok, Found (nm ns len) (n % 64) y r ok → r = t ∧ ok = true) := fun r ok h => h.1 t htc hx (fun i hi => hF.out i hi)
              clear hF hx
              generalize nm ns len t = s at nt hxx
              go_wp2_with fail
              refine nt.mono ?_
              rintro e w' ⟨rfl, rfl⟩
              go_wp2_with fail
              refine fi.mono ?_
              rintro e w5 ⟨r, ok, rfl, hFd, hb5⟩
              obtain ⟨rfl, rfl⟩ := HF.out r ok hFd
              clear hFd
              go_wp2
              go_roundw
              case rel => exact ⟨k + 1, by omega, by go_num, hB.trans (hb5.mono hB.size)⟩
              case measure => simp [intOf]; omega
            · have hxx := str_ne hx
              have HF : Hid (∀ i, i < t + 1 → nm ns len i ≠ y) := fun i hi => by
                by_cases e : i = t
                · rw [e]; exact hx
                · exact hF.out i (by omega)
              clear hF hx
              generalize nm ns len t = s at nt hxx
              go_wp2_with fail
              refine nt.mono ?_
              rintro e w' ⟨rfl, rfl⟩
              go_wp2
              go_round
              case rel => exact ⟨t + 1, by omega, by go_num, rfl, HF⟩
              case measure => simp [intOf]; omega
          · obtain rfl : t = n % 64 := by omega
            have HF : Hid (∀ r ok, Found (nm ns len) (n % 64) y r ok → ok = false) := fun r ok h => h.2 (fun i hi => hF.out i hi)
            clear hF
            go_wp2_with fail
            refine fi.mono ?_
            rintro e w5 ⟨r, ok, rfl, hFd, hb5⟩
            obtain rfl := HF.out r ok hFd
            clear hFd
            go_wp2
            go_roundw
            case rel => exact ⟨k + 1, by omega, by go_num, hB.trans (hb5.mono hB.size)⟩
            case measure => simp [intOf]; omega
      · have fi := find_any E w.heap.size (n % 64) (nm ns len) probe wr hRr
        clear hRr hNW hRW
        have q1 : decide ((k : Int) ≤ (n : Int) % 64) = true := decide_eq_true (by omega)
        have q2 : decide ((k : Int) < (n : Int) % 64) = false := decide_eq_false (by omega)
        go_wp2
        clear q1 q2
        go_loop [11, 12] (fun wt j => ∃ t : Nat, t ≤ n % 64 ∧ j = .int .i64 t ∧ wt = .int .i64 (-1) ∧ Hid (∀ i, i < t → nm ns len i ≠ probe)) (fun _ j => n % 64 - (intOf j).toNat)
        case atStart => exact ⟨0, Nat.zero_le _, rfl, rfl, (fun t ht => absurd ht (Nat.not_lt_zero _) : ∀ i, i < 0 → nm ns len i ≠ probe)⟩
        case round =>
          obtain ⟨t, ht, rfl, rfl, hF⟩ := hrel
          by_cases htc : t < n % 64
          · have nt := nameof_back a len cap t ns wr hNr (by omega)
            by_cases hx : nm ns len t = probe
            · have hxx := str_eq hx
              have HF : Hid (∀ r ok, Found (nm ns len) (n % 64) probe r ok → r = t ∧ ok = true) := fun r ok h => h.1 t htc hx (fun i hi => hF.out i hi)
              clear hF hx
              generalize nm ns len t = s at nt hxx
              go_wp2_with fail
              refine nt.mono ?_
              rintro e w' ⟨rfl, rfl⟩
              go_wp2_with fail
              refine fi.mono ?_
              rintro e w5 ⟨r, ok, rfl, hFd, hb5⟩
              obtain ⟨rfl, rfl⟩ := HF.out r ok hFd
              clear hFd
              go_wp2
              go_roundw
              case rel => exact ⟨k + 1, by omega, by go_num, hB.trans (hb5.mono hB.size)⟩
              case measure => simp [intOf]; omega
            · have hxx := str_ne hx
              have HF : Hid (∀ i, i < t + 1 → nm ns len i ≠ probe) := fun i hi => by
                by_cases e : i = t
                · rw [e]; exact hx
                · exact hF.out i (by omega)
              clear hF hx
              generalize nm ns len t = s at nt hxx
              go_wp2_with fail
              refine nt.mono ?_
              rintro e w' ⟨rfl, rfl⟩
              go_wp2
              go_round
              case rel => exact ⟨t + 1, by omega, by go_num, rfl, HF⟩
              case measure => simp [intOf]; omega
          · obtain rfl : t = n % 64 := by omega
            have HF : Hid (∀ r ok, Found (nm ns len) (n % 64) probe r ok → ok = false) := fun r ok h => h.2 (fun i hi => hF.out i hi)
            clear hF
            go_wp2_with fail
            refine fi.mono ?_
            rintro e w5 ⟨r, ok, rfl, hFd, hb5⟩
            obtain rfl := HF.out r ok hFd
            clear hFd
            go_wp2
            go_roundw
            case rel => exact ⟨k + 1, by omega, by go_num, hB.trans (hb5.mono hB.size)⟩
            case measure => simp [intOf]; omega
    · go_wp2
      go_ret
      exact ⟨rfl, bW.trans (hB.mono bW.size)⟩

end Go.Proofs.Ybulkpqm.lawC

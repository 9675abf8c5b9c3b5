import Derived.Test.YbulkpqmC5
import Derived.Deep.QuietTactic
import Derived.BigQuiet
namespace Go.Proofs.Ybulkpqm.lawC
open Go.ChangeShapes Go.WideShapes Go.ChangeAt Go.RowKit Go.Lib Go.Sort Go.Shelf
set_option linter.unusedVariables false

set_option maxHeartbeats 400000 in
theorem index_long (a : Option Addr) (len cap : Nat) (n : Int) (w : World) (h : 1024 < len) (hm : len ≤ maxLen) :
    Calls Yba.prog 7 #[.slice a len cap, .int .u8 n] w fun e w' => e = .returned (.bool true) ∧ Go.RowKit.Below w.heap.size w w' := by
  unfold maxLen at hm
  go_enter Yba.func7, Yba.ntmps7
  go_wp2
  go_ret
  exact ⟨rfl, Below.refl _ _⟩

theorem names_later {w : World} {a : Option Addr} {len : Nat} {ns : Nat → ByteArray} (h : Names w a len ns) (O : Obj) (q : Nat) : Names ((w.alloc O).drewN q) a len ns :=
  show Names (w.alloc O) a len ns from h.below ((Below.refl w.heap.size w).alloc (Nat.le_refl _) O) (Nat.le_refl _)

theorem info4 : (Yba.prog.info? 4).map (fun i => (i.zero, i.size, i.bytes)) = some (some (.bool false), 1, 1) := by kernel_rfl

/-- Is j among the first k of the order? -/
def sn (d : Array Nat) (k j : Nat) : Bool := (List.range k).any fun t => d[t]! == j
theorem sn_zero (d : Array Nat) (j : Nat) : sn d 0 j = false := rfl
theorem sn_succ (d : Array Nat) (k j : Nat) : sn d (k + 1) j = (sn d k j || d[k]! == j) := by simp [sn, List.range_succ]
theorem sn_new {f : Nat → ByteArray} {c : Nat} {d : Array Nat} (h : Ord f c (fun k => d[k]!)) {k : Nat} (hk : k < c) : sn d k d[k]! = false := by
  unfold sn
  rw [List.any_eq_false]
  intro t ht
  have ht' : t < k := by simpa using ht
  simpa using h.inj t k ht' hk
def Seen (w : World) (S c : Nat) (d : Array Nat) (k : Nat) : Prop := ∀ j, j < c → w.cell? ⟨S, j, none⟩ = some (.bool (sn d k j))

theorem seen_start {w : World} {B e n g : Nat} (d : Array Nat) (h : w.ownsRow B e 1 (.slice (some ⟨g, 0, none⟩) n n) n (madeCells #[.bool false] n).toList) : Seen w g n d 0 := by
  obtain ⟨hl, h | ⟨g', cap, cur, hv, hg, hh, h1, h2, h3, h4⟩⟩ := h
  · simp at h
  · simp at hv
    obtain ⟨rfl, rfl⟩ := hv
    intro j hj
    rw [sn_zero]
    have hj' : j < cur.size := by omega
    simp only [World.cell?, hh]
    have h5 : (cur.toList.take (n * 1))[j]? = (madeCells #[.bool false] n).toList[j]? := by rw [h4]
    rw [List.getElem?_take_of_lt (by omega)] at h5
    have h6 : (madeCells #[Value.bool false] n).toList[j]? = some (.bool false) := by
      rw [toList_madeCells_one, List.getElem?_replicate, if_pos hj]
    simpa using h5.trans h6

theorem Seen.set {w : World} {S c k : Nat} {d : Array Nat} (h : Seen w S c d k) (hr : Room1 w S c) (hq : d[k]! < c) : Seen (w.setCell ⟨S, d[k]!, none⟩ (.bool true)) S c d (k + 1) := by
  intro j hj
  rw [sn_succ]
  by_cases e : j = d[k]!
  · subst e
    rw [set_eq (hr _ hq).1]; simp
  · rw [set_ne e, h j hj]
    have : (d[k]! == j) = false := by simpa using Ne.symm e
    simp [this]

theorem bytes_less {a b : ByteArray} (h : cmpS a b < 0) : Op.bytesLess a.toList b.toList = true := by
  rw [ByteArray.toList_eq, ByteArray.toList_eq, less_eq]
  exact decide_eq_true h
theorem bytes_ne {a b : ByteArray} (h : cmpS a b < 0) : (a.toList == b.toList) = false := by
  rw [ByteArray.toList_eq, ByteArray.toList_eq]
  simp only [beq_eq_false_iff_ne]
  intro e
  have : cmpS a b = 0 := by unfold cmpS; rw [e]; exact cb_self _
  omega

/-- What indexMembers leaves where the members are more than eight. -/
def Ixd (W : World) (E c : Nat) (f : Nat → ByteArray) (idx : Value) (I R : Nat) (d : Array Nat) : Prop :=
  idx = .pointer (some ⟨I, 0, none⟩) ∧ I < W.heap.size ∧ R < W.heap.size ∧ W.cell? ⟨I, 0, none⟩ = some (.slice (some ⟨R, 0, none⟩) c c) ∧ Ord f c (fun k => d[k]!) ∧ d.size = c ∧ Holds (encN c) W R 0 d

theorem index_any (E M c : Nat) (p : Addr) (f : Nat → ByteArray) (w : World) (hc2 : c ≤ 63) (hE : Elem w E M c (.pointer (some p))) (hM : Mem w M f c) (hME : M < E) :
    Calls Yba.prog 14 #[.pointer (some ⟨E, 0, none⟩)] w fun e w' => ∃ idx, e = .returned (.tuple #[]) ∧ Elem w' E M c idx ∧ Go.RowKit.Below E w w' ∧ (c ≤ 8 → idx = .pointer none) ∧ (9 ≤ c → ∃ I R d, Ixd w' E c f idx I R d) := by
  by_cases h : c ≤ 8
  · exact (index_small E M c p w h hE).mono fun e w' ⟨h1, h2, h3⟩ => ⟨_, h1, h2, h3, fun _ => rfl, fun h => by omega⟩
  · exact (index_big E M c p f w (by omega) hc2 hE hM hME).mono fun e w' ⟨h1, I, R, d, a1, a2, a3, a4, a5, a6, a7, a8, a9, a10⟩ => ⟨_, h1, a5, a10, fun h' => absurd h' h, fun _ => ⟨I, R, d, rfl, a3, a4, a6, a7, a8, a9⟩⟩

set_option maxHeartbeats 4000000 in
set_option maxRecDepth 1000000 in
theorem law_short (a : Option Addr) (len cap n : Nat) (ns : Nat → ByteArray) (w : World) (hn : n ≤ 255) (hN : Names w a len ns) :
    Calls Yba.prog 7 #[.slice a len cap, .int .u8 n] w fun e w' => e = .returned (.bool true) ∧ Go.RowKit.Below w.heap.size w w' := by
  have hl := hN.1
  have hc64 : n % 64 < 64 := Nat.mod_lt _ (by omega)
  go_enter Yba.func7, Yba.ntmps7
  go_wp2_with fail
  refine (cbuild_any a len cap n ns _ hn hN).mono ?_
  rintro e w1 ⟨E, hE1, rfl, ⟨p, hE⟩, hM, hB1⟩
  have lE := hE.lt
  have e0 := hE.c0
  have hi := index_any E w.heap.size (n % 64) p (nm ns len) w1 (by omega) hE hM hE1
  go_wp2_with fail
  refine hi.mono ?_
  rintro e W ⟨idx, rfl, hEW, hBW, hS, hL⟩
  have hMW := hM.below hBW hE1
  have lEW := hEW.lt
  have bW : Go.RowKit.Below w.heap.size w W := hB1.trans (hBW.mono (by omega))
  have hNW : Names W a len ns := hN.below bW (Nat.le_refl _)
  clear e0 hi hE hM hB1 hBW
  have e0 := hEW.c0
  go_wp2
  go_loopw [7] (fun i wr => ∃ k : Nat, k ≤ n % 64 ∧ i = .int .i64 k ∧ Go.RowKit.Below W.heap.size W wr) (fun i _ => n % 64 - (intOf i).toNat)
  case atStart => exact ⟨0, Nat.zero_le _, rfl, Below.refl _ _⟩
  case round =>
    obtain ⟨k, hk, rfl, hB⟩ := hrel
    have e0r := (hEW.below hB lEW).c0
    by_cases hlt : k < n % 64
    · obtain ⟨m0, m1, m2, m3⟩ := (hMW.below hB (by omega)) k hlt
      have hNr := hNW.below hB (Nat.le_refl _)
      have hnm : ∀ (O : Obj) (q : Nat), Calls Yba.prog 15 #[.slice a len cap, .int .i64 k] ((wr.alloc O).drewN q) fun e w' => e = .returned (.string (nm ns len k)) ∧ w' = (wr.alloc O).drewN q := fun O q =>
        nameof_any a len cap k ns _ (names_later hNr O q) (by omega)
      clear e0 hEW hMW hNW hL hS
      generalize nm ns len k = s at *
      go_wp2
      go_quiet ((go_at_call 15; exact Calls.quiet_of_same (hnm _ _)))
      go_wp2
      go_roundw
      case rel => exact ⟨k + 1, by omega, by go_num, below_drewN (hB.alloc hB.size _) _⟩
      case measure => simp [intOf]; omega
    · obtain rfl : k = n % 64 := by omega
      by_cases hc8 : n % 64 ≤ 8
      · have ei := hS hc8
        subst ei
        have e3 := (hEW.below hB lEW).c3
        go_wp2
        go_ret
        exact ⟨rfl, bW.trans (hB.mono bW.size)⟩
      · obtain ⟨I, R, d, rfl, lI, lR, cI, hO, hsz, hH⟩ := hL (by omega)
        have e3 := (hEW.below hB lEW).c3
        have cIr := (hB.cell (p := ⟨I, 0, none⟩) (by exact lI)).trans cI
        clear e0 hS hL
        obtain ⟨i4, hi4, hz0, hz1, hz2⟩ := info_parts info4
        go_wp2_with (at_make; refine wpList_make_full _ rfl _ _ 54 rfl wr.heap.size 4 i4 _ 1 Yba.underlying54 hi4 hz0 hz1 _ _ _ _ (n % 64) rfl rfl (by omega) (by omega) ?b2 ?b3 (Nat.le_refl _) ?_)
        case b2 => rw [hz2]; omega
        case b3 => unfold maxLen; omega
        intro w2 hown hgrow
        have hb2 : Go.RowKit.Below wr.heap.size wr w2 := (Below.refl _ _).grown hgrow (Nat.le_refl _) (fun k h => by cases h)
        have hr2 := room1_of hown
        have hsn := seen_start d hown
        have hl2 := own_lt hown
        have lWr := hB.size
        clear hown hgrow
        go_wp2
        have hHX : Holds (encN (n % 64)) wr R 0 d := fun j hj => ⟨(hB.cell (by exact lR)).trans (hH j hj).1, (hB.frozen (by exact lR)).trans (hH j hj).2⟩
        have hNX := hNW.below hB (Nat.le_refl _)
        have bX : Go.RowKit.Below w.heap.size w wr := bW.trans (hB.mono bW.size)
        have lRX : R < wr.heap.size := by omega
        have lX : w.heap.size ≤ wr.heap.size := by omega
        clear hB e0r hH hNW hEW hMW bW e3 cIr cI
        generalize wr = X at *
        go_loopw [11] (fun i w3 => ∃ k : Nat, k ≤ n % 64 ∧ i = .int .i64 k ∧ Seen w3 X.heap.size (n % 64) d k ∧ Room1 w3 X.heap.size (n % 64) ∧ Go.RowKit.Below X.heap.size X w3 ∧ X.heap.size < w3.heap.size) (fun i _ => n % 64 - (intOf i).toNat)
        case atStart => exact ⟨0, Nat.zero_le _, rfl, hsn, hr2, hb2, hl2⟩
        case round =>
          obtain ⟨k, hk3, rfl, hsk, hrk, hbk, hlk⟩ := hrel
          by_cases hk4 : k < n % 64
          · have hq := hO.lt k hk4
            have hqd : k < d.size := by omega
            have ck := (hbk.cell (p := ⟨R, 0 + k, none⟩) (by exact lRX)).trans (hHX k hqd).1
            rw [encN_lt hq, Nat.zero_add] at ck
            have cs := hsk d[k]! hq
            rw [sn_new hO hk4] at cs
            have fs := (hrk d[k]! hq).2
            have HS := hsk.set hrk hq
            generalize d[k]! = q at *
            go_wp2
            go_roundw
            case rel => exact ⟨k + 1, by omega, by go_num, HS, hrk.set _ _, hbk.setCell (by exact Nat.le_refl _) _, by simpa using hlk⟩
            case measure => simp [intOf]; omega
          · clear hsk hrk hsn hr2 hb2 hl2
            have hHY : Holds (encN (n % 64)) wr R 0 d := fun j hj => ⟨(hbk.cell (by exact lRX)).trans (hHX j hj).1, (hbk.frozen (by exact lRX)).trans (hHX j hj).2⟩
            have hNY := hNX.below hbk (Nat.le_refl _)
            have bY : Go.RowKit.Below w.heap.size w wr := bX.trans (hbk.mono lX)
            clear hHX hNX bX hbk
            generalize wr = Y at *
            go_wp2
            go_loop [13] (fun i => ∃ t : Nat, t + 1 ≤ n % 64 ∧ i = .int .i64 ((t : Int) + 1)) (fun i => n % 64 - (intOf i).toNat)
            case atStart => exact ⟨0, by omega, rfl⟩
            case round =>
              obtain ⟨t, ht, rfl⟩ := hrel
              by_cases ht4 : t + 1 < n % 64
              · have ha := hO.lt t (by omega)
                have hb := hO.lt (t + 1) ht4
                have ca := (hHY t (by omega)).1
                have cb := (hHY (t + 1) (by omega)).1
                rw [encN_lt ha, Nat.zero_add] at ca
                rw [encN_lt hb, Nat.zero_add] at cb
                have hs := cf_neg.1 (hO.srt t (t + 1) (by omega) ht4)
                generalize d[t]! = x at *
                generalize d[t + 1]! = y at *
                have na := nameof_any a len cap x ns Y hNY (by omega)
                have nb := nameof_any a len cap y ns Y hNY (by omega)
                rcases hs with hs | ⟨hs, hxy⟩
                · have q1 := bytes_less hs
                  have q2 := bytes_ne hs
                  clear hs hNY hO hHY
                  generalize nm ns len x = sx at *
                  generalize nm ns len y = sy at *
                  go_wp2_with fail
                  refine na.mono ?_
                  rintro e w' ⟨rfl, rfl⟩
                  go_wp2_with fail
                  refine nb.mono ?_
                  rintro e w' ⟨rfl, rfl⟩
                  go_wp2
                  go_round
                  case rel => exact ⟨t + 1, by omega, by go_num⟩
                  case measure => simp [intOf]; omega
                · have q2 : ((nm ns len x).toList == (nm ns len y).toList) = true := by rw [hs]; simp
                  clear hs hNY hO hHY
                  generalize nm ns len x = sx at *
                  generalize nm ns len y = sy at *
                  go_wp2_with fail
                  refine na.mono ?_
                  rintro e w' ⟨rfl, rfl⟩
                  go_wp2_with fail
                  refine nb.mono ?_
                  rintro e w' ⟨rfl, rfl⟩
                  go_wp2
                  go_round
                  case rel => exact ⟨t + 1, by omega, by go_num⟩
                  case measure => simp [intOf]; omega
              · go_wp2
                go_ret
                exact ⟨rfl, bY⟩

end Go.Proofs.Ybulkpqm.lawC

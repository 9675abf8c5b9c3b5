import Derived.Test.YbulkproDoorR1
namespace Go.Proofs.YbulkproDoor.law
open Go.ChangeShapes Go.WideShapes Go.ChangeAt Go.RowKit
set_option linter.unusedVariables false

def hbox (x : Nat → Int) : Array Value := #[.int .u64 (x 0), .int .u64 (x 1), .int .u64 (x 2), .int .u64 (x 3), .int .u64 (x 4), .int .u64 (x 5), .int .u64 (x 6), .int .u64 (x 7)]

theorem hbox_at (x : Nat → Int) (i : Nat) (hi : i < 8) : (hbox x)[i]? = some (.int .u64 (x i)) := by
  match i, hi with
  | 0, _ => rfl
  | 1, _ => rfl
  | 2, _ => rfl
  | 3, _ => rfl
  | 4, _ => rfl
  | 5, _ => rfl
  | 6, _ => rfl
  | 7, _ => rfl

theorem own_lit (W : World) (id : Int) : (W.alloc (.cells #[.int .u8 104, .int .u8 119, .int .u8 1, .int .u8 id] 5)).ownsRow W.heap.size 5 1 (.slice (some ⟨W.heap.size, 0, none⟩) 4 4) 4 (by8 [104, 119, 1, id]) :=
  ⟨rfl, .inr ⟨W.heap.size, 4, _, rfl, Nat.le_refl _, heap_alloc_new _ _, Nat.le_refl _, by unfold maxLen; omega, rfl, rfl⟩⟩

theorem be8_len (z : Int) : (be8 z).length = 8 := rfl
theorem be4_len (z : Int) : (be4 z).length = 4 := rfl
theorem by8_append (a b : List Int) : by8 (a ++ b) = by8 a ++ by8 b := List.map_append

/-- An owned row's shape. -/
theorem own_shape {w : World} {B e n : Nat} {v : Value} {xs : List Value} (h : w.ownsRow B e 1 v n xs) (hn : 0 < n) : ∃ g c, v = .slice (some ⟨g, 0, none⟩) n c ∧ B ≤ g ∧ g < w.heap.size ∧ n ≤ c ∧ c ≤ maxLen ∧ ∀ j u, xs[j]? = some u → w.cell? ⟨g, j, none⟩ = some u := by
  obtain ⟨hl, ⟨_, h⟩ | ⟨g, cap, cur, hv, hg, hh, h1, h2, h3, h4⟩⟩ := h
  · omega
  · refine ⟨g, cap, hv, hg, lt_of_block hh, h1, h2, fun j u hj => ?_⟩
    have hlt := (List.getElem?_eq_some_iff.1 hj).1
    simp only [World.cell?, hh]
    rw [← h4, List.getElem?_take] at hj
    split at hj
    · simpa using hj
    · cases hj

def bll (bl : Nat → Int) (N : Nat) : List Int := (List.range N).map bl
theorem blk_cells {w : World} {K len N : Nat} {zs : List Int} (h : Dig w K (blkv zs len) N) : ∀ j u, (by8 (bll (blk zs len) N))[j]? = some u → w.cell? ((⟨K, 0, none⟩ : Addr).add j) = some u := by
  intro j u hj
  have hj2 : j < N := by have := (List.getElem?_eq_some_iff.1 hj).1; simpa [by8, bll] using this
  rw [Addr.add_lit, Nat.zero_add, (h j hj2).1, ← hj]
  simp [by8, blkv, bll, hj2]

theorem stt_cells {w : World} {g N : Nat} {l : List Int} (hl : l.length = N) (h : ∀ j u, (by8 l)[j]? = some u → w.cell? ⟨g, j, none⟩ = some u) : ∀ i, i < N → w.cell? ⟨g, i, none⟩ = some (.int .u8 (l.getD i 0)) := by
  intro i hi
  refine h i _ ?_
  simp [by8, List.getD_eq_getElem?_getD, show i < l.length by omega]

theorem zero_cells (w : World) (o : Obj) : ∀ i, i < 8 → ((w.alloc (.cells #[.int .u64 0, .int .u64 0, .int .u64 0, .int .u64 0, .int .u64 0, .int .u64 0, .int .u64 0, .int .u64 0] 45)).alloc o).cell? ⟨w.heap.size, i, none⟩ = some (.int .u64 ((fun _ => 0 : Nat → Int) i)) := by
  intro i hi
  match i, hi with
  | 0, _ => simp
  | 1, _ => simp
  | 2, _ => simp
  | 3, _ => simp
  | 4, _ => simp
  | 5, _ => simp
  | 6, _ => simp
  | 7, _ => simp

theorem made64 (w3 : World) : Calls Ybad.prog 12 #[.pointer (some ⟨w3.heap.size + 1, 0, none⟩)] ((w3.alloc (.cells #[.int .u64 0, .int .u64 0, .int .u64 0, .int .u64 0, .int .u64 0, .int .u64 0, .int .u64 0, .int .u64 0] 45)).alloc (.cells #[.int .u8 4, .pointer (some ⟨w3.heap.size, 0, none⟩), .int .i64 64] 49)) fun e w' =>
    e = .returned (.pointer (some ⟨w3.heap.size + 2, 0, none⟩)) ∧ Dig w' (w3.heap.size + 2) (fresh (w3.heap.size + 1) (fun _ => .int .u64 0)) 139 ∧ Below w3.heap.size w3 w' ∧ w'.cell? ⟨w3.heap.size + 1, 0, none⟩ = some (.int .u8 4) ∧ w3.heap.size + 2 < w'.heap.size := by
  have hnw := new64 (w3.heap.size + 1) w3.heap.size (fun _ => 0) ((w3.alloc (.cells #[.int .u64 0, .int .u64 0, .int .u64 0, .int .u64 0, .int .u64 0, .int .u64 0, .int .u64 0, .int .u64 0] 45)).alloc (.cells #[.int .u8 4, .pointer (some ⟨w3.heap.size, 0, none⟩), .int .i64 64] 49))
    (by simp) (by simp; omega) (by simp) (zero_cells w3 _)
  have bC : Below w3.heap.size w3 ((w3.alloc (.cells #[.int .u64 0, .int .u64 0, .int .u64 0, .int .u64 0, .int .u64 0, .int .u64 0, .int .u64 0, .int .u64 0] 45)).alloc (.cells #[.int .u8 4, .pointer (some ⟨w3.heap.size, 0, none⟩), .int .i64 64] 49)) := ((Below.refl _ _).alloc (Nat.le_refl _) _).alloc (by simp) _
  have sC : ((w3.alloc (.cells #[.int .u64 0, .int .u64 0, .int .u64 0, .int .u64 0, .int .u64 0, .int .u64 0, .int .u64 0, .int .u64 0] 45)).alloc (.cells #[.int .u8 4, .pointer (some ⟨w3.heap.size, 0, none⟩), .int .i64 64] 49)).heap.size = w3.heap.size + 2 := by simp
  have cC : ((w3.alloc (.cells #[.int .u64 0, .int .u64 0, .int .u64 0, .int .u64 0, .int .u64 0, .int .u64 0, .int .u64 0, .int .u64 0] 45)).alloc (.cells #[.int .u8 4, .pointer (some ⟨w3.heap.size, 0, none⟩), .int .i64 64] 49)).cell? ⟨w3.heap.size + 1, 0, none⟩ = some (.int .u8 4) := by simp
  generalize ((w3.alloc (.cells #[.int .u64 0, .int .u64 0, .int .u64 0, .int .u64 0, .int .u64 0, .int .u64 0, .int .u64 0, .int .u64 0] 45)).alloc (.cells #[.int .u8 4, .pointer (some ⟨w3.heap.size, 0, none⟩), .int .i64 64] 49)) = W at *
  rw [sC] at hnw
  exact hnw.mono fun e w' ⟨h1, h2, h3, h4⟩ => ⟨h1, h2, bC.trans (h3.mono (by omega)), (h3.cell (by show w3.heap.size + 1 < w3.heap.size + 2; omega)).trans cC, h4⟩

theorem dig_grown {w w' : World} {b D N : Nat} {F : Nat → Value} (h : Dig w b F N) (hG : w.grownBy w' (some D)) (hb : b < w.heap.size) (hD : b ≠ D) : Dig w' b F N :=
  fun j hj => ⟨(grown_cell hG hb hD).trans (h j hj).1, (grown_frozen hG hb hD).trans (h j hj).2⟩

/-- The digest that the round trip leaves. -/
def rtF (x : Nat → Int) (V : Nat) (zs : List Int) (len : Nat) (n : Int) : Nat → Value := fun j =>
  if j = 0 then .pointer (some ⟨V, 0, none⟩) else if j < 9 then .int .u64 (x (j - 1)) else if j < 137 then .int .u8 (blk zs len (j - 9)) else if j = 137 then .int .i64 (n % 128) else .int .u64 n

theorem rt_eq64 (x : Nat → Int) (V : Nat) (zs : List Int) (len : Nat) (n : Int) (hx : ∀ i, i < 8 → 0 ≤ x i ∧ x i ≤ 18446744073709551615) (hn0 : 0 ≤ n) (hn1 : n ≤ 18446744073709551615) (j : Nat) (hj : j < 139) :
    un64 (fresh V (fun _ => .int .u64 0)) (fun i => (stt 4 be8 x (blk zs len) 128 n).getD i 0) j = rtF x V zs len n j := by
  have hv : val8 (fun t => (stt 4 be8 x (blk zs len) 128 n).getD (196 + t) 0) = n := by
    have : (fun t => (stt 4 be8 x (blk zs len) 128 n).getD (196 + t) 0) = fun t => (be8 n).getD t 0 := funext fun t => stt_n 4 be8 x (blk zs len) 128 n 8 be8_len t
    rw [this]; exact val8_be8 n hn0 hn1
  unfold un64
  simp only [hv]
  unfold upd rtF
  by_cases h137 : j = 137
  · subst h137; rfl
  · rw [if_neg h137]
    by_cases h138 : j = 138
    · subst h138; rfl
    · rw [if_neg h138, over_at, seg_len]
      by_cases h9 : 9 ≤ j
      · rw [if_pos ⟨h9, by omega⟩, if_neg (by omega), if_neg (by omega), if_pos (by omega), seg_getD _ _ _ _ _ (by omega)]
        rw [stt_blk 4 be8 x (blk zs len) 128 n 8 be8_len (j - 9) (by omega)]
      · rw [if_neg (by omega)]
        unfold rd64
        by_cases h0 : j = 0
        · subst h0; rfl
        · rw [if_pos ⟨by omega, by omega⟩, if_neg h0, if_pos (by omega)]
          have hw : val8 (fun t => (stt 4 be8 x (blk zs len) 128 n).getD (4 + (8 * (j - 1) + t)) 0) = x (j - 1) := by
            rw [← val8_be8 (x (j - 1)) (hx _ (by omega)).1 (hx _ (by omega)).2]
            unfold val8
            simp only [← Nat.add_assoc]
            rw [← stt_word 4 be8 x (blk zs len) 128 n 8 be8_len (j - 1) 0 (by omega) (by omega), ← stt_word 4 be8 x (blk zs len) 128 n 8 be8_len (j - 1) 1 (by omega) (by omega), ← stt_word 4 be8 x (blk zs len) 128 n 8 be8_len (j - 1) 2 (by omega) (by omega), ← stt_word 4 be8 x (blk zs len) 128 n 8 be8_len (j - 1) 3 (by omega) (by omega), ← stt_word 4 be8 x (blk zs len) 128 n 8 be8_len (j - 1) 4 (by omega) (by omega), ← stt_word 4 be8 x (blk zs len) 128 n 8 be8_len (j - 1) 5 (by omega) (by omega), ← stt_word 4 be8 x (blk zs len) 128 n 8 be8_len (j - 1) 6 (by omega) (by omega), ← stt_word 4 be8 x (blk zs len) 128 n 8 be8_len (j - 1) 7 (by omega) (by omega)]
          rw [hw]

theorem eq45 (x : Nat → Int) (w : World) : (Op.equalIn 10000 45 (.agg (hbox x)) (.agg (hbox x))).run Ybad.prog w = .ok true w := by
  unfold hbox
  have u3 := Ybad.underlying25
  have a3 := Ybad.isAgg25
  have z3 := Ybad.sizeOf25
  rw [show (10000 : Nat) = 9999 + 1 from rfl, Op.equalIn]
  simp only [Sem.run_bind, run_underlying Ybad.underlying45, Result.andThen_ok]
  simp only [Std.Legacy.Range.forIn_eq_forIn_range', Std.Legacy.Range.size, Nat.sub_zero, Nat.add_sub_cancel, Nat.div_one, List.range'_succ, List.range'_zero, List.forIn_cons, List.forIn_nil]
  go_simp

set_option maxHeartbeats 800000 in
set_option maxRecDepth 1000000 in
theorem rt512 (x : Nat → Int) (a : Option Addr) (len cap : Nat) (zs : List Int) (n : Int) (w : World) (hx : ∀ i, i < 8 → 0 ≤ x i ∧ x i ≤ 18446744073709551615) (hn0 : 0 ≤ n) (hn1 : n ≤ 18446744073709551615) (hl : len ≤ 1024) (hr : IsRow .u8 w a len cap zs) :
    Calls Ybad.prog 5 #[.agg (hbox x), .slice a len cap, .int .u64 n] w fun e w' => e = .returned (.bool true) ∧ Below w.heap.size w w' := by
  have bA : Below w.heap.size w (w.alloc (.cells (hbox x) 45)) := (Below.refl _ _).alloc (Nat.le_refl _) _
  have bB : Below w.heap.size w ((w.alloc (.cells (hbox x) 45)).alloc (.cells z128 38)) := bA.alloc (by simp) _
  have hK := dig128 (w.alloc (.cells (hbox x) 45)) 38
  rw [show (w.alloc (.cells (hbox x) 45)).heap.size = w.heap.size + 1 by simp] at hK
  have hX : Dig ((w.alloc (.cells (hbox x) 45)).alloc (.cells z128 38)) w.heap.size (fun i => .int .u64 (x i)) 8 :=
    (dig_of (t := 45) (heap_alloc_new w (.cells (hbox x) 45)) (hbox_at x)).below (B := w.heap.size + 1) ((Below.refl _ _).alloc (by simp) _) (by omega)
  obtain ⟨m, W1, hcp, hK1, hG1⟩ := copy_blk (w.heap.size + 1) len cap 128 a zs _ hK (isRow_below hr bB)
  have hX1 : Dig W1 w.heap.size (fun i => .int .u64 (x i)) 8 := fun i hi => ⟨(grown_cell hG1 (by simp; omega) (by omega)).trans (hX i hi).1, (grown_frozen hG1 (by simp; omega) (by omega)).trans (hX i hi).2⟩
  have b1 : Below w.heap.size w W1 := bB.grown hG1 (by simp; omega) (fun k hk => by cases hk; omega)
  have s1 : w.heap.size + 2 ≤ W1.heap.size := by have := hG1.size; simp at this; omega
  clear hX hK bA bB hG1
  unfold hbox at hcp ⊢
  have hz := zero38
  go_enter Ybad.func5, Ybad.ntmps5
  go_wp2
  clear hcp hz
  go_loopw [8, 9] (fun v i wr => ∃ k : Nat, k ≤ 8 ∧ i = .int .i64 k ∧ wr.ownsRow W1.heap.size 5 1 v (4 + 8 * k) (by8 (hdl 4 be8 x k)) ∧ Below W1.heap.size W1 wr) (fun _ i _ => 8 - (intOf i).toNat)
  case atStart => exact ⟨0, by omega, rfl, own_lit W1 4, (Below.refl _ _).alloc (Nat.le_refl _) _⟩
  case round =>
    obtain ⟨k, hk, rfl, ho, hb⟩ := hrel
    by_cases hlt : k < 8
    · have cx := ((hX1.below hb (by omega)) k hlt).1
      have hpt := put64_any W1.heap.size u8 (4 + 8 * k) _ (x k) wr (hx k hlt).1 (hx k hlt).2 (by omega) ho hb.size
      rw [← by8_append] at hpt
      go_wp2_with fail
      refine hpt.mono ?_
      rintro e w2 ⟨v2, rfl, ho2, hb2⟩
      go_wp2
      go_roundw
      case rel => exact ⟨k + 1, by omega, by go_num, by rw [Nat.mul_succ]; exact ho2, hb.trans hb2⟩
      case measure => simp [intOf]; omega
    · obtain rfl : k = 8 := by omega
      obtain ⟨i0, hi, hz0, hz1, hz2⟩ := info_parts info5
      have hKr := hK1.below hb (by omega)
      go_wp2_with (at_builtin; refine wpList_append_own _ rfl (.tmp 30) (.tmp 31) 24 rfl W1.heap.size 5 i0 (.int .u8 0) 1 1 Ybad.underlying24 hi hz0 hz1 hz2 rfl (by decide) _ _ _ rfl ho ⟨w.heap.size + 1, 0, none⟩ 128 128 (by8 (bll (blk zs len) 128)) rfl ?c0 ?c1 ?c2 ?c3 ?c4 ?c5 ?_)
      case c0 => simp [by8, bll]
      case c1 => exact blk_cells hKr
      case c2 => exact by8_one _
      case c3 => unfold maxLen; omega
      case c4 => omega
      case c5 => exact hb.size
      intro v2 w2 ho2 hg2 _
      have hb2 : Below W1.heap.size W1 w2 := hb.grown hg2 hb.size (fun k hk => own_ge ho hk)
      rw [← by8_append] at ho2
      clear ho hb hKr hg2
      have hpt := put64_any W1.heap.size v2 _ _ n w2 hn0 hn1 (by omega) ho2 hb2.size
      rw [← by8_append] at hpt
      go_wp2_with fail
      refine hpt.mono ?_
      rintro e w3 ⟨v3, rfl, ho3, hb3⟩
      have b3 : Below W1.heap.size W1 w3 := hb2.trans hb3
      clear hpt ho2 hb2 hb3
      obtain ⟨g, c, hv, hg1, hg2, hc1, hc2, hcell⟩ := own_shape ho3 (by omega)
      rw [hv]
      have HC : Hid (∀ i, i < 204 → w3.cell? ⟨g, i, none⟩ = some (.int .u8 ((stt 4 be8 x (blk zs len) 128 n).getD i 0))) := stt_cells (stt_len 4 be8 x (blk zs len) 128 n 8 be8_len) hcell
      clear hv ho3 hcell
      unfold maxLen at hc2
      go_wp2_with fail
      refine (made64 w3).mono ?_
      rintro e w4 ⟨rfl, hD4, hb4, hV4, hs4⟩
      have bT : Below w.heap.size w w4 := (b1.trans (b3.mono (by omega))).trans (hb4.mono (by have := b3.size; omega))
      have hun := unm64 (w3.heap.size + 2) (w3.heap.size + 1) g c (fresh (w3.heap.size + 1) (fun _ => .int .u64 0)) (fun i => (stt 4 be8 x (blk zs len) 128 n).getD i 0) w4 (by omega) (by omega) hD4 rfl (by omega) (by omega) (by omega) (by omega) (by omega) hV4
        (fun i _ => stt_byte 4 be8 x (blk zs len) 128 n ⟨by omega, by omega⟩ (fun i hi => be8_byte _ (hx i hi).1 (hx i hi).2) (fun j => blk_bd hr j) (be8_byte n hn0 hn1) i)
        (fun i hi => (hb4.cell (by exact hg2)).trans (HC.out i hi))
        (stt_head 4 be8 x (blk zs len) 128 n 8 be8_len 0 (by omega)) (stt_head 4 be8 x (blk zs len) 128 n 8 be8_len 1 (by omega)) (stt_head 4 be8 x (blk zs len) 128 n 8 be8_len 2 (by omega)) (stt_head 4 be8 x (blk zs len) 128 n 8 be8_len 3 (by omega))
      go_wp2_with fail
      refine hun.mono ?_
      rintro e w5 ⟨rfl, hD5, hG5⟩
      clear hun HC
      have hK5 : Dig w5 (w.heap.size + 1) (blkv zs len) 128 := dig_grown ((hK1.below b3 (by omega)).below hb4 (by have := b3.size; omega)) hG5 (by have := b3.size; omega) (by have := b3.size; omega)
      have hX5 : Dig w5 w.heap.size (fun i => .int .u64 (x i)) 8 := dig_grown ((hX1.below b3 (by omega)).below hb4 (by have := b3.size; omega)) hG5 (by have := b3.size; omega) (by have := b3.size; omega)
      have bU : Below w.heap.size w w5 := bT.grown hG5 bT.size (fun k hk => by cases hk; have := b3.size; omega)
      have hD6 := hD5.congr (rt_eq64 x (w3.heap.size + 1) zs len n hx hn0 hn1)
      clear hD4 hb4 hV4 hD5 hG5 hK1 hX1 b3 b1 bT
      generalize w3.heap.size + 2 = D at *
      generalize hVV : w3.heap.size + 1 = V at *
      clear hVV
      have d0 := (hD6 0 (by omega)).1
      have d1 := (hD6 1 (by omega)).1
      have d2 := (hD6 2 (by omega)).1
      have d3 := (hD6 3 (by omega)).1
      have d4 := (hD6 4 (by omega)).1
      have d5 := (hD6 5 (by omega)).1
      have d6 := (hD6 6 (by omega)).1
      have d7 := (hD6 7 (by omega)).1
      have d8 := (hD6 8 (by omega)).1
      have d137 := (hD6 137 (by omega)).1
      have d138 := (hD6 138 (by omega)).1
      have x0 := (hX5 0 (by omega)).1
      have x1 := (hX5 1 (by omega)).1
      have x2 := (hX5 2 (by omega)).1
      have x3 := (hX5 3 (by omega)).1
      have x4 := (hX5 4 (by omega)).1
      have x5 := (hX5 5 (by omega)).1
      have x6 := (hX5 6 (by omega)).1
      have x7 := (hX5 7 (by omega)).1
      simp only [rtF, if_pos] at d0 d1 d2 d3 d4 d5 d6 d7 d8 d137 d138
      simp at d0 d1 d2 d3 d4 d5 d6 d7 d8 d137 d138
      have hpn := pneq46 ⟨V, 0, none⟩
      have heq := eq45 x
      unfold hbox at heq
      have HD : Hid (Dig w5 D (rtF x V zs len n) 139) := hD6
      have HK : Hid (Dig w5 (w.heap.size + 1) (blkv zs len) 128) := hK5
      clear hD6 hK5 hX5
      go_wp2
      go_quiet (fail)
      clear d0 d1 d2 d3 d4 d5 d6 d7 d8 d137 d138 x0 x1 x2 x3 x4 x5 x6 x7 heq hpn
      go_wp2
      go_loopw [13] (fun i wr => ∃ j : Nat, j ≤ 128 ∧ i = .int .i64 j ∧ ∃ q, wr = w5.drewN q) (fun i _ => 128 - (intOf i).toNat)
      case atStart => exact ⟨0, by omega, rfl, nq, rfl⟩
      case round =>
        obtain ⟨j, hj, rfl, q, rfl⟩ := hrel
        by_cases hj2 : j < 128
        · have cd : w5.cell? ⟨D, 9 + j, none⟩ = some (.int .u8 (blk zs len j)) := by
            rw [(HD.out (9 + j) (by omega)).1]
            unfold rtF
            rw [if_neg (by omega), if_neg (by omega), if_pos (by omega), Nat.add_sub_cancel_left]
          have ck : w5.cell? ⟨w.heap.size + 1, j, none⟩ = some (.int .u8 (blk zs len j)) := (HK.out j hj2).1
          generalize blk zs len j = y at cd ck
          go_wp2
          go_quiet (fail)
          go_wp2
          go_roundw
          case rel => exact ⟨j + 1, by omega, by go_num, _, rfl⟩
          case measure => simp [intOf]; omega
        · obtain rfl : j = 128 := by omega
          go_wp2
          go_ret
          exact ⟨rfl, below_drewN bU q⟩

end Go.Proofs.YbulkproDoor.law

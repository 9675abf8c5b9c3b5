import Derived.Test.YbulkpqmC6
import Derived.Test.YbulkpqmShelf2
namespace Go.Proofs.Ybulkpqm.lawC
open Go.ChangeShapes Go.WideShapes Go.ChangeAt Go.RowKit Go.Lib Go.Sort Go.Shelf
set_option linter.unusedVariables false

set_option maxHeartbeats 800000 in
theorem fclosure_any (Bx E M c i : Nat) (f : Nat → ByteArray) (x : ByteArray) (W : World) (hc : c ≤ 63) (hBx : W.cell? ⟨Bx, 0, none⟩ = some (.pointer (some ⟨E, 0, none⟩)))
    (hE : W.cell? ⟨E, 0, none⟩ = some (.slice (some ⟨M, 0, none⟩) c c)) (hM : Mem W M f c) (hi : i < c) :
    Calls Yba.prog 20 #[.int .i32 i, .string x, .pointer (some ⟨Bx, 0, none⟩)] W fun e w' => e = .returned (.int .i64 (cmpS (f i) x)) ∧ w' = W := by
  have ci := (hM i hi).1
  clear hM
  go_enter Yba.func20, Yba.ntmps20
  go_wp2_with (go_at_call 21; refine (stringsCompare_any _ _ _).mono ?_; rintro e w' ⟨rfl, rfl⟩)
  go_ret
  exact ⟨rfl, rfl⟩

/-- What find's closure says of a place against x. -/
def cft (f : Nat → ByteArray) (c : Nat) (x : ByteArray) (y : Nat) : Int := cmpS (f (min y (c - 1))) x

theorem cmpLaysT (Bx E M R c : Nat) (f : Nat → ByteArray) (x : ByteArray) (w : World) (h0 : 0 < c) (hc : c ≤ 63) (hBx : w.cell? ⟨Bx, 0, none⟩ = some (.pointer (some ⟨E, 0, none⟩)))
    (hE : w.cell? ⟨E, 0, none⟩ = some (.slice (some ⟨M, 0, none⟩) c c)) (hM : Mem w M f c) (lB : Bx < w.heap.size) (lE : E < w.heap.size) (lM : M < w.heap.size) (nB : Bx ≠ R) (nE : E ≠ R) (nM : M ≠ R) :
    CmpLaysT Yba.prog 20 #[.pointer (some ⟨Bx, 0, none⟩)] (encN c) (.string x) (cft f c x) R 0 c w := by
  intro m os dk hs y
  refine (fclosure_any Bx E M c (min y (c - 1)) f x _ hc ?_ ?_ ?_ (by omega)).mono ?_
  · rw [cell_sortWorld (by exact lB) (by exact nB)]; exact hBx
  · rw [cell_sortWorld (by exact lE) (by exact nE)]; exact hE
  · intro i hi
    obtain ⟨m0, m1, m2, m3⟩ := hM i hi
    refine ⟨?_, ?_, ?_, ?_⟩
    all_goals (rw [cell_sortWorld (by exact lM) (by exact nM)]; assumption)
  · rintro e w' ⟨he, hw⟩
    exact ⟨he, 0, #[], by rw [hw, grow_empty]; rfl⟩

/-- The row is as it was: nothing old has turned. -/
theorem below_same {α : Type} [Inhabited α] {enc : α → Value} {w : World} {blk off n : Nat} {d : Array α} {os : Array Obj} (h : Holds enc w blk off d) : Go.RowKit.Below w.heap.size w (sortWorld enc w blk off n d os) := by
  have e : putRow enc (Sort.ahead w n) blk off d = Sort.ahead w n := by
    have := sortWorld_start enc (Sort.ahead w n) blk off d h
    unfold sortWorld at this
    rwa [grow_empty, ahead_zero] at this
  unfold sortWorld
  rw [e]
  refine ⟨rfl, rfl, rfl, by rw [size_grow]; show w.heap.size ≤ w.heap.size + _; omega, fun k hk => ?_⟩
  rw [heap_grow_old _ _ (by exact hk)]
  rfl

/-- What find answers. -/
def Found (f : Nat → ByteArray) (c : Nat) (x : ByteArray) (r : Int) (ok : Bool) : Prop :=
  (∀ j, j < c → f j = x → (∀ i, i < j → f i ≠ x) → r = j ∧ ok = true) ∧ ((∀ i, i < c → f i ≠ x) → ok = false)

/-- The search, at our closure: its place is the boundary. -/
theorem search_any (Bx E M R c : Nat) (f : Nat → ByteArray) (x : ByteArray) (d : Array Nat) (w : World) (h0 : 0 < c) (hc : c ≤ 63) (hBx : w.cell? ⟨Bx, 0, none⟩ = some (.pointer (some ⟨E, 0, none⟩)))
    (hE : w.cell? ⟨E, 0, none⟩ = some (.slice (some ⟨M, 0, none⟩) c c)) (hM : Mem w M f c) (lB : Bx < w.heap.size) (lE : E < w.heap.size) (lM : M < w.heap.size) (lR : R < w.heap.size) (nB : Bx ≠ R) (nE : E ≠ R) (nM : M ≠ R)
    (hO : Ord f c (fun k => d[k]!)) (hsz : d.size = c) (hH : Holds (encN c) w R 0 d) :
    Calls Yba.prog 19 #[.slice (some ⟨R, 0, none⟩) c c, .string x, .func (.func 20) #[] #[.pointer (some ⟨Bx, 0, none⟩)]] w fun e w' =>
      ∃ (k : Nat) (ok : Bool), e = .returned (.tuple #[.int .i64 k, .bool ok]) ∧ (ok = true → k < c) ∧ (ok = true → cmpS (f d[k]!) x = 0) ∧
        (∀ j, j < c → f j = x → (∀ i, i < j → f i ≠ x) → d[k]! = j ∧ ok = true) ∧ Holds (encN c) w' R 0 d ∧ Go.RowKit.Below w.heap.size w w' := by
  have eg : ∀ args w, (callFunc 20 args).run Yba.prog w = .ok (.enter 20 args) w := enters_of Yba.func20 (by kernel_rfl) rfl
  have hmin : ∀ t, t < c → cft f c x d[t]! = cmpS (f d[t]!) x := fun t ht => by
    unfold cft
    have := hO.lt t ht
    rw [Nat.min_eq_left (by omega)]
  have hmono : ∀ a b, a ≤ b → b < d.size → cft f c x d[b]! < 0 → cft f c x d[a]! < 0 := fun a b hab hb h => by
    rw [hmin b (by omega)] at h
    rw [hmin a (by omega)]
    exact hO.name hab (by omega) x h
  have hcon := Any.slices_BinarySearchFunc Yba.searchF (encN c) (fun _ => rfl) (.string x) (cft f c x) 20 #[.pointer (some ⟨Bx, 0, none⟩)] R 0 c d w eg
    (by rw [hsz]; exact cmpLaysT Bx E M R c f x w h0 hc hBx hE hM lB lE lM nB nE nM) hH lR (by omega) hmono
  change Calls Yba.prog 19 _ _ _ at hcon
  obtain ⟨k, b1, b2, b3⟩ := hO.bound x
  have hget : ∀ t, d.toList[t]! = d[t]! := fun t => by first | (simp [getElem!_def]; done) | (rw [← Array.getElem!_toList]) | rfl
  have hk : d.toList.countP (fun y => decide (cft f c x y < 0)) = k := by
    refine Lib.countP_boundary _ d.toList k (by simpa [hsz] using b1) (fun t ht => ?_) (fun t h3 h4 => ?_)
    · rw [hget t, hmin t (by omega)]; exact decide_eq_true (b2 t ht)
    · have h4' : t < c := by simpa [hsz] using h4
      rw [hget t, hmin t h4']; exact decide_eq_false (b3 t h3 h4')
  rw [hk, hsz] at hcon
  refine hcon.mono ?_
  rintro e w' ⟨he, hS⟩
  obtain ⟨m, os, hw⟩ := hS
  refine ⟨k, _, he, ?_, ?_, ?_, by rw [hw]; exact holds_sortWorld (encN c) w R 0 m d d os lR hH rfl, by rw [hw]; exact below_same hH⟩
  · intro h; simp at h; exact h.1
  · intro h; simp at h; rw [← hmin k h.1]; exact h.2
  · intro j hj hx hf
    obtain ⟨h1, h2, h3⟩ := hO.hit ⟨b1, b2, b3⟩ hj hx hf
    refine ⟨h2, ?_⟩
    have : cft f c x d[k]! = 0 := by rw [hmin k h1]; exact h3
    simp [h1, this]

theorem str_ne {a b : ByteArray} (h : a ≠ b) : (a.toList == b.toList) = false := by
  rw [ByteArray.toList_eq, ByteArray.toList_eq]
  simp only [beq_eq_false_iff_ne]
  intro e
  apply h
  cases a; cases b
  simp only [ByteArray.mk.injEq]
  exact Array.toList_inj.1 e
theorem str_eq {a b : ByteArray} (h : a = b) : (a.toList == b.toList) = true := by rw [h]; simp

set_option maxHeartbeats 1600000 in
set_option maxRecDepth 1000000 in
theorem find_lin (E M c : Nat) (f : Nat → ByteArray) (x : ByteArray) (w : World) (hc : c ≤ 63) (hE : Elem w E M c (.pointer none)) (hM : Mem w M f c) (lM : M < w.heap.size) :
    Calls Yba.prog 16 #[.pointer (some ⟨E, 0, none⟩), .string x] w fun e w' => ∃ r ok, e = .returned (.tuple #[.int .i64 r, .bool ok]) ∧ Found f c x r ok ∧ Go.RowKit.Below w.heap.size w w' := by
  have lE := hE.lt
  have e0 := hE.c0
  have e3 := hE.c3
  go_enter Yba.func16, Yba.ntmps16
  go_wp2
  go_loopw [20] (fun i wr => ∃ k : Nat, k ≤ c ∧ i = .int .i64 k ∧ Hid (∀ t, t < k → f t ≠ x) ∧ Go.RowKit.Below w.heap.size w wr) (fun i _ => c - (intOf i).toNat)
  case atStart => exact ⟨0, Nat.zero_le _, rfl, (fun t ht => absurd ht (Nat.not_lt_zero _) : ∀ t, t < 0 → f t ≠ x), (Below.refl _ _).alloc (Nat.le_refl _) _⟩
  case round =>
    obtain ⟨k, hk, rfl, hF, hB⟩ := hrel
    by_cases hlt : k < c
    · obtain ⟨m0, m1, m2, m3⟩ := (hM.below hB lM) k hlt
      by_cases hx : f k = x
      · have hxx := str_eq hx
        have HX : Hid (f k = x) := hx
        clear hx hM e0 e3 hE
        generalize hfk : f k = y at m0 hxx
        have HY : Hid (f k = y) := hfk
        clear hfk
        go_wp2
        go_ret2
        refine ⟨_, _, rfl, ⟨fun j hj hj2 hj3 => ⟨?_, rfl⟩, fun h => absurd HX.out (h k hlt)⟩, hB.alloc hB.size _⟩
        have : j = k := by
          rcases Nat.lt_trichotomy j k with h | h | h
          · exact absurd hj2 (hF.out j h)
          · exact h
          · exact absurd HX.out (hj3 k h)
        rw [this]
      · have hxx := str_ne hx
        have HF : Hid (∀ t, t < k + 1 → f t ≠ x) := fun t ht => by
          by_cases e : t = k
          · rw [e]; exact hx
          · exact hF.out t (by omega)
        clear hx hM e0 e3 hE
        generalize f k = y at m0 hxx
        go_wp2
        go_roundw
        case rel => exact ⟨k + 1, by omega, by go_num, HF, hB.alloc hB.size _⟩
        case measure => simp [intOf]; omega
    · obtain rfl : k = c := by omega
      go_wp2
      go_ret2
      exact ⟨_, _, rfl, ⟨fun j hj hj2 hj3 => absurd hj2 (hF.out j hj), fun _ => rfl⟩, hB⟩

set_option maxHeartbeats 1600000 in
set_option maxRecDepth 1000000 in
theorem find_bin (E M c I R : Nat) (d : Array Nat) (f : Nat → ByteArray) (x : ByteArray) (w : World) (h0 : 0 < c) (hc : c ≤ 63) (hE : Elem w E M c (.pointer (some ⟨I, 0, none⟩))) (hM : Mem w M f c) (lM : M < w.heap.size)
    (lI : I < w.heap.size) (lR : R < w.heap.size) (cI : w.cell? ⟨I, 0, none⟩ = some (.slice (some ⟨R, 0, none⟩) c c)) (hO : Ord f c (fun k => d[k]!)) (hsz : d.size = c) (hH : Holds (encN c) w R 0 d) (nE : E < R) (nM : M < R) :
    Calls Yba.prog 16 #[.pointer (some ⟨E, 0, none⟩), .string x] w fun e w' => ∃ r ok, e = .returned (.tuple #[.int .i64 r, .bool ok]) ∧ Found f c x r ok ∧ Go.RowKit.Below w.heap.size w w' := by
  have lE := hE.lt
  have e0 := hE.c0
  have e3 := hE.c3
  have bA : Go.RowKit.Below w.heap.size w (w.alloc (.cells #[.pointer (some ⟨E, 0, none⟩)] 42)) := (Below.refl _ _).alloc (Nat.le_refl _) _
  have hH' : Holds (encN c) (w.alloc (.cells #[.pointer (some ⟨E, 0, none⟩)] 42)) R 0 d := fun j hj => ⟨(bA.cell (by exact lR)).trans (hH j hj).1, (bA.frozen (by exact lR)).trans (hH j hj).2⟩
  have hs := search_any w.heap.size E M R c f x d (w.alloc (.cells #[.pointer (some ⟨E, 0, none⟩)] 42)) h0 hc (by simp) ((bA.cell (by exact lE)).trans e0) (hM.below bA lM) (by simp) (by simp; omega) (by simp; omega) (by simp; omega) (by omega) (by omega) (by omega) hO hsz hH'
  go_enter Yba.func16, Yba.ntmps16
  go_wp2_with fail
  refine hs.mono ?_
  rintro e w' ⟨k, ok, rfl, k1, k2, k3, hHw, hbw⟩
  have bR : Go.RowKit.Below w.heap.size w w' := bA.trans (hbw.mono (by simp))
  clear hs hH' bA hM hE e0 e3
  have K2 : Hid (ok = true → cmpS (f d[k]!) x = 0) := k2
  have K3 : Hid (∀ j, j < c → f j = x → (∀ i, i < j → f i ≠ x) → d[k]! = j ∧ ok = true) := k3
  clear k2 k3
  cases ok with
  | false =>
    clear k1
    go_wp2
    go_ret2
    exact ⟨_, _, rfl, ⟨fun j h1 h2 h3 => by have := (K3.out j h1 h2 h3).2; simp at this, fun _ => rfl⟩, bR⟩
  | true =>
    have hk : k < c := k1 rfl
    have hq := hO.lt k hk
    have ck := (hHw k (by omega)).1
    rw [encN_lt hq, Nat.zero_add] at ck
    have FD : Hid (Found f c x (d[k]! : Int) true) := ⟨fun j h1 h2 h3 => ⟨by rw [(K3.out j h1 h2 h3).1], rfl⟩, fun h => absurd (K2.out rfl) (hO.miss h hk)⟩
    clear K2 K3 k1 hO
    generalize d[k]! = q at *
    go_wp2
    go_ret2
    exact ⟨_, _, rfl, FD.out, bR⟩

/-- What the law knows of the world at each call of find. -/
def Ready (w : World) (E M c : Nat) (f : Nat → ByteArray) : Prop :=
  c ≤ 63 ∧ Mem w M f c ∧ M < E ∧ ((c ≤ 8 ∧ Elem w E M c (.pointer none)) ∨
    (9 ≤ c ∧ ∃ I R d, Elem w E M c (.pointer (some ⟨I, 0, none⟩)) ∧ E < R ∧ I < w.heap.size ∧ R < w.heap.size ∧ w.cell? ⟨I, 0, none⟩ = some (.slice (some ⟨R, 0, none⟩) c c) ∧ Ord f c (fun k => d[k]!) ∧ d.size = c ∧ Holds (encN c) w R 0 d))

theorem Ready.lt {w : World} {E M c : Nat} {f : Nat → ByteArray} (h : Ready w E M c f) : E < w.heap.size := by
  obtain ⟨_, _, _, ⟨_, h⟩ | ⟨_, _, _, _, h, _⟩⟩ := h
  · exact h.lt
  · exact h.lt

theorem Ready.below {w w' : World} {E M c : Nat} {f : Nat → ByteArray} (h : Ready w E M c f) (hb : Go.RowKit.Below w.heap.size w w') : Ready w' E M c f := by
  have lE := h.lt
  obtain ⟨h0, h1, h2, h⟩ := h
  refine ⟨h0, h1.below hb (by omega), h2, ?_⟩
  rcases h with ⟨h3, h4⟩ | ⟨h3, I, R, d, h4, h5, h6, h7, h8, h9, h10, h11⟩
  · exact .inl ⟨h3, h4.below hb lE⟩
  · exact .inr ⟨h3, I, R, d, h4.below hb lE, h5, Nat.lt_of_lt_of_le h6 hb.size, Nat.lt_of_lt_of_le h7 hb.size, (hb.cell (by exact h6)).trans h8, h9, h10, fun j hj => ⟨(hb.cell (by exact h7)).trans (h11 j hj).1, (hb.frozen (by exact h7)).trans (h11 j hj).2⟩⟩

theorem find_any (E M c : Nat) (f : Nat → ByteArray) (x : ByteArray) (w : World) (h : Ready w E M c f) :
    Calls Yba.prog 16 #[.pointer (some ⟨E, 0, none⟩), .string x] w fun e w' => ∃ r ok, e = .returned (.tuple #[.int .i64 r, .bool ok]) ∧ Found f c x r ok ∧ Go.RowKit.Below w.heap.size w w' := by
  have lE := h.lt
  obtain ⟨h0, h1, h2, h⟩ := h
  rcases h with ⟨h3, h4⟩ | ⟨h3, I, R, d, h4, h5, h6, h7, h8, h9, h10, h11⟩
  · exact find_lin E M c f x w h0 h4 h1 (by omega)
  · exact find_bin E M c I R d f x w (by omega) h0 h4 h1 (by omega) h6 h7 h8 h9 h10 h11 h5 (by omega)

theorem index_ready (E M c : Nat) (p : Addr) (f : Nat → ByteArray) (w : World) (hc2 : c ≤ 63) (hE : Elem w E M c (.pointer (some p))) (hM : Mem w M f c) (hME : M < E) :
    Calls Yba.prog 14 #[.pointer (some ⟨E, 0, none⟩)] w fun e w' => e = .returned (.tuple #[]) ∧ Ready w' E M c f ∧ Go.RowKit.Below E w w' := by
  by_cases h : c ≤ 8
  · exact (index_small E M c p w h hE).mono fun e w' ⟨h1, h2, h3⟩ => ⟨h1, ⟨hc2, hM.below h3 hME, hME, .inl ⟨h, h2⟩⟩, h3⟩
  · exact (index_big E M c p f w (by omega) hc2 hE hM hME).mono fun e w' ⟨h1, I, R, d, a1, a2, a3, a4, a5, a6, a7, a8, a9, a10⟩ => ⟨h1, ⟨hc2, hM.below a10 hME, hME, .inr ⟨by omega, I, R, d, a5, a2, a3, a4, a6, a7, a8, a9⟩⟩, a10⟩

end Go.Proofs.Ybulkpqm.lawC

import Derived.Test.YbulkpqmRows
import Derived.WalkKit
import Derived.ProofKit
import Derived.OpenShut
import Derived.ShutString
import Derived.ChangeOld
import Derived.Below
import Derived.WalkLawsBesides
namespace Go.Proofs.Ybulkpqm.lawC
open Go.ChangeShapes Go.WideShapes Go.ChangeAt Go.RowKit
set_option linter.unusedVariables false

theorem info52 : (Yba.prog.info? 52).map (fun i => (i.zero, i.size, i.bytes)) = some (some (.agg #[.string ⟨#[]⟩, .int .i32 0, .int .i32 0, .bool false]), 4, 32) := by kernel_rfl

/-- The name of member i: what nameof answers. -/
def nm (ns : Nat → ByteArray) (len i : Nat) : ByteArray := if len = 0 then ⟨#[]⟩ else ns (i % len)

/-- The names as they came in. -/
def Names (w : World) (a : Option Addr) (len : Nat) (ns : Nat → ByteArray) : Prop :=
  len ≤ 1024 ∧ (len = 0 ∨ ∃ b off, a = some ⟨b, off, none⟩ ∧ b < w.heap.size ∧ ∀ j, j < len → w.cell? ⟨b, off + j, none⟩ = some (.string (ns j)))

theorem Names.below {w w' : World} {a : Option Addr} {len : Nat} {ns : Nat → ByteArray} {B : Nat} (h : Names w a len ns) (hb : Below B w w') (hB : w.heap.size ≤ B) : Names w' a len ns := by
  obtain ⟨h1, h2⟩ := h
  refine ⟨h1, ?_⟩
  rcases h2 with h2 | ⟨b, off, rfl, hlt, hc⟩
  · exact .inl h2
  · exact .inr ⟨b, off, rfl, Nat.lt_of_lt_of_le hlt hb.size, fun j hj => (hb.cell (p := ⟨b, off + j, none⟩) (by show b < B; omega)).trans (hc j hj)⟩

set_option maxHeartbeats 400000 in
theorem nameof_zero (a : Option Addr) (cap : Nat) (i : Int) (w : World) :
    Calls Yba.prog 15 #[.slice a 0 cap, .int .i64 i] w fun e w' => e = .returned (.string ⟨#[]⟩) ∧ w' = w := by
  go_enter Yba.func15, Yba.ntmps15
  go_wp2
  go_ret
  exact ⟨rfl, rfl⟩

set_option maxHeartbeats 400000 in
theorem nameof_some (b off len cap i : Nat) (s : ByteArray) (w : World) (hl : 0 < len) (hl2 : len ≤ 1024) (hi : i ≤ 1000000) (hc : w.cell? ⟨b, off + i % len, none⟩ = some (.string s)) :
    Calls Yba.prog 15 #[.slice (some ⟨b, off, none⟩) len cap, .int .i64 i] w fun e w' => e = .returned (.string s) ∧ w' = w := by
  have hne : ((len : Int) == 0) = false := by simp; omega
  have hm : i % len < len := Nat.mod_lt _ hl
  go_enter Yba.func15, Yba.ntmps15
  go_wp2
  go_ret
  exact ⟨rfl, rfl⟩

theorem nameof_any (a : Option Addr) (len cap i : Nat) (ns : Nat → ByteArray) (w : World) (hn : Names w a len ns) (hi : i ≤ 1000000) :
    Calls Yba.prog 15 #[.slice a len cap, .int .i64 i] w fun e w' => e = .returned (.string (nm ns len i)) ∧ w' = w := by
  obtain ⟨h1, h2⟩ := hn
  by_cases h0 : len = 0
  · subst h0
    exact nameof_zero a cap i w
  · rcases h2 with h2 | ⟨b, off, rfl, hlt, hc⟩
    · exact absurd h2 h0
    · have e : nm ns len i = ns (i % len) := by simp [nm, h0]
      rw [e]
      exact nameof_some b off len cap i _ w (by omega) h1 hi (hc _ (Nat.mod_lt _ (by omega)))

/-- The first k members lie in block M. -/
def Mem (w : World) (M : Nat) (f : Nat → ByteArray) (k : Nat) : Prop := ∀ i, i < k →
  w.cell? ⟨M, i * 4, none⟩ = some (.string (f i)) ∧ w.cell? ⟨M, i * 4 + 1, none⟩ = some (.int .i32 i) ∧
  w.cell? ⟨M, i * 4 + 2, none⟩ = some (.int .i32 (i + 1)) ∧ w.cell? ⟨M, i * 4 + 3, none⟩ = some (.bool ((i : Int) % 3 == 0))

def Room (w : World) (M n : Nat) : Prop := ∀ j, j < n * 4 → (∃ v, w.cell? ⟨M, j, none⟩ = some v) ∧ w.frozen? ⟨M, j, none⟩ = false

theorem Room.set {w : World} {M n : Nat} (h : Room w M n) (a : Addr) (v : Value) : Room (w.setCell a v) M n := by
  intro j hj
  obtain ⟨⟨u, hu⟩, hf⟩ := h j hj
  refine ⟨?_, by rw [World.frozen?_setCell]; exact hf⟩
  by_cases e : a = ⟨M, j, none⟩
  · subst e; exact ⟨v, World.cell?_setCell_same _ _ _ hu⟩
  · exact ⟨u, (World.cell?_setCell_other _ _ _ _ e).trans hu⟩

/-- The four stores of one member. -/
def put4 (w : World) (M k : Nat) (s : ByteArray) : World :=
  (((w.setCell ⟨M, k * 4, none⟩ (.string s)).setCell ⟨M, k * 4 + 1, none⟩ (.int .i32 k)).setCell ⟨M, k * 4 + 2, none⟩ (.int .i32 (k + 1))).setCell ⟨M, k * 4 + 3, none⟩ (.bool ((k : Int) % 3 == 0))

theorem set_ne {w : World} {M j j' : Nat} {v : Value} (h : j' ≠ j) : (w.setCell ⟨M, j, none⟩ v).cell? ⟨M, j', none⟩ = w.cell? ⟨M, j', none⟩ :=
  World.cell?_setCell_other _ _ _ _ (by intro e; simp only [Addr.mk.injEq] at e; omega)

theorem set_eq {w : World} {M j : Nat} {v : Value} (h : ∃ u, w.cell? ⟨M, j, none⟩ = some u) : (w.setCell ⟨M, j, none⟩ v).cell? ⟨M, j, none⟩ = some v := by
  obtain ⟨u, hu⟩ := h
  exact World.cell?_setCell_same _ _ _ hu

theorem Room.put4 {w : World} {M n k : Nat} {s : ByteArray} (h : Room w M n) : Room (put4 w M k s) M n := (((h.set _ _).set _ _).set _ _).set _ _

theorem Mem.put4 {w : World} {M n k : Nat} {f : Nat → ByteArray} (h : Mem w M f k) (hr : Room w M n) (hk : k < n) : Mem (put4 w M k (f k)) M f (k + 1) := by
  intro i hi
  unfold lawC.put4
  by_cases e : i = k
  · subst e
    have r0 := hr (i * 4) (by omega)
    have r1 := (hr.set ⟨M, i * 4, none⟩ (.string (f i))) (i * 4 + 1) (by omega)
    have r2 := ((hr.set ⟨M, i * 4, none⟩ (.string (f i))).set ⟨M, i * 4 + 1, none⟩ (.int .i32 i)) (i * 4 + 2) (by omega)
    have r3 := (((hr.set ⟨M, i * 4, none⟩ (.string (f i))).set ⟨M, i * 4 + 1, none⟩ (.int .i32 i)).set ⟨M, i * 4 + 2, none⟩ (.int .i32 (i + 1))) (i * 4 + 3) (by omega)
    refine ⟨?_, ?_, ?_, ?_⟩
    · rw [set_ne (by omega), set_ne (by omega), set_ne (by omega), set_eq r0.1]
    · rw [set_ne (by omega), set_ne (by omega), set_eq r1.1]
    · rw [set_ne (by omega), set_eq r2.1]
    · rw [set_eq r3.1]
  · obtain ⟨h0, h1, h2, h3⟩ := h i (by omega)
    refine ⟨?_, ?_, ?_, ?_⟩
    all_goals (rw [set_ne (by omega), set_ne (by omega), set_ne (by omega), set_ne (by omega)]; assumption)

theorem room_of {w : World} {B e n g : Nat} {xs : List Value} (h : w.ownsRow B e 4 (.slice (some ⟨g, 0, none⟩) n n) n xs) : Room w g n := by
  obtain ⟨hl, h | ⟨g', cap, cur, hv, hg, hh, h1, h2, h3, h4⟩⟩ := h
  · simp at h
  · simp at hv
    obtain ⟨rfl, rfl⟩ := hv
    intro j hj
    have hj' : j < cur.size := by omega
    refine ⟨⟨cur[j], ?_⟩, ?_⟩
    · simp [World.cell?, hh, hj']
    · simp [World.frozen?, hh]

theorem own_lt {w : World} {B e sz g n c : Nat} {xs : List Value} (h : w.ownsRow B e sz (.slice (some ⟨g, 0, none⟩) n c) n xs) : g < w.heap.size := by
  obtain ⟨_, h | ⟨g', cap, cur, hv, hg, hh, r⟩⟩ := h
  · simp at h
  · simp at hv
    obtain ⟨rfl, rfl⟩ := hv
    exact lt_of_block hh

/-- The element's block. -/
def Elem (w : World) (E M c : Nat) (idx : Value) : Prop :=
  w.heap[E]? = some (.cells #[.slice (some ⟨M, 0, none⟩) c c, .slice none 0 0, .slice none 0 0, idx, .string ⟨#[]⟩, .int .i64 0, .int .u8 0] 50 (0, 0))

theorem elem_new (w : World) (o1 o2 : Obj) (M c : Nat) (p : Addr) : ∃ q, Elem (((w.alloc o1).alloc o2).alloc (.cells #[.slice (some ⟨M, 0, none⟩) c c, .slice none 0 0, .slice none 0 0, .pointer (some p), .string ⟨#[]⟩, .int .i64 0, .int .u8 0] 50)) (w.heap.size + 2) M c (.pointer (some q)) := by
  refine ⟨p, ?_⟩
  unfold Elem
  have := heap_alloc_new ((w.alloc o1).alloc o2) (.cells #[.slice (some ⟨M, 0, none⟩) c c, .slice none 0 0, .slice none 0 0, .pointer (some p), .string ⟨#[]⟩, .int .i64 0, .int .u8 0] 50)
  simpa using this

theorem Mem.below {w w' : World} {M k B : Nat} {f : Nat → ByteArray} (h : Mem w M f k) (hb : Below B w w') (hM : M < B) : Mem w' M f k := by
  intro i hi
  obtain ⟨h0, h1, h2, h3⟩ := h i hi
  exact ⟨(hb.cell (by exact hM)).trans h0, (hb.cell (by exact hM)).trans h1, (hb.cell (by exact hM)).trans h2, (hb.cell (by exact hM)).trans h3⟩

theorem Mem.below3 {w : World} {M k : Nat} {f : Nat → ByteArray} (h : Mem w M f k) (hM : M < w.heap.size) (o1 o2 o3 : Obj) : Mem (((w.alloc o1).alloc o2).alloc o3) M f k :=
  h.below ((((Below.refl w.heap.size w).alloc (Nat.le_refl _) _).alloc (by simp) _).alloc (by simp; omega) _) hM

set_option maxHeartbeats 800000 in
set_option maxRecDepth 1000000 in
theorem cbuild_some (b off len cap n : Nat) (ns : Nat → ByteArray) (w : World) (hn : n ≤ 255) (hl : 0 < len) (hl2 : len ≤ 1024) (hb : b < w.heap.size)
    (hc : ∀ j, j < len → w.cell? ⟨b, off + j, none⟩ = some (.string (ns j))) :
    Calls Yba.prog 13 #[.slice (some ⟨b, off, none⟩) len cap, .int .u8 n] w fun e w' => ∃ E, w.heap.size < E ∧ e = .returned (.pointer (some ⟨E, 0, none⟩)) ∧
      (∃ p, Elem w' E w.heap.size (n % 64) (.pointer (some p))) ∧ Mem w' w.heap.size (nm ns len) (n % 64) ∧ Below w.heap.size w w' := by
  obtain ⟨i0, hi, hz0, hz1, hz2⟩ := info_parts info52
  go_enter Yba.func13, Yba.ntmps13
  go_wp2_with (at_make; refine wpList_make_full _ rfl _ _ 44 rfl w.heap.size 52 i0 _ 4 Yba.underlying44 hi hz0 hz1 _ _ _ _ (n % 64) rfl rfl (by omega) (by omega) ?b2 ?b3 (Nat.le_refl _) ?_)
  case b2 => rw [hz2]; omega
  case b3 => unfold maxLen; omega
  intro w0 hown0 hgrow0
  have hb0 : Below w.heap.size w w0 := (Below.refl _ _).grown hgrow0 (Nat.le_refl _) (fun k h => by cases h)
  have hr0 : Room w0 w.heap.size (n % 64) := room_of hown0
  have hlt0 := own_lt hown0
  clear hown0 hgrow0
  have hcl : n % 64 < 64 := Nat.mod_lt _ (by omega)
  go_wp2
  go_loopw [7] (fun i wr => ∃ k : Nat, k ≤ n % 64 ∧ i = .int .i64 k ∧ Mem wr w.heap.size (nm ns len) k ∧ Room wr w.heap.size (n % 64) ∧ Below w.heap.size w wr ∧ w.heap.size < wr.heap.size)
    (fun i _ => n % 64 - (intOf i).toNat)
  case atStart => exact ⟨0, Nat.zero_le _, rfl, fun i hi => absurd hi (Nat.not_lt_zero _), hr0, hb0, hlt0⟩
  case round =>
    obtain ⟨k, hk, rfl, hM, hR, hB, hS⟩ := hrel
    by_cases hlt : k < n % 64
    · have hml : k % len < len := Nat.mod_lt _ hl
      have hcx : wr.cell? ⟨b, off + k % len, none⟩ = some (.string (ns (k % len))) := (hB.cell (by exact hb)).trans (hc _ hml)
      have HM : Mem (put4 wr w.heap.size k (ns (k % len))) w.heap.size (nm ns len) (k + 1) := by
        have := hM.put4 hR hlt
        rwa [show nm ns len k = ns (k % len) from if_neg (by omega)] at this
      obtain ⟨⟨v0, c0⟩, f0⟩ := hR (k * 4) (by omega)
      obtain ⟨⟨v1, c1⟩, f1⟩ := (hR.set ⟨w.heap.size, k * 4, none⟩ (.string (ns (k % len)))) (k * 4 + 1) (by omega)
      obtain ⟨⟨v2, c2⟩, f2⟩ := ((hR.set ⟨w.heap.size, k * 4, none⟩ (.string (ns (k % len)))).set ⟨w.heap.size, k * 4 + 1, none⟩ (.int .i32 k)) (k * 4 + 2) (by omega)
      obtain ⟨⟨v3, c3⟩, f3⟩ := (((hR.set ⟨w.heap.size, k * 4, none⟩ (.string (ns (k % len)))).set ⟨w.heap.size, k * 4 + 1, none⟩ (.int .i32 k)).set ⟨w.heap.size, k * 4 + 2, none⟩ (.int .i32 (k + 1))) (k * 4 + 3) (by omega)
      go_wp2
      go_roundw
      case rel => exact ⟨k + 1, by omega, by go_num, HM, hR.put4, (((hB.setCell (Nat.le_refl _) _).setCell (Nat.le_refl _) _).setCell (Nat.le_refl _) _).setCell (Nat.le_refl _) _, by simpa using hS⟩
      case measure => simp [intOf]; omega
    · obtain rfl : k = n % 64 := by omega
      go_wp2
      go_ret
      exact ⟨wr.heap.size + 2, by omega, rfl, elem_new _ _ _ _ _ _, Mem.below3 hM hS _ _ _, ((hB.alloc hB.size _).alloc (by simp; omega) _).alloc (by simp; omega) _⟩

set_option maxHeartbeats 800000 in
set_option maxRecDepth 1000000 in
theorem cbuild_zero (a : Option Addr) (cap n : Nat) (ns : Nat → ByteArray) (w : World) (hn : n ≤ 255) :
    Calls Yba.prog 13 #[.slice a 0 cap, .int .u8 n] w fun e w' => ∃ E, w.heap.size < E ∧ e = .returned (.pointer (some ⟨E, 0, none⟩)) ∧
      (∃ p, Elem w' E w.heap.size (n % 64) (.pointer (some p))) ∧ Mem w' w.heap.size (nm ns 0) (n % 64) ∧ Below w.heap.size w w' := by
  obtain ⟨i0, hi, hz0, hz1, hz2⟩ := info_parts info52
  go_enter Yba.func13, Yba.ntmps13
  go_wp2_with (at_make; refine wpList_make_full _ rfl _ _ 44 rfl w.heap.size 52 i0 _ 4 Yba.underlying44 hi hz0 hz1 _ _ _ _ (n % 64) rfl rfl (by omega) (by omega) ?b2 ?b3 (Nat.le_refl _) ?_)
  case b2 => rw [hz2]; omega
  case b3 => unfold maxLen; omega
  intro w0 hown0 hgrow0
  have hb0 : Below w.heap.size w w0 := (Below.refl _ _).grown hgrow0 (Nat.le_refl _) (fun k h => by cases h)
  have hr0 : Room w0 w.heap.size (n % 64) := room_of hown0
  have hlt0 := own_lt hown0
  clear hown0 hgrow0
  have hcl : n % 64 < 64 := Nat.mod_lt _ (by omega)
  go_wp2
  go_loopw [7] (fun i wr => ∃ k : Nat, k ≤ n % 64 ∧ i = .int .i64 k ∧ Mem wr w.heap.size (nm ns 0) k ∧ Room wr w.heap.size (n % 64) ∧ Below w.heap.size w wr ∧ w.heap.size < wr.heap.size)
    (fun i _ => n % 64 - (intOf i).toNat)
  case atStart => exact ⟨0, Nat.zero_le _, rfl, fun i hi => absurd hi (Nat.not_lt_zero _), hr0, hb0, hlt0⟩
  case round =>
    obtain ⟨k, hk, rfl, hM, hR, hB, hS⟩ := hrel
    by_cases hlt : k < n % 64
    · have HM : Mem (put4 wr w.heap.size k ⟨#[]⟩) w.heap.size (nm ns 0) (k + 1) := by
        have := hM.put4 hR hlt
        exact this
      obtain ⟨⟨v0, c0⟩, f0⟩ := hR (k * 4) (by omega)
      obtain ⟨⟨v1, c1⟩, f1⟩ := (hR.set ⟨w.heap.size, k * 4, none⟩ (.string ⟨#[]⟩)) (k * 4 + 1) (by omega)
      obtain ⟨⟨v2, c2⟩, f2⟩ := ((hR.set ⟨w.heap.size, k * 4, none⟩ (.string ⟨#[]⟩)).set ⟨w.heap.size, k * 4 + 1, none⟩ (.int .i32 k)) (k * 4 + 2) (by omega)
      obtain ⟨⟨v3, c3⟩, f3⟩ := (((hR.set ⟨w.heap.size, k * 4, none⟩ (.string ⟨#[]⟩)).set ⟨w.heap.size, k * 4 + 1, none⟩ (.int .i32 k)).set ⟨w.heap.size, k * 4 + 2, none⟩ (.int .i32 (k + 1))) (k * 4 + 3) (by omega)
      go_wp2
      go_roundw
      case rel => exact ⟨k + 1, by omega, by go_num, HM, hR.put4, (((hB.setCell (Nat.le_refl _) _).setCell (Nat.le_refl _) _).setCell (Nat.le_refl _) _).setCell (Nat.le_refl _) _, by simpa using hS⟩
      case measure => simp [intOf]; omega
    · obtain rfl : k = n % 64 := by omega
      go_wp2
      go_ret
      exact ⟨wr.heap.size + 2, by omega, rfl, elem_new _ _ _ _ _ _, Mem.below3 hM hS _ _ _, ((hB.alloc hB.size _).alloc (by simp; omega) _).alloc (by simp; omega) _⟩

theorem cbuild_any (a : Option Addr) (len cap n : Nat) (ns : Nat → ByteArray) (w : World) (hn : n ≤ 255) (hN : Names w a len ns) :
    Calls Yba.prog 13 #[.slice a len cap, .int .u8 n] w fun e w' => ∃ E, w.heap.size < E ∧ e = .returned (.pointer (some ⟨E, 0, none⟩)) ∧
      (∃ p, Elem w' E w.heap.size (n % 64) (.pointer (some p))) ∧ Mem w' w.heap.size (nm ns len) (n % 64) ∧ Below w.heap.size w w' := by
  obtain ⟨h1, h2⟩ := hN
  by_cases h0 : len = 0
  · subst h0
    exact cbuild_zero a cap n ns w hn
  · rcases h2 with h2 | ⟨b, off, rfl, hlt, hc⟩
    · exact absurd h2 h0
    · exact cbuild_some b off len cap n ns w hn (by omega) h1 hlt hc

end Go.Proofs.Ybulkpqm.lawC

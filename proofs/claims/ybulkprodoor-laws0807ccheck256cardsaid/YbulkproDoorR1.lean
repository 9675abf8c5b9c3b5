import Derived.Test.YbulkproDoorH5
import Derived.Laws.CopyOwn
import Derived.LaidEql
namespace Go.Proofs.YbulkproDoor.law
open Go.ChangeShapes Go.WideShapes Go.ChangeAt Go.RowKit
set_option linter.unusedVariables false

/-- WHAT THE WALK IS TOLD OF A SLICE OF BYTES THAT CAME IN. -/
def IsRow (k : IntKind) (w : World) (a : Option Addr) (len cap : Nat) (zs : List Int) : Prop :=
  (a = none ∧ len = 0 ∧ cap = 0 ∧ zs = []) ∨
  ∃ x, a = some x ∧ len ≤ cap ∧ cap ≤ maxLen ∧ zs.length = cap ∧ (∀ i, i < zs.length → w.cell? (x.add i) = some (.int k (zs.getD i 0))) ∧ ∀ n ∈ zs, (Lit.int k n).wf = true

theorem cell_lt {w : World} {p : Addr} {v : Value} (h : w.cell? p = some v) : p.block < w.heap.size := by
  rcases Nat.lt_or_ge p.block w.heap.size with h' | h'
  · exact h'
  · simp [World.cell?, Array.getElem?_eq_none h'] at h

theorem isRow_below {k : IntKind} {w w' : World} {a : Option Addr} {len cap : Nat} {zs : List Int} (h : IsRow k w a len cap zs) (hb : Below w.heap.size w w') : IsRow k w' a len cap zs := by
  rcases h with h | ⟨x, rfl, h1, h2, h3, hc, h4⟩
  · exact .inl h
  · exact .inr ⟨x, rfl, h1, h2, h3, fun i hi => (hb.cell (cell_lt (hc i hi))).trans (hc i hi), h4⟩

/-- The block as the law lays it: the first bytes of what came in, then zeros. -/
def blk (zs : List Int) (len j : Nat) : Int := if j < len then zs.getD j 0 else 0
def blkv (zs : List Int) (len : Nat) : Nat → Value := fun j => .int .u8 (blk zs len j)

theorem blk_bd {w : World} {a : Option Addr} {len cap : Nat} {zs : List Int} (h : IsRow .u8 w a len cap zs) (j : Nat) : 0 ≤ blk zs len j ∧ blk zs len j ≤ 255 := by
  unfold blk
  split
  · rcases h with ⟨_, rfl, _, rfl⟩ | ⟨x, _, h1, _, h3, _, h4⟩
    · simp
    · have : zs.getD j 0 ∈ zs := by
        rw [List.getD_eq_getElem?_getD, List.getElem?_eq_getElem (by omega)]
        exact List.getElem_mem _
      exact bounds_u8 (h4 _ this)
  · omega

/-- copy(blk[:], block). -/
theorem copy_blk (K len cap N : Nat) (a : Option Addr) (zs : List Int) (W : World) (hK : Dig W K (fun _ => .int .u8 0) N) (hr : IsRow .u8 W a len cap zs) :
    ∃ m W', (Builtin.copy_ #[24, 24] 3 #[.slice (some ⟨K, 0, none⟩) N N, .slice a len cap]).run Ybad.prog W = .ok (goInt m) W' ∧ Dig W' K (blkv zs len) N ∧ W.grownBy W' (some K) := by
  by_cases h0 : Nat.min len N = 0
  · refine ⟨0, W, ?_, ?_, World.grownBy.refl _ _⟩
    · have hsz : (Ybad.prog.info? 5).map (·.size) = some 1 := by
        obtain ⟨i0, hi, hz0, hz1, hz2⟩ := info_parts info5
        rw [hi]; simp [hz1]
      exact run_copy_none (P := Ybad.prog) W 24 24 3 5 (some ⟨K, 0, none⟩) a N N len cap Ybad.underlying24 hsz h0
    · refine hK.congr fun j hj => ?_
      unfold blkv blk
      have h0' : min len N = 0 := h0
      rw [if_neg (by omega)]
  · have hlen : 0 < len := by
      have h0' : ¬ min len N = 0 := h0
      omega
    rcases hr with ⟨_, h, _⟩ | ⟨x, rfl, h1, h2, h3, hc, h4⟩
    · omega
    · obtain ⟨b, off, rfl, hc'⟩ := ints_at hc (by omega)
      have hml : min len N ≤ len := Nat.min_le_left _ _
      have hmN : min len N ≤ N := Nat.min_le_right _ _
      have hcp := run_copy_dig K 0 N N b off len cap N (fun _ => .int .u8 0) (seg (fun j => zs.getD j 0) 0 (min len N)) W hK (seg_len _ _ _) (by rw [seg_len]; omega) (seg_one _ _ _) (fun j v hj => by
        obtain ⟨hj1, rfl⟩ := seg_src hj
        have := hc' j (by omega)
        rwa [Nat.zero_add])
      refine ⟨_, _, hcp, ?_, grown_puts _ _ _ _⟩
      refine (Dig.puts _ hK (by rw [seg_len]; omega)).congr fun j hj => ?_
      rw [over_at, seg_len]
      unfold blkv blk
      by_cases hj2 : j < len
      · rw [if_pos hj2, if_pos ⟨Nat.zero_le _, by omega⟩, seg_getD _ _ _ _ _ (by omega)]
        simp
      · rw [if_neg hj2, if_neg (by omega)]

def z128 : Array Value := Array.replicate 128 (.int .u8 0)
theorem zero38 (w : World) : Sem.run Ybad.prog (zeroValue 38) w = .ok (.agg z128) w := by kernel_rfl
theorem dig128 (w : World) (t : TypeId) : Dig (w.alloc (.cells z128 t)) w.heap.size (fun _ => .int .u8 0) 128 :=
  dig_of (t := t) (heap_alloc_new _ _) fun j hj => by unfold z128; rw [Array.getElem?_replicate, if_pos hj]

/-! ### The saved state, as a list of bytes -/
def byte (z : Int) : Prop := 0 ≤ z ∧ z ≤ 255
def hdl (id : Int) (e : Int → List Int) (x : Nat → Int) : Nat → List Int
  | 0 => [104, 119, 1, id]
  | k + 1 => hdl id e x k ++ e (x k)

theorem hdl_len (id : Int) (e : Int → List Int) (x : Nat → Int) (m : Nat) (he : ∀ z, (e z).length = m) : ∀ k, (hdl id e x k).length = 4 + m * k
  | 0 => by simp [hdl]
  | k + 1 => by rw [hdl, List.length_append, hdl_len id e x m he k, he, Nat.mul_succ, Nat.add_assoc]

theorem hdl_head (id : Int) (e : Int → List Int) (x : Nat → Int) (k i : Nat) (hi : i < 4) : (hdl id e x k).getD i 0 = ([104, 119, 1, id] : List Int).getD i 0 := by
  have hl : ∀ k, 4 ≤ (hdl id e x k).length := fun k => by
    induction k with
    | zero => simp [hdl]
    | succ k ih => rw [hdl, List.length_append]; omega
  induction k with
  | zero => rfl
  | succ k ih =>
    rw [hdl, List.getD_eq_getElem?_getD, List.getElem?_append_left (by have := hl k; omega), ← List.getD_eq_getElem?_getD]
    exact ih

theorem hdl_at (id : Int) (e : Int → List Int) (x : Nat → Int) (m : Nat) (he : ∀ z, (e z).length = m) (i t : Nat) (ht : t < m) : ∀ k, i < k → (hdl id e x k).getD (4 + m * i + t) 0 = (e (x i)).getD t 0
  | 0, h => by omega
  | k + 1, h => by
    have hlk := hdl_len id e x m he k
    rw [hdl, List.getD_eq_getElem?_getD]
    by_cases hik : i < k
    · have h1 : m * i + m ≤ m * k := by have := Nat.mul_le_mul_left m (show i + 1 ≤ k by omega); rwa [Nat.mul_succ] at this
      rw [List.getElem?_append_left (by omega), ← List.getD_eq_getElem?_getD]
      exact hdl_at id e x m he i t ht k hik
    · obtain rfl : i = k := by omega
      rw [List.getElem?_append_right (by omega), List.getD_eq_getElem?_getD]
      congr 2
      omega

theorem hdl_byte (id : Int) (e : Int → List Int) (x : Nat → Int) (hid : byte id) : ∀ k, (∀ i, i < k → ∀ b ∈ e (x i), byte b) → ∀ b ∈ hdl id e x k, byte b
  | 0, _ => by
    intro b hb
    simp [hdl] at hb
    rcases hb with rfl | rfl | rfl | rfl
    · exact ⟨by omega, by omega⟩
    · exact ⟨by omega, by omega⟩
    · exact ⟨by omega, by omega⟩
    · exact hid
  | k + 1, h => by
    intro b hb
    rw [hdl, List.mem_append] at hb
    rcases hb with hb | hb
    · exact hdl_byte id e x hid k (fun i hi => h i (by omega)) b hb
    · exact h k (by omega) b hb

theorem be8_byte (x : Int) (h0 : 0 ≤ x) (h1 : x ≤ 18446744073709551615) : ∀ b ∈ be8 x, byte b := by
  intro b hb
  simp only [be8, List.mem_cons, List.not_mem_nil, or_false] at hb
  unfold byte
  rcases hb with rfl | rfl | rfl | rfl | rfl | rfl | rfl | rfl <;> omega
theorem be4_byte (x : Int) (h0 : 0 ≤ x) (h1 : x ≤ 4294967295) : ∀ b ∈ be4 x, byte b := by
  intro b hb
  simp only [be4, List.mem_cons, List.not_mem_nil, or_false] at hb
  unfold byte
  rcases hb with rfl | rfl | rfl | rfl <;> omega

/-- The whole state: head, hash value, block, length. -/
def stt (id : Int) (e : Int → List Int) (x : Nat → Int) (bl : Nat → Int) (N : Nat) (n : Int) : List Int := hdl id e x 8 ++ (List.range N).map bl ++ be8 n

theorem stt_len (id : Int) (e : Int → List Int) (x : Nat → Int) (bl : Nat → Int) (N : Nat) (n : Int) (m : Nat) (he : ∀ z, (e z).length = m) : (stt id e x bl N n).length = 4 + m * 8 + N + 8 := by
  simp [stt, hdl_len id e x m he, be8]
  omega
theorem getD_left {l r : List Int} {i : Nat} (h : i < l.length) : (l ++ r).getD i 0 = l.getD i 0 := by
  rw [List.getD_eq_getElem?_getD, List.getElem?_append_left h, ← List.getD_eq_getElem?_getD]
theorem getD_right {l r : List Int} {i j : Nat} (h : i = l.length + j) : (l ++ r).getD i 0 = r.getD j 0 := by
  subst h
  rw [List.getD_eq_getElem?_getD, List.getElem?_append_right (by omega), Nat.add_sub_cancel_left, ← List.getD_eq_getElem?_getD]

theorem stt_head (id : Int) (e : Int → List Int) (x : Nat → Int) (bl : Nat → Int) (N : Nat) (n : Int) (m : Nat) (he : ∀ z, (e z).length = m) (i : Nat) (hi : i < 4) : (stt id e x bl N n).getD i 0 = ([104, 119, 1, id] : List Int).getD i 0 := by
  have := hdl_len id e x m he 8
  unfold stt
  rw [getD_left (by rw [List.length_append]; omega), getD_left (by omega), hdl_head id e x 8 i hi]
theorem stt_word (id : Int) (e : Int → List Int) (x : Nat → Int) (bl : Nat → Int) (N : Nat) (n : Int) (m : Nat) (he : ∀ z, (e z).length = m) (i t : Nat) (hi : i < 8) (ht : t < m) : (stt id e x bl N n).getD (4 + m * i + t) 0 = (e (x i)).getD t 0 := by
  have hl := hdl_len id e x m he 8
  have h1 : m * i + m ≤ m * 8 := by have := Nat.mul_le_mul_left m (show i + 1 ≤ 8 by omega); rwa [Nat.mul_succ] at this
  unfold stt
  rw [getD_left (by rw [List.length_append]; omega), getD_left (by omega), hdl_at id e x m he i t ht 8 hi]
theorem stt_blk (id : Int) (e : Int → List Int) (x : Nat → Int) (bl : Nat → Int) (N : Nat) (n : Int) (m : Nat) (he : ∀ z, (e z).length = m) (j : Nat) (hj : j < N) : (stt id e x bl N n).getD (4 + m * 8 + j) 0 = bl j := by
  have hl := hdl_len id e x m he 8
  unfold stt
  rw [getD_left (by rw [List.length_append, List.length_map, List.length_range]; omega), getD_right (j := j) (by omega)]
  simp [List.getD_eq_getElem?_getD, hj]
theorem stt_n (id : Int) (e : Int → List Int) (x : Nat → Int) (bl : Nat → Int) (N : Nat) (n : Int) (m : Nat) (he : ∀ z, (e z).length = m) (t : Nat) : (stt id e x bl N n).getD (4 + m * 8 + N + t) 0 = (be8 n).getD t 0 := by
  have hl := hdl_len id e x m he 8
  unfold stt
  rw [getD_right (j := t) (by rw [List.length_append, List.length_map, List.length_range]; omega)]
theorem stt_byte (id : Int) (e : Int → List Int) (x : Nat → Int) (bl : Nat → Int) (N : Nat) (n : Int) (hid : byte id) (he : ∀ i, i < 8 → ∀ b ∈ e (x i), byte b) (hb : ∀ j, byte (bl j)) (hn : ∀ b ∈ be8 n, byte b) (i : Nat) : byte ((stt id e x bl N n).getD i 0) := by
  rcases Nat.lt_or_ge i (stt id e x bl N n).length with h | h
  · rw [List.getD_eq_getElem?_getD, List.getElem?_eq_getElem h]
    have : (stt id e x bl N n)[i] ∈ stt id e x bl N n := List.getElem_mem _
    simp only [Option.getD_some]
    generalize (stt id e x bl N n)[i] = b at this
    unfold stt at this
    rw [List.mem_append, List.mem_append] at this
    rcases this with (h1 | h1) | h1
    · exact hdl_byte id e x hid 8 he b h1
    · obtain ⟨j, _, rfl⟩ := List.mem_map.1 h1
      exact hb j
    · exact hn b h1
  · rw [List.getD_eq_getElem?_getD, List.getElem?_eq_none h]
    exact ⟨Int.le_refl _, by simp⟩

theorem info49 : (Ybad.prog.info? 49).map (fun i => i.size) = some 3 := by kernel_rfl
theorem info32 : (Ybad.prog.info? 32).map (fun i => i.size) = some 3 := by kernel_rfl
theorem peq_in (P : Program) (d : Nat) (t e : TypeId) (a : Addr) (w : World) (h : P.underlying t = some (.pointer e)) (n : Nat) (hi : (P.info? e).map (fun i => i.size) = some (n + 1)) :
    (Op.equalIn (d + 1) t (.pointer (some a)) (.pointer (some a))).run P w = .ok true w := by
  obtain ⟨i, h1, _⟩ := Option.map_eq_some_iff.1 hi
  simp [Op.equalIn, run_underlying h, sizeOf, typeInfo, h1, run_sameAddr_same]
theorem pneq (P : Program) (t e : TypeId) (a : Addr) (w : World) (h : P.underlying t = some (.pointer e)) (n : Nat) (hi : (P.info? e).map (fun i => i.size) = some (n + 1)) :
    Sem.run P (binOp .neq t (.pointer (some a)) (.pointer (some a))) w = .ok (.bool false) w := by
  simp only [binOp]
  simp [Op.equal, Op.maxDepth, peq_in P 9999 t e a w h n hi]
theorem pneq46 (a : Addr) (w : World) : Sem.run Ybad.prog (binOp .neq 46 (.pointer (some a)) (.pointer (some a))) w = .ok (.bool false) w := pneq Ybad.prog 46 49 a w Ybad.underlying46 2 info49
theorem pneq29 (a : Addr) (w : World) : Sem.run Ybad.prog (binOp .neq 29 (.pointer (some a)) (.pointer (some a))) w = .ok (.bool false) w := pneq Ybad.prog 29 32 a w Ybad.underlying29 2 info32

end Go.Proofs.YbulkproDoor.law

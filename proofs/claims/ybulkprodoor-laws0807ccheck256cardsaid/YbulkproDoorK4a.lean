import Derived.Test.YbulkproDoorK3
namespace Go.Proofs.YbulkproDoor.law
open Go.ChangeShapes Go.WideShapes Go.ChangeAt Go.RowKit
set_option linter.unusedVariables false

def eight : Array Value := #[.int .u32 1, .int .u32 2, .int .u32 3, .int .u32 4, .int .u32 5, .int .u32 6, .int .u32 7, .int .u32 8]

theorem eight_cells (w : World) (o : Obj) : ∀ i, i < 8 → ((w.alloc (.cells eight 23)).alloc o).cell? ⟨w.heap.size, i, none⟩ = some (.int .u32 ((fun i => (i : Int) + 1 : Nat → Int) i)) := by
  intro i hi
  match i, hi with
  | 0, _ => simp [eight]
  | 1, _ => simp [eight]
  | 2, _ => simp [eight]
  | 3, _ => simp [eight]
  | 4, _ => simp [eight]
  | 5, _ => simp [eight]
  | 6, _ => simp [eight]
  | 7, _ => simp [eight]

/-- newDigest, at the law's own variant. -/
theorem made32b (w3 : World) : Calls Ybad.prog 8 #[.pointer (some ⟨w3.heap.size + 1, 0, none⟩)] ((w3.alloc (.cells eight 23)).alloc (.cells #[.int .u8 2, .pointer (some ⟨w3.heap.size, 0, none⟩), .int .i64 32] 32)) fun e w' =>
    e = .returned (.pointer (some ⟨w3.heap.size + 2, 0, none⟩)) ∧ Dig w' (w3.heap.size + 2) (fresh (w3.heap.size + 1) (fun i => .int .u32 ((i : Int) + 1))) 139 ∧ Below w3.heap.size w3 w' ∧ w'.cell? ⟨w3.heap.size + 1, 0, none⟩ = some (.int .u8 2) ∧ w3.heap.size + 2 < w'.heap.size := by
  have hnw := new32 (w3.heap.size + 1) w3.heap.size (fun i => (i : Int) + 1) ((w3.alloc (.cells eight 23)).alloc (.cells #[.int .u8 2, .pointer (some ⟨w3.heap.size, 0, none⟩), .int .i64 32] 32))
    (by simp) (by simp; omega) (by simp) (eight_cells w3 _)
  have bC : Below w3.heap.size w3 ((w3.alloc (.cells eight 23)).alloc (.cells #[.int .u8 2, .pointer (some ⟨w3.heap.size, 0, none⟩), .int .i64 32] 32)) := ((Below.refl _ _).alloc (Nat.le_refl _) _).alloc (by simp) _
  have sC : ((w3.alloc (.cells eight 23)).alloc (.cells #[.int .u8 2, .pointer (some ⟨w3.heap.size, 0, none⟩), .int .i64 32] 32)).heap.size = w3.heap.size + 2 := by simp
  have cC : ((w3.alloc (.cells eight 23)).alloc (.cells #[.int .u8 2, .pointer (some ⟨w3.heap.size, 0, none⟩), .int .i64 32] 32)).cell? ⟨w3.heap.size + 1, 0, none⟩ = some (.int .u8 2) := by simp
  generalize ((w3.alloc (.cells eight 23)).alloc (.cells #[.int .u8 2, .pointer (some ⟨w3.heap.size, 0, none⟩), .int .i64 32] 32)) = W at *
  rw [sC] at hnw
  exact hnw.mono fun e w' ⟨h1, h2, h3, h4⟩ => ⟨h1, h2, bC.trans (h3.mono (by omega)), (h3.cell (by show w3.heap.size + 1 < w3.heap.size + 2; omega)).trans cC, h4⟩

/-- The digest ahead of UnmarshalBinary. -/
def befF (V : Nat) : Nat → Value := upd (upd (upd (upd (fresh V (fun i => .int .u32 ((i : Int) + 1))) 14 (.int .u8 9)) 79 (.int .u8 3)) 138 (.int .u64 77)) 137 (.int .i64 13)

theorem bef_zero (V : Nat) : befF V 0 = .pointer (some ⟨V, 0, none⟩) := rfl

theorem bef_shape (V : Nat) : Shape (befF V) := by
  refine ⟨⟨_, rfl⟩, ?_, ?_, ⟨_, rfl⟩, ⟨_, rfl⟩⟩
  · intro i hi
    refine ⟨((1 + i - 1 : Nat) : Int) + 1, ?_⟩
    unfold befF upd fresh
    rw [if_neg (by omega), if_neg (by omega), if_neg (by omega), if_neg (by omega), if_neg (by omega), if_pos (by omega)]
  · intro i hi
    unfold befF upd fresh
    rw [if_neg (by omega), if_neg (by omega)]
    split
    · exact ⟨_, rfl⟩
    · split
      · exact ⟨_, rfl⟩
      · rw [if_neg (by omega), if_neg (by omega), if_pos (by omega)]
        exact ⟨_, rfl⟩

theorem un32_word (F : Nat → Value) (B : Nat → Int) (k : Nat) (hk : k < 8) : un32 F B (1 + k) = .int .u32 (val4 (fun t => B (4 + 4 * k + t))) := by
  unfold un32 upd
  rw [if_neg (by omega), if_neg (by omega), over_at, if_neg (by omega)]
  unfold rd32
  rw [if_pos (by omega)]
  have : (fun t => B (4 + (4 * (1 + k - 1) + t))) = fun t => B (4 + 4 * k + t) := funext fun t => by congr 1; omega
  rw [this]
theorem un32_buf (F : Nat → Value) (B : Nat → Int) (i : Nat) (hi : i < 64) : un32 F B (9 + i) = .int .u8 (B (36 + i)) := by
  unfold un32 upd
  rw [if_neg (by omega), if_neg (by omega), over_at, seg_len, if_pos (by omega), Nat.add_sub_cancel_left, seg_getD _ _ _ _ _ hi]
theorem un32_tail (F : Nat → Value) (B : Nat → Int) (i : Nat) (hi : 64 ≤ i) (hi2 : i < 128) : un32 F B (9 + i) = F (9 + i) := by
  unfold un32 upd
  rw [if_neg (by omega), if_neg (by omega), over_at, seg_len, if_neg (by omega)]
  unfold rd32
  rw [if_neg (by omega)]
theorem un32_zero (F : Nat → Value) (B : Nat → Int) : un32 F B 0 = F 0 := by
  unfold un32 upd
  rw [if_neg (by omega), if_neg (by omega), over_at, if_neg (by omega)]
  unfold rd32
  rw [if_neg (by omega)]
theorem un32_n (F : Nat → Value) (B : Nat → Int) : un32 F B 138 = .int .u64 (val8 (fun t => B (100 + t))) := rfl
theorem un32_nbuf (F : Nat → Value) (B : Nat → Int) : un32 F B 137 = .int .i64 (val8 (fun t => B (100 + t)) % 64) := rfl

/-- before := *d: the new block holds what d holds. -/
theorem dig_z40 (w : World) : ∃ G : Nat → Value, Dig (w.alloc (.cells z40 40)) w.heap.size G 139 := ⟨_, dig_of (t := 40) (heap_alloc_new _ _) fun j hj => z40_at j hj⟩

theorem over_row (F G : Nat → Value) (j : Nat) (hj : j < 139) : over G 0 (row F 139) j = F j := by
  rw [over_at, row_len, if_pos (by omega), Nat.sub_zero, List.getD_eq_getElem?_getD, row_at F 139 j hj]
  rfl

theorem before_dig (F : Nat → Value) (w : World) : ∃ Gz : Nat → Value, Dig (w.alloc (.cells z40 40)) w.heap.size Gz 139 ∧ Dig (puts (w.alloc (.cells z40 40)) w.heap.size 0 (row F 139)) w.heap.size F 139 ∧ Below w.heap.size w (puts (w.alloc (.cells z40 40)) w.heap.size 0 (row F 139)) := by
  obtain ⟨Gz, hE⟩ := dig_z40 w
  have bE : Below w.heap.size w (w.alloc (.cells z40 40)) := (Below.refl _ _).alloc (Nat.le_refl _) _
  have gE := grown_puts (row F 139) (w.alloc (.cells z40 40)) w.heap.size 0
  have hE6 := Dig.puts (o := 0) (row F 139) hE (by rw [row_len]; omega)
  exact ⟨Gz, hE, hE6.congr (fun j hj => over_row F Gz j hj), bE.grown gE bE.size (fun k hk => by cases hk; omega)⟩

theorem store_snap (E : Nat) (F G : Nat → Value) (w : World) (h : Dig w E G 139) (hF : ∀ j, j < 139 → (F j).oneCell' = true) : (storeCells ⟨E, 0, none⟩ (snap F).toList).run Ybad.prog w = .ok () (puts w E 0 (row F 139)) := by
  have hst := run_puts Ybad.prog (row F 139) 0 (o := 0) h (by rw [row_len]; omega) (fun v hv => by
    obtain ⟨j, hj, rfl⟩ := List.mem_map.1 hv
    exact hF j (by simpa using hj))
  have hl : (snap F).toList = row F 139 := by simp [snap]
  rw [hl]
  exact hst

end Go.Proofs.YbulkproDoor.law

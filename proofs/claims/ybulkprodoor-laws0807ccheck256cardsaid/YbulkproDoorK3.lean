import Derived.Test.YbulkproDoorK2
import Derived.Laws.StructEq
import Derived.Laws.Rows
namespace Go.Proofs.YbulkproDoor.law
open Go.ChangeShapes Go.WideShapes Go.ChangeAt Go.RowKit
set_option linter.unusedVariables false

/-- What lies in the first N cells. -/
def row (F : Nat → Value) (N : Nat) : List Value := (List.range N).map F
def snap (F : Nat → Value) : Array Value := (row F 139).toArray

theorem row_len (F : Nat → Value) (N : Nat) : (row F N).length = N := by simp [row]
theorem row_at (F : Nat → Value) (N j : Nat) (h : j < N) : (row F N)[j]? = some (F j) := by simp [row, h]
theorem row_src {F : Nat → Value} {N j : Nat} {v : Value} (h : (row F N)[j]? = some v) : j < N ∧ v = F j := by
  have hj : j < N := by have := (List.getElem?_eq_some_iff.1 h).1; rwa [row_len] at this
  rw [row_at F N j hj] at h
  exact ⟨hj, (Option.some.inj h).symm⟩
theorem snap_at (F : Nat → Value) (j : Nat) (h : j < 139) : (snap F)[j]? = some (F j) := by
  unfold snap
  rw [List.getElem?_toArray, row_at F 139 j h]
theorem snap_size (F : Nat → Value) : (snap F).size = 139 := by simp [snap, row_len]

theorem info40 : (Ybad.prog.info? 40).map (fun i => i.size) = some 139 := by kernel_rfl

theorem run_load40 (D : Nat) (F : Nat → Value) (w : World) (h : Dig w D F 139) : (loadVar 40 ⟨D, 0, none⟩).run Ybad.prog w = .ok (.agg (snap F)) w := by
  have hl := run_loadCells_list (P := Ybad.prog) w ⟨D, 0, none⟩ (row F 139) (fun j v hj => by
    obtain ⟨hj1, rfl⟩ := row_src hj
    rw [Addr.add_lit, Nat.zero_add]
    exact (h j hj1).1)
  rw [row_len] at hl
  obtain ⟨i, h1, h2⟩ := Option.map_eq_some_iff.1 info40
  have hagg : (isAgg 40).run Ybad.prog w = .ok true w := by
    unfold isAgg
    rw [Sem.run_bind, run_underlying Ybad.underlying40 w]
    rfl
  simp [loadVar, hagg, sizeOf, typeInfo, h1, h2, hl, snap]

theorem run_store40 (E : Nat) (F G : Nat → Value) (w : World) (h : Dig w E G 139) (hF : ∀ j, j < 139 → (F j).oneCell' = true) : (storeVar 40 ⟨E, 0, none⟩ (.agg (snap F))).run Ybad.prog w = .ok () (puts w E 0 (row F 139)) := by
  have hst := run_puts Ybad.prog (row F 139) 0 (o := 0) h (by rw [row_len]; omega) (fun v hv => by
    obtain ⟨j, hj, rfl⟩ := List.mem_map.1 hv
    exact hF j (by simpa using hj))
  obtain ⟨i, h1, h2⟩ := Option.map_eq_some_iff.1 info40
  have hc : (Value.agg (snap F)).cells = snap F := rfl
  have hl : (snap F).toList = row F 139 := by simp [snap]
  simp [storeVar, sizeOf, typeInfo, h1, h2, hc, snap_size, hl, hst]

section
variable {ops : Array Oper} {rest : List Oper} {o : Oper} {a : Act} {w : World} {Q : Exit → Act → World → Prop}
theorem wpList_load40 (hgd : o.guard = none) (x : Operand) (ho : o.op = .load 40 x) (D : Nat) (hx : a.eval x = .pointer (some ⟨D, 0, none⟩)) (F : Nat → Value) (hD : Dig w D F 139)
    (h : wpList Ybad.prog ops Q rest (a.put o.dst (.agg (snap F))) w) : wpList Ybad.prog ops Q (o :: rest) a w :=
  wpList_plain hgd fun K hK => by
    unfold Oper.wp execOp
    simp only [ho, hx, Instr.loadAt, Instr.sureAddr, Sem.run_bind, Sem.run_pure, Result.andThen_ok, run_load40 D F w hD]
    exact hK _ _ h
theorem wpList_store40 (hgd : o.guard = none) (x y : Operand) (ho : o.op = .store 40 x y) (E : Nat) (hx : a.eval x = .pointer (some ⟨E, 0, none⟩)) (F G : Nat → Value) (hy : a.eval y = .agg (snap F)) (hE : Dig w E G 139) (hF : ∀ j, j < 139 → (F j).oneCell' = true)
    (h : wpList Ybad.prog ops Q rest (a.put o.dst undef) (puts w E 0 (row F 139))) : wpList Ybad.prog ops Q (o :: rest) a w :=
  wpList_plain hgd fun K hK => by
    unfold Oper.wp execOp
    simp only [ho, hx, hy, Instr.storeAt, Instr.sureAddr, Sem.run_bind, Sem.run_pure, Result.andThen_ok, run_store40 E F G w hE hF]
    exact hK _ _ h
end

theorem forIn_steady {P : Program} {β : Type} (f : Nat → β → Sem (ForInStep β)) (b : β) (w : World) : ∀ l : List Nat, (∀ i ∈ l, (f i b).run P w = .ok (.yield b) w) → (forIn l b f).run P w = .ok b w
  | [], _ => by simp
  | i :: l, h => by
    rw [List.forIn_cons, Sem.run_bind, h i (by simp), Result.andThen_ok]
    exact forIn_steady f b w l (fun j hj => h j (by simp [hj]))

theorem run_part1 {P : Program} (w : World) (t : TypeId) (k : IntKind) (cs : Array Value) (off : Nat) (v : Value) (ht : P.underlying t = some (.int k)) (h : cs[off]? = some v) : (part t cs off).run P w = .ok v w := by
  have hagg : (isAgg t).run P w = .ok false w := by
    unfold isAgg
    rw [Sem.run_bind, run_underlying ht w]
    rfl
  simp [part, hagg, h]

theorem eq_arr {P : Program} (d : Nat) (t e : TypeId) (n : Nat) (k : IntKind) (ht : P.underlying t = some (.array n e)) (he : P.underlying e = some (.int k)) (hz : (P.info? e).map (fun i => i.size) = some 1) (xs : Array Value) (hx : ∀ i, i < n → ∃ z, xs[i]? = some (.int k z)) (w : World) :
    (Op.equalIn (d + 2) t (.agg xs) (.agg xs)).run P w = .ok true w := by
  obtain ⟨i, h1, h2⟩ := Option.map_eq_some_iff.1 hz
  have hs : (sizeOf e).run P w = .ok 1 w := by simp [sizeOf, typeInfo, h1, h2]
  rw [Op.equalIn]
  simp only [Sem.run_bind, run_underlying ht, Result.andThen_ok, hs, Nat.mul_one, Std.Legacy.Range.forIn_eq_forIn_range']
  rw [forIn_steady]
  · simp
  · intro i hi
    have hi' : i < n := by simpa [Std.Legacy.Range.size] using hi
    obtain ⟨z, hz'⟩ := hx i hi'
    simp [run_part1 w e k xs i _ he hz', run_equalIn_int w d e k k z z he]

/-- A digest's cells, each of its kind. -/
def Shape (F : Nat → Value) : Prop := (∃ p, F 0 = .pointer (some p)) ∧ (∀ i, i < 8 → ∃ z, F (1 + i) = .int .u32 z) ∧ (∀ i, i < 128 → ∃ z, F (9 + i) = .int .u8 z) ∧ (∃ z, F 137 = .int .i64 z) ∧ ∃ z, F 138 = .int .u64 z

theorem Shape.one {F : Nat → Value} (h : Shape F) (j : Nat) (hj : j < 139) : (F j).oneCell' = true := by
  obtain ⟨⟨p, h0⟩, h1, h2, ⟨z3, h3⟩, ⟨z4, h4⟩⟩ := h
  by_cases e0 : j = 0
  · subst e0; rw [h0]; rfl
  by_cases e1 : j < 9
  · obtain ⟨z, hz⟩ := h1 (j - 1) (by omega)
    rw [show 1 + (j - 1) = j by omega] at hz
    rw [hz]; rfl
  by_cases e2 : j < 137
  · obtain ⟨z, hz⟩ := h2 (j - 9) (by omega)
    rw [show 9 + (j - 9) = j by omega] at hz
    rw [hz]; rfl
  by_cases e3 : j = 137
  · subst e3; rw [h3]; rfl
  · obtain rfl : j = 138 := by omega
    rw [h4]; rfl

theorem info22 : (Ybad.prog.info? 22).map (fun i => i.size) = some 1 := by kernel_rfl
theorem info5s : (Ybad.prog.info? 5).map (fun i => i.size) = some 1 := by kernel_rfl
theorem held40 : Ybad.prog.stoodInHeld 40 = false := by kernel_rfl
theorem guard40 : Ybad.prog.eqGuardType Ybad.prog.depth 40 = false := by kernel_rfl

theorem snap_ext (F : Nat → Value) (o n i : Nat) (h : o + n ≤ 139) (hi : i < n) : ((snap F).extract o (o + n))[i]? = some (F (o + i)) := by
  rw [Array.getElem?_extract, if_pos (by rw [snap_size]; omega), snap_at F (o + i) (by omega)]

theorem part_agg (w : World) (t : TypeId) (n : Nat) (cs : Array Value) (off : Nat) (ha : (isAgg t).run Ybad.prog w = .ok true w) (hs : (sizeOf t).run Ybad.prog w = .ok n w) : (part t cs off).run Ybad.prog w = .ok (.agg (cs.extract off (off + n))) w := by
  simp [part, ha, hs]
theorem part_one (w : World) (t : TypeId) (cs : Array Value) (off : Nat) (v : Value) (ha : (isAgg t).run Ybad.prog w = .ok false w) (h : cs[off]? = some v) : (part t cs off).run Ybad.prog w = .ok v w := by
  simp [part, ha, h]

theorem fields40 : ∃ f1 f2 f3 f4 f5 : Field, (Ybad.prog.fieldsOf 40).toList = [f1, f2, f3, f4, f5] ∧ (f1.name ≠ "_" ∧ f1.type = 29 ∧ f1.offset = 0) ∧ (f2.name ≠ "_" ∧ f2.type = 23 ∧ f2.offset = 1) ∧ (f3.name ≠ "_" ∧ f3.type = 38 ∧ f3.offset = 9) ∧ (f4.name ≠ "_" ∧ f4.type = 3 ∧ f4.offset = 137) ∧ (f5.name ≠ "_" ∧ f5.type = 25 ∧ f5.offset = 138) := by
  simp only [Program.fieldsOf, Ybad.underlying40]
  exact ⟨_, _, _, _, _, rfl, ⟨by decide, rfl, rfl⟩, ⟨by decide, rfl, rfl⟩, ⟨by decide, rfl, rfl⟩, ⟨by decide, rfl, rfl⟩, ⟨by decide, rfl, rfl⟩⟩

theorem eqFields_cons {w : World} {d : Nat} {xs : Array Value} {f : Field} {fs : List Field} {t : TypeId} {o : Nat} {v : Value} (hn : f.name ≠ "_") (ht : f.type = t) (ho : f.offset = o) (ha : (part t xs o).run Ybad.prog w = .ok v w) (he : (Op.equalIn d t v v).run Ybad.prog w = .ok true w) :
    (Op.eqFields d xs xs (f :: fs)).run Ybad.prog w = (Op.eqFields d xs xs fs).run Ybad.prog w := by
  rw [Op.eqFields, if_pos hn, ht, ho]
  simp only [Sem.run_bind, ha, he, Result.andThen_ok, Bool.not_true, Bool.false_eq_true, if_false]

theorem eq40 (d : Nat) (F : Nat → Value) (h : Shape F) (w : World) : (Op.equalIn (d + 2 + 1) 40 (.agg (snap F)) (.agg (snap F))).run Ybad.prog w = .ok true w := by
  obtain ⟨⟨p, h0⟩, h1, h2, ⟨z3, h3⟩, ⟨z4, h4⟩⟩ := h
  have ht : Ybad.prog.underlying 40 = some (.struct (Ybad.prog.fieldsOf 40)) := by simp only [Program.fieldsOf, Ybad.underlying40]
  rw [run_equalIn_struct w (d + 2) 40 _ _ ht held40]
  have a0 := part_one w 29 (snap F) 0 _ (Ybad.isAgg29 w) ((snap_at F 0 (by omega)).trans (congrArg some h0))
  have a1 := part_agg w 23 8 (snap F) 1 (Ybad.isAgg23 w) (Ybad.sizeOf23 w)
  have a2 := part_agg w 38 128 (snap F) 9 (Ybad.isAgg38 w) (Ybad.sizeOf38 w)
  have a3 := part_one w 3 (snap F) 137 _ (Ybad.isAgg3 w) ((snap_at F 137 (by omega)).trans (congrArg some h3))
  have a4 := part_one w 25 (snap F) 138 _ (Ybad.isAgg25 w) ((snap_at F 138 (by omega)).trans (congrArg some h4))
  have e0 : (Op.equalIn (d + 2) 29 (.pointer (some p)) (.pointer (some p))).run Ybad.prog w = .ok true w := peq_in Ybad.prog (d + 1) 29 32 p w Ybad.underlying29 2 info32
  have e1 := eq_arr (P := Ybad.prog) d 23 22 8 .u32 Ybad.underlying23 Ybad.underlying22 info22 ((snap F).extract 1 (1 + 8)) (fun i hi => by
    obtain ⟨z, hz⟩ := h1 i hi
    exact ⟨z, (snap_ext F 1 8 i (by omega) hi).trans (congrArg some hz)⟩) w
  have e2 := eq_arr (P := Ybad.prog) d 38 5 128 .u8 Ybad.underlying38 Ybad.underlying5 info5s ((snap F).extract 9 (9 + 128)) (fun i hi => by
    obtain ⟨z, hz⟩ := h2 i hi
    exact ⟨z, (snap_ext F 9 128 i (by omega) hi).trans (congrArg some hz)⟩) w
  have e3 : (Op.equalIn (d + 2) 3 (.int .i64 z3) (.int .i64 z3)).run Ybad.prog w = .ok (z3 == z3) w := run_equalIn_int (P := Ybad.prog) w (d + 1) 3 .i64 .i64 z3 z3 Ybad.underlying3
  have e4 : (Op.equalIn (d + 2) 25 (.int .u64 z4) (.int .u64 z4)).run Ybad.prog w = .ok (z4 == z4) w := run_equalIn_int (P := Ybad.prog) w (d + 1) 25 .u64 .u64 z4 z4 Ybad.underlying25
  obtain ⟨f1, f2, f3, f4, f5, hfs, ⟨n1, t1, o1⟩, ⟨n2, t2, o2⟩, ⟨n3, t3, o3⟩, ⟨n4, t4, o4⟩, ⟨n5, t5, o5⟩⟩ := fields40
  rw [hfs, eqFields_cons n1 t1 o1 a0 e0, eqFields_cons n2 t2 o2 a1 e1, eqFields_cons n3 t3 o3 a2 e2, eqFields_cons n4 t4 o4 a3 (e3.trans (by rw [beq_self_eq_true])), eqFields_cons n5 t5 o5 a4 (e4.trans (by rw [beq_self_eq_true]))]
  rfl

theorem eql40 (F : Nat → Value) (h : Shape F) (w : World) : (binOp .eql 40 (.agg (snap F)) (.agg (snap F))).run Ybad.prog w = .ok (.bool true) w := by
  rw [run_eql_struct, show (10000 : Nat) = 9997 + 2 + 1 from rfl, eq40 9997 F h w]; rfl

section
variable {o : Oper} {a : Act} {C : World → Prop} {K : Act → Prop}
theorem quiet_load40 (x : Operand) (ho : o.op = .load 40 x) (D : Nat) (hx : a.eval x = .pointer (some ⟨D, 0, none⟩)) (F : Nat → Value) (hD : ∀ w, C w → Dig w D F 139)
    (h : K (a.put o.dst (.agg (snap F)))) : o.quiet Ybad.prog a C K :=
  ⟨_, fun w hw => by
    unfold Oper.quietAt execOp
    simp only [ho, hx, Instr.loadAt, Instr.sureAddr, Sem.run_bind, Sem.run_pure, Result.andThen_ok, run_load40 D F w (hD w hw)]
    exact ⟨rfl, rfl⟩, h⟩
theorem quiet_eql40 (x y : Operand) (r : TypeId) (ho : o.op = .binOp .eql 40 x y r) (F : Nat → Value) (hx : a.eval x = .agg (snap F)) (hy : a.eval y = .agg (snap F)) (hF : Shape F)
    (h : K (a.put o.dst (.bool true))) : o.quiet Ybad.prog a C K :=
  ⟨_, fun w hw => by
    unfold Oper.quietAt execOp
    simp only [ho, hx, hy, Sem.run_bind, Sem.run_pure, Result.andThen_ok, run_eqGuard_agg (P := Ybad.prog) w .eql 40 x y _ _ guard40, eql40 F hF w]
    exact ⟨rfl, rfl⟩, h⟩
end

end Go.Proofs.YbulkproDoor.law

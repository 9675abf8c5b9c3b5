import Derived.Test.YbulkpsqDoorQ5
import Derived.Test.YbulkpsqDoorTie
import Derived.Test.YbulkpsqDoorCards
import Derived.LaidMore
import Derived.Stop.Joined
import Derived.SevenTiedAt
import Derived.Stop.LaidErr
import Derived.MakeChecks
import Derived.Deep.Matrix
import Derived.SizedLaws
namespace Go.Proofs.YbulkpsqDoor.lawS0809AStream
open Go.ChangeShapes Go.WideShapes Go.ChangeAt Go.RowKit
open Go.Proofs.YbulkpsqDoor.law
open Go.Deep
set_option linter.unusedVariables false

theorem own : ownKnob Ybad.prog.godebug = none := by kernel_rfl
theorem laidOut : laidOutB Ybad.prog = true := by kernel_rfl

/-- The door's own heap meets the condition. -/
theorem door_met (os : Os) (args : Array Value) : laidMetH Ybad.prog Rows.lawS0809AStreamRow.laid ((World.doorLaid Ybad.prog 400 os).forCall (fun _ _ => 0) ⟨#[], args, []⟩).memory :=
  laidMetH_of_parts3 (fuel := 8) (laidMet_of_run' 8 (by kernel_rfl) (by kernel_rfl)) (by kernel_rfl) (by kernel_rfl)

/-- The dynamic type's name, off the row. -/
def errNm : String := match Rows.laid_io_EOF (H := Unit) with
  | .iface s _ => s
  | _ => ""

theorem row40 (u : TypeId) (h : Ybad.prog.typeName? 3 u = some errNm) : u = 40 :=
  typeName_ptr_named (P := Ybad.prog) (tp := 40) (nm := "errors.errorString") (by kernel_rfl) (by kernel_rfl) (by decide) u (h.trans (congrArg some (by decide)))

theorem c60 : Ybad.prog.cellsOf 60 = 1 := by kernel_rfl
theorem c9 : Ybad.prog.cellsOf 9 = 1 := by kernel_rfl
theorem c23 : Ybad.prog.cellsOf 23 = 1 := by kernel_rfl
theorem c5 : Ybad.prog.cellsOf 5 = 1 := by kernel_rfl
theorem b5 : Ybad.prog.bytesOf 5 = 1 := by kernel_rfl

theorem er_of {W : World} {n : String} {g : Nat} {a : Addr} (hg : Ybad.prog.globalNamed n = some g) (h : W.var? Ybad.prog n = some #[.iface 40 (.pointer (some a))]) : ∃ v, Er v ∧ W.cell? ⟨g, 0, none⟩ = some v :=
  ⟨_, ⟨a, rfl⟩, World.var?_cell hg h 0⟩

/-- The three errors stand as the row says. -/
theorem errs_of {W : World} (h : laidMetH Ybad.prog Rows.lawS0809AStreamRow.laid W) : ∃ ev uv np, Er ev ∧ Er uv ∧ Er np ∧ W.cell? ⟨0, 0, none⟩ = some ev ∧ W.cell? ⟨1, 0, none⟩ = some uv ∧ W.cell? ⟨2, 0, none⟩ = some np := by
  have h1 : laidMet Ybad.prog Rows.lawS0809AStreamRow.laid W := by
    rw [← MakeChecks.laidMetH_plain Ybad.prog _ W (by kernel_rfl)]
    exact h
  obtain ⟨a0, _, v0, _⟩ := laid_sentinel (g := 0) h1 (by kernel_rfl) (by kernel_rfl) Ybad.underlying25 row40 Ybad.underlying40 Ybad.underlying60 rfl rfl Ybad.underlying9 c60 c9
  obtain ⟨a1, _, v1, _⟩ := laid_sentinel (g := 1) (laidMet.tail h1) (by kernel_rfl) (by kernel_rfl) Ybad.underlying25 row40 Ybad.underlying40 Ybad.underlying60 rfl rfl Ybad.underlying9 c60 c9
  obtain ⟨a2, _, v2, _⟩ := laid_sentinel (g := 2) (laidMet.tail (laidMet.tail h1)) (by kernel_rfl) (by kernel_rfl) Ybad.underlying25 row40 Ybad.underlying40 Ybad.underlying60 rfl rfl Ybad.underlying9 c60 c9
  obtain ⟨x0, e0, k0⟩ := er_of (g := 0) (by kernel_rfl) v0
  obtain ⟨x1, e1, k1⟩ := er_of (g := 1) (by kernel_rfl) v1
  obtain ⟨x2, e2, k2⟩ := er_of (g := 2) (by kernel_rfl) v2
  exact ⟨x0, x1, x2, e0, e1, e2, k0, k1, k2⟩

theorem weightsAll_in {H : Type} {P : Program} {e : TypeId} {x : DataW H} : ∀ {l : List (DataW H)}, x ∈ l → ∀ m, m ∈ DataW.weights P e x → m ∈ DataW.weightsAll P e l
  | y :: l, hx, m, hm => by
    simp only [DataW.weightsAll, List.mem_append]
    rcases List.mem_cons.1 hx with rfl | h
    · exact .inl hm
    · exact .inr (weightsAll_in h m hm)

theorem sized_in {H : Type} {P : Program} {ts : List TypeId} {ds : List (DataW H)} (h : (DataW.weightsEach P ts ds).all (· ≤ reachBytes) = true) {j : Nat} {t e q : TypeId} {elems spare e' sp' : List (DataW H)}
    (ht : ts[j]? = some t) (hd : ds[j]? = some (.slice elems spare)) (hu : P.underlying t = some (.slice e)) (hu2 : P.underlying e = some (.slice q)) (hx : DataW.slice e' sp' ∈ elems) : (e'.length + sp'.length) * P.bytesOf q ≤ reachBytes := by
  refine of_decide_eq_true (List.all_eq_true.1 h _ (DataW.weights_mem_each ht hd _ ?_))
  simp only [DataW.weights, hu, List.mem_cons, List.mem_append]
  exact Or.inr (Or.inl (weightsAll_in hx _ (by simp [DataW.weights, hu2])))

theorem plain_of {w : World} {a : Addr} {v : Value} (h : w.cell? a = some v) : ∃ b o, a = ⟨b, o, none⟩ := by
  obtain ⟨b, o, sp⟩ := a
  have : sp = none := by simpa using World.cell?_spot h
  subst this
  exact ⟨b, o, rfl⟩

/-- The chunks, as lists. -/
def lists (len : Nat) (L : Nat → Nat) (Z : Nat → List Int) : List (List Int) := (List.range len).map fun r => (Z r).take (L r)
theorem lists_at (len : Nat) (L : Nat → Nat) (Z : Nat → List Int) (i : Nat) (h : i < len) : (lists len L Z).getD i [] = (Z i).take (L i) := by
  simp [lists, List.getD_eq_getElem?_getD, h]
theorem lists_len (len : Nat) (L : Nat → Nat) (Z : Nat → List Int) : (lists len L Z).length = len := by simp [lists]

theorem open_chunks {H : Type} {enc : TypeId × Value → H} {W : World} {a0 : Option Addr} {len cap : Nat} {d0 : DataW H} {p0 : List MemPlace} {ts : List TypeId} {ds : List (DataW H)}
    (h : DataW.Trod enc Ybad.prog W 0 (fun _ => true) true 22 (.slice a0 len cap) d0 p0) (hsz : (DataW.weightsEach Ybad.prog ts ds).all (· ≤ reachBytes) = true) (ht : ts[0]? = some 22) (hd : ds[0]? = some d0) :
    ∃ cs, Chs W (.slice a0 len cap) cs ∧ (∀ i, (cs.getD i []).length ≤ 4611686018427387904) ∧ cs.length = len ∧ len ≤ maxLen := by
  obtain ⟨fuel, hf⟩ := h
  rcases open_int_rows Ybad.underlying22 Ybad.underlying23 Ybad.underlying5 c23 c5 hf with ⟨hcs, _⟩ | ⟨a, len', cap', A, L, C, Z, hcs, _, hl, hm, hx, hrows⟩
  · simp [Value.cells] at hcs
    obtain ⟨rfl, rfl, rfl⟩ := hcs
    exact ⟨[], ⟨none, 0, rfl, by simp, by simp, .inl rfl⟩, fun i => by simp, rfl, by simp⟩
  · simp [Value.cells] at hcs
    obtain ⟨rfl, rfl, rfl⟩ := hcs
    have hd0 : d0 = _ := congrArg Prod.fst hx
    refine ⟨lists len L Z, ⟨_, cap, by rw [lists_len], by rw [lists_len]; exact hl, hm, ?_⟩, ?_, lists_len _ _ _, by omega⟩
    · by_cases hn : len = 0
      · subst hn; exact .inl rfl
      · right
        obtain ⟨ob, oo, rfl⟩ := plain_of (hrows 0 (by omega)).1
        refine ⟨ob, oo, rfl, fun i hi => ?_⟩
        rw [lists_len] at hi
        obtain ⟨r1, r2, r3, r4, r5, r6, r7⟩ := hrows i (by omega)
        have hlen : ((Z i).take (L i)).length = L i := by rw [List.length_take]; omega
        refine ⟨_, by rw [← add_plain]; exact r1, ?_⟩
        rw [lists_at len L Z i hi]
        refine ⟨A i, C i, by rw [hlen], by rw [hlen]; exact r2, r3, ?_⟩
        by_cases h0 : L i = 0
        · left; rw [h0]; rfl
        · right
          cases hA : A i with
          | none => have := r6 hA; omega
          | some a' =>
            obtain ⟨_, hcell⟩ := r7 a' hA
            obtain ⟨b, o, rfl⟩ := plain_of (hcell 0 (by omega))
            refine ⟨b, o, rfl, fun j hj => ?_⟩
            rw [hlen] at hj
            rw [← add_plain, hcell j (by omega)]
            simp [List.getD_eq_getElem?_getD, hj]
    · intro i
      by_cases hi : i < len
      · rw [lists_at len L Z i hi]
        obtain ⟨r1, r2, r3, r4, r5, r6, r7⟩ := hrows i (by omega)
        cases hA : A i with
        | none => have := r6 hA; rw [List.length_take]; omega
        | some a' =>
          have hin : (DataW.slice (lits .u8 ((Z i).take (L i))) (lits .u8 ((Z i).drop (L i))) : DataW H) ∈ (List.range len).map fun r => intRow .u8 (A r) (L r) (Z r) :=
            List.mem_map.2 ⟨i, by simp [hi], by simp [intRow, hA]⟩
          have := sized_in hsz ht (hd.trans (congrArg some hd0)) Ybad.underlying22 Ybad.underlying23 hin
          rw [b5] at this
          have hl1 : (lits (H := H) .u8 ((Z i).take (L i))).length = ((Z i).take (L i)).length := by simp [lits]
          rw [hl1] at this
          unfold reachBytes at this
          omega
      · rw [List.getD_eq_getElem?_getD, List.getElem?_eq_none (by rw [lists_len]; omega)]
        simp

set_option maxHeartbeats 400000 in
set_option maxRecDepth 1000000 in
theorem walk_long (a : Option Addr) (len cap : Nat) (x y : Bool) (z : Int) (w : World) (h : 1024 < len) (hm : len ≤ maxLen) :
    Calls Ybad.prog 3 #[.slice a len cap, .bool x, .bool y, .int .u8 z] w fun e w' => e = .returned (.bool true) ∧ Below w.heap.size w w' := by
  unfold maxLen at hm
  go_enter Ybad.func3, Ybad.ntmps3
  go_wp2
  go_ret
  exact ⟨rfl, Below.refl _ _⟩

set_option maxRecDepth 100000 in
theorem lifted (os : Os) (started : os.Started) (H : Type) (enc : TypeId × Value → H) :
    ReturnsInHanded {} Ybad.checked os 3 .any (fun w args => (Rows.lawS0809AStreamSpec.pre enc Ybad.prog Ybad.f3 [] false w args ∧ laidMetH Ybad.prog Rows.lawS0809AStreamRow.laid w) ∧ sizedMet enc Ybad.prog Ybad.f3 (OpenSpec.ofChange Rows.lawS0809AStreamSpec) false w args)
      (Rows.lawS0809AStreamSpec.post enc Ybad.prog Ybad.f3 false true false false) := by
  refine returnsInHanded_of_change_and (C := Ybad.checked) (X := fun w _ => laidMetH Ybad.prog Rows.lawS0809AStreamRow.laid w) (fun _ _ _ hh h => h.of_heap hh) own started (by kernel_rfl) Ybad.func3
    (ChangeSpec.witness_shaped (enc := enc) (C := Ybad.checked) (os := os) (X := fun w _ => laidMetH Ybad.prog Rows.lawS0809AStreamRow.laid w) false (World.doorLaid Ybad.prog 400 os) #[.slice none 0 0, .bool false, .bool false, .int .u8 0] 8 rfl (World.shaped_of_RefB (by kernel_rfl) (by kernel_rfl)) (by kernel_rfl) (by kernel_rfl) (by kernel_rfl) (door_met os _)) ?_
  intro W base args ds gs before hval0 hW _ hsz0 hL _
  have hval : ∀ (j : Nat) t v, Ybad.f3.params[j]? = some t → args[j]? = some v → Value.okWide Ybad.prog W .any base t v := hval0
  have hsz : (DataW.weightsEach Ybad.prog (Ybad.f3.params.toList ++ Rows.lawS0809AStreamSpec.plain.varTypes Ybad.prog) (ds ++ gs)).all (· ≤ reachBytes) = true := hsz0
  have hW' := hW
  obtain ⟨p, q, hA0, hV, rfl, hfz, hnd⟩ := hW
  have hA : DataW.TrodAll enc Ybad.prog W 0 (fun _ => true) true Ybad.f3.params.toList args.toList ds p := hA0
  rw [Ybad.params3] at hA hval hsz
  obtain ⟨v0, vs0, d0, ds0, p0, q0, hargs, rfl, rfl, h0, r0⟩ := trodAll_cons hA
  obtain ⟨v1, vs1, d1, ds1, p1, q1, rfl, rfl, rfl, h1, r1⟩ := trodAll_cons r0
  obtain ⟨v2, vs2, d2, ds2, p2, q2, rfl, rfl, rfl, h2, r2⟩ := trodAll_cons r1
  obtain ⟨v3, vs3, d3, ds3, p3, q3, rfl, rfl, rfl, h3, r3⟩ := trodAll_cons r2
  obtain ⟨rfl, rfl, rfl⟩ := trodAll_nil r3
  obtain rfl : args = #[v0, v1, v2, v3] := by cases args; simp_all
  obtain ⟨rfl, rfl⟩ := trodVars_none hV
  obtain ⟨a0, len0, cap0, rfl⟩ := okWide_slice Ybad.underlying22 (hval 0 22 v0 rfl rfl)
  have k0 := h0
  have lt0 : ∀ x ∈ p0, x.block < W.heap.size := by obtain ⟨m, hm⟩ := k0; exact DataW.trod_lt m _ _ _ hm
  obtain ⟨cs, hC, hbig, hlen, hmax⟩ := open_chunks h0 hsz rfl rfl
  obtain ⟨x1, rfl, rfl, rfl⟩ := open_bool Ybad.underlying4 (hval 1 4 v1 rfl rfl) h1
  obtain ⟨x2, rfl, rfl, rfl⟩ := open_bool Ybad.underlying4 (hval 2 4 v2 rfl rfl) h2
  obtain ⟨n, rfl, rfl, rfl, wn⟩ := open_int Ybad.underlying5 (hval 3 5 v3 rfl rfl) h3
  obtain ⟨ev, uv, np, e0, e1, e2, g0, g1, g2⟩ := errs_of hL
  have hwalk : Calls Ybad.prog 3 #[.slice a0 len0 cap0, .bool x1, .bool x2, .int .u8 n] W fun e w' => e = .returned (.bool true) ∧ Below W.heap.size W w' := by
    by_cases h : len0 ≤ 1024
    · exact law_walk _ cs x1 x2 n ev uv np W (bounds_u8 wn).1 (bounds_u8 wn).2 hC hbig (by omega) e0 e1 e2 g0 g1 g2
    · exact walk_long a0 len0 cap0 x1 x2 n W (by omega) hmax
  clear hA0 hval0
  refine hwalk.mono fun e W' ⟨he, bel⟩ => ?_
  subst he
  exact ⟨_, rfl, _, _, _, [], _, [], hW', trodAll_mk1 (shut_bool Ybad.underlying4 _), (trodAll_cons_mk (Below.trod laidOut (by kernel_rfl) (of_decide_eq_true (by kernel_rfl)) k0 bel lt0) (trodAll_cons_mk (shut_bool Ybad.underlying4 _) (trodAll_cons_mk (shut_bool Ybad.underlying4 _) (trodAll_cons_mk (shut_int Ybad.underlying5 wn) trodAll_mk0)))), rfl, bel.frame _, fun h => by cases h⟩

theorem over : Rows.LawS0809AStreamSaid :=
  OpenClaim.holds_of_wide 3 Ybad.f3 rfl rfl rfl rfl rfl rfl rfl ⟨rfl, rfl, rfl, rfl, rfl⟩ rfl rfl rfl rfl rfl (by kernel_rfl) Ybad.func3 (by kernel_rfl)
    (of_decide_eq_true (by kernel_rfl)) (by unfold Func.isWrapper; rw [if_neg (of_decide_eq_false (by kernel_rfl))]; exact ⟨rfl, rfl⟩)
    (fun os started H enc _ => lifted os started H enc)

theorem proved : Rows.LawS0809AStreamCardSaid :=
  Claim7.holds_tied_plain_at .later [] [.sentinel, .sentinel, .sentinel] true Rows.lawS0809AStreamCard.stood.harness true
    over (fun _ h => by cases h) (by kernel_rfl) (fun _ h => by cases h) lawS0809AStream_row_tie rfl ⟨rfl, rfl⟩ (by kernel_rfl) rfl
    (fun f fn hf hfn => by
      obtain rfl : f = 3 := Option.some.inj ((show Ybad.prog.funcNamed Rows.lawS0809AStreamRow.func = some 3 by kernel_rfl).symm.trans hf) |>.symm
      obtain rfl : fn = Ybad.f3 := (Option.some.inj (Ybad.func3.symm.trans hfn)).symm
      exact ⟨by kernel_rfl, fun j t ht => by
        rw [Ybad.params3] at ht
        have hm : t ∈ [22, 4, 4, 5] := by simpa using Array.mem_of_getElem? ht
        have hall : ([22, 4, 4, 5].all fun u => !Ybad.prog.wantsStandIn u) = true := by kernel_rfl
        exact (show Ybad.prog.wantsStandIn t = false by simpa using List.all_eq_true.1 hall t hm)⟩)
    (by kernel_rfl)

end Go.Proofs.YbulkpsqDoor.lawS0809AStream

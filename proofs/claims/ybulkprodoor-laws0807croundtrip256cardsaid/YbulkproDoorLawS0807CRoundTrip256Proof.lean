import Derived.Test.YbulkproDoorR3
import Derived.Test.YbulkproDoorTie
import Derived.Test.YbulkproDoorCards
import Derived.LaidMore
import Derived.Stop.Joined
import Derived.SevenTiedAt
namespace Go.Proofs.YbulkproDoor.lawS0807CRoundTrip256
open Go.ChangeShapes Go.WideShapes Go.ChangeAt Go.RowKit
open Go.Proofs.YbulkproDoor.law
set_option linter.unusedVariables false

theorem own : ownKnob Ybad.prog.godebug = none := by kernel_rfl
theorem laidOut : laidOutB Ybad.prog = true := by kernel_rfl

/-- The door's own heap meets the condition. -/
theorem door_met (os : Os) (args : Array Value) : laidMetH Ybad.prog Rows.lawS0807CRoundTrip256Row.laid ((World.doorLaid Ybad.prog 400 os).forCall (fun _ _ => 0) ⟨#[], args, []⟩).memory :=
  laidMetH_of_parts3 (fuel := 8) (laidMet_of_run' 8 (by kernel_rfl) (by kernel_rfl)) (by kernel_rfl) (by kernel_rfl)

set_option maxHeartbeats 400000 in
theorem walk_long (v : Value) (x : Nat → Int) (a : Option Addr) (len cap : Nat) (n : Int) (w : World) (h : 1024 < len) (hm : len ≤ maxLen) :
    Calls Ybad.prog 3 #[.agg (hbox32 x), .slice a len cap, .int .u64 n] w fun e w' => e = .returned (.bool true) ∧ Below w.heap.size w w' := by
  unfold maxLen at hm
  unfold hbox32
  go_enter Ybad.func3, Ybad.ntmps3
  go_wp2
  go_ret
  exact ⟨rfl, (Below.refl _ _).alloc (Nat.le_refl _) _⟩

theorem walk (x : Nat → Int) (a : Option Addr) (len cap : Nat) (zs : List Int) (n : Int) (w : World) (hx : ∀ i, i < 8 → 0 ≤ x i ∧ x i ≤ 4294967295) (hn : 0 ≤ n ∧ n ≤ 18446744073709551615) (hr : IsRow .u8 w a len cap zs) :
    Calls Ybad.prog 3 #[.agg (hbox32 x), .slice a len cap, .int .u64 n] w fun e w' => e = .returned (.bool true) ∧ Below w.heap.size w w' := by
  by_cases h : len ≤ 1024
  · exact rt256 x a len cap zs n w hx hn.1 hn.2 h hr
  · refine walk_long .nilIface x a len cap n w (by omega) ?_
    rcases hr with ⟨_, rfl, _⟩ | ⟨_, _, h1, h2, _⟩
    · simp
    · omega

theorem list8 {l : List Value} (h : l.length = 8) : ∃ c0 c1 c2 c3 c4 c5 c6 c7, l = [c0, c1, c2, c3, c4, c5, c6, c7] := by
  match l, h with
  | [c0, c1, c2, c3, c4, c5, c6, c7], _ => exact ⟨c0, c1, c2, c3, c4, c5, c6, c7, rfl⟩

/-- An array of eight integers that came in. -/
theorem open_array8 {H : Type} {enc : TypeId × Value → H} {W : World} {base : Nat} {d : DataW H} {p : List MemPlace} {v : Value} (hok : Value.okWide Ybad.prog W .any base 23 v)
    (h : DataW.Trod enc Ybad.prog W 0 (fun _ => true) true 23 v d p) : ∃ x : Nat → Int, v = .agg (hbox32 x) ∧ ∀ i, i < 8 → 0 ≤ x i ∧ x i ≤ 4294967295 := by
  obtain ⟨cs, rfl, hsz, _⟩ : ∃ cs, v = .agg cs ∧ cs.size = Ybad.prog.cellsOf 23 ∧ Row.okWide Ybad.prog W .any base 23 cs := by
    simpa [Value.okWide, Ybad.underlying23] using hok
  have c23 : Ybad.prog.cellsOf 23 = 8 := by kernel_rfl
  have c22 : Ybad.prog.cellsOf 22 = 1 := by kernel_rfl
  rw [c23] at hsz
  obtain ⟨fuel, hf⟩ := h
  obtain ⟨xs, m, _, _, _, hl, hel⟩ := DataW.trod_array Ybad.underlying23 hf
  have hint : ∀ i, i < 8 → ∃ z : Int, cs.toList[i]? = some (.int .u32 z) ∧ 0 ≤ z ∧ z ≤ 4294967295 := by
    intro i hi
    have h1 := hel i hi
    rw [c22, Nat.mul_one] at h1
    have hxi : xs[i]? = some xs[i] := List.getElem?_eq_getElem (by omega)
    rw [hxi] at h1
    obtain ⟨z, e1, _, wz⟩ := DataW.trod_int Ybad.underlying22 h1
    refine ⟨z, ?_, bounds_u32 wz⟩
    have e2 : ((Value.agg cs).cells.toList.drop i).take 1 = [.int .u32 z] := e1
    have e3 : (cs.toList.drop i).take 1 = [.int .u32 z] := e2
    have e4 : ((cs.toList.drop i).take 1)[0]? = some (.int .u32 z) := by rw [e3]; rfl
    simpa [List.getElem?_take, List.getElem?_drop] using e4
  obtain ⟨z0, e0, b0⟩ := hint 0 (by omega)
  obtain ⟨z1, e1, b1⟩ := hint 1 (by omega)
  obtain ⟨z2, e2, b2⟩ := hint 2 (by omega)
  obtain ⟨z3, e3, b3⟩ := hint 3 (by omega)
  obtain ⟨z4, e4, b4⟩ := hint 4 (by omega)
  obtain ⟨z5, e5, b5⟩ := hint 5 (by omega)
  obtain ⟨z6, e6, b6⟩ := hint 6 (by omega)
  obtain ⟨z7, e7, b7⟩ := hint 7 (by omega)
  refine ⟨fun i => [z0, z1, z2, z3, z4, z5, z6, z7].getD i 0, ?_, ?_⟩
  · obtain ⟨l⟩ := cs
    obtain ⟨c0, c1, c2, c3, c4, c5, c6, c7, rfl⟩ := list8 hsz
    simp at e0 e1 e2 e3 e4 e5 e6 e7
    subst e0 e1 e2 e3 e4 e5 e6 e7
    rfl
  · intro i hi
    match i, hi with
    | 0, _ => exact b0
    | 1, _ => exact b1
    | 2, _ => exact b2
    | 3, _ => exact b3
    | 4, _ => exact b4
    | 5, _ => exact b5
    | 6, _ => exact b6
    | 7, _ => exact b7

set_option maxRecDepth 100000 in
theorem lifted (os : Os) (started : os.Started) (H : Type) (enc : TypeId × Value → H) :
    ReturnsInHanded {} Ybad.checked os 3 .any (fun w args => (Rows.lawS0807CRoundTrip256Spec.pre enc Ybad.prog Ybad.f3 [] false w args ∧ laidMetH Ybad.prog Rows.lawS0807CRoundTrip256Row.laid w) ∧ sizedMet enc Ybad.prog Ybad.f3 (OpenSpec.ofChange Rows.lawS0807CRoundTrip256Spec) false w args)
      (Rows.lawS0807CRoundTrip256Spec.post enc Ybad.prog Ybad.f3 false true false false) := by
  refine returnsInHanded_of_change_and (C := Ybad.checked) (X := fun w _ => laidMetH Ybad.prog Rows.lawS0807CRoundTrip256Row.laid w) (fun _ _ _ hh h => h.of_heap hh) own started (by kernel_rfl) Ybad.func3
    (ChangeSpec.witness_shaped (enc := enc) (C := Ybad.checked) (os := os) (X := fun w _ => laidMetH Ybad.prog Rows.lawS0807CRoundTrip256Row.laid w) false (World.doorLaid Ybad.prog 400 os) #[.agg #[.int .u32 0, .int .u32 0, .int .u32 0, .int .u32 0, .int .u32 0, .int .u32 0, .int .u32 0, .int .u32 0], .slice none 0 0, .int .u64 0] 8 rfl (World.shaped_of_RefB (by kernel_rfl) (by kernel_rfl)) (by kernel_rfl) (by kernel_rfl) (by kernel_rfl) (door_met os _)) ?_
  intro W base args ds gs before hval0 hW _ _ hL _
  have hval : ∀ (j : Nat) t v, Ybad.f3.params[j]? = some t → args[j]? = some v → Value.okWide Ybad.prog W .any base t v := hval0
  have hW' := hW
  obtain ⟨p, q, hA0, hV, rfl, hfz, hnd⟩ := hW
  have hA : DataW.TrodAll enc Ybad.prog W 0 (fun _ => true) true Ybad.f3.params.toList args.toList ds p := hA0
  rw [Ybad.params3] at hA hval
  obtain ⟨v0, vs0, d0, ds0, p0, q0, hargs, rfl, rfl, h0, r0⟩ := trodAll_cons hA
  obtain ⟨v1, vs1, d1, ds1, p1, q1, rfl, rfl, rfl, h1, r1⟩ := trodAll_cons r0
  obtain ⟨v2, vs2, d2, ds2, p2, q2, rfl, rfl, rfl, h2, r2⟩ := trodAll_cons r1
  obtain ⟨rfl, rfl, rfl⟩ := trodAll_nil r2
  obtain rfl : args = #[v0, v1, v2] := by cases args; simp_all
  obtain ⟨rfl, rfl⟩ := trodVars_none hV
  have k0 := h0
  have lt0 : ∀ x ∈ p0, x.block < W.heap.size := by obtain ⟨m, hm⟩ := k0; exact DataW.trod_lt m _ _ _ hm
  obtain ⟨x, rfl, hx⟩ := open_array8 (hval 0 23 v0 rfl rfl) h0
  obtain ⟨a1, len1, cap1, rfl⟩ := okWide_slice Ybad.underlying24 (hval 1 24 v1 rfl rfl)
  have k1 := h1
  have lt1 : ∀ x ∈ p1, x.block < W.heap.size := by obtain ⟨m, hm⟩ := k1; exact DataW.trod_lt m _ _ _ hm
  obtain ⟨z1, w1⟩ : ∃ zs, IsRow .u8 W a1 len1 cap1 zs := by
    obtain ⟨fuel, hf⟩ := h1
    rcases open_ints Ybad.underlying24 Ybad.underlying5 (by kernel_rfl) hf with ⟨hcs, _⟩ | ⟨x, l, c, zs, hcs, _, hl, hm, hz, _, hcell, hwz⟩
    · simp [Value.cells] at hcs
      obtain ⟨rfl, rfl, rfl⟩ := hcs
      exact ⟨[], .inl ⟨rfl, rfl, rfl, rfl⟩⟩
    · simp [Value.cells] at hcs
      obtain ⟨rfl, rfl, rfl⟩ := hcs
      exact ⟨zs, .inr ⟨_, rfl, hl, hm, by simpa using hz, hcell, hwz⟩⟩
  obtain ⟨n, rfl, rfl, rfl, wn⟩ := open_int Ybad.underlying25 (hval 2 25 v2 rfl rfl) h2
  clear hA0 hval0
  refine (walk x a1 len1 cap1 z1 n W hx (bounds_u64 wn) w1).mono fun e W' ⟨he, bel⟩ => ?_
  subst he
  exact ⟨_, rfl, _, _, _, [], _, [], hW', trodAll_mk1 (shut_bool Ybad.underlying4 _), (trodAll_cons_mk (Below.trod laidOut (by kernel_rfl) (of_decide_eq_true (by kernel_rfl)) k0 bel lt0) (trodAll_cons_mk (Below.trod laidOut (by kernel_rfl) (of_decide_eq_true (by kernel_rfl)) k1 bel lt1) (trodAll_cons_mk (shut_int Ybad.underlying25 wn) trodAll_mk0))), rfl, bel.frame _, fun h => by cases h⟩

theorem over : Rows.LawS0807CRoundTrip256Said :=
  OpenClaim.holds_of_wide 3 Ybad.f3 rfl rfl rfl rfl rfl rfl rfl ⟨rfl, rfl, rfl, rfl, rfl⟩ rfl rfl rfl rfl rfl (by kernel_rfl) Ybad.func3 (by kernel_rfl)
    (of_decide_eq_true (by kernel_rfl)) (by unfold Func.isWrapper; rw [if_neg (of_decide_eq_false (by kernel_rfl))]; exact ⟨rfl, rfl⟩)
    (fun os started H enc _ => lifted os started H enc)

theorem proved : Rows.LawS0807CRoundTrip256CardSaid :=
  Claim7.holds_tied_plain_at .later [] [.data, .data, .data] true Rows.lawS0807CRoundTrip256Card.stood.harness true
    over (fun _ h => by cases h) (by kernel_rfl) (fun _ h => by cases h) lawS0807CRoundTrip256_row_tie rfl ⟨rfl, rfl⟩ (by kernel_rfl) rfl
    (fun f fn hf hfn => by
      obtain rfl : f = 3 := Option.some.inj ((show Ybad.prog.funcNamed Rows.lawS0807CRoundTrip256Row.func = some 3 by kernel_rfl).symm.trans hf) |>.symm
      obtain rfl : fn = Ybad.f3 := (Option.some.inj (Ybad.func3.symm.trans hfn)).symm
      exact ⟨by kernel_rfl, fun j t ht => by
        rw [Ybad.params3] at ht
        have hm : t ∈ [23, 24, 25] := by simpa using Array.mem_of_getElem? ht
        have hall : ([23, 24, 25].all fun u => !Ybad.prog.wantsStandIn u) = true := by kernel_rfl
        exact (show Ybad.prog.wantsStandIn t = false by simpa using List.all_eq_true.1 hall t hm)⟩)
    (by kernel_rfl)
end Go.Proofs.YbulkproDoor.lawS0807CRoundTrip256

import Derived.Test.YbulkpqmC8
import Derived.SliceStrings
namespace Go.Proofs.Ybulkpqm.lawS0805CFind
open Go.ChangeShapes Go.WideShapes Go.ChangeAt Go.RowKit
open Go.ChangeMaps (open_string shut_string)
open Go.Proofs.Ybulkpqm.lawC
set_option linter.unusedVariables false

theorem own : ownKnob Yba.prog.godebug = none := by kernel_rfl
theorem laidOut : laidOutB Yba.prog = true := by kernel_rfl

theorem walk (a : Option Addr) (len cap : Nat) (n : Int) (x : ByteArray) (ns : Nat → ByteArray) (w : World) (hm : len ≤ maxLen) (h0 : 0 ≤ n) (h1 : n ≤ 255) (hN : len ≤ 1024 → Names w a len ns) :
    Calls Yba.prog 8 #[.slice a len cap, .int .u8 n, .string x] w fun e w' => e = .returned (.bool true) ∧ Below w.heap.size w w' := by
  by_cases h : len ≤ 1024
  · obtain ⟨k, rfl⟩ : ∃ k : Nat, n = k := ⟨n.toNat, by omega⟩
    exact find_short a len cap k x ns w (by omega) (hN h)
  · exact find_long a len cap n x w (by omega) hm

set_option maxRecDepth 100000 in
theorem lifted (os : Os) (started : os.Started) (H : Type) (enc : TypeId × Value → H) :
    ReturnsInHanded {} Yba.checked os 8 .any (Rows.lawS0805CFindSpec.pre6 enc Yba.prog Yba.f8 Rows.lawS0805CFindRow.domain false) (Rows.lawS0805CFindSpec.post enc Yba.prog Yba.f8 false true false false) := by
  refine returnsInHanded_of_change (C := Yba.checked) own started (by kernel_rfl) Yba.func8
    (ChangeSpec.witness6 (enc := enc) (C := Yba.checked) false ⟨#[], #[.slice none 0 0, .int .u8 0, .string ⟨#[]⟩], []⟩ 8 (by kernel_rfl) (by kernel_rfl) (by kernel_rfl) (by kernel_rfl)) ?_
  intro W base args ds gs before hval0 hW hcnd _
  have hval : ∀ (j : Nat) t v, Yba.f8.params[j]? = some t → args[j]? = some v → Value.okWide Yba.prog W .any base t v := hval0
  have hW' := hW
  obtain ⟨p, q, hA0, hV, rfl, hfz, hnd⟩ := hW
  have hA : DataW.TrodAll enc Yba.prog W 0 (fun _ => true) true Yba.f8.params.toList args.toList ds p := hA0
  rw [Yba.params8] at hA hval
  obtain ⟨v0, vs0, d0, ds0, p0, q0, hargs, rfl, rfl, h0, r0⟩ := trodAll_cons hA
  obtain ⟨v1, vs1, d1, ds1, p1, q1, rfl, rfl, rfl, h1, r1⟩ := trodAll_cons r0
  obtain ⟨v2, vs2, d2, ds2, p2, q2, rfl, rfl, rfl, h2, r2⟩ := trodAll_cons r1
  obtain ⟨rfl, rfl, rfl⟩ := trodAll_nil r2
  obtain rfl : args = #[v0, v1, v2] := by cases args; simp_all
  obtain ⟨rfl, rfl⟩ := trodVars_none hV
  obtain ⟨a0, len0, cap0, rfl⟩ := okWide_slice Yba.underlying41 (hval 0 41 v0 rfl rfl)
  have k0 := h0
  have lt0 : ∀ x ∈ p0, x.block < W.heap.size := by obtain ⟨m, hm⟩ := k0; exact DataW.trod_lt m _ _ _ hm
  obtain ⟨ns, hm, hN⟩ : ∃ ns : Nat → ByteArray, len0 ≤ maxLen ∧ (len0 ≤ 1024 → Names W a0 len0 ns) := by
    obtain ⟨fuel, hf⟩ := h0
    rcases open_strings Yba.underlying41 Yba.underlying9 (by kernel_rfl) hf with ⟨hcs, _⟩ | ⟨x, l, c, ss, hcs, _, hl, hm, hz, _, hcell, hws⟩
    · simp [Value.cells] at hcs
      obtain ⟨rfl, rfl, rfl⟩ := hcs
      exact ⟨fun _ => ⟨#[]⟩, by simp, fun h => ⟨h, .inl rfl⟩⟩
    · simp [Value.cells] at hcs
      obtain ⟨rfl, rfl, rfl⟩ := hcs
      have hz2 : ss.length = cap0 := by simpa using hz
      refine ⟨fun j => ss.getD j ByteArray.empty, by omega, fun h => ⟨h, ?_⟩⟩
      by_cases e : len0 = 0
      · exact .inl e
      · have hc0 := hcell 0 (by omega)
        obtain ⟨b, off, spot⟩ := x
        have hspot : spot = none := by simpa [Addr.add] using World.cell?_spot hc0
        subst hspot
        refine .inr ⟨b, off, rfl, ?_, fun j hj => ?_⟩
        · rcases Nat.lt_or_ge b W.heap.size with h | h
          · exact h
          · simp [World.cell?, Addr.add, Array.getElem?_eq_none h] at hc0
        · have := hcell j (by omega)
          rwa [Addr.add_lit] at this
  obtain ⟨a1, rfl, rfl, rfl, w1⟩ := open_int Yba.underlying5 (hval 1 5 v1 rfl rfl) h1
  obtain ⟨x, rfl, rfl, rfl, hx⟩ := open_string Yba.underlying9 (hval 2 9 v2 rfl rfl) h2
  have hb := bounds_u8 w1
  clear hA0 hval0
  refine (walk a0 len0 cap0 a1 x ns W hm hb.1 hb.2 hN).mono fun e W' ⟨he, bel⟩ => ?_
  subst he
  exact ⟨_, rfl, _, _, _, [], _, [], hW', trodAll_mk1 (shut_bool Yba.underlying4 _), (trodAll_cons_mk (Below.trod laidOut (by kernel_rfl) (of_decide_eq_true (by kernel_rfl)) k0 bel lt0) (trodAll_cons_mk (shut_int Yba.underlying5 w1) (trodAll_cons_mk (shut_string Yba.underlying9 hx) trodAll_mk0))), rfl, bel.frame _, fun h => by cases h⟩

theorem over : Rows.lawS0805CFindRow.holds Yba.pinned (OpenSpec.ofChange Rows.lawS0805CFindSpec) :=
  OpenClaim.holds_of_wide 8 Yba.f8 rfl rfl rfl rfl rfl rfl rfl ⟨rfl, rfl, rfl, rfl, rfl⟩ rfl rfl rfl rfl rfl (by kernel_rfl) Yba.func8 (by kernel_rfl)
    (of_decide_eq_true (by kernel_rfl)) (by unfold Func.isWrapper; first | (rw [if_pos (by decide +kernel)]; kernel_rfl) | (rw [if_neg (by decide +kernel)]; exact ⟨rfl, rfl⟩))
    (fun os started H enc _ => lifted os started H enc)

theorem proved : Rows.LawS0805CFindSaid := over
end Go.Proofs.Ybulkpqm.lawS0805CFind

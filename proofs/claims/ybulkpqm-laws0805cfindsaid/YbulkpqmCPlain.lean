import Derived.Test.YbulkpqmC2
import Derived.Sort.Statements
namespace Go.Proofs.Ybulkpqm.lawC
open Go.RowKit Go.Lib Go.Sort

/-! ### compareBytes is a total order -/
theorem cb_swap : ∀ a b : List UInt8, compareBytes b a = - compareBytes a b
  | [], [] => rfl
  | [], _ :: _ => rfl
  | _ :: _, [] => rfl
  | x :: a, y :: b => by
    have ih := cb_swap a b
    simp only [compareBytes]
    by_cases h1 : x < y
    · have h2 : ¬ y < x := by simp only [UInt8.lt_iff_toNat_lt] at *; omega
      simp [h1, h2]
    · by_cases h2 : y < x <;> simp [h1, h2, ih]

theorem cb_self : ∀ a : List UInt8, compareBytes a a = 0
  | [] => rfl
  | x :: a => by
    have h : ¬ x < x := by simp only [UInt8.lt_iff_toNat_lt]; omega
    simp [compareBytes, h, cb_self a]

theorem cb_eq : ∀ a b : List UInt8, compareBytes a b = 0 → a = b
  | [], [], _ => rfl
  | [], _ :: _, h => by simp [compareBytes] at h
  | _ :: _, [], h => by simp [compareBytes] at h
  | x :: a, y :: b, h => by
    simp only [compareBytes] at h
    by_cases h1 : x < y
    · simp [h1] at h
    · by_cases h2 : y < x
      · simp [h1, h2] at h
      · simp only [h1, h2, if_false] at h
        have e : x = y := by
          apply UInt8.toNat_inj.1
          simp only [UInt8.lt_iff_toNat_lt] at *
          omega
        rw [e, cb_eq a b h]

theorem cb_trans : ∀ a b c : List UInt8, compareBytes a b < 0 → compareBytes b c < 0 → compareBytes a c < 0
  | [], [], _, h, _ => by simp [compareBytes] at h
  | _ :: _, [], _, h, _ => by simp [compareBytes] at h
  | _, _ :: _, [], _, h => by simp [compareBytes] at h
  | [], _ :: _, _ :: _, _, _ => by simp [compareBytes]
  | x :: a, y :: b, z :: c, h1, h2 => by
    have ih := cb_trans a b c
    simp only [compareBytes] at *
    by_cases xy : x < y
    · by_cases yz : y < z
      · have xz : x < z := by simp only [UInt8.lt_iff_toNat_lt] at *; omega
        simp [xz]
      · by_cases zy : z < y
        · simp [yz, zy] at h2
        · have xz : x < z := by simp only [UInt8.lt_iff_toNat_lt] at *; omega
          simp [xz]
    · by_cases yx : y < x
      · simp [xy, yx] at h1
      · simp only [xy, yx, if_false] at h1
        by_cases yz : y < z
        · have xz : x < z := by simp only [UInt8.lt_iff_toNat_lt] at *; omega
          simp [xz]
        · by_cases zy : z < y
          · simp [yz, zy] at h2
          · simp only [yz, zy, if_false] at h2
            have xz : ¬ x < z := by simp only [UInt8.lt_iff_toNat_lt] at *; omega
            have zx : ¬ z < x := by simp only [UInt8.lt_iff_toNat_lt] at *; omega
            simp only [xz, zx, if_false]
            exact ih h1 h2

theorem less_eq : ∀ a b : List UInt8, Op.bytesLess a b = decide (compareBytes a b < 0)
  | [], [] => rfl
  | [], _ :: _ => rfl
  | _ :: _, [] => rfl
  | x :: a, y :: b => by
    have ih := less_eq a b
    simp only [compareBytes, Op.bytesLess]
    by_cases h1 : x < y
    · simp [h1]
    · by_cases h2 : y < x
      · have h3 : (x == y) = false := by
          simp only [beq_eq_false_iff_ne]
          intro e; subst e; exact h1 h2
        simp [h1, h2, h3]
      · have h3 : (x == y) = true := by
          simp only [beq_iff_eq]
          apply UInt8.toNat_inj.1
          simp only [UInt8.lt_iff_toNat_lt] at *
          omega
        simp [h1, h2, h3, ih]

theorem cmpS_swap (a b : ByteArray) : cmpS b a = - cmpS a b := cb_swap _ _
theorem cmpS_self (a : ByteArray) : cmpS a a = 0 := cb_self _
theorem cmpS_eq {a b : ByteArray} (h : cmpS a b = 0) : a = b := by
  have := cb_eq _ _ h
  cases a; cases b
  simp only [ByteArray.mk.injEq]
  exact Array.toList_inj.1 this
theorem cmpS_trans {a b c : ByteArray} (h : cmpS a b < 0) (k : cmpS b c < 0) : cmpS a c < 0 := cb_trans _ _ _ h k
theorem cmpS_zero_iff {a b : ByteArray} : cmpS a b = 0 ↔ a = b := ⟨cmpS_eq, fun h => by rw [h]; exact cmpS_self _⟩

/-- Less by (name, place). -/
theorem cf_neg {f : Nat → ByteArray} {i j : Nat} : cf f i j < 0 ↔ cmpS (f i) (f j) < 0 ∨ (f i = f j ∧ i < j) := by
  unfold cf or2 cmpI
  by_cases h : cmpS (f i) (f j) = 0
  · have e := cmpS_eq h
    rw [if_pos h]
    by_cases h1 : (i : Int) < j
    · simp only [h1, if_true]; constructor
      · intro _; exact .inr ⟨e, by omega⟩
      · intro _; omega
    · rw [if_neg h1]
      constructor
      · intro h2; split at h2 <;> omega
      · rintro (h2 | h2) <;> omega
  · rw [if_neg h]
    constructor
    · exact .inl
    · rintro (h2 | h2)
      · exact h2
      · rw [h2.1] at h; exact absurd (cmpS_self _) h

theorem lt_trans3 {f : Nat → ByteArray} {i j k : Nat} (h1 : cf f i j < 0) (h2 : cf f j k < 0) : cf f i k < 0 := by
  rw [cf_neg] at *
  rcases h1 with h1 | ⟨e1, h1⟩ <;> rcases h2 with h2 | ⟨e2, h2⟩
  · exact .inl (cmpS_trans h1 h2)
  · rw [← e2]; exact .inl h1
  · rw [e1]; exact .inl h2
  · exact .inr ⟨e1.trans e2, by omega⟩

theorem lt_irrefl3 {f : Nat → ByteArray} {i : Nat} : ¬ cf f i i < 0 := by
  rw [cf_neg, cmpS_self]; omega

theorem lt_total3 {f : Nat → ByteArray} {i j : Nat} (h : ¬ cf f i j < 0) : i = j ∨ cf f j i < 0 := by
  rw [cf_neg] at *
  have hs := cmpS_swap (f i) (f j)
  by_cases h1 : cmpS (f i) (f j) = 0
  · have e := cmpS_eq h1
    by_cases h2 : i < j
    · exact absurd (.inr ⟨e, h2⟩) h
    · by_cases h3 : i = j
      · exact .inl h3
      · exact .inr (.inr ⟨e.symm, by omega⟩)
  · by_cases h2 : cmpS (f i) (f j) < 0
    · exact absurd (.inl h2) h
    · exact .inr (.inl (by omega))

/-! ### A sorted order of the places -/
structure Ord (f : Nat → ByteArray) (c : Nat) (p : Nat → Nat) : Prop where
  lt : ∀ k, k < c → p k < c
  inj : ∀ k l, k < l → l < c → p k ≠ p l
  surj : ∀ i, i < c → ∃ k, k < c ∧ p k = i
  srt : ∀ k l, k < l → l < c → cf f (p k) (p l) < 0

/-- What stands at an earlier place has a name that is not greater. -/
theorem Ord.name {f : Nat → ByteArray} {c : Nat} {p : Nat → Nat} (h : Ord f c p) {k l : Nat} (hk : k ≤ l) (hl : l < c) (x : ByteArray) (hx : cmpS (f (p l)) x < 0) : cmpS (f (p k)) x < 0 := by
  by_cases e : k = l
  · rw [e]; exact hx
  · rcases cf_neg.1 (h.srt k l (by omega) hl) with h1 | ⟨h1, _⟩
    · exact cmpS_trans h1 hx
    · rw [h1]; exact hx

/-- The boundary k: all before precede x, none behind does. -/
def Bound (f : Nat → ByteArray) (c : Nat) (p : Nat → Nat) (x : ByteArray) (k : Nat) : Prop :=
  k ≤ c ∧ (∀ t, t < k → cmpS (f (p t)) x < 0) ∧ ∀ t, k ≤ t → t < c → ¬ cmpS (f (p t)) x < 0

theorem Ord.bound {f : Nat → ByteArray} {c : Nat} {p : Nat → Nat} (h : Ord f c p) (x : ByteArray) : ∃ k, Bound f c p x k := by
  have : ∀ n, n ≤ c → (∀ t, t < n → cmpS (f (p t)) x < 0) ∨ ∃ k, k < n ∧ Bound f c p x k := by
    intro n
    induction n with
    | zero => intro _; exact .inl fun t ht => absurd ht (Nat.not_lt_zero _)
    | succ n ih =>
      intro hn
      rcases ih (by omega) with h1 | ⟨k, hk, hb⟩
      · by_cases h2 : cmpS (f (p n)) x < 0
        · refine .inl fun t ht => ?_
          by_cases e : t = n
          · rw [e]; exact h2
          · exact h1 t (by omega)
        · exact .inr ⟨n, by omega, by omega, h1, fun t h3 h4 h5 => h2 (h.name h3 h4 x h5)⟩
      · exact .inr ⟨k, by omega, hb⟩
  rcases this c (Nat.le_refl _) with h1 | ⟨k, _, hb⟩
  · exact ⟨c, Nat.le_refl _, h1, fun t h2 h3 => by omega⟩
  · exact ⟨k, hb⟩

/-- The first member named x: the boundary's place. -/
theorem Ord.hit {f : Nat → ByteArray} {c : Nat} {p : Nat → Nat} (h : Ord f c p) {x : ByteArray} {k j : Nat} (hb : Bound f c p x k) (hj : j < c) (hx : f j = x) (hf : ∀ i, i < j → f i ≠ x) : k < c ∧ p k = j ∧ cmpS (f (p k)) x = 0 := by
  obtain ⟨k0, hk0, e0⟩ := h.surj j hj
  obtain ⟨b1, b2, b3⟩ := hb
  have n0 : cmpS (f (p k0)) x = 0 := by rw [e0, hx]; exact cmpS_self _
  have hle : k ≤ k0 := by
    rcases Nat.lt_or_ge k0 k with hlt | hge
    · have := b2 k0 hlt; omega
    · exact hge
  have he : k = k0 := by
    rcases Nat.lt_or_ge k k0 with hlt | hge
    · exfalso
      rcases cf_neg.1 (h.srt k k0 hlt hk0) with h1 | ⟨h1, h2⟩
      · refine b3 k (Nat.le_refl _) (by omega) ?_
        rw [e0, hx] at h1; exact h1
      · rw [e0] at h1 h2
        exact hf (p k) h2 (h1.trans hx)
    · omega
  subst he
  exact ⟨hk0, e0, n0⟩

theorem Ord.miss {f : Nat → ByteArray} {c : Nat} {p : Nat → Nat} (h : Ord f c p) {x : ByteArray} {k : Nat} (hf : ∀ i, i < c → f i ≠ x) (hk : k < c) : cmpS (f (p k)) x ≠ 0 := by
  intro e
  exact hf (p k) (h.lt k hk) (cmpS_eq e)

end Go.Proofs.Ybulkpqm.lawC

import Derived.Test.Qxb6630686aOne
import Derived.Laws.BitsAllLaws
namespace Go.Proofs.Qxb6630686a

/-- Bit b of the vector. -/
def bitB (V : Int) (b : Nat) : Bool := V.toNat.testBit b

theorem mask_bit (s : Nat → Int) (n b : Nat) : bitB (maskI s n) b = true ↔ ∃ j, j < n ∧ s j = 0 ∧ j % 64 = b := by
  induction n with
  | zero =>
    simp [bitB, maskI]
  | succ n ih =>
    unfold maskI
    by_cases h : s n = 0
    · rw [if_pos h]
      unfold bitB addBit
      rw [Int.toNat_natCast, Nat.testBit_or, Nat.testBit_two_pow, Bool.or_eq_true]
      constructor
      · rintro (hb | hb)
        · obtain ⟨j, h1, h2, h3⟩ := ih.1 hb
          exact ⟨j, by omega, h2, h3⟩
        · exact ⟨n, by omega, h, by simpa using hb⟩
      · rintro ⟨j, h1, h2, h3⟩
        by_cases e : j = n
        · subst e
          exact Or.inr (by simpa using h3)
        · exact Or.inl (ih.2 ⟨j, by omega, h2, h3⟩)
    · rw [if_neg h]
      rw [ih]
      constructor
      · rintro ⟨j, h1, h2, h3⟩
        exact ⟨j, by omega, h2, h3⟩
      · rintro ⟨j, h1, h2, h3⟩
        by_cases e : j = n
        · subst e; exact absurd h2 h
        · exact ⟨j, by omega, h2, h3⟩

theorem bit_lt (V : Int) (b : Nat) (h0 : 0 ≤ V) (h1 : V < 18446744073709551616) (h : bitB V b = true) : b < 64 := by
  rcases Nat.lt_or_ge b 64 with hb | hb
  · exact hb
  · have h2 : V.toNat < 2 ^ b := by
      have e : (2 : Nat) ^ 64 = 18446744073709551616 := by decide
      have e2 : (2 : Nat) ^ 64 ≤ 2 ^ b := Nat.pow_le_pow_right (by omega) hb
      omega
    unfold bitB at h
    rw [Nat.testBit_lt_two_pow h2] at h
    cases h

theorem bits_ext (V M : Int) (hV : 0 ≤ V) (hM : 0 ≤ M) (h : ∀ b, bitB V b = bitB M b) : V = M := by
  have e : V.toNat = M.toNat := Nat.eq_of_testBit_eq h
  omega

theorem allB_iff (s v : Nat → Int) (m : Int) (n : Nat) : allB s v m n = true ↔ ∀ k, k < n → s k = 0 → v k = m := by
  induction n with
  | zero => simp [allB]
  | succ n ih =>
    simp only [allB, Bool.and_eq_true, ih]
    constructor
    · rintro ⟨h1, h2⟩ k hk hs
      by_cases e : k = n
      · subst e
        rw [if_pos hs] at h2
        exact beq_iff_eq.1 h2
      · exact h1 k (by omega) hs
    · intro h
      refine ⟨fun k hk hs => h k (by omega) hs, ?_⟩
      by_cases hs : s n = 0
      · rw [if_pos hs]; exact beq_iff_eq.2 (h n (by omega) hs)
      · rw [if_neg hs]

theorem oneB_iff (s v : Nat → Int) (n : Nat) : oneB s v n = true ↔ (∃ k, k < n ∧ s k = 0) ∧ ∀ k, k < n → s k = 0 → v k = maskI s n := by
  have hz : (maskI s n != 0) = true ↔ ∃ k, k < n ∧ s k = 0 := by
    rw [bne_iff_ne]
    constructor
    · intro h
      rcases Classical.em (∃ k, k < n ∧ s k = 0) with hk | hk
      · exact hk
      · refine absurd (bits_ext (maskI s n) 0 (maskI_bounds s n).1 (by omega) (fun b => ?_)) h
        have h1 : bitB 0 b = false := by simp [bitB]
        rw [h1]
        rcases Bool.eq_false_or_eq_true (bitB (maskI s n) b) with e | e
        · obtain ⟨j, h1, h2, _⟩ := (mask_bit s n b).1 e
          exact absurd ⟨j, h1, h2⟩ hk
        · exact e
    · rintro ⟨k, h1, h2⟩ e
      have := (mask_bit s n (k % 64)).2 ⟨k, h1, h2, rfl⟩
      rw [e] at this
      simp [bitB] at this
  unfold oneB
  rw [Bool.and_eq_true, hz, allB_iff]

/-- The second loop of the membership model: after k rounds. -/
def w2 (s v : Nat → Int) (V : Int) : Nat → Bool
  | 0 => true
  | k + 1 => w2 s v V k && (if s k = 0 then (v k == V) && bitB V (k % 64) else true)

theorem w2_iff (s v : Nat → Int) (V : Int) (n : Nat) : w2 s v V n = true ↔ ∀ k, k < n → s k = 0 → v k = V ∧ bitB V (k % 64) = true := by
  induction n with
  | zero => simp [w2]
  | succ n ih =>
    simp only [w2, Bool.and_eq_true, ih]
    constructor
    · rintro ⟨h1, h2⟩ k hk hs
      by_cases e : k = n
      · subst e
        rw [if_pos hs, Bool.and_eq_true] at h2
        exact ⟨beq_iff_eq.1 h2.1, h2.2⟩
      · exact h1 k (by omega) hs
    · intro h
      refine ⟨fun k hk hs => h k (by omega) hs, ?_⟩
      by_cases hs : s n = 0
      · rw [if_pos hs, Bool.and_eq_true]; exact ⟨beq_iff_eq.2 (h n (by omega) hs).1, (h n (by omega) hs).2⟩
      · rw [if_neg hs]

/-- Some active station sits at position b among the first j. -/
def at4 (s : Nat → Int) (b : Nat) : Nat → Bool
  | 0 => false
  | j + 1 => at4 s b j || (s j == 0 && j % 64 == b)

theorem at4_iff (s : Nat → Int) (b n : Nat) : at4 s b n = true ↔ ∃ j, j < n ∧ s j = 0 ∧ j % 64 = b := by
  induction n with
  | zero => simp [at4]
  | succ n ih =>
    simp only [at4, Bool.or_eq_true, ih, Bool.and_eq_true, beq_iff_eq]
    constructor
    · rintro (⟨j, h1, h2, h3⟩ | ⟨h2, h3⟩)
      · exact ⟨j, by omega, h2, h3⟩
      · exact ⟨n, by omega, h2, h3⟩
    · rintro ⟨j, h1, h2, h3⟩
      by_cases e : j = n
      · subst e; exact Or.inr ⟨h2, h3⟩
      · exact Or.inl ⟨j, by omega, h2, h3⟩

/-- The third loop: after c rounds. -/
def w3 (s : Nat → Int) (V : Int) (n : Nat) (x : Bool) : Nat → Bool
  | 0 => x
  | c + 1 => w3 s V n x c && (if bitB V c = true then at4 s c n else true)

theorem w3_iff (s : Nat → Int) (V : Int) (n : Nat) (x : Bool) (c : Nat) : w3 s V n x c = true ↔ x = true ∧ ∀ b, b < c → bitB V b = true → at4 s b n = true := by
  induction c with
  | zero => simp [w3]
  | succ c ih =>
    simp only [w3, Bool.and_eq_true, ih]
    constructor
    · rintro ⟨⟨h0, h1⟩, h2⟩
      refine ⟨h0, fun b hb hB => ?_⟩
      by_cases e : b = c
      · subst e
        rw [if_pos hB] at h2
        exact h2
      · exact h1 b (by omega) hB
    · rintro ⟨h0, h1⟩
      refine ⟨⟨h0, fun b hb hB => h1 b (by omega) hB⟩, ?_⟩
      by_cases hB : bitB V c = true
      · rw [if_pos hB]; exact h1 c (by omega) hB
      · rw [if_neg hB]

/-- THE PLAIN LAW: the membership model is OneClique. -/
theorem model_is (s v : Nat → Int) (n f : Nat) (hv : ∀ k, k < n → 0 ≤ v k ∧ v k < 18446744073709551616) (hf : f < n) (hs : s f = 0) : oneB s v n = w3 s (v f) n (w2 s v (v f) n) 64 := by
  rw [Bool.eq_iff_iff, oneB_iff, w3_iff, w2_iff]
  constructor
  · rintro ⟨_, h⟩
    have hV := h f hf hs
    rw [hV]
    refine ⟨fun k hk hk0 => ⟨h k hk hk0, (mask_bit s n _).2 ⟨k, hk, hk0, rfl⟩⟩, fun b _ hB => ?_⟩
    rw [at4_iff]
    exact (mask_bit s n b).1 hB
  · rintro ⟨h1, h2⟩
    have hV : v f = maskI s n := by
      refine bits_ext _ _ (hv f hf).1 (maskI_bounds s n).1 (fun b => ?_)
      rw [Bool.eq_iff_iff, mask_bit]
      constructor
      · intro hB
        exact (at4_iff s b n).1 (h2 b (bit_lt _ _ (hv f hf).1 (hv f hf).2 hB) hB)
      · rintro ⟨j, a1, a2, rfl⟩
        exact (h1 j a1 a2).2
    exact ⟨⟨f, hf, hs⟩, fun k hk hk0 => by rw [(h1 k hk hk0).1, hV]⟩

theorem model_none (s v : Nat → Int) (n : Nat) (h : ∀ k, k < n → ¬ s k = 0) : oneB s v n = false := by
  rcases Bool.eq_false_or_eq_true (oneB s v n) with e | e
  · obtain ⟨⟨k, h1, h2⟩, _⟩ := (oneB_iff s v n).1 e
    exact absurd h2 (h k h1)
  · exact e
theorem bit_test (V : Int) (j : Nat) (h0 : 0 ≤ V) (h1 : V < 18446744073709551616) : (bits BinOp.and IntKind.u64 (V / 2 ^ j) 1 == 0) = !bitB V j := by
  obtain ⟨N, rfl⟩ := Int.eq_ofNat_of_zero_le h0
  have e : ((N : Int) / 2 ^ j) = ((N / 2 ^ j : Nat) : Int) := by simp
  have hN : N < 18446744073709551616 := by omega
  have hd : N / 2 ^ j < 18446744073709551616 := Nat.lt_of_le_of_lt (Nat.div_le_self _ _) hN
  have e1 : (1 : Int) = ((1 : Nat) : Int) := rfl
  rw [e, e1, u64_and_nat _ _ hd (by omega), nat_mask1]
  unfold bitB
  rw [Int.toNat_natCast, Nat.testBit_eq_decide_div_mod_eq]
  generalize N / 2 ^ j = M
  have : M % 2 = 0 ∨ M % 2 = 1 := by omega
  rcases this with h | h <;> rw [h] <;> rfl

theorem wraps_u64 (n : Int) (h₀ : 0 ≤ n) (h₁ : n < 2 ^ 64) : IntKind.u64.wrap n = n := by
  rw [IntKind.wrap_u64]
  have e : (2 : Int) ^ 64 = 18446744073709551616 := by decide
  omega

theorem and63_u64 (k : Nat) (hk : k ≤ 1048576) : bits BinOp.and IntKind.u64 (k : Int) 63 = (k : Int) % 64 :=
  bits_mask .u64 64 (by decide) wraps_u64 6 (by decide) (k : Int) (by omega) (by
    have e : (2 : Int) ^ 64 = 18446744073709551616 := by decide
    omega)

theorem w2_skip (s v : Nat → Int) (V : Int) (m : Nat) (h : ¬ s m = 0) : w2 s v V (m + 1) = w2 s v V m := by
  simp only [w2, if_neg h, Bool.and_true]
theorem w2_no1 (s v : Nat → Int) (V : Int) (m : Nat) (h : s m = 0) (h1 : (v m != V) = true) : w2 s v V (m + 1) = false := by
  have h2 : (v m == V) = false := beq_eq_false_iff_ne.2 (bne_iff_ne.1 h1)
  simp only [w2, if_pos h, h2, Bool.false_and, Bool.and_false]
theorem w2_no2 (s v : Nat → Int) (V : Int) (m : Nat) (h : s m = 0) (h1 : bitB V (m % 64) = false) : w2 s v V (m + 1) = false := by
  simp only [w2, if_pos h, h1, Bool.and_false]
theorem w2_yes (s v : Nat → Int) (V : Int) (m : Nat) (h : s m = 0) (h1 : (v m != V) = false) (h2 : bitB V (m % 64) = true) : w2 s v V (m + 1) = w2 s v V m := by
  have h3 : (v m == V) = true := by
    rw [bne_eq_false_iff_eq] at h1
    exact beq_iff_eq.2 h1
  simp only [w2, if_pos h, h3, h2, Bool.and_true]

theorem w3_skip (s : Nat → Int) (V : Int) (n : Nat) (x : Bool) (c : Nat) (h : bitB V c = false) : w3 s V n x (c + 1) = w3 s V n x c := by
  simp only [w3, h, Bool.false_eq_true, if_false, Bool.and_true]
theorem w3_found (s : Nat → Int) (V : Int) (n : Nat) (x : Bool) (c : Nat) (h : at4 s c n = true) : w3 s V n x (c + 1) = w3 s V n x c := by
  simp only [w3, h, ite_self, Bool.and_true]
theorem w3_not (s : Nat → Int) (V : Int) (n : Nat) (x : Bool) (c : Nat) (hb : bitB V c = true) (h : at4 s c n = false) : w3 s V n x (c + 1) = false := by
  simp only [w3, h, if_pos hb, Bool.and_false]

theorem at4_hit (s : Nat → Int) (b j n : Nat) (h : j < n) (h1 : s j = 0) (h2 : j % 64 = b) : at4 s b n = true := (at4_iff s b n).2 ⟨j, h, h1, h2⟩
theorem at4_miss (s : Nat → Int) (b j : Nat) (h : at4 s b j = false) (h1 : ¬ (s j = 0 ∧ j % 64 = b)) : at4 s b (j + 1) = false := by
  rcases Bool.eq_false_or_eq_true (at4 s b (j + 1)) with e | e
  · obtain ⟨i, a1, a2, a3⟩ := (at4_iff s b (j + 1)).1 e
    by_cases ei : i = j
    · subst ei; exact absurd ⟨a2, a3⟩ h1
    · have := (at4_iff s b j).2 ⟨i, by omega, a2, a3⟩
      rw [h] at this; cases this
  · exact e
end Go.Proofs.Qxb6630686a

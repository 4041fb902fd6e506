import Derived.Test.Qxb6630686aPlain
namespace Go.Proofs.Qxb6630686a

/-- Some station among the first k is active. -/
def hasB (s : Nat → Int) : Nat → Bool
  | 0 => false
  | k + 1 => if s k = 0 then true else hasB s k

theorem hasB_iff (s : Nat → Int) (n : Nat) : hasB s n = true ↔ ∃ k, k < n ∧ s k = 0 := by
  induction n with
  | zero => simp [hasB]
  | succ n ih =>
    unfold hasB
    by_cases h : s n = 0
    · rw [if_pos h]
      exact ⟨fun _ => ⟨n, by omega, h⟩, fun _ => rfl⟩
    · rw [if_neg h, ih]
      constructor
      · rintro ⟨k, h1, h2⟩; exact ⟨k, by omega, h2⟩
      · rintro ⟨k, h1, h2⟩
        by_cases e : k = n
        · subst e; exact absurd h2 h
        · exact ⟨k, by omega, h2⟩

/-- Every active station's vector set to M. -/
def heal (s v : Nat → Int) (M : Int) (k : Nat) : Int := if s k = 0 then M else v k

theorem heal_one (s v : Nat → Int) (n : Nat) : oneB s (heal s v (maskI s n)) n = hasB s n := by
  rw [Bool.eq_iff_iff, oneB_iff, hasB_iff]
  constructor
  · exact fun h => h.1
  · exact fun h => ⟨h, fun k _ hs => if_pos hs⟩

/-- One station's vector set to x. -/
def broke (v : Nat → Int) (k : Nat) (x : Int) (j : Nat) : Int := if j = k then x else v j

theorem broke_one (s v : Nat → Int) (n k : Nat) (x : Int) (hk : k < n) (hs : s k = 0) (hx : x ≠ maskI s n) : oneB s (broke v k x) n = false := by
  rcases Bool.eq_false_or_eq_true (oneB s (broke v k x) n) with e | e
  · have := ((oneB_iff s _ n).1 e).2 k hk hs
    unfold broke at this
    rw [if_pos rfl] at this
    exact absurd this hx
  · exact e

theorem xor_ne (M : Int) (c : Nat) (h0 : 0 ≤ M) (h1 : M < 18446744073709551616) (hc : c < 64) : bits BinOp.xor IntKind.u64 M (IntKind.u64.wrap ((2 : Int) ^ c)) ≠ M := by
  have hp : (2 : Nat) ^ c < 18446744073709551616 := by
    have := pow_lt c
    rwa [Nat.mod_eq_of_lt hc] at this
  have hp0 : 0 < (2 : Nat) ^ c := Nat.pow_pos (by omega)
  have hw := wrap_pow c
  rw [Nat.mod_eq_of_lt hc] at hw
  rw [hw]
  obtain ⟨N, rfl⟩ := Int.eq_ofNat_of_zero_le h0
  have hN : N < 18446744073709551616 := by omega
  rw [u64_xor_nat _ _ hN hp]
  intro e
  have e2 : N ^^^ 2 ^ c = N := by omega
  have e3 : N ^^^ (N ^^^ 2 ^ c) = N ^^^ N := by rw [e2]
  rw [← Nat.xor_assoc, Nat.xor_self, Nat.zero_xor] at e3
  omega
end Go.Proofs.Qxb6630686a

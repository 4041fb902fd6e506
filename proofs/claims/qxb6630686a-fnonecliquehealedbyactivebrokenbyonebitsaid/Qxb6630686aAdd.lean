import Derived.Test.Qxb6630686aProg
import Derived.WalkKit
import Derived.WalkSpells
import Derived.WalkLawsBesides
import Derived.Laws.BitsAllLaws
namespace Go.Proofs.Qxb6630686a
open Go.RowKit

/-- The set with the station's bit. -/
def addBit (x : Int) (k : Nat) : Int := ((x.toNat ||| 2 ^ (k % 64) : Nat) : Int)

theorem pow_lt (k : Nat) : 2 ^ (k % 64) < 18446744073709551616 := by
  have h : k % 64 < 64 := Nat.mod_lt _ (by omega)
  calc 2 ^ (k % 64) < 2 ^ 64 := Nat.pow_lt_pow_right (by omega) h
    _ = 18446744073709551616 := by decide

theorem wrap_pow (k : Nat) : IntKind.u64.wrap ((2 : Int) ^ (k % 64)) = ((2 ^ (k % 64) : Nat) : Int) := by
  have h := pow_lt k
  rw [IntKind.wrap_u64]
  have e : ((2 : Int) ^ (k % 64)) = ((2 ^ (k % 64) : Nat) : Int) := by simp
  rw [e]
  generalize (2 ^ (k % 64) : Nat) = p at h
  exact Int.emod_eq_of_lt (by omega) (by omega)

theorem addBit_bounds (x : Int) (k : Nat) (h0 : 0 ≤ x) (h1 : x < 18446744073709551616) : 0 ≤ addBit x k ∧ addBit x k < 18446744073709551616 := by
  unfold addBit
  have h := pow_lt k
  have h2 : x.toNat < 2 ^ 64 := by
    have e : (2 : Nat) ^ 64 = 18446744073709551616 := by decide
    omega
  have h3 : x.toNat ||| 2 ^ (k % 64) < 2 ^ 64 := Nat.or_lt_two_pow h2 (by have e : (2 : Nat) ^ 64 = 18446744073709551616 := by decide
                                                                          omega)
  have e : (2 : Nat) ^ 64 = 18446744073709551616 := by decide
  omega

theorem or_add (x : Int) (k : Nat) (h0 : 0 ≤ x) (h1 : x < 18446744073709551616) : bits BinOp.or IntKind.u64 x (IntKind.u64.wrap ((2 : Int) ^ (k % 64))) = addBit x k := by
  have h := pow_lt k
  unfold addBit
  rw [wrap_pow]
  generalize (2 ^ (k % 64) : Nat) = p at h
  rw [u64_or x _ h0 h1 (by omega) (by omega), Int.toNat_natCast]

theorem wraps_i64 (n : Int) (h₀ : 0 ≤ n) (h₁ : n < 2 ^ 63) : IntKind.i64.wrap n = n := by
  rw [IntKind.wrap_i64]
  have e : (2 : Int) ^ 63 = 9223372036854775808 := by decide
  omega

theorem and63_i64 (k : Nat) (hk : k ≤ 1048576) : bits BinOp.and IntKind.i64 (k : Int) 63 = (k : Int) % 64 :=
  bits_mask .i64 63 (by decide) wraps_i64 6 (by decide) (k : Int) (by omega) (by have e : (2 : Int) ^ 63 = 9223372036854775808 := by decide
                                                                                 omega)

theorem ret_int {k : IntKind} {a b : Int} (h : a = b) : Ending.returned (.int k a) = .returned (.int k b) := by rw [h]

set_option maxHeartbeats 400000 in
theorem add_any (x : Int) (k : Nat) (w : World) (hx0 : 0 ≤ x) (hx1 : x < 18446744073709551616) (hk : k ≤ 1048576) :
    Calls Try.prog 11 #[.int .u64 x, .int .i64 k] w fun e w' => e = .returned (.int .u64 (addBit x k)) ∧ w' = w := by
  have hb := and63_i64 k hk
  have HO : Hid (bits BinOp.or IntKind.u64 x (IntKind.u64.wrap ((2 : Int) ^ (k % 64))) = addBit x k) := or_add x k hx0 hx1
  go_enter Try.func11, Try.ntmps11
  go_wp2
  go_ret
  exact ⟨ret_int HO.out, rfl⟩
end Go.Proofs.Qxb6630686a

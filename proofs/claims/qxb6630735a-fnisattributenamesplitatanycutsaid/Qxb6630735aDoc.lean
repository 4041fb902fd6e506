import Derived.Test.Qxb6630735aName
namespace Go.Proofs.Qxb6630735a
open Go.RowKit

/-- The documented bytes. -/
def docL : List Nat := [97, 98, 99, 100, 101, 102, 103, 104, 105, 106, 107, 108, 109, 110, 111, 112, 113, 114, 115, 116, 117, 118, 119, 120, 121, 122, 65, 66, 67, 68, 69, 70, 71, 72, 73, 74, 75, 76, 77, 78, 79, 80, 81, 82, 83, 84, 85, 86, 87, 88, 89, 90, 48, 49, 50, 51, 52, 53, 54, 55, 56, 57, 95, 45, 46]
def docN (k : Nat) : Int := (docL.getD k 0 : Nat)

theorem doc_at : ∀ k : Nat, (h : k < 65) → (((⟨#[97, 98, 99, 100, 101, 102, 103, 104, 105, 106, 107, 108, 109, 110, 111, 112, 113, 114, 115, 116, 117, 118, 119, 120, 121, 122, 65, 66, 67, 68, 69, 70, 71, 72, 73, 74, 75, 76, 77, 78, 79, 80, 81, 82, 83, 84, 85, 86, 87, 88, 89, 90, 48, 49, 50, 51, 52, 53, 54, 55, 56, 57, 95, 45, 46]⟩ : ByteArray)[k]'h).toNat : Int) = docN k := by
  have h : ∀ k : Fin 65, (((⟨#[97, 98, 99, 100, 101, 102, 103, 104, 105, 106, 107, 108, 109, 110, 111, 112, 113, 114, 115, 116, 117, 118, 119, 120, 121, 122, 65, 66, 67, 68, 69, 70, 71, 72, 73, 74, 75, 76, 77, 78, 79, 80, 81, 82, 83, 84, 85, 86, 87, 88, 89, 90, 48, 49, 50, 51, 52, 53, 54, 55, 56, 57, 95, 45, 46]⟩ : ByteArray)[k.val]'k.isLt).toNat : Int) = docN k.val := by decide +kernel
  exact fun k hk => h ⟨k, hk⟩

theorem doc_hit {k : Nat} {x : Int} (hk : k < 65) (h : (docN k == x) = true) : okB (UInt8.ofNat x.toNat) = true := by
  have hall : ∀ k : Fin 65, okB (UInt8.ofNat (docN k.val).toNat) = true := by decide +kernel
  rw [← beq_iff_eq.1 h]
  exact hall ⟨k, hk⟩

theorem doc_miss {x : Int} (h0 : 0 ≤ x) (h1 : x < 256) (h : ∀ j, j < 65 → ¬ docN j = x) : okB (UInt8.ofNat x.toNat) = false := by
  have hall : ∀ n : Fin 256, okB (UInt8.ofNat n.val) = true → ∃ j : Fin 65, docN j.val = (n.val : Int) := by decide +kernel
  rcases Bool.eq_false_or_eq_true (okB (UInt8.ofNat x.toNat)) with e | e
  · obtain ⟨j, hj⟩ := hall ⟨x.toNat, by omega⟩ e
    have e2 : ((x.toNat : Nat) : Int) = x := Int.toNat_of_nonneg h0
    exact absurd (hj.trans e2) (h j.val j.isLt)
  · exact e

set_option maxHeartbeats 400000 in
theorem doc_any (x : Int) (w : World) (h0 : 0 ≤ x) (h1 : x < 256) :
    Calls Try.prog 7 #[.int .u8 x] w fun e w' => e = .returned (.bool (okB (UInt8.ofNat x.toNat))) ∧ w' = w := by
  go_enter Try.func7, Try.ntmps7
  go_wp2
  go_loop [3] (fun i => ∃ k : Nat, k ≤ 65 ∧ i = .int .i64 k ∧ Hid (∀ j, j < k → ¬ docN j = x)) (fun i => 65 - (intOf i).toNat)
  case atStart => exact ⟨0, by omega, rfl, fun j hj => absurd hj (by omega)⟩
  case round =>
    obtain ⟨k, hk, rfl, HN⟩ := hrel
    by_cases hlt : k < 65
    · have hD := doc_at k hlt
      by_cases hx : docN k = x
      · have hb : (docN k == x) = true := beq_iff_eq.2 hx
        have HE : Hid (okB (UInt8.ofNat x.toNat) = true) := doc_hit hlt hb
        clear hx
        go_wp2
        go_ret
        exact ⟨ret_bool HE.out.symm, rfl⟩
      · have hb : (docN k == x) = false := beq_eq_false_iff_ne.2 hx
        have HN2 : Hid (∀ j, j < k + 1 → ¬ docN j = x) := fun j hj => by
          by_cases e : j = k
          · subst e; exact hx
          · exact HN.out j (by omega)
        clear hx
        go_wp2
        go_round
        case rel => exact ⟨k + 1, by omega, by go_num, HN2⟩
        case measure => simp [intOf]; omega
    · have HE : Hid (okB (UInt8.ofNat x.toNat) = false) := doc_miss h0 h1 (fun j hj => HN.out j (by omega))
      go_wp2
      go_ret
      exact ⟨ret_bool HE.out.symm, rfl⟩
end Go.Proofs.Qxb6630735a

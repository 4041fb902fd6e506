import Derived.Test.Qxb6630686aAdd
namespace Go.Proofs.Qxb6630686a
open Go.RowKit

/-- The set of the active stations among the first k. -/
def maskI (s : Nat → Int) : Nat → Int
  | 0 => 0
  | k + 1 => if s k = 0 then addBit (maskI s k) k else maskI s k

theorem maskI_bounds (s : Nat → Int) (k : Nat) : 0 ≤ maskI s k ∧ maskI s k < 18446744073709551616 := by
  induction k with
  | zero => unfold maskI; omega
  | succ k ih =>
    unfold maskI
    split
    · exact addBit_bounds _ _ ih.1 ih.2
    · exact ih

/-- A row of n stations at an address: four cells each. -/
def Row4 (w : World) (b off n : Nat) (s v p q : Nat → Int) : Prop :=
  ∀ k, k < n → w.cell? ⟨b, off + k * 4, none⟩ = some (.int .i64 (s k)) ∧ w.cell? ⟨b, off + k * 4 + 1, none⟩ = some (.int .u64 (v k)) ∧
    w.cell? ⟨b, off + k * 4 + 2, none⟩ = some (.int .i64 (p k)) ∧ w.cell? ⟨b, off + k * 4 + 3, none⟩ = some (.int .i64 (q k))

theorem Row4.below {w w' : World} {b off n m : Nat} {s v p q : Nat → Int} (h : Row4 w b off n s v p q) (hb : Below m w w') (hm : b < m) : Row4 w' b off n s v p q := by
  intro k hk
  obtain ⟨h0, h1, h2, h3⟩ := h k hk
  exact ⟨(hb.cell (p := ⟨b, _, none⟩) hm).trans h0, (hb.cell (p := ⟨b, _, none⟩) hm).trans h1, (hb.cell (p := ⟨b, _, none⟩) hm).trans h2, (hb.cell (p := ⟨b, _, none⟩) hm).trans h3⟩

set_option maxHeartbeats 400000 in
theorem active_some (C B n cap : Nat) (s v p q : Nat → Int) (w : World) (hn : n ≤ 1048576) (hB : B < w.heap.size)
    (hc : w.cell? ⟨C, 2, none⟩ = some (.slice (some ⟨B, 0, none⟩) n cap)) (hr : Row4 w B 0 n s v p q) :
    Calls Try.prog 9 #[.pointer (some ⟨C, 0, none⟩)] w fun e w' => e = .returned (.int .u64 (maskI s n)) ∧ Below w.heap.size w w' := by
  go_enter Try.func9, Try.ntmps9
  go_wp2
  go_loopw [3, 11] (fun m i wr => ∃ k : Nat, k ≤ n ∧ i = .int .i64 k ∧ m = .int .u64 (maskI s k) ∧ Below w.heap.size w wr) (fun _ i _ => n - (intOf i).toNat)
  case atStart => exact ⟨0, Nat.zero_le _, rfl, rfl, Below.refl _ _⟩
  case round =>
    obtain ⟨k, hk, rfl, rfl, hb⟩ := hrel
    by_cases hlt : k < n
    · have HR := hr.below hb hB
      obtain ⟨c0, c1, c2, c3⟩ := HR k hlt
      clear HR
      simp only [Nat.zero_add] at c0 c1 c2 c3
      have hmb := maskI_bounds s k
      have HE : Hid (maskI s (k + 1) = if s k = 0 then addBit (maskI s k) k else maskI s k) := rfl
      by_cases hs : s k = 0
      · have hs1 : (s k == 0) = true := beq_iff_eq.2 hs
        have HE2 : Hid (maskI s (k + 1) = addBit (maskI s k) k) := by show _ = _; rw [HE.out, if_pos hs]
        clear hs HE
        go_wp2_with fail
        refine (add_any _ _ _ hmb.1 hmb.2 (by omega)).mono ?_
        rintro e w1 ⟨rfl, rfl⟩
        go_wp2
        go_roundw
        case rel => exact ⟨k + 1, by omega, by go_num, by rw [HE2.out], hb.alloc hb.size _⟩
        case measure => simp [intOf]; omega
      · have hs1 : (s k == 0) = false := beq_eq_false_iff_ne.2 hs
        have HE2 : Hid (maskI s (k + 1) = maskI s k) := by show _ = _; rw [HE.out, if_neg hs]
        clear hs HE
        go_wp2
        go_roundw
        case rel => exact ⟨k + 1, by omega, by go_num, by rw [HE2.out], hb.alloc hb.size _⟩
        case measure => simp [intOf]; omega
    · obtain rfl : k = n := by omega
      go_wp2
      go_ret
      exact ⟨rfl, hb⟩

set_option maxHeartbeats 400000 in
/-- No station. -/
theorem active_none (C cap : Nat) (a : Option Addr) (w : World) (hc : w.cell? ⟨C, 2, none⟩ = some (.slice a 0 cap)) :
    Calls Try.prog 9 #[.pointer (some ⟨C, 0, none⟩)] w fun e w' => e = .returned (.int .u64 0) ∧ Below w.heap.size w w' := by
  go_enter Try.func9, Try.ntmps9
  go_wp2
  go_loop [3, 11] (fun m i => i = .int .i64 0 ∧ m = .int .u64 0) (fun _ _ => 0)
  case atStart => exact ⟨rfl, rfl⟩
  case round =>
    obtain ⟨rfl, rfl⟩ := hrel
    go_wp2
    go_ret
    exact ⟨rfl, Below.refl _ _⟩
end Go.Proofs.Qxb6630686a

import Derived.Test.Qxb6630686aActive
namespace Go.Proofs.Qxb6630686a
open Go.RowKit

/-- Each active station among the first k holds the vector m. -/
def allB (s v : Nat → Int) (m : Int) : Nat → Bool
  | 0 => true
  | k + 1 => allB s v m k && (if s k = 0 then v k == m else true)

theorem allB_false (s v : Nat → Int) (m : Int) (k n : Nat) (h : k ≤ n) (hf : allB s v m k = false) : allB s v m n = false := by
  induction n with
  | zero =>
    obtain rfl : k = 0 := by omega
    exact hf
  | succ n ih =>
    by_cases e : k = n + 1
    · subst e; exact hf
    · simp only [allB, ih (by omega), Bool.false_and]

/-- One clique: some station is active, each active one holds the set of the active ones. -/
def oneB (s v : Nat → Int) (n : Nat) : Bool := (maskI s n != 0) && allB s v (maskI s n) n

theorem ret_bool {a b : Bool} (h : a = b) : Ending.returned (.bool a) = .returned (.bool b) := by rw [h]

set_option maxHeartbeats 400000 in
theorem one_some (C B n cap : Nat) (s v p q : Nat → Int) (w : World) (hn : n ≤ 1048576) (hC : C < w.heap.size) (hB : B < w.heap.size)
    (hc : w.cell? ⟨C, 2, none⟩ = some (.slice (some ⟨B, 0, none⟩) n cap)) (hr : Row4 w B 0 n s v p q) :
    Calls Try.prog 7 #[.pointer (some ⟨C, 0, none⟩)] w fun e w' => e = .returned (.bool (oneB s v n)) ∧ Below w.heap.size w w' := by
  go_enter Try.func7, Try.ntmps7
  go_wp2_with fail
  refine (active_some C B n cap s v p q w hn hB hc hr).mono ?_
  rintro e w1 ⟨rfl, hb1⟩
  have hc1 : w1.cell? ⟨C, 2, none⟩ = some (.slice (some ⟨B, 0, none⟩) n cap) := (hb1.cell (p := ⟨C, 2, none⟩) hC).trans hc
  have hr1 := hr.below hb1 hB
  have hB1 : B < w1.heap.size := Nat.lt_of_lt_of_le hB hb1.size
  clear hc hr
  obtain ⟨M, hM⟩ : ∃ M, M = maskI s n := ⟨_, rfl⟩
  have HO : Hid (oneB s v n = ((M != 0) && allB s v M n)) := by show _ = _; rw [hM]; rfl
  rw [← hM]
  clear hM
  by_cases hz : M = 0
  · have hz1 : (M == 0) = true := beq_iff_eq.2 hz
    have HO2 : Hid (oneB s v n = false) := by show _ = _; rw [HO.out, hz]; rfl
    clear hz HO
    go_wp2
    go_ret
    exact ⟨ret_bool HO2.out.symm, hb1⟩
  have hz1 : (M == 0) = false := beq_eq_false_iff_ne.2 hz
  have HO2 : Hid (oneB s v n = allB s v M n) := by
    show _ = _
    rw [HO.out, bne_iff_ne.2 hz, Bool.true_and]
  clear hz HO
  go_wp2
  go_loopw [15] (fun i wr => ∃ k : Nat, k ≤ n ∧ i = .int .i64 k ∧ Below w1.heap.size w1 wr ∧ Hid (allB s v M k = true)) (fun i _ => n - (intOf i).toNat)
  case atStart => exact ⟨0, Nat.zero_le _, rfl, Below.refl _ _, rfl⟩
  case round =>
    obtain ⟨k, hk, rfl, hb, HA⟩ := hrel
    have HB : Hid (Below w.heap.size w wr) := hb1.trans (hb.mono hb1.size)
    by_cases hlt : k < n
    · obtain ⟨c0, c1, c2, c3⟩ := hr1.below hb hB1 k hlt
      simp only [Nat.zero_add] at c0 c1 c2 c3
      have HE : Hid (allB s v M (k + 1) = (allB s v M k && (if s k = 0 then v k == M else true))) := rfl
      by_cases hs : s k = 0
      · have hs1 : (s k == 0) = true := beq_iff_eq.2 hs
        by_cases hv : v k = M
        · have hv1 : (v k != M) = false := by rw [hv]; simp
          have HE2 : Hid (allB s v M (k + 1) = true) := by show _ = _; rw [HE.out, HA.out, if_pos hs, beq_iff_eq.2 hv]; rfl
          clear hs HE hv
          go_wp2
          go_roundw
          case rel => exact ⟨k + 1, by omega, by go_num, hb.alloc hb.size _, HE2⟩
          case measure => simp [intOf]; omega
        · have hv1 : (v k != M) = true := bne_iff_ne.2 hv
          have HE2 : Hid (allB s v M n = false) := allB_false s v M (k + 1) n (by omega) (by rw [HE.out, if_pos hs, beq_eq_false_iff_ne.2 hv, Bool.and_false])
          clear hs HE hv
          go_wp2
          go_ret
          exact ⟨ret_bool (by rw [HO2.out, HE2.out]), HB.out.alloc HB.out.size _⟩
      · have hs1 : (s k == 0) = false := beq_eq_false_iff_ne.2 hs
        have HE2 : Hid (allB s v M (k + 1) = true) := by show _ = _; rw [HE.out, HA.out, if_neg hs]; rfl
        clear hs HE
        go_wp2
        go_roundw
        case rel => exact ⟨k + 1, by omega, by go_num, hb.alloc hb.size _, HE2⟩
        case measure => simp [intOf]; omega
    · obtain rfl : k = n := by omega
      go_wp2
      go_ret
      exact ⟨ret_bool (by rw [HO2.out, HA.out]), HB.out⟩

set_option maxHeartbeats 400000 in
theorem one_none (C cap : Nat) (a : Option Addr) (w : World) (hc : w.cell? ⟨C, 2, none⟩ = some (.slice a 0 cap)) :
    Calls Try.prog 7 #[.pointer (some ⟨C, 0, none⟩)] w fun e w' => e = .returned (.bool false) ∧ Below w.heap.size w w' := by
  go_enter Try.func7, Try.ntmps7
  go_wp2_with fail
  refine (active_none C cap a w hc).mono ?_
  rintro e w1 ⟨rfl, hb1⟩
  go_wp2
  go_ret
  exact ⟨rfl, hb1⟩
end Go.Proofs.Qxb6630686a

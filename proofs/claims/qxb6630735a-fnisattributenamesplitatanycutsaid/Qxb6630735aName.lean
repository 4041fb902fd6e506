import Derived.Test.Qxb6630735aProg
import Derived.WalkKit
import Derived.WalkSpells
import Derived.WalkLawsBesides
namespace Go.Proofs.Qxb6630735a
open Go.RowKit

/-- A byte that a name may hold. -/
def okB (c : UInt8) : Bool :=
  (97 ≤ c.toNat && c.toNat ≤ 122) || (65 ≤ c.toNat && c.toNat ≤ 90) || (48 ≤ c.toNat && c.toNat ≤ 57) || c.toNat == 95 || c.toNat == 45 || c.toNat == 46

/-- Every byte may stand in a name. -/
def allOk (l : List UInt8) : Bool := l.all okB

/-- The name is accepted. -/
def nameB (l : List UInt8) : Bool := allOk l && !l.isEmpty

theorem toList_data (s : ByteArray) : s.toList = s.data.toList := ByteArray.toList_eq s

theorem take_snoc (s : ByteArray) (k : Nat) (h : k < s.size) : s.data.toList.take (k + 1) = s.data.toList.take k ++ [s[k]] := by
  rw [List.take_succ_eq_append_getElem (by simpa using h)]; rfl

theorem allOk_snoc (s : ByteArray) (k : Nat) (h : k < s.size) : allOk (s.data.toList.take (k + 1)) = (allOk (s.data.toList.take k) && okB s[k]) := by
  rw [take_snoc s k h]; simp [allOk]

theorem okB_iff (c : UInt8) : okB c = true ↔ ((97 ≤ (c.toNat : Int) ∧ (c.toNat : Int) ≤ 122) ∨ (65 ≤ (c.toNat : Int) ∧ (c.toNat : Int) ≤ 90) ∨ (48 ≤ (c.toNat : Int) ∧ (c.toNat : Int) ≤ 57) ∨ (c.toNat : Int) = 95 ∨ (c.toNat : Int) = 45 ∨ (c.toNat : Int) = 46) := by
  simp [okB]; omega

theorem okB_no {c : UInt8} (h : ¬ ((97 ≤ (c.toNat : Int) ∧ (c.toNat : Int) ≤ 122) ∨ (65 ≤ (c.toNat : Int) ∧ (c.toNat : Int) ≤ 90) ∨ (48 ≤ (c.toNat : Int) ∧ (c.toNat : Int) ≤ 57) ∨ (c.toNat : Int) = 95 ∨ (c.toNat : Int) = 45 ∨ (c.toNat : Int) = 46)) : okB c = false := by
  rcases Bool.eq_false_or_eq_true (okB c) with e | e
  · exact absurd ((okB_iff c).1 e) h
  · exact e

theorem name_false (s : ByteArray) (k : Nat) (h : k < s.size) (hk : okB s[k] = false) : nameB s.data.toList = false := by
  have e : allOk s.data.toList = false := by
    rcases Bool.eq_false_or_eq_true (allOk s.data.toList) with e | e
    · have := List.all_eq_true.1 e s[k] (by
        have : s[k] = s.data.toList[k]'(by simpa using h) := rfl
        rw [this]; exact List.getElem_mem _)
      rw [hk] at this; cases this
    · exact e
  simp [nameB, e]

theorem name_true (s : ByteArray) (h : allOk (s.data.toList.take s.size) = true) : nameB s.data.toList = !s.data.toList.isEmpty := by
  rw [List.take_of_length_le (by simp)] at h
  simp [nameB, h]

theorem ret_bool {a b : Bool} (h : a = b) : Ending.returned (.bool a) = .returned (.bool b) := by rw [h]

set_option maxHeartbeats 400000 in
theorem name_any (s : ByteArray) (w : World) (hs : s.size ≤ maxLen) :
    Calls Try.prog 6 #[.string s] w fun e w' => e = .returned (.bool (nameB s.data.toList)) ∧ w' = w := by
  unfold maxLen at hs
  go_enter Try.func6, Try.ntmps6
  go_wp2
  go_loop [7] (fun i => ∃ k : Nat, k ≤ s.size ∧ i = .int .i64 k ∧ Hid (allOk (s.data.toList.take k) = true)) (fun i => s.size - (intOf i).toNat)
  case atStart => exact ⟨0, Nat.zero_le _, rfl, rfl⟩
  case round =>
    obtain ⟨k, hk, rfl, HA⟩ := hrel
    by_cases hlt : k < s.size
    · by_cases hok : okB s[k] = true
      · have HS : Hid (allOk (s.data.toList.take (k + 1)) = true) := by
          show _ = _
          rw [allOk_snoc s k hlt, HA.out, hok]; rfl
        rcases (okB_iff s[k]).1 hok with ⟨h1, h2⟩ | ⟨h1, h2⟩ | ⟨h1, h2⟩ | h1 | h1 | h1
        all_goals
          clear hok HA
          go_wp2
          go_round
          case rel => exact ⟨k + 1, by omega, by go_num, HS⟩
          case measure => simp [intOf]; omega
      · have HS : Hid (nameB s.data.toList = false) := name_false s k hlt (by simpa using hok)
        have hno : ¬ ((97 ≤ (s[k].toNat : Int) ∧ (s[k].toNat : Int) ≤ 122) ∨ (65 ≤ (s[k].toNat : Int) ∧ (s[k].toNat : Int) ≤ 90) ∨ (48 ≤ (s[k].toNat : Int) ∧ (s[k].toNat : Int) ≤ 57) ∨ (s[k].toNat : Int) = 95 ∨ (s[k].toNat : Int) = 45 ∨ (s[k].toNat : Int) = 46) := fun h => hok ((okB_iff s[k]).2 h)
        have hx : (s[k].toNat : Int) < 45 ∨ (s[k].toNat : Int) = 47 ∨ (58 ≤ (s[k].toNat : Int) ∧ (s[k].toNat : Int) ≤ 64) ∨ (91 ≤ (s[k].toNat : Int) ∧ (s[k].toNat : Int) ≤ 94) ∨ (s[k].toNat : Int) = 96 ∨ 122 < (s[k].toNat : Int) := by omega
        clear hok hno HA
        rcases hx with h1 | h1 | ⟨h1, h2⟩ | ⟨h1, h2⟩ | h1 | h1
        all_goals
          go_wp2
          go_ret
          exact ⟨ret_bool HS.out.symm, rfl⟩
    · have HE : Hid (nameB s.data.toList = !s.toList.isEmpty) := by
        have h := name_true s (by
          have e : k = s.size := by omega
          rw [← e]; exact HA.out)
        show _ = _
        rw [h, toList_data]
      go_wp2
      go_ret
      exact ⟨ret_bool HE.out.symm, rfl⟩
end Go.Proofs.Qxb6630735a

import Derived.Test.Qxb6630639aFmtProg
import Derived.WalkKit
import Derived.WalkSpells
import Derived.WalkLawsBesides
namespace Go.Proofs.Qxb6630639aFmt
open Go.RowKit

/-- The guard answers some bool; where it answers true the looked-up value is short. -/
def GuardEnd (n : Nat) (e : Ending) : Prop := ∃ r, e = .returned (.bool r) ∧ (r = true → n ≤ 65536)

set_option maxHeartbeats 400000 in
theorem guard_some (b off len cap : Nat) (ss : Nat → ByteArray) (name v : ByteArray) (w : World) (hl : len ≤ maxLen) (hn : name.size ≤ maxLen) (hv : v.size ≤ maxLen)
    (hc : ∀ k, k < len → w.cell? ⟨b, off + k, none⟩ = some (.string (ss k))) :
    Calls Tryf.prog 5 #[.slice (some ⟨b, off, none⟩) len cap, .string name, .string v] w fun e w' => GuardEnd v.size e ∧ w' = w := by
  unfold maxLen at hl hn hv
  by_cases h1 : 65536 < len
  · go_enter Tryf.func5, Tryf.ntmps5
    go_wp2
    go_ret
    exact ⟨⟨_, rfl, by simp⟩, rfl⟩
  by_cases h2 : 65536 < name.size
  · go_enter Tryf.func5, Tryf.ntmps5
    go_wp2
    go_ret
    exact ⟨⟨_, rfl, by simp⟩, rfl⟩
  by_cases h3 : 65536 < v.size
  · go_enter Tryf.func5, Tryf.ntmps5
    go_wp2
    go_ret
    exact ⟨⟨_, rfl, by simp⟩, rfl⟩
  go_enter Tryf.func5, Tryf.ntmps5
  go_wp2
  go_loop [7, 8] (fun t i => ∃ k : Nat, ∃ x : Int, k ≤ len ∧ i = .int .i64 k ∧ t = .int .i64 x) (fun _ i => len - (intOf i).toNat)
  case atStart => exact ⟨0, _, Nat.zero_le _, rfl, rfl⟩
  case round =>
    obtain ⟨k, x, hk, rfl, rfl⟩ := hrel
    by_cases hlt : k < len
    · have hcell := hc k hlt
      go_wp2
      · go_ret
        exact ⟨⟨_, rfl, by simp⟩, rfl⟩
      · go_round
        case rel => exact ⟨k + 1, _, by omega, by go_num, rfl⟩
        case measure => simp [intOf]; omega
    · go_wp2
      go_ret
      exact ⟨⟨_, rfl, fun _ => by omega⟩, rfl⟩

set_option maxHeartbeats 400000 in
/-- No element: whatever the address, nil too. -/
theorem guard_none (a : Option Addr) (cap : Nat) (name v : ByteArray) (w : World) (hn : name.size ≤ maxLen) (hv : v.size ≤ maxLen) :
    Calls Tryf.prog 5 #[.slice a 0 cap, .string name, .string v] w fun e w' => GuardEnd v.size e ∧ w' = w := by
  unfold maxLen at hn hv
  by_cases h2 : 65536 < name.size
  · go_enter Tryf.func5, Tryf.ntmps5
    go_wp2
    go_ret
    exact ⟨⟨_, rfl, by simp⟩, rfl⟩
  by_cases h3 : 65536 < v.size
  · go_enter Tryf.func5, Tryf.ntmps5
    go_wp2
    go_ret
    exact ⟨⟨_, rfl, by simp⟩, rfl⟩
  go_enter Tryf.func5, Tryf.ntmps5
  go_wp2
  go_loop [8] (fun i => i = .int .i64 0) (fun _ => 0)
  case atStart => rfl
  case round =>
    subst hrel
    go_wp2
    go_ret
    exact ⟨⟨_, rfl, fun _ => by omega⟩, rfl⟩

end Go.Proofs.Qxb6630639aFmt

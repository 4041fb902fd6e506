import Derived.Test.Qxb6630763aProg
import Derived.WalkKit
import Derived.WalkSpells
import Derived.WalkLawsBesides
import Derived.Lib.ConvBytes
import Derived.Lib.AtoiErrMem
import Derived.Lib.Strings
namespace Go.Proofs.Qxb6630763a
open Go.RowKit

theorem ret_bool {a b : Bool} (h : a = b) : Ending.returned (.bool a) = .returned (.bool b) := by rw [h]
theorem hide {p : Prop} (h : p) : Hid p := h
theorem unhide {p : Prop} (h : Hid p) : p := h.out

/-- A lowercase hex digit. -/
def hexB (c : UInt8) : Bool := (48 ≤ c.toNat && c.toNat ≤ 57) || (97 ≤ c.toNat && c.toNat ≤ 102)

theorem hexB_iff (c : UInt8) : hexB c = true ↔ (48 ≤ (c.toNat : Int) ∧ (c.toNat : Int) ≤ 57) ∨ (97 ≤ (c.toNat : Int) ∧ (c.toNat : Int) ≤ 102) := by
  simp [hexB]; omega

theorem hexB_no (c : UInt8) (h : hexB c = false) : (c.toNat : Int) < 48 ∨ (57 < (c.toNat : Int) ∧ (c.toNat : Int) < 97) ∨ 102 < (c.toNat : Int) := by
  have h1 : ¬ ((48 ≤ (c.toNat : Int) ∧ (c.toNat : Int) ≤ 57) ∨ (97 ≤ (c.toNat : Int) ∧ (c.toNat : Int) ≤ 102)) := fun h2 => by
    rw [(hexB_iff c).2 h2] at h; cases h
  omega

/-- The form of an ID. -/
def idB (l : List UInt8) : Bool := (l.length == 40) && l.all hexB

theorem idB_iff (l : List UInt8) : idB l = true ↔ l.length = 40 ∧ ∀ j, j < 40 → hexB (l.getD j 0) = true := by
  unfold idB
  rw [Bool.and_eq_true, beq_iff_eq, List.all_eq_true]
  constructor
  · rintro ⟨h1, h2⟩
    refine ⟨h1, fun j hj => ?_⟩
    have hj' : j < l.length := by omega
    have e : l.getD j 0 = l[j] := by simp [List.getD, hj']
    rw [e]
    exact h2 _ (List.getElem_mem _)
  · rintro ⟨h1, h2⟩
    refine ⟨h1, fun c hc => ?_⟩
    obtain ⟨j, hj, rfl⟩ := List.mem_iff_getElem.1 hc
    have := h2 j (by omega)
    have e : l.getD j 0 = l[j] := by simp [List.getD, hj]
    rw [e] at this
    exact this

theorem idB_false {l : List UInt8} (h : ¬ (l.length = 40 ∧ ∀ j, j < 40 → hexB (l.getD j 0) = true)) : idB l = false := by
  rcases Bool.eq_false_or_eq_true (idB l) with e | e
  · exact absurd ((idB_iff l).1 e) h
  · exact e

theorem conv_str (s : ByteArray) (w : World) : ∃ (W1 : World) (cap : Nat), (convert 9 23 (.string s)).run Try.prog w = .ok (.slice (some ⟨w.heap.size, 0, none⟩) s.size cap) W1 ∧ Below w.heap.size w W1 ∧
    ∀ j, j < s.size → W1.cell? ⟨w.heap.size, j, none⟩ = some (.int .u8 ((s.data.toList.getD j 0).toNat : Int)) :=
  ⟨_, _, Lib.run_convert_string_bytes w 9 23 5 s Try.underlying9 Try.underlying23 Try.underlying5, Lib.bytesWorld_below w 5 s, fun j hj => Lib.bytesWorld_cell w 5 s j hj⟩

set_option maxHeartbeats 400000 in
theorem isID_any (s : ByteArray) (w : World) :
    Calls Try.prog 7 #[.string s] w fun e w' => e = .returned (.bool (idB s.data.toList)) ∧ Below w.heap.size w w' := by
  have hl := Lib.size_eq s
  by_cases h40 : s.size = 40
  · obtain ⟨W1, cap, hconv, hb, hc⟩ := conv_str s w
    have HS : Hid (s.data.toList.length = 40) := by show _ = _; rw [← hl]; exact h40
    have HB := hide hb
    rw [h40] at hconv hc
    generalize s.data.toList = l at hc HS ⊢
    have n40 : ((s.size : Int) != 40) = false := by rw [h40]; rfl
    have HC := hide hc
    clear h40 hl hb hc
    go_enter Try.func7, Try.ntmps7
    go_wp2
    go_loop [11] (fun i => ∃ k : Nat, k ≤ 40 ∧ i = .int .i64 k ∧ Hid (∀ j, j < k → hexB (l.getD j 0) = true)) (fun i => 40 - (intOf i).toNat)
    case atStart => exact ⟨0, by omega, rfl, fun j hj => absurd hj (by omega)⟩
    case round =>
      obtain ⟨k, hk, rfl, HA⟩ := hrel
      by_cases hlt : k < 40
      · have hcell := unhide HC k hlt
        by_cases hok : hexB (l.getD k 0) = true
        · have HA2 : Hid (∀ j, j < k + 1 → hexB (l.getD j 0) = true) := fun j hj => by
            by_cases e : j = k
            · subst e; exact hok
            · exact HA.out j (by omega)
          have hx := (hexB_iff (l.getD k 0)).1 hok
          generalize ((l.getD k 0).toNat : Int) = x at hcell hx
          clear hok HA
          rcases hx with ⟨h1, h2⟩ | ⟨h1, h2⟩
          all_goals
            go_wp2
            go_round
            case rel => exact ⟨k + 1, by omega, by go_num, HA2⟩
            case measure => simp [intOf]; omega
        · have HE : Hid (idB l = false) := idB_false (fun h => hok (h.2 k hlt))
          have hx := hexB_no (l.getD k 0) (Bool.eq_false_iff.2 hok)
          generalize ((l.getD k 0).toNat : Int) = x at hcell hx
          clear hok HA
          rcases hx with h1 | ⟨h1, h2⟩ | h1
          all_goals
            go_wp2
            go_ret
            exact ⟨ret_bool HE.out.symm, HB.out⟩
      · have HE : Hid (idB l = true) := (idB_iff l).2 ⟨HS.out, fun j hj => HA.out j (by omega)⟩
        go_wp2
        go_ret
        exact ⟨ret_bool HE.out.symm, HB.out⟩
  · have n40 : ((s.size : Int) != 40) = true := bne_iff_ne.2 (by omega)
    have HE : Hid (idB s.data.toList = false) := idB_false (fun h => h40 (by rw [hl]; exact h.1))
    clear h40 hl
    go_enter Try.func7, Try.ntmps7
    go_wp2
    go_ret
    exact ⟨ret_bool HE.out.symm, Below.refl _ _⟩
end Go.Proofs.Qxb6630763a

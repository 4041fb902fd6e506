import Derived.Test.Qxb6630639aFmtProg
import Derived.Test.Qxb6630639aFmtDec
import Derived.WalkKit
import Derived.WalkSpells
import Derived.WalkLawsBesides
namespace Go.Proofs.Qxb6630639aFmt
open Go.RowKit

/-- How zzParseDec ends at the bytes l. -/
def DecEnd (l : List UInt8) (e : Ending) : Prop :=
  (∃ v : Int, Lib.parseIntB 64 l = .ok v ∧ e = .returned (.tuple #[.int .i64 v, .bool true])) ∨
  ((∀ v, Lib.parseIntB 64 l ≠ .ok v) ∧ e = .returned (.tuple #[.int .i64 0, .bool false]))

theorem decEnd_ok {l : List UInt8} {e : Ending} (v : Int) (h : Lib.parseIntB 64 l = .ok v) (he : e = .returned (.tuple #[.int .i64 v, .bool true])) : DecEnd l e := Or.inl ⟨v, h, he⟩
theorem decEnd_no {l : List UInt8} {e : Ending} (h : ∀ v, Lib.parseIntB 64 l ≠ .ok v) (he : e = .returned (.tuple #[.int .i64 0, .bool false])) : DecEnd l e := Or.inr ⟨h, he⟩

set_option maxHeartbeats 400000 in
theorem dec_nil (s : ByteArray) (w : World) (hs : s.size = 0) :
    Calls Tryf.prog 8 #[.string s] w fun e w' => DecEnd s.data.toList e ∧ w' = w := by
  have hl : s.data.toList = [] := by
    have : s.data.toList.length = 0 := by simpa using hs
    exact List.eq_nil_of_length_eq_zero this
  have H : Hid (s.data.toList = []) := hl
  clear hl
  go_enter Tryf.func8, Tryf.ntmps8
  go_wp2
  go_ret2
  exact ⟨decEnd_no (by rw [H.out]; exact int_no_nil) rfl, rfl⟩

set_option maxRecDepth 100000 in
set_option maxHeartbeats 400000 in
theorem dec_plus (s : ByteArray) (w : World) (hs : s.size ≤ maxLen) (h0 : 0 < s.size) (h43 : (s[0].toNat : Int) = 43) :
    Calls Tryf.prog 8 #[.string s] w fun e w' => DecEnd s.data.toList e ∧ w' = w := by
  unfold maxLen at hs
  have hz : ((s.size : Int) == 0) = false := beq_eq_false_iff_ne.2 (by omega)
  have HB : Hid (Begins s h0 1) := by
    show Begins s h0 1
    unfold Begins
    rw [if_pos (by omega)]
  by_cases h1 : s.size = 1
  · have H1 : Hid (s.size = 1) := h1
    have hz1 : ((1 : Int) == (s.size : Int)) = true := beq_iff_eq.2 (by omega)
    clear h1
    go_enter Tryf.func8, Tryf.ntmps8
    go_wp2
    go_ret2
    exact ⟨decEnd_no (no_only s h0 H1.out (by omega)) rfl, rfl⟩
  have hz1 : ((1 : Int) == (s.size : Int)) = false := beq_eq_false_iff_ne.2 (by omega)
  go_enter Tryf.func8, Tryf.ntmps8
  go_wp2
  go_loop [4, 6] (fun i g => ∃ (k : Nat) (x : Int), 1 ≤ k ∧ k ≤ s.size ∧ i = .int .i64 k ∧ g = .int .u64 x ∧ 0 ≤ x ∧ x ≤ 9223372036854775808 ∧ Hid (um 0 (s.data.toList.drop 1) = um x.toNat (s.data.toList.drop k))) (fun i _ => s.size - (intOf i).toNat)
  case atStart => exact ⟨1, 0, by omega, by omega, rfl, rfl, by omega, by omega, rfl⟩
  case round =>
    obtain ⟨k, x, hk1, hk2, rfl, rfl, hx0, hx1, HU⟩ := hrel
    by_cases hlt : k < s.size
    · go_wp2
      · go_ret2
        exact ⟨decEnd_no (no_of s h0 1 HB.out (r_bad s k 1 x.toNat hlt HU.out (by omega))) rfl, rfl⟩
      · go_ret2
        exact ⟨decEnd_no (no_of s h0 1 HB.out (r_big s k 1 x.toNat hlt HU.out (by omega))) rfl, rfl⟩
      · go_round
        case rel => exact ⟨k + 1, x * 10 + ((s[k].toNat : Int) - 48), by omega, by omega, by go_num, rfl, by omega, by omega, by
          have h := r_step s k 1 x.toNat hlt HU.out (by omega) (by omega) (by omega)
          rw [show (x * 10 + ((s[k].toNat : Int) - 48)).toNat = x.toNat * 10 + (s[k].toNat - 48) by omega]
          exact h⟩
        case measure => simp [intOf]; omega
      · go_ret2
        exact ⟨decEnd_no (no_of s h0 1 HB.out (r_bad s k 1 x.toNat hlt HU.out (by omega))) rfl, rfl⟩
    · have HE : Hid (um 0 (s.data.toList.drop 1) = .ok x.toNat) := r_end s k 1 x.toNat (by omega) HU.out
      have HX : Hid (((x.toNat : Nat) : Int) = x) := Int.toNat_of_nonneg hx0
      go_wp2
      · go_ret2
        exact ⟨decEnd_no (no_range s h0 1 x.toNat HB.out (by omega) HE.out (by omega)) rfl, rfl⟩
      · go_ret2
        exact ⟨decEnd_ok x (by rw [ok_pos s h0 1 x.toNat HB.out (by omega) (by omega) HE.out (by omega), HX.out]) rfl, rfl⟩

set_option maxRecDepth 100000 in
set_option maxHeartbeats 400000 in
theorem dec_minus (s : ByteArray) (w : World) (hs : s.size ≤ maxLen) (h0 : 0 < s.size) (h45 : (s[0].toNat : Int) = 45) :
    Calls Tryf.prog 8 #[.string s] w fun e w' => DecEnd s.data.toList e ∧ w' = w := by
  unfold maxLen at hs
  have hz : ((s.size : Int) == 0) = false := beq_eq_false_iff_ne.2 (by omega)
  have HB : Hid (Begins s h0 1) := by
    show Begins s h0 1
    unfold Begins
    rw [if_pos (by omega)]
  by_cases h1 : s.size = 1
  · have H1 : Hid (s.size = 1) := h1
    have hz1 : ((1 : Int) == (s.size : Int)) = true := beq_iff_eq.2 (by omega)
    clear h1
    go_enter Tryf.func8, Tryf.ntmps8
    go_wp2
    go_ret2
    exact ⟨decEnd_no (no_only s h0 H1.out (by omega)) rfl, rfl⟩
  have hz1 : ((1 : Int) == (s.size : Int)) = false := beq_eq_false_iff_ne.2 (by omega)
  go_enter Tryf.func8, Tryf.ntmps8
  go_wp2
  go_loop [4, 6] (fun i g => ∃ (k : Nat) (x : Int), 1 ≤ k ∧ k ≤ s.size ∧ i = .int .i64 k ∧ g = .int .u64 x ∧ 0 ≤ x ∧ x ≤ 9223372036854775808 ∧ Hid (um 0 (s.data.toList.drop 1) = um x.toNat (s.data.toList.drop k))) (fun i _ => s.size - (intOf i).toNat)
  case atStart => exact ⟨1, 0, by omega, by omega, rfl, rfl, by omega, by omega, rfl⟩
  case round =>
    obtain ⟨k, x, hk1, hk2, rfl, rfl, hx0, hx1, HU⟩ := hrel
    by_cases hlt : k < s.size
    · go_wp2
      · go_ret2
        exact ⟨decEnd_no (no_of s h0 1 HB.out (r_bad s k 1 x.toNat hlt HU.out (by omega))) rfl, rfl⟩
      · go_ret2
        exact ⟨decEnd_no (no_of s h0 1 HB.out (r_big s k 1 x.toNat hlt HU.out (by omega))) rfl, rfl⟩
      · go_round
        case rel => exact ⟨k + 1, x * 10 + ((s[k].toNat : Int) - 48), by omega, by omega, by go_num, rfl, by omega, by omega, by
          have h := r_step s k 1 x.toNat hlt HU.out (by omega) (by omega) (by omega)
          rw [show (x * 10 + ((s[k].toNat : Int) - 48)).toNat = x.toNat * 10 + (s[k].toNat - 48) by omega]
          exact h⟩
        case measure => simp [intOf]; omega
      · go_ret2
        exact ⟨decEnd_no (no_of s h0 1 HB.out (r_bad s k 1 x.toNat hlt HU.out (by omega))) rfl, rfl⟩
    · have HE := r_end s k 1 x.toNat (by omega) HU.out
      by_cases hx2 : x = 9223372036854775808
      · subst hx2
        go_wp2
        go_ret2
        exact ⟨decEnd_ok _ (ok_neg s h0 _ (by omega) (by omega) HE (by omega)) rfl, rfl⟩
      · have hb : (x == 9223372036854775808) = false := beq_eq_false_iff_ne.2 hx2
        have HE2 : Hid (um 0 (s.data.toList.drop 1) = .ok x.toNat) := HE
        have HX : Hid (((x.toNat : Nat) : Int) = x) := Int.toNat_of_nonneg hx0
        have hx3 : x < 9223372036854775808 := by omega
        clear HE hx2 hx1
        go_wp2
        go_ret2
        exact ⟨decEnd_ok (-x) (by rw [ok_neg s h0 _ (by omega) (by omega) HE2.out (by omega), HX.out]) rfl, rfl⟩

set_option maxRecDepth 100000 in
set_option maxHeartbeats 400000 in
theorem dec_plain (s : ByteArray) (w : World) (hs : s.size ≤ maxLen) (h0 : 0 < s.size) (h43 : ¬ (s[0].toNat : Int) = 43) (h45 : ¬ (s[0].toNat : Int) = 45) :
    Calls Tryf.prog 8 #[.string s] w fun e w' => DecEnd s.data.toList e ∧ w' = w := by
  unfold maxLen at hs
  have hz : ((s.size : Int) == 0) = false := beq_eq_false_iff_ne.2 (by omega)
  have HB : Hid (Begins s h0 0) := by
    show Begins s h0 0
    unfold Begins
    rw [if_neg (by omega)]
  have hz1 : ((0 : Int) == (s.size : Int)) = false := beq_eq_false_iff_ne.2 (by omega)
  have hb43 : ((s[0].toNat : Int) == 43) = false := beq_eq_false_iff_ne.2 h43
  have hb45 : ((s[0].toNat : Int) == 45) = false := beq_eq_false_iff_ne.2 h45
  go_enter Tryf.func8, Tryf.ntmps8
  go_wp2
  go_loop [4, 6] (fun i g => ∃ (k : Nat) (x : Int), 0 ≤ k ∧ k ≤ s.size ∧ i = .int .i64 k ∧ g = .int .u64 x ∧ 0 ≤ x ∧ x ≤ 9223372036854775808 ∧ Hid (um 0 (s.data.toList.drop 0) = um x.toNat (s.data.toList.drop k))) (fun i _ => s.size - (intOf i).toNat)
  case atStart => exact ⟨0, 0, by omega, by omega, rfl, rfl, by omega, by omega, rfl⟩
  case round =>
    obtain ⟨k, x, hk1, hk2, rfl, rfl, hx0, hx1, HU⟩ := hrel
    by_cases hlt : k < s.size
    · go_wp2
      · go_ret2
        exact ⟨decEnd_no (no_of s h0 0 HB.out (r_bad s k 0 x.toNat hlt HU.out (by omega))) rfl, rfl⟩
      · go_ret2
        exact ⟨decEnd_no (no_of s h0 0 HB.out (r_big s k 0 x.toNat hlt HU.out (by omega))) rfl, rfl⟩
      · go_round
        case rel => exact ⟨k + 1, x * 10 + ((s[k].toNat : Int) - 48), by omega, by omega, by go_num, rfl, by omega, by omega, by
          have h := r_step s k 0 x.toNat hlt HU.out (by omega) (by omega) (by omega)
          rw [show (x * 10 + ((s[k].toNat : Int) - 48)).toNat = x.toNat * 10 + (s[k].toNat - 48) by omega]
          exact h⟩
        case measure => simp [intOf]; omega
      · go_ret2
        exact ⟨decEnd_no (no_of s h0 0 HB.out (r_bad s k 0 x.toNat hlt HU.out (by omega))) rfl, rfl⟩
    · have HE : Hid (um 0 (s.data.toList.drop 0) = .ok x.toNat) := r_end s k 0 x.toNat (by omega) HU.out
      have HX : Hid (((x.toNat : Nat) : Int) = x) := Int.toNat_of_nonneg hx0
      go_wp2
      · go_ret2
        exact ⟨decEnd_no (no_range s h0 0 x.toNat HB.out (by omega) HE.out (by omega)) rfl, rfl⟩
      · go_ret2
        exact ⟨decEnd_ok x (by rw [ok_pos s h0 0 x.toNat HB.out (by omega) (by omega) HE.out (by omega), HX.out]) rfl, rfl⟩

theorem dec_any (s : ByteArray) (w : World) (hs : s.size ≤ maxLen) :
    Calls Tryf.prog 8 #[.string s] w fun e w' => DecEnd s.data.toList e ∧ w' = w := by
  by_cases h0 : 0 < s.size
  · by_cases h43 : (s[0].toNat : Int) = 43
    · exact dec_plus s w hs h0 h43
    · by_cases h45 : (s[0].toNat : Int) = 45
      · exact dec_minus s w hs h0 h45
      · exact dec_plain s w hs h0 h43 h45
  · exact dec_nil s w (by omega)
end Go.Proofs.Qxb6630639aFmt

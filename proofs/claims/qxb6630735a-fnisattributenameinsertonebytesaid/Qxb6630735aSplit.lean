import Derived.Test.Qxb6630735aDoc
import Derived.Lib.Strings
import Derived.Deep.QuietTactic
import Derived.BigQuiet
namespace Go.Proofs.Qxb6630735a
open Go.RowKit

theorem hide {p : Prop} (h : p) : Hid p := h
theorem unhide {p : Prop} (h : Hid p) : p := h.out

theorem ext_list (s : ByteArray) (a b : Nat) : (s.extract a b).data.toList = (s.data.toList.drop a).take (b - a) := Lib.extract_data s a b

theorem isEmpty_false (s : ByteArray) (h : 0 < s.size) : s.toList.isEmpty = false := by
  have e := Lib.size_eq s
  rw [toList_data]
  cases hl : s.data.toList with
  | nil => rw [hl] at e; simp only [List.length_nil] at e; omega
  | cons c r => rfl

theorem allOk_append (a b : List UInt8) : allOk (a ++ b) = (allOk a && allOk b) := by simp [allOk]

theorem nameB_split (l : List UInt8) (k : Nat) (h0 : 0 < k) (h1 : k < l.length) : nameB l = (nameB (l.take k) && nameB (l.drop k)) := by
  have e : allOk l = (allOk (l.take k) && allOk (l.drop k)) := by rw [← allOk_append, List.take_append_drop]
  have e1 : (l.take k).isEmpty = false := by
    rw [List.isEmpty_eq_false_iff]; intro e; have := congrArg List.length e; simp only [List.length_take, List.length_nil] at this; omega
  have e2 : (l.drop k).isEmpty = false := by
    rw [List.isEmpty_eq_false_iff]; intro e; have := congrArg List.length e; simp only [List.length_drop, List.length_nil] at this; omega
  have e3 : l.isEmpty = false := by
    rw [List.isEmpty_eq_false_iff]; intro e; have := congrArg List.length e; simp only [List.length_nil] at this; omega
  simp [nameB, e, e1, e2, e3]

theorem ext_size (s : ByteArray) (a b : Nat) : (s.extract a b).size ≤ s.size := by
  rw [Lib.size_eq, ext_list, Lib.size_eq s]
  simp only [List.length_take, List.length_drop]
  omega

theorem nameB_one (c : UInt8) : nameB [c] = okB c := by simp [nameB, allOk]

set_option maxHeartbeats 400000 in
theorem bytes5 (s : ByteArray) (k : Int) (w : World) (hs : s.size ≤ 1048576) : Calls Try.prog 5 #[.string s, .int .i64 k] w fun e w' => e = .returned (.bool true) ∧ w' = w := by
  go_enter Try.func5, Try.ntmps5
  go_wp2
  go_ret
  exact ⟨rfl, rfl⟩

theorem one_at (s : ByteArray) (k : Nat) (h : k < s.size) : (s.extract k (k + 1)).data.toList = [s[k]] := by
  rw [ext_list, List.drop_eq_getElem_cons (by simpa using h)]
  simp only [Nat.add_sub_cancel_left, List.take_succ_cons, List.take_zero]
  rfl

theorem name_one_at (s : ByteArray) (k : Nat) (w : World) (hs : s.size ≤ 1048576) (h : k < s.size) :
    Calls Try.prog 6 #[.string (s.extract k (k + 1))] w fun e w' => e = .returned (.bool (okB s[k])) ∧ w' = w := by
  refine (name_any (s.extract k (k + 1)) w (Nat.le_trans (ext_size s _ _) (by unfold maxLen; omega))).mono ?_
  rintro e w' ⟨rfl, rfl⟩
  exact ⟨ret_bool (by rw [one_at s k h, nameB_one]), rfl⟩

theorem ofNat_byte (c : UInt8) : UInt8.ofNat ((c.toNat : Int)).toNat = c := by
  rw [Int.toNat_natCast]; simp

theorem doc_byte (c : UInt8) (w : World) : Calls Try.prog 7 #[.int .u8 (c.toNat : Int)] w fun e w' => e = .returned (.bool (okB c)) ∧ w' = w := by
  have h := c.toNat_lt
  refine (doc_any (c.toNat : Int) w (by omega) (by omega)).mono ?_
  rintro e w' ⟨rfl, rfl⟩
  exact ⟨ret_bool (by rw [ofNat_byte]), rfl⟩

set_option maxHeartbeats 400000 in
theorem split_mid (s : ByteArray) (k : Nat) (w : World) (hs : s.size ≤ 1048576) (h0 : 0 < k) (h1 : k < s.size) :
    Calls Try.prog 3 #[.string s, .int .i64 k] w fun e w' => e = .returned (.bool true) ∧ ∃ n, w' = w.drewN n := by
  have b0 : ((k : Int) == 0) = false := beq_eq_false_iff_ne.2 (by omega)
  have b1 : ((k : Int) == (s.size : Int)) = false := beq_eq_false_iff_ne.2 (by omega)
  have e0 := isEmpty_false s (by omega)
  have hR : nameB s.data.toList = (nameB (s.extract 0 k).data.toList && nameB (s.extract k s.size).data.toList) := by
    rw [ext_list, ext_list, nameB_split s.data.toList k h0 (by rw [← Lib.size_eq]; exact h1)]
    simp only [List.drop_zero, Nat.sub_zero]
    rw [List.take_of_length_le (l := List.drop k s.data.toList) (by simp)]
  have HR : Hid (nameB s.data.toList = (nameB (s.extract 0 k).data.toList && nameB (s.extract k s.size).data.toList)) := hR
  clear hR
  have H1 := name_any s w (by unfold maxLen; omega)
  have H2 := name_any (s.extract 0 k) w (Nat.le_trans (ext_size s 0 k) (by unfold maxLen; omega))
  have H3 := name_any (s.extract k s.size) w (Nat.le_trans (ext_size s k s.size) (by unfold maxLen; omega))
  rw [HR.out] at H1
  generalize nameB (s.extract 0 k).data.toList = B at H1 H2
  generalize nameB (s.extract k s.size).data.toList = C at H1 H3
  have K1 := hide H1
  have K2 := hide H2
  have K3 := hide H3
  clear H1 H2 H3 HR
  go_enter Try.func3, Try.ntmps3
  go_wp2_with fail
  refine (bytes5 s k w hs).mono ?_
  rintro e w' ⟨rfl, hw⟩
  subst hw
  go_wp2_with fail
  refine (unhide K1).mono ?_
  rintro e w' ⟨rfl, hw⟩
  subst hw
  go_wp2_with fail
  refine (unhide K2).mono ?_
  rintro e w' ⟨rfl, hw⟩
  subst hw
  go_wp2_with fail
  refine (unhide K3).mono ?_
  rintro e w' ⟨rfl, hw⟩
  subst hw
  clear K1 K2 K3
  cases B <;> cases C
  all_goals
    go_wp2_with fail
    go_quiet ((first | (go_at_call 6; exact Calls.quiet_of_same (name_one_at s k _ hs h1)) | (go_at_call 7; exact Calls.quiet_of_same (doc_byte _ _))))
    go_wp2
    go_ret
    exact ⟨rfl, _, rfl⟩

theorem ext_all (s : ByteArray) : (s.extract 0 s.size).data.toList = s.data.toList := by
  rw [ext_list]
  simp only [List.drop_zero, Nat.sub_zero]
  exact List.take_of_length_le (by simp)

set_option maxHeartbeats 400000 in
theorem split_head (s : ByteArray) (w : World) (hs : s.size ≤ 1048576) (h1 : 0 < s.size) :
    Calls Try.prog 3 #[.string s, .int .i64 0] w fun e w' => e = .returned (.bool true) ∧ ∃ n, w' = w.drewN n := by
  have b1 : ((0 : Int) == (s.size : Int)) = false := beq_eq_false_iff_ne.2 (by omega)
  have e0 := isEmpty_false s (by omega)
  have H1 := name_any s w (by unfold maxLen; omega)
  generalize nameB s.data.toList = C at H1
  have K1 := hide H1
  clear H1
  go_enter Try.func3, Try.ntmps3
  go_wp2_with fail
  refine (bytes5 s 0 w hs).mono ?_
  rintro e w' ⟨rfl, hw⟩
  subst hw
  go_wp2_with fail
  refine (unhide K1).mono ?_
  rintro e w' ⟨rfl, hw⟩
  subst hw
  go_wp2_with fail
  refine (unhide K1).mono ?_
  rintro e w' ⟨rfl, hw⟩
  subst hw
  clear K1
  cases C
  all_goals
    go_wp2_with fail
    go_quiet ((first | (go_at_call 6; exact Calls.quiet_of_same (name_one_at s 0 _ hs h1)) | (go_at_call 7; exact Calls.quiet_of_same (doc_byte _ _))))
    go_wp2
    go_ret
    exact ⟨rfl, _, rfl⟩

set_option maxHeartbeats 400000 in
theorem split_tail (s : ByteArray) (w : World) (hs : s.size ≤ 1048576) (h1 : 0 < s.size) :
    Calls Try.prog 3 #[.string s, .int .i64 s.size] w fun e w' => e = .returned (.bool true) ∧ ∃ n, w' = w.drewN n := by
  have b0 : ((s.size : Int) == 0) = false := beq_eq_false_iff_ne.2 (by omega)
  have b1 : ((s.size : Int) == (s.size : Int)) = true := by simp
  have e0 := isEmpty_false s (by omega)
  have H1 := name_any s w (by unfold maxLen; omega)
  generalize nameB s.data.toList = C at H1
  have K1 := hide H1
  clear H1
  go_enter Try.func3, Try.ntmps3
  go_wp2_with fail
  refine (bytes5 s s.size w hs).mono ?_
  rintro e w' ⟨rfl, hw⟩
  subst hw
  go_wp2_with fail
  refine (unhide K1).mono ?_
  rintro e w' ⟨rfl, hw⟩
  subst hw
  go_wp2_with fail
  refine (unhide K1).mono ?_
  rintro e w' ⟨rfl, hw⟩
  subst hw
  clear K1
  cases C
  all_goals
    go_wp2
    go_ret
    exact ⟨rfl, 0, rfl⟩

set_option maxHeartbeats 400000 in
theorem split_empty (s : ByteArray) (w : World) (h1 : s.size = 0) :
    Calls Try.prog 3 #[.string s, .int .i64 0] w fun e w' => e = .returned (.bool true) ∧ ∃ n, w' = w.drewN n := by
  have hl : s.data.toList = [] := by
    have e := Lib.size_eq s
    exact List.eq_nil_of_length_eq_zero (by omega)
  have e0 : s.toList.isEmpty = true := by rw [toList_data, hl]; rfl
  have H1 := name_any s w (by unfold maxLen; omega)
  have eN : nameB s.data.toList = false := by rw [hl]; rfl
  rw [eN] at H1
  have K1 := hide H1
  clear H1 eN hl
  go_enter Try.func3, Try.ntmps3
  go_wp2_with fail
  refine (bytes5 s 0 w (by omega)).mono ?_
  rintro e w' ⟨rfl, hw⟩
  subst hw
  go_wp2_with fail
  refine (unhide K1).mono ?_
  rintro e w' ⟨rfl, hw⟩
  subst hw
  clear K1
  go_wp2
  go_ret
  exact ⟨rfl, 0, rfl⟩

set_option maxHeartbeats 400000 in
theorem split_early (s : ByteArray) (k : Int) (w : World) (hm : s.size ≤ maxLen) (h : 1048576 < s.size ∨ k < 0 ∨ (s.size : Int) < k) :
    Calls Try.prog 3 #[.string s, .int .i64 k] w fun e w' => e = .returned (.bool true) ∧ ∃ n, w' = w.drewN n := by
  unfold maxLen at hm
  by_cases h1 : 1048576 < s.size
  · go_enter Try.func3, Try.ntmps3
    go_wp2
    go_ret
    exact ⟨rfl, 0, rfl⟩
  by_cases h2 : k < 0
  · clear h
    go_enter Try.func3, Try.ntmps3
    go_wp2
    go_ret
    exact ⟨rfl, 0, rfl⟩
  have h3 : (s.size : Int) < k := by omega
  clear h
  go_enter Try.func3, Try.ntmps3
  go_wp2
  go_ret
  exact ⟨rfl, 0, rfl⟩

theorem grown_drewN (w : World) (n : Nat) : Grown w (w.drewN n) := ⟨(below_drewN (Below.refl w.heap.size w) n).frame _, fun _ => rfl, Nat.le_refl _⟩

/-- FnIsAttributeNameSplitAtAnyCut answers true. -/
theorem split_any (s : ByteArray) (k : Int) (w : World) (hm : s.size ≤ maxLen) :
    Calls Try.prog 3 #[.string s, .int .i64 k] w fun e w' => e = .returned (.bool true) ∧ Grown w w' := by
  have main : Calls Try.prog 3 #[.string s, .int .i64 k] w fun e w' => e = .returned (.bool true) ∧ ∃ n, w' = w.drewN n := by
    by_cases h : 1048576 < s.size ∨ k < 0 ∨ (s.size : Int) < k
    · exact split_early s k w hm h
    · obtain ⟨j, rfl⟩ := Int.eq_ofNat_of_zero_le (by omega : 0 ≤ k)
      by_cases h0 : j = 0
      · subst h0
        by_cases hz : s.size = 0
        · exact split_empty s w hz
        · exact split_head s w (by omega) (by omega)
      · by_cases h1 : j = s.size
        · subst h1
          exact split_tail s w (by omega) (by omega)
        · exact split_mid s j w (by omega) (by omega) (by omega)
  refine main.mono ?_
  rintro e w' ⟨rfl, n, rfl⟩
  exact ⟨rfl, grown_drewN w n⟩
end Go.Proofs.Qxb6630735a

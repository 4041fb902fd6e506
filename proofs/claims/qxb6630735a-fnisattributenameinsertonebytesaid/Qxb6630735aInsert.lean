import Derived.Test.Qxb6630735aSplit
namespace Go.Proofs.Qxb6630735a
open Go.RowKit

set_option maxHeartbeats 400000 in
theorem bytes8 (s : ByteArray) (i c : Int) (w : World) (hs : s.size ≤ 1048576) : Calls Try.prog 8 #[.string s, .int .i64 i, .int .u8 c] w fun e w' => e = .returned (.bool true) ∧ w' = w := by
  go_enter Try.func8, Try.ntmps8
  go_wp2
  go_ret
  exact ⟨rfl, rfl⟩

/-- string([]byte{c}). -/
def oneS (c : UInt8) : ByteArray := ⟨#[c]⟩

theorem conv_one (c : UInt8) (w : World) : (convert 26 9 (.slice (some ⟨w.heap.size, 0, none⟩) 1 1)).run Try.prog (w.alloc (.cells #[.int .u8 (c.toNat : Int)] 5)) = .ok (.string (oneS c)) (w.alloc (.cells #[.int .u8 (c.toNat : Int)] 5)) := by
  rw [run_convert_bytes_string _ 26 9 5 _ _ _ Try.underlying26 Try.underlying5 Try.underlying9]
  rw [run_bytesToString _ _ 1 1 [(c.toNat : Int)] ?_]
  · have e : UInt8.ofNat ((c.toNat : Int)).toNat = c := ofNat_byte c
    simp only [List.foldl, e]
    rfl
  · refine run_loadCells_list (P := Try.prog) _ _ [.int .u8 (c.toNat : Int)] (fun j v hj => ?_)
    cases j with
    | zero => simp at hj; subst hj; simp [Addr.add]
    | succ j => simp at hj

theorem size_append (a b : ByteArray) : (a ++ b).size = a.size + b.size := by
  rw [Lib.size_eq, Lib.size_eq a, Lib.size_eq b]
  simp

theorem app_list (a b : ByteArray) : (a ++ b).data.toList = a.data.toList ++ b.data.toList := by simp

/-- THE PLAIN LAW. -/
theorem ins_plain (l : List UInt8) (i : Nat) (c : UInt8) : nameB (l.take i ++ [c] ++ l.drop i) = ((l.isEmpty || nameB l) && okB c) := by
  have e : allOk l = (allOk (l.take i) && allOk (l.drop i)) := by rw [← allOk_append, List.take_append_drop]
  have e2 : (l.take i ++ [c] ++ l.drop i).isEmpty = false := by simp
  have e3 : allOk (l.take i ++ [c] ++ l.drop i) = (allOk l && okB c) := by
    rw [allOk_append, allOk_append, e]
    have : allOk [c] = okB c := by simp [allOk]
    rw [this]
    cases allOk (l.take i) <;> cases okB c <;> cases allOk (l.drop i) <;> rfl
  unfold nameB
  rw [e2, e3]
  cases l with
  | nil => simp [allOk]
  | cons a r => simp

theorem grownN {W w' : World} (h : Grown W w') (n : Nat) : Grown W (w'.drewN n) := h

set_option maxHeartbeats 400000 in
theorem ins_main (s : ByteArray) (i : Nat) (c : UInt8) (w : World) (hs : s.size ≤ 1048576) (h1 : i ≤ s.size) :
    Calls Try.prog 4 #[.string s, .int .i64 i, .int .u8 (c.toNat : Int)] w fun e w' => e = .returned (.bool true) ∧ Grown w w' := by
  have hconv := conv_one c
  obtain ⟨t1, ht1⟩ : ∃ t1, t1 = s.extract 0 i ++ oneS c := ⟨_, rfl⟩
  obtain ⟨t2, ht2⟩ : ∃ t2, t2 = t1 ++ s.extract i s.size := ⟨_, rfl⟩
  have z0 := ext_size s 0 i
  have z1 := ext_size s i s.size
  have zo : (oneS c).size = 1 := rfl
  have zt1 : t1.size ≤ s.size + 1 := by rw [ht1, size_append]; omega
  have zt2 : t2.size ≤ s.size + 1 + s.size := by rw [ht2, size_append]; omega
  have hadd1 : ∀ wx : World, (Op.stringOp .add (s.extract 0 i) (oneS c)).run Try.prog wx = .ok (.string t1) wx := fun wx => by
    rw [ht1]; exact run_string_add_sum wx _ _ (by omega)
  have hadd2 : ∀ wx : World, (Op.stringOp .add t1 (s.extract i s.size)).run Try.prog wx = .ok (.string t2) wx := fun wx => by
    rw [ht2]; exact run_string_add_sum wx _ _ (by omega)
  have HL : Hid (nameB t2.data.toList = ((s.toList.isEmpty || nameB s.data.toList) && okB c)) := by
    show _ = _
    rw [toList_data, ← ins_plain s.data.toList i c, ht2, ht1, app_list, app_list, ext_list, ext_list]
    have e1 : (oneS c).data.toList = [c] := rfl
    rw [e1]
    simp only [List.drop_zero, Nat.sub_zero]
    rw [List.take_of_length_le (l := List.drop i s.data.toList) (by simp)]
  have hone : nameB (oneS c).data.toList = okB c := nameB_one c
  have N1 : ∀ wx, Calls Try.prog 6 #[.string (oneS c)] wx fun e w' => e = .returned (.bool (okB c)) ∧ w' = wx := fun wx => by
    rw [← hone]; exact name_any (oneS c) wx (by rw [zo]; unfold maxLen; omega)
  have N2 : ∀ wx, Calls Try.prog 6 #[.string t2] wx fun e w' => e = .returned (.bool ((s.toList.isEmpty || nameB s.data.toList) && okB c)) ∧ w' = wx := fun wx => by
    rw [← HL.out]; exact name_any t2 wx (by unfold maxLen; omega)
  have N3 : ∀ wx, Calls Try.prog 6 #[.string s] wx fun e w' => e = .returned (.bool (nameB s.data.toList)) ∧ w' = wx := fun wx => name_any s wx (by unfold maxLen; omega)
  have N4 : ∀ wx, Calls Try.prog 7 #[.int .u8 (c.toNat : Int)] wx fun e w' => e = .returned (.bool (okB c)) ∧ w' = wx := fun wx => doc_byte c wx
  generalize nameB s.data.toList = B at N2 N3
  generalize okB c = D at N1 N2 N4
  obtain ⟨E, hE⟩ : ∃ E, s.toList.isEmpty = E := ⟨_, rfl⟩
  rw [hE] at N2
  have K1 := hide N1
  have K2 := hide N2
  have K3 := hide N3
  have K4 := hide N4
  clear N1 N2 N3 N4 HL hone ht1 ht2 z0 z1 zo zt1 zt2
  go_enter Try.func4, Try.ntmps4
  go_wp2_with fail
  refine (bytes8 s i _ w hs).mono ?_
  rintro e w' ⟨rfl, hw⟩
  subst hw
  go_wp2_with fail
  go_quiet (fail)
  go_wp2_with fail
  refine (unhide K1 _).mono ?_
  rintro e w1 ⟨rfl, hw⟩
  subst hw
  go_wp2_with fail
  refine (unhide K4 _).mono ?_
  rintro e w1 ⟨rfl, hw⟩
  subst hw
  cases E
  · cases B
    · cases D
      all_goals
        go_wp2_with fail
        refine (unhide K2 _).mono ?_
        rintro e w1 ⟨rfl, hw⟩
        subst hw
        go_wp2_with fail
        refine (unhide K3 _).mono ?_
        rintro e w1 ⟨rfl, hw⟩
        subst hw
        go_wp2
        go_ret
        exact ⟨rfl, grownN ((Grown.refl _).alloc _ _) _⟩
    · cases D
      all_goals
        go_wp2_with fail
        refine (unhide K2 _).mono ?_
        rintro e w1 ⟨rfl, hw⟩
        subst hw
        go_wp2_with fail
        refine (unhide K3 _).mono ?_
        rintro e w1 ⟨rfl, hw⟩
        subst hw
        go_wp2_with fail
        refine (unhide K1 _).mono ?_
        rintro e w1 ⟨rfl, hw⟩
        subst hw
        go_wp2
        go_ret
        exact ⟨rfl, grownN ((Grown.refl _).alloc _ _) _⟩
  · cases D
    all_goals
      go_wp2_with fail
      refine (unhide K2 _).mono ?_
      rintro e w1 ⟨rfl, hw⟩
      subst hw
      go_wp2_with fail
      refine (unhide K1 _).mono ?_
      rintro e w1 ⟨rfl, hw⟩
      subst hw
      go_wp2
      go_ret
      exact ⟨rfl, grownN ((Grown.refl _).alloc _ _) _⟩

set_option maxHeartbeats 400000 in
theorem ins_early (s : ByteArray) (i c : Int) (w : World) (hm : s.size ≤ maxLen) (h : 1048576 < s.size ∨ i < 0 ∨ (s.size : Int) < i) :
    Calls Try.prog 4 #[.string s, .int .i64 i, .int .u8 c] w fun e w' => e = .returned (.bool true) ∧ Grown w w' := by
  unfold maxLen at hm
  by_cases h1 : 1048576 < s.size
  · go_enter Try.func4, Try.ntmps4
    go_wp2
    go_ret
    exact ⟨rfl, Grown.refl _⟩
  by_cases h2 : i < 0
  · clear h
    go_enter Try.func4, Try.ntmps4
    go_wp2
    go_ret
    exact ⟨rfl, Grown.refl _⟩
  have h3 : (s.size : Int) < i := by omega
  clear h
  go_enter Try.func4, Try.ntmps4
  go_wp2
  go_ret
  exact ⟨rfl, Grown.refl _⟩

/-- FnIsAttributeNameInsertOneByte answers true. -/
theorem ins_any (s : ByteArray) (i c : Int) (w : World) (hm : s.size ≤ maxLen) (h0 : 0 ≤ c) (h1 : c < 256) :
    Calls Try.prog 4 #[.string s, .int .i64 i, .int .u8 c] w fun e w' => e = .returned (.bool true) ∧ Grown w w' := by
  by_cases h : 1048576 < s.size ∨ i < 0 ∨ (s.size : Int) < i
  · exact ins_early s i c w hm h
  · obtain ⟨j, rfl⟩ := Int.eq_ofNat_of_zero_le (by omega : 0 ≤ i)
    obtain ⟨m, rfl⟩ := Int.eq_ofNat_of_zero_le h0
    have e : m = (UInt8.ofNat m).toNat := by
      rw [UInt8.toNat_ofNat']
      omega
    have hh := ins_main s j (UInt8.ofNat m) w (by omega) (by omega)
    rw [← e] at hh
    exact hh
end Go.Proofs.Qxb6630735a

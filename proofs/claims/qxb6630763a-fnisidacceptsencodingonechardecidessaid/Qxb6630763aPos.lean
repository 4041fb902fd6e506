import Derived.Test.Qxb6630763aHex
namespace Go.Proofs.Qxb6630763a
open Go.RowKit

/-- The law's end. -/
def LawEnd (w : World) (e : Ending) (w' : World) : Prop := e = .returned (.bool true) ∧ Below w.heap.size w w'

/-- The base that is worked out of the text. -/
def baseG (l : List UInt8) (j : Nat) : UInt8 := hexD ((l.getD j 0).toNat % 16)

theorem baseG_ok (l : List UInt8) (j : Nat) : hexB (baseG l j) = true := hexD_ok _ (Nat.mod_lt _ (by omega))

theorem getD_at (s : ByteArray) (k : Nat) (h : k < s.size) : s.data.toList.getD k 0 = s[k] := by
  have h2 : k < s.data.toList.length := by rw [← Lib.size_eq]; exact h
  have e : s.data.toList.getD k 0 = s.data.toList[k] := by simp only [List.getD, List.getElem?_eq_getElem h2, Option.getD_some]
  rw [e]; rfl

theorem getD_out (s : ByteArray) (k : Nat) (h : ¬ k < s.size) : s.data.toList.getD k 0 = 0 := by
  have h2 : s.data.toList.length ≤ k := by rw [← Lib.size_eq]; omega
  simp only [List.getD, List.getElem?_eq_none h2, Option.getD_none]

theorem base_at (s : ByteArray) (k : Nat) (h : k < s.size) : ((hexD ((s[k].toNat : Int) % 16).toNat).toNat : Int) = ((baseG s.data.toList k).toNat : Int) := by
  unfold baseG
  rw [getD_at s k h]
  have e : ((s[k].toNat : Int) % 16).toNat = s[k].toNat % 16 := by omega
  rw [e]

theorem base_out (s : ByteArray) (k : Nat) (h : ¬ k < s.size) : ((hexD (0 : Int).toNat).toNat : Int) = ((baseG s.data.toList k).toNat : Int) := by
  unfold baseG
  rw [getD_out s k h]
  rfl

theorem size_setCells (b : Nat) : ∀ (vs : List Value) (o : Nat) (w : World), (w.setCells b o vs).heap.size = w.heap.size
  | [], _, _ => rfl
  | v :: r, o, w => by rw [World.setCells, size_setCells b r, World.size_setCell]

theorem below_setCells (b : Nat) {N : Nat} {a : World} (hN : N ≤ b) : ∀ (vs : List Value) (o : Nat) (w : World), Below N a w → Below N a (w.setCells b o vs)
  | [], _, _, h => h
  | v :: r, o, w, h => by rw [World.setCells]; exact below_setCells b hN r (o + 1) _ (h.setCell hN v)

/-- copy(t, base): what comes of it. -/
theorem copy40 {w : World} {T H : Nat} {g : Nat → UInt8} (hr : Room w T 40) (h : Row1 w H 40 g) : ∃ W2 : World, (∀ ty, (Builtin.copy_ #[23, 23] ty #[.slice (some ⟨T, 0, none⟩) 40 40, .slice (some ⟨H, 0, none⟩) 40 40]).run Try.prog w = .ok (.int .i64 40) W2) ∧
    Row1 W2 T 40 g ∧ Room W2 T 40 ∧ W2.heap.size = w.heap.size ∧ Below T w W2 := by
  have hlen : ((List.range 40).map fun k => Value.int .u8 ((g k).toNat : Int)).length = 40 := by simp
  have hat : ∀ j, j < 40 → ((List.range 40).map fun k => Value.int .u8 ((g k).toNat : Int))[j]? = some (.int .u8 ((g j).toNat : Int)) := fun j hj => by simp [hj]
  refine ⟨w.setCells T 0 ((List.range 40).map fun k => Value.int .u8 ((g k).toNat : Int)), fun ty => ?_, fun k hk => ?_, fun k hk => ⟨?_, ?_⟩, ?_, ?_⟩
  · have hc := run_copy_cells (P := Try.prog) w 23 23 ty 5 T 0 40 40 ⟨H, 0, none⟩ 40 40 ((List.range 40).map fun k => Value.int .u8 ((g k).toNat : Int)) Try.underlying23 (by kernel_rfl) (by rw [hlen]; rfl)
      (fun j v hj => by
        have hj40 : j < 40 := by
          have := (List.getElem?_eq_some_iff.1 hj).1
          simpa using this
        rw [hat j hj40] at hj
        injection hj with hj
        rw [← hj, Go.WideShapes.add_plain, Nat.zero_add]
        exact h j hj40)
      (fun j hj => by
        rw [hlen] at hj
        obtain ⟨⟨x, hx⟩, _⟩ := hr j hj
        rw [Nat.zero_add, hx]; rfl)
      (fun j hj => by
        rw [hlen] at hj
        rw [Nat.zero_add]
        exact (hr j hj).2)
      (fun v hv => by
        obtain ⟨k, _, rfl⟩ := List.mem_map.1 hv
        rfl)
    rw [hc, hlen]
    rfl
  · have := World.cell?_setCells_in T ((List.range 40).map fun k => Value.int .u8 ((g k).toNat : Int)) 0 w (fun j hj => by
      rw [hlen] at hj
      obtain ⟨⟨x, hx⟩, _⟩ := hr j hj
      rw [Nat.zero_add, hx]; rfl) k (by rw [hlen]; exact hk)
    rw [Nat.zero_add] at this
    rw [this]
    simp
  · have := World.cell?_setCells_in T ((List.range 40).map fun k => Value.int .u8 ((g k).toNat : Int)) 0 w (fun j hj => by
      rw [hlen] at hj
      obtain ⟨⟨x, hx⟩, _⟩ := hr j hj
      rw [Nat.zero_add, hx]; rfl) k (by rw [hlen]; exact hk)
    rw [Nat.zero_add] at this
    exact ⟨_, this⟩
  · rw [World.frozen?_setCells]
    exact (hr k hk).2
  · exact size_setCells T _ _ _
  · exact below_setCells T (Nat.le_refl _) _ _ _ (Below.refl _ _)

set_option maxHeartbeats 400000 in
theorem bytes5 (s : ByteArray) (w : World) (hs : s.size ≤ 1048576) : Calls Try.prog 5 #[.string s] w fun e w' => e = .returned (.bool true) ∧ w' = w := by
  go_enter Try.func5, Try.ntmps5
  go_wp2
  go_ret
  exact ⟨rfl, rfl⟩

set_option maxHeartbeats 400000 in
theorem pos_big (s : ByteArray) (w : World) (hm : s.size ≤ maxLen) (h : 65536 < s.size) : Calls Try.prog 3 #[.string s] w (LawEnd w) := by
  unfold maxLen at hm
  by_cases h1 : 1048576 < s.size
  · go_enter Try.func3, Try.ntmps3
    go_wp2
    go_ret
    exact ⟨rfl, Below.refl _ _⟩
  · go_enter Try.func3, Try.ntmps3
    go_wp2
    go_ret
    exact ⟨rfl, Below.refl _ _⟩

set_option maxHeartbeats 1000000 in
theorem pos_main (s : ByteArray) (w : World) (hs : s.size ≤ 65536) : Calls Try.prog 3 #[.string s] w (LawEnd w) := by
  obtain ⟨O, hmk, hroom⟩ := make40 w
  go_enter Try.func3, Try.ntmps3
  go_wp2_with fail
  refine (bytes5 s w (by omega)).mono ?_
  rintro e w' ⟨rfl, hw⟩
  subst hw
  go_wp2
  go_loopw [4] (fun i wr => ∃ k : Nat, k ≤ 40 ∧ i = .int .i64 k ∧ Below w'.heap.size w' wr ∧ w'.heap.size < wr.heap.size ∧ Room wr w'.heap.size 40 ∧ Row1 wr w'.heap.size k (baseG s.data.toList)) (fun i _ => 40 - (intOf i).toNat)
  case atStart => exact ⟨0, by omega, rfl, (Below.refl _ _).alloc (Nat.le_refl _) _, by simp, hroom, fun k hk => absurd hk (by omega)⟩
  case round =>
    obtain ⟨k, hk, rfl, hbl, hsz, hrm, hrow⟩ := hrel
    by_cases hlt : k < 40
    · obtain ⟨⟨x0, d0⟩, f0⟩ := hrm k hlt
      by_cases hks : k < s.size
      · have hx := s[k].toNat_lt
        have ha : bits BinOp.and IntKind.u8 (s[k].toNat : Int) 15 = (s[k].toNat : Int) % 16 := u8_and15 _ (by omega) (by omega)
        clear hx
        go_wp2_with fail
        refine (hex_any _ _ (by omega) (by omega)).mono ?_
        rintro e w2 ⟨rfl, hw⟩
        subst hw
        rw [base_at s k hks]
        go_wp2
        go_roundw
        case rel => exact ⟨k + 1, by omega, by go_num, hbl.setCell (Nat.le_refl _) _, by rw [World.size_setCell]; exact hsz, set_room hrm, set_row hrm hlt hrow rfl⟩
        case measure => simp [intOf]; omega
      · go_wp2_with fail
        refine (hex_any _ _ (by omega) (by omega)).mono ?_
        rintro e w2 ⟨rfl, hw⟩
        subst hw
        rw [base_out s k hks]
        go_wp2
        go_roundw
        case rel => exact ⟨k + 1, by omega, by go_num, hbl.setCell (Nat.le_refl _) _, by rw [World.size_setCell]; exact hsz, set_room hrm, set_row hrm hlt hrow rfl⟩
        case measure => simp [intOf]; omega
    · obtain rfl : k = 40 := by omega
      have hcv := conv_row (cap := 40) hrow
      clear hmk hroom
      go_wp2_with fail
      refine (isID_any _ _).mono ?_
      rintro e w1 ⟨rfl, hb1⟩
      rw [idB_row _ (fun j _ => baseG_ok _ j)]
      have hl := Lib.size_eq s
      have HB1 : Below w'.heap.size w' w1 := hbl.trans (hb1.mono hbl.size)
      have hrow1 := hrow.below hb1 hsz
      have hsz1 : w'.heap.size < w1.heap.size := Nat.lt_of_lt_of_le hsz hb1.size
      clear hb1 hrow hrm hbl hsz hcv
      by_cases h40 : s.size = 40
      · have e40 : ((s.size : Int) == 40) = true := by rw [h40]; rfl
        have H40 : Hid (s.size = 40) := h40
        have hle : 40 ≤ s.size := by omega
        have HL : Hid (s.data.toList.length = 40) := by show _ = _; rw [← hl]; exact h40
        clear h40 hl
        go_wp2_with fail
        go_loopw [6, 7] (fun x i wr => ∃ k : Nat, k ≤ 40 ∧ i = .int .i64 k ∧ x = .bool true ∧ Below w1.heap.size w1 wr ∧ Hid (∀ j, j < k → hexB (s.data.toList.getD j 0) = true)) (fun _ i _ => 40 - (intOf i).toNat)
        case atStart => exact ⟨0, by omega, rfl, rfl, Below.refl _ _, fun j hj => absurd hj (by omega)⟩
        case round =>
          obtain ⟨k, hk, rfl, rfl, hbl, HA⟩ := hrel
          by_cases hlt : k < 40
          · have hks : k < s.size := by omega
            obtain ⟨O, hmk, hroom⟩ := make40 wr
            have hrow2 := (hrow1.below hbl hsz1).below ((Below.refl _ wr).alloc (Nat.le_refl _) O) (Nat.lt_of_lt_of_le hsz1 hbl.size)
            obtain ⟨W2, hcp, hrowT, hroomT, hszT, hbT⟩ := copy40 hroom hrow2
            obtain ⟨x0, d0⟩ := (hroomT k hlt).1
            have f0 := (hroomT k hlt).2
            have hcv := conv_row (cap := 40) (set_repl (c := s[k]) hlt hrowT)
            clear hroom hrow2
            have hb2 : Below w1.heap.size w1 W2 := (hbl.alloc hbl.size O).trans (hbT.mono hbl.size)
            have hb3 := hb2.setCell (p := ⟨wr.heap.size, k, none⟩) hbl.size (.int .u8 (s[k].toNat : Int))
            go_wp2_with fail
            refine (isID_any _ _).mono ?_
            rintro e w4 ⟨rfl, hb4⟩
            rw [idB_repl _ k s[k] hlt (fun j _ => baseG_ok _ j)]
            have hb5 : Below w1.heap.size w1 w4 := hb3.trans (hb4.mono hb3.size)
            have eg := getD_at s k hks
            clear hb4 hb3 hb2 hcv hcp hmk hrowT hroomT d0 f0
            by_cases hok : hexB s[k] = true
            · rw [hok]
              have HA2 : Hid (∀ j, j < k + 1 → hexB (s.data.toList.getD j 0) = true) := fun j hj => by
                by_cases e : j = k
                · subst e; rw [eg]; exact hok
                · exact HA.out j (by omega)
              clear eg hok HA
              go_wp2
              go_roundw
              case rel => exact ⟨k + 1, by omega, by go_num, rfl, hb5, HA2⟩
              case measure => simp [intOf]; omega
            · have ef : hexB s[k] = false := Bool.eq_false_iff.2 hok
              rw [ef]
              have HI : Hid (idB s.data.toList = false) := idB_false (fun h => hok (by rw [← eg]; exact h.2 k hlt))
              clear eg hok ef HA
              go_wp2_with fail
              refine (isID_any _ _).mono ?_
              rintro e w5 ⟨rfl, hb6⟩
              rw [HI.out]
              have HF : Hid (Below w'.heap.size w' w5) := HB1.trans ((hb5.trans (hb6.mono hb5.size)).mono HB1.size)
              clear hb6
              go_wp2
              go_ret
              exact ⟨rfl, HF.out⟩
          · obtain rfl : k = 40 := by omega
            have HI : Hid (idB s.data.toList = true) := (idB_iff _).2 ⟨HL.out, HA.out⟩
            go_wp2_with fail
            refine (isID_any _ _).mono ?_
            rintro e w5 ⟨rfl, hb6⟩
            rw [HI.out]
            have HF : Hid (Below w'.heap.size w' w5) := HB1.trans ((hbl.trans (hb6.mono hbl.size)).mono HB1.size)
            clear hb6
            go_wp2
            go_ret
            exact ⟨rfl, HF.out⟩
      · have e40 : ((s.size : Int) == 40) = false := beq_eq_false_iff_ne.2 (by omega)
        have HI : Hid (idB s.data.toList = false) := idB_false (fun h => h40 (by rw [hl]; exact h.1))
        clear h40 hl
        go_wp2_with fail
        refine (isID_any _ _).mono ?_
        rintro e w5 ⟨rfl, hb6⟩
        rw [HI.out]
        have HF : Hid (Below w'.heap.size w' w5) := HB1.trans (hb6.mono HB1.size)
        clear hb6
        go_wp2
        go_ret
        exact ⟨rfl, HF.out⟩

theorem pos_any (s : ByteArray) (w : World) (hm : s.size ≤ maxLen) : Calls Try.prog 3 #[.string s] w (LawEnd w) := by
  by_cases h : 65536 < s.size
  · exact pos_big s w hm h
  · exact pos_main s w (by omega)

end Go.Proofs.Qxb6630763a

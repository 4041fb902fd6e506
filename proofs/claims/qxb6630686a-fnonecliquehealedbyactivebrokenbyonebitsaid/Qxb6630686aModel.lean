import Derived.Test.Qxb6630686aBuild
import Derived.Test.Qxb6630686aPlain
namespace Go.Proofs.Qxb6630686a
open Go.RowKit

/-- The law's end. -/
def LawEnd (w : World) (e : Ending) (w' : World) : Prop := e = .returned (.bool true) ∧ Below w.heap.size w w'

set_option maxHeartbeats 400000 in
theorem bytes5_ok (a : Option Addr) (n cap : Nat) (w : World) (hn : n ≤ 1048576) : Calls Try.prog 5 #[.slice a n cap] w fun e w' => e = .returned (.bool true) ∧ w' = w := by
  go_enter Try.func5, Try.ntmps5
  go_wp2
  go_ret
  exact ⟨rfl, rfl⟩

set_option maxHeartbeats 400000 in
theorem model_big (a : Option Addr) (n cap : Nat) (w : World) (hm : n ≤ maxLen) (hn : 32768 < n) : Calls Try.prog 3 #[.slice a n cap] w (LawEnd w) := by
  unfold maxLen at hm
  by_cases h : 1048576 < n
  · go_enter Try.func3, Try.ntmps3
    go_wp2
    go_ret
    exact ⟨rfl, Below.refl _ _⟩
  · go_enter Try.func3, Try.ntmps3
    go_wp2
    go_ret
    exact ⟨rfl, Below.refl _ _⟩

set_option maxHeartbeats 400000 in
theorem model_zero (a : Option Addr) (cap : Nat) (w : World) (h : a = none → cap = 0) : Calls Try.prog 3 #[.slice a 0 cap] w (LawEnd w) := by
  have HB := build_any a 0 cap (fun _ => 0) (fun _ => 0) (fun _ => 0) (fun _ => 0) w (by omega) (Or.inl ⟨rfl, h⟩)
  have H : Hid (Calls Try.prog 6 #[.slice a 0 cap] w (BuildEnd w 0 (fun _ => 0) (fun _ => 0) (fun _ => 0) (fun _ => 0))) := HB
  clear HB
  go_enter Try.func3, Try.ntmps3
  go_wp2
  go_loop [4, 5] (fun f i => i = .int .i64 0 ∧ f = .int .i64 (-1)) (fun _ _ => 0)
  case atStart => exact ⟨rfl, rfl⟩
  case round =>
    obtain ⟨rfl, rfl⟩ := hrel
    go_wp2_with fail
    refine Calls.mono H.out ?_
    rintro e w1 ⟨C, rfl, hC, hb1⟩
    go_wp2_with fail
    refine (cluster_one (by omega) hC).mono ?_
    rintro e w2 ⟨rfl, hb2⟩
    have hone : oneB (fun _ => 0) (fun _ => 0) 0 = false := rfl
    have HB : Hid (Below w.heap.size w w2) := hb1.trans (hb2.mono hb1.size)
    clear hb2 hb1 hC
    go_wp2
    go_ret
    exact ⟨rfl, HB.out⟩

set_option maxHeartbeats 1000000 in
theorem model_row (b off n cap : Nat) (s v p q : Nat → Int) (w : World) (hn : n ≤ 32768) (hb : b < w.heap.size) (hr : Row4 w b off n s v p q) (hv : ∀ k, k < n → 0 ≤ v k ∧ v k < 18446744073709551616) :
    Calls Try.prog 3 #[.slice (some ⟨b, off, none⟩) n cap] w (LawEnd w) := by
  have H : Hid (Calls Try.prog 6 #[.slice (some ⟨b, off, none⟩) n cap] w (BuildEnd w n s v p q)) := build_any _ n cap s v p q w (by omega) (Or.inr ⟨b, off, rfl, hb, hr⟩)
  go_enter Try.func3, Try.ntmps3
  go_wp2
  go_loop [4, 5] (fun f i => ∃ k : Nat, k ≤ n ∧ i = .int .i64 k ∧ f = .int .i64 (-1) ∧ (∀ j, j < k → ¬ s j = 0)) (fun _ i => n - (intOf i).toNat)
  case atStart => exact ⟨0, Nat.zero_le _, rfl, rfl, fun j hj => absurd hj (by omega)⟩
  case round =>
    obtain ⟨k, hk, rfl, rfl, hno⟩ := hrel
    by_cases hlt : k < n
    · obtain ⟨c0, c1, c2, c3⟩ := hr k hlt
      by_cases hs : s k = 0
      · have hs1 : (s k == 0) = true := beq_iff_eq.2 hs
        have HS : Hid (s k = 0) := hs
        obtain ⟨V, hVd⟩ : ∃ V, V = v k := ⟨_, rfl⟩
        have hV0 := hv k hlt
        rw [← hVd] at c1 hV0
        have HV : Hid (V = v k) := hVd
        clear hs hno hVd
        go_wp2
        clear c0 c1 c2 c3
        go_loop [6, 8] (fun x i => ∃ m : Nat, m ≤ n ∧ i = .int .i64 m ∧ x = .bool (w2 s v V m)) (fun _ i => n - (intOf i).toNat)
        case atStart => exact ⟨0, Nat.zero_le _, rfl, rfl⟩
        case round =>
          obtain ⟨m, hm, rfl, rfl⟩ := hrel
          by_cases hlm : m < n
          · obtain ⟨c0, c1, c2, c3⟩ := hr m hlm
            have ha := and63_u64 m (by omega)
            by_cases hs : s m = 0
            · have hs2 : (s m != 0) = false := by rw [hs]; rfl
              have HM : Hid (s m = 0) := hs
              clear hs
              have HT : Hid ((bits BinOp.and IntKind.u64 (V / 2 ^ (m % 64)) 1 == 0) = !bitB V (m % 64)) := bit_test V (m % 64) hV0.1 hV0.2
              by_cases hv1 : (v m != V) = true
              · have HE : Hid (w2 s v V (m + 1) = false) := w2_no1 s v V m HM.out hv1
                go_wp2
                all_goals
                  go_round
                  case rel => exact ⟨m + 1, by omega, by go_num, by rw [HE.out]⟩
                  case measure => simp [intOf]; omega
              · have hv2 : (v m != V) = false := by simpa using hv1
                clear hv1
                cases hbb : bitB V (m % 64) with
                | false =>
                  have hbt : (bits BinOp.and IntKind.u64 (V / 2 ^ (m % 64)) 1 == 0) = true := by rw [HT.out, hbb]; rfl
                  have HE : Hid (w2 s v V (m + 1) = false) := w2_no2 s v V m HM.out hbb
                  clear hbb HT
                  go_wp2
                  go_round
                  case rel => exact ⟨m + 1, by omega, by go_num, by rw [HE.out]⟩
                  case measure => simp [intOf]; omega
                | true =>
                  have hbt : (bits BinOp.and IntKind.u64 (V / 2 ^ (m % 64)) 1 == 0) = false := by rw [HT.out, hbb]; rfl
                  have HE : Hid (w2 s v V (m + 1) = w2 s v V m) := w2_yes s v V m HM.out hv2 hbb
                  clear hbb HT
                  go_wp2
                  go_round
                  case rel => exact ⟨m + 1, by omega, by go_num, by rw [HE.out]⟩
                  case measure => simp [intOf]; omega
            · have hs2 : (s m != 0) = true := bne_iff_ne.2 hs
              have HE : Hid (w2 s v V (m + 1) = w2 s v V m) := w2_skip s v V m hs
              clear hs
              go_wp2
              go_round
              case rel => exact ⟨m + 1, by omega, by go_num, by rw [HE.out]⟩
              case measure => simp [intOf]; omega
          · obtain rfl : m = n := by omega
            go_wp2
            obtain ⟨X, hX⟩ : ∃ X, X = w2 s v V m := ⟨_, rfl⟩
            rw [← hX]
            have HX : Hid (X = w2 s v V m) := hX
            clear hX
            go_loop [6, 9] (fun x i => ∃ c : Nat, c ≤ 64 ∧ i = .int .u64 c ∧ x = .bool (w3 s V m X c)) (fun _ i => 64 - (intOf i).toNat)
            case atStart => exact ⟨0, Nat.zero_le _, rfl, rfl⟩
            case round =>
              obtain ⟨c, hc, rfl, rfl⟩ := hrel
              by_cases hlc : c < 64
              · have HT : Hid ((bits BinOp.and IntKind.u64 (V / 2 ^ c) 1 == 0) = !bitB V c) := bit_test V c hV0.1 hV0.2
                cases hbb : bitB V c with
                | false =>
                  have hbt : (bits BinOp.and IntKind.u64 (V / 2 ^ c) 1 == 0) = true := by rw [HT.out, hbb]; rfl
                  have HE : Hid (w3 s V m X (c + 1) = w3 s V m X c) := w3_skip s V m X c hbb
                  clear hbb HT
                  go_wp2
                  go_round
                  case rel => exact ⟨c + 1, by omega, by go_num, by rw [HE.out]⟩
                  case measure => simp [intOf]; omega
                | true =>
                  have hbt : (bits BinOp.and IntKind.u64 (V / 2 ^ c) 1 == 0) = false := by rw [HT.out, hbb]; rfl
                  have HBB : Hid (bitB V c = true) := hbb
                  clear hbb HT
                  go_wp2
                  go_loop [10, 11] (fun f i => ∃ j : Nat, j ≤ m ∧ i = .int .i64 j ∧ f = .bool false ∧ Hid (at4 s c j = false)) (fun _ i => m - (intOf i).toNat)
                  case atStart => exact ⟨0, Nat.zero_le _, rfl, rfl, rfl⟩
                  case round =>
                    obtain ⟨j, hj, rfl, rfl, HA⟩ := hrel
                    by_cases hlj : j < m
                    · obtain ⟨c0, c1, c2, c3⟩ := hr j hlj
                      have ha := and63_u64 j (by omega)
                      by_cases hs : s j = 0
                      · have hs2 : (s j == 0) = true := beq_iff_eq.2 hs
                        by_cases hjb : j % 64 = c
                        · have hb2 : ((j : Int) % 64 == (c : Int)) = true := beq_iff_eq.2 (by omega)
                          have HE : Hid (w3 s V m X (c + 1) = w3 s V m X c) := w3_found s V m X c (at4_hit s c j m hlj hs hjb)
                          clear hs hjb
                          go_wp2
                          go_round
                          case rel => exact ⟨c + 1, by omega, by go_num, by rw [HE.out]⟩
                          case measure => simp [intOf]; omega
                        · have hb2 : ((j : Int) % 64 == (c : Int)) = false := beq_eq_false_iff_ne.2 (by omega)
                          have HA2 : Hid (at4 s c (j + 1) = false) := at4_miss s c j HA.out (fun h => hjb h.2)
                          clear hs hjb
                          go_wp2
                          go_round
                          case rel => exact ⟨j + 1, by omega, by go_num, rfl, HA2⟩
                          case measure => simp [intOf]; omega
                      · have hs2 : (s j == 0) = false := beq_eq_false_iff_ne.2 hs
                        have HA2 : Hid (at4 s c (j + 1) = false) := at4_miss s c j HA.out (fun h => hs h.1)
                        clear hs
                        go_wp2
                        go_round
                        case rel => exact ⟨j + 1, by omega, by go_num, rfl, HA2⟩
                        case measure => simp [intOf]; omega
                    · obtain rfl : j = m := by omega
                      have HE : Hid (w3 s V j X (c + 1) = false) := w3_not s V j X c HBB.out HA.out
                      go_wp2
                      go_round
                      case rel => exact ⟨c + 1, by omega, by go_num, by rw [HE.out]⟩
                      case measure => simp [intOf]; omega
              · obtain rfl : c = 64 := by omega
                have HO : Hid (w3 s V m X 64 = oneB s v m) := by
                  show _ = _
                  rw [HX.out, HV.out]
                  exact (model_is s v m k hv hlt HS.out).symm
                clear hc hlc
                go_wp2_with fail
                refine Calls.mono H.out ?_
                rintro e w1 ⟨C, rfl, hC, hb1⟩
                go_wp2_with fail
                refine (cluster_one (by omega) hC).mono ?_
                rintro e w2 ⟨rfl, hb2⟩
                rw [HO.out]
                have HB : Hid (Below w.heap.size w w2) := hb1.trans (hb2.mono hb1.size)
                clear hb2 hb1 hC
                obtain ⟨O, hO⟩ : ∃ O, O = oneB s v m := ⟨_, rfl⟩
                rw [← hO]
                have hOO : (O == O) = true := by simp
                clear hO
                go_wp2
                go_ret
                exact ⟨rfl, HB.out⟩
      · have hs1 : (s k == 0) = false := beq_eq_false_iff_ne.2 hs
        have HS : Hid (¬ s k = 0) := hs
        have HN : Hid (∀ j, j < k → ¬ s j = 0) := hno
        clear hs hno
        go_wp2
        go_round
        case rel => exact ⟨k + 1, by omega, by go_num, rfl, fun j hj => by
          by_cases e : j = k
          · subst e; exact HS.out
          · exact HN.out j (by omega)⟩
        case measure => simp [intOf]; omega
    · obtain rfl : k = n := by omega
      have HO : Hid (oneB s v k = false) := model_none s v k hno
      clear hno
      go_wp2_with fail
      refine Calls.mono H.out ?_
      rintro e w1 ⟨C, rfl, hC, hb1⟩
      go_wp2_with fail
      refine (cluster_one (by omega) hC).mono ?_
      rintro e w2 ⟨rfl, hb2⟩
      rw [HO.out]
      have HB : Hid (Below w.heap.size w w2) := hb1.trans (hb2.mono hb1.size)
      clear hb2 hb1 hC
      go_wp2
      go_ret
      exact ⟨rfl, HB.out⟩
end Go.Proofs.Qxb6630686a

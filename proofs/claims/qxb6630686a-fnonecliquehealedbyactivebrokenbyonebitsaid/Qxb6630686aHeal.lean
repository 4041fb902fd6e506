import Derived.Test.Qxb6630686aBuild
import Derived.Test.Qxb6630686aPlain2
import Derived.Test.Qxb6630686aModel
namespace Go.Proofs.Qxb6630686a
open Go.RowKit

theorem info26 : (Try.prog.info? 26).map (fun i => (i.zero, i.size, i.bytes)) = some (some (.agg #[.int .i64 0, .int .u64 0, .int .i64 0, .int .i64 0]), 4, 32) := by kernel_rfl

theorem make26 (n : Nat) (hn : n ≤ 1048576) (w : World) : ∃ O : Obj, (Instr.makeSlice 22 (.int .i64 n) (.int .i64 n)).run Try.prog w = .ok (.slice (some ⟨w.heap.size, 0, none⟩) n n) (w.alloc O) ∧ Room (w.alloc O) w.heap.size (n * 4) := by
  obtain ⟨i, hi, hz0, hz1, hz2⟩ := info_parts info26
  have hr := run_make (P := Try.prog) w 22 26 i _ Try.underlying22 hi hz0 .i64 .i64 n n (by omega) (by omega) (by rw [hz2]; omega) (by omega)
  simp only [Int.toNat_natCast, hz1] at hr
  refine ⟨_, hr, fun j hj => ⟨?_, World.frozen?_alloc_new _ _ _ _⟩⟩
  rw [World.cell?_alloc_new]
  have hs : j < (madeCells (Value.cells (.agg #[.int .i64 0, .int .u64 0, .int .i64 0, .int .i64 0])) (n * 4)).size := by rw [size_madeCells]; exact hj
  exact ⟨_, Array.getElem?_eq_getElem hs⟩

theorem Row4.congr {w : World} {b off n : Nat} {s v v' p q : Nat → Int} (h : Row4 w b off n s v p q) (e : ∀ k, k < n → v k = v' k) : Row4 w b off n s v' p q := by
  intro k hk
  rw [← e k hk]
  exact h k hk

theorem set1_room {w : World} {B m o : Nat} {x : Value} (h : Room w B m) : Room (w.setCell ⟨B, o, none⟩ x) B m := by
  intro j hj
  obtain ⟨⟨y, hy⟩, hf⟩ := h j hj
  exact ⟨cell?_setCell_some hy, by rw [World.frozen?_setCell]; exact hf⟩

theorem set1_row {w : World} {B n m : Nat} {s v p q : Nat → Int} {x : Int} (h : Row4 w B 0 n s v p q) (hm : m < n) : Row4 (w.setCell ⟨B, m * 4 + 1, none⟩ (.int .u64 x)) B 0 n s (broke v m x) p q := by
  intro k hk
  obtain ⟨h0, h1, h2, h3⟩ := h k hk
  rw [Nat.zero_add] at h0 h1 h2 h3 ⊢
  refine ⟨(set_other _ _ _ _ _ _ (by omega)).trans h0, ?_, (set_other _ _ _ _ _ _ (by omega)).trans h2, (set_other _ _ _ _ _ _ (by omega)).trans h3⟩
  by_cases e : k = m
  · subst e
    unfold broke
    rw [if_pos rfl]
    exact World.cell?_setCell_same _ _ _ h1
  · unfold broke
    rw [if_neg e]
    exact (set_other _ _ _ _ _ _ (by omega)).trans h1

theorem round_keep {w2 wr : World} {k m : Nat} {s v p q : Nat → Int} {M : Int} (hbl : Below w2.heap.size w2 wr) (hsz : w2.heap.size < wr.heap.size) (hrm : Room wr w2.heap.size (k * 4)) (hlt : m < k) (hrow : Row4 wr w2.heap.size 0 m s (heal s v M) p q) (hs : ¬ s m = 0) :
    Below w2.heap.size w2 ((((wr.setCell ⟨w2.heap.size, m * 4, none⟩ (.int .i64 (s m))).setCell ⟨w2.heap.size, m * 4 + 1, none⟩ (.int .u64 (v m))).setCell ⟨w2.heap.size, m * 4 + 2, none⟩ (.int .i64 (p m))).setCell ⟨w2.heap.size, m * 4 + 3, none⟩ (.int .i64 (q m))) ∧
    w2.heap.size < ((((wr.setCell ⟨w2.heap.size, m * 4, none⟩ (.int .i64 (s m))).setCell ⟨w2.heap.size, m * 4 + 1, none⟩ (.int .u64 (v m))).setCell ⟨w2.heap.size, m * 4 + 2, none⟩ (.int .i64 (p m))).setCell ⟨w2.heap.size, m * 4 + 3, none⟩ (.int .i64 (q m))).heap.size ∧
    Room ((((wr.setCell ⟨w2.heap.size, m * 4, none⟩ (.int .i64 (s m))).setCell ⟨w2.heap.size, m * 4 + 1, none⟩ (.int .u64 (v m))).setCell ⟨w2.heap.size, m * 4 + 2, none⟩ (.int .i64 (p m))).setCell ⟨w2.heap.size, m * 4 + 3, none⟩ (.int .i64 (q m))) w2.heap.size (k * 4) ∧
    Row4 ((((wr.setCell ⟨w2.heap.size, m * 4, none⟩ (.int .i64 (s m))).setCell ⟨w2.heap.size, m * 4 + 1, none⟩ (.int .u64 (v m))).setCell ⟨w2.heap.size, m * 4 + 2, none⟩ (.int .i64 (p m))).setCell ⟨w2.heap.size, m * 4 + 3, none⟩ (.int .i64 (q m))) w2.heap.size 0 (m + 1) s (heal s v M) p q := by
  have e : heal s v M m = v m := if_neg hs
  have h1 := put4_below hbl w2.heap.size (m * 4) (Nat.le_refl _) (.int .i64 (s m)) (.int .u64 (v m)) (.int .i64 (p m)) (.int .i64 (q m))
  have h2 := put4_size wr w2.heap.size (m * 4) (.int .i64 (s m)) (.int .u64 (v m)) (.int .i64 (p m)) (.int .i64 (q m))
  have h3 := put4_room (o := m * 4) (x0 := .int .i64 (s m)) (x1 := .int .u64 (v m)) (x2 := .int .i64 (p m)) (x3 := .int .i64 (q m)) hrm
  have h4 := put4_row hrm hlt hrow
  rw [e] at h4
  unfold put4 at h1 h2 h3 h4
  refine ⟨h1, ?_, h3, h4⟩
  rw [h2]
  exact hsz

theorem round_heal {w2 wr : World} {k m : Nat} {s v p q : Nat → Int} {M : Int} (hbl : Below w2.heap.size w2 wr) (hsz : w2.heap.size < wr.heap.size) (hrm : Room wr w2.heap.size (k * 4)) (hlt : m < k) (hrow : Row4 wr w2.heap.size 0 m s (heal s v M) p q) (hs : s m = 0) :
    Below w2.heap.size w2 (((((wr.setCell ⟨w2.heap.size, m * 4, none⟩ (.int .i64 (s m))).setCell ⟨w2.heap.size, m * 4 + 1, none⟩ (.int .u64 (v m))).setCell ⟨w2.heap.size, m * 4 + 2, none⟩ (.int .i64 (p m))).setCell ⟨w2.heap.size, m * 4 + 3, none⟩ (.int .i64 (q m))).setCell ⟨w2.heap.size, m * 4 + 1, none⟩ (.int .u64 M)) ∧
    w2.heap.size < (((((wr.setCell ⟨w2.heap.size, m * 4, none⟩ (.int .i64 (s m))).setCell ⟨w2.heap.size, m * 4 + 1, none⟩ (.int .u64 (v m))).setCell ⟨w2.heap.size, m * 4 + 2, none⟩ (.int .i64 (p m))).setCell ⟨w2.heap.size, m * 4 + 3, none⟩ (.int .i64 (q m))).setCell ⟨w2.heap.size, m * 4 + 1, none⟩ (.int .u64 M)).heap.size ∧
    Room (((((wr.setCell ⟨w2.heap.size, m * 4, none⟩ (.int .i64 (s m))).setCell ⟨w2.heap.size, m * 4 + 1, none⟩ (.int .u64 (v m))).setCell ⟨w2.heap.size, m * 4 + 2, none⟩ (.int .i64 (p m))).setCell ⟨w2.heap.size, m * 4 + 3, none⟩ (.int .i64 (q m))).setCell ⟨w2.heap.size, m * 4 + 1, none⟩ (.int .u64 M)) w2.heap.size (k * 4) ∧
    Row4 (((((wr.setCell ⟨w2.heap.size, m * 4, none⟩ (.int .i64 (s m))).setCell ⟨w2.heap.size, m * 4 + 1, none⟩ (.int .u64 (v m))).setCell ⟨w2.heap.size, m * 4 + 2, none⟩ (.int .i64 (p m))).setCell ⟨w2.heap.size, m * 4 + 3, none⟩ (.int .i64 (q m))).setCell ⟨w2.heap.size, m * 4 + 1, none⟩ (.int .u64 M)) w2.heap.size 0 (m + 1) s (heal s v M) p q := by
  have h1 := put4_below hbl w2.heap.size (m * 4) (Nat.le_refl _) (.int .i64 (s m)) (.int .u64 (v m)) (.int .i64 (p m)) (.int .i64 (q m))
  have h2 := put4_size wr w2.heap.size (m * 4) (.int .i64 (s m)) (.int .u64 (v m)) (.int .i64 (p m)) (.int .i64 (q m))
  have h3 := put4_room (o := m * 4) (x0 := .int .i64 (s m)) (x1 := .int .u64 (v m)) (x2 := .int .i64 (p m)) (x3 := .int .i64 (q m)) hrm
  have e : broke (heal s v M) m (v m) m = v m := if_pos rfl
  have h4 := put4_row (v := broke (heal s v M) m (v m)) hrm hlt (hrow.congr (fun j hj => (if_neg (by omega)).symm))
  rw [e] at h4
  have h5 := (set1_row (x := M) h4 (by omega : m < m + 1)).congr (v' := heal s v M) (fun j hj => by
    unfold broke
    by_cases ej : j = m
    · subst ej; rw [if_pos rfl]; exact (if_pos hs).symm
    · rw [if_neg ej, if_neg ej])
  unfold put4 at h1 h2 h3 h4 h5
  refine ⟨h1.setCell (Nat.le_refl _) _, ?_, set1_room h3, h5⟩
  rw [World.size_setCell, h2]
  exact hsz

set_option maxHeartbeats 400000 in
theorem heal_big (a : Option Addr) (n cap : Nat) (k bit : Int) (w : World) (hm : n ≤ maxLen) (hn : 32768 < n) : Calls Try.prog 4 #[.slice a n cap, .int .i64 k, .int .u64 bit] w (LawEnd w) := by
  unfold maxLen at hm
  by_cases h : 1048576 < n
  · go_enter Try.func4, Try.ntmps4
    go_wp2
    go_ret
    exact ⟨rfl, Below.refl _ _⟩
  · go_enter Try.func4, Try.ntmps4
    go_wp2
    go_ret
    exact ⟨rfl, Below.refl _ _⟩

set_option maxHeartbeats 1000000 in
theorem heal_row (b off n cap : Nat) (s v p q : Nat → Int) (kk bit : Int) (w : World) (hn : n ≤ 32768) (hb : b < w.heap.size) (hr : Row4 w b off n s v p q) (hbit : 0 ≤ bit) :
    Calls Try.prog 4 #[.slice (some ⟨b, off, none⟩) n cap, .int .i64 kk, .int .u64 bit] w (LawEnd w) := by
  have H : Hid (Calls Try.prog 6 #[.slice (some ⟨b, off, none⟩) n cap] w (BuildEnd w n s v p q)) := build_any _ n cap s v p q w (by omega) (Or.inr ⟨b, off, rfl, hb, hr⟩)
  go_enter Try.func4, Try.ntmps4
  go_wp2
  go_loop [8, 9, 10] (fun x h i => ∃ k : Nat, k ≤ n ∧ i = .int .i64 k ∧ x = .int .u64 (maskI s k) ∧ h = .bool (hasB s k)) (fun _ _ i => n - (intOf i).toNat)
  case atStart => exact ⟨0, Nat.zero_le _, rfl, rfl, rfl⟩
  case round =>
    obtain ⟨k, hk, rfl, rfl, rfl⟩ := hrel
    by_cases hlt : k < n
    · obtain ⟨c0, c1, c2, c3⟩ := hr k hlt
      have ha := and63_u64 k (by omega)
      have hmb := maskI_bounds s k
      by_cases hs : s k = 0
      · have hs1 : (s k == 0) = true := beq_iff_eq.2 hs
        have HM : Hid (maskI s (k + 1) = bits BinOp.or IntKind.u64 (maskI s k) (IntKind.u64.wrap ((2 : Int) ^ (k % 64)))) := by
          show _ = _
          rw [or_add _ _ hmb.1 hmb.2]
          exact if_pos hs
        have HH : Hid (hasB s (k + 1) = true) := if_pos hs
        clear hs
        go_wp2
        go_round
        case rel => exact ⟨k + 1, by omega, by go_num, by rw [HM.out], by rw [HH.out]⟩
        case measure => simp [intOf]; omega
      · have hs1 : (s k == 0) = false := beq_eq_false_iff_ne.2 hs
        have HM : Hid (maskI s (k + 1) = maskI s k) := if_neg hs
        have HH : Hid (hasB s (k + 1) = hasB s k) := if_neg hs
        clear hs
        go_wp2
        go_round
        case rel => exact ⟨k + 1, by omega, by go_num, by rw [HM.out], by rw [HH.out]⟩
        case measure => simp [intOf]; omega
    · obtain rfl : k = n := by omega
      go_wp2_with fail
      refine Calls.mono H.out ?_
      rintro e w1 ⟨C, rfl, hC, hb1⟩
      go_wp2_with fail
      refine (cluster_active (by omega) hC).mono ?_
      rintro e w2 ⟨rfl, hb2⟩
      have hB2 : Below w.heap.size w w2 := hb1.trans (hb2.mono hb1.size)
      clear hb2 hb1 hC
      have hr2 := hr.below hB2 hb
      have hb2 : b < w2.heap.size := Nat.lt_of_lt_of_le hb hB2.size
      obtain ⟨O, hmk, hroom⟩ := make26 k (by omega) w2
      have hmne : (maskI s k != maskI s k) = false := by simp
      have hmb := maskI_bounds s k
      obtain ⟨M, hM⟩ : ∃ M, M = maskI s k := ⟨_, rfl⟩
      rw [← hM] at hmne hmb ⊢
      have HM : Hid (M = maskI s k) := hM
      clear hM
      go_wp2
      go_loopw [13] (fun i wr => ∃ m : Nat, m ≤ k ∧ i = .int .i64 m ∧ Below w2.heap.size w2 wr ∧ w2.heap.size < wr.heap.size ∧ Room wr w2.heap.size (k * 4) ∧ Row4 wr w2.heap.size 0 m s (heal s v M) p q) (fun i _ => k - (intOf i).toNat)
      case atStart => exact ⟨0, Nat.zero_le _, rfl, (Below.refl _ _).alloc (Nat.le_refl _) _, by simp, hroom, fun k hk => absurd hk (by omega)⟩
      case round =>
        obtain ⟨m, hm, rfl, hbl, hsz, hrm, hrow⟩ := hrel
        by_cases hlm : m < k
        · obtain ⟨c0, c1, c2, c3⟩ := hr2.below hbl hb2 m hlm
          obtain ⟨⟨x0, d0⟩, f0⟩ := hrm (m * 4) (by omega)
          obtain ⟨⟨x1, d1⟩, f1⟩ := hrm (m * 4 + 1) (by omega)
          obtain ⟨⟨x2, d2⟩, f2⟩ := hrm (m * 4 + 2) (by omega)
          obtain ⟨⟨x3, d3⟩, f3⟩ := hrm (m * 4 + 3) (by omega)
          have ne1 : ¬ b = w2.heap.size := by omega
          have ne2 : ¬ w2.heap.size = b := by omega
          clear hmk hroom
          by_cases hs : s m = 0
          · have hs1 : (s m == 0) = true := beq_iff_eq.2 hs
            have HS : Hid (s m = 0) := hs
            clear hs
            go_wp2
            go_roundw
            case rel =>
              obtain ⟨g1, g2, g3, g4⟩ := round_heal hbl hsz hrm hlm hrow HS.out
              exact ⟨m + 1, by omega, by go_num, g1, g2, g3, g4⟩
            case measure => simp [intOf]; omega
          · have hs1 : (s m == 0) = false := beq_eq_false_iff_ne.2 hs
            have HS : Hid (¬ s m = 0) := hs
            clear hs
            go_wp2
            go_roundw
            case rel =>
              obtain ⟨g1, g2, g3, g4⟩ := round_keep hbl hsz hrm hlm hrow HS.out
              exact ⟨m + 1, by omega, by go_num, g1, g2, g3, g4⟩
            case measure => simp [intOf]; omega
        · obtain rfl : m = k := by omega
          clear hmk hroom
          go_wp2_with fail
          refine (build_any (some ⟨w2.heap.size, 0, none⟩) m m s (heal s v M) p q wr (by omega) (Or.inr ⟨w2.heap.size, 0, rfl, hsz, hrow⟩)).mono ?_
          rintro e w4 ⟨C2, rfl, hC2, hb4⟩
          go_wp2_with fail
          refine (cluster_one (by omega) hC2).mono ?_
          rintro e w5 ⟨rfl, hb5⟩
          have hone : oneB s (heal s v M) m = hasB s m := by rw [HM.out]; exact heal_one s v m
          rw [hone]
          have hbw : Below wr.heap.size wr w5 := hb4.trans (hb5.mono hb4.size)
          have hrow5 := hrow.below hbw hsz
          have hrm5 : Room w5 w2.heap.size (m * 4) := fun j hj => by
            obtain ⟨⟨x, hx⟩, hf⟩ := hrm j hj
            exact ⟨⟨x, (hbw.cell (p := ⟨w2.heap.size, j, none⟩) hsz).trans hx⟩, (hbw.frozen (p := ⟨w2.heap.size, j, none⟩) hsz).trans hf⟩
          have HB5 : Below w2.heap.size w2 w5 := hbl.trans (hbw.mono hbl.size)
          have hsz5 : w2.heap.size < w5.heap.size := Nat.lt_of_lt_of_le hsz hbw.size
          have HBW : Hid (Below w.heap.size w w5) := hB2.trans (HB5.mono hB2.size)
          have hr5 := hr2.below HB5 hb2
          clear hb5 hb4 hC2 hone hbw hrow hrm hbl hr2
          obtain ⟨hh, hhd⟩ : ∃ hh, hh = hasB s m := ⟨_, rfl⟩
          rw [← hhd]
          have hhn : (hh != hh) = false := by simp
          clear hhd
          by_cases k1 : kk < 0
          · go_wp2
            go_ret
            exact ⟨rfl, HBW.out⟩
          by_cases k2 : (m : Int) ≤ kk
          · go_wp2
            go_ret
            exact ⟨rfl, HBW.out⟩
          by_cases k3 : 64 ≤ bit
          · go_wp2
            go_ret
            exact ⟨rfl, HBW.out⟩
          obtain ⟨j, rfl⟩ := Int.eq_ofNat_of_zero_le (by omega : 0 ≤ kk)
          have hj : j < m := by omega
          obtain ⟨c0, c1, c2, c3⟩ := hr5 j hj
          by_cases hs : s j = 0
          · obtain ⟨c, rfl⟩ := Int.eq_ofNat_of_zero_le hbit
            obtain ⟨_, d1, _, _⟩ := hrow5 j hj
            rw [Nat.zero_add] at d1
            have ej : heal s v M j = M := if_pos hs
            rw [ej] at d1
            have f1 := (hrm5 (j * 4 + 1) (by omega)).2
            have hs1 : (s j != 0) = false := by rw [hs]; rfl
            have HS : Hid (s j = 0) := hs
            clear hs ej
            have hX : bits BinOp.xor IntKind.u64 M (IntKind.u64.wrap ((2 : Int) ^ c)) ≠ maskI s m := by rw [← HM.out]; exact xor_ne M c hmb.1 hmb.2 (by omega)
            have HX : Hid (bits BinOp.xor IntKind.u64 M (IntKind.u64.wrap ((2 : Int) ^ c)) ≠ maskI s m) := hX
            clear hX
            go_wp2_with fail
            have hrow6 := set1_row (x := bits BinOp.xor IntKind.u64 M (IntKind.u64.wrap ((2 : Int) ^ c))) hrow5 hj
            have hB6 := HBW.out.setCell (p := ⟨w2.heap.size, j * 4 + 1, none⟩) hB2.size (.int .u64 (bits BinOp.xor IntKind.u64 M (IntKind.u64.wrap ((2 : Int) ^ c))))
            have hsz6 : w2.heap.size < (w5.setCell ⟨w2.heap.size, j * 4 + 1, none⟩ (.int .u64 (bits BinOp.xor IntKind.u64 M (IntKind.u64.wrap ((2 : Int) ^ c))))).heap.size := by rw [World.size_setCell]; exact hsz5
            refine (build_any (some ⟨w2.heap.size, 0, none⟩) m m s (broke (heal s v M) j (bits BinOp.xor IntKind.u64 M (IntKind.u64.wrap ((2 : Int) ^ c)))) p q _ (by omega) (Or.inr ⟨w2.heap.size, 0, rfl, hsz6, hrow6⟩)).mono ?_
            rintro e w7 ⟨C3, rfl, hC3, hb7⟩
            go_wp2_with fail
            refine (cluster_one (by omega) hC3).mono ?_
            rintro e w8 ⟨rfl, hb8⟩
            rw [broke_one s (heal s v M) m j _ hj HS.out HX.out]
            have HB8 : Hid (Below w.heap.size w w8) := hB6.trans ((hb7.trans (hb8.mono hb7.size)).mono hB6.size)
            clear hb8 hb7 hC3 hrow6 hB6 hsz6
            go_wp2
            go_ret
            exact ⟨rfl, HB8.out⟩
          · have hs1 : (s j != 0) = true := bne_iff_ne.2 hs
            clear hs
            go_wp2
            go_ret
            exact ⟨rfl, HBW.out⟩

set_option maxHeartbeats 1000000 in
theorem heal_zero (a : Option Addr) (cap : Nat) (kk bit : Int) (w : World) (h : a = none → cap = 0) : Calls Try.prog 4 #[.slice a 0 cap, .int .i64 kk, .int .u64 bit] w (LawEnd w) := by
  have H : Hid (Calls Try.prog 6 #[.slice a 0 cap] w (BuildEnd w 0 (fun _ => 0) (fun _ => 0) (fun _ => 0) (fun _ => 0))) := build_any a 0 cap (fun _ => 0) (fun _ => 0) (fun _ => 0) (fun _ => 0) w (by omega) (Or.inl ⟨rfl, h⟩)
  go_enter Try.func4, Try.ntmps4
  go_wp2
  go_loop [8, 9, 10] (fun x h i => i = .int .i64 0 ∧ x = .int .u64 0 ∧ h = .bool false) (fun _ _ _ => 0)
  case atStart => exact ⟨rfl, rfl, rfl⟩
  case round =>
    obtain ⟨rfl, rfl, rfl⟩ := hrel
    go_wp2_with fail
    refine Calls.mono H.out ?_
    rintro e w1 ⟨C, rfl, hC, hb1⟩
    go_wp2_with fail
    refine (cluster_active (by omega) hC).mono ?_
    rintro e w2 ⟨rfl, hb2⟩
    have hB2 : Below w.heap.size w w2 := hb1.trans (hb2.mono hb1.size)
    clear hb2 hb1 hC
    have hM : maskI (fun _ => 0) 0 = 0 := rfl
    rw [hM]
    clear hM
    obtain ⟨O, hmk, _⟩ := make26 0 (by omega) w2
    simp only [Int.natCast_zero] at hmk
    go_wp2
    go_loop [13] (fun i => i = .int .i64 0) (fun _ => 0)
    case atStart => rfl
    case round =>
      subst hrel
      go_wp2_with fail
      refine (build_zero ⟨w2.heap.size, 0, none⟩ 0 (w2.alloc O) (fun _ => 0) (fun _ => 0) (fun _ => 0) (fun _ => 0)).mono ?_
      rintro e w4 ⟨C2, rfl, hC2, hb4⟩
      go_wp2_with fail
      refine (cluster_one (by omega) hC2).mono ?_
      rintro e w5 ⟨rfl, hb5⟩
      have hone : oneB (fun _ => 0) (fun _ => 0) 0 = false := rfl
      rw [hone]
      have hB3 : Below w.heap.size w (w2.alloc O) := hB2.alloc hB2.size O
      have HBW : Hid (Below w.heap.size w w5) := hB3.trans ((hb4.trans (hb5.mono hb4.size)).mono hB3.size)
      clear hb5 hb4 hC2 hone
      by_cases k1 : kk < 0
      · go_wp2
        go_ret
        exact ⟨rfl, HBW.out⟩
      · have k2 : (0 : Int) ≤ kk := by omega
        go_wp2
        go_ret
        exact ⟨rfl, HBW.out⟩
end Go.Proofs.Qxb6630686a

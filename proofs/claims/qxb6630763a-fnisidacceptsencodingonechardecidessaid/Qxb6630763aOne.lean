import Derived.Test.Qxb6630763aEnc
import Derived.Laws.Rows
namespace Go.Proofs.Qxb6630763a
open Go.RowKit

theorem idB_same (c : UInt8) : idB (strOf (fun _ => c) 40).data.toList = hexB c := by
  rw [Bool.eq_iff_iff, idB_iff, ← Lib.size_eq, strOf_size]
  constructor
  · rintro ⟨_, h⟩
    have := h 0 (by omega)
    rwa [strOf_getD _ _ _ (by omega)] at this
  · intro h
    refine ⟨rfl, fun j hj => ?_⟩
    rw [strOf_getD _ _ _ hj]
    exact h

theorem info25 : (Try.prog.info? 25).map (·.size) = some 20 := by kernel_rfl

set_option maxHeartbeats 400000 in
theorem one_out (vs : Array Value) (i c : Int) (w : World) (hi : i < 0 ∨ 40 ≤ i) : Calls Try.prog 4 #[.agg vs, .int .i64 i, .int .u8 c] w (LawEnd w) := by
  have HB : Hid (Below w.heap.size w (w.alloc (.cells vs 25))) := (Below.refl _ _).alloc (Nat.le_refl _) _
  rcases hi with h | h
  · go_enter Try.func4, Try.ntmps4
    go_wp2
    go_ret
    exact ⟨rfl, HB.out⟩
  · go_enter Try.func4, Try.ntmps4
    go_wp2
    go_ret
    exact ⟨rfl, HB.out⟩

set_option maxHeartbeats 1000000 in
theorem one_main (g : Nat → UInt8) (vs : Array Value) (k : Nat) (cc : UInt8) (w : World) (hk : k < 40) (hn : vs.size = 20) (hg : ∀ k, k < 20 → vs[k]? = some (.int .u8 ((g k).toNat : Int))) : Calls Try.prog 4 #[.agg vs, .int .i64 k, .int .u8 cc.toNat] w (LawEnd w) := by
  have HG := hide hg
  have HB0 : Hid (Below w.heap.size w (w.alloc (.cells vs 25))) := (Below.refl _ _).alloc (Nat.le_refl _) _
  clear hg
  go_enter Try.func4, Try.ntmps4
  go_wp2_with (refine wpList_load_row rfl 25 _ rfl w.heap.size rfl 25 vs (0, 0) _ (heap_alloc_new w _) Try.underlying25 rfl (by rw [hn]; exact info25) ?_)
  refine (enc_any g vs _ HG.out).mono ?_
  rintro e w1 ⟨B, rfl, hB0, hB1, hrow, hb1⟩
  rw [World.size_alloc] at hB0 hb1
  have HB1 : Hid (Below w.heap.size w w1) := HB0.out.trans (hb1.mono (by omega))
  have hs1 : w.heap.size ≤ w1.heap.size := HB1.out.size
  obtain ⟨O, hmk, hroom⟩ := make40 w1
  have hrow2 := hrow.below ((Below.refl _ w1).alloc (Nat.le_refl _) O) hB1
  obtain ⟨W2, hcp, hrowT, hroomT, hszT, hbT⟩ := copy40 hroom hrow2
  obtain ⟨x0, d0⟩ := (hroomT k hk).1
  have f0 := (hroomT k hk).2
  obtain ⟨O2, hmk2, hroom2⟩ := make40 (W2.setCell ⟨w1.heap.size, k, none⟩ (.int .u8 (cc.toNat : Int)))
  have hsz3 : (W2.setCell ⟨w1.heap.size, k, none⟩ (.int .u8 (cc.toNat : Int))).heap.size = w1.heap.size + 1 := by rw [World.size_setCell, hszT, World.size_alloc]
  rw [hsz3] at hmk2 hroom2
  have hba := (Below.refl (w1.heap.size + 1) (W2.setCell ⟨w1.heap.size, k, none⟩ (.int .u8 (cc.toNat : Int)))).alloc (Nat.le_of_eq hsz3.symm) O2
  have hsa : w1.heap.size + 1 < ((W2.setCell ⟨w1.heap.size, k, none⟩ (.int .u8 (cc.toNat : Int))).alloc O2).heap.size := by rw [World.size_alloc, hsz3]; omega
  have hbs : Below w1.heap.size (w1.alloc O) (W2.setCell ⟨w1.heap.size, k, none⟩ (.int .u8 (cc.toNat : Int))) := hbT.setCell (Nat.le_refl _) _
  have HRS : Hid (Row1 ((W2.setCell ⟨w1.heap.size, k, none⟩ (.int .u8 (cc.toNat : Int))).alloc O2) B 40 (encG g)) := (hrow2.below hbs hB1).below hba (by omega)
  have HRT : Hid (Row1 ((W2.setCell ⟨w1.heap.size, k, none⟩ (.int .u8 (cc.toNat : Int))).alloc O2) w1.heap.size 40 (repl (encG g) k cc)) := (set_repl (c := cc) hk hrowT).below hba (by omega)
  have HBA : Hid (Below w.heap.size w ((W2.setCell ⟨w1.heap.size, k, none⟩ (.int .u8 (cc.toNat : Int))).alloc O2)) :=
    (((HB1.out.alloc hs1 O).trans (hbs.mono hs1))).alloc (by rw [hsz3]; omega) O2
  clear hroom hba hbs hszT hrowT hroomT hbT hrow hrow2 hsz3
  generalize hN : w1.heap.size + 1 = N at hmk2 hroom2 hsa
  go_wp2_with fail
  go_loopw [10] (fun i wr => ∃ j : Nat, j ≤ 40 ∧ i = .int .i64 j ∧ Below N ((W2.setCell ⟨w1.heap.size, k, none⟩ (.int .u8 (cc.toNat : Int))).alloc O2) wr ∧ N < wr.heap.size ∧ Room wr N 40 ∧ Row1 wr N j (fun _ => cc)) (fun i _ => 40 - (intOf i).toNat)
  case atStart => exact ⟨0, by omega, rfl, Below.refl _ _, hsa, hroom2, fun k hk => absurd hk (by omega)⟩
  case round =>
    obtain ⟨j, hj, rfl, hbl, hsz, hrm, hrow⟩ := hrel
    clear hmk2 hroom2 hmk hcp d0 f0 hsa
    by_cases hlt : j < 40
    · obtain ⟨⟨x0, d0⟩, f0⟩ := hrm j hlt
      go_wp2
      go_roundw
      case rel => exact ⟨j + 1, by omega, by go_num, hbl.setCell (Nat.le_refl _) _, by rw [World.size_setCell]; exact hsz, set_room hrm, set_row hrm hlt hrow rfl⟩
      case measure => simp [intOf]; omega
    · obtain rfl : j = 40 := by omega
      have HRS1 := hide (HRS.out.below hbl (by omega))
      have HRT1 := hide (HRT.out.below hbl (by omega))
      have HBL : Hid (Below w.heap.size w wr) := HBA.out.trans (hbl.mono (by omega))
      have hcv := conv_row (cap := 40) HRS1.out
      clear hbl HRS HRT HBA hrm
      have hBw : B < wr.heap.size := by omega
      have hTw : w1.heap.size < wr.heap.size := by omega
      have hww : w.heap.size ≤ wr.heap.size := by omega
      go_wp2_with fail
      refine (isID_any _ _).mono ?_
      rintro e w4 ⟨rfl, hb4⟩
      rw [idB_row _ (fun j _ => encG_ok _ j)]
      have hcvT := conv_row (cap := 40) (HRT1.out.below hb4 hTw)
      have hrow4 := hrow.below hb4 hsz
      have hs4 := hb4.size
      have HB4 : Hid (Below w.heap.size w w4) := HBL.out.trans (hb4.mono hww)
      clear hcv hb4 hrow HBL
      go_wp2_with fail
      refine (isID_any _ _).mono ?_
      rintro e w5 ⟨rfl, hb5⟩
      rw [idB_repl _ k cc hk (fun j _ => encG_ok _ j)]
      have hcvR := conv_row (cap := 40) (hrow4.below hb5 (by omega))
      have hs5 := hb5.size
      have HB5 : Hid (Below w.heap.size w w5) := HB4.out.trans (hb5.mono (by omega))
      clear hcvT hb5 hrow4 HB4
      go_wp2_with fail
      refine (isID_any _ _).mono ?_
      rintro e w6 ⟨rfl, hb6⟩
      rw [idB_same cc]
      have HB6 : Hid (Below w.heap.size w w6) := HB5.out.trans (hb6.mono (by omega))
      clear hcvR hb6 HB5 
      have hlt256 : (cc.toNat : Int) < 256 := by have := cc.toNat_lt; omega
      have HD : Hid (UInt8.ofNat (cc.toNat : Int).toNat = cc) := by show _ = _; rw [Int.toNat_natCast]; simp
      cases hcc : hexB cc
      · have HCC := hide hcc
        clear hcc
        go_wp2_with fail
        refine (digit_any _ _ (by omega) hlt256).mono ?_
        rintro e w7 ⟨rfl, hw⟩
        subst hw
        rw [HD.out, HCC.out]
        go_wp2
        go_ret
        exact ⟨rfl, HB6.out⟩
      · have HCC := hide hcc
        clear hcc
        go_wp2_with fail
        refine (digit_any _ _ (by omega) hlt256).mono ?_
        rintro e w7 ⟨rfl, hw⟩
        subst hw
        rw [HD.out, HCC.out]
        go_wp2
        go_ret
        exact ⟨rfl, HB6.out⟩

end Go.Proofs.Qxb6630763a

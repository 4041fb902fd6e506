import Derived.Test.Qxb6630763aPos
namespace Go.Proofs.Qxb6630763a
open Go.RowKit

/-- The text of twenty bytes: the high nibble first. -/
def encG (g : Nat → UInt8) (j : Nat) : UInt8 := if j % 2 = 0 then hexD ((g (j / 2)).toNat / 16) else hexD ((g (j / 2)).toNat % 16)

theorem encG_ok (g : Nat → UInt8) (j : Nat) : hexB (encG g j) = true := by
  unfold encG
  have h := (g (j / 2)).toNat_lt
  split
  · exact hexD_ok _ (by omega)
  · exact hexD_ok _ (by omega)

theorem enc_hi (g : Nat → UInt8) (k : Nat) : ((hexD (((g k).toNat : Int) / 16).toNat).toNat : Int) = ((encG g (2 * k)).toNat : Int) := by
  unfold encG
  have e1 : 2 * k % 2 = 0 := by omega
  have e2 : 2 * k / 2 = k := by omega
  have e3 : (((g k).toNat : Int) / 16).toNat = (g k).toNat / 16 := by omega
  rw [if_pos e1, e2, e3]

theorem enc_lo (g : Nat → UInt8) (k : Nat) : ((hexD (((g k).toNat : Int) % 16).toNat).toNat : Int) = ((encG g (2 * k + 1)).toNat : Int) := by
  unfold encG
  have e1 : ¬ (2 * k + 1) % 2 = 0 := by omega
  have e2 : (2 * k + 1) / 2 = k := by omega
  have e3 : (((g k).toNat : Int) % 16).toNat = (g k).toNat % 16 := by omega
  rw [if_neg e1, e2, e3]

/-- How zzEncode20 ends: a new row of forty bytes. -/
def EncEnd (w : World) (g : Nat → UInt8) (e : Ending) (w' : World) : Prop :=
  ∃ B, e = .returned (.slice (some ⟨B, 0, none⟩) 40 40) ∧ w.heap.size ≤ B ∧ B < w'.heap.size ∧ Row1 w' B 40 (encG g) ∧ Below w.heap.size w w'

set_option maxHeartbeats 1000000 in
theorem enc_any (g : Nat → UInt8) (vs : Array Value) (w : World) (hg : ∀ k, k < 20 → vs[k]? = some (.int .u8 ((g k).toNat : Int))) :
    Calls Try.prog 8 #[.agg vs] w (EncEnd w g) := by
  obtain ⟨O, hmk, hroom⟩ := make40 (w.alloc (.cells vs 25))
  rw [World.size_alloc] at hmk hroom
  have hcell : ∀ k, k < 20 → (w.alloc (.cells vs 25)).cell? ⟨w.heap.size, k, none⟩ = some (.int .u8 ((g k).toNat : Int)) := fun k hk => by
    rw [World.cell?_alloc_new]; exact hg k hk
  have HC := hide hcell
  clear hcell hg
  have hbw : Below w.heap.size w (w.alloc (.cells vs 25)) := (Below.refl _ _).alloc (Nat.le_refl _) _
  have HBW := hide hbw
  clear hbw
  have hsw : (w.alloc (.cells vs 25)).heap.size = w.heap.size + 1 := World.size_alloc _ _
  have HSW := hide hsw
  clear hsw
  go_enter Try.func8, Try.ntmps8
  go_wp2
  go_loopw [4] (fun i wr => ∃ k : Nat, k ≤ 20 ∧ i = .int .i64 k ∧ Below (w.heap.size + 1) (w.alloc (.cells vs 25)) wr ∧ w.heap.size + 1 < wr.heap.size ∧ Room wr (w.heap.size + 1) 40 ∧ Row1 wr (w.heap.size + 1) (2 * k) (encG g)) (fun i _ => 20 - (intOf i).toNat)
  case atStart => exact ⟨0, by omega, rfl, (Below.refl _ _).alloc (by simp) _, by simp, hroom, fun k hk => absurd hk (by omega)⟩
  case round =>
    obtain ⟨k, hk, rfl, hbl, hsz, hrm, hrow⟩ := hrel
    by_cases hlt : k < 20
    · have c0 : wr.cell? ⟨w.heap.size, k, none⟩ = some (.int .u8 ((g k).toNat : Int)) := (hbl.cell (p := ⟨w.heap.size, k, none⟩) (by simp)).trans (unhide HC k hlt)
      obtain ⟨⟨x0, d0⟩, f0⟩ := hrm (2 * k) (by omega)
      obtain ⟨⟨x1, d1⟩, f1⟩ := hrm (2 * k + 1) (by omega)
      have hx := (g k).toNat_lt
      have ha : bits BinOp.and IntKind.u8 ((g k).toNat : Int) 15 = ((g k).toNat : Int) % 16 := u8_and15 _ (by omega) (by omega)
      have ne1 : ¬ w.heap.size = w.heap.size + 1 := by omega
      have ne2 : ¬ w.heap.size + 1 = w.heap.size := by omega
      go_wp2_with fail
      refine (hex_any _ _ (by omega) (by omega)).mono ?_
      rintro e w2 ⟨rfl, hw⟩
      subst hw
      rw [enc_hi g k]
      go_wp2_with fail
      refine (hex_any _ _ (by omega) (by omega)).mono ?_
      rintro e w3 ⟨rfl, hw⟩
      subst hw
      rw [enc_lo g k]
      go_wp2
      go_roundw
      case rel =>
        have r1 := set_row hrm (by omega : 2 * k < 40) hrow (rfl : ((encG g (2 * k)).toNat : Int) = ((encG g (2 * k)).toNat : Int))
        have m1 := set_room (o := 2 * k) (x := .int .u8 ((encG g (2 * k)).toNat : Int)) hrm
        have r2 := set_row m1 (by omega : 2 * k + 1 < 40) r1 (rfl : ((encG g (2 * k + 1)).toNat : Int) = ((encG g (2 * k + 1)).toNat : Int))
        exact ⟨k + 1, by omega, by go_num, (hbl.setCell (Nat.le_refl _) _).setCell (Nat.le_refl _) _, by rw [World.size_setCell, World.size_setCell]; exact hsz, set_room m1, r2⟩
      case measure => simp [intOf]; omega
    · obtain rfl : k = 20 := by omega
      go_wp2
      go_ret
      exact ⟨_, rfl, by omega, hsz, hrow, (unhide HBW).trans (hbl.mono (by omega))⟩

theorem hexD_hit (v : Nat) (x : Int) (h : v < 16) (e : (((hexD v).toNat : Int) == x) = true) : hexB (UInt8.ofNat x.toNat) = true := by
  rw [← beq_iff_eq.1 e, Int.toNat_natCast]
  have : UInt8.ofNat (hexD v).toNat = hexD v := by simp
  rw [this]
  exact hexD_ok v h

theorem hexD_miss (x : Int) (h0 : 0 ≤ x) (h1 : x < 256) (h : ∀ v, v < 16 → ¬ ((hexD v).toNat : Int) = x) : hexB (UInt8.ofNat x.toNat) = false := by
  have hall : ∀ n : Fin 256, hexB (UInt8.ofNat n.val) = true → ∃ v : Fin 16, ((hexD v.val).toNat : Int) = (n.val : Int) := by decide +kernel
  rcases Bool.eq_false_or_eq_true (hexB (UInt8.ofNat x.toNat)) with e | e
  · obtain ⟨v, hv⟩ := hall ⟨x.toNat, by omega⟩ e
    have e2 : ((x.toNat : Nat) : Int) = x := Int.toNat_of_nonneg h0
    exact absurd (hv.trans e2) (h v.val v.isLt)
  · exact e

set_option maxHeartbeats 400000 in
theorem digit_any (x : Int) (w : World) (h0 : 0 ≤ x) (h1 : x < 256) :
    Calls Try.prog 9 #[.int .u8 x] w fun e w' => e = .returned (.bool (hexB (UInt8.ofNat x.toNat))) ∧ w' = w := by
  go_enter Try.func9, Try.ntmps9
  go_wp2
  go_loop [3] (fun i => ∃ k : Nat, k ≤ 16 ∧ i = .int .u8 k ∧ Hid (∀ v, v < k → ¬ ((hexD v).toNat : Int) = x)) (fun i => 16 - (intOf i).toNat)
  case atStart => exact ⟨0, by omega, rfl, fun j hj => absurd hj (by omega)⟩
  case round =>
    obtain ⟨k, hk, rfl, HN⟩ := hrel
    by_cases hlt : k < 16
    · go_wp2_with fail
      refine (hex_any _ _ (by omega) (by omega)).mono ?_
      rintro e w2 ⟨rfl, hw⟩
      subst hw
      rw [Int.toNat_natCast]
      by_cases hx : ((hexD k).toNat : Int) = x
      · have hb : (((hexD k).toNat : Int) == x) = true := beq_iff_eq.2 hx
        have HE : Hid (hexB (UInt8.ofNat x.toNat) = true) := hexD_hit k x hlt hb
        clear hx
        go_wp2
        go_ret
        exact ⟨ret_bool HE.out.symm, rfl⟩
      · have hb : (((hexD k).toNat : Int) == x) = false := beq_eq_false_iff_ne.2 hx
        have HN2 : Hid (∀ v, v < k + 1 → ¬ ((hexD v).toNat : Int) = x) := fun j hj => by
          by_cases e : j = k
          · subst e; exact hx
          · exact HN.out j (by omega)
        clear hx
        go_wp2
        go_round
        case rel => exact ⟨k + 1, by omega, by go_num, HN2⟩
        case measure => simp [intOf]; omega
    · have HE : Hid (hexB (UInt8.ofNat x.toNat) = false) := hexD_miss x h0 h1 (fun v hv => HN.out v (by omega))
      go_wp2
      go_ret
      exact ⟨ret_bool HE.out.symm, rfl⟩
end Go.Proofs.Qxb6630763a

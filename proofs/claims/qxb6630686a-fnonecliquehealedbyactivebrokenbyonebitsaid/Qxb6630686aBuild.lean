import Derived.Test.Qxb6630686aOne
import Derived.Deep.RegionHeld3
import Derived.Laws.MakeOwn
import Derived.Lib.SliceRun
namespace Go.Proofs.Qxb6630686a
open Go.RowKit

/-- m cells are there at block B, and may be written. -/
def Room (w : World) (B m : Nat) : Prop := ∀ j, j < m → (∃ x, w.cell? ⟨B, j, none⟩ = some x) ∧ w.frozen? ⟨B, j, none⟩ = false

theorem info38 : (Try.prog.info? 38).map (fun i => (i.zero, i.size, i.bytes)) = some (some (.agg #[.int .i64 0, .int .u64 0, .int .i64 0, .int .i64 0]), 4, 32) := by kernel_rfl

theorem make38 (n : Nat) (hn : n ≤ 1048576) (w : World) : ∃ O : Obj, (Instr.makeSlice 35 (.int .i64 n) (.int .i64 n)).run Try.prog w = .ok (.slice (some ⟨w.heap.size, 0, none⟩) n n) (w.alloc O) ∧ Room (w.alloc O) w.heap.size (n * 4) := by
  obtain ⟨i, hi, hz0, hz1, hz2⟩ := info_parts info38
  have hr := run_make (P := Try.prog) w 35 38 i _ Try.underlying35 hi hz0 .i64 .i64 n n (by omega) (by omega) (by rw [hz2]; omega) (by omega)
  simp only [Int.toNat_natCast, hz1] at hr
  refine ⟨_, hr, fun j hj => ⟨?_, World.frozen?_alloc_new _ _ _ _⟩⟩
  rw [World.cell?_alloc_new]
  have hs : j < (madeCells (Value.cells (.agg #[.int .i64 0, .int .u64 0, .int .i64 0, .int .i64 0])) (n * 4)).size := by rw [size_madeCells]; exact hj
  exact ⟨_, Array.getElem?_eq_getElem hs⟩

/-- Four cells written one behind the other. -/
def put4 (w : World) (B o : Nat) (x0 x1 x2 x3 : Value) : World :=
  (((w.setCell ⟨B, o, none⟩ x0).setCell ⟨B, o + 1, none⟩ x1).setCell ⟨B, o + 2, none⟩ x2).setCell ⟨B, o + 3, none⟩ x3

theorem addr_ne {b o b' o' : Nat} (h : b ≠ b' ∨ o ≠ o') : (⟨b, o, none⟩ : Addr) ≠ ⟨b', o', none⟩ := by
  intro e
  injection e with e1 e2 e3
  rcases h with h | h
  · exact h e1
  · exact h e2

theorem set_other (w : World) (b o b' o' : Nat) (x : Value) (h : b ≠ b' ∨ o ≠ o') : (w.setCell ⟨b, o, none⟩ x).cell? ⟨b', o', none⟩ = w.cell? ⟨b', o', none⟩ :=
  World.cell?_setCell_other _ _ _ _ (addr_ne h)

theorem put4_other (w : World) (B o b j : Nat) (x0 x1 x2 x3 : Value) (h : B ≠ b ∨ j < o ∨ o + 4 ≤ j) : (put4 w B o x0 x1 x2 x3).cell? ⟨b, j, none⟩ = w.cell? ⟨b, j, none⟩ := by
  unfold put4
  rw [set_other _ _ _ _ _ _ (by omega), set_other _ _ _ _ _ _ (by omega), set_other _ _ _ _ _ _ (by omega), set_other _ _ _ _ _ _ (by omega)]

theorem put4_frozen (w : World) (B o : Nat) (x0 x1 x2 x3 : Value) (a : Addr) : (put4 w B o x0 x1 x2 x3).frozen? a = w.frozen? a := by
  unfold put4; simp

theorem put4_some (w : World) (B o : Nat) (x0 x1 x2 x3 : Value) (a : Addr) (x : Value) (h : w.cell? a = some x) : ∃ y, (put4 w B o x0 x1 x2 x3).cell? a = some y := by
  unfold put4
  obtain ⟨y0, h0⟩ := cell?_setCell_some (p := ⟨B, o, none⟩) (x := x0) h
  obtain ⟨y1, h1⟩ := cell?_setCell_some (p := ⟨B, o + 1, none⟩) (x := x1) h0
  obtain ⟨y2, h2⟩ := cell?_setCell_some (p := ⟨B, o + 2, none⟩) (x := x2) h1
  exact cell?_setCell_some h2

theorem put4_at (w : World) (B o : Nat) (x0 x1 x2 x3 : Value) {y0 y1 y2 y3 : Value} (h0 : w.cell? ⟨B, o, none⟩ = some y0) (h1 : w.cell? ⟨B, o + 1, none⟩ = some y1) (h2 : w.cell? ⟨B, o + 2, none⟩ = some y2) (h3 : w.cell? ⟨B, o + 3, none⟩ = some y3) :
    (put4 w B o x0 x1 x2 x3).cell? ⟨B, o, none⟩ = some x0 ∧ (put4 w B o x0 x1 x2 x3).cell? ⟨B, o + 1, none⟩ = some x1 ∧ (put4 w B o x0 x1 x2 x3).cell? ⟨B, o + 2, none⟩ = some x2 ∧ (put4 w B o x0 x1 x2 x3).cell? ⟨B, o + 3, none⟩ = some x3 := by
  obtain ⟨z1, h1a⟩ := cell?_setCell_some (p := ⟨B, o, none⟩) (x := x0) h1
  obtain ⟨z2, h2a⟩ := cell?_setCell_some (p := ⟨B, o, none⟩) (x := x0) h2
  obtain ⟨z3, h3a⟩ := cell?_setCell_some (p := ⟨B, o, none⟩) (x := x0) h3
  obtain ⟨t2, h2b⟩ := cell?_setCell_some (p := ⟨B, o + 1, none⟩) (x := x1) h2a
  obtain ⟨t3, h3b⟩ := cell?_setCell_some (p := ⟨B, o + 1, none⟩) (x := x1) h3a
  obtain ⟨r3, h3c⟩ := cell?_setCell_some (p := ⟨B, o + 2, none⟩) (x := x2) h3b
  unfold put4
  refine ⟨?_, ?_, ?_, ?_⟩
  · rw [set_other _ _ _ _ _ _ (by omega), set_other _ _ _ _ _ _ (by omega), set_other _ _ _ _ _ _ (by omega)]
    exact World.cell?_setCell_same _ _ _ h0
  · rw [set_other _ _ _ _ _ _ (by omega), set_other _ _ _ _ _ _ (by omega)]
    exact World.cell?_setCell_same _ _ _ h1a
  · rw [set_other _ _ _ _ _ _ (by omega)]
    exact World.cell?_setCell_same _ _ _ h2b
  · exact World.cell?_setCell_same _ _ _ h3c

theorem put4_below {N : Nat} {w w' : World} (h : Below N w w') (B o : Nat) (hB : N ≤ B) (x0 x1 x2 x3 : Value) : Below N w (put4 w' B o x0 x1 x2 x3) :=
  (((h.setCell hB _).setCell hB _).setCell hB _).setCell hB _

theorem put4_size (w : World) (B o : Nat) (x0 x1 x2 x3 : Value) : (put4 w B o x0 x1 x2 x3).heap.size = w.heap.size := by
  unfold put4; simp

theorem put4_room {w : World} {B o m : Nat} {x0 x1 x2 x3 : Value} (h : Room w B m) : Room (put4 w B o x0 x1 x2 x3) B m := by
  intro j hj
  obtain ⟨⟨x, hx⟩, hf⟩ := h j hj
  exact ⟨put4_some w B o x0 x1 x2 x3 _ x hx, (put4_frozen w B o x0 x1 x2 x3 _).trans hf⟩

theorem put4_row {w : World} {B k n : Nat} {s v p q : Nat → Int} (hrm : Room w B (n * 4)) (hk : k < n) (h : Row4 w B 0 k s v p q) :
    Row4 (put4 w B (k * 4) (.int .i64 (s k)) (.int .u64 (v k)) (.int .i64 (p k)) (.int .i64 (q k))) B 0 (k + 1) s v p q := by
  intro j hj
  by_cases e : j = k
  · subst e
    obtain ⟨⟨x0, d0⟩, _⟩ := hrm (j * 4) (by omega)
    obtain ⟨⟨x1, d1⟩, _⟩ := hrm (j * 4 + 1) (by omega)
    obtain ⟨⟨x2, d2⟩, _⟩ := hrm (j * 4 + 2) (by omega)
    obtain ⟨⟨x3, d3⟩, _⟩ := hrm (j * 4 + 3) (by omega)
    rw [Nat.zero_add]
    exact put4_at w B (j * 4) _ _ _ _ d0 d1 d2 d3
  · obtain ⟨h0, h1, h2, h3⟩ := h j (by omega)
    exact ⟨(put4_other w B _ B _ _ _ _ _ (by omega)).trans h0, (put4_other w B _ B _ _ _ _ _ (by omega)).trans h1, (put4_other w B _ B _ _ _ _ _ (by omega)).trans h2, (put4_other w B _ B _ _ _ _ _ (by omega)).trans h3⟩

/-- A cluster in memory: its stations. -/
def IsCluster (w : World) (C n : Nat) (s v p q : Nat → Int) : Prop :=
  C < w.heap.size ∧ ((n = 0 ∧ ∃ a cap, w.cell? ⟨C, 2, none⟩ = some (.slice a 0 cap)) ∨
    ∃ B cap, B < w.heap.size ∧ w.cell? ⟨C, 2, none⟩ = some (.slice (some ⟨B, 0, none⟩) n cap) ∧ Row4 w B 0 n s v p q)

/-- How zzBuild ends. -/
def BuildEnd (w : World) (n : Nat) (s v p q : Nat → Int) (e : Ending) (w' : World) : Prop :=
  ∃ C, e = .returned (.pointer (some ⟨C, 0, none⟩)) ∧ IsCluster w' C n s v p q ∧ Below w.heap.size w w'

theorem Room.drew {w : World} {B m : Nat} (h : Room w B m) : Room w.drew B m := h
theorem Row4.drew {w : World} {b off n : Nat} {s v p q : Nat → Int} (h : Row4 w b off n s v p q) : Row4 w.drew b off n s v p q := h

theorem round4 {w wr : World} {n k : Nat} {s v p q : Nat → Int} (hbl : Below w.heap.size w wr) (hsz : w.heap.size < wr.heap.size) (hrm : Room wr w.heap.size (n * 4)) (hlt : k < n) (hrow : Row4 wr w.heap.size 0 k s v p q) :
    Below w.heap.size w ((((wr.setCell ⟨w.heap.size, k * 4, none⟩ (.int .i64 (s k))).setCell ⟨w.heap.size, k * 4 + 1, none⟩ (.int .u64 (v k))).setCell ⟨w.heap.size, k * 4 + 2, none⟩ (.int .i64 (p k))).setCell ⟨w.heap.size, k * 4 + 3, none⟩ (.int .i64 (q k))).drew ∧
    w.heap.size < ((((wr.setCell ⟨w.heap.size, k * 4, none⟩ (.int .i64 (s k))).setCell ⟨w.heap.size, k * 4 + 1, none⟩ (.int .u64 (v k))).setCell ⟨w.heap.size, k * 4 + 2, none⟩ (.int .i64 (p k))).setCell ⟨w.heap.size, k * 4 + 3, none⟩ (.int .i64 (q k))).drew.heap.size ∧
    Room ((((wr.setCell ⟨w.heap.size, k * 4, none⟩ (.int .i64 (s k))).setCell ⟨w.heap.size, k * 4 + 1, none⟩ (.int .u64 (v k))).setCell ⟨w.heap.size, k * 4 + 2, none⟩ (.int .i64 (p k))).setCell ⟨w.heap.size, k * 4 + 3, none⟩ (.int .i64 (q k))).drew w.heap.size (n * 4) ∧
    Row4 ((((wr.setCell ⟨w.heap.size, k * 4, none⟩ (.int .i64 (s k))).setCell ⟨w.heap.size, k * 4 + 1, none⟩ (.int .u64 (v k))).setCell ⟨w.heap.size, k * 4 + 2, none⟩ (.int .i64 (p k))).setCell ⟨w.heap.size, k * 4 + 3, none⟩ (.int .i64 (q k))).drew w.heap.size 0 (k + 1) s v p q := by
  have h1 := (put4_below hbl w.heap.size (k * 4) (Nat.le_refl _) (.int .i64 (s k)) (.int .u64 (v k)) (.int .i64 (p k)) (.int .i64 (q k))).drew
  have h2 := put4_size wr w.heap.size (k * 4) (.int .i64 (s k)) (.int .u64 (v k)) (.int .i64 (p k)) (.int .i64 (q k))
  have h3 := put4_room (o := k * 4) (x0 := .int .i64 (s k)) (x1 := .int .u64 (v k)) (x2 := .int .i64 (p k)) (x3 := .int .i64 (q k)) hrm
  have h4 := put4_row hrm hlt hrow
  unfold put4 at h1 h2 h3 h4
  refine ⟨h1, ?_, h3.drew, h4.drew⟩
  rw [World.size_drew, h2]
  exact hsz

theorem newCluster_any (a : Option Addr) (l c : Nat) (w : World) :
    Calls Try.prog 10 #[.slice a l c] w fun e w' => e = .returned (.pointer (some ⟨w.heap.size, 0, none⟩)) ∧ w' = w.alloc (.cells #[.int .i64 0, .string ⟨#[]⟩, .slice a l c, .int .u64 0] 43) := by
  go_enter Try.func10, Try.ntmps10
  go_wp2
  go_ret
  exact ⟨rfl, rfl⟩

theorem cluster_new {wr : World} {n B : Nat} {s v p q : Nat → Int} (hB : B < wr.heap.size) (hrow : Row4 wr B 0 n s v p q) :
    IsCluster (wr.alloc (.cells #[.int .i64 0, .string ⟨#[]⟩, .slice (some ⟨B, 0, none⟩) n n, .int .u64 0] 43)) wr.heap.size n s v p q := by
  refine ⟨by simp, Or.inr ⟨B, n, by simp; omega, by go_simp, hrow.below ((Below.refl _ _).alloc (Nat.le_refl _) _) hB⟩⟩

theorem cluster_nil (wr : World) (a : Option Addr) (c : Nat) (s v p q : Nat → Int) :
    IsCluster (wr.alloc (.cells #[.int .i64 0, .string ⟨#[]⟩, .slice a 0 c, .int .u64 0] 43)) wr.heap.size 0 s v p q :=
  ⟨by simp, Or.inl ⟨rfl, a, c, by go_simp⟩⟩

set_option maxHeartbeats 1000000 in
theorem build_some (b off n cap : Nat) (s v p q : Nat → Int) (w : World) (hn : n ≤ 1048576) (hb : b < w.heap.size) (hr : Row4 w b off n s v p q) :
    Calls Try.prog 6 #[.slice (some ⟨b, off, none⟩) n cap] w (BuildEnd w n s v p q) := by
  obtain ⟨O, hmk, hroom⟩ := make38 n hn w
  have hnil := fun (wx : World) (ad : Addr) (l c : Nat) => Lib.run_eql_slice_nil (P := Try.prog) wx 22 26 (some ad) l c 0 0 Try.underlying22
  go_enter Try.func6, Try.ntmps6
  go_wp2
  go_loopw [4] (fun i wr => ∃ k : Nat, k ≤ n ∧ i = .int .i64 k ∧ Below w.heap.size w wr ∧ w.heap.size < wr.heap.size ∧ Room wr w.heap.size (n * 4) ∧ Row4 wr w.heap.size 0 k s v p q) (fun i _ => n - (intOf i).toNat)
  case atStart => exact ⟨0, Nat.zero_le _, rfl, (Below.refl _ _).alloc (Nat.le_refl _) _, by simp, hroom, fun k hk => absurd hk (by omega)⟩
  case round =>
    obtain ⟨k, hk, rfl, hbl, hsz, hrm, hrow⟩ := hrel
    by_cases hlt : k < n
    · obtain ⟨c0, c1, c2, c3⟩ := hr.below hbl hb k hlt
      obtain ⟨⟨x0, d0⟩, f0⟩ := hrm (k * 4) (by omega)
      obtain ⟨⟨x1, d1⟩, f1⟩ := hrm (k * 4 + 1) (by omega)
      obtain ⟨⟨x2, d2⟩, f2⟩ := hrm (k * 4 + 2) (by omega)
      obtain ⟨⟨x3, d3⟩, f3⟩ := hrm (k * 4 + 3) (by omega)
      have ne1 : ¬ b = w.heap.size := by omega
      have ne2 : ¬ w.heap.size = b := by omega
      have i0 : (0 : Int) ≤ (k : Int) := by omega
      have i1 : (k : Int) < (n : Int) := by omega
      go_wp2_with fail
      go_region_held3 (fun w' => w'.cell? ⟨b, off + k * 4, none⟩ = some (.int .i64 (s k)) ∧ w'.cell? ⟨b, off + k * 4 + 1, none⟩ = some (.int .u64 (v k)) ∧ w'.cell? ⟨b, off + k * 4 + 2, none⟩ = some (.int .i64 (p k)) ∧ w'.cell? ⟨b, off + k * 4 + 3, none⟩ = some (.int .i64 (q k))) (go_keep) (fail)
      go_wp2
      go_roundw
      case rel =>
        obtain ⟨g1, g2, g3, g4⟩ := round4 hbl hsz hrm hlt hrow
        exact ⟨k + 1, by omega, by go_num, g1, g2, g3, g4⟩
      case measure => simp [intOf]; omega
    · obtain rfl : k = n := by omega
      go_wp2_with fail
      refine (newCluster_any _ _ _ _).mono ?_
      rintro e w1 ⟨rfl, rfl⟩
      have HC := cluster_new hsz hrow
      have HB := hbl.alloc hbl.size (.cells #[.int .i64 0, .string ⟨#[]⟩, .slice (some ⟨w.heap.size, 0, none⟩) k k, .int .u64 0] 43)
      go_wp2
      go_ret
      exact ⟨_, rfl, HC, HB⟩

set_option maxHeartbeats 400000 in
theorem build_nil (w : World) (s v p q : Nat → Int) : Calls Try.prog 6 #[.slice none 0 0] w (BuildEnd w 0 s v p q) := by
  have hnil := fun (wx : World) (l c : Nat) => Lib.run_eql_slice_nil (P := Try.prog) wx 22 26 none l c 0 0 Try.underlying22
  go_enter Try.func6, Try.ntmps6
  go_wp2_with fail
  refine (newCluster_any _ _ _ _).mono ?_
  rintro e w1 ⟨rfl, rfl⟩
  have HC := cluster_nil w none 0 s v p q
  go_wp2
  go_ret
  exact ⟨_, rfl, HC, (Below.refl _ _).alloc (Nat.le_refl _) _⟩

set_option maxHeartbeats 400000 in
/-- No station at an address that is not nil. -/
theorem build_zero (a : Addr) (cap : Nat) (w : World) (s v p q : Nat → Int) : Calls Try.prog 6 #[.slice (some a) 0 cap] w (BuildEnd w 0 s v p q) := by
  obtain ⟨O, hmk, _⟩ := make38 0 (by omega) w
  have hnil := fun (wx : World) (ad : Addr) (l c : Nat) => Lib.run_eql_slice_nil (P := Try.prog) wx 22 26 (some ad) l c 0 0 Try.underlying22
  simp only [Int.natCast_zero] at hmk
  go_enter Try.func6, Try.ntmps6
  go_wp2
  go_loop [4] (fun i => i = .int .i64 0) (fun _ => 0)
  case atStart => rfl
  case round =>
    subst hrel
    go_wp2_with fail
    refine (newCluster_any _ _ _ _).mono ?_
    rintro e w1 ⟨rfl, rfl⟩
    have HC := cluster_nil (w.alloc O) (some ⟨w.heap.size, 0, none⟩) 0 s v p q
    rw [World.size_alloc] at HC
    go_wp2
    go_ret
    exact ⟨_, rfl, HC, ((Below.refl _ _).alloc (Nat.le_refl _) _).alloc (by simp) _⟩
/-- The stations that came in: none, or a row in memory. -/
def IsSts (w : World) (a : Option Addr) (n cap : Nat) (s v p q : Nat → Int) : Prop :=
  (n = 0 ∧ (a = none → cap = 0)) ∨ ∃ b off, a = some ⟨b, off, none⟩ ∧ b < w.heap.size ∧ Row4 w b off n s v p q

theorem build_any (a : Option Addr) (n cap : Nat) (s v p q : Nat → Int) (w : World) (hn : n ≤ 1048576) (h : IsSts w a n cap s v p q) : Calls Try.prog 6 #[.slice a n cap] w (BuildEnd w n s v p q) := by
  rcases h with ⟨rfl, h⟩ | ⟨b, off, rfl, hb, hr⟩
  · cases a with
    | none => rw [h rfl]; exact build_nil w s v p q
    | some a => exact build_zero a cap w s v p q
  · exact build_some b off n cap s v p q w hn hb hr

theorem cluster_one {w : World} {C n : Nat} {s v p q : Nat → Int} (hn : n ≤ 1048576) (h : IsCluster w C n s v p q) :
    Calls Try.prog 7 #[.pointer (some ⟨C, 0, none⟩)] w fun e w' => e = .returned (.bool (oneB s v n)) ∧ Below w.heap.size w w' := by
  obtain ⟨hC, ⟨rfl, a, cap, hc⟩ | ⟨B, cap, hB, hc, hr⟩⟩ := h
  · exact one_none C cap a w hc
  · exact one_some C B n cap s v p q w hn hC hB hc hr

theorem cluster_active {w : World} {C n : Nat} {s v p q : Nat → Int} (hn : n ≤ 1048576) (h : IsCluster w C n s v p q) :
    Calls Try.prog 9 #[.pointer (some ⟨C, 0, none⟩)] w fun e w' => e = .returned (.int .u64 (maskI s n)) ∧ Below w.heap.size w w' := by
  obtain ⟨_, ⟨rfl, a, cap, hc⟩ | ⟨B, cap, hB, hc, hr⟩⟩ := h
  · exact active_none C cap a w hc
  · exact active_some C B n cap s v p q w hn hB hc hr

theorem IsSts.below {w w' : World} {a : Option Addr} {n cap : Nat} {s v p q : Nat → Int} (h : IsSts w a n cap s v p q) (hb : Below w.heap.size w w') : IsSts w' a n cap s v p q := by
  rcases h with h | ⟨b, off, rfl, hB, hr⟩
  · exact Or.inl h
  · exact Or.inr ⟨b, off, rfl, Nat.lt_of_lt_of_le hB hb.size, hr.below hb hB⟩
end Go.Proofs.Qxb6630686a

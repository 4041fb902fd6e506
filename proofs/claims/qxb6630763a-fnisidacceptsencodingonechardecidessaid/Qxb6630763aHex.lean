import Derived.Test.Qxb6630763aID
import Derived.Laws.IdiomCopy
import Derived.Laws.BytesString
import Derived.Laws.BytesArg
import Derived.Laws.MakeOwn
import Derived.Laws.BitsLemmas
namespace Go.Proofs.Qxb6630763a
open Go.RowKit

/-- The digit of a nibble. -/
def hexN (v : Nat) : Nat := if v < 10 then 48 + v else 87 + v
def hexD (v : Nat) : UInt8 := UInt8.ofNat (hexN v)

theorem hexD_toNat (v : Nat) (h : v < 16) : ((hexD v).toNat : Int) = (hexN v : Nat) := by
  unfold hexD hexN
  rw [UInt8.toNat_ofNat']
  split <;> omega

theorem hexD_ok (v : Nat) (h : v < 16) : hexB (hexD v) = true := by
  rw [hexB_iff, hexD_toNat v h]
  unfold hexN
  split <;> omega

theorem ret_int {k : IntKind} {a b : Int} (h : a = b) : Ending.returned (.int k a) = .returned (.int k b) := by rw [h]

set_option maxHeartbeats 400000 in
theorem hex_any (x : Int) (w : World) (h0 : 0 ≤ x) (h1 : x < 16) :
    Calls Try.prog 6 #[.int .u8 x] w fun e w' => e = .returned (.int .u8 ((hexD x.toNat).toNat : Int)) ∧ w' = w := by
  have HD : Hid (((hexD x.toNat).toNat : Int) = if x < 10 then 48 + x else 97 + (x - 10)) := by
    show _ = _
    rw [hexD_toNat _ (by omega)]
    unfold hexN
    split <;> split <;> omega
  by_cases h : x < 10
  · go_enter Try.func6, Try.ntmps6
    go_wp2
    go_ret
    exact ⟨ret_int (by rw [HD.out, if_pos h]), rfl⟩
  · go_enter Try.func6, Try.ntmps6
    go_wp2
    go_ret
    exact ⟨ret_int (by rw [HD.out, if_neg (by omega)]), rfl⟩

/-- n bytes in memory, the block's first cells. -/
def Row1 (w : World) (B n : Nat) (g : Nat → UInt8) : Prop := ∀ k, k < n → w.cell? ⟨B, k, none⟩ = some (.int .u8 ((g k).toNat : Int))

/-- n cells are there at block B, and may be written. -/
def Room (w : World) (B n : Nat) : Prop := ∀ j, j < n → (∃ x, w.cell? ⟨B, j, none⟩ = some x) ∧ w.frozen? ⟨B, j, none⟩ = false

/-- The string of the n bytes. -/
def strOf (g : Nat → UInt8) (n : Nat) : ByteArray := ⟨((List.range n).map g).toArray⟩

theorem strOf_list (g : Nat → UInt8) (n : Nat) : (strOf g n).data.toList = (List.range n).map g := by simp [strOf]

theorem strOf_size (g : Nat → UInt8) (n : Nat) : (strOf g n).size = n := by
  rw [Lib.size_eq, strOf_list]; simp

theorem strOf_getD (g : Nat → UInt8) (n j : Nat) (h : j < n) : (strOf g n).data.toList.getD j 0 = g j := by
  rw [strOf_list]
  simp [List.getD, h]

theorem conv_row {w : World} {B n cap : Nat} {g : Nat → UInt8} (h : Row1 w B n g) : (convert 23 9 (.slice (some ⟨B, 0, none⟩) n cap)).run Try.prog w = .ok (.string (strOf g n)) w := by
  rw [run_convert_bytes_string _ 23 9 5 _ _ _ Try.underlying23 Try.underlying5 Try.underlying9]
  rw [run_bytesToString _ _ n cap ((List.range n).map fun k => ((g k).toNat : Int)) ?_]
  · rw [foldl_push_bytes]
    unfold strOf
    have e : (List.map (fun n => UInt8.ofNat n.toNat) (List.map (fun k => ((g k).toNat : Int)) (List.range n))) = (List.range n).map g := by
      rw [List.map_map]
      refine List.map_congr_left (fun k _ => ?_)
      show UInt8.ofNat ((g k).toNat : Int).toNat = g k
      rw [Int.toNat_natCast]; simp
    rw [e]
    have e2 : ByteArray.empty.data = #[] := rfl
    rw [e2, Array.empty_append]
  · have := run_loadCells_list (P := Try.prog) w ⟨B, 0, none⟩ ((List.range n).map fun k => Value.int .u8 ((g k).toNat : Int)) (fun j v hj => by
      have hjn : j < n := by
        have := (List.getElem?_eq_some_iff.1 hj).1
        simpa using this
      have e : v = .int .u8 ((g j).toNat : Int) := by
        simp [hjn] at hj
        exact hj.symm
      rw [e, Go.WideShapes.add_plain, Nat.zero_add]
      exact h j hjn)
    simp only [List.length_map, List.length_range] at this
    rw [this]
    simp [List.map_map, Function.comp_def]

theorem Row1.below {w w' : World} {B n m : Nat} {g : Nat → UInt8} (h : Row1 w B n g) (hb : Below m w w') (hm : B < m) : Row1 w' B n g := fun k hk => (hb.cell (p := ⟨B, k, none⟩) hm).trans (h k hk)
theorem Room.below {w w' : World} {B n m : Nat} (h : Room w B n) (hb : Below m w w') (hm : B < m) : Room w' B n := fun k hk => by
  obtain ⟨⟨x, hx⟩, hf⟩ := h k hk
  exact ⟨⟨x, (hb.cell (p := ⟨B, k, none⟩) hm).trans hx⟩, (hb.frozen (p := ⟨B, k, none⟩) hm).trans hf⟩

theorem info5 : (Try.prog.info? 5).map (fun i => (i.zero, i.size, i.bytes)) = some (some (.int .u8 0), 1, 1) := by kernel_rfl

theorem make40 (w : World) : ∃ O : Obj, (Instr.makeSlice 23 (.int .i64 40) (.int .i64 40)).run Try.prog w = .ok (.slice (some ⟨w.heap.size, 0, none⟩) 40 40) (w.alloc O) ∧ Room (w.alloc O) w.heap.size 40 := by
  obtain ⟨i, hi, hz0, hz1, hz2⟩ := info_parts info5
  have hr := run_make (P := Try.prog) w 23 5 i _ Try.underlying23 hi hz0 .i64 .i64 40 40 (by omega) (by omega) (by rw [hz2]; omega) (by omega)
  rw [hz1] at hr
  refine ⟨_, hr, fun j hj => ⟨?_, World.frozen?_alloc_new _ _ _ _⟩⟩
  rw [World.cell?_alloc_new]
  have hs : j < (madeCells (Value.cells (.int .u8 0)) (Int.toNat 40 * 1)).size := by rw [size_madeCells]; exact hj
  exact ⟨_, Array.getElem?_eq_getElem hs⟩

theorem set_other (w : World) (b o b' o' : Nat) (x : Value) (h : b ≠ b' ∨ o ≠ o') : (w.setCell ⟨b, o, none⟩ x).cell? ⟨b', o', none⟩ = w.cell? ⟨b', o', none⟩ := by
  refine World.cell?_setCell_other _ _ _ _ (fun e => ?_)
  injection e with e1 e2 e3
  rcases h with h | h
  · exact h e1
  · exact h e2

theorem set_room {w : World} {B n o : Nat} {x : Value} (h : Room w B n) : Room (w.setCell ⟨B, o, none⟩ x) B n := fun j hj => by
  obtain ⟨⟨y, hy⟩, hf⟩ := h j hj
  exact ⟨cell?_setCell_some hy, by rw [World.frozen?_setCell]; exact hf⟩

/-- The first k cells are g's; the next one is written. -/
theorem set_row {w : World} {B n k : Nat} {g : Nat → UInt8} {x : Int} (hr : Room w B n) (hk : k < n) (h : Row1 w B k g) (hx : x = ((g k).toNat : Int)) : Row1 (w.setCell ⟨B, k, none⟩ (.int .u8 x)) B (k + 1) g := fun j hj => by
  by_cases e : j = k
  · subst e
    obtain ⟨⟨y, hy⟩, _⟩ := hr j hk
    rw [World.cell?_setCell_same _ _ _ hy, hx]
  · rw [set_other _ _ _ _ _ _ (by omega)]
    exact h j (by omega)

/-- One byte replaced. -/
def repl (g : Nat → UInt8) (i : Nat) (c : UInt8) (j : Nat) : UInt8 := if j = i then c else g j

theorem set_repl {w : World} {B n i : Nat} {g : Nat → UInt8} {c : UInt8} (hi : i < n) (h : Row1 w B n g) : Row1 (w.setCell ⟨B, i, none⟩ (.int .u8 (c.toNat : Int))) B n (repl g i c) := fun j hj => by
  unfold repl
  by_cases e : j = i
  · subst e
    rw [if_pos rfl, World.cell?_setCell_same _ _ _ (h j hj)]
  · rw [if_neg e, set_other _ _ _ _ _ _ (by omega)]
    exact h j hj

theorem idB_repl (g : Nat → UInt8) (i : Nat) (c : UInt8) (hi : i < 40) (hg : ∀ j, j < 40 → hexB (g j) = true) : idB (strOf (repl g i c) 40).data.toList = hexB c := by
  rw [Bool.eq_iff_iff, idB_iff, ← Lib.size_eq, strOf_size]
  constructor
  · rintro ⟨_, h⟩
    have := h i hi
    rw [strOf_getD _ _ _ hi] at this
    unfold repl at this
    rwa [if_pos rfl] at this
  · intro h
    refine ⟨rfl, fun j hj => ?_⟩
    rw [strOf_getD _ _ _ hj]
    unfold repl
    split
    · exact h
    · exact hg j hj

theorem idB_row (g : Nat → UInt8) (hg : ∀ j, j < 40 → hexB (g j) = true) : idB (strOf g 40).data.toList = true := by
  rw [idB_iff, ← Lib.size_eq, strOf_size]
  exact ⟨rfl, fun j hj => by rw [strOf_getD _ _ _ hj]; exact hg j hj⟩

end Go.Proofs.Qxb6630763a

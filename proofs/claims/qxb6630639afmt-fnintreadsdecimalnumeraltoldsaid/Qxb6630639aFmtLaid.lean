import Derived.Test.Qxb6630639aFmtOpen
import Derived.Deep.DeepLaidRun
import Derived.Test.Qxb6630639aFmtTie
namespace Go.Proofs.Qxb6630639aFmt
open Go.ChangeShapes Go.WideShapes Go.ChangeAt Go.RowKit Go.Maps Go.WideMaps
open Go.ChangeMaps (open_string shut_string)
open Go.Extern.Stop Go.Stop Go.Extern

/-- A variable's cells, set. -/
def setCells (cs : Array Value) : Obj → Obj
  | .cells _ t frozen => .cells cs t frozen
  | o => o
def pow10Cells : Array Value := #[.int .u64 1, .int .u64 10, .int .u64 100, .int .u64 1000, .int .u64 10000, .int .u64 100000, .int .u64 1000000, .int .u64 10000000, .int .u64 100000000, .int .u64 1000000000, .int .u64 10000000000, .int .u64 100000000000, .int .u64 1000000000000, .int .u64 10000000000000, .int .u64 100000000000000, .int .u64 1000000000000000, .int .u64 10000000000000000, .int .u64 100000000000000000, .int .u64 1000000000000000000, .int .u64 10000000000000000000]
def tab32Cells : Array Value := #[.int .u8 0, .int .u8 1, .int .u8 28, .int .u8 2, .int .u8 29, .int .u8 14, .int .u8 24, .int .u8 3, .int .u8 30, .int .u8 22, .int .u8 20, .int .u8 15, .int .u8 25, .int .u8 17, .int .u8 4, .int .u8 8, .int .u8 31, .int .u8 27, .int .u8 13, .int .u8 23, .int .u8 21, .int .u8 19, .int .u8 16, .int .u8 7, .int .u8 26, .int .u8 12, .int .u8 18, .int .u8 6, .int .u8 11, .int .u8 5, .int .u8 10, .int .u8 9]
def tab64Cells : Array Value := #[.int .u8 0, .int .u8 1, .int .u8 56, .int .u8 2, .int .u8 57, .int .u8 49, .int .u8 28, .int .u8 3, .int .u8 61, .int .u8 58, .int .u8 42, .int .u8 50, .int .u8 38, .int .u8 29, .int .u8 17, .int .u8 4, .int .u8 62, .int .u8 47, .int .u8 59, .int .u8 36, .int .u8 45, .int .u8 43, .int .u8 51, .int .u8 22, .int .u8 53, .int .u8 39, .int .u8 33, .int .u8 30, .int .u8 24, .int .u8 18, .int .u8 12, .int .u8 5, .int .u8 63, .int .u8 55, .int .u8 48, .int .u8 27, .int .u8 60, .int .u8 41, .int .u8 37, .int .u8 16, .int .u8 46, .int .u8 35, .int .u8 44, .int .u8 21, .int .u8 52, .int .u8 32, .int .u8 23, .int .u8 11, .int .u8 54, .int .u8 26, .int .u8 40, .int .u8 15, .int .u8 34, .int .u8 20, .int .u8 31, .int .u8 10, .int .u8 25, .int .u8 14, .int .u8 19, .int .u8 9, .int .u8 13, .int .u8 8, .int .u8 7, .int .u8 6]

theorem stops : Tryf.pinned.checked.prog.stops = ["fmt.errorf"] := by kernel_rfl
theorem stopKnobs : Tryf.pinned.checked.prog.stopKnobs = [] := by kernel_rfl
theorem quiet (os : Os) : Stop.quiet Tryf.pinned.checked.prog os := by
  intro k hk
  rw [stopKnobs] at hk
  cases hk

/-- The name of the type of which the listed error variables are. -/
def errName : String := match (Rows.laid_strconv_ErrRange : DataW Unit) with
  | .iface n _ => n
  | _ => ""

theorem row52 (u : TypeId) (h : Tryf.prog.typeName? 3 u = some errName) : u = 52 := by
  refine typeName_ptr_named (P := Tryf.prog) (nm := "errors.errorString") (by kernel_rfl) (by kernel_rfl) (by decide) u ?_
  rw [h]
  exact congrArg some (by decide +kernel)

/-- What the listed variables give: both error variables hold errors; the heap holds them. -/
theorem vars_of_laid {W : World} (hL0 : laidMetH Tryf.prog Rows.fnIntRangeCutRow.laid W) : VarsOk W ∧ 2 ≤ W.heap.size := by
  have hL : laidMet Tryf.prog Rows.fnIntRangeCutRow.laid W := hL0
  obtain ⟨a1, s1, hv1, hc1, _, _⟩ := laid_sentinel (g := 1) hL.tail.tail.tail (by kernel_rfl) (by kernel_rfl) Tryf.underlying31 row52 Tryf.underlying52 Tryf.underlying54 rfl rfl Tryf.underlying9 (by kernel_rfl) (by kernel_rfl)
  obtain ⟨a0, s0, hv0, hc0, _, _⟩ := laid_sentinel (g := 0) hL.tail.tail.tail.tail (by kernel_rfl) (by kernel_rfl) Tryf.underlying31 row52 Tryf.underlying52 Tryf.underlying54 rfl rfl Tryf.underlying9 (by kernel_rfl) (by kernel_rfl)
  have g1 : W.cell? ⟨1, 0, none⟩ = some (.iface 52 (.pointer (some a1))) := by simpa using World.var?_cell (g := 1) (by kernel_rfl) hv1 0
  have g0 : W.cell? ⟨0, 0, none⟩ = some (.iface 52 (.pointer (some a0))) := by simpa using World.var?_cell (g := 0) (by kernel_rfl) hv0 0
  refine ⟨⟨⟨_, g0, Or.inr ⟨_, _, rfl⟩⟩, ⟨_, g1, Or.inr ⟨_, _, rfl⟩⟩⟩, ?_⟩
  rcases Nat.lt_or_ge 1 W.heap.size with h | h
  · exact h
  · simp [World.cell?, Array.getElem?_eq_none h] at g1

end Go.Proofs.Qxb6630639aFmt

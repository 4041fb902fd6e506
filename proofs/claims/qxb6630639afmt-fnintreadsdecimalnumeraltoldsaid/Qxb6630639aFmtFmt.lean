import Derived.Test.Qxb6630639aFmtProg
import Derived.Stop.CallBack
import Derived.Stop.IfaceNil
import GoSem.ClaimData
import Derived.WalkKit
import Derived.WalkSpells
import Derived.WalkLawsBesides
namespace Go.Proofs.Qxb6630639aFmt
open Go.RowKit Go.Extern.Stop Go.Stop Go.Extern

theorem call13 (args : Array Value) (w : World) : (callFunc 13 args).run Tryf.prog w = ((FmtStop.errorf #[9, 42] #[31] args).run Tryf.prog w).andThen fun v w' => .ok (.value v) w' :=
  run_callFunc_extern Tryf.func13 (by kernel_rfl) (by kernel_rfl) (by kernel_rfl) (by kernel_rfl) args w

theorem fguard (name : String) (w : World) : (FmtStop.guard name).run Tryf.prog w = .ok () w := by kernel_rfl

theorem fmt0 : FmtStop.printed? ⟨#[37, 115, 32, 109, 117, 115, 116, 32, 98, 101, 32, 97, 32, 119, 104, 111, 108, 101, 32, 110, 117, 109, 98, 101, 114, 32, 102, 114, 111, 109, 32, 37, 100, 32, 116, 111, 32, 37, 100, 44, 32, 110, 111, 116, 32, 37, 113]⟩ 4 = some [(0, 115, false), (1, 100, false), (2, 100, false), (3, 113, false)] := by kernel_rfl
theorem fmt0r (w : World) : (FmtDoors.printed ⟨#[37, 115, 32, 109, 117, 115, 116, 32, 98, 101, 32, 97, 32, 119, 104, 111, 108, 101, 32, 110, 117, 109, 98, 101, 114, 32, 102, 114, 111, 109, 32, 37, 100, 32, 116, 111, 32, 37, 100, 44, 32, 110, 111, 116, 32, 37, 113]⟩ 4).run Tryf.prog w = .ok [(0, 115, false), (1, 100, false), (2, 100, false), (3, 113, false)] w := by kernel_rfl

def shape9 : List UInt8 := [12, 6, 0, 0, 0, 0, 0, 0, 0, 115, 116, 114, 105, 110, 103]
theorem op9_115w (name : String) (x : ByteArray) (w : World) : (FmtStop.operand name true 115 false (.iface 9 (.string x))).run Tryf.prog w = .ok (shape9, FmtStop.pack x.data.toList) w := by kernel_rfl
theorem op9_113w (name : String) (x : ByteArray) (w : World) : (FmtStop.operand name true 113 false (.iface 9 (.string x))).run Tryf.prog w = .ok (shape9, FmtStop.pack x.data.toList) w := by kernel_rfl
def shape2 : List UInt8 := FmtStop.intCode .i64 :: FmtStop.pack "int64".toUTF8.data.toList
theorem op2_100w (name : String) (x : Int) (w : World) : (FmtStop.operand name true 100 false (.iface 2 (.int .i64 x))).run Tryf.prog w = .ok (shape2, Go.Extern.Stop.digits 8 (x % 2 ^ 64).toNat) w := by kernel_rfl
theorem ptr52 (w : World) : (FmtStop.ptrTo "errors.errorString").run Tryf.prog w = .ok 52 w := by kernel_rfl
theorem elem52 (w : World) : (elemOf 52).run Tryf.prog w = .ok 54 w := by kernel_rfl

attribute [local go_sem] call13 fguard fmt0 fmt0r op9_115w op9_113w op2_100w ptr52 elem52

/-- An error that is not nil. -/
def ErrEnd (e : Ending) : Prop := ∃ t p, e = .returned (.iface t p)

theorem errorf_any (F : Interp) (name v : ByteArray) (mn mx : Int) (blk : Nat) (w : World) (hF : F.answers w.tape)
    (hc0 : w.cell? ⟨blk, 0, none⟩ = some (.iface 9 (.string name))) (hc1 : w.cell? ⟨blk, 1, none⟩ = some (.iface 2 (.int .i64 mn))) (hc2 : w.cell? ⟨blk, 2, none⟩ = some (.iface 2 (.int .i64 mx))) (hc3 : w.cell? ⟨blk, 3, none⟩ = some (.iface 9 (.string v))) :
    Calls Tryf.prog 10 #[.string ⟨#[37, 115, 32, 109, 117, 115, 116, 32, 98, 101, 32, 97, 32, 119, 104, 111, 108, 101, 32, 110, 117, 109, 98, 101, 114, 32, 102, 114, 111, 109, 32, 37, 100, 32, 116, 111, 32, 37, 100, 44, 32, 110, 111, 116, 32, 37, 113]⟩, .slice (some ⟨blk, 0, none⟩) 4 4] w fun e w' => ErrEnd e ∧ Below w.heap.size w w' := by
  have hF' := answers_open hF
  go_enter Tryf.func10, Tryf.ntmps10
  go_wp2
  go_ret
  exact ⟨⟨_, _, rfl⟩, ((Below.refl _ _).alloc (Nat.le_refl _) _).drew⟩

/-- The same, the variadic slice just laid. -/
theorem errorf_new (F : Interp) (name v : ByteArray) (mn mx : Int) (w : World) (hF : F.answers w.tape) :
    Calls Tryf.prog 10 #[.string ⟨#[37, 115, 32, 109, 117, 115, 116, 32, 98, 101, 32, 97, 32, 119, 104, 111, 108, 101, 32, 110, 117, 109, 98, 101, 114, 32, 102, 114, 111, 109, 32, 37, 100, 32, 116, 111, 32, 37, 100, 44, 32, 110, 111, 116, 32, 37, 113]⟩, .slice (some ⟨w.heap.size, 0, none⟩) 4 4] (w.alloc (.cells #[.iface 9 (.string name), .iface 2 (.int .i64 mn), .iface 2 (.int .i64 mx), .iface 9 (.string v)] 20)) fun e w' => ErrEnd e ∧ Below w.heap.size w w' := by
  refine (errorf_any F name v mn mx w.heap.size (w.alloc (.cells #[.iface 9 (.string name), .iface 2 (.int .i64 mn), .iface 2 (.int .i64 mx), .iface 9 (.string v)] 20)) hF (by go_simp) (by go_simp) (by go_simp) (by go_simp)).mono ?_
  rintro e w' ⟨he, hb⟩
  exact ⟨he, ((Below.refl _ _).alloc (Nat.le_refl _) _).trans (hb.mono (by simp))⟩

end Go.Proofs.Qxb6630639aFmt

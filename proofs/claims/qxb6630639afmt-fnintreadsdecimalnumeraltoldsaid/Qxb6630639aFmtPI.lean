import Derived.Test.Qxb6630639aFmtShelf
import Derived.Lib.ParseIntBCases
import Derived.WalkKit
namespace Go.Proofs.Qxb6630639aFmt
open Go.RowKit

/-- The two error variables of strconv hold error values, nil or not. -/
def VarsOk (w : World) : Prop :=
  (∃ ev, w.cell? ⟨0, 0, none⟩ = some ev ∧ (ev = .nilIface ∨ ∃ te pe, ev = .iface te pe)) ∧
  (∃ ev, w.cell? ⟨1, 0, none⟩ = some ev ∧ (ev = .nilIface ∨ ∃ te pe, ev = .iface te pe))

/-- How strconv.ParseInt(s, 10, 64) ends. -/
def PIEnd (l : List UInt8) (e : Ending) : Prop :=
  (∃ n : Int, Lib.parseIntB 64 l = .ok n ∧ e = .returned (.tuple #[.int .i64 n, .nilIface])) ∨
  ((∀ n, Lib.parseIntB 64 l ≠ .ok n) ∧ ∃ (n : Int) (t : TypeId) (p : Value), e = .returned (.tuple #[.int .i64 n, .iface t p]))

theorem parseInt_any (s : ByteArray) (w : World) (hs : s.size ≤ 65536) (hv : VarsOk w) :
    Calls Tryf.prog 9 #[.string s, .int .i64 10, .int .i64 64] w fun e w' => PIEnd s.data.toList e ∧ Below w.heap.size w w' := by
  obtain ⟨⟨e0, h0, k0⟩, ⟨e1, h1, k1⟩⟩ := hv
  cases hend : Lib.parseIntB 64 s.data.toList
  · rename_i n
    refine (Any.strconv_ParseInt_10_at64_ok Tryf.laysC174 s (by omega) n hend w).mono ?_
    rintro e w' ⟨rfl, hw⟩
    refine ⟨Or.inl ⟨n, hend, rfl⟩, ?_⟩
    rcases hw with rfl | ⟨t, rfl⟩
    · exact Below.refl _ _
    · exact Lib.bytesWorld_below w 5 t
  · refine (Any.strconv_ParseInt_10_at64_syntax Tryf.laysC174 s (by omega) hend e0 w h0 k0).mono ?_
    rintro e w' ⟨N, rfl, _, _, hb⟩
    exact ⟨Or.inr ⟨fun n hn => by (rw [hend] at hn; cases hn), 0, _, _, rfl⟩, hb⟩
  · refine (Any.strconv_ParseInt_10_at64_range Tryf.laysC174 s (by omega) hend e1 w h1 k1).mono ?_
    rintro e w' ⟨N, rfl, _, _, hb⟩
    exact ⟨Or.inr ⟨fun n hn => by (rw [hend] at hn; cases hn), _, _, _, rfl⟩, hb⟩
end Go.Proofs.Qxb6630639aFmt

import Derived.Test.Qxb6630686aRows
import Derived.Test.Qxb6630686aBuild
import Derived.ProofKit
import Derived.OpenShut
import Derived.ChangeOld
import Derived.Below
import Derived.Deep.Slices
import Derived.Lib.SmallJoins
namespace Go.Proofs.Qxb6630686a
open Go.ChangeShapes Go.WideShapes Go.ChangeAt Go.RowKit

theorem own : ownKnob Try.prog.godebug = none := by kernel_rfl
theorem laidOut : laidOutB Try.prog = true := by kernel_rfl
theorem cells26 : Try.prog.cellsOf 26 = 4 := by kernel_rfl
theorem cells24 : Try.prog.cellsOf 24 = 1 := by kernel_rfl
theorem cells3 : Try.prog.cellsOf 3 = 1 := by kernel_rfl

/-- The number in a cell. -/
def numAt (w : World) (b o : Nat) : Int := match w.cell? ⟨b, o, none⟩ with
  | some (.int _ x) => x
  | _ => 0

theorem numAt_of {w : World} {b o : Nat} {k : IntKind} {x : Int} (h : w.cell? ⟨b, o, none⟩ = some (.int k x)) : w.cell? ⟨b, o, none⟩ = some (.int k (numAt w b o)) := by
  unfold numAt; rw [h]

theorem numAt_eq {w : World} {b o : Nat} {k : IntKind} {x : Int} (h : w.cell? ⟨b, o, none⟩ = some (.int k x)) : numAt w b o = x := by
  unfold numAt; rw [h]

theorem wf_u64 {x : Int} (h : (Lit.int .u64 x).wf = true) : 0 ≤ x ∧ x < 18446744073709551616 := by
  have e1 : IntKind.u64.min = 0 := rfl
  have e2 : IntKind.u64.max = 18446744073709551615 := rfl
  simp [Lit.wf, e1, e2] at h
  omega

/-- One station, read: its four cells. -/
theorem open_station {H : Type} {enc : TypeId × Value → H} {w : World} {base fuel : Nat} {spare : Nat → Bool} {held : Bool} {cs : List Value} {x : DataW H × List MemPlace} (h : DataW.trod enc Try.prog w base spare held fuel 26 cs = some x) :
    ∃ s v p q : Int, cs = [.int .i64 s, .int .u64 v, .int .i64 p, .int .i64 q] ∧ (Lit.int .u64 v).wf = true := by
  obtain ⟨y0, y1, y2, y3, n, _, hl, h0, h1, h2, h3⟩ := Go.Joins.trod_struct4 Try.underlying26 h
  rw [cells26] at hl
  simp only [cells3, cells24] at h0 h1 h2 h3
  match cs, hl with
  | [c0, c1, c2, c3], _ =>
    simp only [List.drop, List.take] at h0 h1 h2 h3
    obtain ⟨s, e0, _, _⟩ := DataW.trod_int Try.underlying3 h0
    obtain ⟨v, e1, _, wv⟩ := DataW.trod_int Try.underlying24 h1
    obtain ⟨p, e2, _, _⟩ := DataW.trod_int Try.underlying3 h2
    obtain ⟨q, e3, _, _⟩ := DataW.trod_int Try.underlying3 h3
    simp only [List.cons.injEq, and_true] at e0 e1 e2 e3
    subst e0 e1 e2 e3
    exact ⟨s, v, p, q, rfl, wv⟩

theorem open_sts {H : Type} {enc : TypeId × Value → H} {W : World} {a : Option Addr} {n cap : Nat} {d : DataW H} {ps : List MemPlace} (h : DataW.Trod enc Try.prog W 0 (fun _ => true) true 22 (.slice a n cap) d ps) :
    ∃ s v p q : Nat → Int, n ≤ maxLen ∧ IsSts W a n cap s v p q ∧ ∀ k, k < n → 0 ≤ v k ∧ v k < 18446744073709551616 := by
  obtain ⟨fuel, hf⟩ := h
  rcases Go.Deep.open_slice Try.underlying22 hf with ⟨hcs, _⟩ | ⟨ad, len, cp, m, nn, D, Pl, hcs, _, hl, hm, hmm, _, hx⟩
  · simp [Value.cells] at hcs
    obtain ⟨rfl, rfl, rfl⟩ := hcs
    exact ⟨fun _ => 0, fun _ => 0, fun _ => 0, fun _ => 0, by unfold maxLen; omega, Or.inl ⟨rfl, fun _ => rfl⟩, fun k hk => absurd hk (by omega)⟩
  · simp [Value.cells] at hcs
    obtain ⟨rfl, rfl, rfl⟩ := hcs
    simp at hmm
    subst hmm
    by_cases h0 : n = 0
    · subst h0
      exact ⟨fun _ => 0, fun _ => 0, fun _ => 0, fun _ => 0, by unfold maxLen; omega, Or.inl ⟨rfl, fun h => by cases h⟩, fun k hk => absurd hk (by omega)⟩
    · have each : ∀ i, i < n → ∃ s v p q : Int, W.cell? ((ad.add (i * 4)).add 0) = some (.int .i64 s) ∧ W.cell? ((ad.add (i * 4)).add 1) = some (.int .u64 v) ∧ W.cell? ((ad.add (i * 4)).add 2) = some (.int .i64 p) ∧ W.cell? ((ad.add (i * 4)).add 3) = some (.int .i64 q) ∧ (Lit.int .u64 v).wf = true := by
        intro i hi
        obtain ⟨cs', g1, g2⟩ := hx i (by omega)
        rw [cells26] at g1
        obtain ⟨s, v, p, q, rfl, wv⟩ := open_station g2
        obtain ⟨_, _, hc⟩ := World.cells?_some g1
        exact ⟨s, v, p, q, by simpa using hc 0 (by omega), by simpa using hc 1 (by omega), by simpa using hc 2 (by omega), by simpa using hc 3 (by omega), wv⟩
      obtain ⟨b, off, spot⟩ := ad
      have hspot : spot = none := by
        obtain ⟨s, v, p, q, c0, _⟩ := each 0 (by omega)
        simpa [Addr.add] using World.cell?_spot c0
      subst hspot
      have hb : b < W.heap.size := by
        obtain ⟨s, v, p, q, c0, _⟩ := each 0 (by omega)
        exact World.block_lt_of_cell? _ _ c0
      refine ⟨fun k => numAt W b (off + k * 4), fun k => numAt W b (off + k * 4 + 1), fun k => numAt W b (off + k * 4 + 2), fun k => numAt W b (off + k * 4 + 3), by omega, Or.inr ⟨b, off, rfl, hb, fun k hk => ?_⟩, fun k hk => ?_⟩
      · obtain ⟨s, v, p, q, c0, c1, c2, c3, _⟩ := each k hk
        simp only [add_plain, Nat.add_zero] at c0 c1 c2 c3
        exact ⟨numAt_of c0, numAt_of c1, numAt_of c2, numAt_of c3⟩
      · obtain ⟨s, v, p, q, _, c1, _, _, wv⟩ := each k hk
        simp only [add_plain] at c1
        show 0 ≤ numAt W b (off + k * 4 + 1) ∧ numAt W b (off + k * 4 + 1) < 18446744073709551616
        rw [numAt_eq c1]
        exact wf_u64 wv
end Go.Proofs.Qxb6630686a

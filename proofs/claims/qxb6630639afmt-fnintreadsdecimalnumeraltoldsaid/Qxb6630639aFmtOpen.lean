import Derived.Test.Qxb6630639aFmtRows
import Derived.Test.Qxb6630639aFmtCut
import Derived.ProofKit
import Derived.ShutString
import Derived.SliceStrings
import Derived.Maps.StringElems
import Derived.Maps.OwnSet
import Derived.Stop.JoinedAt
import Derived.Stop.JoinedTold
import Derived.Stop.LaidErr
import Derived.ChangeOld
import Derived.Below
namespace Go.Proofs.Qxb6630639aFmt
open Go.ChangeShapes Go.WideShapes Go.ChangeAt Go.RowKit Go.Maps Go.WideMaps
open Go.ChangeMaps (open_string shut_string)
open Go.Extern.Stop Go.Stop Go.Extern

theorem own : ownKnob Tryf.prog.godebug = none := by kernel_rfl
theorem laidOut : laidOutB Tryf.prog = true := by kernel_rfl
theorem law9 : Keyed Tryf.prog 9 := string_keyed Tryf.underlying9
theorem zero9 (w : World) : (zeroValue 9).run Tryf.prog w = .ok (.string ByteArray.empty) w := by kernel_rfl

theorem bytes_ext {s t : ByteArray} (h : s.data.toList = t.data.toList) : s = t := by
  cases s; cases t
  simp only at h
  rw [Array.toList_inj] at h
  rw [h]

theorem looks_nil (name : ByteArray) (hn : name.size ≤ maxLen) (W : World) : Looks none name ByteArray.empty false W := by
  have := Maps.look_nil (w := W) true law9 Tryf.underlying23 (zero9 W) (keyOf_string_mk Tryf.underlying9 hn)
  simpa [Looks] using this

theorem looks_some {H : Type} {D : DataW H} {b n : Nat} {w : World} (h : w.ownsMap Tryf.prog 9 (plainElem Tryf.prog 9) b n D) (name : ByteArray) (hn : name.size ≤ maxLen) :
    ∃ (v : ByteArray) (ok : Bool), v.size ≤ maxLen ∧ ∀ W, Below w.heap.size w W → Looks (some b) name v ok W := by
  have hk := keyOf_string_mk (P := Tryf.prog) Tryf.underlying9 hn
  have hz : plainElem (H := H) Tryf.prog 9 (.string ByteArray.empty) = some (.lit (.string ByteArray.empty.data.toList), []) := plainElem_string Tryf.underlying9 (by unfold maxLen; decide)
  have each : ∀ W, Below w.heap.size w W → ∃ s : ByteArray, s.size ≤ maxLen ∧ D.atKey (.string name.data.toList) (.lit (.string ByteArray.empty.data.toList)) = .lit (.string s.data.toList) ∧ Looks (some b) name s (Maps.has D (.string name.data.toList)) W := by
    intro W hb
    have hlt := h.lt
    obtain ⟨es, clock, hb0, F, hs, hD⟩ := h
    have hW : W.ownsMap Tryf.prog 9 (plainElem Tryf.prog 9) b n D := ⟨es, clock, (hb.block b hlt).trans hb0, F, hs, hD⟩
    obtain ⟨v, ps, hrun, hv⟩ := hW.look_ok law9 Tryf.underlying23 (zero9 W) hz hk
    obtain ⟨s, rfl, hd, hsz⟩ := plainElem_string_inv Tryf.underlying9 hv
    simp only [Prod.mk.injEq] at hd
    exact ⟨s, hsz, hd.1, hrun⟩
  obtain ⟨v, hv, hd, _⟩ := each w (Below.refl _ _)
  refine ⟨v, Maps.has D (.string name.data.toList), hv, fun W hb => ?_⟩
  obtain ⟨s, _, hd2, hl⟩ := each W hb
  rw [hd] at hd2
  injection hd2 with hd2
  injection hd2 with hd2
  rw [bytes_ext hd2]
  exact hl

theorem lenOf_nil (w : World) : LenOf none 0 w := fun ty => Maps.len_nil Tryf.underlying23 ty
theorem lenOf_some {H : Type} {D : DataW H} {b n : Nat} {w : World} (h : w.ownsMap Tryf.prog 9 (plainElem Tryf.prog 9) b n D) : LenOf (some b) (Maps.size D) w := fun ty => h.len Tryf.underlying23 ty

theorem guard_nil (name v : ByteArray) (w : World) (hn : name.size ≤ maxLen) (hv : v.size ≤ maxLen) : GuardCalls none 0 0 name v w := guard_none none 0 name v w hn hv

theorem guard_row (a : Addr) (len cap : Nat) (ss : List ByteArray) (name v : ByteArray) (w : World) (hl : len ≤ ss.length) (hm : len ≤ maxLen) (hn : name.size ≤ maxLen) (hv : v.size ≤ maxLen)
    (hc : ∀ i, i < ss.length → w.cell? (a.add i) = some (.string (ss.getD i ByteArray.empty))) : GuardCalls (some a) len cap name v w := by
  by_cases h0 : len = 0
  · subst h0
    exact guard_none (some a) cap name v w hn hv
  · obtain ⟨b, off, spot⟩ := a
    have hspot : spot = none := by simpa [Addr.add] using World.cell?_spot (hc 0 (by omega))
    subst hspot
    exact guard_some b off len cap (fun k => ss.getD k ByteArray.empty) name v w hm hn hv (fun k hk => by rw [← Go.WideShapes.add_plain]; exact hc k (by omega))

theorem start_of {H : Type} {enc : TypeId × Value → H} {W : World} {base : Nat} {v0 v1 : Value} {d0 d1 : DataW H} {p0 p1 : List MemPlace} (F : Interp) (hF : F.answers W.tape) (hvars : VarsOk W) (h2 : 2 ≤ W.heap.size)
    (k0 : Value.okWide Tryf.prog W .any base 22 v0) (k1 : Value.okWide Tryf.prog W .any base 23 v1)
    (h0 : DataW.Trod enc Tryf.prog W 0 (fun _ => true) true 22 v0 d0 p0) (h1 : DataW.Trod enc Tryf.prog W 0 (fun _ => true) true 23 v1 d1 p1) (name : ByteArray) (hn : name.size ≤ maxLen) :
    ∃ a0 len cap r v ok m, v0 = .slice a0 len cap ∧ v1 = .map r ∧ Start F a0 len cap r name v ok m W := by
  obtain ⟨a0, len, cap, rfl⟩ := okWide_slice Tryf.underlying22 k0
  obtain ⟨r, rfl⟩ := okWide_map Tryf.underlying23 k1
  obtain ⟨fuel0, hf0⟩ := h0
  obtain ⟨fuel1, hf1⟩ := h1
  have hm : ∃ v ok m, v.size ≤ maxLen ∧ LenOf r m W ∧ ∀ W', Below W.heap.size W W' → Looks r name v ok W' := by
    rcases Go.WideElems.open_map Tryf.underlying23 hf1 with ⟨hcs, _⟩ | ⟨bm, es, clock, n, _, hcs, hb, _, Ft, _⟩
    · simp [Value.cells] at hcs
      subst hcs
      exact ⟨ByteArray.empty, false, 0, by unfold maxLen; decide, lenOf_nil W, fun W' _ => looks_nil name hn W'⟩
    · simp [Value.cells] at hcs
      subst hcs
      have hown := World.ownsMap_of_fit (R := plainElem Tryf.prog 9) hb Ft (fun x _ z hz => elemAt_plainElem_string Tryf.underlying9 hz)
      obtain ⟨v, ok, hv, hl⟩ := looks_some hown name hn
      exact ⟨v, ok, _, hv, lenOf_some hown, hl⟩
  obtain ⟨v, ok, m, hv, hlen, hlook⟩ := hm
  have hg : GuardCalls a0 len cap name v W := by
    rcases open_strings Tryf.underlying22 Tryf.underlying9 (by kernel_rfl) hf0 with ⟨hcs, _⟩ | ⟨a, l, c, ss, hcs, _, hl, hmx, hz, _, hcell, _⟩
    · simp [Value.cells] at hcs
      obtain ⟨rfl, rfl, rfl⟩ := hcs
      exact guard_nil name v W hn hv
    · simp [Value.cells] at hcs
      obtain ⟨rfl, rfl, rfl⟩ := hcs
      simp at hz
      exact guard_row a len cap ss name v W (by omega) (by omega) hn hv hcell
  exact ⟨a0, len, cap, r, v, ok, m, rfl, rfl, ⟨hF, h2, hvars, hlen, hg, hlook⟩⟩

end Go.Proofs.Qxb6630639aFmt

import Derived.Test.Qxb6630763aRows
import Derived.Test.Qxb6630763aOne
import Derived.ProofKit
import Derived.OpenShut
import Derived.ChangeOld
import Derived.Below
import Derived.Carry
namespace Go.Proofs.Qxb6630763a
open Go.ChangeShapes Go.WideShapes Go.ChangeAt Go.RowKit

theorem ownOne : ownKnob Try.prog.godebug = none := by kernel_rfl
theorem laidOut : laidOutB Try.prog = true := by kernel_rfl
theorem cells25 : Try.prog.cellsOf 25 = 20 := by kernel_rfl
theorem cells5 : Try.prog.cellsOf 5 = 1 := by kernel_rfl

theorem okWide_row {P : Program} {w : World} {r : Reach} {base n : Nat} {t e : TypeId} {v : Value} (ht : P.underlying t = some (.array n e)) (h : Value.okWide P w r base t v) : ∃ cs, v = .agg cs ∧ cs.size = P.cellsOf t := by
  simp only [Value.okWide, ht] at h
  obtain ⟨cs, h1, h2, _⟩ := h
  exact ⟨cs, h1, h2⟩

/-- The byte at a place of the array. -/
def byteAt (vs : Array Value) (k : Nat) : UInt8 := match vs[k]? with
  | some (.int _ x) => UInt8.ofNat x.toNat
  | _ => 0

theorem u8_wf {x : Int} (h : (Lit.int .u8 x).wf = true) : ((UInt8.ofNat x.toNat).toNat : Int) = x := by
  have hb := bounds_u8 h
  have e : (UInt8.ofNat x.toNat).toNat = x.toNat := UInt8.toNat_ofNat_of_lt (by show x.toNat < 256; omega)
  rw [e]; omega

theorem open_row {H : Type} {enc : TypeId × Value → H} {W : World} {base : Nat} {spare : Nat → Bool} {held : Bool} {vs : Array Value} {d : DataW H} {ps : List MemPlace} (h : DataW.Trod enc Try.prog W base spare held 25 (.agg vs) d ps) :
    ∀ k, k < 20 → vs[k]? = some (.int .u8 ((byteAt vs k).toNat : Int)) := by
  obtain ⟨fuel, hf⟩ := h
  obtain ⟨xs, m, _, _, _, hl, hel⟩ := DataW.trod_array Try.underlying25 hf
  intro k hk
  have hE := hel k hk
  rw [cells5, Nat.mul_one, List.getElem?_eq_getElem (by omega)] at hE
  obtain ⟨z, e1, _, wz⟩ := DataW.trod_int Try.underlying5 hE
  have h0 : (((Value.cells (.agg vs)).toList.drop k).take 1)[0]? = some (.int .u8 z) := by rw [e1]; rfl
  have h1 : vs[k]? = some (.int .u8 z) := by simpa [Value.cells] using h0
  rw [h1]
  unfold byteAt
  rw [h1]
  simp only
  rw [u8_wf wz]

theorem one_any (g : Nat → UInt8) (vs : Array Value) (i c : Int) (w : World) (hn : vs.size = 20) (hg : ∀ k, k < 20 → vs[k]? = some (.int .u8 ((g k).toNat : Int))) (hc : (Lit.int .u8 c).wf = true) : Calls Try.prog 4 #[.agg vs, .int .i64 i, .int .u8 c] w (LawEnd w) := by
  by_cases hi : i < 0 ∨ 40 ≤ i
  · exact one_out vs i c w hi
  · obtain ⟨k, rfl⟩ : ∃ k : Nat, i = k := ⟨i.toNat, by omega⟩
    rw [← u8_wf hc]
    exact one_main g vs k _ w (by omega) hn hg

set_option maxRecDepth 100000 in
theorem one_lifted (os : Os) (started : os.Started) (H : Type) (enc : TypeId × Value → H) :
    ReturnsInHanded {} Try.checked os 4 .any (Rows.fnIsIDAcceptsEncodingOneCharDecidesSpec.pre6 enc Try.prog Try.f4 Rows.fnIsIDAcceptsEncodingOneCharDecidesRow.domain false) (Rows.fnIsIDAcceptsEncodingOneCharDecidesSpec.post enc Try.prog Try.f4 false true false false) := by
  refine returnsInHanded_of_change (C := Try.checked) ownOne started (by kernel_rfl) Try.func4
    (ChangeSpec.witness6 (enc := enc) (C := Try.checked) false ⟨#[], #[.agg #[.int .u8 0, .int .u8 0, .int .u8 0, .int .u8 0, .int .u8 0, .int .u8 0, .int .u8 0, .int .u8 0, .int .u8 0, .int .u8 0, .int .u8 0, .int .u8 0, .int .u8 0, .int .u8 0, .int .u8 0, .int .u8 0, .int .u8 0, .int .u8 0, .int .u8 0, .int .u8 0], .int .i64 0, .int .u8 0], []⟩ 8 (by kernel_rfl) (by kernel_rfl) (by kernel_rfl) (by kernel_rfl)) ?_
  intro W base args ds gs before hval0 hW hcnd _
  have hval : ∀ (j : Nat) t v, Try.f4.params[j]? = some t → args[j]? = some v → Value.okWide Try.prog W .any base t v := hval0
  have hW' := hW
  obtain ⟨p, q, hA0, hV, rfl, hfz, hnd⟩ := hW
  have hA : DataW.TrodAll enc Try.prog W 0 (fun _ => true) true Try.f4.params.toList args.toList ds p := hA0
  rw [Try.params4] at hA hval
  obtain ⟨v0, vs0, d0, ds0, p0, q0, hargs, rfl, rfl, h0, r0⟩ := trodAll_cons hA
  obtain ⟨v1, vs1, d1, ds1, p1, q1, rfl, rfl, rfl, h1, r1⟩ := trodAll_cons r0
  obtain ⟨v2, vs2, d2, ds2, p2, q2, rfl, rfl, rfl, h2, r2⟩ := trodAll_cons r1
  obtain ⟨rfl, rfl, rfl⟩ := trodAll_nil r2
  obtain rfl : args = #[v0, v1, v2] := by cases args; simp_all
  obtain ⟨rfl, rfl⟩ := trodVars_none hV
  obtain ⟨vs, rfl, hsz⟩ := okWide_row Try.underlying25 (hval 0 25 v0 rfl rfl)
  rw [cells25] at hsz
  obtain ⟨a1, rfl, rfl, rfl, w1⟩ := open_int Try.underlying3 (hval 1 3 v1 rfl rfl) h1
  obtain ⟨a2, rfl, rfl, rfl, w2⟩ := open_int Try.underlying5 (hval 2 5 v2 rfl rfl) h2
  have lt0 : ∀ x ∈ p0, x.block < W.heap.size := by obtain ⟨m, hm⟩ := h0; exact DataW.trod_lt m _ _ _ hm
  clear hA0 hval0
  refine (one_any (byteAt vs) vs a1 a2 W hsz (open_row h0) w2).mono fun e W' ⟨he, bel⟩ => ?_
  subst he
  exact ⟨_, rfl, _, _, _, [], _, [], hW', trodAll_mk1 (shut_bool Try.underlying4 _), (trodAll_cons_mk (Below.trod laidOut (by kernel_rfl) (of_decide_eq_true (by kernel_rfl)) h0 bel lt0) (trodAll_cons_mk (shut_int Try.underlying3 w1) (trodAll_cons_mk (shut_int Try.underlying5 w2) trodAll_mk0))), rfl, bel.frame _, fun h => by cases h⟩

theorem one_proved : Rows.FnIsIDAcceptsEncodingOneCharDecidesSaid :=
  OpenClaim.holds_of_wide 4 Try.f4 rfl rfl rfl rfl rfl rfl rfl ⟨rfl, rfl, rfl, rfl, rfl⟩ rfl rfl rfl rfl rfl (by kernel_rfl) Try.func4 (by kernel_rfl)
    (of_decide_eq_true (by kernel_rfl)) (by unfold Func.isWrapper; first | (rw [if_pos (by decide +kernel)]; kernel_rfl) | (rw [if_neg (by decide +kernel)]; exact ⟨rfl, rfl⟩))
    (fun os started H enc _ => one_lifted os started H enc)
end Go.Proofs.Qxb6630763a

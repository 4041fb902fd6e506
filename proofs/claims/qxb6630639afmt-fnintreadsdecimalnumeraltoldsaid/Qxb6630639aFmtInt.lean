import Derived.Test.Qxb6630639aFmtFmt
import Derived.Test.Qxb6630639aFmtPI
namespace Go.Proofs.Qxb6630639aFmt
open Go.RowKit Go.Extern.Stop Go.Stop Go.Extern

/-- What the look-up of the name in the map gives. -/
def Looks (r : Option Nat) (name v : ByteArray) (ok : Bool) (w : World) : Prop :=
  (Instr.lookup 23 (.map r) (.string name) true).run Tryf.prog w = .ok (.tuple #[.string v, .bool ok]) w

/-- How Int ends: the parameter is absent; it spells a number in the range; anything else. -/
def IntEnd (l : List UInt8) (ok : Bool) (df mn mx : Int) (e : Ending) : Prop :=
  (ok = false ∧ e = .returned (.tuple #[.int .i64 df, .nilIface])) ∨
  (ok = true ∧ ∃ n : Int, Lib.parseIntB 64 l = .ok n ∧ mn ≤ n ∧ n ≤ mx ∧ e = .returned (.tuple #[.int .i64 n, .nilIface])) ∨
  (ok = true ∧ (∀ n, Lib.parseIntB 64 l = .ok n → n < mn ∨ mx < n) ∧ ∃ (t : TypeId) (p : Value), e = .returned (.tuple #[.int .i64 0, .iface t p]))

theorem VarsOk.below {B : Nat} {w w' : World} (h : VarsOk w) (hB : 2 ≤ B) (hb : Below B w w') : VarsOk w' := by
  obtain ⟨⟨e0, h0, k0⟩, ⟨e1, h1, k1⟩⟩ := h
  exact ⟨⟨e0, by rw [hb.cell (p := ⟨0, 0, none⟩) (by show 0 < B; omega)]; exact h0, k0⟩, ⟨e1, by rw [hb.cell (p := ⟨1, 0, none⟩) (by show 1 < B; omega)]; exact h1, k1⟩⟩

set_option maxHeartbeats 400000 in
theorem int_absent (a0 : Option Addr) (len cap : Nat) (r : Option Nat) (name v : ByteArray) (df mn mx : Int) (w : World) (hlook : ∀ o, Looks r name v false (w.alloc o)) :
    Calls Tryf.prog 7 #[.agg #[.pointer none, .slice a0 len cap, .map r], .string name, .int .i64 df, .int .i64 mn, .int .i64 mx] w fun e w' => IntEnd v.data.toList false df mn mx e ∧ Below w.heap.size w w' := by
  unfold Looks at hlook
  go_enter Tryf.func7, Tryf.ntmps7
  go_wp2
  go_ret2
  exact ⟨Or.inl ⟨rfl, rfl⟩, (Below.refl _ _).alloc (Nat.le_refl _) _⟩

set_option maxHeartbeats 400000 in
theorem int_present (F : Interp) (a0 : Option Addr) (len cap : Nat) (r : Option Nat) (name v : ByteArray) (df mn mx : Int) (w : World) (hF : F.answers w.tape) (hs : v.size ≤ 65536) (h2 : 2 ≤ w.heap.size) (hvars : VarsOk w) (hlook : ∀ o, Looks r name v true (w.alloc o)) :
    Calls Tryf.prog 7 #[.agg #[.pointer none, .slice a0 len cap, .map r], .string name, .int .i64 df, .int .i64 mn, .int .i64 mx] w fun e w' => IntEnd v.data.toList true df mn mx e ∧ Below w.heap.size w w' := by
  unfold Looks at hlook
  go_enter Tryf.func7, Tryf.ntmps7
  go_wp2_with fail
  refine (parseInt_any v _ hs (hvars.below h2 ((Below.refl _ _).alloc (Nat.le_refl _) _))).mono ?_
  rintro e w1 ⟨hend, hb1⟩
  have hb : Below w.heap.size w w1 := ((Below.refl _ _).alloc (Nat.le_refl _) _).trans (hb1.mono (by simp))
  have HF1 : Hid (F.answers w1.tape) := by show F.answers w1.tape; rw [hb.tape]; exact hF
  clear hb1 hvars hlook hs h2
  rcases hend with ⟨n, hn, rfl⟩ | ⟨hno, n, t, q, rfl⟩
  · have HN : Hid (Lib.parseIntB 64 v.data.toList = .ok n) := hn
    clear hn
    by_cases hin : mn ≤ n ∧ n ≤ mx
    · obtain ⟨h1, h2⟩ := hin
      go_wp2
      go_ret2
      exact ⟨Or.inr (Or.inl ⟨rfl, n, HN.out, h1, h2, rfl⟩), hb⟩
    · have hout : n < mn ∨ mx < n := by omega
      clear hin
      have HE : Hid (∀ m, Lib.parseIntB 64 v.data.toList = .ok m → m < mn ∨ mx < m) := by
        intro m hm
        have e := HN.out.symm.trans hm
        injection e with e
        subst e
        exact hout
      by_cases h1 : n < mn
      · go_wp2_with fail
        refine (errorf_new F name v mn mx w1 HF1.out).mono ?_
        rintro e w2 ⟨⟨t, p, rfl⟩, hb2⟩
        have hb3 : Below w.heap.size w w2 := hb.trans (hb2.mono hb.size)
        clear hb2 hb
        go_wp2
        go_ret2
        exact ⟨Or.inr (Or.inr ⟨rfl, HE.out, t, p, rfl⟩), hb3⟩
      · have h3 : mx < n := by omega
        clear hout
        go_wp2_with fail
        refine (errorf_new F name v mn mx w1 HF1.out).mono ?_
        rintro e w2 ⟨⟨t, p, rfl⟩, hb2⟩
        have hb3 : Below w.heap.size w w2 := hb.trans (hb2.mono hb.size)
        clear hb2 hb
        go_wp2
        go_ret2
        exact ⟨Or.inr (Or.inr ⟨rfl, HE.out, t, p, rfl⟩), hb3⟩
  · have HE : Hid (∀ m, Lib.parseIntB 64 v.data.toList = .ok m → m < mn ∨ mx < m) := fun m hm => absurd hm (hno m)
    clear hno
    go_wp2_with fail
    refine (errorf_new F name v mn mx w1 HF1.out).mono ?_
    rintro e w2 ⟨⟨t, p, rfl⟩, hb2⟩
    have hb3 : Below w.heap.size w w2 := hb.trans (hb2.mono hb.size)
    clear hb2 hb
    go_wp2
    go_ret2
    exact ⟨Or.inr (Or.inr ⟨rfl, HE.out, t, p, rfl⟩), hb3⟩

theorem int_any (F : Interp) (a0 : Option Addr) (len cap : Nat) (r : Option Nat) (name v : ByteArray) (ok : Bool) (df mn mx : Int) (w : World) (hF : F.answers w.tape) (hs : v.size ≤ 65536) (h2 : 2 ≤ w.heap.size) (hvars : VarsOk w) (hlook : ∀ o, Looks r name v ok (w.alloc o)) :
    Calls Tryf.prog 7 #[.agg #[.pointer none, .slice a0 len cap, .map r], .string name, .int .i64 df, .int .i64 mn, .int .i64 mx] w fun e w' => IntEnd v.data.toList ok df mn mx e ∧ Below w.heap.size w w' := by
  cases ok with
  | false => exact int_absent a0 len cap r name v df mn mx w hlook
  | true => exact int_present F a0 len cap r name v df mn mx w hF hs h2 hvars hlook

theorem intEnd_absent {l : List UInt8} {df mn mx : Int} {e : Ending} (h : IntEnd l false df mn mx e) : e = .returned (.tuple #[.int .i64 df, .nilIface]) := by
  rcases h with ⟨_, h⟩ | ⟨h, _⟩ | ⟨h, _⟩
  · exact h
  · cases h
  · cases h

theorem intEnd_in {l : List UInt8} {df mn mx n : Int} {e : Ending} (h : IntEnd l true df mn mx e) (hn : Lib.parseIntB 64 l = .ok n) (h1 : mn ≤ n) (h2 : n ≤ mx) : e = .returned (.tuple #[.int .i64 n, .nilIface]) := by
  rcases h with ⟨h, _⟩ | ⟨_, k, hk, _, _, h⟩ | ⟨_, h, _⟩
  · cases h
  · rw [hn] at hk
    injection hk with hk
    subst hk
    exact h
  · rcases h n hn with h | h <;> omega

theorem intEnd_out {l : List UInt8} {df mn mx : Int} {e : Ending} (h : IntEnd l true df mn mx e) (hn : ∀ n, Lib.parseIntB 64 l = .ok n → n < mn ∨ mx < n) : ∃ t p, e = .returned (.tuple #[.int .i64 0, .iface t p]) := by
  rcases h with ⟨h, _⟩ | ⟨_, k, hk, h1, h2, _⟩ | ⟨_, _, t, p, h⟩
  · cases h
  · rcases hn k hk with h | h <;> omega
  · exact ⟨t, p, h⟩

end Go.Proofs.Qxb6630639aFmt

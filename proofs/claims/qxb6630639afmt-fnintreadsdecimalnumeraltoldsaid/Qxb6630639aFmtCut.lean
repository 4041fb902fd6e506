import Derived.Test.Qxb6630639aFmtInt
import Derived.Test.Qxb6630639aFmtGuard
namespace Go.Proofs.Qxb6630639aFmt
open Go.RowKit Go.Extern.Stop Go.Stop Go.Extern

set_option maxHeartbeats 400000 in
theorem newInv_any (a0 : Option Addr) (len cap : Nat) (r : Option Nat) (w : World) :
    Calls Tryf.prog 6 #[.slice a0 len cap, .map r] w fun e w' => e = .returned (.agg #[.pointer none, .slice a0 len cap, .map r]) ∧ w' = w.alloc (.cells #[.pointer none, .slice a0 len cap, .map r] 28) := by
  go_enter Tryf.func6, Tryf.ntmps6
  go_wp2
  exact bodyPost_ret (v := .agg #[.pointer none, .slice a0 len cap, .map r]) (by simp [results, Tryf.results6, go_sem]) rfl ⟨rfl, rfl⟩

/-- The guard's contract, as a premise. -/
def GuardCalls (a0 : Option Addr) (len cap : Nat) (name v : ByteArray) (w : World) : Prop :=
  Calls Tryf.prog 5 #[.slice a0 len cap, .string name, .string v] w fun e w' => GuardEnd v.size e ∧ w' = w

/-- 'len' of the map. -/
def LenOf (r : Option Nat) (m : Int) (w : World) : Prop := ∀ ty, (Builtin.len_ #[23] ty #[.map r]).run Tryf.prog w = .ok (.int .i64 m) w

/-- The law's end. -/
def LawEnd (w : World) (e : Ending) (w' : World) : Prop := e = .returned (.bool true) ∧ Below w.heap.size w w'

/-- What a law's walk is handed of the world: the tape answers as F; the two error variables; the map's length and look-up; the guard. -/
structure Start (F : Interp) (a0 : Option Addr) (len cap : Nat) (r : Option Nat) (name v : ByteArray) (ok : Bool) (m : Int) (w : World) : Prop where
  tape : F.answers w.tape
  room : 2 ≤ w.heap.size
  vars : VarsOk w
  size : LenOf r m w
  guard : GuardCalls a0 len cap name v w
  look : ∀ W, Below w.heap.size w W → Looks r name v ok W

/-- The call of Int, in a world behind the law's own blocks. -/
theorem Start.int {F : Interp} {a0 : Option Addr} {len cap : Nat} {r : Option Nat} {name v : ByteArray} {ok : Bool} {m : Int} {w : World} (h : Start F a0 len cap r name v ok m w) (hs : v.size ≤ 65536) {W : World} (hb : Below w.heap.size w W) (df mn mx : Int) :
    Calls Tryf.prog 7 #[.agg #[.pointer none, .slice a0 len cap, .map r], .string name, .int .i64 df, .int .i64 mn, .int .i64 mx] W fun e w' => IntEnd v.data.toList ok df mn mx e ∧ Below W.heap.size W w' :=
  int_any F a0 len cap r name v ok df mn mx W (by rw [hb.tape]; exact h.tape) hs (Nat.le_trans h.room hb.size) (h.vars.below h.room hb) (fun o => h.look _ (hb.alloc hb.size o))

/-- The local that holds the invocation, kept in mind. -/
def HoldsInv (a0 : Option Addr) (len cap : Nat) (r : Option Nat) (B : Nat) (w : World) : Prop :=
  w.cell? ⟨B, 0, none⟩ = some (.pointer none) ∧ w.cell? ⟨B, 1, none⟩ = some (.slice a0 len cap) ∧ w.cell? ⟨B, 2, none⟩ = some (.map r)

theorem HoldsInv.below {a0 : Option Addr} {len cap : Nat} {r : Option Nat} {B n : Nat} {w w' : World} (h : HoldsInv a0 len cap r B w) (hb : Below n w w') (hB : B < n) : HoldsInv a0 len cap r B w' :=
  ⟨(hb.cell (p := ⟨B, 0, none⟩) hB).trans h.1, (hb.cell (p := ⟨B, 1, none⟩) hB).trans h.2.1, (hb.cell (p := ⟨B, 2, none⟩) hB).trans h.2.2⟩

theorem holdsInv_new (a0 : Option Addr) (len cap : Nat) (r : Option Nat) (w : World) (o : Obj) : HoldsInv a0 len cap r (w.heap.size + 1) ((w.alloc o).alloc (.cells #[.pointer none, .slice a0 len cap, .map r] 28)) := by
  refine ⟨?_, ?_, ?_⟩ <;> go_simp

set_option maxRecDepth 100000 in
set_option maxHeartbeats 400000 in
theorem cut_early (F : Interp) (a0 : Option Addr) (len cap : Nat) (r : Option Nat) (name v : ByteArray) (ok : Bool) (m df mn ct mx : Int) (w : World) (h : Start F a0 len cap r name v ok m w) (hs : ¬ (v.size ≤ 65536 ∧ mn ≤ ct ∧ ct < mx)) :
    Calls Tryf.prog 4 #[.slice a0 len cap, .map r, .string name, .int .i64 df, .int .i64 mn, .int .i64 ct, .int .i64 mx] w (LawEnd w) := by
  have hl0 := h.look w (Below.refl _ _)
  have hlen := h.size
  unfold Looks at hl0
  unfold LenOf at hlen
  by_cases hm : 65536 < m
  · go_enter Tryf.func4, Tryf.ntmps4
    go_wp2
    go_ret
    exact ⟨rfl, Below.refl _ _⟩
  go_enter Tryf.func4, Tryf.ntmps4
  go_wp2_with fail
  refine Calls.mono h.guard ?_
  rintro e w' ⟨⟨g, rfl, hg⟩, rfl⟩
  cases g with
  | false =>
    go_wp2
    go_ret
    exact ⟨rfl, Below.refl _ _⟩
  | true =>
    have hs2 := hg rfl
    have hs3 : ct < mn ∨ mx ≤ ct := by omega
    clear hg hs hs2
    by_cases h1 : ct < mn
    · go_wp2
      go_ret
      exact ⟨rfl, Below.refl _ _⟩
    · have h3 : mx ≤ ct := by omega
      clear hs3
      go_wp2
      go_ret
      exact ⟨rfl, Below.refl _ _⟩

set_option maxRecDepth 100000 in
set_option maxHeartbeats 1000000 in
theorem cut_absent (F : Interp) (a0 : Option Addr) (len cap : Nat) (r : Option Nat) (name v : ByteArray) (m df mn ct mx : Int) (w : World) (h : Start F a0 len cap r name v false m w) (hs : v.size ≤ 65536) (h1 : mn ≤ ct) (h3 : ct < mx) (hmx : mx ≤ 9223372036854775807) (hmn : -9223372036854775808 ≤ mn) :
    Calls Tryf.prog 4 #[.slice a0 len cap, .map r, .string name, .int .i64 df, .int .i64 mn, .int .i64 ct, .int .i64 mx] w (LawEnd w) := by
  have hl0 := h.look w (Below.refl _ _)
  have hlen := h.size
  unfold Looks at hl0
  unfold LenOf at hlen
  by_cases hm : 65536 < m
  · go_enter Tryf.func4, Tryf.ntmps4
    go_wp2
    go_ret
    exact ⟨rfl, Below.refl _ _⟩
  go_enter Tryf.func4, Tryf.ntmps4
  go_wp2_with fail
  refine Calls.mono h.guard ?_
  rintro e w' ⟨⟨g, rfl, hg⟩, rfl⟩
  cases g with
  | false =>
    go_wp2
    go_ret
    exact ⟨rfl, Below.refl _ _⟩
  | true =>
    clear hg
    go_wp2_with fail
    refine (newInv_any _ _ _ _ _).mono ?_
    rintro e w0 ⟨rfl, rfl⟩
    clear hl0 hlen
    go_wp2_with fail
    have HB0 : Hid (Below w'.heap.size w' ((w'.alloc (.cells #[.pointer none, .slice a0 len cap, .map r] 28)).alloc (.cells #[.pointer none, .slice a0 len cap, .map r] 28))) := ((Below.refl _ _).alloc (Nat.le_refl _) _).alloc (by simp) _
    refine (h.int hs HB0.out _ _ _).mono ?_
    rintro e w1 ⟨he, hb1⟩
    obtain rfl := intEnd_absent he
    have HI1 := (holdsInv_new a0 len cap r w' (.cells #[.pointer none, .slice a0 len cap, .map r] 28)).below hb1 (by simp)
    have HB1 : Hid (Below w'.heap.size w' w1) := HB0.out.trans (hb1.mono HB0.out.size)
    have hz1 : w'.heap.size + 1 < w1.heap.size := by have := hb1.size; simp at this; omega
    obtain ⟨c0, c1, c2⟩ := HI1
    clear he hb1
    go_wp2_with fail
    refine (h.int hs HB1.out _ _ _).mono ?_
    rintro e w2 ⟨he, hb2⟩
    obtain rfl := intEnd_absent he
    have HI2 := (show HoldsInv a0 len cap r (w'.heap.size + 1) w1 from ⟨c0, c1, c2⟩).below hb2 hz1
    have HB2 : Hid (Below w'.heap.size w' w2) := HB1.out.trans (hb2.mono HB1.out.size)
    clear c0 c1 c2 he hb2 hz1
    obtain ⟨c0, c1, c2⟩ := HI2
    go_wp2_with fail
    refine (h.int hs HB2.out _ _ _).mono ?_
    rintro e w3 ⟨he, hb3⟩
    obtain rfl := intEnd_absent he
    have HB3 : Hid (Below w'.heap.size w' w3) := HB2.out.trans (hb3.mono HB2.out.size)
    clear c0 c1 c2 he hb3
    go_wp2
    go_ret
    exact ⟨rfl, HB3.out⟩

set_option maxRecDepth 100000 in
set_option maxHeartbeats 1000000 in
theorem cut_low (F : Interp) (a0 : Option Addr) (len cap : Nat) (r : Option Nat) (name v : ByteArray) (n : Int) (m df mn ct mx : Int) (w : World) (h : Start F a0 len cap r name v true m w) (hs : v.size ≤ 65536) (h1 : mn ≤ ct) (h3 : ct < mx) (hmx : mx ≤ 9223372036854775807) (hmn : -9223372036854775808 ≤ mn) (HN : Hid (Lib.parseIntB 64 v.data.toList = .ok n)) (hn1 : mn ≤ n) (hn2 : n ≤ ct) :
    Calls Tryf.prog 4 #[.slice a0 len cap, .map r, .string name, .int .i64 df, .int .i64 mn, .int .i64 ct, .int .i64 mx] w (LawEnd w) := by
  have hl0 := h.look w (Below.refl _ _)
  have hlen := h.size
  unfold Looks at hl0
  unfold LenOf at hlen
  by_cases hm : 65536 < m
  · go_enter Tryf.func4, Tryf.ntmps4
    go_wp2
    go_ret
    exact ⟨rfl, Below.refl _ _⟩
  go_enter Tryf.func4, Tryf.ntmps4
  go_wp2_with fail
  refine Calls.mono h.guard ?_
  rintro e w' ⟨⟨g, rfl, hg⟩, rfl⟩
  cases g with
  | false =>
    go_wp2
    go_ret
    exact ⟨rfl, Below.refl _ _⟩
  | true =>
    clear hg
    go_wp2_with fail
    refine (newInv_any _ _ _ _ _).mono ?_
    rintro e w0 ⟨rfl, rfl⟩
    clear hl0 hlen
    go_wp2_with fail
    have HB0 : Hid (Below w'.heap.size w' ((w'.alloc (.cells #[.pointer none, .slice a0 len cap, .map r] 28)).alloc (.cells #[.pointer none, .slice a0 len cap, .map r] 28))) := ((Below.refl _ _).alloc (Nat.le_refl _) _).alloc (by simp) _
    refine (h.int hs HB0.out _ _ _).mono ?_
    rintro e w1 ⟨he, hb1⟩
    obtain rfl := intEnd_in he HN.out (by omega) (by omega)
    have HI1 := (holdsInv_new a0 len cap r w' (.cells #[.pointer none, .slice a0 len cap, .map r] 28)).below hb1 (by simp)
    have HB1 : Hid (Below w'.heap.size w' w1) := HB0.out.trans (hb1.mono HB0.out.size)
    have hz1 : w'.heap.size + 1 < w1.heap.size := by have := hb1.size; simp at this; omega
    obtain ⟨c0, c1, c2⟩ := HI1
    clear he hb1
    go_wp2_with fail
    refine (h.int hs HB1.out _ _ _).mono ?_
    rintro e w2 ⟨he, hb2⟩
    obtain rfl := intEnd_in he HN.out (by omega) (by omega)
    have HI2 := (show HoldsInv a0 len cap r (w'.heap.size + 1) w1 from ⟨c0, c1, c2⟩).below hb2 hz1
    have HB2 : Hid (Below w'.heap.size w' w2) := HB1.out.trans (hb2.mono HB1.out.size)
    clear c0 c1 c2 he hb2 hz1
    obtain ⟨c0, c1, c2⟩ := HI2
    go_wp2_with fail
    refine (h.int hs HB2.out _ _ _).mono ?_
    rintro e w3 ⟨he, hb3⟩
    obtain ⟨t3, p3, rfl⟩ := intEnd_out he (fun k hk => by have e := HN.out.symm.trans hk; injection e with e; omega)
    have HB3 : Hid (Below w'.heap.size w' w3) := HB2.out.trans (hb3.mono HB2.out.size)
    clear c0 c1 c2 he hb3
    go_wp2
    go_ret
    exact ⟨rfl, HB3.out⟩

set_option maxRecDepth 100000 in
set_option maxHeartbeats 1000000 in
theorem cut_high (F : Interp) (a0 : Option Addr) (len cap : Nat) (r : Option Nat) (name v : ByteArray) (n : Int) (m df mn ct mx : Int) (w : World) (h : Start F a0 len cap r name v true m w) (hs : v.size ≤ 65536) (h1 : mn ≤ ct) (h3 : ct < mx) (hmx : mx ≤ 9223372036854775807) (hmn : -9223372036854775808 ≤ mn) (HN : Hid (Lib.parseIntB 64 v.data.toList = .ok n)) (hn1 : ct < n) (hn2 : n ≤ mx) :
    Calls Tryf.prog 4 #[.slice a0 len cap, .map r, .string name, .int .i64 df, .int .i64 mn, .int .i64 ct, .int .i64 mx] w (LawEnd w) := by
  have hl0 := h.look w (Below.refl _ _)
  have hlen := h.size
  unfold Looks at hl0
  unfold LenOf at hlen
  by_cases hm : 65536 < m
  · go_enter Tryf.func4, Tryf.ntmps4
    go_wp2
    go_ret
    exact ⟨rfl, Below.refl _ _⟩
  go_enter Tryf.func4, Tryf.ntmps4
  go_wp2_with fail
  refine Calls.mono h.guard ?_
  rintro e w' ⟨⟨g, rfl, hg⟩, rfl⟩
  cases g with
  | false =>
    go_wp2
    go_ret
    exact ⟨rfl, Below.refl _ _⟩
  | true =>
    clear hg
    go_wp2_with fail
    refine (newInv_any _ _ _ _ _).mono ?_
    rintro e w0 ⟨rfl, rfl⟩
    clear hl0 hlen
    go_wp2_with fail
    have HB0 : Hid (Below w'.heap.size w' ((w'.alloc (.cells #[.pointer none, .slice a0 len cap, .map r] 28)).alloc (.cells #[.pointer none, .slice a0 len cap, .map r] 28))) := ((Below.refl _ _).alloc (Nat.le_refl _) _).alloc (by simp) _
    refine (h.int hs HB0.out _ _ _).mono ?_
    rintro e w1 ⟨he, hb1⟩
    obtain rfl := intEnd_in he HN.out (by omega) (by omega)
    have HI1 := (holdsInv_new a0 len cap r w' (.cells #[.pointer none, .slice a0 len cap, .map r] 28)).below hb1 (by simp)
    have HB1 : Hid (Below w'.heap.size w' w1) := HB0.out.trans (hb1.mono HB0.out.size)
    have hz1 : w'.heap.size + 1 < w1.heap.size := by have := hb1.size; simp at this; omega
    obtain ⟨c0, c1, c2⟩ := HI1
    clear he hb1
    go_wp2_with fail
    refine (h.int hs HB1.out _ _ _).mono ?_
    rintro e w2 ⟨he, hb2⟩
    obtain ⟨t2, p2, rfl⟩ := intEnd_out he (fun k hk => by have e := HN.out.symm.trans hk; injection e with e; omega)
    have HI2 := (show HoldsInv a0 len cap r (w'.heap.size + 1) w1 from ⟨c0, c1, c2⟩).below hb2 hz1
    have HB2 : Hid (Below w'.heap.size w' w2) := HB1.out.trans (hb2.mono HB1.out.size)
    clear c0 c1 c2 he hb2 hz1
    obtain ⟨c0, c1, c2⟩ := HI2
    go_wp2_with fail
    refine (h.int hs HB2.out _ _ _).mono ?_
    rintro e w3 ⟨he, hb3⟩
    obtain rfl := intEnd_in he HN.out (by omega) (by omega)
    have HB3 : Hid (Below w'.heap.size w' w3) := HB2.out.trans (hb3.mono HB2.out.size)
    clear c0 c1 c2 he hb3
    go_wp2
    go_ret
    exact ⟨rfl, HB3.out⟩

set_option maxRecDepth 100000 in
set_option maxHeartbeats 1000000 in
theorem cut_out (F : Interp) (a0 : Option Addr) (len cap : Nat) (r : Option Nat) (name v : ByteArray) (m df mn ct mx : Int) (w : World) (h : Start F a0 len cap r name v true m w) (hs : v.size ≤ 65536) (h1 : mn ≤ ct) (h3 : ct < mx) (hmx : mx ≤ 9223372036854775807) (hmn : -9223372036854775808 ≤ mn) (HN : Hid (∀ k, Lib.parseIntB 64 v.data.toList = .ok k → k < mn ∨ mx < k)) :
    Calls Tryf.prog 4 #[.slice a0 len cap, .map r, .string name, .int .i64 df, .int .i64 mn, .int .i64 ct, .int .i64 mx] w (LawEnd w) := by
  have hl0 := h.look w (Below.refl _ _)
  have hlen := h.size
  unfold Looks at hl0
  unfold LenOf at hlen
  by_cases hm : 65536 < m
  · go_enter Tryf.func4, Tryf.ntmps4
    go_wp2
    go_ret
    exact ⟨rfl, Below.refl _ _⟩
  go_enter Tryf.func4, Tryf.ntmps4
  go_wp2_with fail
  refine Calls.mono h.guard ?_
  rintro e w' ⟨⟨g, rfl, hg⟩, rfl⟩
  cases g with
  | false =>
    go_wp2
    go_ret
    exact ⟨rfl, Below.refl _ _⟩
  | true =>
    clear hg
    go_wp2_with fail
    refine (newInv_any _ _ _ _ _).mono ?_
    rintro e w0 ⟨rfl, rfl⟩
    clear hl0 hlen
    go_wp2_with fail
    have HB0 : Hid (Below w'.heap.size w' ((w'.alloc (.cells #[.pointer none, .slice a0 len cap, .map r] 28)).alloc (.cells #[.pointer none, .slice a0 len cap, .map r] 28))) := ((Below.refl _ _).alloc (Nat.le_refl _) _).alloc (by simp) _
    refine (h.int hs HB0.out _ _ _).mono ?_
    rintro e w1 ⟨he, hb1⟩
    obtain ⟨t1, p1, rfl⟩ := intEnd_out he (fun k hk => by have e := HN.out k hk; omega)
    have HI1 := (holdsInv_new a0 len cap r w' (.cells #[.pointer none, .slice a0 len cap, .map r] 28)).below hb1 (by simp)
    have HB1 : Hid (Below w'.heap.size w' w1) := HB0.out.trans (hb1.mono HB0.out.size)
    have hz1 : w'.heap.size + 1 < w1.heap.size := by have := hb1.size; simp at this; omega
    obtain ⟨c0, c1, c2⟩ := HI1
    clear he hb1
    go_wp2_with fail
    refine (h.int hs HB1.out _ _ _).mono ?_
    rintro e w2 ⟨he, hb2⟩
    obtain ⟨t2, p2, rfl⟩ := intEnd_out he (fun k hk => by have e := HN.out k hk; omega)
    have HI2 := (show HoldsInv a0 len cap r (w'.heap.size + 1) w1 from ⟨c0, c1, c2⟩).below hb2 hz1
    have HB2 : Hid (Below w'.heap.size w' w2) := HB1.out.trans (hb2.mono HB1.out.size)
    clear c0 c1 c2 he hb2 hz1
    obtain ⟨c0, c1, c2⟩ := HI2
    go_wp2_with fail
    refine (h.int hs HB2.out _ _ _).mono ?_
    rintro e w3 ⟨he, hb3⟩
    obtain ⟨t3, p3, rfl⟩ := intEnd_out he (fun k hk => by have e := HN.out k hk; omega)
    have HB3 : Hid (Below w'.heap.size w' w3) := HB2.out.trans (hb3.mono HB2.out.size)
    clear c0 c1 c2 he hb3
    go_wp2
    go_ret
    exact ⟨rfl, HB3.out⟩

/-- FnIntRangeCut answers true. -/
theorem cut_any (F : Interp) (a0 : Option Addr) (len cap : Nat) (r : Option Nat) (name v : ByteArray) (ok : Bool) (m df mn ct mx : Int) (w : World) (h : Start F a0 len cap r name v ok m w) (hmx : mx ≤ 9223372036854775807) (hmn : -9223372036854775808 ≤ mn) :
    Calls Tryf.prog 4 #[.slice a0 len cap, .map r, .string name, .int .i64 df, .int .i64 mn, .int .i64 ct, .int .i64 mx] w (LawEnd w) := by
  by_cases hs : v.size ≤ 65536 ∧ mn ≤ ct ∧ ct < mx
  · obtain ⟨hs, h1, h3⟩ := hs
    cases ok with
    | false => exact cut_absent F a0 len cap r name v m df mn ct mx w h hs h1 h3 hmx hmn
    | true =>
      by_cases hp : ∃ n, Lib.parseIntB 64 v.data.toList = .ok n ∧ mn ≤ n ∧ n ≤ mx
      · obtain ⟨n, hn, g1, g2⟩ := hp
        by_cases g3 : n ≤ ct
        · exact cut_low F a0 len cap r name v n m df mn ct mx w h hs h1 h3 hmx hmn hn g1 g3
        · exact cut_high F a0 len cap r name v n m df mn ct mx w h hs h1 h3 hmx hmn hn (by omega) g2
      · refine cut_out F a0 len cap r name v m df mn ct mx w h hs h1 h3 hmx hmn (fun k hk => ?_)
        by_cases g : mn ≤ k
        · by_cases g2 : k ≤ mx
          · exact absurd ⟨k, hk, g, g2⟩ hp
          · exact Or.inr (by omega)
        · exact Or.inl (by omega)
  · exact cut_early F a0 len cap r name v ok m df mn ct mx w h hs

end Go.Proofs.Qxb6630639aFmt

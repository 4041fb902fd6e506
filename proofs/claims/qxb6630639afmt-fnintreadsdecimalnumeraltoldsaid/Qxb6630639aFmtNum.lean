import Derived.Test.Qxb6630639aFmtCut
import Derived.Test.Qxb6630639aFmtParseDec
namespace Go.Proofs.Qxb6630639aFmt
open Go.RowKit Go.Extern.Stop Go.Stop Go.Extern

theorem decEnd_in {l : List UInt8} {n : Int} {e : Ending} (h : DecEnd l e) (hn : Lib.parseIntB 64 l = .ok n) : e = .returned (.tuple #[.int .i64 n, .bool true]) := by
  rcases h with ⟨v, hv, h⟩ | ⟨h, _⟩
  · rw [hn] at hv
    injection hv with hv
    subst hv
    exact h
  · exact absurd hn (h n)

theorem decEnd_out {l : List UInt8} {e : Ending} (h : DecEnd l e) (hn : ∀ n, Lib.parseIntB 64 l ≠ .ok n) : e = .returned (.tuple #[.int .i64 0, .bool false]) := by
  rcases h with ⟨v, hv, _⟩ | ⟨_, h⟩
  · exact absurd hv (hn v)
  · exact h

theorem int_bounds {l : List UInt8} {n : Int} (h : Lib.parseIntB 64 l = .ok n) : -9223372036854775808 ≤ n ∧ n ≤ 9223372036854775807 := by
  cases l with
  | nil => cases h
  | cons c r =>
    simp only [Lib.parseIntB] at h
    split at h
    · cases h
    · cases h
    · rename_i u _
      split at h
      · cases h
      · split at h
        · cases h
        · injection h with h
          subst h
          split <;> omega

set_option maxRecDepth 100000 in
set_option maxHeartbeats 400000 in
theorem num_early (F : Interp) (a0 : Option Addr) (len cap : Nat) (r : Option Nat) (name v : ByteArray) (ok : Bool) (m df mn mx : Int) (w : World) (h : Start F a0 len cap r name v ok m w) (hs : ¬ v.size ≤ 65536) :
    Calls Tryf.prog 3 #[.slice a0 len cap, .map r, .string name, .int .i64 df, .int .i64 mn, .int .i64 mx] w (LawEnd w) := by
  have hl0 := h.look w (Below.refl _ _)
  have hlen := h.size
  unfold Looks at hl0
  unfold LenOf at hlen
  by_cases hm : 65536 < m
  · go_enter Tryf.func3, Tryf.ntmps3
    go_wp2
    go_ret
    exact ⟨rfl, Below.refl _ _⟩
  go_enter Tryf.func3, Tryf.ntmps3
  go_wp2_with fail
  refine Calls.mono h.guard ?_
  rintro e w' ⟨⟨g, rfl, hg⟩, rfl⟩
  cases g with
  | false =>
    go_wp2
    go_ret
    exact ⟨rfl, Below.refl _ _⟩
  | true => exact absurd (hg rfl) hs

set_option maxRecDepth 100000 in
set_option maxHeartbeats 1000000 in
theorem num_absent (F : Interp) (a0 : Option Addr) (len cap : Nat) (r : Option Nat) (name v : ByteArray) (m df mn mx : Int) (w : World) (h : Start F a0 len cap r name v false m w) (hs : v.size ≤ 65536) :
    Calls Tryf.prog 3 #[.slice a0 len cap, .map r, .string name, .int .i64 df, .int .i64 mn, .int .i64 mx] w (LawEnd w) := by
  have hl0 := h.look w (Below.refl _ _)
  have hlen := h.size
  unfold Looks at hl0
  unfold LenOf at hlen
  by_cases hm : 65536 < m
  · go_enter Tryf.func3, Tryf.ntmps3
    go_wp2
    go_ret
    exact ⟨rfl, Below.refl _ _⟩
  go_enter Tryf.func3, Tryf.ntmps3
  go_wp2_with fail
  refine Calls.mono h.guard ?_
  rintro e w' ⟨⟨g, rfl, hg⟩, rfl⟩
  cases g with
  | false =>
    go_wp2
    go_ret
    exact ⟨rfl, Below.refl _ _⟩
  | true =>
    clear hg
    go_wp2_with fail
    refine (newInv_any _ _ _ _ _).mono ?_
    rintro e w0 ⟨rfl, rfl⟩
    clear hl0 hlen
    go_wp2_with fail
    have HB0 : Hid (Below w'.heap.size w' ((w'.alloc (.cells #[.pointer none, .slice a0 len cap, .map r] 28)).alloc (.cells #[.pointer none, .slice a0 len cap, .map r] 28))) := ((Below.refl _ _).alloc (Nat.le_refl _) _).alloc (by simp) _
    refine (h.int hs HB0.out _ _ _).mono ?_
    rintro e w1 ⟨he, hb1⟩
    obtain rfl := intEnd_absent he
    have HI1 := (holdsInv_new a0 len cap r w' (.cells #[.pointer none, .slice a0 len cap, .map r] 28)).below hb1 (by simp)
    have HB1 : Hid (Below w'.heap.size w' w1) := HB0.out.trans (hb1.mono HB0.out.size)
    have hz1 : w'.heap.size + 1 < w1.heap.size := by have := hb1.size; simp at this; omega
    obtain ⟨c0, c1, c2⟩ := HI1
    clear he hb1
    go_wp2_with fail
    refine (h.int hs HB1.out _ _ _).mono ?_
    rintro e w2 ⟨he, hb2⟩
    obtain rfl := intEnd_absent he
    have HB2 : Hid (Below w'.heap.size w' w2) := HB1.out.trans (hb2.mono HB1.out.size)
    clear c0 c1 c2 he hb2 hz1
    go_wp2
    go_ret
    exact ⟨rfl, HB2.out⟩

set_option maxRecDepth 100000 in
set_option maxHeartbeats 1000000 in
theorem num_in (F : Interp) (a0 : Option Addr) (len cap : Nat) (r : Option Nat) (name v : ByteArray) (n : Int) (m df mn mx : Int) (w : World) (h : Start F a0 len cap r name v true m w) (hs : v.size ≤ 65536) (HN : Hid (Lib.parseIntB 64 v.data.toList = .ok n)) (hn1 : -9223372036854775808 ≤ n) (hn2 : n ≤ 9223372036854775807) (h1 : mn ≤ n) (h3 : n ≤ mx) :
    Calls Tryf.prog 3 #[.slice a0 len cap, .map r, .string name, .int .i64 df, .int .i64 mn, .int .i64 mx] w (LawEnd w) := by
  have hl0 := h.look w (Below.refl _ _)
  have hlen := h.size
  unfold Looks at hl0
  unfold LenOf at hlen
  by_cases hm : 65536 < m
  · go_enter Tryf.func3, Tryf.ntmps3
    go_wp2
    go_ret
    exact ⟨rfl, Below.refl _ _⟩
  go_enter Tryf.func3, Tryf.ntmps3
  go_wp2_with fail
  refine Calls.mono h.guard ?_
  rintro e w' ⟨⟨g, rfl, hg⟩, rfl⟩
  cases g with
  | false =>
    go_wp2
    go_ret
    exact ⟨rfl, Below.refl _ _⟩
  | true =>
    clear hg
    go_wp2_with fail
    refine (newInv_any _ _ _ _ _).mono ?_
    rintro e w0 ⟨rfl, rfl⟩
    clear hl0 hlen
    go_wp2_with fail
    have HB0 : Hid (Below w'.heap.size w' ((w'.alloc (.cells #[.pointer none, .slice a0 len cap, .map r] 28)).alloc (.cells #[.pointer none, .slice a0 len cap, .map r] 28))) := ((Below.refl _ _).alloc (Nat.le_refl _) _).alloc (by simp) _
    refine (h.int hs HB0.out _ _ _).mono ?_
    rintro e w1 ⟨he, hb1⟩
    obtain rfl := intEnd_in he HN.out (by omega) (by omega)
    have HI1 := (holdsInv_new a0 len cap r w' (.cells #[.pointer none, .slice a0 len cap, .map r] 28)).below hb1 (by simp)
    have HB1 : Hid (Below w'.heap.size w' w1) := HB0.out.trans (hb1.mono HB0.out.size)
    have hz1 : w'.heap.size + 1 < w1.heap.size := by have := hb1.size; simp at this; omega
    obtain ⟨c0, c1, c2⟩ := HI1
    clear he hb1
    go_wp2_with fail
    refine (h.int hs HB1.out _ _ _).mono ?_
    rintro e w2 ⟨he, hb2⟩
    obtain rfl := intEnd_in he HN.out (by omega) (by omega)
    have HB2 : Hid (Below w'.heap.size w' w2) := HB1.out.trans (hb2.mono HB1.out.size)
    clear c0 c1 c2 he hb2 hz1
    go_wp2_with fail
    refine (dec_any v _ (by unfold maxLen; omega)).mono ?_
    rintro e w3 ⟨he, rfl⟩
    obtain rfl := decEnd_in he HN.out
    clear he
    go_wp2
    go_ret
    exact ⟨rfl, HB2.out⟩

set_option maxRecDepth 100000 in
set_option maxHeartbeats 1000000 in
theorem num_low (F : Interp) (a0 : Option Addr) (len cap : Nat) (r : Option Nat) (name v : ByteArray) (n : Int) (m df mn mx : Int) (w : World) (h : Start F a0 len cap r name v true m w) (hs : v.size ≤ 65536) (HN : Hid (Lib.parseIntB 64 v.data.toList = .ok n)) (hn1 : -9223372036854775808 ≤ n) (hn2 : n ≤ 9223372036854775807) (h1 : n < mn) :
    Calls Tryf.prog 3 #[.slice a0 len cap, .map r, .string name, .int .i64 df, .int .i64 mn, .int .i64 mx] w (LawEnd w) := by
  have hl0 := h.look w (Below.refl _ _)
  have hlen := h.size
  unfold Looks at hl0
  unfold LenOf at hlen
  by_cases hm : 65536 < m
  · go_enter Tryf.func3, Tryf.ntmps3
    go_wp2
    go_ret
    exact ⟨rfl, Below.refl _ _⟩
  go_enter Tryf.func3, Tryf.ntmps3
  go_wp2_with fail
  refine Calls.mono h.guard ?_
  rintro e w' ⟨⟨g, rfl, hg⟩, rfl⟩
  cases g with
  | false =>
    go_wp2
    go_ret
    exact ⟨rfl, Below.refl _ _⟩
  | true =>
    clear hg
    go_wp2_with fail
    refine (newInv_any _ _ _ _ _).mono ?_
    rintro e w0 ⟨rfl, rfl⟩
    clear hl0 hlen
    go_wp2_with fail
    have HB0 : Hid (Below w'.heap.size w' ((w'.alloc (.cells #[.pointer none, .slice a0 len cap, .map r] 28)).alloc (.cells #[.pointer none, .slice a0 len cap, .map r] 28))) := ((Below.refl _ _).alloc (Nat.le_refl _) _).alloc (by simp) _
    refine (h.int hs HB0.out _ _ _).mono ?_
    rintro e w1 ⟨he, hb1⟩
    obtain rfl := intEnd_in he HN.out (by omega) (by omega)
    have HI1 := (holdsInv_new a0 len cap r w' (.cells #[.pointer none, .slice a0 len cap, .map r] 28)).below hb1 (by simp)
    have HB1 : Hid (Below w'.heap.size w' w1) := HB0.out.trans (hb1.mono HB0.out.size)
    have hz1 : w'.heap.size + 1 < w1.heap.size := by have := hb1.size; simp at this; omega
    obtain ⟨c0, c1, c2⟩ := HI1
    clear he hb1
    go_wp2_with fail
    refine (h.int hs HB1.out _ _ _).mono ?_
    rintro e w2 ⟨he, hb2⟩
    obtain ⟨t2, p2, rfl⟩ := intEnd_out he (fun k hk => by have e := HN.out.symm.trans hk; injection e with e; omega)
    have HB2 : Hid (Below w'.heap.size w' w2) := HB1.out.trans (hb2.mono HB1.out.size)
    clear c0 c1 c2 he hb2 hz1
    go_wp2_with fail
    refine (dec_any v _ (by unfold maxLen; omega)).mono ?_
    rintro e w3 ⟨he, rfl⟩
    obtain rfl := decEnd_in he HN.out
    clear he
    go_wp2
    go_ret
    exact ⟨rfl, HB2.out⟩

set_option maxRecDepth 100000 in
set_option maxHeartbeats 1000000 in
theorem num_high (F : Interp) (a0 : Option Addr) (len cap : Nat) (r : Option Nat) (name v : ByteArray) (n : Int) (m df mn mx : Int) (w : World) (h : Start F a0 len cap r name v true m w) (hs : v.size ≤ 65536) (HN : Hid (Lib.parseIntB 64 v.data.toList = .ok n)) (hn1 : -9223372036854775808 ≤ n) (hn2 : n ≤ 9223372036854775807) (h1 : mn ≤ n) (h3 : mx < n) :
    Calls Tryf.prog 3 #[.slice a0 len cap, .map r, .string name, .int .i64 df, .int .i64 mn, .int .i64 mx] w (LawEnd w) := by
  have hl0 := h.look w (Below.refl _ _)
  have hlen := h.size
  unfold Looks at hl0
  unfold LenOf at hlen
  by_cases hm : 65536 < m
  · go_enter Tryf.func3, Tryf.ntmps3
    go_wp2
    go_ret
    exact ⟨rfl, Below.refl _ _⟩
  go_enter Tryf.func3, Tryf.ntmps3
  go_wp2_with fail
  refine Calls.mono h.guard ?_
  rintro e w' ⟨⟨g, rfl, hg⟩, rfl⟩
  cases g with
  | false =>
    go_wp2
    go_ret
    exact ⟨rfl, Below.refl _ _⟩
  | true =>
    clear hg
    go_wp2_with fail
    refine (newInv_any _ _ _ _ _).mono ?_
    rintro e w0 ⟨rfl, rfl⟩
    clear hl0 hlen
    go_wp2_with fail
    have HB0 : Hid (Below w'.heap.size w' ((w'.alloc (.cells #[.pointer none, .slice a0 len cap, .map r] 28)).alloc (.cells #[.pointer none, .slice a0 len cap, .map r] 28))) := ((Below.refl _ _).alloc (Nat.le_refl _) _).alloc (by simp) _
    refine (h.int hs HB0.out _ _ _).mono ?_
    rintro e w1 ⟨he, hb1⟩
    obtain rfl := intEnd_in he HN.out (by omega) (by omega)
    have HI1 := (holdsInv_new a0 len cap r w' (.cells #[.pointer none, .slice a0 len cap, .map r] 28)).below hb1 (by simp)
    have HB1 : Hid (Below w'.heap.size w' w1) := HB0.out.trans (hb1.mono HB0.out.size)
    have hz1 : w'.heap.size + 1 < w1.heap.size := by have := hb1.size; simp at this; omega
    obtain ⟨c0, c1, c2⟩ := HI1
    clear he hb1
    go_wp2_with fail
    refine (h.int hs HB1.out _ _ _).mono ?_
    rintro e w2 ⟨he, hb2⟩
    obtain ⟨t2, p2, rfl⟩ := intEnd_out he (fun k hk => by have e := HN.out.symm.trans hk; injection e with e; omega)
    have HB2 : Hid (Below w'.heap.size w' w2) := HB1.out.trans (hb2.mono HB1.out.size)
    clear c0 c1 c2 he hb2 hz1
    go_wp2_with fail
    refine (dec_any v _ (by unfold maxLen; omega)).mono ?_
    rintro e w3 ⟨he, rfl⟩
    obtain rfl := decEnd_in he HN.out
    clear he
    go_wp2
    go_ret
    exact ⟨rfl, HB2.out⟩

set_option maxRecDepth 100000 in
set_option maxHeartbeats 1000000 in
theorem num_no (F : Interp) (a0 : Option Addr) (len cap : Nat) (r : Option Nat) (name v : ByteArray) (m df mn mx : Int) (w : World) (h : Start F a0 len cap r name v true m w) (hs : v.size ≤ 65536) (HN : Hid (∀ k, Lib.parseIntB 64 v.data.toList ≠ .ok k)) :
    Calls Tryf.prog 3 #[.slice a0 len cap, .map r, .string name, .int .i64 df, .int .i64 mn, .int .i64 mx] w (LawEnd w) := by
  have hl0 := h.look w (Below.refl _ _)
  have hlen := h.size
  unfold Looks at hl0
  unfold LenOf at hlen
  by_cases hm : 65536 < m
  · go_enter Tryf.func3, Tryf.ntmps3
    go_wp2
    go_ret
    exact ⟨rfl, Below.refl _ _⟩
  go_enter Tryf.func3, Tryf.ntmps3
  go_wp2_with fail
  refine Calls.mono h.guard ?_
  rintro e w' ⟨⟨g, rfl, hg⟩, rfl⟩
  cases g with
  | false =>
    go_wp2
    go_ret
    exact ⟨rfl, Below.refl _ _⟩
  | true =>
    clear hg
    go_wp2_with fail
    refine (newInv_any _ _ _ _ _).mono ?_
    rintro e w0 ⟨rfl, rfl⟩
    clear hl0 hlen
    go_wp2_with fail
    have HB0 : Hid (Below w'.heap.size w' ((w'.alloc (.cells #[.pointer none, .slice a0 len cap, .map r] 28)).alloc (.cells #[.pointer none, .slice a0 len cap, .map r] 28))) := ((Below.refl _ _).alloc (Nat.le_refl _) _).alloc (by simp) _
    refine (h.int hs HB0.out _ _ _).mono ?_
    rintro e w1 ⟨he, hb1⟩
    obtain ⟨t1, p1, rfl⟩ := intEnd_out he (fun k hk => absurd hk (HN.out k))
    have HI1 := (holdsInv_new a0 len cap r w' (.cells #[.pointer none, .slice a0 len cap, .map r] 28)).below hb1 (by simp)
    have HB1 : Hid (Below w'.heap.size w' w1) := HB0.out.trans (hb1.mono HB0.out.size)
    have hz1 : w'.heap.size + 1 < w1.heap.size := by have := hb1.size; simp at this; omega
    obtain ⟨c0, c1, c2⟩ := HI1
    clear he hb1
    go_wp2_with fail
    refine (h.int hs HB1.out _ _ _).mono ?_
    rintro e w2 ⟨he, hb2⟩
    obtain ⟨t2, p2, rfl⟩ := intEnd_out he (fun k hk => absurd hk (HN.out k))
    have HB2 : Hid (Below w'.heap.size w' w2) := HB1.out.trans (hb2.mono HB1.out.size)
    clear c0 c1 c2 he hb2 hz1
    go_wp2_with fail
    refine (dec_any v _ (by unfold maxLen; omega)).mono ?_
    rintro e w3 ⟨he, rfl⟩
    obtain rfl := decEnd_out he HN.out
    clear he
    go_wp2
    go_ret
    exact ⟨rfl, HB2.out⟩

/-- FnIntReadsDecimalNumeral answers true. -/
theorem num_any (F : Interp) (a0 : Option Addr) (len cap : Nat) (r : Option Nat) (name v : ByteArray) (ok : Bool) (m df mn mx : Int) (w : World) (h : Start F a0 len cap r name v ok m w) :
    Calls Tryf.prog 3 #[.slice a0 len cap, .map r, .string name, .int .i64 df, .int .i64 mn, .int .i64 mx] w (LawEnd w) := by
  by_cases hs : v.size ≤ 65536
  · cases ok with
    | false => exact num_absent F a0 len cap r name v m df mn mx w h hs
    | true =>
      by_cases hp : ∃ n, Lib.parseIntB 64 v.data.toList = .ok n
      · obtain ⟨n, hn⟩ := hp
        obtain ⟨b1, b2⟩ := int_bounds hn
        by_cases g1 : mn ≤ n
        · by_cases g2 : n ≤ mx
          · exact num_in F a0 len cap r name v n m df mn mx w h hs hn b1 b2 g1 g2
          · exact num_high F a0 len cap r name v n m df mn mx w h hs hn b1 b2 g1 (by omega)
        · exact num_low F a0 len cap r name v n m df mn mx w h hs hn b1 b2 (by omega)
      · exact num_no F a0 len cap r name v m df mn mx w h hs (fun k hk => hp ⟨k, hk⟩)
  · exact num_early F a0 len cap r name v ok m df mn mx w h hs

end Go.Proofs.Qxb6630639aFmt

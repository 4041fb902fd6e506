import Derived.Lib.ParseIntBCases
namespace Go.Proofs.Qxb6630639aFmt

/-- ParseUint's loop over 64 bits. -/
def um (acc : Nat) (l : List UInt8) : Lib.NumEnd Nat := Lib.parseUintM (2 ^ 64 - 1) acc l

theorem um_nil (acc : Nat) : um acc [] = .ok acc := rfl

theorem um_mono : ∀ (l : List UInt8) (acc u : Nat), um acc l = .ok u → acc ≤ u
  | [], acc, u, h => by
    simp only [um, Lib.parseUintM] at h
    injection h with h
    omega
  | c :: r, acc, u, h => by
    unfold um at h
    simp only [Lib.parseUintM] at h
    split at h
    · split at h
      · cases h
      · split at h
        · cases h
        · have := um_mono r _ u h
          omega
    · cases h

theorem um_step (c : UInt8) (r : List UInt8) (acc : Nat) (h1 : 48 ≤ c.toNat) (h2 : c.toNat ≤ 57) (h3 : acc * 10 + (c.toNat - 48) ≤ 9223372036854775808) :
    um acc (c :: r) = um (acc * 10 + (c.toNat - 48)) r := by
  unfold um
  simp only [Lib.parseUintM]
  rw [if_pos ⟨h1, h2⟩, if_neg (by omega), if_neg (by omega)]

theorem um_big (c : UInt8) (r : List UInt8) (acc : Nat) (h3 : 9223372036854775808 < acc * 10 + (c.toNat - 48)) (u : Nat) (h : um acc (c :: r) = .ok u) : 9223372036854775808 < u := by
  unfold um at h
  simp only [Lib.parseUintM] at h
  split at h
  · split at h
    · cases h
    · split at h
      · cases h
      · have := um_mono r _ u h
        omega
  · cases h

theorem um_bad (c : UInt8) (r : List UInt8) (acc : Nat) (h : c.toNat < 48 ∨ 57 < c.toNat) (u : Nat) : um acc (c :: r) ≠ .ok u := by
  unfold um
  simp only [Lib.parseUintM]
  rw [if_neg (by omega)]
  intro h; cases h

/-- What zzParseDec reads behind the sign, and whether the sign is minus. -/
def isSign (c : UInt8) : Prop := c.toNat = 43 ∨ c.toNat = 45

theorem int_ok_pos (c : UInt8) (r l : List UInt8) (m : Nat) (hc : c.toNat ≠ 45) (hl : l = if c.toNat = 43 ∨ c.toNat = 45 then r else c :: r) (hn : l ≠ []) (hu : um 0 l = .ok m) (hm : m < 9223372036854775808) :
    Lib.parseIntB 64 (c :: r) = .ok (m : Int) := by
  simp only [Lib.parseIntB, ← hl]
  have : Lib.parseUintB 64 l = .ok m := by unfold Lib.parseUintB; rw [if_neg hn]; exact hu
  rw [this]
  simp [hc]; omega

theorem int_ok_neg (c : UInt8) (r : List UInt8) (m : Nat) (hc : c.toNat = 45) (hn : r ≠ []) (hu : um 0 r = .ok m) (hm : m ≤ 9223372036854775808) :
    Lib.parseIntB 64 (c :: r) = .ok (-(m : Int)) := by
  simp only [Lib.parseIntB]
  have : Lib.parseUintB 64 r = .ok m := by unfold Lib.parseUintB; rw [if_neg hn]; exact hu
  simp [hc, this]; omega

theorem int_no_big (c : UInt8) (r l : List UInt8) (hl : l = if c.toNat = 43 ∨ c.toNat = 45 then r else c :: r) (hu : ∀ u, um 0 l = .ok u → 9223372036854775808 < u) (v : Int) :
    Lib.parseIntB 64 (c :: r) ≠ .ok v := by
  simp only [Lib.parseIntB, ← hl]
  intro h
  split at h
  · cases h
  · cases h
  · rename_i u hm
    have hb : 9223372036854775808 < u := by
      unfold Lib.parseUintB at hm
      split at hm
      · cases hm
      · exact hu u hm
    by_cases hc : c.toNat = 45
    · rw [if_neg (by simp [hc]), if_pos ⟨hc, by omega⟩] at h; cases h
    · rw [if_pos ⟨hc, by omega⟩] at h; cases h

theorem int_no_range (c : UInt8) (r l : List UInt8) (m : Nat) (hc : c.toNat ≠ 45) (hl : l = if c.toNat = 43 ∨ c.toNat = 45 then r else c :: r) (hu : um 0 l = .ok m) (hm : 9223372036854775808 ≤ m) (v : Int) :
    Lib.parseIntB 64 (c :: r) ≠ .ok v := by
  simp only [Lib.parseIntB, ← hl]
  intro h
  split at h
  · cases h
  · cases h
  · rename_i u hm'
    have hb : u = m := by
      unfold Lib.parseUintB at hm'
      split at hm'
      · cases hm'
      · have : um 0 l = .ok u := hm'
        rw [hu] at this; injection this with this; exact this.symm
    rw [if_pos ⟨hc, by omega⟩] at h; cases h

theorem int_no_empty (c : UInt8) (hc : c.toNat = 43 ∨ c.toNat = 45) (v : Int) : Lib.parseIntB 64 [c] ≠ .ok v := by
  simp only [Lib.parseIntB, if_pos hc]
  intro h
  cases h

theorem int_no_nil (v : Int) : Lib.parseIntB 64 [] ≠ .ok v := by
  intro h
  cases h

theorem drop_at (s : ByteArray) (k : Nat) (h : k < s.size) : s.data.toList.drop k = s[k] :: s.data.toList.drop (k + 1) := by
  rw [List.drop_eq_getElem_cons (by simpa using h)]
  rfl

theorem list_cons (s : ByteArray) (h : 0 < s.size) : s.data.toList = s[0] :: s.data.toList.drop 1 := by
  have := drop_at s 0 h
  simpa using this

theorem r_bad (s : ByteArray) (k i m : Nat) (h : k < s.size) (hU : um 0 (s.data.toList.drop i) = um m (s.data.toList.drop k)) (hb : s[k].toNat < 48 ∨ 57 < s[k].toNat) (u : Nat) (hu : um 0 (s.data.toList.drop i) = .ok u) : 9223372036854775808 < u := by
  rw [hU, drop_at s k h] at hu
  exact absurd hu (um_bad _ _ _ hb u)

theorem r_big (s : ByteArray) (k i m : Nat) (h : k < s.size) (hU : um 0 (s.data.toList.drop i) = um m (s.data.toList.drop k)) (hb : 9223372036854775808 < m * 10 + (s[k].toNat - 48)) (u : Nat) (hu : um 0 (s.data.toList.drop i) = .ok u) : 9223372036854775808 < u := by
  rw [hU, drop_at s k h] at hu
  exact um_big _ _ _ hb u hu

theorem r_step (s : ByteArray) (k i m : Nat) (h : k < s.size) (hU : um 0 (s.data.toList.drop i) = um m (s.data.toList.drop k)) (h1 : 48 ≤ s[k].toNat) (h2 : s[k].toNat ≤ 57) (h3 : m * 10 + (s[k].toNat - 48) ≤ 9223372036854775808) :
    um 0 (s.data.toList.drop i) = um (m * 10 + (s[k].toNat - 48)) (s.data.toList.drop (k + 1)) := by
  rw [hU, drop_at s k h]
  exact um_step _ _ _ h1 h2 h3

theorem r_end (s : ByteArray) (k i m : Nat) (h : s.size ≤ k) (hU : um 0 (s.data.toList.drop i) = um m (s.data.toList.drop k)) : um 0 (s.data.toList.drop i) = .ok m := by
  rw [hU, List.drop_eq_nil_of_le (by simpa using h)]
  rfl

theorem drop_ne (s : ByteArray) (i : Nat) (h : i < s.size) : s.data.toList.drop i ≠ [] := by
  rw [drop_at s i h]
  simp

/-- Where the digits begin. -/
def Begins (s : ByteArray) (h0 : 0 < s.size) (i : Nat) : Prop := i = if s[0].toNat = 43 ∨ s[0].toNat = 45 then 1 else 0

theorem begins_drop (s : ByteArray) (h0 : 0 < s.size) (i : Nat) (hi : Begins s h0 i) : s.data.toList.drop i = if s[0].toNat = 43 ∨ s[0].toNat = 45 then s.data.toList.drop 1 else s[0] :: s.data.toList.drop 1 := by
  unfold Begins at hi
  by_cases h : s[0].toNat = 43 ∨ s[0].toNat = 45
  · rw [if_pos h] at hi ⊢; rw [hi]
  · rw [if_neg h] at hi ⊢; rw [hi]; exact list_cons s h0

theorem no_of (s : ByteArray) (h0 : 0 < s.size) (i : Nat) (hi : Begins s h0 i) (hu : ∀ u, um 0 (s.data.toList.drop i) = .ok u → 9223372036854775808 < u) (v : Int) : Lib.parseIntB 64 s.data.toList ≠ .ok v := by
  rw [list_cons s h0]
  exact int_no_big _ _ _ (begins_drop s h0 i hi) hu v

theorem no_range (s : ByteArray) (h0 : 0 < s.size) (i m : Nat) (hi : Begins s h0 i) (h45 : s[0].toNat ≠ 45) (hu : um 0 (s.data.toList.drop i) = .ok m) (hm : 9223372036854775808 ≤ m) (v : Int) : Lib.parseIntB 64 s.data.toList ≠ .ok v := by
  rw [list_cons s h0]
  exact int_no_range _ _ _ m h45 (begins_drop s h0 i hi) hu hm v

theorem ok_pos (s : ByteArray) (h0 : 0 < s.size) (i m : Nat) (hi : Begins s h0 i) (h45 : s[0].toNat ≠ 45) (hn : i < s.size) (hu : um 0 (s.data.toList.drop i) = .ok m) (hm : m < 9223372036854775808) : Lib.parseIntB 64 s.data.toList = .ok (m : Int) := by
  rw [list_cons s h0]
  exact int_ok_pos _ _ _ m h45 (begins_drop s h0 i hi) (drop_ne s i hn) hu hm

theorem ok_neg (s : ByteArray) (h0 : 0 < s.size) (m : Nat) (h45 : s[0].toNat = 45) (hn : 1 < s.size) (hu : um 0 (s.data.toList.drop 1) = .ok m) (hm : m ≤ 9223372036854775808) : Lib.parseIntB 64 s.data.toList = .ok (-(m : Int)) := by
  rw [list_cons s h0]
  exact int_ok_neg _ _ m h45 (drop_ne s 1 hn) hu hm

theorem no_only (s : ByteArray) (h0 : 0 < s.size) (h1 : s.size = 1) (hs : s[0].toNat = 43 ∨ s[0].toNat = 45) (v : Int) : Lib.parseIntB 64 s.data.toList ≠ .ok v := by
  rw [list_cons s h0, List.drop_eq_nil_of_le (by simpa using Nat.le_of_eq h1)]
  exact int_no_empty _ hs v

end Go.Proofs.Qxb6630639aFmt

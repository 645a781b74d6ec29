import Derived.Test.Qxb6603708aHide
namespace Go.Proofs.Qxb6603708a
open Go.RowKit
set_option linter.unusedVariables false

theorem first_in (s : ByteArray) (c : UInt8) (a : Nat) : ∀ b : Nat, (∀ j, a ≤ j → j < b → at? s j ≠ some c) ∨ ∃ k, a ≤ k ∧ k < b ∧ at? s k = some c ∧ ∀ j, a ≤ j → j < k → at? s j ≠ some c
  | 0 => .inl (fun j _ h => absurd h (by omega))
  | b + 1 => by
    rcases first_in s c a b with h | ⟨k, h1, h2, h3, h4⟩
    · by_cases hb : a ≤ b ∧ at? s b = some c
      · exact .inr ⟨b, hb.1, by omega, hb.2, h⟩
      · left
        intro j hj hjb
        by_cases e : j = b
        · subst e; intro h'; exact hb ⟨hj, h'⟩
        · exact h j hj (by omega)
    · exact .inr ⟨k, h1, by omega, h3, h4⟩
theorem last_in (s : ByteArray) (c : UInt8) : ∀ n : Nat, (∀ j, j < n → at? s j ≠ some c) ∨ ∃ e, e < n ∧ at? s e = some c ∧ ∀ j, e < j → j < n → at? s j ≠ some c
  | 0 => .inl (fun j h => absurd h (by omega))
  | n + 1 => by
    by_cases hn : at? s n = some c
    · exact .inr ⟨n, by omega, hn, fun j h1 h2 => absurd h1 (by omega)⟩
    · rcases last_in s c n with h | ⟨e, h1, h2, h3⟩
      · left; intro j hj
        by_cases e : j = n
        · subst e; exact hn
        · exact h j (by omega)
      · refine .inr ⟨e, by omega, h2, fun j hj hjn => ?_⟩
        by_cases e' : j = n
        · subst e'; exact hn
        · exact h3 j hj (by omega)
theorem at?_out (s : ByteArray) (j : Nat) (h : s.size ≤ j) : at? s j = none := at_none s j h
theorem at?_lt (s : ByteArray) (j : Nat) (c : UInt8) (h : at? s j = some c) : j < s.size := (at?_eq s j c h).1

def sl (s : ByteArray) (c : Nat) : Prop := at? s (c + 1) = some 47 ∧ at? s (c + 2) = some 47

/-- c is the first colon. -/
def FirstColon (s : ByteArray) (c : Nat) : Prop := at? s c = some 58 ∧ ∀ j, j < c → at? s j ≠ some 58
/-- e is the last at sign. -/
def LastAt (s : ByteArray) (e : Nat) : Prop := at? s e = some 64 ∧ ∀ j, e < j → at? s j ≠ some 64

theorem ib58 (s : ByteArray) (r : Int) (h : Lib.indexByte s.data.toList 58 = r) (w : World) : Calls Try.prog 15 #[.string s, .int .u8 58] w fun e w' => e = .returned (.int .i64 r) ∧ w' = w := by
  have h1 := Try.strings_IndexByte s 58 w
  have e : ((58 : Int).toNat.toUInt8) = 58 := rfl
  rw [e, h] at h1; exact h1
theorem lb64 (s : ByteArray) (hs : s.size ≤ 1048700) (r : Int) (h : Lib.lastIndexByte s 64 = r) (w : World) : Calls Try.prog 17 #[.string s, .int .u8 64] w fun e w' => e = .returned (.int .i64 r) ∧ w' = w := by
  have h1 := Try.strings_LastIndexByte s 64 (by omega) w
  rw [h] at h1; exact h1
theorem hp47 (s : ByteArray) (c : Nat) (b : Bool) (h : b = true ↔ sl s c) (w : World) : Calls Try.prog 16 #[.string (s.extract (c + 1) s.size), .string ⟨#[47, 47]⟩] w fun e w' => e = .returned (.bool b) ∧ w' = w := by
  have h1 := Try.strings_HasPrefix (s.extract (c + 1) s.size) ⟨#[47, 47]⟩ w
  have e : Lib.hasPrefix (s.extract (c + 1) s.size).data.toList (⟨#[47, 47]⟩ : ByteArray).data.toList = b := by
    have e0 : (⟨#[47, 47]⟩ : ByteArray).data.toList = [47, 47] := rfl
    rw [e0, pre2, ext_at, ext_at, Bool.eq_iff_iff, h]
    unfold sl
    constructor
    · intro hh
      simp only [Bool.and_eq_true] at hh
      obtain ⟨ha, hb⟩ := hh
      have ha' := eq_of_beq ha
      have hb' := eq_of_beq hb
      split at ha'
      · split at hb'
        · exact ⟨by simpa using ha', by simpa [Nat.add_assoc] using hb'⟩
        · cases hb'
      · cases ha'
    · rintro ⟨ha, hb⟩
      have l1 := at?_lt _ _ _ ha
      have l2 := at?_lt _ _ _ hb
      rw [if_pos (by omega), if_pos (by omega)]
      simp only [Nat.add_zero, Nat.add_assoc, Bool.and_eq_true]
      constructor
      · rw [ha]; rfl
      · show (at? s (c + 2) == some 47) = true
        rw [hb]; rfl
  rw [e] at h1; exact h1

theorem start_none (s : ByteArray) (h : ∀ j, at? s j ≠ some 58) : Start s 0 :=
  .inl ⟨rfl, fun w => ib58 s (-1) (ix_none _ _ h) w⟩
theorem start_no (s : ByteArray) (c : Nat) (h : FirstColon s c) (hsl : ¬ sl s c) : Start s 0 :=
  .inr ⟨c, at?_lt _ _ _ h.1, fun w => ib58 s c (ix_first _ _ c h.1 h.2) w, .inl ⟨rfl, fun w => hp47 s c false (by simpa using hsl) w⟩⟩
theorem start_yes (s : ByteArray) (c : Nat) (h : FirstColon s c) (hsl : sl s c) : Start s (c + 3) :=
  .inr ⟨c, at?_lt _ _ _ h.1, fun w => ib58 s c (ix_first _ _ c h.1 h.2) w, .inr ⟨rfl, at?_lt _ _ _ hsl.2, fun w => hp47 s c true (by simpa using hsl) w⟩⟩

theorem colon_ways (s : ByteArray) : (∀ j, at? s j ≠ some 58) ∨ ∃ c, FirstColon s c := by
  rcases first_in s 58 0 s.size with h | ⟨k, _, _, h3, h4⟩
  · left; intro j
    by_cases hj : j < s.size
    · exact h j (by omega) hj
    · rw [at?_out s j (by omega)]; simp
  · exact .inr ⟨k, h3, fun j hj => h4 j (by omega) hj⟩

theorem at_ways (s : ByteArray) : (∀ j, at? s j ≠ some 64) ∨ ∃ e, LastAt s e := by
  rcases last_in s 64 s.size with h | ⟨e, h1, h2, h3⟩
  · left; intro j
    by_cases hj : j < s.size
    · exact h j hj
    · rw [at?_out s j (by omega)]; simp
  · refine .inr ⟨e, h2, fun j hj => ?_⟩
    by_cases hj' : j < s.size
    · exact h3 j hj hj'
    · rw [at?_out s j (by omega)]; simp

/-- No at sign: the text as it is. -/
theorem hide_W0 (s : ByteArray) (hs : s.size ≤ 1048700) (h : ∀ j, at? s j ≠ some 64) (w : World) :
    Calls Try.prog 10 #[.string s] w fun e w' => e = .returned (.string s) ∧ ∃ n, w' = w.drewN n := by
  have hF : ∀ st, Finish s st s := fun st => .inl ⟨-1, by omega, by omega, rfl, fun w => lb64 s hs _ (last_no s h) w⟩
  rcases colon_ways s with hc | ⟨c, hc⟩
  · exact zz_any s s 0 hs (start_none s hc) (hF 0) w
  · by_cases hsl : sl s c
    · exact zz_any s s _ hs (start_yes s c hc hsl) (hF _) w
    · exact zz_any s s 0 hs (start_no s c hc hsl) (hF 0) w

/-- No colon ahead of the last at sign. -/
theorem hide_W1 (s : ByteArray) (hs : s.size ≤ 1048700) (e : Nat) (he : LastAt s e) (h : ∀ j, j < e → at? s j ≠ some 58) (w : World) :
    Calls Try.prog 10 #[.string s] w fun x w' => x = .returned (.string s) ∧ ∃ n, w' = w.drewN n := by
  have hes := at?_lt _ _ _ he.1
  have hL := fun w => lb64 s hs e (last_at s e he.1 he.2) w
  have hF0 : Finish s 0 s := .inr ⟨e, by omega, hes, hL, .inl ⟨rfl, fun w => ib58 _ _ (ix_no s 0 e 58 (fun j _ hj => h j hj)) w⟩⟩
  rcases colon_ways s with hc | ⟨c, hc⟩
  · exact zz_any s s 0 hs (start_none s hc) hF0 w
  · by_cases hsl : sl s c
    · have hce : e < c := by
        rcases Nat.lt_trichotomy c e with h1 | h1 | h1
        · exact absurd hc.1 (h c h1)
        · have h2 := hc.1
          rw [h1, he.1] at h2
          cases h2
        · exact h1
      exact zz_any s s _ hs (start_yes s c hc hsl) (.inl ⟨e, by omega, by omega, rfl, hL⟩) w
    · exact zz_any s s 0 hs (start_no s c hc hsl) hF0 w

/-- The first colon does not open the slashes. -/
theorem hide_W2 (s : ByteArray) (hs : s.size ≤ 1048700) (e c : Nat) (he : LastAt s e) (hc : FirstColon s c) (hce : c < e) (hsl : ¬ sl s c) (w : World) :
    Calls Try.prog 10 #[.string s] w fun x w' => x = .returned (.string (s.extract 0 (c + 1) ++ xs5 ++ s.extract e s.size)) ∧ ∃ n, w' = w.drewN n := by
  have hes := at?_lt _ _ _ he.1
  have hL := fun w => lb64 s hs e (last_at s e he.1 he.2) w
  refine zz_any s _ 0 hs (start_no s c hc hsl) (.inr ⟨e, by omega, hes, hL, .inr ⟨c, by omega, ?_, fun w => ib58 _ _ (ix_at s 0 e c 58 (by omega) (by simpa using hc.1) (fun j _ hj => hc.2 j (by omega))) w⟩⟩) w
  rw [Nat.zero_add]

theorem sl_far (s : ByteArray) (e c : Nat) (he : LastAt s e) (hce : c < e) (hsl : sl s c) : c + 3 ≤ e := by
  have h1 : e ≠ c + 1 := fun h => by have := he.1; rw [h, hsl.1] at this; cases this
  have h2 : e ≠ c + 2 := fun h => by have := he.1; rw [h, hsl.2] at this; cases this
  omega

theorem hide_W3 (s : ByteArray) (hs : s.size ≤ 1048700) (e c : Nat) (he : LastAt s e) (hc : FirstColon s c) (hce : c < e) (hsl : sl s c) (hno : ∀ j, c < j → j < e → at? s j ≠ some 58) (w : World) :
    Calls Try.prog 10 #[.string s] w fun x w' => x = .returned (.string s) ∧ ∃ n, w' = w.drewN n := by
  have hes := at?_lt _ _ _ he.1
  have hL := fun w => lb64 s hs e (last_at s e he.1 he.2) w
  exact zz_any s s _ hs (start_yes s c hc hsl) (.inr ⟨e, sl_far s e c he hce hsl, hes, hL, .inl ⟨rfl, fun w => ib58 _ _ (ix_no s (c + 3) e 58 (fun j h1 h2 => hno j (by omega) h2)) w⟩⟩) w

theorem hide_W4 (s : ByteArray) (hs : s.size ≤ 1048700) (e c d : Nat) (he : LastAt s e) (hc : FirstColon s c) (hsl : sl s c) (hcd : c < d) (hde : d < e) (hd : at? s d = some 58) (hno : ∀ j, c < j → j < d → at? s j ≠ some 58) (w : World) :
    Calls Try.prog 10 #[.string s] w fun x w' => x = .returned (.string (s.extract 0 (d + 1) ++ xs5 ++ s.extract e s.size)) ∧ ∃ n, w' = w.drewN n := by
  have hes := at?_lt _ _ _ he.1
  have hL := fun w => lb64 s hs e (last_at s e he.1 he.2) w
  have h1 : d ≠ c + 1 := fun h => by rw [h, hsl.1] at hd; cases hd
  have h2 : d ≠ c + 2 := fun h => by rw [h, hsl.2] at hd; cases hd
  refine zz_any s _ _ hs (start_yes s c hc hsl) (.inr ⟨e, sl_far s e c he (by omega) hsl, hes, hL, .inr ⟨d - (c + 3), by omega, ?_, fun w => ib58 _ _ (ix_at s (c + 3) e (d - (c + 3)) 58 (by omega) (by rw [show c + 3 + (d - (c + 3)) = d from by omega]; exact hd) (fun j h3 h4 => hno j (by omega) (by omega))) w⟩⟩) w
  rw [show c + 3 + (d - (c + 3)) = d from by omega]
end Go.Proofs.Qxb6603708a

import Derived.Test.Qxb6603708aRows
import Derived.Test.Qxb6603708aShelf
import Derived.WalkKit
import Derived.Below
import Derived.Deep.QuietTactic
import Derived.BigQuiet
import Derived.WalkSmall
import Derived.WalkSpells
namespace Go.Proofs.Qxb6603708a
open Go.RowKit
set_option linter.unusedVariables false

theorem byte_eq (a b : UInt8) (h : ((a.toNat : Int) == (b.toNat : Int)) = true) : a = b := by
  apply UInt8.toNat_inj.1; have h' : (a.toNat : Int) = (b.toNat : Int) := by simpa using h
  omega
theorem eqT {a b : UInt8} (h : a = b) : ((a.toNat : Int) == (b.toNat : Int)) = true := by rw [h]; simp
theorem eqF {a b : UInt8} (h : a ≠ b) : ((a.toNat : Int) == (b.toNat : Int)) = false := by
  rw [Bool.eq_false_iff]; intro hc; exact h (byte_eq a b hc)
theorem ret_bool {a b : Bool} (h : a = b) : Ending.returned (.bool a) = .returned (.bool b) := by rw [h]
theorem ret_str {a b : ByteArray} (h : a = b) : Ending.returned (.string a) = .returned (.string b) := by rw [h]

theorem ix_first : ∀ (L : List UInt8) (c : UInt8) (k : Nat), L[k]? = some c → (∀ j, j < k → L[j]? ≠ some c) → Lib.indexByte L c = k
  | [], c, k, h, _ => by simp at h
  | x :: L, c, 0, h, _ => by
    have e : x = c := by simpa using h
    simp [Lib.indexByte, e]
  | x :: L, c, k + 1, h, hn => by
    have h1 : (x == c) = false := by
      rw [Bool.eq_false_iff]; intro e; exact hn 0 (by omega) (by have := eq_of_beq e; simp [this])
    have h2 := ix_first L c k (by simpa using h) (fun j hj => by have := hn (j + 1) (by omega); simpa using this)
    have h3 : ((k : Int) == -1) = false := by simp
    show (if (x == c) = true then (0 : Int) else if (Lib.indexByte L c == -1) = true then -1 else Lib.indexByte L c + 1) = _
    rw [h1, h2, h3]; simp
theorem ix_none : ∀ (L : List UInt8) (c : UInt8), (∀ j : Nat, L[j]? ≠ some c) → Lib.indexByte L c = -1
  | [], c, _ => by simp [Lib.indexByte]
  | x :: L, c, h => by
    have h1 : (x == c) = false := by
      rw [Bool.eq_false_iff]; intro e; exact h 0 (by have := eq_of_beq e; simp [this])
    have h2 := ix_none L c (fun j => by have := h (j + 1); simpa using this)
    show (if (x == c) = true then (0 : Int) else if (Lib.indexByte L c == -1) = true then -1 else Lib.indexByte L c + 1) = _
    rw [h1, h2]; simp

theorem at_some (s : ByteArray) (j : Nat) (h : j < s.size) : s.data.toList[j]? = some s[j] := by
  rw [List.getElem?_eq_getElem (by exact h)]; rfl
theorem at_none (s : ByteArray) (j : Nat) (h : s.size ≤ j) : s.data.toList[j]? = none := by
  rw [List.getElem?_eq_none]; have : s.data.toList.length = s.size := Array.length_toList
  omega
/-- Byte j of s, or none. -/
def at? (s : ByteArray) (j : Nat) : Option UInt8 := s.data.toList[j]?
theorem at?_ne (s : ByteArray) (j : Nat) (c : UInt8) (h : at? s j ≠ some c) (hj : j < s.size) : s[j] ≠ c := by
  intro e; apply h; unfold at?; rw [at_some s j hj, e]
theorem at?_eq (s : ByteArray) (j : Nat) (c : UInt8) (h : at? s j = some c) : ∃ hj : j < s.size, s[j] = c := by
  unfold at? at h
  obtain ⟨h1, h2⟩ := List.getElem?_eq_some_iff.1 h
  exact ⟨h1, h2⟩

theorem ext_at (s : ByteArray) (a b j : Nat) : (s.extract a b).data.toList[j]? = if j < b - a then at? s (a + j) else none := by
  rw [Lib.extract_data, List.getElem?_take]
  unfold at?
  by_cases h : j < b - a
  · rw [if_pos h, if_pos h, List.getElem?_drop]
  · rw [if_neg h, if_neg h]

theorem ix_at (s : ByteArray) (a b k : Nat) (c : UInt8) (hk : k < b - a) (h : at? s (a + k) = some c) (hn : ∀ j, a ≤ j → j < a + k → at? s j ≠ some c) : Lib.indexByte (s.extract a b).data.toList c = k := by
  apply ix_first
  · rw [ext_at, if_pos hk]; exact h
  · intro j hj
    rw [ext_at]
    by_cases e : j < b - a
    · rw [if_pos e]; exact hn _ (by omega) (by omega)
    · rw [if_neg e]; simp
theorem ix_no (s : ByteArray) (a b : Nat) (c : UInt8) (hn : ∀ j, a ≤ j → j < b → at? s j ≠ some c) : Lib.indexByte (s.extract a b).data.toList c = -1 := by
  apply ix_none
  intro j
  rw [ext_at]
  by_cases e : j < b - a
  · rw [if_pos e]; exact hn _ (by omega) (by omega)
  · rw [if_neg e]; simp

theorem bang (s : ByteArray) (j : Nat) (h : j < s.size) : s.data[j]! = s[j] := getElem!_pos s.data j h
theorem last_at (s : ByteArray) (e : Nat) (h : at? s e = some 64) (hn : ∀ j, e < j → at? s j ≠ some 64) : Lib.lastIndexByte s 64 = e := by
  obtain ⟨he, h1⟩ := at?_eq s e 64 h
  rcases Lib.lastIdx_spec s 64 s.size with ⟨_, hno⟩ | ⟨i, hi, hr, hc, hlast⟩
  · exact absurd (by rw [bang s e he, h1]; rfl) (hno e he)
  · have h2 : s[i] = 64 := by
      rw [bang s i hi] at hc
      exact byte_eq _ 64 (by simpa using hc)
    have h3 : at? s i = some 64 := by unfold at?; rw [at_some s i hi, h2]
    have : i = e := by
      rcases Nat.lt_trichotomy i e with h4 | h4 | h4
      · exact absurd (by rw [bang s e he, h1]; rfl) (hlast e h4 he)
      · exact h4
      · exact absurd h3 (hn i h4)
    rw [← this]; exact hr
theorem last_no (s : ByteArray) (hn : ∀ j, at? s j ≠ some 64) : Lib.lastIndexByte s 64 = -1 := by
  rcases Lib.lastIdx_spec s 64 s.size with ⟨hr, _⟩ | ⟨i, hi, hr, hc, hlast⟩
  · exact hr
  · have h2 : s[i] = 64 := by
      rw [bang s i hi] at hc
      exact byte_eq _ 64 (by simpa using hc)
    exact absurd (by unfold at?; rw [at_some s i hi, h2]) (hn i)

theorem pre2 (L : List UInt8) : Lib.hasPrefix L [47, 47] = (L[0]? == some 47 && L[1]? == some 47) := by
  unfold Lib.hasPrefix
  match L with
  | [] => rfl
  | [a] => simp [List.isPrefixOf]
  | a :: b :: t => simp [List.isPrefixOf, Bool.beq_comm]
end Go.Proofs.Qxb6603708a

import Derived.WalkKit
namespace Go.Proofs.Qxb6603465a.P
open Go.RowKit

/-- The four bytes that go behind a backslash inside double quotes. -/
def sp (c : UInt8) : Bool := c == 34 || c == 92 || c == 36 || c == 96
def encB (dbl : Bool) (c : UInt8) : List UInt8 := if (dbl && sp c) = true then [92, c] else [c]
def enc (dbl : Bool) (l : List UInt8) : List UInt8 := l.flatMap (encB dbl)
def has (c : UInt8) (l : List UInt8) : Bool := l.contains c

theorem enc_nil (dbl : Bool) : enc dbl [] = [] := rfl
theorem enc_append (dbl : Bool) (a b : List UInt8) : enc dbl (a ++ b) = enc dbl a ++ enc dbl b := by simp [enc]
theorem enc_one (dbl : Bool) (c : UInt8) : enc dbl [c] = encB dbl c := by simp [enc]
theorem encB_le (dbl : Bool) (c : UInt8) : (encB dbl c).length ≤ 2 := by unfold encB; split <;> simp
theorem enc_le (dbl : Bool) (l : List UInt8) : (enc dbl l).length ≤ 2 * l.length := by
  induction l with
  | nil => simp [enc]
  | cons c cs ih =>
    have h1 := encB_le dbl c
    have h2 : enc dbl (c :: cs) = encB dbl c ++ enc dbl cs := by simp [enc]
    rw [h2, List.length_append, List.length_cons]; omega

theorem le_enc (dbl : Bool) (l : List UInt8) : l.length ≤ (enc dbl l).length := by
  induction l with
  | nil => simp [enc]
  | cons c cs ih =>
    have h1 : 1 ≤ (encB dbl c).length := by unfold encB; split <;> simp
    have h2 : enc dbl (c :: cs) = encB dbl c ++ enc dbl cs := by simp [enc]
    rw [h2, List.length_append, List.length_cons]; omega

theorem take_snoc (l : List UInt8) (k : Nat) (h : k < l.length) : l.take (k + 1) = l.take k ++ [l[k]] := by
  rw [List.take_succ_eq_append_getElem h]

theorem enc_step (dbl : Bool) (l : List UInt8) (k : Nat) (h : k < l.length) : enc dbl (l.take (k + 1)) = enc dbl (l.take k) ++ encB dbl l[k] := by
  rw [take_snoc l k h, enc_append, enc_one]

theorem enc_split (dbl : Bool) (l : List UInt8) (k : Nat) (h : k < l.length) : enc dbl l = enc dbl (l.take k) ++ (encB dbl l[k] ++ enc dbl (l.drop (k + 1))) := by
  rw [← List.append_assoc, ← enc_step dbl l k h, ← enc_append, List.take_append_drop]

/-- The byte at the place of the k-th: special. -/
theorem at_sp (l tail : List UInt8) (k : Nat) (h : k < l.length) (hs : sp l[k] = true) :
    (enc true l ++ tail)[(enc true (l.take k)).length]? = some 92 ∧ (enc true l ++ tail)[(enc true (l.take k)).length + 1]? = some l[k] := by
  have e : encB true l[k] = [92, l[k]] := by simp [encB, hs]
  rw [enc_split true l k h, e]
  constructor
  · rw [List.append_assoc, List.getElem?_append_right (by omega)]; simp
  · rw [List.append_assoc, List.getElem?_append_right (by omega)]; simp

theorem at_plain (dbl : Bool) (l tail : List UInt8) (k : Nat) (h : k < l.length) (hs : (dbl && sp l[k]) = false) :
    (enc dbl l ++ tail)[(enc dbl (l.take k)).length]? = some l[k] := by
  have e : encB dbl l[k] = [l[k]] := by simp [encB, hs]
  rw [enc_split dbl l k h, e, List.append_assoc, List.getElem?_append_right (by omega)]; simp

theorem at_end (dbl : Bool) (l : List UInt8) (q : UInt8) (tail : List UInt8) : (enc dbl l ++ q :: tail)[(enc dbl l).length]? = some q := by
  rw [List.getElem?_append_right (by omega)]; simp

theorem step_sp (l : List UInt8) (k : Nat) (h : k < l.length) (hs : sp l[k] = true) : (enc true (l.take (k + 1))).length = (enc true (l.take k)).length + 2 := by
  rw [enc_step true l k h]; simp [encB, hs]
theorem step_plain (dbl : Bool) (l : List UInt8) (k : Nat) (h : k < l.length) (hs : (dbl && sp l[k]) = false) : (enc dbl (l.take (k + 1))).length = (enc dbl (l.take k)).length + 1 := by
  rw [enc_step dbl l k h]; simp [encB, hs]

end Go.Proofs.Qxb6603465a.P

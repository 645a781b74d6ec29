import Derived.Test.Qxb6603466aRows
import Derived.Test.Qxb6603466aShelf
import Derived.WalkKit
import Derived.Below
import Derived.Deep.QuietTactic
import Derived.BigQuiet
import Derived.WalkSmall
import Derived.WalkSpells
namespace Go.Proofs.Qxb6603466a
open Go.RowKit

/-- A string off a list of bytes. -/
def bs (l : List UInt8) : ByteArray := ⟨l.toArray⟩
theorem bs_toList (l : List UInt8) : (bs l).data.toList = l := by simp [bs]
theorem bs_size (l : List UInt8) : (bs l).size = l.length := by show l.toArray.size = _; simp
theorem bs_back (s : ByteArray) : bs s.data.toList = s := by cases s; simp [bs]

def noSlash (l : List UInt8) : Bool := !l.contains 47

theorem byte_ne (a b : UInt8) (h : ((a.toNat : Int) == (b.toNat : Int)) = false) : a ≠ b := by
  intro e; subst e; simp at h
theorem byte_eq (a b : UInt8) (h : ((a.toNat : Int) == (b.toNat : Int)) = true) : a = b := by
  apply UInt8.toNat_inj.1; have h' : (a.toNat : Int) = (b.toNat : Int) := by simpa using h
  omega
theorem noSlash_false (s : ByteArray) (k : Nat) (h : k < s.size) (e : s[k] = 47) : noSlash s.data.toList = false := by
  have : s.data.toList.contains 47 = true := by
    rw [List.contains_iff_mem, ← e]
    show s.data[k] ∈ _
    simp
  unfold noSlash; rw [this]; rfl
theorem noSlash_true (s : ByteArray) (h : ∀ j (hj : j < s.size), s[j] ≠ 47) : noSlash s.data.toList = true := by
  have : s.data.toList.contains 47 = false := by
    rw [Bool.eq_false_iff]; intro hc
    rw [List.contains_iff_mem] at hc
    obtain ⟨i, hi, e⟩ := List.mem_iff_getElem.1 hc
    exact h i (by simpa using hi) (by rw [← e]; rfl)
  unfold noSlash; rw [this]; rfl
theorem ret_bool {a b : Bool} (h : a = b) : Ending.returned (.bool a) = .returned (.bool b) := by rw [h]

theorem zzNoSlash_any (s : ByteArray) (hs : s.size ≤ maxLen) (w : World) :
    Calls Try.prog 11 #[.string s] w fun e w' => e = .returned (.bool (noSlash s.data.toList)) ∧ w' = w := by
  unfold maxLen at hs
  go_enter Try.func11, Try.ntmps11
  go_wp2
  go_loop [3] (fun i => ∃ k : Nat, k ≤ s.size ∧ i = .int .i64 k ∧ ∀ j (hj : j < k) (h : j < s.size), s[j] ≠ 47) (fun i => s.size - (intOf i).toNat)
  case atStart => exact ⟨0, Nat.zero_le _, rfl, fun j hj => absurd hj (by omega)⟩
  case round =>
    obtain ⟨k, hk, rfl, hno⟩ := hrel
    have HN : Hid (∀ j (hj : j < k) (h : j < s.size), s[j] ≠ 47) := hno
    clear hno
    by_cases hlt : k < s.size
    · go_wp2
      · have h : ((s[k].toNat : Int) == 47) = true := by assumption
        go_ret
        exact ⟨ret_bool (noSlash_false s k hlt (byte_eq _ 47 h)).symm, rfl⟩
      · have h : ((s[k].toNat : Int) == 47) = false := by assumption
        go_round
        case rel =>
          refine ⟨k + 1, by omega, by go_num, fun j hj hjs => ?_⟩
          by_cases e : j = k
          · subst e; exact byte_ne _ 47 h
          · exact HN.out j (by omega) hjs
        case measure => simp [intOf]; omega
    · go_wp2
      go_ret
      exact ⟨ret_bool (noSlash_true s (fun j hj => HN.out j (by omega) hj)).symm, rfl⟩

theorem bytes12_any (a0 a1 : ByteArray) (w0 : a0.size ≤ maxLen) (w1 : a1.size ≤ maxLen) (w : World) :
    Calls Try.prog 12 #[.string a0, .string a1] w fun e w' => e = .returned (.bool (decide ((a0.size : Int) + (a1.size : Int) ≤ 1048576))) ∧ w' = w := by
  unfold maxLen at w0 w1
  by_cases h1 : (1048576 : Int) < a0.size
  · have h : decide ((a0.size : Int) + (a1.size : Int) ≤ 1048576) = false := by simp; omega
    rw [h]
    go_enter Try.func12, Try.ntmps12
    go_wp2
    go_ret
    exact ⟨rfl, rfl⟩
  · by_cases h2 : (1048576 : Int) < a1.size
    · have h : decide ((a0.size : Int) + (a1.size : Int) ≤ 1048576) = false := by simp; omega
      rw [h]
      go_enter Try.func12, Try.ntmps12
      go_wp2
      go_ret
      exact ⟨rfl, rfl⟩
    · by_cases h3 : (1048576 : Int) < (a0.size : Int) + (a1.size : Int)
      · have h : decide ((a0.size : Int) + (a1.size : Int) ≤ 1048576) = false := by simp; omega
        rw [h]
        go_enter Try.func12, Try.ntmps12
        go_wp2
        go_ret
        exact ⟨rfl, rfl⟩
      · have h : decide ((a0.size : Int) + (a1.size : Int) ≤ 1048576) = true := by simp; omega
        rw [h]
        go_enter Try.func12, Try.ntmps12
        go_wp2
        go_ret
        exact ⟨rfl, rfl⟩

theorem bytes13_any (a0 : ByteArray) (w0 : a0.size ≤ maxLen) (w : World) :
    Calls Try.prog 13 #[.string a0] w fun e w' => e = .returned (.bool (decide ((a0.size : Int) ≤ 1048576))) ∧ w' = w := by
  unfold maxLen at w0
  by_cases h1 : (1048576 : Int) < a0.size
  · have h : decide ((a0.size : Int) ≤ 1048576) = false := by simp; omega
    rw [h]
    go_enter Try.func13, Try.ntmps13
    go_wp2
    go_ret
    exact ⟨rfl, rfl⟩
  · have h : decide ((a0.size : Int) ≤ 1048576) = true := by simp; omega
    rw [h]
    go_enter Try.func13, Try.ntmps13
    go_wp2
    go_ret
    exact ⟨rfl, rfl⟩

theorem bytes6_any (a0 : ByteArray) (w0 : a0.size ≤ maxLen) (w : World) :
    Calls Try.prog 6 #[.string a0] w fun e w' => e = .returned (.bool (decide ((a0.size : Int) ≤ 1048576))) ∧ w' = w := by
  unfold maxLen at w0
  by_cases h1 : (1048576 : Int) < a0.size
  · have h : decide ((a0.size : Int) ≤ 1048576) = false := by simp; omega
    rw [h]
    go_enter Try.func6, Try.ntmps6
    go_wp2
    go_ret
    exact ⟨rfl, rfl⟩
  · have h : decide ((a0.size : Int) ≤ 1048576) = true := by simp; omega
    rw [h]
    go_enter Try.func6, Try.ntmps6
    go_wp2
    go_ret
    exact ⟨rfl, rfl⟩
end Go.Proofs.Qxb6603466a

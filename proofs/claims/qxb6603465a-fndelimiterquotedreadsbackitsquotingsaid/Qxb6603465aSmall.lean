import Derived.Test.Qxb6603465aRows
import Derived.Test.Qxb6603465aPlain
import Derived.WalkKit
namespace Go.Proofs.Qxb6603465a
open Go.RowKit

theorem zzBytes_any (a0 : ByteArray) (a1 : Bool) (a2 : ByteArray) (w0 : a0.size ≤ maxLen) (w2 : a2.size ≤ maxLen) (w : World) :
    Calls Try.prog 5 #[.string a0, .bool a1, .string a2] w fun e w' => e = .returned (.bool (decide ((a0.size : Int) + (a2.size : Int) ≤ 1048576))) ∧ w' = w := by
  unfold maxLen at w0 w2
  by_cases h1 : (1048576 : Int) < a0.size
  · have h : decide ((a0.size : Int) + (a2.size : Int) ≤ 1048576) = false := by simp; omega
    rw [h]
    go_enter Try.func5, Try.ntmps5
    go_wp2
    go_ret
    exact ⟨rfl, rfl⟩
  · by_cases h2 : (1048576 : Int) < a2.size
    · have h : decide ((a0.size : Int) + (a2.size : Int) ≤ 1048576) = false := by simp; omega
      rw [h]
      go_enter Try.func5, Try.ntmps5
      go_wp2
      go_ret
      exact ⟨rfl, rfl⟩
    · by_cases h3 : (1048576 : Int) < (a0.size : Int) + (a2.size : Int)
      · have h : decide ((a0.size : Int) + (a2.size : Int) ≤ 1048576) = false := by simp; omega
        rw [h]
        go_enter Try.func5, Try.ntmps5
        go_wp2
        go_ret
        exact ⟨rfl, rfl⟩
      · have h : decide ((a0.size : Int) + (a2.size : Int) ≤ 1048576) = true := by simp; omega
        rw [h]
        go_enter Try.func5, Try.ntmps5
        go_wp2
        go_ret
        exact ⟨rfl, rfl⟩

theorem byte_ne (a b : UInt8) (h : ((a.toNat : Int) == (b.toNat : Int)) = false) : a ≠ b := by
  intro e; subst e; simp at h
theorem byte_eq (a b : UInt8) (h : ((a.toNat : Int) == (b.toNat : Int)) = true) : a = b := by
  apply UInt8.toNat_inj.1; have h' : (a.toNat : Int) = (b.toNat : Int) := by simpa using h
  omega
theorem has_true (b : UInt8) (s : ByteArray) (k : Nat) (h : k < s.size) (e : s[k] = b) : P.has b s.data.toList = true := by
  unfold P.has; rw [List.contains_iff_mem, ← e]
  show s.data[k] ∈ _
  simp
theorem has_false (b : UInt8) (s : ByteArray) (h : ∀ j (hj : j < s.size), s[j] ≠ b) : P.has b s.data.toList = false := by
  unfold P.has
  rw [Bool.eq_false_iff]; intro hc
  rw [List.contains_iff_mem] at hc
  obtain ⟨i, hi, e⟩ := List.mem_iff_getElem.1 hc
  exact h i (by simpa using hi) (by rw [← e]; rfl)

theorem ret_bool {a b : Bool} (h : a = b) : Ending.returned (.bool a) = .returned (.bool b) := by rw [h]

theorem zzIn_any (b : UInt8) (s : ByteArray) (hs : s.size ≤ maxLen) (w : World) :
    Calls Try.prog 6 #[.int .u8 b.toNat, .string s] w fun e w' => e = .returned (.bool (P.has b s.data.toList)) ∧ w' = w := by
  unfold maxLen at hs
  go_enter Try.func6, Try.ntmps6
  go_wp2
  go_loop [5] (fun i => ∃ k : Nat, k ≤ s.size ∧ i = .int .i64 k ∧ ∀ j (hj : j < k) (h : j < s.size), s[j] ≠ b) (fun i => s.size - (intOf i).toNat)
  case atStart => exact ⟨0, Nat.zero_le _, rfl, fun j hj => absurd hj (by omega)⟩
  case round =>
    obtain ⟨k, hk, rfl, hno⟩ := hrel
    have HN : Hid (∀ j (hj : j < k) (h : j < s.size), s[j] ≠ b) := hno
    clear hno
    by_cases hlt : k < s.size
    · go_wp2
      · have h : ((s[k].toNat : Int) == (b.toNat : Int)) = true := by assumption
        go_ret
        exact ⟨ret_bool (has_true b s k hlt (byte_eq _ _ h)).symm, rfl⟩
      · have h : ((s[k].toNat : Int) == (b.toNat : Int)) = false := by assumption
        go_round
        case rel =>
          refine ⟨k + 1, by omega, by go_num, fun j hj hjs => ?_⟩
          by_cases e : j = k
          · subst e; exact byte_ne _ _ h
          · exact HN.out j (by omega) hjs
        case measure => simp [intOf]; omega
    · go_wp2
      go_ret
      exact ⟨ret_bool (has_false b s (fun j hj => HN.out j (by omega) hj)).symm, rfl⟩
end Go.Proofs.Qxb6603465a

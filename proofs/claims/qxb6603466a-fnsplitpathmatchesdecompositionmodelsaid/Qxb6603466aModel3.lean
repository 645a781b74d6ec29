import Derived.Test.Qxb6603466aModel2
namespace Go.Proofs.Qxb6603466a
open Go.RowKit
set_option linter.unusedVariables false

theorem model_A (s : ByteArray) (hs : s.size ≤ 1048576) (hapi : hasAt s.data.toList 0 api = false) (w : World) :
    Calls Try.prog 8 #[.string s] w fun e w' => e = .returned (.tuple #[.string ⟨#[]⟩, .string ⟨#[]⟩, .bool false]) ∧ ∃ n, w' = w.drewN n := by
  have HA : Hid (∀ w, Calls Try.prog 9 #[.string s, .int .i64 0, .string ⟨#[47, 97, 112, 105, 47]⟩] w fun e w' => e = .returned (.bool false) ∧ ∃ n, w' = w.drewN n) := fun w => by
    have h := zzHasAt_any s ⟨#[47, 97, 112, 105, 47]⟩ 0 hs (by omega) (by decide) w
    have e : hasAt s.data.toList 0 (⟨#[47, 97, 112, 105, 47]⟩ : ByteArray).data.toList = false := hapi
    rw [e] at h; exact h
  clear hapi
  go_enter Try.func8, Try.ntmps8
  go_wp2_with fail
  refine (HA.out _).mono ?_
  rintro x w' ⟨rfl, n0, rfl⟩
  go_wp2
  go_ret3
  exact ⟨rfl, _, rfl⟩

set_option maxHeartbeats 2000000 in
theorem model_C (s : ByteArray) (K : Nat) (vm vt : ByteArray) (hs : s.size ≤ 1048576) (hapi : hasAt s.data.toList 0 api = true) (hK5 : 5 ≤ K) (hKs : K + 5 ≤ s.size)
    (hlow : ∀ k (h5 : 5 ≤ k) (hk : k < K) (h : k < s.size), s[k] ≠ 47) (hlow2 : ∀ k, 5 ≤ k → k < K → hasAt s.data.toList k [47, 103, 101, 116, 47] = false) (hat : hasAt s.data.toList K [47, 103, 101, 116, 47] = true)
    (hm : s.extract 5 K = vm) (ht : s.extract (K + 5) s.size = vt) (hKb : s[K] = 47) (w : World) :
    Calls Try.prog 8 #[.string s] w fun e w' => e = .returned (.tuple #[.string vm, .string vt, .bool true]) ∧ ∃ n, w' = w.drewN n := by
  have HA : Hid (∀ w, Calls Try.prog 9 #[.string s, .int .i64 0, .string ⟨#[47, 97, 112, 105, 47]⟩] w fun e w' => e = .returned (.bool true) ∧ ∃ n, w' = w.drewN n) := fun w => by
    have h := zzHasAt_any s ⟨#[47, 97, 112, 105, 47]⟩ 0 hs (by omega) (by decide) w
    have e : hasAt s.data.toList 0 (⟨#[47, 97, 112, 105, 47]⟩ : ByteArray).data.toList = true := hapi
    rw [e] at h; exact h
  have HL : Hid (∀ k, 5 ≤ k → k < K → ∀ w, Calls Try.prog 9 #[.string s, .int .i64 k, .string ⟨#[47, 103, 101, 116, 47]⟩] w fun e w' => e = .returned (.bool false) ∧ ∃ n, w' = w.drewN n) := fun k k5 kl w => by
    have h := zzHasAt_any s ⟨#[47, 103, 101, 116, 47]⟩ k hs (by omega) (by decide) w
    have e : hasAt s.data.toList k (⟨#[47, 103, 101, 116, 47]⟩ : ByteArray).data.toList = false := hlow2 k k5 kl
    rw [e] at h; exact h
  have HT : Hid (∀ w, Calls Try.prog 9 #[.string s, .int .i64 K, .string ⟨#[47, 103, 101, 116, 47]⟩] w fun e w' => e = .returned (.bool true) ∧ ∃ n, w' = w.drewN n) := fun w => by
    have h := zzHasAt_any s ⟨#[47, 103, 101, 116, 47]⟩ K hs (by omega) (by decide) w
    have e : hasAt s.data.toList K (⟨#[47, 103, 101, 116, 47]⟩ : ByteArray).data.toList = true := hat
    rw [e] at h; exact h
  have HLOW : Hid (∀ k (h5 : 5 ≤ k) (hk : k < K) (h : k < s.size), s[k] ≠ 47) := hlow
  have HM : Hid (s.extract 5 K = vm) := hm
  have HTT : Hid (s.extract (K + 5) s.size = vt) := ht
  have HKB : Hid (s[K] = 47) := hKb
  clear hapi hlow hlow2 hat hm ht hKb
  go_enter Try.func8, Try.ntmps8
  go_wp2_with fail
  refine (HA.out _).mono ?_
  rintro x w' ⟨rfl, n0, rfl⟩
  go_wp2
  go_loopw [2, 3, 4, 5, 6] (fun v2 v3 v4 v5 v6 wr => ∃ k : Nat, 5 ≤ k ∧ k ≤ s.size + 1 ∧ v6 = .int .i64 k ∧ ((k ≤ K ∧ v2 = .string ⟨#[]⟩ ∧ v3 = .string ⟨#[]⟩ ∧ v4 = .bool false ∧ v5 = .bool false) ∨ (K < k ∧ v2 = .string vm ∧ v3 = .string vt ∧ v4 = .bool true ∧ v5 = .bool true)) ∧ ∃ n, wr = w.drewN n) (fun _ _ _ _ v6 _ => s.size + 1 - (intOf v6).toNat)
  case atStart => exact ⟨5, by omega, by omega, rfl, .inl ⟨hK5, rfl, rfl, rfl, rfl⟩, _, rfl⟩
  case round =>
    obtain ⟨k, hk5, hk, rfl, hw, n, rfl⟩ := hrel
    rcases hw with ⟨hkK, rfl, rfl, rfl, rfl⟩ | ⟨hkK, rfl, rfl, rfl, rfl⟩
    · by_cases hlt : k < K
      · have hks : k < s.size := by omega
        have h47 : ((s[k].toNat : Int) == 47) = false := by
          rw [Bool.eq_false_iff]; intro e; exact HLOW.out k hk5 hlt hks (byte_eq _ 47 e)
        go_wp2_with fail
        refine (HL.out k hk5 hlt _).mono ?_
        rintro x w' ⟨rfl, n1, rfl⟩
        go_wp2
        go_roundw
        case rel => exact ⟨k + 1, by omega, by omega, by go_num, .inl ⟨by omega, rfl, rfl, rfl, rfl⟩, _, rfl⟩
        case measure => simp [intOf]; omega
      · have hkk : k = K := by omega
        subst hkk
        have hks : k < s.size := by omega
        have h47 : ((s[k].toNat : Int) == 47) = true := by rw [HKB.out]; rfl
        go_wp2_with fail
        refine (HT.out _).mono ?_
        rintro x w' ⟨rfl, n1, rfl⟩
        go_wp2
        go_roundw
        case rel => exact ⟨k + 1, by omega, by omega, by go_num, .inr ⟨by omega, by rw [HM.out], by rw [HTT.out], rfl, rfl⟩, _, rfl⟩
        case measure => simp [intOf]; omega
    · by_cases hlt : k < s.size
      · go_wp2
        · go_roundw
          case rel => exact ⟨k + 1, by omega, by omega, by go_num, .inr ⟨by omega, rfl, rfl, rfl, rfl⟩, _, rfl⟩
          case measure => simp [intOf]; omega
        · go_roundw
          case rel => exact ⟨k + 1, by omega, by omega, by go_num, .inr ⟨by omega, rfl, rfl, rfl, rfl⟩, _, rfl⟩
          case measure => simp [intOf]; omega
      · by_cases hle : k ≤ s.size
        · go_wp2
          go_roundw
          case rel => exact ⟨k + 1, by omega, by omega, by go_num, .inr ⟨by omega, rfl, rfl, rfl, rfl⟩, _, rfl⟩
          case measure => simp [intOf]; omega
        · go_wp2
          go_ret3
          exact ⟨rfl, _, rfl⟩
end Go.Proofs.Qxb6603466a

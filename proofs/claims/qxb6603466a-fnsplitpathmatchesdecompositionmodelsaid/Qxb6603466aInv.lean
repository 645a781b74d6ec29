import Derived.Test.Qxb6603466aSplit
namespace Go.Proofs.Qxb6603466a
open Go.RowKit
set_option linter.unusedVariables false

theorem app_toList (a b : ByteArray) : (a ++ b).data.toList = a.data.toList ++ b.data.toList := by
  rw [ByteArray.data_append]; simp
theorem app_size (a b : ByteArray) : (a ++ b).size = a.size + b.size := ByteArray.size_append

theorem slash_of (l : List UInt8) (h : noSlash l = true) : 47 ∉ l := by
  intro hm
  unfold noSlash at h
  rw [List.contains_iff_mem.2 hm] at h; cases h
theorem noSlash_of (l : List UInt8) (h : 47 ∉ l) : noSlash l = true := by
  unfold noSlash
  cases hc : l.contains 47 with
  | false => rfl
  | true => exact absurd (List.contains_iff_mem.1 hc) h

theorem inv_main (a0 a1 : ByteArray) (h0 : a0.size ≤ 524288) (h1 : a1.size ≤ 524288) (hno : noSlash a0.data.toList = true) (w : World) :
    Calls Try.prog 4 #[.string a0, .string a1] w fun e w' => e = .returned (.bool true) ∧ ∃ n, w' = w.drewN n := by
  have hZ : ∀ w, Calls Try.prog 12 #[.string a0, .string a1] w fun e w' => e = .returned (.bool true) ∧ w' = w := fun w => by
    have h := bytes12_any a0 a1 (by unfold maxLen; omega) (by unfold maxLen; omega) w
    have hd : decide ((a0.size : Int) + (a1.size : Int) ≤ 1048576) = true := by simp; omega
    rw [hd] at h; exact h
  have HZ : Hid (∀ w, Calls Try.prog 12 #[.string a0, .string a1] w fun e w' => e = .returned (.bool true) ∧ w' = w) := hZ
  have HN : Hid (∀ w, Calls Try.prog 11 #[.string a0] w fun e w' => e = .returned (.bool true) ∧ w' = w) := fun w => by
    have h := zzNoSlash_any a0 (by unfold maxLen; omega) w
    rw [hno] at h; exact h
  have hp : (((⟨#[47, 97, 112, 105, 47]⟩ : ByteArray) ++ a0 ++ ⟨#[47, 103, 101, 116, 47]⟩ ++ a1).data.toList) = api ++ (a0.data.toList ++ 47 :: (get ++ a1.data.toList)) := by
    rw [app_toList, app_toList, app_toList]; simp [api, get]
  have hps : ((⟨#[47, 97, 112, 105, 47]⟩ : ByteArray) ++ a0 ++ ⟨#[47, 103, 101, 116, 47]⟩ ++ a1).size ≤ 1048600 := by
    rw [app_size, app_size, app_size]
    have e1 : (⟨#[47, 97, 112, 105, 47]⟩ : ByteArray).size = 5 := rfl
    have e2 : (⟨#[47, 103, 101, 116, 47]⟩ : ByteArray).size = 5 := rfl
    omega
  have HC : Hid (∀ w, Calls Try.prog 7 #[.string ((⟨#[47, 97, 112, 105, 47]⟩ : ByteArray) ++ a0 ++ ⟨#[47, 103, 101, 116, 47]⟩ ++ a1)] w fun e w' => e = .returned (.tuple #[.string a0, .string a1, .bool true]) ∧ ∃ n, w' = w.drewN n) := fun w =>
    zz_of _ a0 a1 true (fun w => by
      have h := split_CD _ a0.data.toList _ a1.data.toList true hp (slash_of _ hno) (.inl ⟨rfl, rfl⟩) hps w
      rw [bs_back, bs_back] at h; exact h) w
  clear hZ hno hp hps
  go_enter Try.func4, Try.ntmps4
  go_wp2_with fail
  refine (HZ.out _).mono ?_
  rintro x w' ⟨rfl, rfl⟩
  go_wp2_with fail
  refine (HN.out _).mono ?_
  rintro x w' ⟨rfl, rfl⟩
  go_wp2_with fail
  refine (HC.out _).mono ?_
  rintro x w' ⟨rfl, n, rfl⟩
  go_wp2
  go_ret
  exact ⟨rfl, _, rfl⟩
end Go.Proofs.Qxb6603466a

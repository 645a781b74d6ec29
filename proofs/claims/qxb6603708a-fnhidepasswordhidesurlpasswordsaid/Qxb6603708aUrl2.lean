import Derived.Test.Qxb6603708aUrl
namespace Go.Proofs.Qxb6603708a
open Go.RowKit
set_option linter.unusedVariables false

theorem beq_yes (x y : ByteArray) (h : x = y) : (x.toList == y.toList) = true := by rw [h]; simp

theorem sum_ok (a b c d : ByteArray) (hs : sum4 a b c d = true) (wa : a.size ≤ maxLen) (wb : b.size ≤ maxLen) (wc : c.size ≤ maxLen) (wd : d.size ≤ maxLen) (w : World) :
    Calls Try.prog 11 #[.string a, .string b, .string c, .string d] w fun e w' => e = .returned (.bool true) ∧ w' = w := by
  have h := bytes11_any a b c d wa wb wc wd w
  rw [hs] at h; exact h
theorem con58 (s : ByteArray) (r : Bool) (h : has s 58 = r) (hs : s.size ≤ maxLen) (w : World) : Calls Try.prog 12 #[.string s, .int .u8 58] w fun e w' => e = .returned (.bool r) ∧ w' = w := by
  have h1 := zzContains_any s 58 hs w
  rw [h] at h1; exact h1
theorem con64 (s : ByteArray) (r : Bool) (h : has s 64 = r) (hs : s.size ≤ maxLen) (w : World) : Calls Try.prog 12 #[.string s, .int .u8 64] w fun e w' => e = .returned (.bool r) ∧ w' = w := by
  have h1 := zzContains_any s 64 hs w
  rw [h] at h1; exact h1

/-- Where one of the four is too long. -/
theorem url_long (a b c d : ByteArray) (hs : sum4 a b c d = true) (wa : a.size ≤ maxLen) (wb : b.size ≤ maxLen) (wc : c.size ≤ maxLen) (wd : d.size ≤ maxLen)
    (hl : ¬ (a.size ≤ 262144 ∧ b.size ≤ 262144 ∧ c.size ≤ 262144 ∧ d.size ≤ 262144)) (w : World) :
    Calls Try.prog 5 #[.string a, .string b, .string c, .string d] w fun e w' => e = .returned (.bool true) ∧ ∃ n, w' = w.drewN n := by
  have HZ : Hid (∀ w, Calls Try.prog 11 #[.string a, .string b, .string c, .string d] w fun e w' => e = .returned (.bool true) ∧ w' = w) := fun w => sum_ok a b c d hs wa wb wc wd w
  unfold maxLen at wa wb wc wd
  clear hs
  by_cases h1 : (262144 : Int) < a.size
  · clear hl
    go_enter Try.func5, Try.ntmps5
    go_wp2_with fail
    refine (HZ.out _).mono ?_
    rintro x w' ⟨rfl, rfl⟩
    go_wp2
    go_ret
    exact ⟨rfl, 0, rfl⟩
  by_cases h2 : (262144 : Int) < b.size
  · clear hl
    go_enter Try.func5, Try.ntmps5
    go_wp2_with fail
    refine (HZ.out _).mono ?_
    rintro x w' ⟨rfl, rfl⟩
    go_wp2
    go_ret
    exact ⟨rfl, 0, rfl⟩
  by_cases h3 : (262144 : Int) < c.size
  · clear hl
    go_enter Try.func5, Try.ntmps5
    go_wp2_with fail
    refine (HZ.out _).mono ?_
    rintro x w' ⟨rfl, rfl⟩
    go_wp2
    go_ret
    exact ⟨rfl, 0, rfl⟩
  by_cases h4 : (262144 : Int) < d.size
  · clear hl
    go_enter Try.func5, Try.ntmps5
    go_wp2_with fail
    refine (HZ.out _).mono ?_
    rintro x w' ⟨rfl, rfl⟩
    go_wp2
    go_ret
    exact ⟨rfl, 0, rfl⟩
  exact absurd ⟨by omega, by omega, by omega, by omega⟩ hl

/-- Where a byte stands that the law shuts out. -/
theorem url_shut (a b c d : ByteArray) (hs : sum4 a b c d = true) (la : a.size ≤ 262144) (lb : b.size ≤ 262144) (lc : c.size ≤ 262144) (ld : d.size ≤ 262144)
    (hh : ¬ (has a 58 = false ∧ has b 58 = false ∧ has d 64 = false)) (w : World) :
    Calls Try.prog 5 #[.string a, .string b, .string c, .string d] w fun e w' => e = .returned (.bool true) ∧ ∃ n, w' = w.drewN n := by
  have HZ : Hid (∀ w, Calls Try.prog 11 #[.string a, .string b, .string c, .string d] w fun e w' => e = .returned (.bool true) ∧ w' = w) := fun w => sum_ok a b c d hs (by unfold maxLen; omega) (by unfold maxLen; omega) (by unfold maxLen; omega) (by unfold maxLen; omega) w
  clear hs
  cases ha : has a 58 with
  | true =>
    have HA : Hid (∀ w, Calls Try.prog 12 #[.string a, .int .u8 58] w fun e w' => e = .returned (.bool true) ∧ w' = w) := fun w => con58 a _ ha (by unfold maxLen; omega) w
    clear hh ha
    go_enter Try.func5, Try.ntmps5
    go_wp2_with fail
    refine (HZ.out _).mono ?_
    rintro x w' ⟨rfl, rfl⟩
    go_wp2_with fail
    refine (HA.out _).mono ?_
    rintro x w' ⟨rfl, rfl⟩
    go_wp2
    go_ret
    exact ⟨rfl, 0, rfl⟩
  | false =>
    have HA : Hid (∀ w, Calls Try.prog 12 #[.string a, .int .u8 58] w fun e w' => e = .returned (.bool false) ∧ w' = w) := fun w => con58 a _ ha (by unfold maxLen; omega) w
    cases hb : has b 58 with
    | true =>
      have HB : Hid (∀ w, Calls Try.prog 12 #[.string b, .int .u8 58] w fun e w' => e = .returned (.bool true) ∧ w' = w) := fun w => con58 b _ hb (by unfold maxLen; omega) w
      clear hh ha hb
      go_enter Try.func5, Try.ntmps5
      go_wp2_with fail
      refine (HZ.out _).mono ?_
      rintro x w' ⟨rfl, rfl⟩
      go_wp2_with fail
      refine (HA.out _).mono ?_
      rintro x w' ⟨rfl, rfl⟩
      go_wp2_with fail
      refine (HB.out _).mono ?_
      rintro x w' ⟨rfl, rfl⟩
      go_wp2
      go_ret
      exact ⟨rfl, 0, rfl⟩
    | false =>
      have HB : Hid (∀ w, Calls Try.prog 12 #[.string b, .int .u8 58] w fun e w' => e = .returned (.bool false) ∧ w' = w) := fun w => con58 b _ hb (by unfold maxLen; omega) w
      cases hd : has d 64 with
      | true =>
        have HD : Hid (∀ w, Calls Try.prog 12 #[.string d, .int .u8 64] w fun e w' => e = .returned (.bool true) ∧ w' = w) := fun w => con64 d _ hd (by unfold maxLen; omega) w
        clear hh ha hb hd
        go_enter Try.func5, Try.ntmps5
        go_wp2_with fail
        refine (HZ.out _).mono ?_
        rintro x w' ⟨rfl, rfl⟩
        go_wp2_with fail
        refine (HA.out _).mono ?_
        rintro x w' ⟨rfl, rfl⟩
        go_wp2_with fail
        refine (HB.out _).mono ?_
        rintro x w' ⟨rfl, rfl⟩
        go_wp2_with fail
        refine (HD.out _).mono ?_
        rintro x w' ⟨rfl, rfl⟩
        go_wp2
        go_ret
        exact ⟨rfl, 0, rfl⟩
      | false => exact absurd ⟨ha, hb, hd⟩ hh

set_option maxHeartbeats 1000000 in
theorem url_main (a b c d : ByteArray) (hs : sum4 a b c d = true) (la : a.size ≤ 262144) (lb : b.size ≤ 262144) (lc : c.size ≤ 262144) (ld : d.size ≤ 262144)
    (ha : has a 58 = false) (hb : has b 58 = false) (hd : has d 64 = false) (w : World) :
    Calls Try.prog 5 #[.string a, .string b, .string c, .string d] w fun e w' => e = .returned (.bool true) ∧ ∃ n, w' = w.drewN n := by
  have HZ : Hid (∀ w, Calls Try.prog 11 #[.string a, .string b, .string c, .string d] w fun e w' => e = .returned (.bool true) ∧ w' = w) := fun w => sum_ok a b c d hs (by unfold maxLen; omega) (by unfold maxLen; omega) (by unfold maxLen; omega) (by unfold maxLen; omega) w
  have HA : Hid (∀ w, Calls Try.prog 12 #[.string a, .int .u8 58] w fun e w' => e = .returned (.bool false) ∧ w' = w) := fun w => con58 a _ ha (by unfold maxLen; omega) w
  have HB : Hid (∀ w, Calls Try.prog 12 #[.string b, .int .u8 58] w fun e w' => e = .returned (.bool false) ∧ w' = w) := fun w => con58 b _ hb (by unfold maxLen; omega) w
  have HD : Hid (∀ w, Calls Try.prog 12 #[.string d, .int .u8 64] w fun e w' => e = .returned (.bool false) ∧ w' = w) := fun w => con64 d _ hd (by unfold maxLen; omega) w
  have hu : (url a b c d).size ≤ 1048700 := by
    unfold url
    simp only [app_size]
    have e1 : (⟨#[58, 47, 47]⟩ : ByteArray).size = 3 := rfl
    have e2 : (⟨#[58]⟩ : ByteArray).size = 1 := rfl
    have e3 : (⟨#[64]⟩ : ByteArray).size = 1 := rfl
    unfold sum4 at hs
    have := of_decide_eq_true hs
    omega
  have HU : Hid (∀ w, Calls Try.prog 10 #[.string (a ++ ⟨#[58, 47, 47]⟩ ++ b ++ ⟨#[58]⟩ ++ c ++ ⟨#[64]⟩ ++ d)] w fun x w' => x = .returned (.string (a ++ ⟨#[58, 47, 47]⟩ ++ b ++ ⟨#[58, 120, 120, 120, 120, 120, 64]⟩ ++ d)) ∧ ∃ n, w' = w.drewN n) := fun w => url_hide a b c d hu ha hb hd w
  clear hs ha hb hd hu
  go_enter Try.func5, Try.ntmps5
  go_wp2_with fail
  refine (HZ.out _).mono ?_
  rintro x w' ⟨rfl, rfl⟩
  go_wp2_with fail
  refine (HA.out _).mono ?_
  rintro x w' ⟨rfl, rfl⟩
  go_wp2_with fail
  refine (HB.out _).mono ?_
  rintro x w' ⟨rfl, rfl⟩
  go_wp2_with fail
  refine (HD.out _).mono ?_
  rintro x w' ⟨rfl, rfl⟩
  go_wp2_with fail
  refine (HU.out _).mono ?_
  rintro x w' ⟨rfl, n, rfl⟩
  go_wp2
  go_ret
  exact ⟨rfl, _, rfl⟩

theorem url_law (a b c d : ByteArray) (wa : a.size ≤ maxLen) (wb : b.size ≤ maxLen) (wc : c.size ≤ maxLen) (wd : d.size ≤ maxLen) (w : World) :
    Calls Try.prog 5 #[.string a, .string b, .string c, .string d] w fun e w' => e = .returned (.bool true) ∧ ∃ n, w' = w.drewN n := by
  cases hs : sum4 a b c d with
  | true =>
    by_cases hl : a.size ≤ 262144 ∧ b.size ≤ 262144 ∧ c.size ≤ 262144 ∧ d.size ≤ 262144
    · obtain ⟨la, lb, lc, ld⟩ := hl
      by_cases hh : has a 58 = false ∧ has b 58 = false ∧ has d 64 = false
      · exact url_main a b c d hs la lb lc ld hh.1 hh.2.1 hh.2.2 w
      · exact url_shut a b c d hs la lb lc ld hh w
    · exact url_long a b c d hs wa wb wc wd hl w
  | false =>
    have hZ := bytes11_any a b c d wa wb wc wd
    rw [hs] at hZ
    have HZ : Hid (∀ w, Calls Try.prog 11 #[.string a, .string b, .string c, .string d] w fun e w' => e = .returned (.bool false) ∧ w' = w) := hZ
    clear hZ hs
    go_enter Try.func5, Try.ntmps5
    go_wp2_with fail
    refine (HZ.out _).mono ?_
    rintro x w' ⟨rfl, rfl⟩
    go_wp2
    go_ret
    exact ⟨rfl, 0, rfl⟩
end Go.Proofs.Qxb6603708a

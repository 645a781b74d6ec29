import Derived.Test.Qxb6603466aInv
namespace Go.Proofs.Qxb6603466a
open Go.RowKit
set_option linter.unusedVariables false

theorem beq_no (x y : ByteArray) (h : x ≠ y) : (x.toList == y.toList) = false := by
  rw [Bool.eq_false_iff]; intro e
  have e1 := eq_of_beq e
  rw [Lib.toList_data, Lib.toList_data] at e1
  exact h (ByteArray.ext (Array.toList_inj.1 e1))
theorem beq_yes (x y : ByteArray) (h : x = y) : (x.toList == y.toList) = true := by rw [h]; simp
theorem of_lists (x y : ByteArray) (h : x.data.toList = y.data.toList) : x = y := ByteArray.ext (Array.toList_inj.1 h)

theorem rest_no (a0 m t : ByteArray) (h0 : a0.size ≤ 1048576) (hmt : m.size + t.size ≤ 1048600) (hzz : ∀ w, Calls Try.prog 7 #[.string a0] w fun e w' => e = .returned (.tuple #[.string m, .string t, .bool false]) ∧ ∃ n, w' = w.drewN n)
    (hne : (⟨#[47, 97, 112, 105, 47]⟩ : ByteArray) ++ m ++ ⟨#[47, 103, 101, 116, 47]⟩ ++ t ≠ a0) (w : World) :
    Calls Try.prog 5 #[.string a0] w fun e w' => e = .returned (.bool true) ∧ ∃ n, w' = w.drewN n := by
  have hZ : ∀ w, Calls Try.prog 13 #[.string a0] w fun e w' => e = .returned (.bool true) ∧ w' = w := fun w => by
    have h := bytes13_any a0 (by unfold maxLen; omega) w
    have hd : decide ((a0.size : Int) ≤ 1048576) = true := by simp; omega
    rw [hd] at h; exact h
  have HZ : Hid (∀ w, Calls Try.prog 13 #[.string a0] w fun e w' => e = .returned (.bool true) ∧ w' = w) := hZ
  have HC : Hid (∀ w, Calls Try.prog 7 #[.string a0] w fun e w' => e = .returned (.tuple #[.string m, .string t, .bool false]) ∧ ∃ n, w' = w.drewN n) := hzz
  have HNE : Hid ((⟨#[47, 97, 112, 105, 47]⟩ : ByteArray) ++ m ++ ⟨#[47, 103, 101, 116, 47]⟩ ++ t ≠ a0) := hne
  clear hZ hzz hne
  go_enter Try.func5, Try.ntmps5
  go_wp2_with fail
  refine (HZ.out _).mono ?_
  rintro x w' ⟨rfl, rfl⟩
  go_wp2_with fail
  refine (HC.out _).mono ?_
  rintro x w' ⟨rfl, n, rfl⟩
  go_wp2
  go_ret
  exact ⟨ret_bool (by rw [beq_no _ _ HNE.out]; rfl), _, rfl⟩

theorem rest_yes (a0 m t : ByteArray) (h0 : a0.size ≤ 1048576) (hmt : m.size + t.size ≤ 1048600) (hzz : ∀ w, Calls Try.prog 7 #[.string a0] w fun e w' => e = .returned (.tuple #[.string m, .string t, .bool true]) ∧ ∃ n, w' = w.drewN n)
    (heq : (⟨#[47, 97, 112, 105, 47]⟩ : ByteArray) ++ m ++ ⟨#[47, 103, 101, 116, 47]⟩ ++ t = a0) (hno : noSlash m.data.toList = true) (w : World) :
    Calls Try.prog 5 #[.string a0] w fun e w' => e = .returned (.bool true) ∧ ∃ n, w' = w.drewN n := by
  have hZ : ∀ w, Calls Try.prog 13 #[.string a0] w fun e w' => e = .returned (.bool true) ∧ w' = w := fun w => by
    have h := bytes13_any a0 (by unfold maxLen; omega) w
    have hd : decide ((a0.size : Int) ≤ 1048576) = true := by simp; omega
    rw [hd] at h; exact h
  have HZ : Hid (∀ w, Calls Try.prog 13 #[.string a0] w fun e w' => e = .returned (.bool true) ∧ w' = w) := hZ
  have HC : Hid (∀ w, Calls Try.prog 7 #[.string a0] w fun e w' => e = .returned (.tuple #[.string m, .string t, .bool true]) ∧ ∃ n, w' = w.drewN n) := hzz
  have HN : Hid (∀ w, Calls Try.prog 11 #[.string m] w fun e w' => e = .returned (.bool true) ∧ w' = w) := fun w => by
    have h := zzNoSlash_any m (by unfold maxLen; omega) w
    rw [hno] at h; exact h
  have hb : (((⟨#[47, 97, 112, 105, 47]⟩ : ByteArray) ++ m ++ ⟨#[47, 103, 101, 116, 47]⟩ ++ t).toList == a0.toList) = true := beq_yes _ _ heq
  clear hZ hzz heq hno
  go_enter Try.func5, Try.ntmps5
  go_wp2_with fail
  refine (HZ.out _).mono ?_
  rintro x w' ⟨rfl, rfl⟩
  go_wp2_with fail
  refine (HC.out _).mono ?_
  rintro x w' ⟨rfl, n, rfl⟩
  go_wp2_with fail
  refine (HN.out _).mono ?_
  rintro x w' ⟨rfl, rfl⟩
  go_wp2
  go_ret
  exact ⟨rfl, _, rfl⟩

/-! ### The four ways of a path -/

theorem find_slash : ∀ (l : List UInt8), 47 ∈ l → ∃ a b, l = a ++ 47 :: b ∧ 47 ∉ a
  | [], h => by cases h
  | x :: l, h => by
    by_cases e : x = 47
    · exact ⟨[], l, by rw [e]; rfl, by simp⟩
    · obtain ⟨a, b, h1, h2⟩ := find_slash l (by
        rcases List.mem_cons.1 h with h | h
        · exact absurd h.symm e
        · exact h)
      refine ⟨x :: a, b, by rw [h1]; rfl, ?_⟩
      intro hm
      rcases List.mem_cons.1 hm with h | h
      · exact e h.symm
      · exact h2 h

/-- What a path is, and what splitPath makes of it. -/
theorem path_ways (a0 : ByteArray) (h0 : a0.size ≤ 1048576) :
    (¬ api <+: a0.data.toList ∧ ∀ w, Calls Try.prog 7 #[.string a0] w fun e w' => e = .returned (.tuple #[.string ⟨#[]⟩, .string ⟨#[]⟩, .bool false]) ∧ ∃ n, w' = w.drewN n) ∨
    (∃ r, a0.data.toList = api ++ r ∧ 47 ∉ r ∧ ∀ w, Calls Try.prog 7 #[.string a0] w fun e w' => e = .returned (.tuple #[.string ⟨#[]⟩, .string ⟨#[]⟩, .bool false]) ∧ ∃ n, w' = w.drewN n) ∨
    (∃ m t, a0.data.toList = api ++ (m ++ 47 :: (get ++ t)) ∧ 47 ∉ m ∧ ∀ w, Calls Try.prog 7 #[.string a0] w fun e w' => e = .returned (.tuple #[.string (bs m), .string (bs t), .bool true]) ∧ ∃ n, w' = w.drewN n) ∨
    (∃ m r, a0.data.toList = api ++ (m ++ 47 :: r) ∧ 47 ∉ m ∧ ¬ get <+: r ∧ ∀ w, Calls Try.prog 7 #[.string a0] w fun e w' => e = .returned (.tuple #[.string (bs m), .string (bs r), .bool false]) ∧ ∃ n, w' = w.drewN n) := by
  by_cases hA : api <+: a0.data.toList
  · obtain ⟨r, hr⟩ := hA
    by_cases hs : 47 ∈ r
    · obtain ⟨m, r', e, hm⟩ := find_slash r hs
      subst e
      by_cases hg : get <+: r'
      · obtain ⟨t, ht⟩ := hg
        subst ht
        exact .inr (.inr (.inl ⟨m, t, hr.symm, hm, fun w => zz_of _ _ _ _ (fun w => split_CD a0 m _ t true hr.symm hm (.inl ⟨rfl, rfl⟩) (by omega) w) w⟩))
      · exact .inr (.inr (.inr ⟨m, r', hr.symm, hm, hg, fun w => zz_of _ _ _ _ (fun w => split_CD a0 m _ r' false hr.symm hm (.inr ⟨rfl, rfl, hg⟩) (by omega) w) w⟩))
    · exact .inr (.inl ⟨r, hr.symm, hs, fun w => zz_of _ _ _ _ (fun w => split_B a0 r hr.symm hs (by omega) w) w⟩)
  · exact .inl ⟨hA, fun w => zz_of _ _ _ _ (fun w => split_A a0 hA w) w⟩

theorem joined (m t : ByteArray) : ((⟨#[47, 97, 112, 105, 47]⟩ : ByteArray) ++ m ++ ⟨#[47, 103, 101, 116, 47]⟩ ++ t).data.toList = api ++ (m.data.toList ++ 47 :: (get ++ t.data.toList)) := by
  rw [app_toList, app_toList, app_toList]; simp [api, get]

theorem rest_main (a0 : ByteArray) (h0 : a0.size ≤ 1048576) (w : World) :
    Calls Try.prog 5 #[.string a0] w fun e w' => e = .returned (.bool true) ∧ ∃ n, w' = w.drewN n := by
  have hl : a0.data.toList.length = a0.size := Array.length_toList
  rcases path_ways a0 h0 with ⟨hA, hz⟩ | ⟨r, hr, hs, hz⟩ | ⟨m, t, hr, hm, hz⟩ | ⟨m, r, hr, hm, hg, hz⟩
  · refine rest_no a0 _ _ h0 (by decide) hz ?_ w
    intro e
    have e1 := joined ⟨#[]⟩ ⟨#[]⟩
    rw [e] at e1
    exact hA ⟨_, e1.symm⟩
  · refine rest_no a0 _ _ h0 (by decide) hz ?_ w
    intro e
    have e1 := joined ⟨#[]⟩ ⟨#[]⟩
    rw [e, hr] at e1
    have e2 := List.append_cancel_left e1
    rw [e2] at hs
    exact hs (by simp)
  · have hbd : (bs m).size + (bs t).size ≤ 1048600 := by
      rw [hr] at hl; simp [api, get] at hl; rw [bs_size, bs_size]; omega
    refine rest_yes a0 (bs m) (bs t) h0 hbd hz ?_ (by rw [bs_toList]; exact noSlash_of _ hm) w
    apply of_lists
    rw [joined, bs_toList, bs_toList, hr]
  · have hbd : (bs m).size + (bs r).size ≤ 1048600 := by
      rw [hr] at hl; simp [api] at hl; rw [bs_size, bs_size]; omega
    refine rest_no a0 (bs m) (bs r) h0 hbd hz ?_ w
    intro e
    have e1 := joined (bs m) (bs r)
    rw [e, hr, bs_toList, bs_toList] at e1
    have e2 := congrArg List.length e1
    simp [get] at e2
end Go.Proofs.Qxb6603466a

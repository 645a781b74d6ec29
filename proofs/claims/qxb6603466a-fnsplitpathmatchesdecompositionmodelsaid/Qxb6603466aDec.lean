import Derived.Test.Qxb6603466aModel3
namespace Go.Proofs.Qxb6603466a
open Go.RowKit
set_option linter.unusedVariables false

theorem hasAt_iff (l : List UInt8) (k : Nat) (x : List UInt8) : hasAt l k x = true ↔ x <+: l.drop k := by
  unfold hasAt; exact List.isPrefixOf_iff_prefix
theorem hasAt_first (l : List UInt8) (k : Nat) (c : UInt8) (x : List UInt8) (h : hasAt l k (c :: x) = true) : l[k]? = some c := by
  rw [hasAt_iff] at h
  obtain ⟨t, ht⟩ := h
  have : (l.drop k)[0]? = some c := by rw [← ht]; rfl
  rw [List.getElem?_drop] at this; simpa using this
theorem hasAt_no (l : List UInt8) (k : Nat) (x : List UInt8) (h : ¬ x <+: l.drop k) : hasAt l k x = false := by
  rw [Bool.eq_false_iff]; intro e; exact h ((hasAt_iff _ _ _).1 e)

theorem at_mode (m r : List UInt8) (k : Nat) (h5 : 5 ≤ k) (hk : k < 5 + m.length) (hm : 47 ∉ m) : (api ++ (m ++ 47 :: r))[k]? ≠ some 47 := by
  rw [List.getElem?_append_right (by simp [api]; omega), List.getElem?_append_left (by simp [api]; omega)]
  intro e
  exact hm (List.mem_of_getElem? e)
theorem at_slash (m r : List UInt8) : (api ++ (m ++ 47 :: r))[5 + m.length]? = some 47 := by
  rw [List.getElem?_append_right (by simp [api]), List.getElem?_append_right (by simp [api])]
  simp [api]
theorem drop_slash (m r : List UInt8) : (api ++ (m ++ 47 :: r)).drop (5 + m.length) = 47 :: r := by
  rw [← List.append_assoc]
  rw [List.drop_append_of_le_length (by simp [api]; omega)]
  rw [List.drop_of_length_le (by simp [api]; omega)]; rfl

/-- No way: nothing behind the first word holds a slash. -/
theorem none_B (r : List UInt8) (hr : 47 ∉ r) (k : Nat) (h5 : 5 ≤ k) : hasAt (api ++ r) k [47, 103, 101, 116, 47] = false := by
  rw [Bool.eq_false_iff]; intro e
  have h := hasAt_first _ _ _ _ e
  rw [List.getElem?_append_right (by simp [api]; omega)] at h
  exact hr (List.mem_of_getElem? h)
theorem none_D (m r : List UInt8) (hm : 47 ∉ m) (hg : ¬ get <+: r) (k : Nat) (h5 : 5 ≤ k) (hsb : sbf (api ++ (m ++ 47 :: r)) k = false) : hasAt (api ++ (m ++ 47 :: r)) k [47, 103, 101, 116, 47] = false := by
  by_cases hlt : k < 5 + m.length
  · rw [Bool.eq_false_iff]; intro e
    exact at_mode m r k h5 hlt hm (hasAt_first _ _ _ _ e)
  · by_cases he : k = 5 + m.length
    · subst he
      apply hasAt_no
      rw [drop_slash]
      intro h
      rw [List.cons_prefix_cons] at h
      exact hg h.2
    · exfalso
      have : sbf (api ++ (m ++ 47 :: r)) k = true := by
        unfold sbf
        rw [List.contains_iff_mem]
        refine List.mem_of_getElem? (i := m.length) ?_
        rw [List.getElem?_drop, List.getElem?_take_of_lt (by omega)]
        exact at_slash m r
      rw [this] at hsb; cases hsb

theorem mode_byte (s : ByteArray) (l : List UInt8) (hl : s.data.toList = l) (k : Nat) (h : k < s.size) (hne : l[k]? ≠ some 47) : s[k] ≠ 47 := by
  intro e
  apply hne
  rw [← hl, List.getElem?_eq_getElem (by exact h)]
  exact congrArg some e
theorem slash_byte (s : ByteArray) (l : List UInt8) (hl : s.data.toList = l) (k : Nat) (h : k < s.size) (he : l[k]? = some 47) : s[k] = 47 := by
  rw [← hl, List.getElem?_eq_getElem (by exact h)] at he
  exact Option.some.inj he

/-- The model at a path that has a way. -/
theorem model_way (s : ByteArray) (m t : List UInt8) (h : s.data.toList = api ++ (m ++ 47 :: (get ++ t))) (hm : 47 ∉ m) (hs : s.size ≤ 1048576) (w : World) :
    Calls Try.prog 8 #[.string s] w fun e w' => e = .returned (.tuple #[.string (bs m), .string (bs t), .bool true]) ∧ ∃ n, w' = w.drewN n := by
  have hl : s.data.toList.length = s.size := Array.length_toList
  have hlen : s.size = 5 + m.length + 5 + t.length := by rw [← hl, h]; simp [api, get]; omega
  refine model_C s (5 + m.length) (bs m) (bs t) hs ?_ (by omega) (by omega) ?_ ?_ ?_ ?_ ?_ ?_ w
  · rw [hasAt_iff, h]; exact List.prefix_append _ _
  · intro k h5 hk hks
    exact mode_byte s _ h k hks (at_mode m _ k h5 hk hm)
  · intro k h5 hk
    rw [Bool.eq_false_iff]; intro e
    rw [h] at e
    exact at_mode m _ k h5 hk hm (hasAt_first _ _ _ _ e)
  · rw [hasAt_iff, h, drop_slash]
    exact ⟨t, rfl⟩
  · rw [ext_eq, h]
    have : (api ++ (m ++ 47 :: (get ++ t))).drop 5 = m ++ 47 :: (get ++ t) := rfl
    rw [this]; simp
  · rw [ext_eq, h]
    have e1 : api ++ (m ++ 47 :: (get ++ t)) = (api ++ m ++ (47 :: get)) ++ t := by simp
    have e2 : s.size - (5 + m.length + 5) = t.length := by omega
    rw [e1, e2, List.drop_append_of_le_length (by simp [api, get]; omega), List.drop_of_length_le (by simp [api, get]; omega)]
    simp
  · exact slash_byte s _ h _ _ (at_slash m _)

theorem model_none (s : ByteArray) (hs : s.size ≤ 1048576) (h : (¬ api <+: s.data.toList) ∨ (∃ r, s.data.toList = api ++ r ∧ 47 ∉ r) ∨ (∃ m r, s.data.toList = api ++ (m ++ 47 :: r) ∧ 47 ∉ m ∧ ¬ get <+: r)) (w : World) :
    Calls Try.prog 8 #[.string s] w fun e w' => e = .returned (.tuple #[.string ⟨#[]⟩, .string ⟨#[]⟩, .bool false]) ∧ ∃ n, w' = w.drewN n := by
  have hl : s.data.toList.length = s.size := Array.length_toList
  rcases h with h | ⟨r, h, hr⟩ | ⟨m, r, h, hm, hg⟩
  · exact model_A s hs (hasAt_no _ _ _ h) w
  · refine model_N s hs ?_ (by rw [← hl, h]; simp [api]) ?_ w
    · rw [hasAt_iff, h]; exact List.prefix_append _ _
    · intro k h5 _ _; rw [h]; exact none_B r hr k h5
  · refine model_N s hs ?_ (by rw [← hl, h]; simp [api]) ?_ w
    · rw [hasAt_iff, h]; exact List.prefix_append _ _
    · intro k h5 _ hsb; rw [h] at hsb ⊢; exact none_D m r hm hg k h5 hsb

theorem ok_bytes (a0 : ByteArray) (h0 : a0.size ≤ 1048576) (w : World) : Calls Try.prog 6 #[.string a0] w fun e w' => e = .returned (.bool true) ∧ w' = w := by
  have h := bytes6_any a0 (by unfold maxLen; omega) w
  have hd : decide ((a0.size : Int) ≤ 1048576) = true := by simp; omega
  rw [hd] at h; exact h

/-- Where splitPath says yes, and the model too. -/
theorem dec_yes (a0 m t : ByteArray) (h0 : a0.size ≤ 1048576) (hzz : ∀ w, Calls Try.prog 7 #[.string a0] w fun e w' => e = .returned (.tuple #[.string m, .string t, .bool true]) ∧ ∃ n, w' = w.drewN n)
    (hmo : ∀ w, Calls Try.prog 8 #[.string a0] w fun e w' => e = .returned (.tuple #[.string m, .string t, .bool true]) ∧ ∃ n, w' = w.drewN n) (w : World) :
    Calls Try.prog 3 #[.string a0] w fun e w' => e = .returned (.bool true) ∧ ∃ n, w' = w.drewN n := by
  have HZ : Hid (∀ w, Calls Try.prog 6 #[.string a0] w fun e w' => e = .returned (.bool true) ∧ w' = w) := fun w => ok_bytes a0 h0 w
  have HC : Hid (∀ w, Calls Try.prog 7 #[.string a0] w fun e w' => e = .returned (.tuple #[.string m, .string t, .bool true]) ∧ ∃ n, w' = w.drewN n) := hzz
  have HM : Hid (∀ w, Calls Try.prog 8 #[.string a0] w fun e w' => e = .returned (.tuple #[.string m, .string t, .bool true]) ∧ ∃ n, w' = w.drewN n) := hmo
  clear hzz hmo
  go_enter Try.func3, Try.ntmps3
  go_wp2_with fail
  refine (HZ.out _).mono ?_
  rintro x w' ⟨rfl, rfl⟩
  go_wp2_with fail
  refine (HC.out _).mono ?_
  rintro x w' ⟨rfl, n, rfl⟩
  go_wp2_with fail
  refine (HM.out _).mono ?_
  rintro x w' ⟨rfl, n1, rfl⟩
  go_wp2
  go_ret
  exact ⟨rfl, _, rfl⟩

/-- Where both say no, and there is no slash behind the first word, or no first word: both parts are empty. -/
theorem dec_none (a0 : ByteArray) (h0 : a0.size ≤ 1048576) (hzz : ∀ w, Calls Try.prog 7 #[.string a0] w fun e w' => e = .returned (.tuple #[.string ⟨#[]⟩, .string ⟨#[]⟩, .bool false]) ∧ ∃ n, w' = w.drewN n)
    (hmo : ∀ w, Calls Try.prog 8 #[.string a0] w fun e w' => e = .returned (.tuple #[.string ⟨#[]⟩, .string ⟨#[]⟩, .bool false]) ∧ ∃ n, w' = w.drewN n)
    (hw : hasAt a0.data.toList 0 api = false ∨ (hasAt a0.data.toList 0 api = true ∧ 5 ≤ a0.size ∧ (a0.data.toList.drop 5).contains 47 = false)) (w : World) :
    Calls Try.prog 3 #[.string a0] w fun e w' => e = .returned (.bool true) ∧ ∃ n, w' = w.drewN n := by
  have HZ : Hid (∀ w, Calls Try.prog 6 #[.string a0] w fun e w' => e = .returned (.bool true) ∧ w' = w) := fun w => ok_bytes a0 h0 w
  have HC : Hid (∀ w, Calls Try.prog 7 #[.string a0] w fun e w' => e = .returned (.tuple #[.string ⟨#[]⟩, .string ⟨#[]⟩, .bool false]) ∧ ∃ n, w' = w.drewN n) := hzz
  have HM : Hid (∀ w, Calls Try.prog 8 #[.string a0] w fun e w' => e = .returned (.tuple #[.string ⟨#[]⟩, .string ⟨#[]⟩, .bool false]) ∧ ∃ n, w' = w.drewN n) := hmo
  have hA := fun w => zzHasAt_any a0 ⟨#[47, 97, 112, 105, 47]⟩ 0 h0 (by omega) (by decide) w
  have ea : (⟨#[47, 97, 112, 105, 47]⟩ : ByteArray).data.toList = api := rfl
  rw [ea] at hA
  clear hzz hmo
  rcases hw with hf | ⟨hf, h5, hsl⟩
  · rw [hf] at hA
    have HA : Hid (∀ w, Calls Try.prog 9 #[.string a0, .int .i64 0, .string ⟨#[47, 97, 112, 105, 47]⟩] w fun e w' => e = .returned (.bool false) ∧ ∃ n, w' = w.drewN n) := hA
    clear hA hf ea
    go_enter Try.func3, Try.ntmps3
    go_wp2_with fail
    refine (HZ.out _).mono ?_
    rintro x w' ⟨rfl, rfl⟩
    go_wp2_with fail
    refine (HC.out _).mono ?_
    rintro x w' ⟨rfl, n, rfl⟩
    go_wp2_with fail
    refine (HM.out _).mono ?_
    rintro x w' ⟨rfl, n1, rfl⟩
    go_wp2_with fail
    refine (HA.out _).mono ?_
    rintro x w' ⟨rfl, n2, rfl⟩
    go_wp2
    go_ret
    exact ⟨rfl, _, rfl⟩
  · rw [hf] at hA
    have HA : Hid (∀ w, Calls Try.prog 9 #[.string a0, .int .i64 0, .string ⟨#[47, 97, 112, 105, 47]⟩] w fun e w' => e = .returned (.bool true) ∧ ∃ n, w' = w.drewN n) := hA
    have hS := zzHasSlashFrom_any a0 h0 h5
    rw [hsl] at hS
    have HS : Hid (∀ w, Calls Try.prog 10 #[.string a0, .int .i64 5] w fun e w' => e = .returned (.bool false) ∧ w' = w) := hS
    clear hA hf hS hsl ea
    go_enter Try.func3, Try.ntmps3
    go_wp2_with fail
    refine (HZ.out _).mono ?_
    rintro x w' ⟨rfl, rfl⟩
    go_wp2_with fail
    refine (HC.out _).mono ?_
    rintro x w' ⟨rfl, n, rfl⟩
    go_wp2_with fail
    refine (HM.out _).mono ?_
    rintro x w' ⟨rfl, n1, rfl⟩
    go_wp2_with fail
    refine (HA.out _).mono ?_
    rintro x w' ⟨rfl, n2, rfl⟩
    go_wp2_with fail
    refine (HS.out _).mono ?_
    rintro x w' ⟨rfl, rfl⟩
    go_wp2
    go_ret
    exact ⟨rfl, _, rfl⟩

/-- Where both say no and a slash stands behind the first word: the parts rebuild the path. -/
theorem dec_parts (a0 m r : ByteArray) (h0 : a0.size ≤ 1048576) (h5 : 5 ≤ a0.size) (hmr : m.size + r.size ≤ 1048600) (hzz : ∀ w, Calls Try.prog 7 #[.string a0] w fun e w' => e = .returned (.tuple #[.string m, .string r, .bool false]) ∧ ∃ n, w' = w.drewN n)
    (hmo : ∀ w, Calls Try.prog 8 #[.string a0] w fun e w' => e = .returned (.tuple #[.string ⟨#[]⟩, .string ⟨#[]⟩, .bool false]) ∧ ∃ n, w' = w.drewN n)
    (hf : hasAt a0.data.toList 0 api = true) (hsl : (a0.data.toList.drop 5).contains 47 = true) (hno : noSlash m.data.toList = true) (heq : (⟨#[47, 97, 112, 105, 47]⟩ : ByteArray) ++ m ++ ⟨#[47]⟩ ++ r = a0) (w : World) :
    Calls Try.prog 3 #[.string a0] w fun e w' => e = .returned (.bool true) ∧ ∃ n, w' = w.drewN n := by
  have HZ : Hid (∀ w, Calls Try.prog 6 #[.string a0] w fun e w' => e = .returned (.bool true) ∧ w' = w) := fun w => ok_bytes a0 h0 w
  have HC : Hid (∀ w, Calls Try.prog 7 #[.string a0] w fun e w' => e = .returned (.tuple #[.string m, .string r, .bool false]) ∧ ∃ n, w' = w.drewN n) := hzz
  have HM : Hid (∀ w, Calls Try.prog 8 #[.string a0] w fun e w' => e = .returned (.tuple #[.string ⟨#[]⟩, .string ⟨#[]⟩, .bool false]) ∧ ∃ n, w' = w.drewN n) := hmo
  have hA := fun w => zzHasAt_any a0 ⟨#[47, 97, 112, 105, 47]⟩ 0 h0 (by omega) (by decide) w
  have ea : (⟨#[47, 97, 112, 105, 47]⟩ : ByteArray).data.toList = api := rfl
  rw [ea, hf] at hA
  have HA : Hid (∀ w, Calls Try.prog 9 #[.string a0, .int .i64 0, .string ⟨#[47, 97, 112, 105, 47]⟩] w fun e w' => e = .returned (.bool true) ∧ ∃ n, w' = w.drewN n) := hA
  have hS := zzHasSlashFrom_any a0 h0 h5
  rw [hsl] at hS
  have HS : Hid (∀ w, Calls Try.prog 10 #[.string a0, .int .i64 5] w fun e w' => e = .returned (.bool true) ∧ w' = w) := hS
  have HN : Hid (∀ w, Calls Try.prog 11 #[.string m] w fun e w' => e = .returned (.bool true) ∧ w' = w) := fun w => by
    have h := zzNoSlash_any m (by unfold maxLen; omega) w
    rw [hno] at h; exact h
  have hb : (((⟨#[47, 97, 112, 105, 47]⟩ : ByteArray) ++ m ++ ⟨#[47]⟩ ++ r).toList == a0.toList) = true := beq_yes _ _ heq
  clear hzz hmo hA hf hS hsl ea heq hno
  go_enter Try.func3, Try.ntmps3
  go_wp2_with fail
  refine (HZ.out _).mono ?_
  rintro x w' ⟨rfl, rfl⟩
  go_wp2_with fail
  refine (HC.out _).mono ?_
  rintro x w' ⟨rfl, n, rfl⟩
  go_wp2_with fail
  refine (HM.out _).mono ?_
  rintro x w' ⟨rfl, n1, rfl⟩
  go_wp2_with fail
  refine (HA.out _).mono ?_
  rintro x w' ⟨rfl, n2, rfl⟩
  go_wp2_with fail
  refine (HS.out _).mono ?_
  rintro x w' ⟨rfl, rfl⟩
  go_wp2_with fail
  refine (HN.out _).mono ?_
  rintro x w' ⟨rfl, rfl⟩
  go_wp2
  go_ret
  exact ⟨rfl, _, rfl⟩

theorem joined1 (m t : ByteArray) : ((⟨#[47, 97, 112, 105, 47]⟩ : ByteArray) ++ m ++ ⟨#[47]⟩ ++ t).data.toList = api ++ (m.data.toList ++ 47 :: t.data.toList) := by
  rw [app_toList, app_toList, app_toList]; simp [api]

theorem dec_main (a0 : ByteArray) (h0 : a0.size ≤ 1048576) (w : World) :
    Calls Try.prog 3 #[.string a0] w fun e w' => e = .returned (.bool true) ∧ ∃ n, w' = w.drewN n := by
  have hl : a0.data.toList.length = a0.size := Array.length_toList
  rcases path_ways a0 h0 with ⟨hA, hz⟩ | ⟨r, hr, hs, hz⟩ | ⟨m, t, hr, hm, hz⟩ | ⟨m, r, hr, hm, hg, hz⟩
  · exact dec_none a0 h0 hz (fun w => model_none a0 h0 (.inl hA) w) (.inl (hasAt_no _ _ _ hA)) w
  · refine dec_none a0 h0 hz (fun w => model_none a0 h0 (.inr (.inl ⟨r, hr, hs⟩)) w) (.inr ⟨?_, ?_, ?_⟩) w
    · rw [hasAt_iff, hr]; exact List.prefix_append _ _
    · rw [← hl, hr]; simp [api]
    · rw [hr]
      have e : (api ++ r).drop 5 = r := rfl
      rw [e, Bool.eq_false_iff]; intro h
      exact hs (List.contains_iff_mem.1 h)
  · exact dec_yes a0 (bs m) (bs t) h0 hz (fun w => model_way a0 m t hr hm h0 w) w
  · have hbd : (bs m).size + (bs r).size ≤ 1048600 := by
      rw [hr] at hl; simp [api] at hl; rw [bs_size, bs_size]; omega
    refine dec_parts a0 (bs m) (bs r) h0 ?_ hbd hz (fun w => model_none a0 h0 (.inr (.inr ⟨m, r, hr, hm, hg⟩)) w) ?_ ?_ (by rw [bs_toList]; exact noSlash_of _ hm) ?_ w
    · rw [← hl, hr]; simp [api]
    · rw [hasAt_iff, hr]; exact List.prefix_append _ _
    · rw [hr]
      have e : (api ++ (m ++ 47 :: r)).drop 5 = m ++ 47 :: r := rfl
      rw [e, List.contains_iff_mem]; simp
    · apply of_lists
      rw [joined1, bs_toList, bs_toList, hr]
end Go.Proofs.Qxb6603466a

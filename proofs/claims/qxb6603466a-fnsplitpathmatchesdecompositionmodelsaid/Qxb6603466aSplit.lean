import Derived.Test.Qxb6603466aSmall
namespace Go.Proofs.Qxb6603466a
open Go.RowKit
set_option linter.unusedVariables false

theorem ix_found : ∀ (a b : List UInt8), 47 ∉ a → Lib.indexByte (a ++ 47 :: b) 47 = a.length
  | [], b, _ => by simp [Lib.indexByte]
  | x :: a, b, h => by
    have h1 : (x == (47 : UInt8)) = false := by
      rw [Bool.eq_false_iff]; intro e; exact h (by have := eq_of_beq e; simp [this])
    have h2 := ix_found a b (fun m => h (List.mem_cons_of_mem _ m))
    have h3 : ((a.length : Int) == -1) = false := by simp
    show (if (x == (47 : UInt8)) = true then (0 : Int) else if (Lib.indexByte (a ++ 47 :: b) 47 == -1) = true then -1 else Lib.indexByte (a ++ 47 :: b) 47 + 1) = _
    rw [h1, h2, h3]; simp
theorem ix_none : ∀ (a : List UInt8), 47 ∉ a → Lib.indexByte a 47 = -1
  | [], _ => by simp [Lib.indexByte]
  | x :: a, h => by
    have h1 : (x == (47 : UInt8)) = false := by
      rw [Bool.eq_false_iff]; intro e; exact h (by have := eq_of_beq e; simp [this])
    have h2 := ix_none a (fun m => h (List.mem_cons_of_mem _ m))
    show (if (x == (47 : UInt8)) = true then (0 : Int) else if (Lib.indexByte a 47 == -1) = true then -1 else Lib.indexByte a 47 + 1) = _
    rw [h1, h2]; simp

theorem ext_eq (s : ByteArray) (i j : Nat) : s.extract i j = bs ((s.data.toList.drop i).take (j - i)) := Lib.extract_eq s i j

theorem cutL_found (s : ByteArray) (a b : List UInt8) (hs : s.data.toList = a ++ 47 :: b) (ha : 47 ∉ a) (hsz : s.size ≤ 1048600) (w : World) :
    Calls Try.prog 18 #[.string s, .string ⟨#[47]⟩] w fun e w' => e = .returned (.tuple #[.string (bs a), .string (bs b), .bool true]) ∧ ∃ n, w' = w.drewN n := by
  have hlen : s.size = a.length + 1 + b.length := by
    have : s.data.toList.length = s.size := Array.length_toList
    rw [← this, hs]; simp; omega
  obtain ⟨n, hn⟩ : ∃ n, n = a.length := ⟨_, rfl⟩
  have hI : ∀ w, Calls Try.prog 20 #[.string s, .string ⟨#[47]⟩] w fun e w' => e = .returned (.int .i64 n) ∧ w' = w := fun w => by
    have h := Try.stringslite_Index_one s 47 w
    rw [hs, ix_found a b ha, ← hn] at h; exact h
  have HI : Hid (∀ w, Calls Try.prog 20 #[.string s, .string ⟨#[47]⟩] w fun e w' => e = .returned (.int .i64 n) ∧ w' = w) := hI
  have hA : s.extract 0 n = bs a := by
    rw [ext_eq, hs, hn]; simp
  have HA : Hid (s.extract 0 n = bs a) := hA
  have hB : s.extract (n + 1) s.size = bs b := by
    have e : s.size - (n + 1) = b.length := by omega
    have e2 : a ++ 47 :: b = (a ++ [47]) ++ b := by simp
    rw [ext_eq, hs, e, e2, hn, List.drop_append_of_le_length (by simp)]; simp
  have HB : Hid (s.extract (n + 1) s.size = bs b) := hB
  have hnl : n + 1 ≤ s.size := by omega
  clear hI hs hn hlen hA hB
  go_enter Try.func18, Try.ntmps18
  go_wp2_with fail
  refine (HI.out _).mono ?_
  rintro x w' ⟨rfl, rfl⟩
  go_wp2
  go_big_quiet (fail)
  go_wp2
  go_ret3
  refine ⟨?_, _, rfl⟩
  show Ending.returned (.tuple #[.string (s.extract 0 n), .string (s.extract (n + 1) s.size), .bool true]) = _
  rw [HA.out, HB.out]

theorem cutL_none (s : ByteArray) (ha : 47 ∉ s.data.toList) (hsz : s.size ≤ 1048600) (w : World) :
    Calls Try.prog 18 #[.string s, .string ⟨#[47]⟩] w fun e w' => e = .returned (.tuple #[.string s, .string ⟨#[]⟩, .bool false]) ∧ w' = w := by
  have HI : Hid (∀ w, Calls Try.prog 20 #[.string s, .string ⟨#[47]⟩] w fun e w' => e = .returned (.int .i64 (-1)) ∧ w' = w) := fun w => by
    have h := Try.stringslite_Index_one s 47 w
    rw [ix_none _ ha] at h; exact h
  clear ha
  go_enter Try.func18, Try.ntmps18
  go_wp2_with fail
  refine (HI.out _).mono ?_
  rintro x w' ⟨rfl, rfl⟩
  go_wp2
  go_ret3
  exact ⟨rfl, rfl⟩

theorem cut_found (s : ByteArray) (a b : List UInt8) (hs : s.data.toList = a ++ 47 :: b) (ha : 47 ∉ a) (hsz : s.size ≤ 1048600) (w : World) :
    Calls Try.prog 16 #[.string s, .string ⟨#[47]⟩] w fun e w' => e = .returned (.tuple #[.string (bs a), .string (bs b), .bool true]) ∧ ∃ n, w' = w.drewN n := by
  have HI : Hid (∀ w, Calls Try.prog 18 #[.string s, .string ⟨#[47]⟩] w fun e w' => e = .returned (.tuple #[.string (bs a), .string (bs b), .bool true]) ∧ ∃ n, w' = w.drewN n) := fun w => cutL_found s a b hs ha hsz w
  clear hs ha
  go_enter Try.func16, Try.ntmps16
  go_wp2_with fail
  refine (HI.out _).mono ?_
  rintro x w' ⟨rfl, n, rfl⟩
  go_wp2
  go_ret3
  exact ⟨rfl, _, rfl⟩

theorem cut_none (s : ByteArray) (ha : 47 ∉ s.data.toList) (hsz : s.size ≤ 1048600) (w : World) :
    Calls Try.prog 16 #[.string s, .string ⟨#[47]⟩] w fun e w' => e = .returned (.tuple #[.string s, .string ⟨#[]⟩, .bool false]) ∧ w' = w := by
  have HI : Hid (∀ w, Calls Try.prog 18 #[.string s, .string ⟨#[47]⟩] w fun e w' => e = .returned (.tuple #[.string s, .string ⟨#[]⟩, .bool false]) ∧ w' = w) := fun w => cutL_none s ha hsz w
  clear ha
  go_enter Try.func16, Try.ntmps16
  go_wp2_with fail
  refine (HI.out _).mono ?_
  rintro x w' ⟨rfl, rfl⟩
  go_wp2
  go_ret3
  exact ⟨rfl, rfl⟩

def api : List UInt8 := [47, 97, 112, 105, 47]
def get : List UInt8 := [103, 101, 116, 47]

theorem pre_yes (s p r : List UInt8) (h : s = p ++ r) : Lib.hasPrefix s p = true ∧ Lib.trimPrefix s p = r := by
  subst h
  have h1 : Lib.hasPrefix (p ++ r) p = true := by unfold Lib.hasPrefix; rw [List.isPrefixOf_iff_prefix]; exact List.prefix_append _ _
  refine ⟨h1, ?_⟩
  unfold Lib.trimPrefix; rw [h1]; simp
theorem pre_no (s p : List UInt8) (h : ¬ p <+: s) : Lib.hasPrefix s p = false ∧ Lib.trimPrefix s p = s := by
  have h1 : Lib.hasPrefix s p = false := by
    rw [Bool.eq_false_iff]; intro e; unfold Lib.hasPrefix at e; rw [List.isPrefixOf_iff_prefix] at e; exact h e
  refine ⟨h1, ?_⟩
  unfold Lib.trimPrefix; rw [h1]; simp

theorem cp_yes (s pb : ByteArray) (r : List UInt8) (h : s.data.toList = pb.data.toList ++ r) (w : World) :
    Calls Try.prog 15 #[.string s, .string pb] w fun e w' => e = .returned (.tuple #[.string (bs r), .bool true]) ∧ w' = w := by
  have hc := Try.strings_CutPrefix s pb w
  obtain ⟨h1, h2⟩ := pre_yes _ _ _ h
  rw [h1, h2] at hc; exact hc
theorem cp_no (s pb : ByteArray) (h : ¬ pb.data.toList <+: s.data.toList) (w : World) :
    Calls Try.prog 15 #[.string s, .string pb] w fun e w' => e = .returned (.tuple #[.string s, .bool false]) ∧ w' = w := by
  have hc := Try.strings_CutPrefix s pb w
  obtain ⟨h1, h2⟩ := pre_no _ _ h
  rw [h1, h2] at hc
  have e : (⟨s.data.toList.toArray⟩ : ByteArray) = s := bs_back s
  rw [e] at hc; exact hc

/-- splitPath where the path does not open with the first word. -/
theorem split_A (s : ByteArray) (h : ¬ api <+: s.data.toList) (w : World) :
    Calls Try.prog 14 #[.string s] w fun e w' => e = .returned (.tuple #[.string ⟨#[]⟩, .string ⟨#[]⟩, .bool false]) ∧ ∃ n, w' = w.drewN n := by
  have HI : Hid (∀ w, Calls Try.prog 15 #[.string s, .string ⟨#[47, 97, 112, 105, 47]⟩] w fun e w' => e = .returned (.tuple #[.string s, .bool false]) ∧ w' = w) := fun w => cp_no s _ h w
  clear h
  go_enter Try.func14, Try.ntmps14
  go_wp2_with fail
  refine (HI.out _).mono ?_
  rintro x w' ⟨rfl, rfl⟩
  go_wp2
  go_ret3
  exact ⟨rfl, 0, rfl⟩

theorem split_B (s : ByteArray) (r : List UInt8) (h : s.data.toList = api ++ r) (hr : 47 ∉ r) (hsz : s.size ≤ 1048600) (w : World) :
    Calls Try.prog 14 #[.string s] w fun e w' => e = .returned (.tuple #[.string ⟨#[]⟩, .string ⟨#[]⟩, .bool false]) ∧ ∃ n, w' = w.drewN n := by
  have HI : Hid (∀ w, Calls Try.prog 15 #[.string s, .string ⟨#[47, 97, 112, 105, 47]⟩] w fun e w' => e = .returned (.tuple #[.string (bs r), .bool true]) ∧ w' = w) := fun w => cp_yes s _ r h w
  have hl : (bs r).size ≤ 1048600 := by
    have : s.data.toList.length = s.size := Array.length_toList
    rw [h] at this; simp [api] at this; rw [bs_size]; omega
  have HC : Hid (∀ w, Calls Try.prog 16 #[.string (bs r), .string ⟨#[47]⟩] w fun e w' => e = .returned (.tuple #[.string (bs r), .string ⟨#[]⟩, .bool false]) ∧ w' = w) := fun w => cut_none (bs r) (by rw [bs_toList]; exact hr) hl w
  clear h hr
  go_enter Try.func14, Try.ntmps14
  go_wp2_with fail
  refine (HI.out _).mono ?_
  rintro x w' ⟨rfl, rfl⟩
  go_wp2_with fail
  refine (HC.out _).mono ?_
  rintro x w' ⟨rfl, rfl⟩
  go_wp2
  go_ret3
  exact ⟨rfl, 0, rfl⟩

theorem split_CD (s : ByteArray) (m r t : List UInt8) (ok : Bool) (h : s.data.toList = api ++ (m ++ 47 :: r)) (hm : 47 ∉ m) (hok : (ok = true ∧ r = get ++ t) ∨ (ok = false ∧ t = r ∧ ¬ get <+: r)) (hsz : s.size ≤ 1048600) (w : World) :
    Calls Try.prog 14 #[.string s] w fun e w' => e = .returned (.tuple #[.string (bs m), .string (bs t), .bool ok]) ∧ ∃ n, w' = w.drewN n := by
  have HI : Hid (∀ w, Calls Try.prog 15 #[.string s, .string ⟨#[47, 97, 112, 105, 47]⟩] w fun e w' => e = .returned (.tuple #[.string (bs (m ++ 47 :: r)), .bool true]) ∧ w' = w) := fun w => cp_yes s _ _ h w
  have hl : (bs (m ++ 47 :: r)).size ≤ 1048600 := by
    have : s.data.toList.length = s.size := Array.length_toList
    rw [h] at this; simp [api] at this; rw [bs_size]; simp; omega
  have HC : Hid (∀ w, Calls Try.prog 16 #[.string (bs (m ++ 47 :: r)), .string ⟨#[47]⟩] w fun e w' => e = .returned (.tuple #[.string (bs m), .string (bs r), .bool true]) ∧ ∃ n, w' = w.drewN n) := fun w => cut_found (bs (m ++ 47 :: r)) m r (by rw [bs_toList]) hm hl w
  have HG : Hid (∀ w, Calls Try.prog 15 #[.string (bs r), .string ⟨#[103, 101, 116, 47]⟩] w fun e w' => e = .returned (.tuple #[.string (bs t), .bool ok]) ∧ w' = w) := fun w => by
    rcases hok with ⟨rfl, e⟩ | ⟨rfl, rfl, e⟩
    · exact cp_yes (bs r) _ t (by rw [bs_toList, e]; rfl) w
    · exact cp_no (bs t) _ (by rw [bs_toList]; exact e) w
  clear h hm hok
  go_enter Try.func14, Try.ntmps14
  go_wp2_with fail
  refine (HI.out _).mono ?_
  rintro x w' ⟨rfl, rfl⟩
  go_wp2_with fail
  refine (HC.out _).mono ?_
  rintro x w' ⟨rfl, n, rfl⟩
  go_wp2_with fail
  refine (HG.out _).mono ?_
  rintro x w' ⟨rfl, rfl⟩
  go_wp2
  go_ret3
  exact ⟨rfl, _, rfl⟩

/-- The exported shim. -/
theorem zz_of (s : ByteArray) (v1 v2 : ByteArray) (ok : Bool) (h : ∀ w, Calls Try.prog 14 #[.string s] w fun e w' => e = .returned (.tuple #[.string v1, .string v2, .bool ok]) ∧ ∃ n, w' = w.drewN n) (w : World) :
    Calls Try.prog 7 #[.string s] w fun e w' => e = .returned (.tuple #[.string v1, .string v2, .bool ok]) ∧ ∃ n, w' = w.drewN n := by
  have HI : Hid (∀ w, Calls Try.prog 14 #[.string s] w fun e w' => e = .returned (.tuple #[.string v1, .string v2, .bool ok]) ∧ ∃ n, w' = w.drewN n) := h
  clear h
  go_enter Try.func7, Try.ntmps7
  go_wp2_with fail
  refine (HI.out _).mono ?_
  rintro x w' ⟨rfl, n, rfl⟩
  go_wp2
  go_ret3
  exact ⟨rfl, _, rfl⟩
end Go.Proofs.Qxb6603466a

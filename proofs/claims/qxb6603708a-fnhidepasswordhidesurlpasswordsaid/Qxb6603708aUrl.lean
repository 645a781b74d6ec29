import Derived.Test.Qxb6603708aWays
namespace Go.Proofs.Qxb6603708a
open Go.RowKit
set_option linter.unusedVariables false

def has (s : ByteArray) (c : UInt8) : Bool := s.data.toList.contains c

theorem has_true (s : ByteArray) (c : UInt8) (k : Nat) (h : k < s.size) (e : s[k] = c) : has s c = true := by
  unfold has; rw [List.contains_iff_mem, ← e]
  show s.data[k] ∈ _
  simp
theorem has_false (s : ByteArray) (c : UInt8) (h : ∀ j (hj : j < s.size), s[j] ≠ c) : has s c = false := by
  unfold has
  rw [Bool.eq_false_iff]; intro hc
  rw [List.contains_iff_mem] at hc
  obtain ⟨i, hi, e⟩ := List.mem_iff_getElem.1 hc
  exact h i (by simpa using hi) (by rw [← e]; rfl)

theorem zzContains_any (s : ByteArray) (b : UInt8) (hs : s.size ≤ maxLen) (w : World) :
    Calls Try.prog 12 #[.string s, .int .u8 b.toNat] w fun e w' => e = .returned (.bool (has s b)) ∧ w' = w := by
  unfold maxLen at hs
  go_enter Try.func12, Try.ntmps12
  go_wp2
  go_loop [5] (fun i => ∃ k : Nat, k ≤ s.size ∧ i = .int .i64 k ∧ ∀ j (hj : j < k) (h : j < s.size), s[j] ≠ b) (fun i => s.size - (intOf i).toNat)
  case atStart => exact ⟨0, Nat.zero_le _, rfl, fun j hj => absurd hj (by omega)⟩
  case round =>
    obtain ⟨k, hk, rfl, hno⟩ := hrel
    have HN : Hid (∀ j (hj : j < k) (h : j < s.size), s[j] ≠ b) := hno
    clear hno
    by_cases hlt : k < s.size
    · go_wp2
      · have h : ((s[k].toNat : Int) == (b.toNat : Int)) = true := by assumption
        go_ret
        exact ⟨ret_bool (has_true s b k hlt (byte_eq _ _ h)).symm, rfl⟩
      · have h : ((s[k].toNat : Int) == (b.toNat : Int)) = false := by assumption
        go_round
        case rel =>
          refine ⟨k + 1, by omega, by go_num, fun j hj hjs => ?_⟩
          by_cases e : j = k
          · subst e; intro h'; rw [h'] at h; simp at h
          · exact HN.out j (by omega) hjs
        case measure => simp [intOf]; omega
    · go_wp2
      go_ret
      exact ⟨ret_bool (has_false s b (fun j hj => HN.out j (by omega) hj)).symm, rfl⟩

def sum4 (a b c d : ByteArray) : Bool := decide ((a.size : Int) + b.size + c.size + d.size ≤ 1048576)

set_option maxHeartbeats 1000000 in
theorem bytes11_any (a b c d : ByteArray) (wa : a.size ≤ maxLen) (wb : b.size ≤ maxLen) (wc : c.size ≤ maxLen) (wd : d.size ≤ maxLen) (w : World) :
    Calls Try.prog 11 #[.string a, .string b, .string c, .string d] w fun e w' => e = .returned (.bool (sum4 a b c d)) ∧ w' = w := by
  unfold maxLen at wa wb wc wd
  obtain ⟨r, hr⟩ : ∃ r, r = sum4 a b c d := ⟨_, rfl⟩
  rw [← hr]
  by_cases h1 : (1048576 : Int) < a.size
  · have h : r = false := by rw [hr]; unfold sum4; simp; omega
    rw [h]; clear hr h
    go_enter Try.func11, Try.ntmps11
    go_wp2
    go_ret
    exact ⟨rfl, rfl⟩
  by_cases h2 : (1048576 : Int) < b.size
  · have h : r = false := by rw [hr]; unfold sum4; simp; omega
    rw [h]; clear hr h
    go_enter Try.func11, Try.ntmps11
    go_wp2
    go_ret
    exact ⟨rfl, rfl⟩
  by_cases h3 : (1048576 : Int) < (a.size : Int) + b.size
  · have h : r = false := by rw [hr]; unfold sum4; simp; omega
    rw [h]; clear hr h
    go_enter Try.func11, Try.ntmps11
    go_wp2
    go_ret
    exact ⟨rfl, rfl⟩
  by_cases h4 : (1048576 : Int) < c.size
  · have h : r = false := by rw [hr]; unfold sum4; simp; omega
    rw [h]; clear hr h
    go_enter Try.func11, Try.ntmps11
    go_wp2
    go_ret
    exact ⟨rfl, rfl⟩
  by_cases h5 : (1048576 : Int) < (a.size : Int) + b.size + c.size
  · have h : r = false := by rw [hr]; unfold sum4; simp; omega
    rw [h]; clear hr h
    go_enter Try.func11, Try.ntmps11
    go_wp2
    go_ret
    exact ⟨rfl, rfl⟩
  by_cases h6 : (1048576 : Int) < d.size
  · have h : r = false := by rw [hr]; unfold sum4; simp; omega
    rw [h]; clear hr h
    go_enter Try.func11, Try.ntmps11
    go_wp2
    go_ret
    exact ⟨rfl, rfl⟩
  by_cases h7 : (1048576 : Int) < (a.size : Int) + b.size + c.size + d.size
  · have h : r = false := by rw [hr]; unfold sum4; simp; omega
    rw [h]; clear hr h
    go_enter Try.func11, Try.ntmps11
    go_wp2
    go_ret
    exact ⟨rfl, rfl⟩
  · have h : r = true := by rw [hr]; unfold sum4; simp; omega
    rw [h]; clear hr h
    go_enter Try.func11, Try.ntmps11
    go_wp2
    go_ret
    exact ⟨rfl, rfl⟩

theorem app_toList (a b : ByteArray) : (a ++ b).data.toList = a.data.toList ++ b.data.toList := by
  rw [ByteArray.data_append]; simp
theorem app_size (a b : ByteArray) : (a ++ b).size = a.size + b.size := ByteArray.size_append
theorem of_lists (x y : ByteArray) (h : x.data.toList = y.data.toList) : x = y := ByteArray.ext (Array.toList_inj.1 h)

/-- The text that the law writes. -/
def url (a b c d : ByteArray) : ByteArray := a ++ ⟨#[58, 47, 47]⟩ ++ b ++ ⟨#[58]⟩ ++ c ++ ⟨#[64]⟩ ++ d
def want (a b d : ByteArray) : ByteArray := a ++ ⟨#[58, 47, 47]⟩ ++ b ++ ⟨#[58, 120, 120, 120, 120, 120, 64]⟩ ++ d

theorem url_list (a b c d : ByteArray) : (url a b c d).data.toList = a.data.toList ++ ([58, 47, 47] ++ (b.data.toList ++ (58 :: (c.data.toList ++ (64 :: d.data.toList))))) := by
  unfold url
  simp only [app_toList]; simp
theorem want_list (a b d : ByteArray) : (want a b d).data.toList = a.data.toList ++ ([58, 47, 47] ++ (b.data.toList ++ (58 :: ([120, 120, 120, 120, 120] ++ (64 :: d.data.toList))))) := by
  unfold want
  simp only [app_toList]; simp

theorem not_has (s : ByteArray) (c : UInt8) (h : has s c = false) (j : Nat) : s.data.toList[j]? ≠ some c := by
  intro e
  have : has s c = true := by unfold has; rw [List.contains_iff_mem]; exact List.mem_of_getElem? e
  rw [this] at h; cases h

theorem len_of (s : ByteArray) : s.data.toList.length = s.size := Array.length_toList

theorem url_hide (a b c d : ByteArray) (hs : (url a b c d).size ≤ 1048700) (ha : has a 58 = false) (hb : has b 58 = false) (hd : has d 64 = false) (w : World) :
    Calls Try.prog 10 #[.string (url a b c d)] w fun x w' => x = .returned (.string (want a b d)) ∧ ∃ n, w' = w.drewN n := by
  have hl := url_list a b c d
  have la := len_of a; have lb := len_of b; have lc := len_of c; have ld := len_of d
  have A : ∀ j, j < a.size → at? (url a b c d) j ≠ some 58 := fun j hj => by
    unfold at?; rw [hl, List.getElem?_append_left (by omega)]; exact not_has a 58 ha j
  have R : ∀ j, at? (url a b c d) (a.size + j) = ([58, 47, 47] ++ (b.data.toList ++ (58 :: (c.data.toList ++ (64 :: d.data.toList)))))[j]? := fun j => by
    unfold at?; rw [hl, List.getElem?_append_right (by omega), la, Nat.add_sub_cancel_left]
  have RB : ∀ j, at? (url a b c d) (a.size + 3 + j) = (b.data.toList ++ (58 :: (c.data.toList ++ (64 :: d.data.toList))))[j]? := fun j => by
    rw [Nat.add_assoc, R, List.getElem?_append_right (by simp)]; simp
  have RC : ∀ j, at? (url a b c d) (a.size + 3 + b.size + j) = (58 :: (c.data.toList ++ (64 :: d.data.toList)))[j]? := fun j => by
    rw [Nat.add_assoc, RB, List.getElem?_append_right (by omega), lb, Nat.add_sub_cancel_left]
  have RD : ∀ j, at? (url a b c d) (a.size + 3 + b.size + 1 + c.size + j) = (64 :: d.data.toList)[j]? := fun j => by
    have e : a.size + 3 + b.size + 1 + c.size + j = a.size + 3 + b.size + (c.size + j + 1) := by omega
    rw [e, RC, List.getElem?_cons_succ, List.getElem?_append_right (by omega), lc, Nat.add_sub_cancel_left]
  have hsz : (url a b c d).size = a.size + 3 + b.size + 1 + c.size + 1 + d.size := by
    rw [← len_of, hl]; simp; omega
  have hE : LastAt (url a b c d) (a.size + 3 + b.size + 1 + c.size) := by
    refine ⟨by have := RD 0; simpa using this, fun j hj => ?_⟩
    obtain ⟨t, ht⟩ : ∃ t, j = a.size + 3 + b.size + 1 + c.size + (t + 1) := ⟨j - (a.size + 3 + b.size + 1 + c.size) - 1, by omega⟩
    rw [ht, RD, List.getElem?_cons_succ]; exact not_has d 64 hd t
  have hC : FirstColon (url a b c d) a.size := ⟨by have := R 0; simpa using this, A⟩
  have hsl : sl (url a b c d) a.size := ⟨by rw [R]; rfl, by rw [R]; rfl⟩
  have hD : at? (url a b c d) (a.size + 3 + b.size) = some 58 := by have := RC 0; simpa using this
  have hno : ∀ j, a.size < j → j < a.size + 3 + b.size → at? (url a b c d) j ≠ some 58 := by
    intro j h1 h2
    by_cases e1 : j = a.size + 1
    · rw [e1, R]; simp
    by_cases e2 : j = a.size + 2
    · rw [e2, R]; simp
    obtain ⟨t, ht⟩ : ∃ t, j = a.size + 3 + t := ⟨j - (a.size + 3), by omega⟩
    rw [ht, RB, List.getElem?_append_left (by omega)]
    exact not_has b 58 hb t
  refine (hide_W4 (url a b c d) hs _ _ _ hE hC hsl (by omega) (by omega) hD hno w).mono ?_
  rintro x w' ⟨rfl, hw⟩
  refine ⟨ret_str ?_, hw⟩
  apply of_lists
  rw [app_toList, app_toList, Lib.extract_data, Lib.extract_data, want_list, hl, hsz]
  have e1 : (List.drop 0 (a.data.toList ++ ([58, 47, 47] ++ (b.data.toList ++ 58 :: (c.data.toList ++ 64 :: d.data.toList))))).take (a.size + 3 + b.size + 1 - 0) = a.data.toList ++ ([58, 47, 47] ++ (b.data.toList ++ [58])) := by
    have e : a.data.toList ++ ([58, 47, 47] ++ (b.data.toList ++ 58 :: (c.data.toList ++ 64 :: d.data.toList))) = (a.data.toList ++ ([58, 47, 47] ++ (b.data.toList ++ [58]))) ++ (c.data.toList ++ 64 :: d.data.toList) := by simp
    rw [List.drop_zero, e, List.take_append_of_le_length (by simp; omega), List.take_of_length_le (by simp; omega)]
  have e2 : (List.drop (a.size + 3 + b.size + 1 + c.size) (a.data.toList ++ ([58, 47, 47] ++ (b.data.toList ++ 58 :: (c.data.toList ++ 64 :: d.data.toList))))).take (a.size + 3 + b.size + 1 + c.size + 1 + d.size - (a.size + 3 + b.size + 1 + c.size)) = 64 :: d.data.toList := by
    have e : a.data.toList ++ ([58, 47, 47] ++ (b.data.toList ++ 58 :: (c.data.toList ++ 64 :: d.data.toList))) = (a.data.toList ++ ([58, 47, 47] ++ (b.data.toList ++ 58 :: c.data.toList))) ++ (64 :: d.data.toList) := by simp
    rw [e, List.drop_append_of_le_length (by simp; omega), List.drop_of_length_le (by simp; omega), List.nil_append, List.take_of_length_le (by simp; omega)]
  rw [e1, e2]
  simp [xs5]
end Go.Proofs.Qxb6603708a

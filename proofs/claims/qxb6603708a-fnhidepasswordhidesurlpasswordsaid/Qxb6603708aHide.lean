import Derived.Test.Qxb6603708aPlain
namespace Go.Proofs.Qxb6603708a
open Go.RowKit
set_option linter.unusedVariables false

def xs5 : ByteArray := ⟨#[120, 120, 120, 120, 120]⟩

/-- How the start of the userinfo is found. -/
def Start (s : ByteArray) (st : Nat) : Prop :=
  (st = 0 ∧ (∀ w, Calls Try.prog 15 #[.string s, .int .u8 58] w fun e w' => e = .returned (.int .i64 (-1)) ∧ w' = w)) ∨
  ∃ c : Nat, c < s.size ∧ (∀ w, Calls Try.prog 15 #[.string s, .int .u8 58] w fun e w' => e = .returned (.int .i64 c) ∧ w' = w) ∧
    ((st = 0 ∧ ∀ w, Calls Try.prog 16 #[.string (s.extract (c + 1) s.size), .string ⟨#[47, 47]⟩] w fun e w' => e = .returned (.bool false) ∧ w' = w) ∨
     (st = c + 3 ∧ st ≤ s.size ∧ ∀ w, Calls Try.prog 16 #[.string (s.extract (c + 1) s.size), .string ⟨#[47, 47]⟩] w fun e w' => e = .returned (.bool true) ∧ w' = w))

/-- How it ends. -/
def Finish (s : ByteArray) (st : Nat) (res : ByteArray) : Prop :=
  (∃ ev : Int, ev < st ∧ -1 ≤ ev ∧ res = s ∧ ∀ w, Calls Try.prog 17 #[.string s, .int .u8 64] w fun e w' => e = .returned (.int .i64 ev) ∧ w' = w) ∨
  ∃ e : Nat, st ≤ e ∧ e < s.size ∧ (∀ w, Calls Try.prog 17 #[.string s, .int .u8 64] w fun x w' => x = .returned (.int .i64 e) ∧ w' = w) ∧
    ((res = s ∧ ∀ w, Calls Try.prog 15 #[.string (s.extract st e), .int .u8 58] w fun x w' => x = .returned (.int .i64 (-1)) ∧ w' = w) ∨
     ∃ k : Nat, st + k < e ∧ res = s.extract 0 (st + k + 1) ++ xs5 ++ s.extract e s.size ∧ ∀ w, Calls Try.prog 15 #[.string (s.extract st e), .int .u8 58] w fun x w' => x = .returned (.int .i64 k) ∧ w' = w)

set_option maxHeartbeats 4000000 in
theorem hide_zero_none (s res : ByteArray) (hs : s.size ≤ 1048700) (hI : ∀ w, Calls Try.prog 15 #[.string s, .int .u8 58] w fun e w' => e = .returned (.int .i64 (-1)) ∧ w' = w) (hF : Finish s 0 res) (w : World) :
    Calls Try.prog 14 #[.string s] w fun e w' => e = .returned (.string res) ∧ ∃ n, w' = w.drewN n := by
  have HI : Hid (∀ w, Calls Try.prog 15 #[.string s, .int .u8 58] w fun e w' => e = .returned (.int .i64 (-1)) ∧ w' = w) := hI
  clear hI
  rcases hF with ⟨ev, hev, hev1, rfl, hL⟩ | ⟨e, he, hes, hL, hX⟩
  · have HL : Hid (∀ w, Calls Try.prog 17 #[.string res, .int .u8 64] w fun e w' => e = .returned (.int .i64 ev) ∧ w' = w) := hL
    clear hL
    go_enter Try.func14, Try.ntmps14
    go_wp2_with fail
    refine (HI.out _).mono ?_
    rintro x w' ⟨rfl, rfl⟩
    go_wp2_with fail
    refine (HL.out _).mono ?_
    rintro x w' ⟨rfl, rfl⟩
    go_wp2
    go_ret
    exact ⟨rfl, 0, rfl⟩
  · have HL : Hid (∀ w, Calls Try.prog 17 #[.string s, .int .u8 64] w fun x w' => x = .returned (.int .i64 e) ∧ w' = w) := hL
    clear hL
    rcases hX with ⟨rfl, hX⟩ | ⟨k, hk, hres, hX⟩
    · have HX : Hid (∀ w, Calls Try.prog 15 #[.string (res.extract 0 e), .int .u8 58] w fun x w' => x = .returned (.int .i64 (-1)) ∧ w' = w) := hX
      clear hX
      go_enter Try.func14, Try.ntmps14
      go_wp2_with fail
      refine (HI.out _).mono ?_
      rintro x w' ⟨rfl, rfl⟩
      go_wp2_with fail
      refine (HL.out _).mono ?_
      rintro x w' ⟨rfl, rfl⟩
      go_wp2_with fail
      refine (HX.out _).mono ?_
      rintro x w' ⟨rfl, rfl⟩
      go_wp2
      go_ret
      exact ⟨rfl, 0, rfl⟩
    · have HX : Hid (∀ w, Calls Try.prog 15 #[.string (s.extract 0 e), .int .u8 58] w fun x w' => x = .returned (.int .i64 k) ∧ w' = w) := hX
      obtain ⟨q, hq⟩ : ∃ q, q = k + 1 := ⟨_, rfl⟩
      have hq1 : (k : Int) + 1 = (q : Int) := by omega
      have hqs : q ≤ s.size := by omega
      have HR : Hid (res = s.extract 0 q ++ xs5 ++ s.extract e s.size) := by
        rw [hres, hq, show 0 + k + 1 = k + 1 from by omega]; exact rfl
      clear hX hq hres
      go_enter Try.func14, Try.ntmps14
      go_wp2_with fail
      refine (HI.out _).mono ?_
      rintro x w' ⟨rfl, rfl⟩
      go_wp2_with fail
      refine (HL.out _).mono ?_
      rintro x w' ⟨rfl, rfl⟩
      go_wp2_with fail
      refine (HX.out _).mono ?_
      rintro x w' ⟨rfl, rfl⟩
      go_wp2
      go_big_quiet (fail)
      go_wp2
      go_ret
      refine ⟨?_, _, rfl⟩
      exact ret_str HR.out.symm
set_option maxHeartbeats 4000000 in
theorem hide_zero_pre (s res : ByteArray) (c : Nat) (hc : c < s.size) (hs : s.size ≤ 1048700) (hI : ∀ w, Calls Try.prog 15 #[.string s, .int .u8 58] w fun e w' => e = .returned (.int .i64 c) ∧ w' = w) (hP : ∀ w, Calls Try.prog 16 #[.string (s.extract (c + 1) s.size), .string ⟨#[47, 47]⟩] w fun e w' => e = .returned (.bool false) ∧ w' = w) (hF : Finish s 0 res) (w : World) :
    Calls Try.prog 14 #[.string s] w fun e w' => e = .returned (.string res) ∧ ∃ n, w' = w.drewN n := by
  have HI : Hid (∀ w, Calls Try.prog 15 #[.string s, .int .u8 58] w fun e w' => e = .returned (.int .i64 c) ∧ w' = w) := hI
  have HP : Hid (∀ w, Calls Try.prog 16 #[.string (s.extract (c + 1) s.size), .string ⟨#[47, 47]⟩] w fun e w' => e = .returned (.bool false) ∧ w' = w) := hP
  clear hI hP
  rcases hF with ⟨ev, hev, hev1, rfl, hL⟩ | ⟨e, he, hes, hL, hX⟩
  · have HL : Hid (∀ w, Calls Try.prog 17 #[.string res, .int .u8 64] w fun e w' => e = .returned (.int .i64 ev) ∧ w' = w) := hL
    clear hL
    go_enter Try.func14, Try.ntmps14
    go_wp2_with fail
    refine (HI.out _).mono ?_
    rintro x w' ⟨rfl, rfl⟩
    go_wp2_with fail
    refine (HP.out _).mono ?_
    rintro x w' ⟨rfl, rfl⟩
    go_wp2_with fail
    refine (HL.out _).mono ?_
    rintro x w' ⟨rfl, rfl⟩
    go_wp2
    go_ret
    exact ⟨rfl, 0, rfl⟩
  · have HL : Hid (∀ w, Calls Try.prog 17 #[.string s, .int .u8 64] w fun x w' => x = .returned (.int .i64 e) ∧ w' = w) := hL
    clear hL
    rcases hX with ⟨rfl, hX⟩ | ⟨k, hk, hres, hX⟩
    · have HX : Hid (∀ w, Calls Try.prog 15 #[.string (res.extract 0 e), .int .u8 58] w fun x w' => x = .returned (.int .i64 (-1)) ∧ w' = w) := hX
      clear hX
      go_enter Try.func14, Try.ntmps14
      go_wp2_with fail
      refine (HI.out _).mono ?_
      rintro x w' ⟨rfl, rfl⟩
      go_wp2_with fail
      refine (HP.out _).mono ?_
      rintro x w' ⟨rfl, rfl⟩
      go_wp2_with fail
      refine (HL.out _).mono ?_
      rintro x w' ⟨rfl, rfl⟩
      go_wp2_with fail
      refine (HX.out _).mono ?_
      rintro x w' ⟨rfl, rfl⟩
      go_wp2
      go_ret
      exact ⟨rfl, 0, rfl⟩
    · have HX : Hid (∀ w, Calls Try.prog 15 #[.string (s.extract 0 e), .int .u8 58] w fun x w' => x = .returned (.int .i64 k) ∧ w' = w) := hX
      obtain ⟨q, hq⟩ : ∃ q, q = k + 1 := ⟨_, rfl⟩
      have hq1 : (k : Int) + 1 = (q : Int) := by omega
      have hqs : q ≤ s.size := by omega
      have HR : Hid (res = s.extract 0 q ++ xs5 ++ s.extract e s.size) := by
        rw [hres, hq, show 0 + k + 1 = k + 1 from by omega]; exact rfl
      clear hX hq hres
      go_enter Try.func14, Try.ntmps14
      go_wp2_with fail
      refine (HI.out _).mono ?_
      rintro x w' ⟨rfl, rfl⟩
      go_wp2_with fail
      refine (HP.out _).mono ?_
      rintro x w' ⟨rfl, rfl⟩
      go_wp2_with fail
      refine (HL.out _).mono ?_
      rintro x w' ⟨rfl, rfl⟩
      go_wp2_with fail
      refine (HX.out _).mono ?_
      rintro x w' ⟨rfl, rfl⟩
      go_wp2
      go_big_quiet (fail)
      go_wp2
      go_ret
      refine ⟨?_, _, rfl⟩
      exact ret_str HR.out.symm
set_option maxHeartbeats 4000000 in
theorem hide_three (s res : ByteArray) (c : Nat) (st : Nat) (hc : c < s.size) (hs : s.size ≤ 1048700) (hI : ∀ w, Calls Try.prog 15 #[.string s, .int .u8 58] w fun e w' => e = .returned (.int .i64 c) ∧ w' = w) (hP : ∀ w, Calls Try.prog 16 #[.string (s.extract (c + 1) s.size), .string ⟨#[47, 47]⟩] w fun e w' => e = .returned (.bool true) ∧ w' = w) (hF : Finish s st res) (hst : st = c + 3) (hsts : st ≤ s.size) (w : World) :
    Calls Try.prog 14 #[.string s] w fun e w' => e = .returned (.string res) ∧ ∃ n, w' = w.drewN n := by
  have HI : Hid (∀ w, Calls Try.prog 15 #[.string s, .int .u8 58] w fun e w' => e = .returned (.int .i64 c) ∧ w' = w) := hI
  have HP : Hid (∀ w, Calls Try.prog 16 #[.string (s.extract (c + 1) s.size), .string ⟨#[47, 47]⟩] w fun e w' => e = .returned (.bool true) ∧ w' = w) := hP
  clear hI hP
  have hst3 : (c : Int) + 3 = (st : Int) := by omega
  have HST : Hid (st = c + 3) := hst
  clear hst
  rcases hF with ⟨ev, hev, hev1, rfl, hL⟩ | ⟨e, he, hes, hL, hX⟩
  · have HL : Hid (∀ w, Calls Try.prog 17 #[.string res, .int .u8 64] w fun e w' => e = .returned (.int .i64 ev) ∧ w' = w) := hL
    clear hL
    go_enter Try.func14, Try.ntmps14
    go_wp2_with fail
    refine (HI.out _).mono ?_
    rintro x w' ⟨rfl, rfl⟩
    go_wp2_with fail
    refine (HP.out _).mono ?_
    rintro x w' ⟨rfl, rfl⟩
    go_wp2_with fail
    refine (HL.out _).mono ?_
    rintro x w' ⟨rfl, rfl⟩
    go_wp2
    go_ret
    exact ⟨rfl, 0, rfl⟩
  · have HL : Hid (∀ w, Calls Try.prog 17 #[.string s, .int .u8 64] w fun x w' => x = .returned (.int .i64 e) ∧ w' = w) := hL
    clear hL
    rcases hX with ⟨rfl, hX⟩ | ⟨k, hk, hres, hX⟩
    · have HX : Hid (∀ w, Calls Try.prog 15 #[.string (res.extract st e), .int .u8 58] w fun x w' => x = .returned (.int .i64 (-1)) ∧ w' = w) := hX
      clear hX
      go_enter Try.func14, Try.ntmps14
      go_wp2_with fail
      refine (HI.out _).mono ?_
      rintro x w' ⟨rfl, rfl⟩
      go_wp2_with fail
      refine (HP.out _).mono ?_
      rintro x w' ⟨rfl, rfl⟩
      go_wp2_with fail
      refine (HL.out _).mono ?_
      rintro x w' ⟨rfl, rfl⟩
      go_wp2_with fail
      refine (HX.out _).mono ?_
      rintro x w' ⟨rfl, rfl⟩
      go_wp2
      go_ret
      exact ⟨rfl, 0, rfl⟩
    · have HX : Hid (∀ w, Calls Try.prog 15 #[.string (s.extract st e), .int .u8 58] w fun x w' => x = .returned (.int .i64 k) ∧ w' = w) := hX
      obtain ⟨r, hr⟩ : ∃ r, r = st + k := ⟨_, rfl⟩
      have hr1 : (st : Int) + (k : Int) = (r : Int) := by omega
      obtain ⟨q, hq⟩ : ∃ q, q = r + 1 := ⟨_, rfl⟩
      have hq1 : (r : Int) + 1 = (q : Int) := by omega
      have hqs : q ≤ s.size := by omega
      have HR : Hid (res = s.extract 0 q ++ xs5 ++ s.extract e s.size) := by
        rw [hres, hq, hr]; exact rfl
      clear hX hq hr hres
      go_enter Try.func14, Try.ntmps14
      go_wp2_with fail
      refine (HI.out _).mono ?_
      rintro x w' ⟨rfl, rfl⟩
      go_wp2_with fail
      refine (HP.out _).mono ?_
      rintro x w' ⟨rfl, rfl⟩
      go_wp2_with fail
      refine (HL.out _).mono ?_
      rintro x w' ⟨rfl, rfl⟩
      go_wp2_with fail
      refine (HX.out _).mono ?_
      rintro x w' ⟨rfl, rfl⟩
      go_wp2
      go_big_quiet (fail)
      go_wp2
      go_ret
      refine ⟨?_, _, rfl⟩
      exact ret_str HR.out.symm

/-- hidePassword, by how it starts and how it ends. -/
theorem hide_any (s res : ByteArray) (st : Nat) (hs : s.size ≤ 1048700) (hS : Start s st) (hF : Finish s st res) (w : World) :
    Calls Try.prog 14 #[.string s] w fun e w' => e = .returned (.string res) ∧ ∃ n, w' = w.drewN n := by
  rcases hS with ⟨rfl, hI⟩ | ⟨c, hc, hI, ⟨rfl, hP⟩ | ⟨hst, hsts, hP⟩⟩
  · exact hide_zero_none s res hs hI hF w
  · exact hide_zero_pre s res c hc hs hI hP hF w
  · exact hide_three s res c st hc hs hI hP hF hst hsts w

theorem zz_any (s res : ByteArray) (st : Nat) (hs : s.size ≤ 1048700) (hS : Start s st) (hF : Finish s st res) (w : World) :
    Calls Try.prog 10 #[.string s] w fun e w' => e = .returned (.string res) ∧ ∃ n, w' = w.drewN n := by
  have HI : Hid (∀ w, Calls Try.prog 14 #[.string s] w fun e w' => e = .returned (.string res) ∧ ∃ n, w' = w.drewN n) := fun w => hide_any s res st hs hS hF w
  clear hS hF
  go_enter Try.func10, Try.ntmps10
  go_wp2_with fail
  refine (HI.out _).mono ?_
  rintro x w' ⟨rfl, n, rfl⟩
  go_wp2
  go_ret
  exact ⟨rfl, _, rfl⟩
end Go.Proofs.Qxb6603708a

import Derived.Test.Qxb6603573aMark
import Derived.Lib.SliceRun
namespace Go.Proofs.Qxb6603573a
open Go.RowKit
set_option linter.unusedVariables false

def ends (l : List UInt8) : Bool := mk1 (pl 0) l || mk1 (pl 1) l

theorem mk_ways (l : List UInt8) : (mk l = [45, 45, 45] ∧ ends l = true) ∨ (mk l = [46, 46, 46] ∧ ends l = true) ∨ (mk l = [] ∧ ends l = false) := by
  unfold mk ends
  by_cases h0 : mk1 (pl 0) l = true
  · left; rw [if_pos h0, h0]; exact ⟨rfl, rfl⟩
  · have h0' : mk1 (pl 0) l = false := by simpa using h0
    by_cases h1 : mk1 (pl 1) l = true
    · right; left; rw [if_neg h0, if_pos h1, h0', h1]; exact ⟨rfl, rfl⟩
    · have h1' : mk1 (pl 1) l = false := by simpa using h1
      right; right; rw [if_neg h0, if_neg h1, h0', h1']; exact ⟨rfl, rfl⟩

theorem endsDocument_any (g o n c : Nat) (l : List UInt8) (hn : n = l.length) (h1 : 1 ≤ n) (w : World) (hc : n ≤ c) (hl : n ≤ 2097152) (hh : Holds w g o l) :
    Calls Try.prog 17 #[.slice (some ⟨g, o, none⟩) n c] w fun e w' => e = .returned (.bool (ends l)) ∧ Below w.heap.size w w' := by
  have hz : ((n : Int) == 0) = false := by simp; omega
  have hM := marker_any g o c l w (by omega) (by omega) hh
  rw [← hn] at hM
  rcases mk_ways l with ⟨e, e2⟩ | ⟨e, e2⟩ | ⟨e, e2⟩
  · rw [e] at hM
    rw [e2]
    have HM : Hid (Calls Try.prog 21 #[.slice (some ⟨g, o, none⟩) n c] w fun e w' => e = .returned (.string ⟨#[45, 45, 45]⟩) ∧ Below w.heap.size w w') := hM
    clear hM e e2 hn
    go_enter Try.func17, Try.ntmps17
    go_wp2_with fail
    refine HM.out.mono ?_
    rintro x w' ⟨rfl, hb⟩
    go_wp2
    go_ret
    exact ⟨rfl, hb⟩
  · rw [e] at hM
    rw [e2]
    have HM : Hid (Calls Try.prog 21 #[.slice (some ⟨g, o, none⟩) n c] w fun e w' => e = .returned (.string ⟨#[46, 46, 46]⟩) ∧ Below w.heap.size w w') := hM
    clear hM e e2 hn
    go_enter Try.func17, Try.ntmps17
    go_wp2_with fail
    refine HM.out.mono ?_
    rintro x w' ⟨rfl, hb⟩
    go_wp2
    go_ret
    exact ⟨rfl, hb⟩
  · rw [e] at hM
    rw [e2]
    have HM : Hid (Calls Try.prog 21 #[.slice (some ⟨g, o, none⟩) n c] w fun e w' => e = .returned (.string ⟨#[]⟩) ∧ Below w.heap.size w w') := hM
    clear hM e e2 hn
    go_enter Try.func17, Try.ntmps17
    go_wp2_with fail
    refine HM.out.mono ?_
    rintro x w' ⟨rfl, hb⟩
    go_wp2
    go_ret
    exact ⟨rfl, hb⟩

theorem zzEnds_any (g o n c : Nat) (l : List UInt8) (hn : n = l.length) (h1 : 1 ≤ n) (w : World) (hc : n ≤ c) (hl : n ≤ 2097152) (hh : Holds w g o l) :
    Calls Try.prog 8 #[.slice (some ⟨g, o, none⟩) n c] w fun e w' => e = .returned (.bool (ends l)) ∧ Below w.heap.size w w' := by
  have HM : Hid (Calls Try.prog 17 #[.slice (some ⟨g, o, none⟩) n c] w fun e w' => e = .returned (.bool (ends l)) ∧ Below w.heap.size w w') := endsDocument_any g o n c l hn h1 w hc hl hh
  obtain ⟨r, hr⟩ : ∃ r, r = ends l := ⟨_, rfl⟩
  rw [← hr] at HM ⊢
  clear hn hh hr
  go_enter Try.func8, Try.ntmps8
  go_wp2_with fail
  refine HM.out.mono ?_
  rintro x w' ⟨rfl, hb⟩
  go_wp2
  go_ret
  exact ⟨rfl, hb⟩

def blank (c : UInt8) : Bool := c == 32 || c == 9 || c == 13 || c == 10
theorem blank_bl (c : UInt8) : bl c = blank c := by
  unfold bl blank
  by_cases h1 : c = 32
  · subst h1; decide
  by_cases h2 : c = 9
  · subst h2; decide
  by_cases h3 : c = 13
  · subst h3; decide
  by_cases h4 : c = 10
  · subst h4; decide
  have e1 : ((32 : UInt8) == c) = false := by rw [Bool.eq_false_iff]; intro e; exact h1 (eq_of_beq e).symm
  have e2 : ((9 : UInt8) == c) = false := by rw [Bool.eq_false_iff]; intro e; exact h2 (eq_of_beq e).symm
  have e3 : ((13 : UInt8) == c) = false := by rw [Bool.eq_false_iff]; intro e; exact h3 (eq_of_beq e).symm
  have e4 : ((10 : UInt8) == c) = false := by rw [Bool.eq_false_iff]; intro e; exact h4 (eq_of_beq e).symm
  simp [Lib.indexByte, e1, e2, e3, e4, h1, h2, h3, h4]

theorem eqT {a b : UInt8} (h : a = b) : ((a.toNat : Int) == (b.toNat : Int)) = true := by rw [h]; simp
theorem eqF {a b : UInt8} (h : a ≠ b) : ((a.toNat : Int) == (b.toNat : Int)) = false := by
  rw [Bool.eq_false_iff]; intro hc
  apply h
  apply UInt8.toNat_inj.1; have h' : (a.toNat : Int) = (b.toNat : Int) := by simpa using hc
  omega

theorem zzIsBlank_any (c : UInt8) (w : World) :
    Calls Try.prog 7 #[.int .u8 c.toNat] w fun e w' => e = .returned (.bool (blank c)) ∧ w' = w := by
  by_cases h1 : c = 32
  · have e : blank c = true := by unfold blank; rw [h1]; rfl
    rw [e]
    have q1 := eqT h1
    have q1' : ((c.toNat : Int) == 32) = true := q1
    clear q1 h1 e
    go_enter Try.func7, Try.ntmps7
    go_wp2
    go_ret
    exact ⟨rfl, rfl⟩
  have q1 : ((c.toNat : Int) == 32) = false := eqF (b := 32) h1
  by_cases h2 : c = 9
  · have e : blank c = true := by unfold blank; rw [h2]; rfl
    rw [e]
    have q2 : ((c.toNat : Int) == 9) = true := eqT (b := 9) h2
    clear h1 h2 e
    go_enter Try.func7, Try.ntmps7
    go_wp2
    go_ret
    exact ⟨rfl, rfl⟩
  have q2 : ((c.toNat : Int) == 9) = false := eqF (b := 9) h2
  by_cases h3 : c = 13
  · have e : blank c = true := by unfold blank; rw [h3]; rfl
    rw [e]
    have q3 : ((c.toNat : Int) == 13) = true := eqT (b := 13) h3
    clear h1 h2 h3 e
    go_enter Try.func7, Try.ntmps7
    go_wp2
    go_ret
    exact ⟨rfl, rfl⟩
  have q3 : ((c.toNat : Int) == 13) = false := eqF (b := 13) h3
  by_cases h4 : c = 10
  · have e : blank c = true := by unfold blank; rw [h4]; rfl
    rw [e]
    have q4 : ((c.toNat : Int) == 10) = true := eqT (b := 10) h4
    clear h1 h2 h3 h4 e
    go_enter Try.func7, Try.ntmps7
    go_wp2
    go_ret
    exact ⟨rfl, rfl⟩
  have q4 : ((c.toNat : Int) == 10) = false := eqF (b := 10) h4
  have e : blank c = false := by unfold blank; simp [h1, h2, h3, h4]
  rw [e]
  clear h1 h2 h3 h4 e
  go_enter Try.func7, Try.ntmps7
  go_wp2
  go_ret
  exact ⟨rfl, rfl⟩

theorem zzBytes_any (a : Option Addr) (n c : Nat) (hn : n ≤ 9223372036854775807) (w : World) :
    Calls Try.prog 5 #[.slice a n c] w fun e w' => e = .returned (.bool (decide ((n : Int) ≤ 1048576))) ∧ w' = w := by
  by_cases h1 : (1048576 : Int) < n
  · have h : decide ((n : Int) ≤ 1048576) = false := by simp; omega
    rw [h]
    go_enter Try.func5, Try.ntmps5
    go_wp2
    go_ret
    exact ⟨rfl, rfl⟩
  · have h : decide ((n : Int) ≤ 1048576) = true := by simp; omega
    rw [h]
    go_enter Try.func5, Try.ntmps5
    go_wp2
    go_ret
    exact ⟨rfl, rfl⟩
end Go.Proofs.Qxb6603573a

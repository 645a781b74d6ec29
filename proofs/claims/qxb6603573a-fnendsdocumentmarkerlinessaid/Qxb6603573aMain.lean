import Derived.Test.Qxb6603573aClone
namespace Go.Proofs.Qxb6603573a
open Go.RowKit
set_option linter.unusedVariables false

/-- zzCat and then ZZendsDocument of what it gives: the answer is b. -/
def CE (b : Bool) (s : ByteArray) (V : Value) (W : World) : Prop :=
  Calls Try.prog 9 #[.string s, V] W fun e w' => ∃ g' m cap, e = .returned (.slice (some ⟨g', 0, none⟩) m cap) ∧ Below W.heap.size W w' ∧ Hid (Calls Try.prog 8 #[.slice (some ⟨g', 0, none⟩) m cap] w' fun e w'' => e = .returned (.bool b) ∧ Below w'.heap.size w' w'')

theorem ce_nil (s : ByteArray) (hs1 : 1 ≤ s.size) (hs : s.size ≤ 16) (b : Bool) (hb : ends s.data.toList = b) (W : World) : CE b s (.slice none 0 0) W := by
  have hsl : s.data.toList.length = s.size := Array.length_toList
  refine (cat_nil s hs1 hs W).mono ?_
  rintro e w' ⟨g', cap, he, hcap, hh, _, hbl⟩
  refine ⟨g', _, cap, he, hbl, ?_⟩
  have h := zzEnds_any g' 0 _ cap s.data.toList rfl (by omega) w' hcap (by omega) hh
  rw [hb] at h; exact h

theorem ce_some (g o n c : Nat) (l : List UInt8) (hnl : n = l.length) (hn : n ≤ 1048576) (hc : n ≤ c) (s : ByteArray) (hs1 : 1 ≤ s.size) (hs : s.size ≤ 16) (b : Bool) (hb : ends (s.data.toList ++ l) = b) (W : World) (hW : Holds W g o l) : CE b s (.slice (some ⟨g, o, none⟩) n c) W := by
  have hsl : s.data.toList.length = s.size := Array.length_toList
  refine (cat_some g o c l n s hs1 hs hn W hnl hc hW).mono ?_
  rintro e w' ⟨g', cap, he, hcap, hh, _, hbl⟩
  refine ⟨g', _, cap, he, hbl, ?_⟩
  have h := zzEnds_any g' 0 _ cap (s.data.toList ++ l) rfl (by simp; omega) w' hcap (by simp; omega) hh
  rw [hb] at h; exact h

/-- What the law asks of the seven texts. -/
structure Seven (V : Value) (R : World → Prop) (b : Bool) : Prop where
  t0 : ∀ W, R W → CE true ⟨#[45, 45, 45, 10]⟩ V W
  t1 : ∀ W, R W → CE true ⟨#[46, 46, 46, 13, 10]⟩ V W
  t2 : ∀ W, R W → CE b ⟨#[46, 46, 46]⟩ V W
  t3 : ∀ W, R W → CE b ⟨#[45, 45, 45]⟩ V W
  t4 : ∀ W, R W → CE false ⟨#[45, 45, 45, 45]⟩ V W
  t5 : ∀ W, R W → CE false ⟨#[32]⟩ V W
  t6 : ∀ W, R W → CE false ⟨#[35]⟩ V W
  keep : ∀ W W', R W → Below W.heap.size W W' → R W'

set_option maxHeartbeats 4000000 in
theorem main_zero (a0 ao : Option Addr) (c cc : Nat) (R : World → Prop) (b : Bool) (hb : b = true) (w : World) (hCl : Calls Try.prog 6 #[.slice a0 0 c] w fun e w' => e = .returned (.slice ao 0 cc) ∧ R w' ∧ Below w.heap.size w w') (hS : Seven (.slice ao 0 cc) R b) :
    Calls Try.prog 3 #[.slice a0 0 c] w fun e w' => e = .returned (.bool true) ∧ Below w.heap.size w w' := by
  have hZ : ∀ w, Calls Try.prog 5 #[.slice a0 0 c] w fun e w' => e = .returned (.bool true) ∧ w' = w := fun w => by
    have h := zzBytes_any a0 0 c (by omega) w
    have hd : decide (((0 : Nat) : Int) ≤ 1048576) = true := by simp
    rw [hd] at h; exact h
  have HZ : Hid (∀ w, Calls Try.prog 5 #[.slice a0 0 c] w fun e w' => e = .returned (.bool true) ∧ w' = w) := hZ
  have HC : Hid (Calls Try.prog 6 #[.slice a0 0 c] w fun e w' => e = .returned (.slice ao 0 cc) ∧ R w' ∧ Below w.heap.size w w') := hCl
  have HS : Hid (Seven (.slice ao 0 cc) R b) := hS
  subst hb
  clear hZ hCl hS
  go_enter Try.func3, Try.ntmps3
  go_wp2_with fail
  refine (HZ.out _).mono ?_
  rintro x w' ⟨rfl, rfl⟩
  go_wp2_with fail
  refine HC.out.mono ?_
  rintro x w1 ⟨rfl, hr, hb1⟩
  have HR : Hid (R w1 ∧ Below w'.heap.size w' w1) := ⟨hr, hb1⟩
  clear hr hb1
  go_wp2_with fail
  refine (HS.out.t0 _ HR.out.1).mono ?_
  rintro x wa ⟨ga, ma, ca, rfl, hba, HEa⟩
  go_wp2_with fail
  refine HEa.out.mono ?_
  rintro x wb ⟨rfl, hbb⟩
  have HR2 : Hid (R wb ∧ Below w'.heap.size w' wb) := ⟨HS.out.keep _ _ (HS.out.keep _ _ HR.out.1 hba) hbb, (HR.out.2.trans (hba.mono HR.out.2.size)).trans (hbb.mono (Nat.le_trans HR.out.2.size hba.size))⟩
  clear HEa hba hbb HR
  have HR : Hid (R wb ∧ Below w'.heap.size w' wb) := HR2
  clear HR2
  go_wp2_with fail
  refine (HS.out.t1 _ HR.out.1).mono ?_
  rintro x wa ⟨ga, ma, ca, rfl, hba, HEa⟩
  go_wp2_with fail
  refine HEa.out.mono ?_
  rintro x wb ⟨rfl, hbb⟩
  have HR2 : Hid (R wb ∧ Below w'.heap.size w' wb) := ⟨HS.out.keep _ _ (HS.out.keep _ _ HR.out.1 hba) hbb, (HR.out.2.trans (hba.mono HR.out.2.size)).trans (hbb.mono (Nat.le_trans HR.out.2.size hba.size))⟩
  clear HEa hba hbb HR
  have HR : Hid (R wb ∧ Below w'.heap.size w' wb) := HR2
  clear HR2
  go_wp2_with fail
  refine (HS.out.t2 _ HR.out.1).mono ?_
  rintro x wa ⟨ga, ma, ca, rfl, hba, HEa⟩
  go_wp2_with fail
  refine HEa.out.mono ?_
  rintro x wb ⟨rfl, hbb⟩
  have HR2 : Hid (R wb ∧ Below w'.heap.size w' wb) := ⟨HS.out.keep _ _ (HS.out.keep _ _ HR.out.1 hba) hbb, (HR.out.2.trans (hba.mono HR.out.2.size)).trans (hbb.mono (Nat.le_trans HR.out.2.size hba.size))⟩
  clear HEa hba hbb HR
  have HR : Hid (R wb ∧ Below w'.heap.size w' wb) := HR2
  clear HR2
  go_wp2_with fail
  refine (HS.out.t3 _ HR.out.1).mono ?_
  rintro x wa ⟨ga, ma, ca, rfl, hba, HEa⟩
  go_wp2_with fail
  refine HEa.out.mono ?_
  rintro x wb ⟨rfl, hbb⟩
  have HR2 : Hid (R wb ∧ Below w'.heap.size w' wb) := ⟨HS.out.keep _ _ (HS.out.keep _ _ HR.out.1 hba) hbb, (HR.out.2.trans (hba.mono HR.out.2.size)).trans (hbb.mono (Nat.le_trans HR.out.2.size hba.size))⟩
  clear HEa hba hbb HR
  have HR : Hid (R wb ∧ Below w'.heap.size w' wb) := HR2
  clear HR2
  go_wp2_with fail
  refine (HS.out.t4 _ HR.out.1).mono ?_
  rintro x wa ⟨ga, ma, ca, rfl, hba, HEa⟩
  go_wp2_with fail
  refine HEa.out.mono ?_
  rintro x wb ⟨rfl, hbb⟩
  have HR2 : Hid (R wb ∧ Below w'.heap.size w' wb) := ⟨HS.out.keep _ _ (HS.out.keep _ _ HR.out.1 hba) hbb, (HR.out.2.trans (hba.mono HR.out.2.size)).trans (hbb.mono (Nat.le_trans HR.out.2.size hba.size))⟩
  clear HEa hba hbb HR
  have HR : Hid (R wb ∧ Below w'.heap.size w' wb) := HR2
  clear HR2
  go_wp2_with fail
  refine (HS.out.t5 _ HR.out.1).mono ?_
  rintro x wa ⟨ga, ma, ca, rfl, hba, HEa⟩
  go_wp2_with fail
  refine HEa.out.mono ?_
  rintro x wb ⟨rfl, hbb⟩
  have HR2 : Hid (R wb ∧ Below w'.heap.size w' wb) := ⟨HS.out.keep _ _ (HS.out.keep _ _ HR.out.1 hba) hbb, (HR.out.2.trans (hba.mono HR.out.2.size)).trans (hbb.mono (Nat.le_trans HR.out.2.size hba.size))⟩
  clear HEa hba hbb HR
  have HR : Hid (R wb ∧ Below w'.heap.size w' wb) := HR2
  clear HR2
  go_wp2_with fail
  refine (HS.out.t6 _ HR.out.1).mono ?_
  rintro x wa ⟨ga, ma, ca, rfl, hba, HEa⟩
  go_wp2_with fail
  refine HEa.out.mono ?_
  rintro x wb ⟨rfl, hbb⟩
  have HR2 : Hid (R wb ∧ Below w'.heap.size w' wb) := ⟨HS.out.keep _ _ (HS.out.keep _ _ HR.out.1 hba) hbb, (HR.out.2.trans (hba.mono HR.out.2.size)).trans (hbb.mono (Nat.le_trans HR.out.2.size hba.size))⟩
  clear HEa hba hbb HR
  have HR : Hid (R wb ∧ Below w'.heap.size w' wb) := HR2
  clear HR2
  go_wp2
  go_ret
  exact ⟨rfl, HR.out.2⟩

set_option maxHeartbeats 4000000 in
theorem main_pos (a0 : Option Addr) (c n cc g o : Nat) (hn1 : 1 ≤ n) (hn : n ≤ 1048576) (ch : UInt8) (R : World → Prop) (hR0 : ∀ W, R W → W.cell? ⟨g, o, none⟩ = some (.int .u8 ch.toNat)) (b : Bool) (hb : b = blank ch) (w : World) (hCl : Calls Try.prog 6 #[.slice a0 n c] w fun e w' => e = .returned (.slice (some ⟨g, o, none⟩) n cc) ∧ R w' ∧ Below w.heap.size w w') (hS : Seven (.slice (some ⟨g, o, none⟩) n cc) R b) :
    Calls Try.prog 3 #[.slice a0 n c] w fun e w' => e = .returned (.bool true) ∧ Below w.heap.size w w' := by
  have hZ : ∀ w, Calls Try.prog 5 #[.slice a0 n c] w fun e w' => e = .returned (.bool true) ∧ w' = w := fun w => by
    have h := zzBytes_any a0 n c (by omega) w
    have hd : decide (((n : Nat) : Int) ≤ 1048576) = true := by simp; omega
    rw [hd] at h; exact h
  have HZ : Hid (∀ w, Calls Try.prog 5 #[.slice a0 n c] w fun e w' => e = .returned (.bool true) ∧ w' = w) := hZ
  have HC : Hid (Calls Try.prog 6 #[.slice a0 n c] w fun e w' => e = .returned (.slice (some ⟨g, o, none⟩) n cc) ∧ R w' ∧ Below w.heap.size w w') := hCl
  have HS : Hid (Seven (.slice (some ⟨g, o, none⟩) n cc) R b) := hS
  have HB : Hid (∀ w, Calls Try.prog 7 #[.int .u8 ch.toNat] w fun e w' => e = .returned (.bool b) ∧ w' = w) := fun w => by
    have h := zzIsBlank_any ch w
    rw [← hb] at h; exact h
  have HR0 : Hid (∀ W, R W → W.cell? ⟨g, o, none⟩ = some (.int .u8 ch.toNat)) := hR0
  have hz : ((n : Int) == 0) = false := by simp; omega
  have hz0 : (0 : Int) < n := by omega
  clear hZ hCl hS hb hR0
  go_enter Try.func3, Try.ntmps3
  go_wp2_with fail
  refine (HZ.out _).mono ?_
  rintro x w' ⟨rfl, rfl⟩
  go_wp2_with fail
  refine HC.out.mono ?_
  rintro x w1 ⟨rfl, hr, hb1⟩
  have HR : Hid (R w1 ∧ Below w'.heap.size w' w1) := ⟨hr, hb1⟩
  have g0 := HR0.out w1 hr
  clear hr hb1
  go_wp2_with fail
  refine (HB.out _).mono ?_
  rintro x w'' ⟨rfl, rfl⟩
  clear g0
  cases b
  all_goals
    go_wp2_with fail
    refine (HS.out.t0 _ HR.out.1).mono ?_
    rintro x wa ⟨ga, ma, ca, rfl, hba, HEa⟩
    go_wp2_with fail
    refine HEa.out.mono ?_
    rintro x wb ⟨rfl, hbb⟩
    have HR2 : Hid (R wb ∧ Below w'.heap.size w' wb) := ⟨HS.out.keep _ _ (HS.out.keep _ _ HR.out.1 hba) hbb, (HR.out.2.trans (hba.mono HR.out.2.size)).trans (hbb.mono (Nat.le_trans HR.out.2.size hba.size))⟩
    clear HEa hba hbb HR
    have HR : Hid (R wb ∧ Below w'.heap.size w' wb) := HR2
    clear HR2
    go_wp2_with fail
    refine (HS.out.t1 _ HR.out.1).mono ?_
    rintro x wa ⟨ga, ma, ca, rfl, hba, HEa⟩
    go_wp2_with fail
    refine HEa.out.mono ?_
    rintro x wb ⟨rfl, hbb⟩
    have HR2 : Hid (R wb ∧ Below w'.heap.size w' wb) := ⟨HS.out.keep _ _ (HS.out.keep _ _ HR.out.1 hba) hbb, (HR.out.2.trans (hba.mono HR.out.2.size)).trans (hbb.mono (Nat.le_trans HR.out.2.size hba.size))⟩
    clear HEa hba hbb HR
    have HR : Hid (R wb ∧ Below w'.heap.size w' wb) := HR2
    clear HR2
    go_wp2_with fail
    refine (HS.out.t2 _ HR.out.1).mono ?_
    rintro x wa ⟨ga, ma, ca, rfl, hba, HEa⟩
    go_wp2_with fail
    refine HEa.out.mono ?_
    rintro x wb ⟨rfl, hbb⟩
    have HR2 : Hid (R wb ∧ Below w'.heap.size w' wb) := ⟨HS.out.keep _ _ (HS.out.keep _ _ HR.out.1 hba) hbb, (HR.out.2.trans (hba.mono HR.out.2.size)).trans (hbb.mono (Nat.le_trans HR.out.2.size hba.size))⟩
    clear HEa hba hbb HR
    have HR : Hid (R wb ∧ Below w'.heap.size w' wb) := HR2
    clear HR2
    go_wp2_with fail
    refine (HS.out.t3 _ HR.out.1).mono ?_
    rintro x wa ⟨ga, ma, ca, rfl, hba, HEa⟩
    go_wp2_with fail
    refine HEa.out.mono ?_
    rintro x wb ⟨rfl, hbb⟩
    have HR2 : Hid (R wb ∧ Below w'.heap.size w' wb) := ⟨HS.out.keep _ _ (HS.out.keep _ _ HR.out.1 hba) hbb, (HR.out.2.trans (hba.mono HR.out.2.size)).trans (hbb.mono (Nat.le_trans HR.out.2.size hba.size))⟩
    clear HEa hba hbb HR
    have HR : Hid (R wb ∧ Below w'.heap.size w' wb) := HR2
    clear HR2
    go_wp2_with fail
    refine (HS.out.t4 _ HR.out.1).mono ?_
    rintro x wa ⟨ga, ma, ca, rfl, hba, HEa⟩
    go_wp2_with fail
    refine HEa.out.mono ?_
    rintro x wb ⟨rfl, hbb⟩
    have HR2 : Hid (R wb ∧ Below w'.heap.size w' wb) := ⟨HS.out.keep _ _ (HS.out.keep _ _ HR.out.1 hba) hbb, (HR.out.2.trans (hba.mono HR.out.2.size)).trans (hbb.mono (Nat.le_trans HR.out.2.size hba.size))⟩
    clear HEa hba hbb HR
    have HR : Hid (R wb ∧ Below w'.heap.size w' wb) := HR2
    clear HR2
    go_wp2_with fail
    refine (HS.out.t5 _ HR.out.1).mono ?_
    rintro x wa ⟨ga, ma, ca, rfl, hba, HEa⟩
    go_wp2_with fail
    refine HEa.out.mono ?_
    rintro x wb ⟨rfl, hbb⟩
    have HR2 : Hid (R wb ∧ Below w'.heap.size w' wb) := ⟨HS.out.keep _ _ (HS.out.keep _ _ HR.out.1 hba) hbb, (HR.out.2.trans (hba.mono HR.out.2.size)).trans (hbb.mono (Nat.le_trans HR.out.2.size hba.size))⟩
    clear HEa hba hbb HR
    have HR : Hid (R wb ∧ Below w'.heap.size w' wb) := HR2
    clear HR2
    go_wp2_with fail
    refine (HS.out.t6 _ HR.out.1).mono ?_
    rintro x wa ⟨ga, ma, ca, rfl, hba, HEa⟩
    go_wp2_with fail
    refine HEa.out.mono ?_
    rintro x wb ⟨rfl, hbb⟩
    have HR2 : Hid (R wb ∧ Below w'.heap.size w' wb) := ⟨HS.out.keep _ _ (HS.out.keep _ _ HR.out.1 hba) hbb, (HR.out.2.trans (hba.mono HR.out.2.size)).trans (hbb.mono (Nat.le_trans HR.out.2.size hba.size))⟩
    clear HEa hba hbb HR
    have HR : Hid (R wb ∧ Below w'.heap.size w' wb) := HR2
    clear HR2
    go_wp2
    go_ret
    exact ⟨rfl, HR.out.2⟩

end Go.Proofs.Qxb6603573a


import Derived.Test.Qxb6603465aRows
import Derived.Test.Qxb6603465aMainF
import Derived.WalkKit
import Derived.ProofKit
import Derived.OpenShut
import Derived.ShutString
import Derived.Below
namespace Go.Proofs.Qxb6603465a.fnDelimiterQuotedReadsBackItsQuoting
open Go.ChangeShapes Go.WideShapes Go.ChangeAt Go.RowKit
open Go.ChangeMaps (open_string shut_string)
set_option linter.unusedVariables false

theorem own : ownKnob Try.prog.godebug = none := by kernel_rfl

/-! ### The walk: the Go text returns true and writes nothing that was there. -/
theorem walk (a0 : ByteArray) (a1 : Bool) (a2 : ByteArray) (w0 : a0.size ≤ maxLen) (w2 : a2.size ≤ maxLen) (w : World) :
    Calls Try.prog 3 #[.string a0, .bool a1, .string a2] w fun e w' => e = .returned (.bool true) ∧ Below w.heap.size w w' := by
  have hZ := zzBytes_any a0 a1 a2 w0 w2
  unfold maxLen at w0 w2
  by_cases hs : (a0.size : Int) + (a2.size : Int) ≤ 1048576
  · have hd : decide ((a0.size : Int) + (a2.size : Int) ≤ 1048576) = true := by simpa using hs
    rw [hd] at hZ
    by_cases h1 : 2 * a0.size + a2.size ≤ 1048576
    · cases a1 with
      | true => exact main_true a0 a2 h1 w
      | false =>
        cases hno : P.has 39 a0.data.toList with
        | false => exact main_false a0 a2 h1 hno w
        | true =>
          have HI : Hid (∀ w, Calls Try.prog 6 #[.int .u8 39, .string a0] w fun e w' => e = .returned (.bool true) ∧ w' = w) := fun w => by
            have h := zzIn_any 39 a0 (by unfold maxLen; omega) w
            rw [hno] at h; exact h
          have HZ : Hid (∀ w, Calls Try.prog 5 #[.string a0, .bool false, .string a2] w fun e w' => e = .returned (.bool true) ∧ w' = w) := hZ
          clear hZ hd hno
          go_enter Try.func3, Try.ntmps3
          go_wp2_with fail
          refine (HZ.out w).mono ?_
          rintro x w' ⟨rfl, rfl⟩
          go_wp2_with fail
          refine (HI.out _).mono ?_
          rintro x w' ⟨rfl, rfl⟩
          go_wp2
          go_ret
          exact ⟨rfl, Below.refl _ _⟩
    · have HZ : Hid (∀ w, Calls Try.prog 5 #[.string a0, .bool a1, .string a2] w fun e w' => e = .returned (.bool true) ∧ w' = w) := hZ
      clear hZ hd
      go_enter Try.func3, Try.ntmps3
      go_wp2_with fail
      refine (HZ.out w).mono ?_
      rintro x w' ⟨rfl, rfl⟩
      go_wp2
      go_ret
      exact ⟨rfl, Below.refl _ _⟩
  · have hd : decide ((a0.size : Int) + (a2.size : Int) ≤ 1048576) = false := by simpa using hs
    rw [hd] at hZ
    have HZ : Hid (∀ w, Calls Try.prog 5 #[.string a0, .bool a1, .string a2] w fun e w' => e = .returned (.bool false) ∧ w' = w) := hZ
    clear hZ hd
    go_enter Try.func3, Try.ntmps3
    go_wp2_with fail
    refine (HZ.out w).mono ?_
    rintro x w' ⟨rfl, rfl⟩
    go_wp2
    go_ret
    exact ⟨rfl, Below.refl _ _⟩

/-! ### The row's step -/
set_option maxRecDepth 100000 in
theorem lifted (os : Os) (started : os.Started) (H : Type) (enc : TypeId × Value → H) :
    ReturnsInHanded {} Try.checked os 3 .any (Rows.fnDelimiterQuotedReadsBackItsQuotingSpec.pre6 enc Try.prog Try.f3 Rows.fnDelimiterQuotedReadsBackItsQuotingRow.domain false) (Rows.fnDelimiterQuotedReadsBackItsQuotingSpec.post enc Try.prog Try.f3 false true false false) := by
  refine returnsInHanded_of_change (C := Try.checked) own started (by kernel_rfl) Try.func3
    (ChangeSpec.witness6 (enc := enc) (C := Try.checked) false ⟨#[], #[.string ByteArray.empty, .bool false, .string ByteArray.empty], []⟩ 8 (by kernel_rfl) (by kernel_rfl) (by kernel_rfl) (by kernel_rfl)) ?_
  intro W base args ds gs before hval0 hW hcnd _
  have hval : ∀ (j : Nat) t v, Try.f3.params[j]? = some t → args[j]? = some v → Value.okWide Try.prog W .any base t v := hval0
  have hW' := hW
  obtain ⟨p, q, hA0, hV, rfl, hfz, hnd⟩ := hW
  have hA : DataW.TrodAll enc Try.prog W 0 (fun _ => true) true Try.f3.params.toList args.toList ds p := hA0
  rw [Try.params3] at hA hval
  obtain ⟨v0, vs0, d0, ds0, p0, q0, hargs, rfl, rfl, h0, r0⟩ := trodAll_cons hA
  obtain ⟨v1, vs1, d1, ds1, p1, q1, rfl, rfl, rfl, h1, r1⟩ := trodAll_cons r0
  obtain ⟨v2, vs2, d2, ds2, p2, q2, rfl, rfl, rfl, h2, r2⟩ := trodAll_cons r1
  obtain ⟨rfl, rfl, rfl⟩ := trodAll_nil r2
  obtain rfl : args = #[v0, v1, v2] := by cases args; simp_all
  obtain ⟨rfl, rfl⟩ := trodVars_none hV
  obtain ⟨a0, rfl, rfl, rfl, w0⟩ := open_string Try.underlying9 (hval 0 9 v0 rfl rfl) h0
  obtain ⟨a1, rfl, rfl, rfl⟩ := open_bool Try.underlying4 (hval 1 4 v1 rfl rfl) h1
  obtain ⟨a2, rfl, rfl, rfl, w2⟩ := open_string Try.underlying9 (hval 2 9 v2 rfl rfl) h2
  clear hA0 hval0
  simp only [List.append_nil] at hW'
  refine (walk a0 a1 a2 w0 w2 W).mono fun e W' ⟨he, hg⟩ => ?_
  subst he
  exact ⟨_, rfl, _, _, _, [], [], [], hW', trodAll_mk1 (shut_bool Try.underlying4 _), (trodAll_cons_mk (shut_string Try.underlying9 w0) (trodAll_cons_mk (shut_bool Try.underlying4 _) (trodAll_cons_mk (shut_string Try.underlying9 w2) trodAll_mk0))), rfl, hg.frame _, fun h => by cases h⟩

theorem over : Rows.fnDelimiterQuotedReadsBackItsQuotingRow.holds Try.pinned (OpenSpec.ofChange Rows.fnDelimiterQuotedReadsBackItsQuotingSpec) :=
  OpenClaim.holds_of_wide 3 Try.f3 rfl rfl rfl rfl rfl rfl rfl ⟨rfl, rfl, rfl, rfl, rfl⟩ rfl rfl rfl rfl rfl (by kernel_rfl) Try.func3 (by kernel_rfl)
    (of_decide_eq_true (by kernel_rfl)) (by unfold Func.isWrapper; first | (rw [if_pos (by decide +kernel)]; kernel_rfl) | (rw [if_neg (by decide +kernel)]; exact ⟨rfl, rfl⟩))
    (fun os started H enc _ => lifted os started H enc)

/-- The statement. -/
theorem proved : Rows.FnDelimiterQuotedReadsBackItsQuotingSaid :=
  over
#print axioms proved
end Go.Proofs.Qxb6603465a.fnDelimiterQuotedReadsBackItsQuoting

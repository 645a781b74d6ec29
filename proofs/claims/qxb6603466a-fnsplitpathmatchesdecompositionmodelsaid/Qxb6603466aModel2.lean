import Derived.Test.Qxb6603466aModel
namespace Go.Proofs.Qxb6603466a
open Go.RowKit
set_option linter.unusedVariables false

/-- Does p[5:k] hold a slash? -/
def sbf (l : List UInt8) (k : Nat) : Bool := ((l.take k).drop 5).contains 47

theorem sbf_five (l : List UInt8) : sbf l 5 = false := by
  have : (l.take 5).drop 5 = [] := by
    apply List.drop_eq_nil_of_le; rw [List.length_take]; omega
  unfold sbf; rw [this]; rfl

theorem sbf_succ (s : ByteArray) (k : Nat) (h5 : 5 ≤ k) (h : k < s.size) : sbf s.data.toList (k + 1) = (sbf s.data.toList k || ((s[k].toNat : Int) == 47)) := by
  have hl : s.data.toList.length = s.size := Array.length_toList
  unfold sbf
  rw [List.take_succ_eq_append_getElem (by omega), List.drop_append_of_le_length (by rw [List.length_take]; omega)]
  have e : (s.data.toList[k]'(by omega)) = s[k] := rfl
  rw [e, Bool.eq_iff_iff]
  simp only [List.contains_iff_mem, List.mem_append, List.mem_singleton, Bool.or_eq_true]
  constructor
  · rintro (h | h)
    · exact .inl h
    · exact .inr (by rw [← h]; rfl)
  · rintro (h | h)
    · exact .inl h
    · exact .inr (byte_eq _ 47 h).symm
theorem sbf_end (s : ByteArray) : sbf s.data.toList (s.size + 1) = sbf s.data.toList s.size := by
  have hl : s.data.toList.length = s.size := Array.length_toList
  unfold sbf
  rw [List.take_of_length_le (by omega), List.take_of_length_le (by omega)]

theorem val_bool {a b : Bool} (h : a = b) : Value.bool a = Value.bool b := by rw [h]

set_option maxHeartbeats 2000000 in
/-- The model's search where no way is there. -/
theorem model_N (s : ByteArray) (hs : s.size ≤ 1048576) (hapi : hasAt s.data.toList 0 api = true) (h5 : 5 ≤ s.size) (hno : ∀ k, 5 ≤ k → k ≤ s.size → sbf s.data.toList k = false → hasAt s.data.toList k [47, 103, 101, 116, 47] = false) (w : World) :
    Calls Try.prog 8 #[.string s] w fun e w' => e = .returned (.tuple #[.string ⟨#[]⟩, .string ⟨#[]⟩, .bool false]) ∧ ∃ n, w' = w.drewN n := by
  have HA : Hid (∀ w, Calls Try.prog 9 #[.string s, .int .i64 0, .string ⟨#[47, 97, 112, 105, 47]⟩] w fun e w' => e = .returned (.bool true) ∧ ∃ n, w' = w.drewN n) := fun w => by
    have h := zzHasAt_any s ⟨#[47, 97, 112, 105, 47]⟩ 0 hs (by omega) (by decide) w
    have e : hasAt s.data.toList 0 (⟨#[47, 97, 112, 105, 47]⟩ : ByteArray).data.toList = true := hapi
    rw [e] at h; exact h
  have HK : Hid (∀ k, 5 ≤ k → k ≤ s.size → sbf s.data.toList k = false → ∀ w, Calls Try.prog 9 #[.string s, .int .i64 k, .string ⟨#[47, 103, 101, 116, 47]⟩] w fun e w' => e = .returned (.bool false) ∧ ∃ n, w' = w.drewN n) := fun k k5 kl kf w => by
    have h := zzHasAt_any s ⟨#[47, 103, 101, 116, 47]⟩ k hs kl (by decide) w
    have e : hasAt s.data.toList k (⟨#[47, 103, 101, 116, 47]⟩ : ByteArray).data.toList = false := hno k k5 kl kf
    rw [e] at h; exact h
  clear hapi hno
  go_enter Try.func8, Try.ntmps8
  go_wp2_with fail
  refine (HA.out _).mono ?_
  rintro x w' ⟨rfl, n0, rfl⟩
  go_wp2
  go_loopw [2, 3, 4, 5, 6] (fun v2 v3 v4 v5 v6 wr => ∃ k : Nat, 5 ≤ k ∧ k ≤ s.size + 1 ∧ v2 = .string ⟨#[]⟩ ∧ v3 = .string ⟨#[]⟩ ∧ v4 = .bool false ∧ v5 = .bool (sbf s.data.toList k) ∧ v6 = .int .i64 k ∧ ∃ n, wr = w.drewN n) (fun _ _ _ _ v6 _ => s.size + 1 - (intOf v6).toNat)
  case atStart => exact ⟨5, by omega, by omega, rfl, rfl, rfl, by rw [sbf_five], rfl, _, rfl⟩
  case round =>
    obtain ⟨k, hk5, hk, rfl, rfl, rfl, rfl, rfl, n, rfl⟩ := hrel
    obtain ⟨f, hf⟩ : ∃ f, f = sbf s.data.toList k := ⟨_, rfl⟩
    rw [← hf]
    have HF : Hid (f = sbf s.data.toList k) := hf
    clear hf
    by_cases hlt : k < s.size
    · have HS : Hid (sbf s.data.toList (k + 1) = (f || ((s[k].toNat : Int) == 47))) := by
        have h := sbf_succ s k hk5 hlt
        rw [← HF.out] at h; exact h
      cases f with
      | true =>
        go_wp2
        · go_roundw
          case rel => exact ⟨k + 1, by omega, by omega, rfl, rfl, rfl, val_bool (by rw [HS.out]; rfl), by go_num, _, rfl⟩
          case measure => simp [intOf]; omega
        · go_roundw
          case rel => exact ⟨k + 1, by omega, by omega, rfl, rfl, rfl, val_bool (by rw [HS.out]; rfl), by go_num, _, rfl⟩
          case measure => simp [intOf]; omega
      | false =>
        go_wp2_with fail
        refine (HK.out k hk5 (by omega) HF.out.symm _).mono ?_
        rintro x w' ⟨rfl, n1, rfl⟩
        go_wp2
        · have h : ((s[k].toNat : Int) == 47) = true := by assumption
          go_roundw
          case rel => exact ⟨k + 1, by omega, by omega, rfl, rfl, rfl, val_bool (by rw [HS.out, h]; rfl), by go_num, _, rfl⟩
          case measure => simp [intOf]; omega
        · have h : ((s[k].toNat : Int) == 47) = false := by assumption
          go_roundw
          case rel => exact ⟨k + 1, by omega, by omega, rfl, rfl, rfl, val_bool (by rw [HS.out, h]; rfl), by go_num, _, rfl⟩
          case measure => simp [intOf]; omega
    · by_cases hle : k ≤ s.size
      · have HS : Hid (sbf s.data.toList (k + 1) = f) := by
          have h := sbf_end s
          have e : k = s.size := by omega
          rw [← e] at h
          exact h.trans HF.out.symm
        cases f with
        | true =>
          go_wp2
          go_roundw
          case rel => exact ⟨k + 1, by omega, by omega, rfl, rfl, rfl, val_bool HS.out.symm, by go_num, _, rfl⟩
          case measure => simp [intOf]; omega
        | false =>
          go_wp2_with fail
          refine (HK.out k hk5 (by omega) HF.out.symm _).mono ?_
          rintro x w' ⟨rfl, n1, rfl⟩
          go_wp2
          go_roundw
          case rel => exact ⟨k + 1, by omega, by omega, rfl, rfl, rfl, val_bool HS.out.symm, by go_num, _, rfl⟩
          case measure => simp [intOf]; omega
      · go_wp2
        go_ret3
        exact ⟨rfl, _, rfl⟩
end Go.Proofs.Qxb6603466a

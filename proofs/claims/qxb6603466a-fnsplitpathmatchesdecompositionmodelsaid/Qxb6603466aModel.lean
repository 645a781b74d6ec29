import Derived.Test.Qxb6603466aRest
namespace Go.Proofs.Qxb6603466a
open Go.RowKit
set_option linter.unusedVariables false

/-- Does lit lie in s at i? -/
def hasAt (s : List UInt8) (i : Nat) (lit : List UInt8) : Bool := lit.isPrefixOf (s.drop i)

theorem hasAt_short (s : List UInt8) (i : Nat) (lit : List UInt8) (h : s.length - i < lit.length) : hasAt s i lit = false := by
  unfold hasAt
  rw [Bool.eq_false_iff]; intro e
  rw [List.isPrefixOf_iff_prefix] at e
  have := e.length_le
  simp at this; omega

theorem hasAt_true (s lit : ByteArray) (i : Nat) (hl : i + lit.size ≤ s.size) (h : ∀ j (h1 : j < lit.size) (h2 : i + j < s.size), s[i + j] = lit[j]) : hasAt s.data.toList i lit.data.toList = true := by
  unfold hasAt
  rw [List.isPrefixOf_iff_prefix, List.prefix_iff_eq_take]
  apply List.ext_getElem
  · have h1 : s.data.toList.length = s.size := Array.length_toList
    have h2 : lit.data.toList.length = lit.size := Array.length_toList
    simp only [List.length_take, List.length_drop]; omega
  · intro j h1 h2
    have h3 : j < lit.size := h1
    have h4 := h j h3 (by omega)
    simp only [List.getElem_take, List.getElem_drop]
    exact h4.symm

theorem hasAt_false (s lit : ByteArray) (i j : Nat) (h1 : j < lit.size) (h2 : i + j < s.size) (h : s[i + j] ≠ lit[j]) : hasAt s.data.toList i lit.data.toList = false := by
  unfold hasAt
  rw [Bool.eq_false_iff]; intro e
  rw [List.isPrefixOf_iff_prefix] at e
  obtain ⟨t, ht⟩ := e
  apply h
  have e1 : (s.data.toList.drop i)[j]? = some s[i + j] := by
    rw [List.getElem?_drop]
    rw [List.getElem?_eq_getElem (by exact h2)]; rfl
  rw [← ht, List.getElem?_append_left (by exact h1), List.getElem?_eq_getElem (by exact h1)] at e1
  exact (Option.some.inj e1).symm

set_option maxHeartbeats 1000000 in
theorem zzHasAt_any (s lit : ByteArray) (i : Nat) (hs : s.size ≤ 1048576) (hi : i ≤ s.size) (hlit : lit.size ≤ 16) (w : World) :
    Calls Try.prog 9 #[.string s, .int .i64 i, .string lit] w fun e w' => e = .returned (.bool (hasAt s.data.toList i lit.data.toList)) ∧ ∃ n, w' = w.drewN n := by
  by_cases hsh : s.size - i < lit.size
  · have HF : Hid (hasAt s.data.toList i lit.data.toList = false) := hasAt_short _ _ _ hsh
    have g1 : (s.size : Int) - i < lit.size := by omega
    go_enter Try.func9, Try.ntmps9
    go_wp2
    go_ret
    exact ⟨ret_bool HF.out.symm, 0, rfl⟩
  · have g1 : ¬ ((s.size : Int) - i < lit.size) := by omega
    go_enter Try.func9, Try.ntmps9
    go_wp2
    go_loopw [7] (fun v wr => ∃ k : Nat, k ≤ lit.size ∧ v = .int .i64 k ∧ (∀ j (h1 : j < lit.size) (h2 : i + j < s.size), j < k → s[i + j] = lit[j]) ∧ ∃ n, wr = w.drewN n) (fun v _ => lit.size - (intOf v).toNat)
    case atStart => exact ⟨0, Nat.zero_le _, rfl, fun j _ _ hj => absurd hj (by omega), 0, rfl⟩
    case round =>
      obtain ⟨k, hk, rfl, hno, n, rfl⟩ := hrel
      have HN : Hid (∀ j (h1 : j < lit.size) (h2 : i + j < s.size), j < k → s[i + j] = lit[j]) := hno
      clear hno
      by_cases hlt : k < lit.size
      · obtain ⟨p, hp⟩ : ∃ p, p = i + k := ⟨_, rfl⟩
        have hik : (i : Int) + (k : Int) = (p : Int) := by omega
        have hps : p < s.size := by omega
        have HP : Hid (p = i + k) := hp
        clear hp
        go_wp2
        go_big_quiet (fail)
        go_wp2
        · have h : ((s[p].toNat : Int) != (lit[k].toNat : Int)) = true := by assumption
          have hf : hasAt s.data.toList i lit.data.toList = false := by
            have hp := HP.out
            subst hp
            exact hasAt_false s lit i k hlt hps (by intro e; rw [e] at h; simp at h)
          go_ret
          exact ⟨ret_bool hf.symm, _, World.drewN_drewN ..⟩
        · have h : ((s[p].toNat : Int) != (lit[k].toNat : Int)) = false := by assumption
          go_roundw
          case rel =>
            refine ⟨k + 1, by omega, by go_num, fun j h1 h2 hj => ?_, _, rfl⟩
            by_cases e : j = k
            · subst e
              have hp := HP.out
              subst hp
              refine byte_eq _ _ ?_
              simpa using h
            · exact HN.out j h1 h2 (by omega)
          case measure => simp [intOf]; omega
      · go_wp2
        go_ret
        exact ⟨ret_bool (hasAt_true s lit i (by omega) (fun j h1 h2 => HN.out j h1 h2 (by omega))).symm, _, rfl⟩

theorem dropHas_true (s : ByteArray) (k : Nat) (hk : 5 ≤ k) (h : k < s.size) (e : s[k] = 47) : (s.data.toList.drop 5).contains 47 = true := by
  rw [List.contains_iff_mem]
  refine List.mem_of_getElem? (i := k - 5) ?_
  rw [List.getElem?_drop, show 5 + (k - 5) = k from by omega, List.getElem?_eq_getElem (by exact h)]
  exact congrArg some e
theorem dropHas_false (s : ByteArray) (h : ∀ j (hj : j < s.size), 5 ≤ j → s[j] ≠ 47) : (s.data.toList.drop 5).contains 47 = false := by
  rw [Bool.eq_false_iff]; intro hc
  rw [List.contains_iff_mem] at hc
  obtain ⟨i, hi⟩ := List.mem_iff_getElem?.1 hc
  rw [List.getElem?_drop] at hi
  obtain ⟨h1, h2⟩ := List.getElem?_eq_some_iff.1 hi
  exact h (5 + i) h1 (by omega) h2

theorem zzHasSlashFrom_any (s : ByteArray) (hs : s.size ≤ 1048576) (h5 : 5 ≤ s.size) (w : World) :
    Calls Try.prog 10 #[.string s, .int .i64 5] w fun e w' => e = .returned (.bool ((s.data.toList.drop 5).contains 47)) ∧ w' = w := by
  obtain ⟨r, hr⟩ : ∃ r, r = (s.data.toList.drop 5).contains 47 := ⟨_, rfl⟩
  rw [← hr]
  have HR : Hid (r = (s.data.toList.drop 5).contains 47) := hr
  clear hr
  go_enter Try.func10, Try.ntmps10
  go_wp2
  go_loop [5] (fun i => ∃ k : Nat, 5 ≤ k ∧ k ≤ s.size ∧ i = .int .i64 k ∧ ∀ j (hj : j < k) (h : j < s.size), 5 ≤ j → s[j] ≠ 47) (fun i => s.size - (intOf i).toNat)
  case atStart => exact ⟨5, by omega, h5, rfl, fun j hj _ h => absurd h (by omega)⟩
  case round =>
    obtain ⟨k, hk5, hk, rfl, hno⟩ := hrel
    have HN : Hid (∀ j (hj : j < k) (h : j < s.size), 5 ≤ j → s[j] ≠ 47) := hno
    clear hno
    by_cases hlt : k < s.size
    · go_wp2
      · have h : ((s[k].toNat : Int) == 47) = true := by assumption
        go_ret
        exact ⟨ret_bool (by rw [HR.out, dropHas_true s k hk5 hlt (byte_eq _ 47 h)]), rfl⟩
      · have h : ((s[k].toNat : Int) == 47) = false := by assumption
        go_round
        case rel =>
          refine ⟨k + 1, by omega, by omega, by go_num, fun j hj hjs h5j => ?_⟩
          by_cases e : j = k
          · subst e; exact byte_ne _ 47 h
          · exact HN.out j (by omega) hjs h5j
        case measure => simp [intOf]; omega
    · go_wp2
      go_ret
      exact ⟨ret_bool (by rw [HR.out, dropHas_false s (fun j hj h5j => HN.out j (by omega) hj h5j)]), rfl⟩
end Go.Proofs.Qxb6603466a

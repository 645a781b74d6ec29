import Derived.Test.Qxb6603708aWays
namespace Go.Proofs.Qxb6603708a
open Go.RowKit
set_option linter.unusedVariables false

theorem bytes9_any (a0 : ByteArray) (w0 : a0.size ≤ maxLen) (w : World) :
    Calls Try.prog 9 #[.string a0] w fun e w' => e = .returned (.bool (decide ((a0.size : Int) ≤ 1048576))) ∧ w' = w := by
  unfold maxLen at w0
  by_cases h1 : (1048576 : Int) < a0.size
  · have h : decide ((a0.size : Int) ≤ 1048576) = false := by simp; omega
    rw [h]
    go_enter Try.func9, Try.ntmps9
    go_wp2
    go_ret
    exact ⟨rfl, rfl⟩
  · have h : decide ((a0.size : Int) ≤ 1048576) = true := by simp; omega
    rw [h]
    go_enter Try.func9, Try.ntmps9
    go_wp2
    go_ret
    exact ⟨rfl, rfl⟩
theorem ok9 (s : ByteArray) (hs : s.size ≤ 1048576) (w : World) : Calls Try.prog 9 #[.string s] w fun e w' => e = .returned (.bool true) ∧ w' = w := by
  have h := bytes9_any s (by unfold maxLen; omega) w
  have hd : decide ((s.size : Int) ≤ 1048576) = true := by simp; omega
  rw [hd] at h; exact h

theorem ne_at (s : ByteArray) (j : Nat) (c : UInt8) (h : at? s j ≠ some c) (hj : j < s.size) : ((s[j].toNat : Int) == (c.toNat : Int)) = false := eqF (at?_ne s j c h hj)
theorem eq_at (s : ByteArray) (j : Nat) (c : UInt8) (h : at? s j = some c) (hj : j < s.size) : ((s[j].toNat : Int) == (c.toNat : Int)) = true := by
  obtain ⟨_, e⟩ := at?_eq s j c h
  exact eqT e

set_option maxHeartbeats 4000000 in
theorem law_L0 (s : ByteArray) (hs : s.size ≤ 1048576) (hno : ∀ j, at? s j ≠ some 64) (w : World) :
    Calls Try.prog 4 #[.string s] w fun e w' => e = .returned (.bool true) ∧ ∃ n, w' = w.drewN n := by
  have HZ : Hid (∀ w, Calls Try.prog 9 #[.string s] w fun e w' => e = .returned (.bool true) ∧ w' = w) := fun w => ok9 s hs w
  have HH : Hid (∀ w, Calls Try.prog 10 #[.string s] w fun e w' => e = .returned (.string s) ∧ ∃ n, w' = w.drewN n) := fun w => hide_W0 s (by omega) hno w
  have HN : Hid (∀ j, at? s j ≠ some 64) := hno
  clear hno
  go_enter Try.func4, Try.ntmps4
  go_wp2_with fail
  refine (HZ.out _).mono ?_
  rintro x w' ⟨rfl, rfl⟩
  go_wp2_with fail
  refine (HH.out _).mono ?_
  rintro x w' ⟨rfl, n, rfl⟩
  go_wp2
  go_loop [4, 5] (fun v4 v5 => ∃ k : Nat, k ≤ s.size ∧ v4 = .int .i64 (-1) ∧ v5 = .int .i64 ((k : Int) - 1)) (fun _ v5 => (intOf v5 + 1).toNat)
  case atStart => exact ⟨s.size, Nat.le_refl _, rfl, rfl⟩
  case round =>
    obtain ⟨k, hk, rfl, rfl⟩ := hrel
    by_cases h0 : k = 0
    · subst h0
      go_wp2
      go_ret
      exact ⟨rfl, _, rfl⟩
    · obtain ⟨m, hm⟩ : ∃ m, k = m + 1 := ⟨k - 1, by omega⟩
      have e1 : ((k : Int) - 1) = (m : Int) := by omega
      rw [e1]
      have hms : m < s.size := by omega
      have q : ((s[m].toNat : Int) == 64) = false := ne_at s m 64 (HN.out m) hms
      clear e1 hm h0 hk
      go_wp2
      go_round
      case rel => exact ⟨m, by omega, rfl, rfl⟩
      case measure => simp [intOf] <;> omega

set_option maxHeartbeats 4000000 in
theorem law_L1 (s : ByteArray) (hs : s.size ≤ 1048576) (e : Nat) (he : LastAt s e) (hno : ∀ j, j < e → at? s j ≠ some 58) (w : World) :
    Calls Try.prog 4 #[.string s] w fun e w' => e = .returned (.bool true) ∧ ∃ n, w' = w.drewN n := by
  have hes : e < s.size := at?_lt _ _ _ he.1
  have HZ : Hid (∀ w, Calls Try.prog 9 #[.string s] w fun e w' => e = .returned (.bool true) ∧ w' = w) := fun w => ok9 s hs w
  have HH : Hid (∀ w, Calls Try.prog 10 #[.string s] w fun x w' => x = .returned (.string s) ∧ ∃ n, w' = w.drewN n) := fun w => hide_W1 s (by omega) e he hno w
  have HE : Hid (LastAt s e) := he
  have HN : Hid (∀ j, j < e → at? s j ≠ some 58) := hno
  clear hno he
  go_enter Try.func4, Try.ntmps4
  go_wp2_with fail
  refine (HZ.out _).mono ?_
  rintro x w' ⟨rfl, rfl⟩
  go_wp2_with fail
  refine (HH.out _).mono ?_
  rintro x w' ⟨rfl, n, rfl⟩
  go_wp2
  go_loop [4, 5] (fun v4 v5 => ∃ p : Nat, e ≤ p ∧ p < s.size ∧ v4 = .int .i64 (-1) ∧ v5 = .int .i64 p) (fun _ v5 => (intOf v5 + 1).toNat)
  case atStart => exact ⟨s.size - 1, by omega, by omega, rfl, by congr 1; omega⟩
  case round =>
    obtain ⟨p, hpe, hps, rfl, rfl⟩ := hrel
    by_cases hp : e < p
    · have q : ((s[p].toNat : Int) == 64) = false := ne_at s p 64 (HE.out.2 p hp) hps
      go_wp2
      go_round
      case rel => exact ⟨p - 1, by omega, by omega, rfl, by congr 1; omega⟩
      case measure => simp [intOf] <;> omega
    · have hpe' : p = e := by omega
      subst hpe'
      have q : ((s[p].toNat : Int) == 64) = true := eq_at s p 64 HE.out.1 hps
      clear hp hpe
      go_wp2
      clear q
      go_loop [6, 7, 8] (fun v6 v7 v8 => ∃ i : Nat, i ≤ p ∧ v6 = .int .i64 (-1) ∧ v7 = .int .i64 (-1) ∧ v8 = .int .i64 i) (fun _ _ v8 => p - (intOf v8).toNat)
      case atStart => exact ⟨0, Nat.zero_le _, rfl, rfl, rfl⟩
      case round =>
        obtain ⟨i, hi, rfl, rfl, rfl⟩ := hrel
        by_cases hlt : i < p
        · have hisz : i < s.size := by omega
          have q : ((s[i].toNat : Int) == 58) = false := ne_at s i 58 (HN.out i hlt) hisz
          go_wp2
          go_round
          case rel => exact ⟨i + 1, by omega, rfl, rfl, by go_num⟩
          case measure => simp [intOf] <;> omega
        · go_wp2
          go_ret
          exact ⟨rfl, _, rfl⟩

set_option maxHeartbeats 4000000 in
theorem law_AY (s : ByteArray) (hs : s.size ≤ 1048576) (e : Nat) (he : LastAt s e) (c : Nat) (hc : FirstColon s c) (hce : c < e) (hno : ∀ j, c < j → j < e → at? s j ≠ some 58) (hsl : sl s c) (w : World) :
    Calls Try.prog 4 #[.string s] w fun e w' => e = .returned (.bool true) ∧ ∃ n, w' = w.drewN n := by
  have hes : e < s.size := at?_lt _ _ _ he.1
  have HZ : Hid (∀ w, Calls Try.prog 9 #[.string s] w fun e w' => e = .returned (.bool true) ∧ w' = w) := fun w => ok9 s hs w
  obtain ⟨d1, hd1⟩ : ∃ d1, d1 = c + 1 := ⟨_, rfl⟩
  obtain ⟨d2, hd2⟩ : ∃ d2, d2 = c + 2 := ⟨_, rfl⟩
  have HH : Hid (∀ w, Calls Try.prog 10 #[.string s] w fun x w' => x = .returned (.string s) ∧ ∃ n, w' = w.drewN n) := fun w => hide_W3 s (by omega) e c he hc hce hsl hno w
  have HE : Hid (LastAt s e) := he
  have HC : Hid (FirstColon s c) := hc
  have HN := hno
  have HN : Hid (∀ j, c < j → j < e → at? s j ≠ some 58) := hno
  have q1 : (c : Int) + 1 = (d1 : Int) := by omega
  have q2 : (c : Int) + 2 = (d2 : Int) := by omega
  have hd1s : d1 ≤ s.size := by omega
  have hs2 : d2 < s.size := by rw [hd2]; exact at?_lt _ _ _ hsl.2
  have hs1 : d1 < s.size := by omega
  have t1 : ((s[d1].toNat : Int) == 47) = true := eq_at s d1 47 (by rw [hd1]; exact hsl.1) hs1
  have t2 : ((s[d2].toNat : Int) == 47) = true := eq_at s d2 47 (by rw [hd2]; exact hsl.2) hs2
  clear hno he hc hsl hd1 hd2
  go_enter Try.func4, Try.ntmps4
  go_wp2_with fail
  refine (HZ.out _).mono ?_
  rintro x w' ⟨rfl, rfl⟩
  go_wp2_with fail
  refine (HH.out _).mono ?_
  rintro x w' ⟨rfl, n, rfl⟩
  go_wp2
  go_loop [4, 5] (fun v4 v5 => ∃ p : Nat, e ≤ p ∧ p < s.size ∧ v4 = .int .i64 (-1) ∧ v5 = .int .i64 p) (fun _ v5 => (intOf v5 + 1).toNat)
  case atStart => exact ⟨s.size - 1, by omega, by omega, rfl, by congr 1; omega⟩
  case round =>
    obtain ⟨p, hpe, hps, rfl, rfl⟩ := hrel
    by_cases hp : e < p
    · have q : ((s[p].toNat : Int) == 64) = false := ne_at s p 64 (HE.out.2 p hp) hps
      go_wp2
      go_round
      case rel => exact ⟨p - 1, by omega, by omega, rfl, by congr 1; omega⟩
      case measure => simp [intOf] <;> omega
    · have hpe' : p = e := by omega
      subst hpe'
      have q : ((s[p].toNat : Int) == 64) = true := eq_at s p 64 HE.out.1 hps
      clear hp hpe
      go_wp2
      clear q
      go_loop [6, 7, 8] (fun v6 v7 v8 => ∃ i : Nat, i ≤ p ∧ ((i ≤ c ∧ v6 = .int .i64 (-1)) ∨ (c < i ∧ v6 = .int .i64 c)) ∧ v7 = .int .i64 (-1) ∧ v8 = .int .i64 i) (fun _ _ v8 => p - (intOf v8).toNat)
      case atStart => exact ⟨0, Nat.zero_le _, .inl ⟨Nat.zero_le _, rfl⟩, rfl, rfl⟩
      case round =>
        obtain ⟨i, hi, hv6, rfl, rfl⟩ := hrel
        by_cases hlt : i < p
        · have hip : i < p := by omega
          have hisz : i < s.size := by omega
          rcases hv6 with ⟨hic, rfl⟩ | ⟨hic, rfl⟩
          · by_cases hi2 : i < c
            · have q : ((s[i].toNat : Int) == 58) = false := ne_at s i 58 (HC.out.2 i hi2) hisz
              go_wp2
              go_round
              case rel => exact ⟨i + 1, by omega, .inl ⟨by omega, rfl⟩, rfl, by go_num⟩
              case measure => simp [intOf] <;> omega
            · have hic' : i = c := by omega
              subst hic'
              have q : ((s[i].toNat : Int) == 58) = true := eq_at s i 58 HC.out.1 hisz
              clear hi2 hic
              go_wp2
              go_round
              case rel => exact ⟨i + 1, by omega, .inr ⟨by omega, rfl⟩, rfl, by go_num⟩
              case measure => simp [intOf] <;> omega
          · have q : ((s[i].toNat : Int) == 58) = false := ne_at s i 58 (HN.out i hic hlt) hisz
            go_wp2
            go_round
            case rel => exact ⟨i + 1, by omega, .inr ⟨by omega, rfl⟩, rfl, by go_num⟩
            case measure => simp [intOf] <;> omega
        · rcases hv6 with ⟨hic, rfl⟩ | ⟨hic, rfl⟩
          · exact absurd hic (by omega)
          · have hib : i = p := by omega
            subst hib
            clear hlt hi
            go_wp2
            go_ret
            exact ⟨rfl, _, rfl⟩

set_option maxHeartbeats 4000000 in
theorem law_AN (s : ByteArray) (hs : s.size ≤ 1048576) (e : Nat) (he : LastAt s e) (c : Nat) (hc : FirstColon s c) (hce : c < e) (hno : ∀ j, c < j → j < e → at? s j ≠ some 58) (hsl : ¬ sl s c) (w : World) :
    Calls Try.prog 4 #[.string s] w fun e w' => e = .returned (.bool true) ∧ ∃ n, w' = w.drewN n := by
  have hes : e < s.size := at?_lt _ _ _ he.1
  have HZ : Hid (∀ w, Calls Try.prog 9 #[.string s] w fun e w' => e = .returned (.bool true) ∧ w' = w) := fun w => ok9 s hs w
  obtain ⟨d1, hd1⟩ : ∃ d1, d1 = c + 1 := ⟨_, rfl⟩
  obtain ⟨d2, hd2⟩ : ∃ d2, d2 = c + 2 := ⟨_, rfl⟩
  have HH : Hid (∀ w, Calls Try.prog 10 #[.string s] w fun x w' => x = .returned (.string (s.extract 0 d1 ++ ⟨#[120, 120, 120, 120, 120]⟩ ++ s.extract e s.size)) ∧ ∃ n, w' = w.drewN n) := fun w => by
    rw [hd1]; exact hide_W2 s (by omega) e c he hc hce hsl w
  have HE : Hid (LastAt s e) := he
  have HC : Hid (FirstColon s c) := hc
  have HN := hno
  have HN : Hid (∀ j, c < j → j < e → at? s j ≠ some 58) := hno
  have q1 : (c : Int) + 1 = (d1 : Int) := by omega
  have q2 : (c : Int) + 2 = (d2 : Int) := by omega
  have hd1s : d1 ≤ s.size := by omega
  have hT : ¬ d2 < s.size ∨ (∃ (h2 : d2 < s.size) (h1 : d1 < s.size), ((s[d1].toNat : Int) == 47) = false) ∨ (∃ (h2 : d2 < s.size) (h1 : d1 < s.size), ((s[d1].toNat : Int) == 47) = true ∧ ((s[d2].toNat : Int) == 47) = false) := by
    by_cases h2 : d2 < s.size
    · have h1 : d1 < s.size := by omega
      by_cases h3 : at? s d1 = some 47
      · by_cases h4 : at? s d2 = some 47
        · exact absurd ⟨by rw [← hd1]; exact h3, by rw [← hd2]; exact h4⟩ hsl
        · exact .inr (.inr ⟨h2, h1, eq_at s d1 47 h3 h1, ne_at s d2 47 h4 h2⟩)
      · exact .inr (.inl ⟨h2, h1, ne_at s d1 47 h3 h1⟩)
    · exact .inl h2
  clear hno he hc hsl hd1 hd2
  go_enter Try.func4, Try.ntmps4
  go_wp2_with fail
  refine (HZ.out _).mono ?_
  rintro x w' ⟨rfl, rfl⟩
  go_wp2_with fail
  refine (HH.out _).mono ?_
  rintro x w' ⟨rfl, n, rfl⟩
  go_wp2
  go_loop [4, 5] (fun v4 v5 => ∃ p : Nat, e ≤ p ∧ p < s.size ∧ v4 = .int .i64 (-1) ∧ v5 = .int .i64 p) (fun _ v5 => (intOf v5 + 1).toNat)
  case atStart => exact ⟨s.size - 1, by omega, by omega, rfl, by congr 1; omega⟩
  case round =>
    obtain ⟨p, hpe, hps, rfl, rfl⟩ := hrel
    by_cases hp : e < p
    · have q : ((s[p].toNat : Int) == 64) = false := ne_at s p 64 (HE.out.2 p hp) hps
      go_wp2
      go_round
      case rel => exact ⟨p - 1, by omega, by omega, rfl, by congr 1; omega⟩
      case measure => simp [intOf] <;> omega
    · have hpe' : p = e := by omega
      subst hpe'
      have q : ((s[p].toNat : Int) == 64) = true := eq_at s p 64 HE.out.1 hps
      clear hp hpe
      go_wp2
      clear q
      go_loop [6, 7, 8] (fun v6 v7 v8 => ∃ i : Nat, i ≤ p ∧ ((i ≤ c ∧ v6 = .int .i64 (-1)) ∨ (c < i ∧ v6 = .int .i64 c)) ∧ v7 = .int .i64 (-1) ∧ v8 = .int .i64 i) (fun _ _ v8 => p - (intOf v8).toNat)
      case atStart => exact ⟨0, Nat.zero_le _, .inl ⟨Nat.zero_le _, rfl⟩, rfl, rfl⟩
      case round =>
        obtain ⟨i, hi, hv6, rfl, rfl⟩ := hrel
        by_cases hlt : i < p
        · have hip : i < p := by omega
          have hisz : i < s.size := by omega
          rcases hv6 with ⟨hic, rfl⟩ | ⟨hic, rfl⟩
          · by_cases hi2 : i < c
            · have q : ((s[i].toNat : Int) == 58) = false := ne_at s i 58 (HC.out.2 i hi2) hisz
              go_wp2
              go_round
              case rel => exact ⟨i + 1, by omega, .inl ⟨by omega, rfl⟩, rfl, by go_num⟩
              case measure => simp [intOf] <;> omega
            · have hic' : i = c := by omega
              subst hic'
              have q : ((s[i].toNat : Int) == 58) = true := eq_at s i 58 HC.out.1 hisz
              clear hi2 hic
              go_wp2
              go_round
              case rel => exact ⟨i + 1, by omega, .inr ⟨by omega, rfl⟩, rfl, by go_num⟩
              case measure => simp [intOf] <;> omega
          · have q : ((s[i].toNat : Int) == 58) = false := ne_at s i 58 (HN.out i hic hlt) hisz
            go_wp2
            go_round
            case rel => exact ⟨i + 1, by omega, .inr ⟨by omega, rfl⟩, rfl, by go_num⟩
            case measure => simp [intOf] <;> omega
        · rcases hv6 with ⟨hic, rfl⟩ | ⟨hic, rfl⟩
          · exact absurd hic (by omega)
          · have hib : i = p := by omega
            subst hib
            clear hlt hi
            rcases hT with h2 | ⟨h2, h1, t1⟩ | ⟨h2, h1, t1, t2⟩
            all_goals
              go_wp2
              go_big_quiet (fail)
              go_wp2
              go_ret
              exact ⟨rfl, _, World.drewN_drewN ..⟩

set_option maxHeartbeats 4000000 in
theorem law_BY (s : ByteArray) (hs : s.size ≤ 1048576) (e : Nat) (he : LastAt s e) (c : Nat) (hc : FirstColon s c) (hce : c < e) (d : Nat) (hcd : c < d) (hde : d < e) (hd : at? s d = some 58) (hno : ∀ j, c < j → j < d → at? s j ≠ some 58) (hsl : sl s c) (w : World) :
    Calls Try.prog 4 #[.string s] w fun e w' => e = .returned (.bool true) ∧ ∃ n, w' = w.drewN n := by
  have hes : e < s.size := at?_lt _ _ _ he.1
  have HZ : Hid (∀ w, Calls Try.prog 9 #[.string s] w fun e w' => e = .returned (.bool true) ∧ w' = w) := fun w => ok9 s hs w
  obtain ⟨d1, hd1⟩ : ∃ d1, d1 = c + 1 := ⟨_, rfl⟩
  obtain ⟨d2, hd2⟩ : ∃ d2, d2 = c + 2 := ⟨_, rfl⟩
  obtain ⟨d3, hd3⟩ : ∃ d3, d3 = d + 1 := ⟨_, rfl⟩
  have HH : Hid (∀ w, Calls Try.prog 10 #[.string s] w fun x w' => x = .returned (.string (s.extract 0 d3 ++ ⟨#[120, 120, 120, 120, 120]⟩ ++ s.extract e s.size)) ∧ ∃ n, w' = w.drewN n) := fun w => by
    rw [hd3]; exact hide_W4 s (by omega) e c d he hc hsl hcd hde hd hno w
  have q3 : (d : Int) + 1 = (d3 : Int) := by omega
  have hd3s : d3 ≤ s.size := by omega
  have HE : Hid (LastAt s e) := he
  have HC : Hid (FirstColon s c) := hc
  have HN := hno
  have HN : Hid (∀ j, c < j → j < d → at? s j ≠ some 58) := hno
  have HD : Hid (at? s d = some 58) := hd
  have q1 : (c : Int) + 1 = (d1 : Int) := by omega
  have q2 : (c : Int) + 2 = (d2 : Int) := by omega
  have hd1s : d1 ≤ s.size := by omega
  have hs2 : d2 < s.size := by rw [hd2]; exact at?_lt _ _ _ hsl.2
  have hs1 : d1 < s.size := by omega
  have t1 : ((s[d1].toNat : Int) == 47) = true := eq_at s d1 47 (by rw [hd1]; exact hsl.1) hs1
  have t2 : ((s[d2].toNat : Int) == 47) = true := eq_at s d2 47 (by rw [hd2]; exact hsl.2) hs2
  clear hno he hc hsl hd1 hd2 hd
  clear hd3
  go_enter Try.func4, Try.ntmps4
  go_wp2_with fail
  refine (HZ.out _).mono ?_
  rintro x w' ⟨rfl, rfl⟩
  go_wp2_with fail
  refine (HH.out _).mono ?_
  rintro x w' ⟨rfl, n, rfl⟩
  go_wp2
  go_loop [4, 5] (fun v4 v5 => ∃ p : Nat, e ≤ p ∧ p < s.size ∧ v4 = .int .i64 (-1) ∧ v5 = .int .i64 p) (fun _ v5 => (intOf v5 + 1).toNat)
  case atStart => exact ⟨s.size - 1, by omega, by omega, rfl, by congr 1; omega⟩
  case round =>
    obtain ⟨p, hpe, hps, rfl, rfl⟩ := hrel
    by_cases hp : e < p
    · have q : ((s[p].toNat : Int) == 64) = false := ne_at s p 64 (HE.out.2 p hp) hps
      go_wp2
      go_round
      case rel => exact ⟨p - 1, by omega, by omega, rfl, by congr 1; omega⟩
      case measure => simp [intOf] <;> omega
    · have hpe' : p = e := by omega
      subst hpe'
      have q : ((s[p].toNat : Int) == 64) = true := eq_at s p 64 HE.out.1 hps
      clear hp hpe
      go_wp2
      clear q
      go_loop [6, 7, 8] (fun v6 v7 v8 => ∃ i : Nat, i ≤ d ∧ ((i ≤ c ∧ v6 = .int .i64 (-1)) ∨ (c < i ∧ v6 = .int .i64 c)) ∧ v7 = .int .i64 (-1) ∧ v8 = .int .i64 i) (fun _ _ v8 => p - (intOf v8).toNat)
      case atStart => exact ⟨0, Nat.zero_le _, .inl ⟨Nat.zero_le _, rfl⟩, rfl, rfl⟩
      case round =>
        obtain ⟨i, hi, hv6, rfl, rfl⟩ := hrel
        by_cases hlt : i < d
        · have hip : i < p := by omega
          have hisz : i < s.size := by omega
          rcases hv6 with ⟨hic, rfl⟩ | ⟨hic, rfl⟩
          · by_cases hi2 : i < c
            · have q : ((s[i].toNat : Int) == 58) = false := ne_at s i 58 (HC.out.2 i hi2) hisz
              go_wp2
              go_round
              case rel => exact ⟨i + 1, by omega, .inl ⟨by omega, rfl⟩, rfl, by go_num⟩
              case measure => simp [intOf] <;> omega
            · have hic' : i = c := by omega
              subst hic'
              have q : ((s[i].toNat : Int) == 58) = true := eq_at s i 58 HC.out.1 hisz
              clear hi2 hic
              go_wp2
              go_round
              case rel => exact ⟨i + 1, by omega, .inr ⟨by omega, rfl⟩, rfl, by go_num⟩
              case measure => simp [intOf] <;> omega
          · have q : ((s[i].toNat : Int) == 58) = false := ne_at s i 58 (HN.out i hic hlt) hisz
            go_wp2
            go_round
            case rel => exact ⟨i + 1, by omega, .inr ⟨by omega, rfl⟩, rfl, by go_num⟩
            case measure => simp [intOf] <;> omega
        · rcases hv6 with ⟨hic, rfl⟩ | ⟨hic, rfl⟩
          · exact absurd hic (by omega)
          · have hib : i = d := by omega
            subst hib
            have hisz : i < s.size := by omega
            have q : ((s[i].toNat : Int) == 58) = true := eq_at s i 58 HD.out hisz
            clear hlt hi
            go_wp2
            go_big_quiet (fail)
            go_wp2
            go_ret
            exact ⟨rfl, _, World.drewN_drewN ..⟩

set_option maxHeartbeats 4000000 in
theorem law_BN (s : ByteArray) (hs : s.size ≤ 1048576) (e : Nat) (he : LastAt s e) (c : Nat) (hc : FirstColon s c) (hce : c < e) (d : Nat) (hcd : c < d) (hde : d < e) (hd : at? s d = some 58) (hno : ∀ j, c < j → j < d → at? s j ≠ some 58) (hsl : ¬ sl s c) (w : World) :
    Calls Try.prog 4 #[.string s] w fun e w' => e = .returned (.bool true) ∧ ∃ n, w' = w.drewN n := by
  have hes : e < s.size := at?_lt _ _ _ he.1
  have HZ : Hid (∀ w, Calls Try.prog 9 #[.string s] w fun e w' => e = .returned (.bool true) ∧ w' = w) := fun w => ok9 s hs w
  obtain ⟨d1, hd1⟩ : ∃ d1, d1 = c + 1 := ⟨_, rfl⟩
  obtain ⟨d2, hd2⟩ : ∃ d2, d2 = c + 2 := ⟨_, rfl⟩
  have HH : Hid (∀ w, Calls Try.prog 10 #[.string s] w fun x w' => x = .returned (.string (s.extract 0 d1 ++ ⟨#[120, 120, 120, 120, 120]⟩ ++ s.extract e s.size)) ∧ ∃ n, w' = w.drewN n) := fun w => by
    rw [hd1]; exact hide_W2 s (by omega) e c he hc hce hsl w
  have HE : Hid (LastAt s e) := he
  have HC : Hid (FirstColon s c) := hc
  have HN := hno
  have HN : Hid (∀ j, c < j → j < d → at? s j ≠ some 58) := hno
  have HD : Hid (at? s d = some 58) := hd
  have q1 : (c : Int) + 1 = (d1 : Int) := by omega
  have q2 : (c : Int) + 2 = (d2 : Int) := by omega
  have hd1s : d1 ≤ s.size := by omega
  have hT : ¬ d2 < s.size ∨ (∃ (h2 : d2 < s.size) (h1 : d1 < s.size), ((s[d1].toNat : Int) == 47) = false) ∨ (∃ (h2 : d2 < s.size) (h1 : d1 < s.size), ((s[d1].toNat : Int) == 47) = true ∧ ((s[d2].toNat : Int) == 47) = false) := by
    by_cases h2 : d2 < s.size
    · have h1 : d1 < s.size := by omega
      by_cases h3 : at? s d1 = some 47
      · by_cases h4 : at? s d2 = some 47
        · exact absurd ⟨by rw [← hd1]; exact h3, by rw [← hd2]; exact h4⟩ hsl
        · exact .inr (.inr ⟨h2, h1, eq_at s d1 47 h3 h1, ne_at s d2 47 h4 h2⟩)
      · exact .inr (.inl ⟨h2, h1, ne_at s d1 47 h3 h1⟩)
    · exact .inl h2
  clear hno he hc hsl hd1 hd2 hd
  go_enter Try.func4, Try.ntmps4
  go_wp2_with fail
  refine (HZ.out _).mono ?_
  rintro x w' ⟨rfl, rfl⟩
  go_wp2_with fail
  refine (HH.out _).mono ?_
  rintro x w' ⟨rfl, n, rfl⟩
  go_wp2
  go_loop [4, 5] (fun v4 v5 => ∃ p : Nat, e ≤ p ∧ p < s.size ∧ v4 = .int .i64 (-1) ∧ v5 = .int .i64 p) (fun _ v5 => (intOf v5 + 1).toNat)
  case atStart => exact ⟨s.size - 1, by omega, by omega, rfl, by congr 1; omega⟩
  case round =>
    obtain ⟨p, hpe, hps, rfl, rfl⟩ := hrel
    by_cases hp : e < p
    · have q : ((s[p].toNat : Int) == 64) = false := ne_at s p 64 (HE.out.2 p hp) hps
      go_wp2
      go_round
      case rel => exact ⟨p - 1, by omega, by omega, rfl, by congr 1; omega⟩
      case measure => simp [intOf] <;> omega
    · have hpe' : p = e := by omega
      subst hpe'
      have q : ((s[p].toNat : Int) == 64) = true := eq_at s p 64 HE.out.1 hps
      clear hp hpe
      go_wp2
      clear q
      go_loop [6, 7, 8] (fun v6 v7 v8 => ∃ i : Nat, i ≤ d ∧ ((i ≤ c ∧ v6 = .int .i64 (-1)) ∨ (c < i ∧ v6 = .int .i64 c)) ∧ v7 = .int .i64 (-1) ∧ v8 = .int .i64 i) (fun _ _ v8 => p - (intOf v8).toNat)
      case atStart => exact ⟨0, Nat.zero_le _, .inl ⟨Nat.zero_le _, rfl⟩, rfl, rfl⟩
      case round =>
        obtain ⟨i, hi, hv6, rfl, rfl⟩ := hrel
        by_cases hlt : i < d
        · have hip : i < p := by omega
          have hisz : i < s.size := by omega
          rcases hv6 with ⟨hic, rfl⟩ | ⟨hic, rfl⟩
          · by_cases hi2 : i < c
            · have q : ((s[i].toNat : Int) == 58) = false := ne_at s i 58 (HC.out.2 i hi2) hisz
              go_wp2
              go_round
              case rel => exact ⟨i + 1, by omega, .inl ⟨by omega, rfl⟩, rfl, by go_num⟩
              case measure => simp [intOf] <;> omega
            · have hic' : i = c := by omega
              subst hic'
              have q : ((s[i].toNat : Int) == 58) = true := eq_at s i 58 HC.out.1 hisz
              clear hi2 hic
              go_wp2
              go_round
              case rel => exact ⟨i + 1, by omega, .inr ⟨by omega, rfl⟩, rfl, by go_num⟩
              case measure => simp [intOf] <;> omega
          · have q : ((s[i].toNat : Int) == 58) = false := ne_at s i 58 (HN.out i hic hlt) hisz
            go_wp2
            go_round
            case rel => exact ⟨i + 1, by omega, .inr ⟨by omega, rfl⟩, rfl, by go_num⟩
            case measure => simp [intOf] <;> omega
        · rcases hv6 with ⟨hic, rfl⟩ | ⟨hic, rfl⟩
          · exact absurd hic (by omega)
          · have hib : i = d := by omega
            subst hib
            have hisz : i < s.size := by omega
            have q : ((s[i].toNat : Int) == 58) = true := eq_at s i 58 HD.out hisz
            clear hlt hi
            rcases hT with h2 | ⟨h2, h1, t1⟩ | ⟨h2, h1, t1, t2⟩
            · exact absurd (by omega) h2
            all_goals
              go_wp2
              go_big_quiet (fail)
              go_wp2
              go_ret
              exact ⟨rfl, _, World.drewN_drewN ..⟩

end Go.Proofs.Qxb6603708a

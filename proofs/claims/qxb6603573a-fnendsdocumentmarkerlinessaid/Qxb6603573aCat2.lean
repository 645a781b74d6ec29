import Derived.Test.Qxb6603573aCat
namespace Go.Proofs.Qxb6603573a
open Go.RowKit
set_option linter.unusedVariables false

theorem infoByte : (Try.prog.info? 5).map (fun i => (i.zero, i.size, i.bytes)) = some (some (.int .u8 0), 1, 1) := by kernel_rfl

theorem byteCells_snoc (l : List UInt8) (c : UInt8) : Lib.byteCells (l ++ [c]) = Lib.byteCells l ++ [.int .u8 c.toNat] := by simp [Lib.byteCells]

theorem own_take {w : World} {B : Nat} {v : Value} {n k : Nat} {xs : List Value} {pre l : List UInt8} (hk : k < l.length) (h : w.ownsRow B 5 1 v n xs) (hn : n = pre.length + k + 1) (c : UInt8) (hc : c = l.getD k 0) (hx : xs = Lib.byteCells (pre ++ l.take k) ++ [.int .u8 c.toNat]) :
    w.ownsRow B 5 1 v (pre.length + (k + 1)) (Lib.byteCells (pre ++ l.take (k + 1))) := by
  have e : pre ++ l.take (k + 1) = (pre ++ l.take k) ++ [c] := by
    rw [List.take_succ_eq_append_getElem hk, List.append_assoc, hc]
    simp [List.getD, hk]
  rw [e, byteCells_snoc, ← hx, show pre.length + (k + 1) = n from by omega]; exact h

/-- What an owned row holds. -/
theorem own_holds {w : World} {B : Nat} {v : Value} {n : Nat} {l : List UInt8} (h : w.ownsRow B 5 1 v n (Lib.byteCells l)) (hl : 1 ≤ l.length) : ∃ g cap, v = .slice (some ⟨g, 0, none⟩) n cap ∧ n = l.length ∧ n ≤ cap ∧ Holds w g 0 l ∧ B ≤ g := by
  have h1 := h.1
  have hlen : (Lib.byteCells l).length = l.length := by simp [Lib.byteCells]
  rcases h.2 with ⟨_, h0⟩ | ⟨g, cap, cur, hv, hB, hg, hnc, _, hcs, htk⟩
  · omega
  · refine ⟨g, cap, hv, by omega, hnc, ⟨(Array.getElem?_eq_some_iff.1 hg).1, fun i hi => ?_⟩, hB⟩
    have hc := h.cells (g := g) (by rw [hv]; rfl) i (.int .u8 ((nums l).getD i 0)) (by
      rw [nums_getD]; simp [Lib.byteCells, List.getD, hi])
    rw [Nat.zero_add]
    have hadd : (⟨g, 0, none⟩ : Addr).add i = ⟨g, i, none⟩ := by unfold Addr.add; split <;> simp_all
    rw [hadd] at hc; exact hc

set_option maxHeartbeats 4000000 in
theorem cat_nil (s : ByteArray) (hs1 : 1 ≤ s.size) (hs : s.size ≤ 16) (w : World) :
    Calls Try.prog 9 #[.string s, .slice none 0 0] w fun e w' => ∃ g' cap, e = .returned (.slice (some ⟨g', 0, none⟩) (s.data.toList.length) cap) ∧ s.data.toList.length ≤ cap ∧ Holds w' g' 0 s.data.toList ∧ w.heap.size ≤ g' ∧ Below w.heap.size w w' := by
  obtain ⟨i0, hi, hz0, hz1, hz2⟩ := info_parts infoByte
  have hsl : s.data.toList.length = s.size := Array.length_toList
  obtain ⟨B, hB⟩ : ∃ B, B = w.heap.size := ⟨_, rfl⟩
  have HBB : Hid (B = w.heap.size) := hB
  have HSL : Hid (s.data.toList.length = s.size) := hsl
  clear hB hsl
  go_enter Try.func9, Try.ntmps9
  go_wp2_with (at_make; refine wpList_make_own _ rfl _ _ 22 rfl w.heap.size 5 i0 (.int .u8 0) 1 Try.underlying22 hi hz0 hz1 _ _ _ s.size rfl rfl (by omega) ?b2 ?b3 (Nat.le_refl _) ?_)
  case b2 => rw [hz2]; omega
  case b3 => unfold maxLen; omega
  intro w0 hown0 hgrow0
  have HB0 : Hid (Below w.heap.size w w0) := (Below.refl _ _).grown hgrow0 (Nat.le_refl _) (fun k h => by cases h)
  clear hgrow0
  rw [← HBB.out] at hown0 HB0 ⊢
  go_wp2
  go_loopw [5, 6] (fun v i wr => ∃ k : Nat, k ≤ s.size ∧ i = .int .i64 k ∧ wr.ownsRow B 5 1 v k (Lib.byteCells (s.data.toList.take k)) ∧ Below B w wr ∧ B ≤ wr.heap.size) (fun _ i _ => s.size - (intOf i).toNat)
  case atStart => exact ⟨0, Nat.zero_le _, rfl, hown0, HB0.out, by have := HB0.out.size; have := HBB.out; omega⟩
  case round =>
    obtain ⟨k, hk, rfl, hown, hbl, hBs⟩ := hrel
    have Hbl : Hid (Below B w wr) := hbl
    clear hown0 HB0 hbl
    by_cases hlt : k < s.size
    · go_wp2_with (at_builtin; refine wpList_append_own _ rfl _ _ 22 rfl B 5 i0 (.int .u8 0) 1 1 Try.underlying22 hi hz0 hz1 hz2 rfl (by decide) _ _ _ rfl (hown.alloc _) ⟨wr.heap.size, 0, none⟩ 1 1 [.int .u8 s[k].toNat] rfl rfl ?d1 ?d2 ?d3 ?d4 ?d5 ?_)
      case d1 =>
        intro j u hj
        match j, hj with
        | 0, hj => simp at hj; subst hj; simp [Addr.add]
      case d2 => intro u hu; simp at hu; subst hu; rfl
      case d3 => unfold maxLen; omega
      case d4 => omega
      case d5 => simp; omega
      intro v2 w2 hown2 hgrow2 _
      have hB2 : B ≤ w2.heap.size := by have := hgrow2.size; simp at this; omega
      have HB2 : Hid (Below B w w2) := (Hbl.out.alloc hBs _).grown hgrow2 (by simp; omega) (fun k hk => (hown.lt k hk).1)
      have ho2 : w2.ownsRow B 5 1 v2 (k + 1) (Lib.byteCells (s.data.toList.take (k + 1))) := by
        have h := own_take (pre := []) (l := s.data.toList) (k := k) (by rw [HSL.out]; exact hlt) hown2 (by simp) s[k] (by
          have hk' : k < s.data.toList.length := by rw [HSL.out]; exact hlt
          simp only [List.getD, List.getElem?_eq_getElem hk', Option.getD_some]; rfl) (by simp)
        simpa using h
      have HO2 : Hid (w2.ownsRow B 5 1 v2 (k + 1) (Lib.byteCells (s.data.toList.take (k + 1)))) := ho2
      clear hgrow2 hown2 hown ho2
      go_wp2
      go_roundw
      case rel => exact ⟨k + 1, by omega, by go_num, HO2.out, HB2.out, hB2⟩
      case measure => simp [intOf]; omega
    · have hks : k = s.size := by omega
      have ho1 : wr.ownsRow B 5 1 u5 (s.size + 0) (Lib.byteCells (s.data.toList ++ [].take 0)) := by
        have e : s.data.toList.take k = s.data.toList := List.take_of_length_le (by have := HSL.out; omega)
        rw [e] at hown
        rw [hks] at hown
        simpa using hown
      have HO1 : Hid (wr.ownsRow B 5 1 u5 (s.size + 0) (Lib.byteCells (s.data.toList ++ [].take 0))) := ho1
      clear hown hks ho1
      obtain ⟨wo, hwo⟩ : ∃ wo : World, wo = wr := ⟨_, rfl⟩
      go_wp2
      go_loopw [5, 7] (fun v i wr => i = .int .i64 0 ∧ wr.ownsRow B 5 1 v s.size (Lib.byteCells s.data.toList) ∧ Below B w wr) (fun _ _ _ => 0)
      case atStart => exact ⟨rfl, by simpa using HO1.out, Hbl.out⟩
      case round =>
        obtain ⟨rfl, hown, hbl⟩ := hrel
        obtain ⟨g', cap, hv, hn', hcap', hH, hg'⟩ := own_holds hown (by have := HSL.out; omega)
        rw [hv]
        clear hown hwo
        go_wp2
        go_ret
        refine ⟨g', cap, ?_, by rw [HSL.out]; exact hcap', hH, by rw [← HBB.out]; exact hg', ?_⟩
        · rw [HSL.out]; rfl
        · rw [← HBB.out]; exact hbl

set_option maxHeartbeats 4000000 in
theorem cat_some (g o c : Nat) (l : List UInt8) (n : Nat) (s : ByteArray) (hs1 : 1 ≤ s.size) (hs : s.size ≤ 16) (hn : n ≤ 1048576) (w : World) (hnl : n = l.length) (hcap : n ≤ c) (hh : Holds w g o l) :
    Calls Try.prog 9 #[.string s, .slice (some ⟨g, o, none⟩) n c] w fun e w' => ∃ g' cap, e = .returned (.slice (some ⟨g', 0, none⟩) ((s.data.toList ++ l).length) cap) ∧ (s.data.toList ++ l).length ≤ cap ∧ Holds w' g' 0 (s.data.toList ++ l) ∧ w.heap.size ≤ g' ∧ Below w.heap.size w w' := by
  obtain ⟨i0, hi, hz0, hz1, hz2⟩ := info_parts infoByte
  have hsl : s.data.toList.length = s.size := Array.length_toList
  obtain ⟨B, hB⟩ : ∃ B, B = w.heap.size := ⟨_, rfl⟩
  have HBB : Hid (B = w.heap.size) := hB
  have HSL : Hid (s.data.toList.length = s.size) := hsl
  have HNL : Hid (n = l.length) := hnl
  have HH : Hid (Holds w g o l) := hh
  have hgB : g < B := by rw [hB]; exact hh.lt
  clear hnl hh
  clear hB hsl
  go_enter Try.func9, Try.ntmps9
  go_wp2_with (at_make; refine wpList_make_own _ rfl _ _ 22 rfl w.heap.size 5 i0 (.int .u8 0) 1 Try.underlying22 hi hz0 hz1 _ _ _ (s.size + n) rfl rfl (by omega) ?b2 ?b3 (Nat.le_refl _) ?_)
  case b2 => rw [hz2]; omega
  case b3 => unfold maxLen; omega
  intro w0 hown0 hgrow0
  have HB0 : Hid (Below w.heap.size w w0) := (Below.refl _ _).grown hgrow0 (Nat.le_refl _) (fun k h => by cases h)
  clear hgrow0
  rw [← HBB.out] at hown0 HB0 ⊢
  go_wp2
  go_loopw [5, 6] (fun v i wr => ∃ k : Nat, k ≤ s.size ∧ i = .int .i64 k ∧ wr.ownsRow B 5 1 v k (Lib.byteCells (s.data.toList.take k)) ∧ Below B w wr ∧ B ≤ wr.heap.size) (fun _ i _ => s.size - (intOf i).toNat)
  case atStart => exact ⟨0, Nat.zero_le _, rfl, hown0, HB0.out, by have := HB0.out.size; have := HBB.out; omega⟩
  case round =>
    obtain ⟨k, hk, rfl, hown, hbl, hBs⟩ := hrel
    have Hbl : Hid (Below B w wr) := hbl
    clear hown0 HB0 hbl
    by_cases hlt : k < s.size
    · go_wp2_with (at_builtin; refine wpList_append_own _ rfl _ _ 22 rfl B 5 i0 (.int .u8 0) 1 1 Try.underlying22 hi hz0 hz1 hz2 rfl (by decide) _ _ _ rfl (hown.alloc _) ⟨wr.heap.size, 0, none⟩ 1 1 [.int .u8 s[k].toNat] rfl rfl ?d1 ?d2 ?d3 ?d4 ?d5 ?_)
      case d1 =>
        intro j u hj
        match j, hj with
        | 0, hj => simp at hj; subst hj; simp [Addr.add]
      case d2 => intro u hu; simp at hu; subst hu; rfl
      case d3 => unfold maxLen; omega
      case d4 => omega
      case d5 => simp; omega
      intro v2 w2 hown2 hgrow2 _
      have hB2 : B ≤ w2.heap.size := by have := hgrow2.size; simp at this; omega
      have HB2 : Hid (Below B w w2) := (Hbl.out.alloc hBs _).grown hgrow2 (by simp; omega) (fun k hk => (hown.lt k hk).1)
      have ho2 : w2.ownsRow B 5 1 v2 (k + 1) (Lib.byteCells (s.data.toList.take (k + 1))) := by
        have h := own_take (pre := []) (l := s.data.toList) (k := k) (by rw [HSL.out]; exact hlt) hown2 (by simp) s[k] (by
          have hk' : k < s.data.toList.length := by rw [HSL.out]; exact hlt
          simp only [List.getD, List.getElem?_eq_getElem hk', Option.getD_some]; rfl) (by simp)
        simpa using h
      have HO2 : Hid (w2.ownsRow B 5 1 v2 (k + 1) (Lib.byteCells (s.data.toList.take (k + 1)))) := ho2
      clear hgrow2 hown2 hown ho2
      go_wp2
      go_roundw
      case rel => exact ⟨k + 1, by omega, by go_num, HO2.out, HB2.out, hB2⟩
      case measure => simp [intOf]; omega
    · have hks : k = s.size := by omega
      have ho1 : wr.ownsRow B 5 1 u5 (s.size + 0) (Lib.byteCells (s.data.toList ++ l.take 0)) := by
        have e : s.data.toList.take k = s.data.toList := List.take_of_length_le (by have := HSL.out; omega)
        rw [e] at hown
        rw [hks] at hown
        simpa using hown
      have HO1 : Hid (wr.ownsRow B 5 1 u5 (s.size + 0) (Lib.byteCells (s.data.toList ++ l.take 0))) := ho1
      clear hown hks ho1
      obtain ⟨wo, hwo⟩ : ∃ wo : World, wo = wr := ⟨_, rfl⟩
      go_wp2
      go_loopw [5, 7] (fun v i wr => ∃ k : Nat, k ≤ n ∧ i = .int .i64 k ∧ wr.ownsRow B 5 1 v (s.size + k) (Lib.byteCells (s.data.toList ++ l.take k)) ∧ Below B w wr ∧ B ≤ wr.heap.size) (fun _ i _ => n - (intOf i).toNat)
      case atStart => exact ⟨0, Nat.zero_le _, rfl, HO1.out, Hbl.out, hBs⟩
      case round =>
        obtain ⟨k, hk, rfl, hown, hbl, hBs⟩ := hrel
        have Hbl : Hid (Below B w wr) := hbl
        have HHr : Hid (Holds wr g o l) := HH.out.below hbl hgB
        clear hbl hwo HO1
        by_cases hlt : k < n
        · obtain ⟨ch, hch⟩ : ∃ ch, ch = l.getD k 0 := ⟨_, rfl⟩
          have gk : wr.cell? ⟨g, o + k, none⟩ = some (.int .u8 ch.toNat) := by
            have h := HHr.out.cell k (by have := HNL.out; omega)
            rw [nums_getD, ← hch] at h; exact h
          have HCH : Hid (ch = l.getD k 0) := hch
          clear hch
          go_wp2_with (at_builtin; refine wpList_append_own _ rfl _ _ 22 rfl B 5 i0 (.int .u8 0) 1 1 Try.underlying22 hi hz0 hz1 hz2 rfl (by decide) _ _ _ rfl (hown.alloc _) ⟨wr.heap.size, 0, none⟩ 1 1 [.int .u8 ch.toNat] rfl rfl ?d1 ?d2 ?d3 ?d4 ?d5 ?_)
          case d1 =>
            intro j u hj
            match j, hj with
            | 0, hj => simp at hj; subst hj; simp [Addr.add]
          case d2 => intro u hu; simp at hu; subst hu; rfl
          case d3 => unfold maxLen; omega
          case d4 => omega
          case d5 => simp; omega
          intro v2 w2 hown2 hgrow2 _
          have hB2 : B ≤ w2.heap.size := by have := hgrow2.size; simp at this; omega
          have HB2 : Hid (Below B w w2) := (Hbl.out.alloc hBs _).grown hgrow2 (by simp; omega) (fun k hk => (hown.lt k hk).1)
          have HO2 : Hid (w2.ownsRow B 5 1 v2 (s.size + (k + 1)) (Lib.byteCells (s.data.toList ++ l.take (k + 1)))) := by
            have h := own_take (pre := s.data.toList) (l := l) (k := k) (by have := HNL.out; omega) hown2 (by have := HSL.out; omega) ch HCH.out (by simp)
            rw [HSL.out] at h; exact h
          clear hgrow2 hown2 hown
          go_wp2
          go_roundw
          case rel => exact ⟨k + 1, by omega, by go_num, HO2.out, HB2.out, hB2⟩
          case measure => simp [intOf]; omega
        · have hkn : k = n := by omega
          have e : l.take k = l := List.take_of_length_le (by have := HNL.out; omega)
          rw [e, hkn] at hown
          obtain ⟨g', cap, hv, hn', hcap', hH, hg'⟩ := own_holds hown (by have := HSL.out; simp; omega)
          rw [hv]
          have HEQ : Hid (s.size + n = (s.data.toList ++ l).length) := hn'
          clear hown hkn e hn' hv
          go_wp2
          go_ret
          refine ⟨g', cap, ?_, by rw [← HEQ.out]; exact hcap', hH, by rw [← HBB.out]; exact hg', ?_⟩
          · rw [← HEQ.out]; rfl
          · rw [← HBB.out]; exact Hbl.out

end Go.Proofs.Qxb6603573a

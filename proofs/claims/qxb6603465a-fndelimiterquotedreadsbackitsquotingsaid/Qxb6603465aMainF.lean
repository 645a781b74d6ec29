import Derived.Test.Qxb6603465aMainT
namespace Go.Proofs.Qxb6603465a
open Go.RowKit

set_option maxHeartbeats 4000000 in
theorem main_false (a0 a2 : ByteArray) (h1 : 2 * a0.size + a2.size ≤ 1048576) (hno : P.has 39 a0.data.toList = false) (w : World) :
    Calls Try.prog 3 #[.string a0, .bool false, .string a2] w fun e w' => e = .returned (.bool true) ∧ Below w.heap.size w w' := by
  obtain ⟨i0, hi, hz0, hz1, hz2⟩ := info_parts infoByte
  have hZ : ∀ w, Calls Try.prog 5 #[.string a0, .bool false, .string a2] w fun e w' => e = .returned (.bool true) ∧ w' = w := fun w => by
    have h := zzBytes_any a0 false a2 (by unfold maxLen; omega) (by unfold maxLen; omega) w
    have hd : decide ((a0.size : Int) + (a2.size : Int) ≤ 1048576) = true := by simp; omega
    rw [hd] at h; exact h
  have HZ : Hid (∀ w, Calls Try.prog 5 #[.string a0, .bool false, .string a2] w fun e w' => e = .returned (.bool true) ∧ w' = w) := hZ
  clear hZ
  have HI : Hid (∀ w, Calls Try.prog 6 #[.int .u8 39, .string a0] w fun e w' => e = .returned (.bool false) ∧ w' = w) := fun w => by
    have h := zzIn_any 39 a0 (by unfold maxLen; omega) w
    rw [hno] at h; exact h
  have HNO : Hid (P.has 39 a0.data.toList = false) := hno
  clear hno
  go_enter Try.func3, Try.ntmps3
  go_wp2_with fail
  refine (HZ.out w).mono ?_
  rintro x w' ⟨rfl, rfl⟩
  go_wp2_with fail
  refine (HI.out _).mono ?_
  rintro x w' ⟨rfl, rfl⟩
  go_wp2_with (at_make; refine wpList_make_own _ rfl _ _ 24 rfl w'.heap.size 5 i0 (.int .u8 0) 1 Try.underlying24 hi hz0 hz1 _ _ _ (2 * a0.size + 1 + a2.size) rfl rfl (by omega) ?b2 ?b3 (Nat.le_refl _) ?_)
  case b2 => rw [hz2]; omega
  case b3 => unfold maxLen; omega
  intro w0 hown0 hgrow0
  have HB0 : Hid (Below w'.heap.size w' w0) := (Below.refl _ _).grown hgrow0 (Nat.le_refl _) (fun k h => by cases h)
  clear hgrow0
  go_wp2
  obtain ⟨B, hB⟩ : ∃ B, B = w'.heap.size := ⟨_, rfl⟩
  rw [← hB] at hown0 HB0 ⊢
  have HBB : Hid (B = w'.heap.size) := hB
  clear hB
  go_loopw [9, 10] (fun v i wr => ∃ k : Nat, k ≤ a0.size ∧ i = .int .i64 k ∧ wr.ownsRow B 5 1 v (P.enc false (a0.data.toList.take k)).length (Lib.byteCells (P.enc false (a0.data.toList.take k))) ∧ Below B w' wr ∧ B ≤ wr.heap.size) (fun _ i _ => a0.size - (intOf i).toNat)
  case atStart => exact ⟨0, Nat.zero_le _, rfl, hown0, HB0.out, by have := HB0.out.size; have := HBB.out; omega⟩
  case round =>
    obtain ⟨k, hk, rfl, hown, hbl, hBs⟩ := hrel
    clear hown0 HB0
    have hle := enc_take_le false a0 k
    obtain ⟨n, hn⟩ : ∃ n, n = (P.enc false (a0.data.toList.take k)).length := ⟨_, rfl⟩
    rw [← hn] at hown hle
    have HN : Hid (n = (P.enc false (a0.data.toList.take k)).length) := hn
    have Hbl : Hid (Below B w' wr) := hbl
    clear hn hbl
    by_cases hlt : k < a0.size
    · go_wp2_with (at_builtin; refine wpList_append_own _ rfl _ _ 24 rfl B 5 i0 (.int .u8 0) 1 1 Try.underlying24 hi hz0 hz1 hz2 rfl (by decide) _ _ _ rfl (hown.alloc _) ⟨wr.heap.size, 0, none⟩ 1 1 [.int .u8 a0[k].toNat] rfl rfl ?d1 ?d2 ?d3 ?d4 ?d5 ?_)
      case d1 =>
        intro j u hj
        match j, hj with
        | 0, hj => simp at hj; subst hj; simp [Addr.add]
      case d2 => intro u hu; simp at hu; subst hu; rfl
      case d3 => unfold maxLen; omega
      case d4 => omega
      case d5 => simp; omega
      intro v2 w2 hown2 hgrow2 _
      have hB2 : B ≤ w2.heap.size := by have := hgrow2.size; simp at this; omega
      have HB2 : Hid (Below B w' w2) := (Hbl.out.alloc hBs _).grown hgrow2 (by simp; omega) (fun k hk => (hown.lt k hk).1)
      have HO2 : Hid (w2.ownsRow B 5 1 v2 (P.enc false (a0.data.toList.take (k + 1))).length (Lib.byteCells (P.enc false (a0.data.toList.take (k + 1))))) := by
        refine own_step false a0 k hlt hown2 ?_ ?_
        · rw [← HN.out]; simp [P.encB]
        · simp [P.encB, Lib.byteCells]
      clear hgrow2 hown2 hown
      go_wp2
      go_roundw
      case rel => exact ⟨k + 1, by omega, by go_num, HO2.out, HB2.out, hB2⟩
      case measure => simp [intOf]; omega
    · obtain ⟨ao, cap, hv⟩ : ∃ ao cap, u9 = .slice ao n cap := by
        rcases hown.2 with ⟨hv, h0⟩ | ⟨g, cap, cur, hv, _⟩
        · exact ⟨none, 0, by rw [hv, h0]⟩
        · exact ⟨_, _, hv⟩
      subst hv
      go_wp2_with (at_builtin; refine wpList_append_own _ rfl _ _ 24 rfl B 5 i0 (.int .u8 0) 1 1 Try.underlying24 hi hz0 hz1 hz2 rfl (by decide) _ _ _ rfl (hown.alloc _) ⟨wr.heap.size, 0, none⟩ 1 1 [.int .u8 39] rfl rfl ?c1 ?c2 ?c3 ?c4 ?c5 ?_)
      case c1 =>
        intro j u hj
        match j, hj with
        | 0, hj => simp at hj; subst hj; simp [Addr.add]
      case c2 => intro u hu; simp at hu; subst hu; rfl
      case c3 => unfold maxLen; omega
      case c4 => omega
      case c5 => simp; omega
      intro v1 w1 hown1 hgrow1 _
      have hB1 : B ≤ w1.heap.size := by have := hgrow1.size; simp at this; omega
      have HB1 : Hid (Below B w' w1) := (Hbl.out.alloc hBs _).grown hgrow1 (by simp; omega) (fun k hk => (hown.lt k hk).1)
      clear hgrow1
      go_wp2_with (at_builtin; refine Lib.wpList_append_own_string _ rfl _ _ 24 9 rfl B 5 i0 Try.underlying24 Try.underlying9 hi hz0 hz1 hz2 _ _ _ rfl hown1 a2 rfl ?d3 ?d4 ?d5 ?_)
      case d3 => unfold maxLen; omega
      case d4 => omega
      case d5 => omega
      intro v2 w2 hown2 hgrow2 _
      have hB2 : B ≤ w2.heap.size := by have := hgrow2.size; omega
      have HB2 : Hid (Below B w' w2) := HB1.out.grown hgrow2 hB1 (fun k hk => (hown1.lt k hk).1)
      clear hgrow2 hown
      have hen : P.enc false (a0.data.toList.take k) = P.enc false a0.data.toList := by
        rw [List.take_of_length_le]; have h2 : a0.data.toList.length = a0.size := Array.length_toList
        omega
      obtain ⟨L, hL⟩ : ∃ L, L = P.enc false a0.data.toList ++ 39 :: a2.data.toList := ⟨_, rfl⟩
      have h2s : a2.data.toList.length = a2.size := Array.length_toList
      have hLn : n + 1 + a2.size = L.length := by
        rw [hL, HN.out, hen]; simp [h2s]; omega
      have hLc : Lib.byteCells (P.enc false (List.take k a0.data.toList)) ++ Value.int .u8 39 :: Lib.strCells a2 = Lib.byteCells L := by
        rw [hL, hen]; simp [Lib.byteCells, Lib.strCells]
      rw [hLn, hLc] at hown2
      obtain ⟨g, cap2, hv2⟩ : ∃ g cap, v2 = .slice (some ⟨g, 0, none⟩) L.length cap := by
        rcases hown2.2 with ⟨hv, h0⟩ | ⟨g, cap, cur, hv, _⟩
        · omega
        · exact ⟨_, _, hv⟩
      have hconv : (convert 24 9 (.slice (some ⟨g, 0, none⟩) L.length cap2)).run Try.prog w2 = .ok (.string ⟨L.toArray⟩) w2 := by
        refine run_convert_bytes_back w2 24 9 5 ⟨g, 0, none⟩ cap2 L Try.underlying24 Try.underlying5 Try.underlying9 ?_
        intro j hj
        refine hown2.cells (g := g) (by rw [hv2]; rfl) j _ ?_
        simp [Lib.byteCells, hj]
      rw [hv2]
      have HL : Hid (L = P.enc false a0.data.toList ++ 39 :: a2.data.toList) := hL
      have HNN : Hid (n = (P.enc false a0.data.toList).length) := by have h := HN.out; rw [hen] at h; exact h
      clear hown2 hown1 hLc hen hL hv2
      have HZZ : Hid (∀ w, Calls Try.prog 7 #[.string ⟨L.toArray⟩, .int .i64 0, .int .i64 L.length, .int .i64 0, .slice none 0 0, .string ⟨#[39]⟩, .string ⟨#[]⟩, .string ⟨#[]⟩] w fun x w' => x = .returned (.tuple #[.string a0, .int .i64 ((n : Int) + 1), .string ⟨#[]⟩]) ∧ Below w.heap.size w w') :=
        fun w => zz_at false 39 ⟨#[39]⟩ a0 a2 L n w HL.out HNN.out (by omega) (by decide) rfl (by decide) (by decide) (fun h => by cases h) (fun h => by cases h) (fun _ c hc he => by have h := HNO.out; unfold P.has at h; rw [he] at hc; rw [List.contains_iff_mem.2 hc] at h; cases h)
      go_wp2_with fail
      refine (HZZ.out _).mono ?_
      rintro x w3 ⟨rfl, hb3⟩
      have HB3 : Hid (Below B w' w3) := HB2.out.trans (hb3.mono hB2)
      clear hb3
      go_wp2
      go_ret
      rw [HBB.out] at HB3
      exact ⟨rfl, HB3.out⟩
end Go.Proofs.Qxb6603465a

import Derived.Test.Qxb6603573aCat2
import Derived.Lib.Builder
namespace Go.Proofs.Qxb6603573a
open Go.RowKit
set_option linter.unusedVariables false

theorem clone_nil (w : World) : Calls Try.prog 6 #[.slice none 0 0] w fun e w' => e = .returned (.slice none 0 0) ∧ w' = w := by
  have hq := fun (w : World) => Lib.run_eql_slice_nil (P := Try.prog) w 22 5 none 0 0 0 0 Try.underlying22
  go_enter Try.func6, Try.ntmps6
  go_wp2
  go_ret
  exact ⟨rfl, rfl⟩

/-- The new row while it is filled. -/
def Filled (w : World) (B n k : Nat) (l : List UInt8) : Prop :=
  ∃ cur, w.heap[B]? = some (.cells cur 5 (0, 0)) ∧ cur.size = n ∧ ∀ j, j < k → cur[j]? = some (.int .u8 ((nums l).getD j 0))

theorem Filled.cell {w : World} {B n k : Nat} {l : List UInt8} (h : Filled w B n k l) (j : Nat) (hj : j < n) : ∃ v, w.cell? ⟨B, j, none⟩ = some v := by
  obtain ⟨cur, hb, hs, _⟩ := h
  exact ⟨cur[j], by rw [Lib.cell_of_heap hb, Array.getElem?_eq_getElem (by omega)]⟩
theorem Filled.frozen {w : World} {B n k : Nat} {l : List UInt8} (h : Filled w B n k l) (j : Nat) : w.frozen? ⟨B, j, none⟩ = false := by
  obtain ⟨cur, hb, hs, _⟩ := h
  exact Lib.frozen_of_heap hb j
theorem Filled.step {w : World} {B n k : Nat} {l : List UInt8} (h : Filled w B n k l) (hk : k < n) (c : UInt8) (hc : c = l.getD k 0) : Filled (w.setCell ⟨B, k, none⟩ (.int .u8 c.toNat)) B n (k + 1) l := by
  obtain ⟨cur, hb, hs, hf⟩ := h
  refine ⟨cur.setIfInBounds k (.int .u8 c.toNat), ?_, by simpa using hs, fun j hj => ?_⟩
  · simp [World.setCell, Array.getElem?_modify, hb]
  · rw [Array.getElem?_setIfInBounds]
    by_cases e : k = j
    · rw [if_pos e, if_pos (by omega), nums_getD, ← e, hc]
    · rw [if_neg e]; exact hf j (by omega)
theorem Filled.holds {w : World} {B n : Nat} {l : List UInt8} (h : Filled w B n n l) (hn : n = l.length) : Holds w B 0 l := by
  obtain ⟨cur, hb, hs, hf⟩ := h
  refine ⟨(Array.getElem?_eq_some_iff.1 hb).1, fun i hi => ?_⟩
  rw [Nat.zero_add, Lib.cell_of_heap hb]
  exact hf i (by omega)

set_option maxHeartbeats 4000000 in
theorem clone_some (x : Addr) (n c : Nat) (l : List UInt8) (hn : n ≤ 1048576) (w : World) (hnl : n = l.length) (hx : 0 < n → ∃ g o, x = ⟨g, o, none⟩ ∧ Holds w g o l) :
    Calls Try.prog 6 #[.slice (some x) n c] w fun e w' => e = .returned (.slice (some ⟨w.heap.size, 0, none⟩) n n) ∧ Holds w' w.heap.size 0 l ∧ Below w.heap.size w w' := by
  obtain ⟨i0, hi, hz0, hz1, hz2⟩ := info_parts infoByte
  have hq := fun (w : World) => Lib.run_eql_slice_nil (P := Try.prog) w 22 5 (some x) n c 0 0 Try.underlying22
  have HX : Hid (0 < n → ∃ g o, x = ⟨g, o, none⟩ ∧ Holds w g o l) := hx
  have HNL : Hid (n = l.length) := hnl
  clear hx hnl
  go_enter Try.func6, Try.ntmps6
  go_wp2_with (at_make; refine wpList_make_full _ rfl _ _ 22 rfl w.heap.size 5 i0 (.int .u8 0) 1 Try.underlying22 hi hz0 hz1 _ _ _ _ n rfl rfl rfl rfl ?b2 ?b3 (Nat.le_refl _) ?_)
  case b2 => rw [hz2]; omega
  case b3 => unfold maxLen; omega
  intro w0 hown0 hgrow0
  have HB0 : Hid (Below w.heap.size w w0) := (Below.refl _ _).grown hgrow0 (Nat.le_refl _) (fun k h => by cases h)
  have hF0 : Filled w0 w.heap.size n 0 l := by
    rcases hown0.2 with ⟨hv, _⟩ | ⟨g, cap, cur, hv, _, hg, _, _, hcs, _⟩
    · cases hv
    · injection hv with ha _ hcap
      injection ha with ha
      injection ha with hgg _ _
      subst hgg
      exact ⟨cur, hg, by omega, fun j hj => absurd hj (by omega)⟩
  have HF0 : Hid (Filled w0 w.heap.size n 0 l) := hF0
  clear hgrow0 hown0 hF0
  obtain ⟨B, hB⟩ : ∃ B, B = w.heap.size := ⟨_, rfl⟩
  have HBB : Hid (B = w.heap.size) := hB
  rw [← hB] at HF0 HB0 ⊢
  clear hB
  go_wp2
  go_loopw [4] (fun i wr => ∃ k : Nat, k ≤ n ∧ i = .int .i64 k ∧ Filled wr B n k l ∧ Below B w wr) (fun i _ => n - (intOf i).toNat)
  case atStart => exact ⟨0, Nat.zero_le _, rfl, HF0.out, HB0.out⟩
  case round =>
    obtain ⟨k, hk, rfl, hF, hbl⟩ := hrel
    have HF : Hid (Filled wr B n k l) := hF
    have HBL : Hid (Below B w wr) := hbl
    clear hF hbl HF0 HB0
    by_cases hlt : k < n
    · obtain ⟨g, o, hxe, hh⟩ := HX.out (by omega)
      obtain ⟨ch, hch⟩ : ∃ ch, ch = l.getD k 0 := ⟨_, rfl⟩
      have gk : wr.cell? ⟨g, o + k, none⟩ = some (.int .u8 ch.toNat) := by
        have h := (hh.below HBL.out (by rw [HBB.out]; exact hh.lt)).cell k (by have := HNL.out; omega)
        rw [nums_getD, ← hch] at h; exact h
      obtain ⟨v0, hv0⟩ := HF.out.cell k hlt
      have hfz := HF.out.frozen k
      have HF2 : Hid (Filled (wr.setCell ⟨B, k, none⟩ (.int .u8 ch.toNat)) B n (k + 1) l) := HF.out.step hlt ch hch
      have HH : Hid (Holds w g o l) := hh
      rw [hxe] at hq ⊢
      clear hch hh hxe
      go_wp2
      go_roundw
      case rel => exact ⟨k + 1, by omega, by go_num, HF2.out, HBL.out.setCell (p := ⟨B, k, none⟩) (Nat.le_refl _) _⟩
      case measure => simp [intOf]; omega
    · have hkn : k = n := by omega
      have HF2 : Hid (Holds wr B 0 l) := by
        have h := HF.out
        rw [hkn] at h
        exact h.holds HNL.out
      clear hkn
      go_wp2
      go_ret
      refine ⟨by rw [HBB.out]; rfl, by rw [← HBB.out]; exact HF2.out, by rw [← HBB.out]; exact HBL.out⟩
end Go.Proofs.Qxb6603573a

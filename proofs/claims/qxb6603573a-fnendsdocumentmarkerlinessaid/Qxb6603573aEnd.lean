import Derived.Test.Qxb6603573aMain
import Derived.OpenShut
namespace Go.Proofs.Qxb6603573a
open Go.RowKit
set_option linter.unusedVariables false

theorem pre_true (p l : List UInt8) : Lib.hasPrefix (p ++ l) p = true := by
  unfold Lib.hasPrefix; rw [List.isPrefixOf_iff_prefix]; exact List.prefix_append _ _
theorem pre_head (a b : UInt8) (p l : List UInt8) (h : (b == a) = false) : Lib.hasPrefix (a :: l) (b :: p) = false := by
  unfold Lib.hasPrefix; rw [List.isPrefixOf_cons_cons, h]; rfl

def bn (l : List UInt8) : Bool := decide (l.length = 0) || blank (l.getD 0 0)

theorem ends0 (l : List UInt8) : ends ([45, 45, 45, 10] ++ l) = true := by
  have h1 : Lib.hasPrefix ([45, 45, 45, 10] ++ l) (pl 0) = true := pre_true [45, 45, 45] (10 :: l)
  have h2 : bl (([45, 45, 45, 10] ++ l).getD 3 0) = true := by
    have : ([45, 45, 45, 10] ++ l).getD 3 0 = 10 := rfl
    rw [this]; decide
  unfold ends mk1; rw [h1, h2]; simp
theorem ends1 (l : List UInt8) : ends ([46, 46, 46, 13, 10] ++ l) = true := by
  have h1 : Lib.hasPrefix ([46, 46, 46, 13, 10] ++ l) (pl 1) = true := pre_true [46, 46, 46] (13 :: 10 :: l)
  have h2 : bl (([46, 46, 46, 13, 10] ++ l).getD 3 0) = true := by
    have : ([46, 46, 46, 13, 10] ++ l).getD 3 0 = 13 := rfl
    rw [this]; decide
  unfold ends mk1; rw [h1, h2]; simp
theorem ends2 (l : List UInt8) : ends ([46, 46, 46] ++ l) = bn l := by
  have h0 : Lib.hasPrefix ([46, 46, 46] ++ l) (pl 0) = false := pre_head 46 45 _ _ rfl
  have h1 : Lib.hasPrefix ([46, 46, 46] ++ l) (pl 1) = true := pre_true [46, 46, 46] l
  have h2 : bl (([46, 46, 46] ++ l).getD 3 0) = blank (l.getD 0 0) := by
    rw [blank_bl]; rfl
  have h3 : decide (([46, 46, 46] ++ l).length = 3) = decide (l.length = 0) := by simp
  unfold ends mk1 bn; rw [h0, h1, h2, h3]; simp
theorem ends3 (l : List UInt8) : ends ([45, 45, 45] ++ l) = bn l := by
  have h0 : Lib.hasPrefix ([45, 45, 45] ++ l) (pl 1) = false := pre_head 45 46 _ _ rfl
  have h1 : Lib.hasPrefix ([45, 45, 45] ++ l) (pl 0) = true := pre_true [45, 45, 45] l
  have h2 : bl (([45, 45, 45] ++ l).getD 3 0) = blank (l.getD 0 0) := by
    rw [blank_bl]; rfl
  have h3 : decide (([45, 45, 45] ++ l).length = 3) = decide (l.length = 0) := by simp
  unfold ends mk1 bn; rw [h0, h1, h2, h3]; simp
theorem ends4 (l : List UInt8) : ends ([45, 45, 45, 45] ++ l) = false := by
  have h0 : Lib.hasPrefix ([45, 45, 45, 45] ++ l) (pl 1) = false := pre_head 45 46 _ _ rfl
  have h2 : bl (([45, 45, 45, 45] ++ l).getD 3 0) = false := by
    have : ([45, 45, 45, 45] ++ l).getD 3 0 = 45 := rfl
    rw [this]; decide
  have h3 : decide (([45, 45, 45, 45] ++ l).length = 3) = false := by simp
  unfold ends mk1; rw [h0, h2, h3]; simp
theorem ends5 (l : List UInt8) : ends ([32] ++ l) = false := by
  have h0 : Lib.hasPrefix ([32] ++ l) (pl 0) = false := pre_head 32 45 _ _ rfl
  have h1 : Lib.hasPrefix ([32] ++ l) (pl 1) = false := pre_head 32 46 _ _ rfl
  unfold ends mk1; rw [h0, h1]; rfl
theorem ends6 (l : List UInt8) : ends ([35] ++ l) = false := by
  have h0 : Lib.hasPrefix ([35] ++ l) (pl 0) = false := pre_head 35 45 _ _ rfl
  have h1 : Lib.hasPrefix ([35] ++ l) (pl 1) = false := pre_head 35 46 _ _ rfl
  unfold ends mk1; rw [h0, h1]; rfl

theorem seven_nil : Seven (.slice none 0 0) (fun _ => True) true where
  t0 := fun W _ => ce_nil _ (by decide) (by decide) _ (ends0 []) W
  t1 := fun W _ => ce_nil _ (by decide) (by decide) _ (ends1 []) W
  t2 := fun W _ => ce_nil _ (by decide) (by decide) _ (ends2 []) W
  t3 := fun W _ => ce_nil _ (by decide) (by decide) _ (ends3 []) W
  t4 := fun W _ => ce_nil _ (by decide) (by decide) _ (ends4 []) W
  t5 := fun W _ => ce_nil _ (by decide) (by decide) _ (ends5 []) W
  t6 := fun W _ => ce_nil _ (by decide) (by decide) _ (ends6 []) W
  keep := fun _ _ _ _ => trivial

theorem seven_some (g n c : Nat) (l : List UInt8) (hnl : n = l.length) (hn : n ≤ 1048576) (hc : n ≤ c) : Seven (.slice (some ⟨g, 0, none⟩) n c) (fun W => Holds W g 0 l) (bn l) where
  t0 := fun W h => ce_some g 0 n c l hnl hn hc _ (by decide) (by decide) _ (ends0 l) W h
  t1 := fun W h => ce_some g 0 n c l hnl hn hc _ (by decide) (by decide) _ (ends1 l) W h
  t2 := fun W h => ce_some g 0 n c l hnl hn hc _ (by decide) (by decide) _ (ends2 l) W h
  t3 := fun W h => ce_some g 0 n c l hnl hn hc _ (by decide) (by decide) _ (ends3 l) W h
  t4 := fun W h => ce_some g 0 n c l hnl hn hc _ (by decide) (by decide) _ (ends4 l) W h
  t5 := fun W h => ce_some g 0 n c l hnl hn hc _ (by decide) (by decide) _ (ends5 l) W h
  t6 := fun W h => ce_some g 0 n c l hnl hn hc _ (by decide) (by decide) _ (ends6 l) W h
  keep := fun W W' h hb => h.below hb h.lt

theorem law_nil (w : World) : Calls Try.prog 3 #[.slice none 0 0] w fun e w' => e = .returned (.bool true) ∧ Below w.heap.size w w' :=
  main_zero none none 0 0 (fun _ => True) true rfl w ((clone_nil w).mono fun e w' ⟨he, hw⟩ => ⟨he, trivial, by rw [hw]; exact Below.refl _ _⟩) seven_nil

theorem law_empty (x : Addr) (c : Nat) (w : World) : Calls Try.prog 3 #[.slice (some x) 0 c] w fun e w' => e = .returned (.bool true) ∧ Below w.heap.size w w' :=
  main_zero (some x) (some ⟨w.heap.size, 0, none⟩) c 0 (fun W => Holds W w.heap.size 0 []) (bn []) rfl w ((clone_some x 0 c [] (by omega) w rfl (fun h => absurd h (by omega))).mono fun e w' ⟨he, hh, hb⟩ => ⟨he, hh, hb⟩) (seven_some w.heap.size 0 0 [] rfl (by omega) (by omega))

theorem law_full (g o n c : Nat) (l : List UInt8) (hnl : n = l.length) (hn1 : 1 ≤ n) (hn : n ≤ 1048576) (w : World) (hh : Holds w g o l) :
    Calls Try.prog 3 #[.slice (some ⟨g, o, none⟩) n c] w fun e w' => e = .returned (.bool true) ∧ Below w.heap.size w w' := by
  have hbn : bn l = blank (l.getD 0 0) := by
    unfold bn
    have : decide (l.length = 0) = false := by simp; intro h; rw [h] at hnl; simp at hnl; omega
    rw [this]; rfl
  refine main_pos (some ⟨g, o, none⟩) c n n w.heap.size 0 hn1 hn (l.getD 0 0) (fun W => Holds W w.heap.size 0 l) ?_ (bn l) hbn w ?_ (seven_some w.heap.size n n l hnl hn (Nat.le_refl _))
  · intro W hW
    have h := hW.cell 0 (by omega)
    rw [nums_getD] at h; exact h
  · exact (clone_some ⟨g, o, none⟩ n c l hn w hnl (fun _ => ⟨g, o, rfl, hh⟩)).mono fun e w' ⟨he, hh, hb⟩ => ⟨he, hh, hb⟩

theorem law_long (a : Option Addr) (n c : Nat) (hn : n ≤ 9223372036854775807) (hl : 1048576 < n) (w : World) :
    Calls Try.prog 3 #[.slice a n c] w fun e w' => e = .returned (.bool true) ∧ Below w.heap.size w w' := by
  have hZ := zzBytes_any a n c hn
  have hd : decide ((n : Int) ≤ 1048576) = false := by simp; omega
  rw [hd] at hZ
  have HZ : Hid (∀ w, Calls Try.prog 5 #[.slice a n c] w fun e w' => e = .returned (.bool false) ∧ w' = w) := hZ
  clear hZ hd
  go_enter Try.func3, Try.ntmps3
  go_wp2_with fail
  refine (HZ.out _).mono ?_
  rintro x w' ⟨rfl, rfl⟩
  go_wp2
  go_ret
  exact ⟨rfl, Below.refl _ _⟩

/-- Off the numbers in memory to bytes. -/
theorem nums_of (zs : List Int) (h : ∀ n ∈ zs, (Lit.int .u8 n).wf = true) : nums (Lib.bytesOf zs) = zs := by
  unfold nums Lib.bytesOf
  rw [List.map_map]
  have : ∀ n ∈ zs, ((fun b : UInt8 => (b.toNat : Int)) ∘ fun n : Int => UInt8.ofNat n.toNat) n = n := by
    intro n hn
    have hb := bounds_u8 (h n hn)
    show ((UInt8.ofNat n.toNat).toNat : Int) = n
    rw [UInt8.toNat_ofNat']
    omega
  rw [List.map_congr_left this, List.map_id']
end Go.Proofs.Qxb6603573a

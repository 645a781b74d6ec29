import Derived.Test.Qxb6603573aRows
import Derived.Test.Qxb6603573aShelf
import Derived.WalkKit
import Derived.Below
import Derived.Lib.ConvBytes
import Derived.Lib.SlBytesConst
import Derived.Lib.FrozenHead
namespace Go.Proofs.Qxb6603573a
open Go.RowKit
set_option linter.unusedVariables false

/-- The numbers of a list of bytes. -/
def nums (l : List UInt8) : List Int := l.map fun b => (b.toNat : Int)
theorem nums_len (l : List UInt8) : (nums l).length = l.length := by simp [nums]
theorem bytesOf_nums (l : List UInt8) : Lib.bytesOf (nums l) = l := by
  unfold Lib.bytesOf nums
  rw [List.map_map]
  have : ((fun n : Int => UInt8.ofNat n.toNat) ∘ fun b : UInt8 => (b.toNat : Int)) = id := by
    funext b; simp
  rw [this, List.map_id]
theorem nums_getD (l : List UInt8) (i : Nat) : (nums l).getD i 0 = ((l.getD i 0).toNat : Int) := by
  unfold nums
  simp only [List.getD, List.getElem?_map]
  cases l[i]? <;> simp

/-- The slice at (g, o) of n bytes holds l, below block number H. -/
structure Holds (w : World) (g o : Nat) (l : List UInt8) : Prop where
  lt : g < w.heap.size
  cell : ∀ i, i < l.length → w.cell? ⟨g, o + i, none⟩ = some (.int .u8 ((nums l).getD i 0))

theorem Holds.below {w w' : World} {g o : Nat} {l : List UInt8} {B : Nat} (h : Holds w g o l) (hB : Below B w w') (hg : g < B) : Holds w' g o l :=
  ⟨Nat.lt_of_lt_of_le h.lt hB.size, fun i hi => (hB.cell (p := ⟨g, o + i, none⟩) hg).trans (h.cell i hi)⟩
theorem Holds.alloc {w : World} {g o : Nat} {l : List UInt8} (h : Holds w g o l) (x : Obj) : Holds (w.alloc x) g o l :=
  h.below ((Below.refl w.heap.size w).alloc (Nat.le_refl _) x) h.lt

def bl (c : UInt8) : Bool := decide (0 ≤ Lib.indexByte [32, 9, 13, 10] c)
def mk1 (p l : List UInt8) : Bool := Lib.hasPrefix l p && (decide (l.length = 3) || bl (l.getD 3 0))
def pl (i : Nat) : List UInt8 := if i = 0 then [45, 45, 45] else [46, 46, 46]
def mk (l : List UInt8) : List UInt8 := if mk1 (pl 0) l = true then pl 0 else if mk1 (pl 1) l = true then pl 1 else []

theorem pl_len (i : Nat) : (pl i).length = 3 := by unfold pl; split <;> rfl

theorem conv_made (m : List UInt8) (w : World) : ∃ W1 cap, (convert 9 22 (.string ⟨m.toArray⟩)).run Try.prog w = .ok (.slice (some ⟨w.heap.size, 0, none⟩) m.length cap) W1 ∧ Holds W1 w.heap.size 0 m ∧ Below w.heap.size w W1 := by
  have h := Lib.run_convert_string_bytes (P := Try.prog) w 9 22 5 ⟨m.toArray⟩ Try.underlying9 Try.underlying22 Try.underlying5
  have hs : (⟨m.toArray⟩ : ByteArray).size = m.length := by show m.toArray.size = _; simp
  refine ⟨Lib.bytesWorld w 5 ⟨m.toArray⟩, grownCap w m.length 0 5, by rw [h, hs], ⟨by rw [Lib.bytesWorld_size]; omega, fun i hi => ?_⟩, ⟨?_, ?_, ?_, by rw [Lib.bytesWorld_size]; omega, fun k hk => Lib.bytesWorld_at_old _ _ _ k hk⟩⟩
  · rw [Nat.zero_add, Lib.bytesWorld_cell _ _ _ _ (by rw [hs]; exact hi), nums_getD]
  · simp [Lib.bytesWorld, World.freeze]; rfl
  · simp [Lib.bytesWorld, World.freeze]
  · simp [Lib.bytesWorld, World.freeze]; rfl

/-- HasPrefix and IndexByte in this text's words. -/
theorem hp_any (g o c : Nat) (l : List UInt8) (b cap : Nat) (p : List UInt8) (n m : Nat) (hn : n = l.length) (hm : m = p.length) (w : World) (hc : n ≤ c) (h1 : Holds w g o l) (h2 : Holds w b 0 p) :
    Calls Try.prog 24 #[.slice (some ⟨g, o, none⟩) n c, .slice (some ⟨b, 0, none⟩) m cap] w fun e w' => e = .returned (.bool (Lib.hasPrefix l p)) ∧ w' = w := by
  have h := Try.bytes_HasPrefix g o n c b 0 m cap (nums l) (nums p) w (by rw [nums_len, hn]) (by rw [nums_len, hm]) hc (fun i hi => h1.cell i (by omega)) (fun i hi => h2.cell i (by omega))
  rw [bytesOf_nums, bytesOf_nums] at h; exact h
theorem ib_any (b cap m : Nat) (p : List UInt8) (hm : m = p.length) (cv : UInt8) (w : World) (h2 : Holds w b 0 p) :
    Calls Try.prog 25 #[.slice (some ⟨b, 0, none⟩) m cap, .int .u8 cv.toNat] w fun e w' => e = .returned (.int .i64 (Lib.indexByte p cv)) ∧ w' = w := by
  have h := Try.bytes_IndexByte b 0 m cap (nums p) cv.toNat w (by rw [nums_len, hm]) (fun i hi => h2.cell i (by omega))
  rw [bytesOf_nums] at h
  have e : (cv.toNat : Int).toNat.toUInt8 = cv := by simp
  rw [e] at h; exact h

theorem holds_blank (W : World) : Holds (W.alloc (.cells #[.int .u8 32, .int .u8 9, .int .u8 13, .int .u8 10] 5 (4, 5))) W.heap.size 0 [32, 9, 13, 10] := by
  refine ⟨by simp, fun i hi => ?_⟩
  rw [Nat.zero_add, World.cell?_alloc_mark]
  match i, hi with
  | 0, _ => rfl
  | 1, _ => rfl
  | 2, _ => rfl
  | 3, _ => rfl

theorem mk_hit (l : List UInt8) (i : Nat) (p : List UInt8) (hi : i < 2) (hp : p = pl i) (hno : ∀ j, j < i → mk1 (pl j) l = false) (h : mk1 p l = true) : mk l = p := by
  subst hp
  unfold mk
  match i, hi with
  | 0, _ => rw [if_pos h]
  | 1, _ => rw [if_neg (by rw [hno 0 (by omega)]; decide), if_pos h]

theorem hasPre_len {l p : List UInt8} (h : Lib.hasPrefix l p = true) : p.length ≤ l.length := by
  unfold Lib.hasPrefix at h
  rw [List.isPrefixOf_iff_prefix] at h
  exact h.length_le

set_option maxHeartbeats 2000000 in
theorem marker_any (g o c : Nat) (l : List UInt8) (w : World) (hc : l.length ≤ c) (hl : l.length ≤ 2097152) (hh : Holds w g o l) :
    Calls Try.prog 21 #[.slice (some ⟨g, o, none⟩) l.length c] w fun e w' => e = .returned (.string ⟨(mk l).toArray⟩) ∧ Below w.heap.size w w' := by
  obtain ⟨n, hn⟩ : ∃ n, n = l.length := ⟨_, rfl⟩
  rw [← hn] at hc hl ⊢
  have HN : Hid (n = l.length) := hn
  have HH : Hid (Holds w g o l) := hh
  clear hn hh
  go_enter Try.func21, Try.ntmps21
  go_wp2
  go_loopw [7] (fun v wr => ∃ i : Nat, i ≤ 2 ∧ v = .int .i64 i ∧ (∀ j, j < i → mk1 (pl j) l = false) ∧ (∀ j, j < 2 → wr.cell? ⟨w.heap.size, j, none⟩ = some (.string ⟨(pl j).toArray⟩)) ∧ Holds wr g o l ∧ Below w.heap.size w wr ∧ w.heap.size < wr.heap.size) (fun v _ => 2 - (intOf v).toNat)
  case atStart =>
    refine ⟨0, by omega, rfl, fun j hj => absurd hj (by omega), ?_, HH.out.alloc _, (Below.refl _ _).alloc (Nat.le_refl _) _, by simp⟩
    intro j hj
    match j, hj with
    | 0, _ => simp [pl]
    | 1, _ => simp [pl]
  case round =>
    obtain ⟨i, hi, rfl, hno, hpl, hh, hbl, hsz⟩ := hrel
    have HNO : Hid (∀ j, j < i → mk1 (pl j) l = false) := hno
    have HPL : Hid (∀ j, j < 2 → wr.cell? ⟨w.heap.size, j, none⟩ = some (.string ⟨(pl j).toArray⟩)) := hpl
    have HHr : Hid (Holds wr g o l) := hh
    have HBL : Hid (Below w.heap.size w wr) := hbl
    clear hno hpl hh hbl HH
    by_cases hlt : i < 2
    · obtain ⟨p, hp⟩ : ∃ p, p = pl i := ⟨_, rfl⟩
      have g1 := HPL.out i hlt
      rw [← hp] at g1
      have hp3 : p.length = 3 := by rw [hp]; exact pl_len i
      have HP : Hid (p = pl i) := hp
      obtain ⟨W1, cap, hcv, hW1, hbW⟩ := conv_made p wr
      rw [hp3] at hcv
      have hH1 : Holds W1 g o l := HHr.out.below hbW HHr.out.lt
      have HHP : Hid (∀ (b : Bool), Lib.hasPrefix l p = b → Calls Try.prog 24 #[.slice (some ⟨g, o, none⟩) n c, .slice (some ⟨wr.heap.size, 0, none⟩) 3 cap] W1 fun e w' => e = .returned (.bool b) ∧ w' = W1) := fun b hb => by
        have h := hp_any g o c l wr.heap.size cap p n 3 HN.out hp3.symm W1 hc hH1 hW1
        rw [hb] at h; exact h
      have HB1 : Hid (Below w.heap.size w W1) := HBL.out.trans (hbW.mono (by omega))
      have hsz1 : w.heap.size < W1.heap.size := Nat.lt_of_lt_of_le hsz hbW.size
      have HPL1 : Hid (∀ j, j < 2 → W1.cell? ⟨w.heap.size, j, none⟩ = some (.string ⟨(pl j).toArray⟩)) := fun j hj => (hbW.cell (p := ⟨w.heap.size, j, none⟩) hsz).trans (HPL.out j hj)
      have HW : Hid (Holds W1 g o l) := hH1
      clear hp hp3 hW1 hbW hH1
      cases hpre : Lib.hasPrefix l p with
      | false =>
        have HF : Hid (mk1 (pl i) l = false) := by
          have : mk1 (pl i) l = false := by rw [← HP.out]; unfold mk1; rw [hpre]; rfl
          exact this
        go_wp2_with fail
        refine (HHP.out _ hpre).mono ?_
        rintro x w' ⟨rfl, rfl⟩
        clear hpre hcv g1
        go_wp2
        go_roundw
        case rel =>
          refine ⟨i + 1, by omega, by go_num, fun j hj => ?_, HPL1.out, HW.out, HB1.out, hsz1⟩
          by_cases e : j = i
          · rw [e]; exact HF.out
          · exact HNO.out j (by omega)
        case measure => simp [intOf]; omega
      | true =>
        have HPRE : Hid (Lib.hasPrefix l p = true) := hpre
        clear hpre
        by_cases h3 : n = 3
        · have h3' : ((n : Int) == 3) = true := by simp; omega
          have HF : Hid (mk l = p) := mk_hit l i p hlt HP.out HNO.out (by
            unfold mk1; rw [HPRE.out, show decide (l.length = 3) = true from by rw [← HN.out]; simpa using h3]; rfl)
          clear h3
          go_wp2_with fail
          refine (HHP.out _ HPRE.out).mono ?_
          rintro x w' ⟨rfl, rfl⟩
          clear hcv g1
          go_wp2
          go_ret
          exact ⟨by rw [HF.out]; rfl, HB1.out⟩
        · have h3' : ((n : Int) == 3) = false := by simp; omega
          have hn4 : 4 ≤ n := by
            have h1 := hasPre_len HPRE.out
            have h2 : p.length = 3 := by rw [HP.out]; exact pl_len i
            have h4 := HN.out
            omega
          have hn3 : (3 : Int) < n := by omega
          obtain ⟨ch, hch⟩ : ∃ ch, ch = l.getD 3 0 := ⟨_, rfl⟩
          have g3 : W1.cell? ⟨g, o + 3, none⟩ = some (.int .u8 ch.toNat) := by
            have h := HW.out.cell 3 (by have := HN.out; omega)
            rw [nums_getD, ← hch] at h; exact h
          have hg1 : g < W1.heap.size := HW.out.lt
          have kc := fun (w : World) (C : Array Value) (n c : Nat) => Lib.run_convert_bytes_const (P := Try.prog) w 22 5 C n c Try.underlying22 Try.underlying5
          have HCH : Hid (ch = l.getD 3 0) := hch
          obtain ⟨ix, hix⟩ : ∃ ix, ix = Lib.indexByte [32, 9, 13, 10] ch := ⟨_, rfl⟩
          have HIX : Hid (ix = Lib.indexByte [32, 9, 13, 10] ch) := hix
          have HIB : Hid (∀ W : World, Holds W W1.heap.size 0 [32, 9, 13, 10] → Calls Try.prog 25 #[.slice (some ⟨W1.heap.size, 0, none⟩) 4 4, .int .u8 ch.toNat] W fun e w' => e = .returned (.int .i64 ix) ∧ w' = W) := fun W hW => by
            have h := ib_any W1.heap.size 4 4 [32, 9, 13, 10] rfl ch W hW
            rw [← hix] at h; exact h
          clear h3 hch hix
          go_wp2_with fail
          refine (HHP.out _ HPRE.out).mono ?_
          rintro x w' ⟨rfl, rfl⟩
          clear hcv g1
          go_wp2_with fail
          refine (HIB.out _ (holds_blank _)).mono ?_
          rintro x w'' ⟨rfl, rfl⟩
          by_cases hb : 0 ≤ ix
          · have HF : Hid (mk l = p) := mk_hit l i p hlt HP.out HNO.out (by
              unfold mk1; rw [HPRE.out, ← HCH.out]
              have : bl ch = true := by unfold bl; rw [← HIX.out]; simpa using hb
              rw [this]; simp)
            go_wp2
            go_ret
            exact ⟨by rw [HF.out]; rfl, HB1.out.alloc (by omega) _⟩
          · have HF : Hid (mk1 (pl i) l = false) := by
              have : mk1 (pl i) l = false := by
                rw [← HP.out]; unfold mk1; rw [HPRE.out, ← HCH.out]
                have h1 : bl ch = false := by unfold bl; rw [← HIX.out]; simpa using hb
                have h2 : decide (l.length = 3) = false := by have := HN.out; simp; omega
                rw [h1, h2]; rfl
              exact this
            go_wp2
            go_roundw
            case rel =>
              refine ⟨i + 1, by omega, by go_num, fun j hj => ?_, fun j hj => ?_, HW.out.alloc _, HB1.out.alloc (by omega) _, by simp; omega⟩
              · by_cases e : j = i
                · rw [e]; exact HF.out
                · exact HNO.out j (by omega)
              · exact (((Below.refl w'.heap.size w').alloc (Nat.le_refl _) _).cell (p := ⟨w.heap.size, j, none⟩) hsz1).trans (HPL1.out j hj)
            case measure => simp [intOf]; omega
    · go_wp2
      go_ret
      have HF : mk l = [] := by
        unfold mk
        rw [HNO.out 0 (by omega), HNO.out 1 (by omega)]; rfl
      exact ⟨by rw [HF]; rfl, HBL.out⟩
end Go.Proofs.Qxb6603573a

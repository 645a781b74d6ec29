import Derived.Test.Qxb6603465aSt
import Derived.Test.Qxb6603465aIdx
import Derived.WalkSmall
namespace Go.Proofs.Qxb6603465a
open Go.RowKit

theorem at_of {t : ByteArray} {p : Nat} {c : UInt8} (h : t.data.toList[p]? = some c) : ∃ hp : p < t.size, t[p] = c := by
  obtain ⟨hp, e⟩ := List.getElem?_eq_some_iff.1 h
  exact ⟨by simpa using hp, by rw [← e]; rfl⟩

def atI (R : Nat) (w : World) : Nat := (intOf ((w.cell? ⟨R, 4, none⟩).getD undef)).toNat
theorem atI_St {B S R b : Nat} {t : ByteArray} {va : Option Addr} {vc i : Nat} {acc : List UInt8} {w : World} (h : St B S R b t va vc i acc w) : atI R w = i := by
  unfold atI; rw [h.c4]; simp [intOf]

theorem eqT {a b : UInt8} (h : a = b) : ((a.toNat : Int) == (b.toNat : Int)) = true := by rw [h]; simp
theorem eqF {a b : UInt8} (h : a ≠ b) : ((a.toNat : Int) == (b.toNat : Int)) = false := by
  rw [Bool.eq_false_iff]; intro hc; exact h (byte_eq a b hc)

/-- The writing of one byte, as the shelf's contract says it. -/
def WB (B b : Nat) : Prop := ∀ (bs : List Value) (c : Int) (w : World), Lib.IsBuilderF 47 5 B b bs w → bs.length + 1 ≤ 140737488355328 → B ≤ w.heap.size →
  Calls Try.prog 18 #[.pointer (some ⟨b, 0, none⟩), .int .u8 c] w fun e w' => e = .returned .nilIface ∧ (Lib.BuilderAtF 47 5 B b (.pointer (some ⟨b, 0, none⟩)) (bs ++ [.int .u8 c]) w' ∧ Below B w w' ∧ Lib.OthersKept 5 (some b) w w')

variable {B S R b : Nat} {t : ByteArray} {va : Option Addr} {vc i : Nat} {acc : List UInt8} {w : World}

theorem peek_next (r k k1 : Nat) (h1 : k1 = k + 1) (t : ByteArray) (va : Option Addr) (vc : Nat) (w : World) (hk : k1 < t.size)
    (hc1 : w.cell? ⟨r, 1, none⟩ = some (.string t)) (hc3 : w.cell? ⟨r, 3, none⟩ = some (.slice va 0 vc)) (hc5 : w.cell? ⟨r, 5, none⟩ = some (.int .i64 t.size)) (hc6 : w.cell? ⟨r, 6, none⟩ = some (.int .i64 0)) :
    Calls Try.prog 17 #[.pointer (some ⟨r, 0, none⟩), .int .i64 ((k : Int) + 1)] w fun e w' => e = .returned (.int .u8 (t[k1].toNat : Int)) ∧ ∃ n, w' = w.drewN n := by
  subst h1
  exact peek_any r (k + 1) t va vc w hk hc1 hc3 hc5 hc6

theorem byteCells_snoc (l : List UInt8) (c : UInt8) : Lib.byteCells (l ++ [c]) = Lib.byteCells l ++ [.int .u8 c.toNat] := by simp [Lib.byteCells]
theorem byteCells_len (l : List UInt8) : (Lib.byteCells l).length = l.length := by simp [Lib.byteCells]

theorem step_wrote {p' j : Nat} {d : List UInt8} {W0 w' : World} (hs0 : St B S R b t va vc p' (d.take j) W0) (hj : j < d.length) (c : UInt8) (hc : c = d[j])
    (hb' : Lib.BuilderAtF 47 5 B b (.pointer (some ⟨b, 0, none⟩)) (Lib.byteCells (d.take j) ++ [.int .u8 c.toNat]) w') (hbl' : Below B W0 w') (hk' : Lib.OthersKept 5 (some b) W0 w') : St B S R b t va vc p' (d.take (j + 1)) w' :=
  hs0.wrote (by rw [P.take_snoc d j hj, byteCells_snoc, ← hc]; exact hb') hbl' hk'

theorem below_move {n : Nat} {i' : Nat} {W : World} (hs : St B S R b t va vc i acc w) (h : Below B W w) : Below B W ((w.drewN n).setCell ⟨R, 4, none⟩ (.int .i64 i')) :=
  (below_drewN h n).setCell (p := ⟨R, 4, none⟩) hs.hR _

set_option maxHeartbeats 2000000 in
theorem dq_any (dbl : Bool) (q : UInt8) (e : ByteArray) (d rest : List UInt8) (htl : t.data.toList = P.enc dbl d ++ q :: rest) (ht : t.size ≤ 1048577) (hst : St B S R b t va vc 0 [] w) (hWB : WB B b)
    (he0 : 0 < e.size) (heq : e[0] = q) (he5 : e.size ≤ 5) (hsz : dbl = true ↔ 1 < e.size) (hix : dbl = true → ∀ c, P.sp c = true → 0 ≤ Lib.indexByte e.data.toList c)
    (hq1 : dbl = true → q = 34) (hq2 : dbl = false → ∀ c ∈ d, c ≠ q) :
    Calls Try.prog 12 #[.pointer (some ⟨R, 0, none⟩), .pointer (some ⟨b, 0, none⟩), .string e] w fun x w' => x = .returned (.tuple #[]) ∧ St B S R b t va vc ((P.enc dbl d).length + 1) d w' ∧ Below B w w' := by
  have HWB : Hid (WB B b) := hWB
  clear hWB
  have HT : Hid (t.data.toList = P.enc dbl d ++ q :: rest) := htl
  have HE : Hid (e[0] = q) := heq
  have HZ : Hid (dbl = true ↔ 1 < e.size) := hsz
  have HX : Hid (dbl = true → ∀ c, P.sp c = true → 0 ≤ Lib.indexByte e.data.toList c) := hix
  have HQ1 : Hid (dbl = true → q = 34) := hq1
  have HQ2 : Hid (dbl = false → ∀ c ∈ d, c ≠ q) := hq2
  have hdt : d.length ≤ t.size := by
    have h1 := congrArg List.length htl
    have h2 := P.le_enc dbl d
    simp at h1; omega
  have hI0 : (0 : Int) < e.size := by omega
  clear htl heq hsz hix hq1 hq2
  go_enter Try.func12, Try.ntmps12
  go_wp2
  go_loopw [] (fun wr => ∃ j, j ≤ d.length ∧ St B S R b t va vc (P.enc dbl (d.take j)).length (d.take j) wr ∧ Below B w wr) (fun wr => t.size - atI R wr)
  case atStart => exact ⟨0, Nat.zero_le _, hst, Below.refl _ _⟩
  case round =>
    obtain ⟨j, hj, hs, hbl⟩ := hrel
    obtain ⟨p, hp⟩ : ∃ p, p = (P.enc dbl (d.take j)).length := ⟨_, rfl⟩
    rw [← hp] at hs
    have HP : Hid (p = (P.enc dbl (d.take j)).length) := hp
    clear hp
    have c1 := hs.c1; have c3 := hs.c3; have c4 := hs.c4; have c5 := hs.c5; have c6 := hs.c6; have f4 := hs.f4
    have Hs : Hid (St B S R b t va vc p (d.take j) wr) := hs
    have Hbl : Hid (Below B w wr) := hbl
    clear hs hbl hst
    by_cases hlt : j < d.length
    · by_cases hsp : (dbl && P.sp d[j]) = true
      · have hdb : dbl = true := by simp at hsp; exact hsp.1
        have hsp' : P.sp d[j] = true := by simp at hsp; exact hsp.2
        have e1 : t.data.toList[p]? = some 92 ∧ t.data.toList[p + 1]? = some d[j] := by
          have := P.at_sp d (q :: rest) j hlt hsp'
          rw [HP.out, HT.out, hdb]; exact this
        obtain ⟨p1, hp1⟩ : ∃ p1, p1 = p + 1 := ⟨_, rfl⟩
        rw [← hp1] at e1
        obtain ⟨hps, hc⟩ := at_of e1.1
        obtain ⟨hps1, hc1⟩ := at_of e1.2
        have HP1 : Hid (p1 = p + 1) := hp1
        have HC : Hid (t[p] = 92) := hc
        have HC1 : Hid (t[p1] = d[j]) := hc1
        have nq : ((t[p].toNat : Int) == (e[0].toNat : Int)) = false := by
          apply eqF; rw [hc, HE.out, HQ1.out hdb]; decide
        have n92 : ((t[p].toNat : Int) == 92) = true := eqT (b := 92) hc
        have n10 : ((t[p1].toNat : Int) == 10) = false := by
          apply eqF (b := 10); rw [hc1]; intro h; rw [h] at hsp'; revert hsp'; decide
        have h1 : 1 < e.size := HZ.out.1 hdb
        have hix : 0 ≤ Lib.indexByte e.data.toList t[p1] := by rw [hc1]; exact HX.out hdb _ hsp'
        have HS : Hid (dbl = true ∧ P.sp d[j] = true) := ⟨hdb, hsp'⟩
        clear hc hc1 e1 hsp hsp' hdb hp1
        go_wp2
        go_big_quiet (fail)
        go_wp2
        go_big_quiet (fail)
        go_wp2_with (first | (go_at_call 17; refine (peek_next R p p1 HP1.out t va vc _ hps1 ((Hs.out.drewN _).move (p + 1)).c1 ((Hs.out.drewN _).move (p + 1)).c3 ((Hs.out.drewN _).move (p + 1)).c5 ((Hs.out.drewN _).move (p + 1)).c6).mono ?_; rintro x w' ⟨rfl, n, rfl⟩) | (go_at_call 16; refine (strings_IndexByte _ _ _).mono ?_; rintro x w' ⟨rfl, rfl⟩))
        rw [show ((p : Int) + 1) = (p1 : Int) from by have := HP1.out; omega]
        go_big_quiet (fail)
        go_wp2_with fail
        refine (HWB.out _ _ _ (((((Hs.out.drewN _).move p1).drewN _).move (p1 + 1)).bd) ?_ ?_).mono ?_
        · rw [byteCells_len, List.length_take]; omega
        · exact ((((Hs.out.drewN _).move p1).drewN _).move (p1 + 1)).hB
        rintro x w' ⟨rfl, hb', hbl', hk'⟩
        have hfin := step_wrote ((((Hs.out.drewN _).move p1).drewN _).move (p1 + 1)) hlt _ HC1.out hb' hbl' hk'
        have HF : Hid (St B S R b t va vc (p1 + 1) (d.take (j + 1)) w') := hfin
        have HB : Hid (Below B w w') := (below_move ((Hs.out.drewN _).move p1) (below_move Hs.out Hbl.out)).trans hbl'
        clear hb' hbl' hk' hfin
        go_wp2
        go_roundw
        case rel =>
          refine ⟨j + 1, by omega, ?_, HB.out⟩
          have h := P.step_sp d j hlt HS.out.2
          have h2 := HP.out
          have h3 := HF.out
          have h4 := HP1.out
          rw [HS.out.1] at h2 ⊢
          rw [h, ← h2]
          rw [h4] at h3
          exact h3
        case measure => rw [atI_St HF.out, atI_St Hs.out]; have h4 := HP1.out; omega
      · have hsp' : (dbl && P.sp d[j]) = false := by simpa using hsp
        have e1 := P.at_plain dbl d (q :: rest) j hlt hsp'
        rw [← HT.out, ← HP.out] at e1
        obtain ⟨hps, hc⟩ := at_of e1
        have HC : Hid (t[p] = d[j]) := hc
        have nq : ((t[p].toNat : Int) == (e[0].toNat : Int)) = false := by
          apply eqF; rw [hc, HE.out]
          cases hdb : dbl with
          | true => rw [HQ1.out hdb]; intro h; rw [hdb, h] at hsp'; revert hsp'; decide
          | false => exact HQ2.out hdb _ (List.getElem_mem _)
        have n92 : ((t[p].toNat : Int) == 92) = false ∨ (((t[p].toNat : Int) == 92) = true ∧ ¬ 1 < e.size) := by
          by_cases h9 : t[p] = 92
          · right; refine ⟨eqT (b := 92) h9, fun h1 => ?_⟩
            have hdb := HZ.out.2 h1
            rw [hc] at h9
            rw [hdb, h9] at hsp'; revert hsp'; decide
          · left; exact eqF (b := 92) h9
        have HS : Hid ((dbl && P.sp d[j]) = false) := hsp'
        clear hc e1 hsp hsp'
        rcases n92 with n92 | ⟨n92, n1⟩
        · go_wp2
          go_big_quiet (fail)
          go_wp2
          go_big_quiet (fail)
          go_wp2_with fail
          refine (HWB.out _ _ _ (((Hs.out.drewN _).move (p + 1)).bd) ?_ ?_).mono ?_
          · rw [byteCells_len, List.length_take]; omega
          · exact ((Hs.out.drewN _).move (p + 1)).hB
          rintro x w' ⟨rfl, hb', hbl', hk'⟩
          have hfin := step_wrote ((Hs.out.drewN _).move (p + 1)) hlt _ HC.out hb' hbl' hk'
          have HF : Hid (St B S R b t va vc (p + 1) (d.take (j + 1)) w') := hfin
          have HB : Hid (Below B w w') := (below_move Hs.out Hbl.out).trans hbl'
          clear hb' hbl' hk' hfin
          go_wp2
          go_roundw
          case rel => exact ⟨j + 1, by omega, by rw [P.step_plain dbl d j hlt HS.out, ← HP.out]; exact HF.out, HB.out⟩
          case measure => rw [atI_St HF.out, atI_St Hs.out]; omega
        · go_wp2
          go_big_quiet (fail)
          go_wp2
          go_big_quiet (fail)
          go_wp2_with fail
          refine (HWB.out _ _ _ (((Hs.out.drewN _).move (p + 1)).bd) ?_ ?_).mono ?_
          · rw [byteCells_len, List.length_take]; omega
          · exact ((Hs.out.drewN _).move (p + 1)).hB
          rintro x w' ⟨rfl, hb', hbl', hk'⟩
          have hfin := step_wrote ((Hs.out.drewN _).move (p + 1)) hlt _ HC.out hb' hbl' hk'
          have HF : Hid (St B S R b t va vc (p + 1) (d.take (j + 1)) w') := hfin
          have HB : Hid (Below B w w') := (below_move Hs.out Hbl.out).trans hbl'
          clear hb' hbl' hk' hfin
          go_wp2
          go_roundw
          case rel => exact ⟨j + 1, by omega, by rw [P.step_plain dbl d j hlt HS.out, ← HP.out]; exact HF.out, HB.out⟩
          case measure => rw [atI_St HF.out, atI_St Hs.out]; omega
    · have hje : j = d.length := by omega
      have e1 : t.data.toList[p]? = some q := by
        have := P.at_end dbl d q rest
        rw [HP.out, HT.out, hje, List.take_length]; exact this
      obtain ⟨hps, hc⟩ := at_of e1
      have nq : ((t[p].toNat : Int) == (e[0].toNat : Int)) = true := by apply eqT; rw [hc, HE.out]
      have HF : Hid (∀ n, St B S R b t va vc ((P.enc dbl d).length + 1) d ((wr.drewN n).setCell ⟨R, 4, none⟩ (.int .i64 ((p : Int) + 1)))) := by
        intro n
        have hend : d.take j = d := by rw [hje, List.take_length]
        have h := (Hs.out.drewN n).move (p + 1)
        have e2 := HP.out
        rw [hend] at h e2
        rw [← e2]
        exact h
      clear hc e1 hje
      go_wp2
      go_big_quiet (fail)
      go_wp2
      go_big_quiet (fail)
      go_wp2
      exact bodyPost_ret (results_none rfl _ _ _) rfl ⟨rfl, HF.out _, below_move Hs.out Hbl.out⟩
end Go.Proofs.Qxb6603465a

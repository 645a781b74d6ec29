import Derived.Test.Qxb6603465aDq
import Derived.Test.Qxb6603465aBuilder
import Derived.Test.Qxb6603465aShelf
import Derived.Deep.RegionWith
namespace Go.Proofs.Qxb6603465a
open Go.RowKit

theorem mk_slots (w : World) : (Instr.makeSlice 31 (.int .i64 0) (.int .i64 0)).run Try.prog w = .ok (.slice (some ⟨w.heap.size, 0, none⟩) 0 0) (w.alloc (.cells #[] 33)) := by kernel_rfl

/-- The world in which the reader and the builder have been laid. -/
def start (w : World) (t : ByteArray) : World :=
  (((w.alloc (.cells #[] 33)).alloc (.cells scells 40)).alloc (.cells (rcells (w.heap.size + 1) t (some ⟨w.heap.size, 0, none⟩) 0 0) 44)).alloc (.cells #[.pointer none, .slice none 0 0] 47)

theorem start_size (w : World) (t : ByteArray) : (start w t).heap.size = w.heap.size + 4 := by simp [start]

theorem start_St (w : World) (t : ByteArray) : St w.heap.size (w.heap.size + 1) (w.heap.size + 1 + 1) (w.heap.size + 1 + 1 + 1) t (some ⟨w.heap.size, 0, none⟩) 0 0 [] (start w t) := by
  refine ⟨?_, ?_, .inl ⟨by omega, .slice none 0 0, ?_, World.ownsRowF_nil _ _ _ _, by simp [Value.ownBlock]⟩, by omega, by omega, by omega, by omega, by omega, by rw [start_size]; omega⟩
  · show ((((w.heap.push _).push _).push _).push _)[w.heap.size + 2]? = _
    simp only [Array.getElem?_push, Array.size_push]
    rw [if_neg (by omega), if_pos trivial]; rfl
  · show ((((w.heap.push _).push _).push _).push _)[w.heap.size + 1]? = _
    simp only [Array.getElem?_push, Array.size_push]
    rw [if_neg (by omega), if_neg (by omega), if_pos trivial]
  · show ((((w.heap.push _).push _).push _).push _)[w.heap.size + 3]? = _
    simp only [Array.getElem?_push, Array.size_push]
    rw [if_pos trivial]

theorem start_below (w : World) (t : ByteArray) : Below w.heap.size w (start w t) :=
  ((((Below.refl _ _).alloc (Nat.le_refl _) _).alloc (by simp) _).alloc (by simp; omega) _).alloc (by simp; omega) _

variable {B S R b : Nat} {t : ByteArray} {va : Option Addr} {vc i : Nat} {acc : List UInt8} {w : World}

/-- Behind 'b.String()'. -/
theorem St.kept (h : St B S R b t va vc i acc w) {w' : World} (hb : Lib.IsBuilderF 47 5 B b (Lib.byteCells acc) w') (hbl : Below B w w') (hk : Lib.OthersKept 5 (some b) w w') : St B S R b t va vc i acc w' := by
  refine ⟨hk R _ h.rd (fun e => h.hRb (Option.some.inj e)) ?_, hk S _ h.sc (fun e => h.hSb (Option.some.inj e)) ?_, hb, h.hR, h.hS, h.hRb, h.hSb, h.hRS, Nat.le_trans h.hB hbl.size⟩
  · intro c fz e; injection e with _ e; exact absurd e (by decide)
  · intro c fz e; injection e with _ e; exact absurd e (by decide)

theorem St.drew (h : St B S R b t va vc i acc w) : St B S R b t va vc i acc w.drew := ⟨h.rd, h.sc, h.bd, h.hR, h.hS, h.hRb, h.hSb, h.hRS, h.hB⟩

set_option maxHeartbeats 2000000 in
theorem zz_any (dbl : Bool) (q : UInt8) (e t : ByteArray) (d rest : List UInt8) (w : World) (htl : t.data.toList = P.enc dbl d ++ q :: rest) (ht : t.size ≤ 1048577)
    (he0 : 0 < e.size) (heq : e[0] = q) (he5 : e.size ≤ 5) (hsz : dbl = true ↔ 1 < e.size) (hix : dbl = true → ∀ c, P.sp c = true → 0 ≤ Lib.indexByte e.data.toList c)
    (hq1 : dbl = true → q = 34) (hq2 : dbl = false → ∀ c ∈ d, c ≠ q) :
    Calls Try.prog 7 #[.string t, .int .i64 0, .int .i64 t.size, .int .i64 0, .slice none 0 0, .string e, .string ⟨#[]⟩, .string ⟨#[]⟩] w fun x w' => x = .returned (.tuple #[.string ⟨d.toArray⟩, .int .i64 ((P.enc dbl d).length + 1 : Nat), .string ⟨#[]⟩]) ∧ Below w.heap.size w w' := by
  have hmk := mk_slots
  have HD : Hid (∀ (w1 : World), St w.heap.size (w.heap.size + 1) (w.heap.size + 1 + 1) (w.heap.size + 1 + 1 + 1) t (some ⟨w.heap.size, 0, none⟩) 0 0 [] w1 → Calls Try.prog 12 #[.pointer (some ⟨w.heap.size + 1 + 1, 0, none⟩), .pointer (some ⟨w.heap.size + 1 + 1 + 1, 0, none⟩), .string e] w1 fun x w' => x = .returned (.tuple #[]) ∧ St w.heap.size (w.heap.size + 1) (w.heap.size + 1 + 1) (w.heap.size + 1 + 1 + 1) t (some ⟨w.heap.size, 0, none⟩) 0 ((P.enc dbl d).length + 1) d w' ∧ Below w.heap.size w1 w') :=
    fun w1 h1 => dq_any dbl q e d rest htl ht h1 (fun bs c w' => writeByte_any _ _ bs c w') he0 heq he5 hsz hix hq1 hq2
  obtain ⟨n, hn⟩ : ∃ n, n = (P.enc dbl d).length + 1 := ⟨_, rfl⟩
  rw [← hn] at HD ⊢
  clear htl heq hsz hix hq1 hq2 hn
  go_enter Try.func7, Try.ntmps7
  go_wp2
  go_loopw [28] (fun i wr => i = .int .i64 0 ∧ wr = w.alloc (.cells #[] 33)) (fun _ _ => 0)
  case atStart => exact ⟨rfl, rfl⟩
  case round =>
    obtain ⟨rfl, rfl⟩ := hrel
    go_wp2_with fail
    refine (writeString_any w.heap.size (w.heap.size + 1 + 1 + 1) [] ⟨#[]⟩ (start w t) (start_St w t).bd (by decide) (start_St w t).hB).mono ?_
    rintro x w1 ⟨rfl, hb1, hbl1, hk1⟩
    have hs1 : St w.heap.size (w.heap.size + 1) (w.heap.size + 1 + 1) (w.heap.size + 1 + 1 + 1) t (some ⟨w.heap.size, 0, none⟩) 0 0 [] w1 := (start_St w t).wrote hb1 hbl1 hk1
    have H1 : Hid (Below w.heap.size w w1) := (start_below w t).trans hbl1
    have HS1 : Hid (St w.heap.size (w.heap.size + 1) (w.heap.size + 1 + 1) (w.heap.size + 1 + 1 + 1) t (some ⟨w.heap.size, 0, none⟩) 0 0 [] w1) := hs1
    clear hb1 hbl1 hk1 hs1
    go_wp2_with fail
    refine (HD.out w1 HS1.out).mono ?_
    rintro x w2 ⟨rfl, hs2, hbl2⟩
    have c4 := hs2.c4; have c0 := hs2.c0; have s3 := hs2.s3
    have HS2 : Hid (St w.heap.size (w.heap.size + 1) (w.heap.size + 1 + 1) (w.heap.size + 1 + 1 + 1) t (some ⟨w.heap.size, 0, none⟩) 0 n d w2) := hs2
    have H2 : Hid (Below w.heap.size w w2) := H1.out.trans hbl2
    clear hs2 hbl2 HS1 H1 HD
    go_wp2_with fail
    go_region_with (go_at_call 13; refine (Try.Builder_String_any_k w.heap.size (w.heap.size + 1 + 1 + 1) d _ (by exact HS2.out.drew.bd) (by exact HS2.out.drew.hB)).mono ?_; rintro x w3 ⟨rfl, hb3, hbl3, hk3⟩; have hs3 := HS2.out.drew.kept hb3 hbl3 hk3; have c4' := hs3.c4; have c0' := hs3.c0; have s3' := hs3.s3; have H3 : Hid (Below w.heap.size w w3) := H2.out.drew.trans hbl3; clear hs3 hb3 hbl3 hk3)
    all_goals go_wp2
    all_goals (go_ret3; exact ⟨rfl, H3.out⟩)
end Go.Proofs.Qxb6603465a

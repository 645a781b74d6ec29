import Derived.Test.Qxb6603465aSmall
import Derived.Deep.QuietTactic
import Derived.BigQuiet
namespace Go.Proofs.Qxb6603465a
open Go.RowKit

/-- 'r.peek(k)' over a reader whose values are none: the byte at k. -/
theorem peek_any (r k : Nat) (t : ByteArray) (va : Option Addr) (vc : Nat) (w : World) (hk : k < t.size)
    (hc1 : w.cell? ⟨r, 1, none⟩ = some (.string t)) (hc3 : w.cell? ⟨r, 3, none⟩ = some (.slice va 0 vc)) (hc5 : w.cell? ⟨r, 5, none⟩ = some (.int .i64 t.size)) (hc6 : w.cell? ⟨r, 6, none⟩ = some (.int .i64 0)) :
    Calls Try.prog 17 #[.pointer (some ⟨r, 0, none⟩), .int .i64 k] w fun e w' => e = .returned (.int .u8 (t[k].toNat : Int)) ∧ ∃ n, w' = w.drewN n := by
  have hd : decide (t.size ≤ k) = false := by simp; omega
  go_enter Try.func17, Try.ntmps17
  go_wp2
  go_big_quiet (fail)
  go_wp2
  go_ret
  exact ⟨rfl, _, rfl⟩
end Go.Proofs.Qxb6603465a

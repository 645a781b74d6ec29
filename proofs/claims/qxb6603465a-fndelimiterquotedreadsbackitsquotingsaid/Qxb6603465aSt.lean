import Derived.Test.Qxb6603465aPeek
import Derived.Lib.OthersKept
namespace Go.Proofs.Qxb6603465a
open Go.RowKit

theorem isBuilderF_setCell {T e T' : TypeId} {B b : Nat} {bs : List Value} {w : World} (h : Lib.IsBuilderF T e B b bs w) (p : Addr) (v : Value) {cs : Array Value} {fz : Nat × Nat}
    (hk : w.heap[p.block]? = some (.cells cs T' fz)) (hb : p.block ≠ b) (hT : T' ≠ e) : Lib.IsBuilderF T e B b bs (w.setCell p v) := by
  have one : ∀ q, Lib.BuilderAtF T e B b q bs w → Lib.BuilderAtF T e B b q bs (w.setCell p v) := by
    rintro q ⟨hB, u, hbk, hown, hne⟩
    refine ⟨hB, u, (Below.heap_setCell _ _ _ _ (Ne.symm hb)).trans hbk, ?_, hne⟩
    refine hown.kept (row := some p.block) ⟨rfl, rfl, rfl, by simp [World.setCell], fun k _ hk => Below.heap_setCell _ _ _ _ (fun e => hk (by simp [e]))⟩ ?_
    exact Or.inr (Lib.ownBlock_neF hown hk hT)
  exact h.elim (fun x => .inl (one _ x)) (fun x => .inr (one _ x))

/-- The reader's cells: its offset is i. -/
def rcells (S : Nat) (t : ByteArray) (va : Option Addr) (vc : Nat) (i : Int) : Array Value :=
  #[.pointer (some ⟨S, 0, none⟩), .string t, .slice none 0 0, .slice va 0 vc, .int .i64 i, .int .i64 t.size, .int .i64 0, .int .i64 0, .int .i64 0, .string ⟨#[]⟩, .slice none 0 0, .bool false, .slice none 0 0]
def scells : Array Value := #[.slice none 0 0, .slice none 0 0, .slice none 0 0, .string ⟨#[]⟩]

/-- The state while the quotes are read. -/
structure St (B S R b : Nat) (t : ByteArray) (va : Option Addr) (vc : Nat) (i : Nat) (acc : List UInt8) (w : World) : Prop where
  rd : w.heap[R]? = some (.cells (rcells S t va vc i) 44 (0, 0))
  sc : w.heap[S]? = some (.cells scells 40 (0, 0))
  bd : Lib.IsBuilderF 47 5 B b (Lib.byteCells acc) w
  hR : B ≤ R
  hS : B ≤ S
  hRb : R ≠ b
  hSb : S ≠ b
  hRS : R ≠ S
  hB : B ≤ w.heap.size

variable {B S R b : Nat} {t : ByteArray} {va : Option Addr} {vc i : Nat} {acc : List UInt8} {w : World}

theorem St.c1 (h : St B S R b t va vc i acc w) : w.cell? ⟨R, 1, none⟩ = some (.string t) := by rw [Lib.cell_of_heap h.rd]; rfl
theorem St.c3 (h : St B S R b t va vc i acc w) : w.cell? ⟨R, 3, none⟩ = some (.slice va 0 vc) := by rw [Lib.cell_of_heap h.rd]; rfl
theorem St.c4 (h : St B S R b t va vc i acc w) : w.cell? ⟨R, 4, none⟩ = some (.int .i64 i) := by rw [Lib.cell_of_heap h.rd]; rfl
theorem St.c5 (h : St B S R b t va vc i acc w) : w.cell? ⟨R, 5, none⟩ = some (.int .i64 t.size) := by rw [Lib.cell_of_heap h.rd]; rfl
theorem St.c6 (h : St B S R b t va vc i acc w) : w.cell? ⟨R, 6, none⟩ = some (.int .i64 0) := by rw [Lib.cell_of_heap h.rd]; rfl
theorem St.f4 (h : St B S R b t va vc i acc w) : w.frozen? ⟨R, 4, none⟩ = false := Lib.frozen_of_heap h.rd 4
theorem St.c0 (h : St B S R b t va vc i acc w) : w.cell? ⟨R, 0, none⟩ = some (.pointer (some ⟨S, 0, none⟩)) := by rw [Lib.cell_of_heap h.rd]; rfl
theorem St.s3 (h : St B S R b t va vc i acc w) : w.cell? ⟨S, 3, none⟩ = some (.string ⟨#[]⟩) := by rw [Lib.cell_of_heap h.sc]; rfl

theorem St.drewN (h : St B S R b t va vc i acc w) (n : Nat) : St B S R b t va vc i acc (w.drewN n) := ⟨h.rd, h.sc, h.bd, h.hR, h.hS, h.hRb, h.hSb, h.hRS, h.hB⟩

/-- The offset is moved on. -/
theorem St.move (h : St B S R b t va vc i acc w) (i' : Nat) : St B S R b t va vc i' acc (w.setCell ⟨R, 4, none⟩ (.int .i64 i')) := by
  refine ⟨?_, (Below.heap_setCell _ _ _ _ (Ne.symm h.hRS)).trans h.sc, isBuilderF_setCell h.bd _ _ h.rd h.hRb (by decide), h.hR, h.hS, h.hRb, h.hSb, h.hRS, by simpa [World.setCell] using h.hB⟩
  have := h.rd
  simp [World.setCell, Array.getElem?_modify, this, rcells]

/-- Behind a write into the builder. -/
theorem St.wrote (h : St B S R b t va vc i acc w) {w' : World} {acc' : List UInt8} (hb : Lib.BuilderAtF 47 5 B b (.pointer (some ⟨b, 0, none⟩)) (Lib.byteCells acc') w') (hbl : Below B w w') (hk : Lib.OthersKept 5 (some b) w w') : St B S R b t va vc i acc' w' := by
  refine ⟨hk R _ h.rd (fun e => h.hRb (Option.some.inj e)) ?_, hk S _ h.sc (fun e => h.hSb (Option.some.inj e)) ?_, .inr hb, h.hR, h.hS, h.hRb, h.hSb, h.hRS, Nat.le_trans h.hB hbl.size⟩
  · intro c fz e; injection e with _ e; exact absurd e (by decide)
  · intro c fz e; injection e with _ e; exact absurd e (by decide)
end Go.Proofs.Qxb6603465a

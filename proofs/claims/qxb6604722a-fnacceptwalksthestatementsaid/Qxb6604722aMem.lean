/- The lexer in memory, and what its methods may turn. -/
import Derived.Test.Qxb6604722aShelfB
import Derived.WalkKit
import Derived.WalkLawsBesides
import Derived.Below
import Derived.Deep.Draws
namespace Go.Proofs.Qxb6604722a
open Go.RowKit

/-- A lexer lies at the head of block b. -/
structure LexAt (b : Nat) (w : World) (src : ByteArray) (pos : Nat) (mk : Bool) (md : Nat) : Prop where
  c0 : w.cell? ⟨b, 0, none⟩ = some (.string src)
  c1 : w.cell? ⟨b, 1, none⟩ = some (.int .i64 pos)
  c2 : w.cell? ⟨b, 2, none⟩ = some (.bool mk)
  c3 : w.cell? ⟨b, 3, none⟩ = some (.int .i64 md)
  f1 : w.frozen? ⟨b, 1, none⟩ = false
  f3 : w.frozen? ⟨b, 3, none⟩ = false

theorem LexAt.lt {b : Nat} {w : World} {src : ByteArray} {pos : Nat} {mk : Bool} {md : Nat} (h : LexAt b w src pos mk md) : b < w.heap.size := World.block_lt_of_cell? _ _ h.c0

/-- Of what was there at most cells 1 and 3 of block b have turned. -/
structure Lexed (b : Nat) (w w' : World) : Prop where
  os : w'.os = w.os
  tape : w'.tape = w.tape
  output : w'.output = w.output
  size : w.heap.size ≤ w'.heap.size
  block : ∀ k, k < w.heap.size → k ≠ b → w'.heap[k]? = w.heap[k]?
  cells : ∀ o, o ≠ 1 → o ≠ 3 → w'.cell? ⟨b, o, none⟩ = w.cell? ⟨b, o, none⟩
  froz : ∀ o, w'.frozen? ⟨b, o, none⟩ = w.frozen? ⟨b, o, none⟩

theorem Lexed.refl (b : Nat) (w : World) : Lexed b w w := ⟨rfl, rfl, rfl, Nat.le_refl _, fun _ _ _ => rfl, fun _ _ _ => rfl, fun _ => rfl⟩
theorem Lexed.trans {b : Nat} {a w c : World} (h : Lexed b a w) (k : Lexed b w c) : Lexed b a c :=
  ⟨k.os.trans h.os, k.tape.trans h.tape, k.output.trans h.output, Nat.le_trans h.size k.size,
   fun i hi hn => (k.block i (Nat.lt_of_lt_of_le hi h.size) hn).trans (h.block i hi hn),
   fun o h1 h3 => (k.cells o h1 h3).trans (h.cells o h1 h3), fun o => (k.froz o).trans (h.froz o)⟩
theorem Lexed.of_below {b : Nat} {w w' : World} (h : Below w.heap.size w w') (hb : b < w.heap.size) : Lexed b w w' :=
  ⟨h.os, h.tape, h.output, h.size, fun k hk _ => h.block k hk, fun o _ _ => h.cell (p := ⟨b, o, none⟩) hb, fun o => h.frozen (p := ⟨b, o, none⟩) hb⟩
theorem Lexed.drewN {b : Nat} {a w : World} (h : Lexed b a w) (n : Nat) : Lexed b a (w.drewN n) := ⟨h.os, h.tape, h.output, h.size, h.block, h.cells, h.froz⟩
theorem Lexed.drew {b : Nat} {a w : World} (h : Lexed b a w) : Lexed b a w.drew := ⟨h.os, h.tape, h.output, h.size, h.block, h.cells, h.froz⟩
theorem Lexed.alloc {b : Nat} {a w : World} (h : Lexed b a w) (hb : b < w.heap.size) (o : Obj) : Lexed b a (w.alloc o) :=
  h.trans (Lexed.of_below ((Below.refl _ _).alloc (Nat.le_refl _) o) hb)
/-- A store into a block that was not there when the call began. -/
theorem Lexed.setNew {b : Nat} {a w : World} (h : Lexed b a w) (hb : b < a.heap.size) {p : Addr} (hp : a.heap.size ≤ p.block) (u : Value) : Lexed b a (w.setCell p u) where
  os := h.os
  tape := h.tape
  output := h.output
  size := by have := h.size; simpa [World.setCell] using this
  block := fun k hk hn => (Below.heap_setCell _ _ _ _ (by omega)).trans (h.block k hk hn)
  cells := fun o h1 h3 => (World.cell?_of_block (w := w) (a := ⟨b, o, none⟩) (Below.heap_setCell _ _ _ _ (by show b ≠ _; omega))).trans (h.cells o h1 h3)
  froz := fun o => (World.frozen?_of_block (w := w) (a := ⟨b, o, none⟩) (Below.heap_setCell _ _ _ _ (by show b ≠ _; omega))).trans (h.froz o)
theorem Lexed.set {b : Nat} {a w : World} (h : Lexed b a w) (o : Nat) (ho : o = 1 ∨ o = 3) (u : Value) : Lexed b a (w.setCell ⟨b, o, none⟩ u) where
  os := h.os
  tape := h.tape
  output := h.output
  size := by have := h.size; simpa [World.setCell] using this
  block := fun k hk hn => (Below.heap_setCell _ _ _ _ (by show k ≠ b; omega)).trans (h.block k hk hn)
  cells := fun o' h1 h3 => (World.cell?_setCell_other _ _ _ _ (by intro e; cases e; omega)).trans (h.cells o' h1 h3)
  froz := fun o' => (World.frozen?_setCell _ _ _ _).trans (h.froz o')

theorem LexAt.set1 {b : Nat} {w : World} {src : ByteArray} {pos : Nat} {mk : Bool} {md : Nat} (h : LexAt b w src pos mk md) (p : Nat) (v : Int) (hv : v = p) : LexAt b (w.setCell ⟨b, 1, none⟩ (.int .i64 v)) src p mk md where
  c0 := (World.cell?_setCell_other _ _ _ _ (by intro e; cases e)).trans h.c0
  c1 := hv ▸ World.cell?_setCell_same _ _ _ h.c1
  c2 := (World.cell?_setCell_other _ _ _ _ (by intro e; cases e)).trans h.c2
  c3 := (World.cell?_setCell_other _ _ _ _ (by intro e; cases e)).trans h.c3
  f1 := (World.frozen?_setCell _ _ _ _).trans h.f1
  f3 := (World.frozen?_setCell _ _ _ _).trans h.f3
theorem LexAt.set3 {b : Nat} {w : World} {src : ByteArray} {pos : Nat} {mk : Bool} {md : Nat} (h : LexAt b w src pos mk md) (p : Nat) (v : Int) (hv : v = p) : LexAt b (w.setCell ⟨b, 3, none⟩ (.int .i64 v)) src pos mk p where
  c0 := (World.cell?_setCell_other _ _ _ _ (by intro e; cases e)).trans h.c0
  c1 := (World.cell?_setCell_other _ _ _ _ (by intro e; cases e)).trans h.c1
  c2 := (World.cell?_setCell_other _ _ _ _ (by intro e; cases e)).trans h.c2
  c3 := hv ▸ World.cell?_setCell_same _ _ _ h.c3
  f1 := (World.frozen?_setCell _ _ _ _).trans h.f1
  f3 := (World.frozen?_setCell _ _ _ _).trans h.f3
theorem LexAt.drewN {b : Nat} {w : World} {src : ByteArray} {pos : Nat} {mk : Bool} {md : Nat} (h : LexAt b w src pos mk md) (n : Nat) : LexAt b (w.drewN n) src pos mk md := ⟨h.c0, h.c1, h.c2, h.c3, h.f1, h.f3⟩
/-- Nothing of block b has turned. -/
theorem LexAt.of_block {b : Nat} {w w' : World} {src : ByteArray} {pos : Nat} {mk : Bool} {md : Nat} (h : LexAt b w src pos mk md) (e : w'.heap[b]? = w.heap[b]?) : LexAt b w' src pos mk md where
  c0 := (World.cell?_of_block (w := w) (a := ⟨b, 0, none⟩) e).trans h.c0
  c1 := (World.cell?_of_block (w := w) (a := ⟨b, 1, none⟩) e).trans h.c1
  c2 := (World.cell?_of_block (w := w) (a := ⟨b, 2, none⟩) e).trans h.c2
  c3 := (World.cell?_of_block (w := w) (a := ⟨b, 3, none⟩) e).trans h.c3
  f1 := (World.frozen?_of_block (w := w) (a := ⟨b, 1, none⟩) e).trans h.f1
  f3 := (World.frozen?_of_block (w := w) (a := ⟨b, 3, none⟩) e).trans h.f3
theorem LexAt.of_below {b : Nat} {w w' : World} {src : ByteArray} {pos : Nat} {mk : Bool} {md : Nat} (h : LexAt b w src pos mk md) {B : Nat} (k : Below B w w') (hb : b < B) : LexAt b w' src pos mk md :=
  h.of_block (k.block b hb)

end Go.Proofs.Qxb6604722a

import Derived.Test.Qxb6604722aW6
import Derived.Test.Qxb6604722aW2
namespace Go.Proofs.Qxb6604722a
open Go.RowKit Lx
set_option maxHeartbeats 2000000
set_option maxRecDepth 100000
set_option linter.unusedSimpArgs false
set_option linter.unusedVariables false

/-- A new block lies behind the lexer. -/
theorem LexAt.alloc {b : Nat} {w : World} {src : ByteArray} {pos : Nat} {mk : Bool} {md : Nat} (h : LexAt b w src pos mk md) (o : Obj) : LexAt b (w.alloc o) src pos mk md :=
  h.of_block (Below.heap_alloc _ _ _ h.lt)
theorem LexAt.drew {b : Nat} {w : World} {src : ByteArray} {pos : Nat} {mk : Bool} {md : Nat} (h : LexAt b w src pos mk md) : LexAt b w.drew src pos mk md := h.drewN 1

abbrev tok0 : Obj := .cells #[.int .i64 0, .int .i64 0, .string ⟨#[]⟩, .string ⟨#[]⟩, .int .i64 0] 50

/-- What a function with a token's block of its own starts from: w with that block, the lexer and the block in it. -/
structure TokW (b : Nat) (w wr : World) (src : ByteArray) (p : Nat) (mk : Bool) (md : Nat) : Prop where
  lex : LexAt b wr src p mk md
  led : Lexed b w wr
  tok : TokBlk w.heap.size wr
  big : w.heap.size < wr.heap.size
theorem TokW.start {b : Nat} {w : World} {src : ByteArray} {p : Nat} {mk : Bool} {md : Nat} (hx : LexAt b w src p mk md) : TokW b w (w.alloc tok0) src p mk md :=
  ⟨hx.alloc _, (Lexed.refl _ _).alloc hx.lt _, TokBlk.alloc w, by simp⟩
theorem TokW.drewN {b : Nat} {w wr : World} {src : ByteArray} {p : Nat} {mk : Bool} {md : Nat} (h : TokW b w wr src p mk md) (n : Nat) : TokW b w (wr.drewN n) src p mk md := ⟨h.lex.drewN n, h.led.drewN n, h.tok, h.big⟩
theorem TokW.move {b : Nat} {w wr : World} {src : ByteArray} {p : Nat} {mk : Bool} {md : Nat} (h : TokW b w wr src p mk md) (hb : b < w.heap.size) (p' : Nat) (v : Int) (hv : v = p') : TokW b w (wr.setCell ⟨b, 1, none⟩ (.int .i64 v)) src p' mk md :=
  ⟨h.lex.set1 p' v hv, h.led.set 1 (.inl rfl) _, (Below.heap_setCell _ _ _ _ (by show _ ≠ b; omega)).trans h.tok, by simpa [World.setCell] using h.big⟩
theorem TokW.mark {b : Nat} {w wr : World} {src : ByteArray} {p : Nat} {mk : Bool} {md : Nat} (h : TokW b w wr src p mk md) (hb : b < w.heap.size) (md' : Nat) (v : Int) (hv : v = md') : TokW b w (wr.setCell ⟨b, 3, none⟩ (.int .i64 v)) src p mk md' :=
  ⟨h.lex.set3 md' v hv, h.led.set 3 (.inr rfl) _, (Below.heap_setCell _ _ _ _ (by show _ ≠ b; omega)).trans h.tok, by simpa [World.setCell] using h.big⟩
/-- Behind a callee that turned the lexer. -/
theorem TokW.called {b : Nat} {w wr w' : World} {src : ByteArray} {p p' : Nat} {mk : Bool} {md md' : Nat} (h : TokW b w wr src p mk md) (hb : b < w.heap.size) (hx : LexAt b w' src p' mk md') (hl : Lexed b wr w') : TokW b w w' src p' mk md' :=
  ⟨hx, h.led.trans hl, h.tok.lexed (by omega) h.big hl, Nat.lt_of_lt_of_le h.big hl.size⟩
/-- Behind a callee that made memory. -/
theorem TokW.below {b : Nat} {w wr w' : World} {src : ByteArray} {p : Nat} {mk : Bool} {md : Nat} (h : TokW b w wr src p mk md) (hb : b < w.heap.size) (k : Below wr.heap.size wr w') : TokW b w w' src p mk md :=
  ⟨h.lex.of_below k (by have := h.big; omega), h.led.trans (Lexed.of_below k (by have := h.big; omega)), (k.block _ h.big).trans h.tok, Nat.lt_of_lt_of_le h.big k.size⟩

/-- What a function that hands back a token says. -/
def RPost (b : Nat) (w : World) (src : ByteArray) (mk : Bool) (r : Tok × Nat × Nat) (e : Ending) (w' : World) : Prop :=
  e = .returned r.1.v ∧ LexAt b w' src r.2.1 mk r.2.2 ∧ Lexed b w w'

/-- The end of such a function: five stores, and the token is read back. -/
theorem tok_end {fn : Func} (hres : fn.results = #[.cell 2 50]) {b : Nat} {w wr : World} {src : ByteArray} {p : Nat} {mk : Bool} {md : Nat} (h : TokW b w wr src p mk md) (hb : b < w.heap.size) (t : Tok) (r : Tok × Nat × Nat) (hr : r = (t, p, md)) (a : Act)
    (ha : a.tmps[2]?.getD undef = .pointer (some ⟨w.heap.size, 0, none⟩)) (hd : a.defers = []) :
    bodyPost Try.prog fn (RPost b w src mk r) Exit.ret a
      (((((wr.setCell ⟨w.heap.size, 0, none⟩ (.int .i64 t.kind)).setCell ⟨w.heap.size, 1, none⟩ (.int .i64 t.pos)).setCell ⟨w.heap.size, 2, none⟩ (.string t.text)).setCell ⟨w.heap.size, 3, none⟩ (.string t.val)).setCell ⟨w.heap.size, 4, none⟩ (.int .i64 t.n)) := by
  obtain ⟨q0, q1, q2, q3, q4⟩ := put5_cells h.tok (.int .i64 t.kind) (.int .i64 t.pos) (.string t.text) (.string t.val) (.int .i64 t.n)
  subst hr
  refine bodyPost_ret (v := t.v) ?_ hd ⟨rfl, h.lex.of_block (put5_block _ _ _ _ _ _ _ _ (by omega)), h.led.put5 hb (Nat.le_refl _) _ _ _ _ _⟩
  simp [results, hres, ha, go_sem, Tok.v, q0, q1, q2, q3, q4]

theorem scanNumber_is (s : ByteArray) (n : Nat) (d : Bool) (w : World) (hs : s.size ≤ maxLen) (h : scanNum s = (n, d)) :
    Calls Try.prog 52 #[.string s] w fun e w' => e = .returned (.tuple #[.int .i64 n, .bool d]) ∧ w' = w := by
  have := scanNumber_any s w hs
  rw [h] at this
  exact this

theorem number_any (b : Nat) (src : ByteArray) (pos : Nat) (mk : Bool) (md : Nat) (w : World) (hs : src.size ≤ 1048576) (hp : pos ≤ src.size) (hx : LexAt b w src pos mk md) :
    Calls Try.prog 44 #[.pointer (some ⟨b, 0, none⟩)] w (RPost b w src mk ((numTok src pos).1, (numTok src pos).2, md)) := by
  have hlb := hx.lt
  obtain ⟨n, d, hnd⟩ : ∃ n d, scanNum (src.extract pos src.size) = (n, d) := ⟨_, _, rfl⟩
  have hn := scanNum_le (src.extract pos src.size)
  rw [hnd] at hn
  have hsz : (src.extract pos src.size).size = src.size - pos := by
    have h1 : (src.extract pos src.size).size = min src.size src.size - pos := ByteArray.size_extract
    omega
  rw [hsz] at hn
  simp only at hn
  have hR : ((numTok src pos).1, (numTok src pos).2, md) = ({ kind := if d = true then 4 else 5, pos := 0, text := src.extract pos (pos + n), val := src.extract pos (pos + n), n := 0 }, pos + n, md) := by
    simp only [numTok, hnd]
  rw [hR]
  have hcall : Hid (∀ wx, Calls Try.prog 52 #[.string (src.extract pos src.size)] wx fun e w' => e = .returned (.tuple #[.int .i64 n, .bool d]) ∧ w' = wx) := fun wx => scanNumber_is _ n d wx (by rw [hsz]; unfold maxLen; omega) hnd
  have HS : Hid (TokW b w (w.alloc tok0) src pos mk md) := TokW.start hx
  have hsl := fun wx => run_slice_string (P := Try.prog) (w := wx) 9 src .i64 .i64 pos ((pos : Int) + n) Try.underlying9 (by omega) (by omega) (by omega)
  rw [show ((pos : Int) + n).toNat = pos + n from by omega, Int.toNat_natCast] at hsl
  clear hnd hR hsz
  have c0 := fun o => (hx.alloc o).c0
  have c1 := fun o => (hx.alloc o).c1
  have f1 := fun o => (hx.alloc o).f1
  have hkind : Hid ((if d = true then (4 : Int) else 5) = if d = true then 4 else 5) := rfl
  cases d with
  | true =>
    go_enter Try.func44, Try.ntmps44
    go_wp2_with fail
    refine (hcall.out _).mono ?_
    rintro e w1 ⟨rfl, hw1⟩
    have TW : Hid (TokW b w w1 src pos mk md) := hw1 ▸ HS.out
    clear hw1 HS c0 c1 f1
    have c0 := TW.out.lex.c0
    have c1 := TW.out.lex.c1
    have f1 := TW.out.lex.f1
    obtain ⟨t0, t1, t2, t3, t4⟩ := TW.out.tok.cells
    have tf := TW.out.tok.free
    go_wp2
    go_quiet (fail)
    go_wp2
    exact tok_end (by kernel_rfl) ((TW.out.move hlb (pos + n) ((pos : Int) + n) (by omega)).drewN _) hlb { kind := 4, pos := 0, text := src.extract pos (pos + n), val := src.extract pos (pos + n), n := 0 } _ rfl _ rfl rfl
  | false =>
    go_enter Try.func44, Try.ntmps44
    go_wp2_with fail
    refine (hcall.out _).mono ?_
    rintro e w1 ⟨rfl, hw1⟩
    have TW : Hid (TokW b w w1 src pos mk md) := hw1 ▸ HS.out
    clear hw1 HS c0 c1 f1
    have c0 := TW.out.lex.c0
    have c1 := TW.out.lex.c1
    have f1 := TW.out.lex.f1
    obtain ⟨t0, t1, t2, t3, t4⟩ := TW.out.tok.cells
    have tf := TW.out.tok.free
    go_wp2
    go_quiet (fail)
    go_wp2
    exact tok_end (by kernel_rfl) ((TW.out.move hlb (pos + n) ((pos : Int) + n) (by omega)).drewN _) hlb { kind := 5, pos := 0, text := src.extract pos (pos + n), val := src.extract pos (pos + n), n := 0 } _ rfl _ rfl rfl

end Go.Proofs.Qxb6604722a

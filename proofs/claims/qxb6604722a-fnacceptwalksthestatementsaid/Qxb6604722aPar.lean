/- The parser in memory. -/
import Derived.Test.Qxb6604722aW15
import Derived.Test.Qxb6604722aLex6
import Derived.Laws.CopyOwn
import Derived.Deep.AppendLies
namespace Go.Proofs.Qxb6604722a
open Go.RowKit Lx
set_option maxRecDepth 100000
set_option linter.unusedSimpArgs false
set_option linter.unusedVariables false

def Lx.Tok.cells (t : Tok) : List Value := [.int .i64 t.kind, .int .i64 t.pos, .string t.text, .string t.val, .int .i64 t.n]
def flat : List Tok → List Value
  | [] => []
  | t :: ts => t.cells ++ flat ts
theorem flat_len : ∀ ts : List Tok, (flat ts).length = ts.length * 5
  | [] => rfl
  | t :: ts => by rw [flat, List.length_append, flat_len ts, List.length_cons]; simp [Tok.cells]; omega
theorem flat_append : ∀ a b : List Tok, flat (a ++ b) = flat a ++ flat b
  | [], b => rfl
  | t :: a, b => by rw [List.cons_append, flat, flat, flat_append a b, List.append_assoc]
theorem flat_drop : ∀ (k : Nat) (ts : List Tok), (flat ts).drop (k * 5) = flat (ts.drop k)
  | 0, ts => by simp
  | k + 1, [] => by simp [flat]
  | k + 1, t :: ts => by
    rw [List.drop_succ_cons, ← flat_drop k ts, flat, show (k + 1) * 5 = t.cells.length + k * 5 from by simp [Tok.cells]; omega, List.drop_append]
    simp
theorem flat_one : ∀ (ts : List Tok), ∀ v ∈ flat ts, v.oneCell' = true
  | [], v, h => by cases h
  | t :: ts, v, h => by
    rw [flat, List.mem_append] at h
    rcases h with h | h
    · simp only [Tok.cells, List.mem_cons, List.not_mem_nil, or_false] at h
      rcases h with h | h | h | h | h <;> (subst h; rfl)
    · exact flat_one ts v h
/-- The cells of token k. -/
theorem flat_at (ts : List Tok) (k : Nat) (h : k < ts.length) :
    (flat ts)[k * 5]? = some (.int .i64 ts[k].kind) ∧ (flat ts)[k * 5 + 1]? = some (.int .i64 ts[k].pos) ∧ (flat ts)[k * 5 + 2]? = some (.string ts[k].text) ∧ (flat ts)[k * 5 + 3]? = some (.string ts[k].val) ∧ (flat ts)[k * 5 + 4]? = some (.int .i64 ts[k].n) := by
  have hd : ∀ j, (flat ts)[k * 5 + j]? = ((flat ts).drop (k * 5))[j]? := fun j => by rw [List.getElem?_drop]
  have hc : ts.drop k = ts[k] :: ts.drop (k + 1) := (List.drop_eq_getElem_cons h)
  have h0 := hd 0
  have h1 := hd 1
  have h2 := hd 2
  have h3 := hd 3
  have h4 := hd 4
  rw [flat_drop, hc, flat] at h0 h1 h2 h3 h4
  simp only [Tok.cells, List.cons_append, List.getElem?_cons_zero, List.getElem?_cons_succ, Nat.add_zero] at h0 h1 h2 h3 h4
  exact ⟨h0, h1, h2, h3, h4⟩

/-- A parser lies at the head of block pb; what it holds ahead lies in a row of a block behind. -/
structure ParW (pb : Nat) (w0 w : World) (src : ByteArray) (mk : Bool) (pos md : Nat) (v : Value) (ts : List Tok) (nx : Nat) (en : Bool) (pe : Nat) : Prop where
  lex : LexAt pb w src pos mk md
  c4 : w.cell? ⟨pb, 4, none⟩ = some v
  c5 : w.cell? ⟨pb, 5, none⟩ = some (.int .i64 nx)
  c6 : w.cell? ⟨pb, 6, none⟩ = some (.bool en)
  c7 : w.cell? ⟨pb, 7, none⟩ = some (.int .i64 pe)
  fr : ∀ o, w.frozen? ⟨pb, o, none⟩ = false
  own : w.ownsRow (pb + 1) 50 5 v ts.length (flat ts)
  bel : Below pb w0 w

section
variable {pb : Nat} {w0 w w' : World} {src : ByteArray} {mk : Bool} {pos md : Nat} {v : Value} {ts : List Tok} {nx : Nat} {en : Bool} {pe : Nat}

theorem ParW.lt (h : ParW pb w0 w src mk pos md v ts nx en pe) : pb < w.heap.size := h.lex.lt
theorem ParW.rowLt (h : ParW pb w0 w src mk pos md v ts nx en pe) : ∀ g, v.ownBlock = some g → pb < g ∧ g < w.heap.size := fun g hg => by
  rcases h.own.2 with ⟨hv, _⟩ | ⟨g', cap, cur, hv, hb, hh, _⟩
  · rw [hv] at hg; cases hg
  · rw [hv] at hg
    simp only [Value.ownBlock, Option.some.injEq] at hg
    subst hg
    refine ⟨by omega, ?_⟩
    rcases Nat.lt_or_ge g' w.heap.size with h' | h'
    · exact h'
    · simp [Array.getElem?_eq_none h'] at hh
/-- What is owned stays owned where its own row has not turned. -/
theorem own_keep {base : Nat} {e : TypeId} {size n : Nat} {xs : List Value} (h : w.ownsRow base e size v n xs) (hb : ∀ g, v.ownBlock = some g → w'.heap[g]? = w.heap[g]?) : w'.ownsRow base e size v n xs := by
  refine ⟨h.1, ?_⟩
  rcases h.2 with h2 | ⟨g, cap, cur, hv, h3, h4, h5⟩
  · exact .inl h2
  · exact .inr ⟨g, cap, cur, hv, h3, (hb g (by rw [hv]; rfl)).trans h4, h5⟩
theorem ParW.drewN (h : ParW pb w0 w src mk pos md v ts nx en pe) (n : Nat) : ParW pb w0 (w.drewN n) src mk pos md v ts nx en pe :=
  ⟨h.lex.drewN n, h.c4, h.c5, h.c6, h.c7, h.fr, h.own, ⟨h.bel.os, h.bel.tape, h.bel.output, h.bel.size, h.bel.block⟩⟩
theorem ParW.below (h : ParW pb w0 w src mk pos md v ts nx en pe) (k : Below w.heap.size w w') : ParW pb w0 w' src mk pos md v ts nx en pe where
  lex := h.lex.of_below k h.lt
  c4 := (k.cell (p := ⟨pb, 4, none⟩) h.lt).trans h.c4
  c5 := (k.cell (p := ⟨pb, 5, none⟩) h.lt).trans h.c5
  c6 := (k.cell (p := ⟨pb, 6, none⟩) h.lt).trans h.c6
  c7 := (k.cell (p := ⟨pb, 7, none⟩) h.lt).trans h.c7
  fr := fun o => (k.frozen (p := ⟨pb, o, none⟩) h.lt).trans (h.fr o)
  own := own_keep h.own fun g hg => k.block g (h.rowLt g hg).2
  bel := h.bel.trans (k.mono (Nat.le_of_lt h.lt))
theorem ParW.alloc (h : ParW pb w0 w src mk pos md v ts nx en pe) (o : Obj) : ParW pb w0 (w.alloc o) src mk pos md v ts nx en pe :=
  h.below ((Below.refl _ _).alloc (Nat.le_refl _) o)
/-- Behind a call that turned the lexer in it. -/
theorem ParW.lexed (h : ParW pb w0 w src mk pos md v ts nx en pe) {pos' md' : Nat} (hx : LexAt pb w' src pos' mk md') (k : Lexed pb w w') : ParW pb w0 w' src mk pos' md' v ts nx en pe where
  lex := hx
  c4 := (k.cells 4 (by decide) (by decide)).trans h.c4
  c5 := (k.cells 5 (by decide) (by decide)).trans h.c5
  c6 := (k.cells 6 (by decide) (by decide)).trans h.c6
  c7 := (k.cells 7 (by decide) (by decide)).trans h.c7
  fr := fun o => (k.froz o).trans (h.fr o)
  own := own_keep h.own fun g hg => k.block g (h.rowLt g hg).2 (by have := (h.rowLt g hg).1; omega)
  bel := h.bel.trans ⟨k.os, k.tape, k.output, k.size, fun i hi => k.block i (Nat.lt_trans hi h.lt) (by omega)⟩
/-- Behind a write to the row that it owns (or a new one): 'append', 'copy'. -/
theorem ParW.grown (h : ParW pb w0 w src mk pos md v ts nx en pe) (k : w.grownBy w' v.ownBlock) : LexAt pb w' src pos mk md ∧ w'.cell? ⟨pb, 4, none⟩ = some v ∧ w'.cell? ⟨pb, 5, none⟩ = some (.int .i64 nx) ∧ w'.cell? ⟨pb, 6, none⟩ = some (.bool en) ∧ w'.cell? ⟨pb, 7, none⟩ = some (.int .i64 pe) ∧
    (∀ o, w'.frozen? ⟨pb, o, none⟩ = false) ∧ Below pb w0 w' := by
  have hne : some pb ≠ v.ownBlock := fun e => by have := (h.rowLt pb e.symm).1; omega
  have hb : w'.heap[pb]? = w.heap[pb]? := k.block pb h.lt hne
  refine ⟨h.lex.of_block hb, (World.cell?_of_block (w := w) (a := ⟨pb, 4, none⟩) hb).trans h.c4, (World.cell?_of_block (w := w) (a := ⟨pb, 5, none⟩) hb).trans h.c5, (World.cell?_of_block (w := w) (a := ⟨pb, 6, none⟩) hb).trans h.c6, (World.cell?_of_block (w := w) (a := ⟨pb, 7, none⟩) hb).trans h.c7, fun o => (World.frozen?_of_block (w := w) (a := ⟨pb, o, none⟩) hb).trans (h.fr o), ?_⟩
  exact h.bel.trans ⟨k.os, k.tape, k.output, k.size, fun i hi => k.block i (Nat.lt_trans hi h.lt) (fun e => by have := (h.rowLt i e.symm).1; omega)⟩

theorem setO (o o' : Nat) (u : Value) (h : o ≠ o') : (w.setCell ⟨pb, o, none⟩ u).cell? ⟨pb, o', none⟩ = w.cell? ⟨pb, o', none⟩ :=
  World.cell?_setCell_other _ _ _ _ (by intro e; cases e; exact h rfl)
theorem LexAt.setO (h : LexAt pb w src pos mk md) (o : Nat) (ho : 4 ≤ o) (u : Value) : LexAt pb (w.setCell ⟨pb, o, none⟩ u) src pos mk md where
  c0 := (Qxb6604722a.setO o 0 u (by omega)).trans h.c0
  c1 := (Qxb6604722a.setO o 1 u (by omega)).trans h.c1
  c2 := (Qxb6604722a.setO o 2 u (by omega)).trans h.c2
  c3 := (Qxb6604722a.setO o 3 u (by omega)).trans h.c3
  f1 := (World.frozen?_setCell _ _ _ _).trans h.f1
  f3 := (World.frozen?_setCell _ _ _ _).trans h.f3
theorem ParW.set5 (h : ParW pb w0 w src mk pos md v ts nx en pe) (k : Nat) (u : Int) (hu : u = k) : ParW pb w0 (w.setCell ⟨pb, 5, none⟩ (.int .i64 u)) src mk pos md v ts k en pe where
  lex := h.lex.setO 5 (by decide) _
  c4 := (setO 5 4 _ (by decide)).trans h.c4
  c5 := hu ▸ World.cell?_setCell_same _ _ _ h.c5
  c6 := (setO 5 6 _ (by decide)).trans h.c6
  c7 := (setO 5 7 _ (by decide)).trans h.c7
  fr := fun o => (World.frozen?_setCell _ _ _ _).trans (h.fr o)
  own := ownsRow_setCell_below h.own (by show pb < pb + 1; omega) _
  bel := h.bel.setCell (Nat.le_refl _) _
theorem ParW.set6 (h : ParW pb w0 w src mk pos md v ts nx en pe) (k : Bool) : ParW pb w0 (w.setCell ⟨pb, 6, none⟩ (.bool k)) src mk pos md v ts nx k pe where
  lex := h.lex.setO 6 (by decide) _
  c4 := (setO 6 4 _ (by decide)).trans h.c4
  c5 := (setO 6 5 _ (by decide)).trans h.c5
  c6 := World.cell?_setCell_same _ _ _ h.c6
  c7 := (setO 6 7 _ (by decide)).trans h.c7
  fr := fun o => (World.frozen?_setCell _ _ _ _).trans (h.fr o)
  own := ownsRow_setCell_below h.own (by show pb < pb + 1; omega) _
  bel := h.bel.setCell (Nat.le_refl _) _
theorem ParW.set7 (h : ParW pb w0 w src mk pos md v ts nx en pe) (k : Nat) (u : Int) (hu : u = k) : ParW pb w0 (w.setCell ⟨pb, 7, none⟩ (.int .i64 u)) src mk pos md v ts nx en k where
  lex := h.lex.setO 7 (by decide) _
  c4 := (setO 7 4 _ (by decide)).trans h.c4
  c5 := (setO 7 5 _ (by decide)).trans h.c5
  c6 := (setO 7 6 _ (by decide)).trans h.c6
  c7 := hu ▸ World.cell?_setCell_same _ _ _ h.c7
  fr := fun o => (World.frozen?_setCell _ _ _ _).trans (h.fr o)
  own := ownsRow_setCell_below h.own (by show pb < pb + 1; omega) _
  bel := h.bel.setCell (Nat.le_refl _) _
/-- A new row, stored into the field. -/
theorem ParW.put4 (h : ParW pb w0 w src mk pos md v ts nx en pe) (k : w.grownBy w' v.ownBlock) {v' : Value} {ts' : List Tok} (ho : w'.ownsRow (pb + 1) 50 5 v' ts'.length (flat ts')) : ParW pb w0 (w'.setCell ⟨pb, 4, none⟩ v') src mk pos md v' ts' nx en pe := by
  obtain ⟨g1, g2, g3, g4, g5, g6, g7⟩ := h.grown k
  exact ⟨g1.setO 4 (by decide) _, World.cell?_setCell_same _ _ _ g2, (setO 4 5 _ (by decide)).trans g3, (setO 4 6 _ (by decide)).trans g4, (setO 4 7 _ (by decide)).trans g5, fun o => (World.frozen?_setCell _ _ _ _).trans (g6 o), ownsRow_setCell_below ho (by show pb < pb + 1; omega) _, g7.setCell (Nat.le_refl _) _⟩
/-- The cells of the tokens that it holds. -/
theorem ParW.cell (h : ParW pb w0 w src mk pos md v ts nx en pe) {g n cap : Nat} (hv : v = .slice (some ⟨g, 0, none⟩) n cap) (j : Nat) (u : Value) (hj : (flat ts)[j]? = some u) : w.cell? ⟨g, j, none⟩ = some u := by
  rcases h.own.2 with ⟨hv', _⟩ | ⟨g', cap', cur, hv', hb, hh, hn, hm, hs, ht⟩
  · rw [hv] at hv'; cases hv'
  · rw [hv] at hv'
    cases hv'
    have hlt : j < (flat ts).length := (List.getElem?_eq_some_iff.1 hj).1
    rw [← ht, List.getElem?_take] at hj
    split at hj
    · unfold World.cell?
      rw [hh]
      simpa using hj
    · cases hj
end

end Go.Proofs.Qxb6604722a

import Derived.Test.Qxb6604722aLaw
import Derived.Laws.Concat
import Derived.Laws.StructEq
namespace Go.Proofs.Qxb6604722a
open Go.RowKit Lx
set_option maxHeartbeats 4000000
set_option maxRecDepth 100000
set_option linter.unusedSimpArgs false
set_option linter.unusedVariables false

theorem bytes_any (s : ByteArray) (mk : Bool) (w : World) (hs : s.size ≤ maxLen) :
    Calls Try.prog 21 #[.string s, .bool mk] w fun e w' => e = .returned (.bool (decide (s.size ≤ 1048576))) ∧ w = w' := by
  unfold maxLen at hs
  by_cases h : (s.size : Int) ≤ 1048576
  · go_enter Try.func21, Try.ntmps21
    go_wp2
    go_ret
    exact ⟨ret_bool (by simp; omega), rfl⟩
  · go_enter Try.func21, Try.ntmps21
    go_wp2
    go_ret
    exact ⟨ret_bool (by simp; omega), rfl⟩

section
variable {pb lb : Nat} {w0 w w' : World} {src : ByteArray} {mk : Bool} {s : PSt} {pe : Nat}
theorem PIs.rebase (h : PIs pb w0 w src mk s pe) : PIs pb w w src mk s pe := by
  obtain ⟨v, h⟩ := h
  exact ⟨v, h.lex, h.c4, h.c5, h.c6, h.c7, h.fr, h.own, Below.refl _ _⟩
theorem PIs.below (h : PIs pb w0 w src mk s pe) (k : Below w.heap.size w w') : PIs pb w' w' src mk s pe := by
  obtain ⟨v, h⟩ := h
  exact PIs.rebase ⟨v, h.below k⟩
theorem PIs.lt (h : PIs pb w0 w src mk s pe) : pb < w.heap.size := by
  obtain ⟨v, h⟩ := h
  exact h.lt
theorem PIs.bel (h : PIs pb w0 w src mk s pe) : Below pb w0 w := by
  obtain ⟨v, h⟩ := h
  exact h.bel
/-- Another lexer, in a block below, has been turned. -/
theorem PIs.other (h : PIs pb w0 w src mk s pe) (hlb : lb < pb) (k : Lexed lb w w') : PIs pb w' w' src mk s pe := by
  obtain ⟨v, h⟩ := h
  have hb : w'.heap[pb]? = w.heap[pb]? := k.block pb h.lt (by omega)
  exact ⟨v, h.lex.of_block hb, (World.cell?_of_block (w := w) (a := ⟨pb, 4, none⟩) hb).trans h.c4, (World.cell?_of_block (w := w) (a := ⟨pb, 5, none⟩) hb).trans h.c5, (World.cell?_of_block (w := w) (a := ⟨pb, 6, none⟩) hb).trans h.c6, (World.cell?_of_block (w := w) (a := ⟨pb, 7, none⟩) hb).trans h.c7,
    fun o => (World.frozen?_of_block (w := w) (a := ⟨pb, o, none⟩) hb).trans (h.fr o), own_keep h.own fun g hg => k.block g (h.rowLt g hg).2 (by have := (h.rowLt g hg).1; omega), Below.refl _ _⟩
end

/-- A token lies in block N. -/
def TokIn (N : Nat) (t : Tok) (w : World) : Prop := w.heap[N]? = some (.cells #[.int .i64 t.kind, .int .i64 t.pos, .string t.text, .string t.val, .int .i64 t.n] 35 (0, 0))
theorem TokIn.cells {N : Nat} {t : Tok} {w : World} (h : TokIn N t w) : w.cell? ⟨N, 0, none⟩ = some (.int .i64 t.kind) ∧ w.cell? ⟨N, 1, none⟩ = some (.int .i64 t.pos) ∧ w.cell? ⟨N, 2, none⟩ = some (.string t.text) ∧ w.cell? ⟨N, 3, none⟩ = some (.string t.val) ∧ w.cell? ⟨N, 4, none⟩ = some (.int .i64 t.n) := by
  unfold TokIn at h
  simp [World.cell?, h]
theorem TokIn.keep {N : Nat} {t : Tok} {w w' : World} {B : Nat} (h : TokIn N t w) (k : Below B w w') (hN : N < B) : TokIn N t w' := (k.block N hN).trans h
theorem TokIn.new (t : Tok) (w : World) : TokIn w.heap.size t (w.alloc (.cells #[.int .i64 t.kind, .int .i64 t.pos, .string t.text, .string t.val, .int .i64 t.n] 35)) := by
  unfold TokIn
  show (w.heap.push _)[w.heap.size]? = _
  simp

/-- What the law's loop keeps. -/
structure LoopW (w wr : World) (src : ByteArray) (mk : Bool) (lb pb : Nat) (p m : Nat) (s : PSt) (pe : Nat) : Prop where
  lex : LexAt lb wr src p mk m
  par : PIs pb wr wr src mk s pe
  eof : TokIn w.heap.size eofT wr
  bel : Below w.heap.size w wr

theorem LoopW.below {w wr w' : World} {src : ByteArray} {mk : Bool} {lb pb p m : Nat} {s : PSt} {pe : Nat} (h : LoopW w wr src mk lb pb p m s pe) (hb : w.heap.size < wr.heap.size) (k : Below wr.heap.size wr w') : LoopW w w' src mk lb pb p m s pe :=
  ⟨h.lex.of_below k h.lex.lt, h.par.below k, h.eof.keep k hb, h.bel.trans (k.mono (Nat.le_of_lt hb))⟩
theorem LoopW.alloc {w wr : World} {src : ByteArray} {mk : Bool} {lb pb p m : Nat} {s : PSt} {pe : Nat} (h : LoopW w wr src mk lb pb p m s pe) (hb : w.heap.size < wr.heap.size) (o : Obj) : LoopW w (wr.alloc o) src mk lb pb p m s pe :=
  h.below hb ((Below.refl _ _).alloc (Nat.le_refl _) o)
theorem LoopW.shown {w wr : World} {src : ByteArray} {mk : Bool} {lb pb p m : Nat} {s : PSt} {pe : Nat} (h : LoopW w wr src mk lb pb p m s pe) (hl : s.ts.length ≤ 40) (t : Tok) (ht : s.ts[s.nx]? = some t) :
    Calls Try.prog 18 #[.pointer (some ⟨pb, 0, none⟩)] wr fun e w' => e = .returned (.tuple #[t.v, .bool true]) ∧ Below wr.heap.size wr w' := by
  obtain ⟨v, hv⟩ := h.par
  exact shown_any pb _ wr src mk _ _ v s.ts s.nx s.en pe hv hl t ht
theorem LoopW.state {w wr : World} {src : ByteArray} {mk : Bool} {lb pb p m : Nat} {s : PSt} {pe : Nat} (h : LoopW w wr src mk lb pb p m s pe) :
    Calls Try.prog 20 #[.pointer (some ⟨pb, 0, none⟩)] wr fun e w' => e = .returned (.tuple #[.int .i64 s.nx, .int .i64 s.ts.length, .int .i64 pe]) ∧ ∃ n, w' = wr.drewN n := by
  obtain ⟨v, hv⟩ := h.par
  exact parserState_any pb _ wr src mk _ _ v s.ts s.nx s.en pe hv
theorem LoopW.drewN {w wr : World} {src : ByteArray} {mk : Bool} {lb pb p m : Nat} {s : PSt} {pe : Nat} (h : LoopW w wr src mk lb pb p m s pe) (n : Nat) : LoopW w (wr.drewN n) src mk lb pb p m s pe := by
  obtain ⟨v, hv⟩ := h.par
  exact ⟨h.lex.drewN n, PIs.rebase ⟨v, hv.drewN n⟩, h.eof, ⟨h.bel.os, h.bel.tape, h.bel.output, h.bel.size, h.bel.block⟩⟩

theorem hash_ne (k : ByteArray) : (k.toList == (k ++ ⟨#[35]⟩ : ByteArray).toList) = false := by
  rw [beq_eq_false_iff_ne, Lib.toList_data, Lib.toList_data]
  intro h
  have := congrArg List.length h
  simp at this

theorem walk_big (src : ByteArray) (mk : Bool) (w : World) (hs : src.size ≤ maxLen) (hbig : ¬ src.size ≤ 1048576) :
    Calls Try.prog 6 #[.string src, .bool mk] w fun e w' => e = .returned (.bool true) ∧ Below w.heap.size w w' := by
  go_enter Try.func6, Try.ntmps6
  go_wp2_with fail
  have hc := bytes_any src mk w hs
  rw [decide_eq_false hbig] at hc
  refine hc.mono ?_
  rintro e w' ⟨rfl, rfl⟩
  go_wp2
  go_ret
  exact ⟨rfl, Below.refl _ _⟩

theorem walk_small (src : ByteArray) (mk : Bool) (hnext : NextOk src mk) (hra : RAOk src mk) (w : World) (hsm : src.size ≤ 1048576) :
    Calls Try.prog 6 #[.string src, .bool mk] w fun e w' => e = .returned (.bool true) ∧ Below w.heap.size w w' := by
  have hc : Hid (∀ w, Calls Try.prog 21 #[.string src, .bool mk] w fun e w' => e = .returned (.bool true) ∧ w = w') := fun w => by
    have := bytes_any src mk w (by unfold maxLen; omega)
    rwa [decide_eq_true hsm] at this
  have HN : Hid (NextOk src mk) := hnext
  have HRA : Hid (RAOk src mk) := hra
  clear hnext hra
  go_enter Try.func6, Try.ntmps6
  go_wp2_with fail
  refine (hc.out _).mono ?_
  rintro e w' ⟨rfl, rfl⟩
  clear hc
  go_wp2_with fail
  refine (newLexer_any src mk _).mono ?_
  rintro e w1 ⟨rfl, hx1, hb1, hs1⟩
  have hE1 : Hid (TokIn w.heap.size eofT w1) := TokIn.keep (TokIn.new eofT w) hb1 (by simp)
  have hB1 : Hid (Below w.heap.size w w1) := ((Below.refl _ _).alloc (Nat.le_refl _) _).trans (hb1.mono (by simp))
  have HX1 : Hid (LexAt (w.heap.size + 1) w1 src 0 mk 0) := by
    have h := hx1
    simp only [World.size_alloc] at h
    exact h
  have hs1' : w.heap.size + 1 < w1.heap.size := by simpa using hs1
  clear hx1 hb1 hs1
  go_wp2_with fail
  refine (newParser_any src mk HRA.out _).mono ?_
  rintro e w2 ⟨rfl, hp2⟩
  have HW : Hid (LoopW w w2 src mk (w.heap.size + 1) w1.heap.size 0 0 (startS src mk) 0) := ⟨HX1.out.of_below hp2.bel hs1', hp2.rebase, hE1.out.keep hp2.bel (by omega), hB1.out.trans (hp2.bel.mono (by omega))⟩
  have HREL : Hid (Rel src mk (startS src mk) 0 0) := start_rel src mk
  generalize hpb : w1.heap.size = pb at HW hs1' ⊢
  clear hE1 hB1 HX1 hp2 hpb
  go_wp2
  go_loopg [8, 9] (src.size + 2) (fun g v8 v9 wr => ∃ (i p m pe : Nat) (s : PSt), v8 = .int .i64 pe ∧ v9 = .int .i64 i ∧ i ≤ p ∧ p ≤ src.size ∧ m ≤ p ∧ g + i = src.size + 2 ∧ Hid (Rel src mk s p m) ∧ Hid (LoopW w wr src mk (w.heap.size + 1) pb p m s pe))
  case atStart => exact ⟨0, 0, 0, 0, startS src mk, rfl, rfl, by omega, by omega, by omega, by omega, HREL, HW⟩
  case round =>
    clear HW HREL
    obtain ⟨i, p, m, pe, s, rfl, rfl, hip, hp, hm, hg, HREL, HW⟩ := hrel
    obtain ⟨g1, rfl⟩ : ∃ g1, gk = g1 + 1 := ⟨gk - 1, by omega⟩
    obtain ⟨⟨t, p', m'⟩, hN⟩ : ∃ N, nextF src mk p m = N := ⟨_, rfl⟩
    have hbd := nextF_bd src mk p m hp hm
    rw [hN] at hbd
    simp only at hbd
    obtain ⟨hbt, hbp, hb1, hb2, hb3, hb4⟩ := hbd
    have HC : Hid (∀ wr, LexAt (w.heap.size + 1) wr src p mk m → Calls Try.prog 15 #[.pointer (some ⟨w.heap.size + 1, 0, none⟩)] wr fun e w' => e = .returned t.tup ∧ LexAt (w.heap.size + 1) w' src p' mk m' ∧ Lexed (w.heap.size + 1) wr w') := fun wr hx => lexNext_of src mk HN.out _ p m wr hp (by omega) hx t p' m' hN
    have HNF : Hid (nextF src mk p m = (t, p', m')) := hN
    clear hN
    have hile : (i : Int) ≤ (src.size : Int) + 1 := by omega
    obtain ⟨k1, k2, k3, k4, k5⟩ := t
    have hkt := hbt.text
    have hkv := hbt.val
    simp only at hkt hkv hbp hb4
    go_wp2_with fail
    refine (HC.out _ HW.out.lex).mono ?_
    rintro e w3 ⟨rfl, hx3, hl3⟩
    have hlt3 : w.heap.size + 1 < w3.heap.size := hx3.lt
    have HW3 : Hid (LoopW w w3 src mk (w.heap.size + 1) pb p' m' s pe) := ⟨hx3, HW.out.par.other hs1' hl3, (hl3.block _ (by have := HW.out.lex.lt; omega) (by omega)).trans HW.out.eof, HW.out.bel.trans ⟨hl3.os, hl3.tape, hl3.output, hl3.size, fun k hk => hl3.block k (by have := HW.out.lex.lt; omega) (by omega)⟩⟩
    clear hx3 hl3 HW HC
    unfold Tok.tup
    go_wp2_with fail
    cases he : endsB k1 with
    | true =>
      have hc16 := endsB1_any k1
      rw [he] at hc16
      refine (hc16 _).mono ?_
      rintro e w4 ⟨rfl, rfl⟩
      clear hc16
      have hbl : Below w3.heap.size w3 (w3.alloc (.cells #[.int .i64 k1, .int .i64 k2, .string k3, .string k4, .int .i64 k5] 35)) := (Below.refl _ _).alloc (Nat.le_refl _) _
      have hpar := HW3.out.par.below hbl
      have heof := HREL.out.end (by rw [HNF.out]; exact he)
      go_wp2_with fail
      obtain ⟨v, hpv⟩ := hpar
      refine (shown_any pb _ _ src mk _ _ v s.ts s.nx s.en pe hpv HREL.out.l40 eofT heof).mono ?_
      rintro e w4 ⟨rfl, hb4'⟩
      have hb34 : Below w3.heap.size w3 w4 := hbl.trans (hb4'.mono (by simp))
      have hpv4 := hpv.below hb4'
      have hE4 : TokIn w.heap.size eofT w4 := HW3.out.eof.keep hb34 (by omega)
      have hB4 : Below w.heap.size w w4 := HW3.out.bel.trans (hb34.mono (by omega))
      have hsz4 : w.heap.size < w4.heap.size := by have := hb34.size; omega
      have HPV : Hid (ParW pb _ w4 src mk s.pos s.md v s.ts s.nx s.en pe) := hpv4
      have HE4 : Hid (TokIn w.heap.size eofT w4) := hE4
      have HB4 : Hid (Below w.heap.size w w4) := hB4
      clear hpv hpv4 hE4 hB4 hb34 hb4' hbl heof HW3
      unfold Tok.v
      go_wp2_with fail
      refine (parserState_any pb _ _ src mk _ _ v s.ts s.nx s.en pe (HPV.out.alloc _)).mono ?_
      rintro e w5 ⟨rfl, n, hw5⟩
      obtain ⟨l0, l1, l2, l3, l4⟩ : TokIn w4.heap.size eofT w5 ∧ True ∧ True ∧ True ∧ True := by rw [hw5]; exact ⟨TokIn.new eofT w4, trivial, trivial, trivial, trivial⟩
      have hE5 : TokIn w.heap.size eofT w5 := by rw [hw5]; exact (show TokIn w.heap.size eofT (w4.alloc _) from HE4.out.keep (B := w4.heap.size) ((Below.refl _ _).alloc (Nat.le_refl _) _) hsz4)
      have HB5 : Hid (Below w.heap.size w w5) := by rw [hw5]; exact ⟨HB4.out.os, HB4.out.tape, HB4.out.output, by have := HB4.out.size; simp; omega, fun k hk => (Below.heap_alloc _ _ _ (by omega)).trans (HB4.out.block k hk)⟩
      clear hw5 l1 l2 l3 l4
      obtain ⟨x0, x1, x2, x3, x4⟩ := l0.cells
      obtain ⟨y0, y1, y2, y3, y4⟩ := hE5.cells
      unfold eofT bs at x0 x1 x2 x3 x4 y0 y1 y2 y3 y4
      simp only at x0 x1 x2 x3 x4 y0 y1 y2 y3 y4
      clear l0 hE5
      go_wp2
      go_ret
      exact ⟨ret_bool (by simp), HB5.out⟩
    | false =>
      obtain ⟨hsh, hnl, hen, hrel'⟩ := HREL.out.step HNF.out he
      have HSH : Hid (s.ts[s.nx]? = some ⟨k1, k2, k3, k4, k5⟩) := hsh
      have HEN : Hid (s.ts.length ≤ s.nx + 1 + 4 → s.en = false) := hen
      have HREL' : Hid (Rel src mk (stepS src mk s) p' m') := hrel'
      have hpp : p < p' := hb4 (by intro h0; rw [h0] at he; cases he)
      clear hsh hen hrel' hb4
      have hc16 := endsB1_any k1
      rw [he] at hc16
      refine (hc16 _).mono ?_
      rintro e w4 ⟨rfl, rfl⟩
      clear hc16
      have HW4 : Hid (LoopW w (w3.alloc (.cells #[.int .i64 k1, .int .i64 k2, .string k3, .string k4, .int .i64 k5] 35)) src mk (w.heap.size + 1) pb p' m' s pe) := HW3.out.alloc (by omega) _
      have HT4 : Hid (TokIn w3.heap.size ⟨k1, k2, k3, k4, k5⟩ (w3.alloc (.cells #[.int .i64 k1, .int .i64 k2, .string k3, .string k4, .int .i64 k5] 35))) := TokIn.new ⟨k1, k2, k3, k4, k5⟩ w3
      clear HW3
      go_wp2_with fail
      refine (HW4.out.shown HREL.out.l40 _ HSH.out).mono ?_
      rintro e w5 ⟨rfl, hb5⟩
      have hz5 : w3.heap.size < w5.heap.size := by have := hb5.size; simp at this; omega
      have HW5 : Hid (LoopW w w5 src mk (w.heap.size + 1) pb p' m' s pe) := HW4.out.below (by simp; omega) hb5
      have HT5 : Hid (TokIn w3.heap.size ⟨k1, k2, k3, k4, k5⟩ w5) := HT4.out.keep hb5 (by simp)
      have HW6 : Hid (∀ o, LoopW w (w5.alloc o) src mk (w.heap.size + 1) pb p' m' s pe) := fun o => HW5.out.alloc (by omega) o
      have HT6 : Hid (∀ o, TokIn w3.heap.size ⟨k1, k2, k3, k4, k5⟩ (w5.alloc o)) := fun o => HT5.out.keep ((Below.refl _ _).alloc (Nat.le_refl _) o) hz5
      clear hb5 HW4 HT4
      have tt := fun o => (HT6.out o).cells
      have a0 := fun o => (tt o).1
      have a1 := fun o => (tt o).2.1
      have a2 := fun o => (tt o).2.2.1
      have a3 := fun o => (tt o).2.2.2.1
      have a4 := fun o => (tt o).2.2.2.2
      clear tt
      simp only at a0 a1 a2 a3 a4
      unfold Tok.v
      go_wp2_with fail
      refine (accept_no pb _ _ src mk s pe (HW6.out _).par HREL.out.l40 _ HSH.out _ (hash_ne k4)).mono ?_
      rintro e w7 ⟨rfl, hb7⟩
      have hz7 : w3.heap.size < w7.heap.size := by have := hb7.size; simp at this; omega
      have HW7 : Hid (LoopW w w7 src mk (w.heap.size + 1) pb p' m' s pe) := (HW6.out _).below (by simp; omega) hb7
      have HT7 : Hid (TokIn w3.heap.size ⟨k1, k2, k3, k4, k5⟩ w7) := (HT6.out _).keep hb7 (by simp; omega)
      clear hb7 HW5 HT5 HW6 HT6 a0 a1 a2 a3 a4
      go_wp2_with fail
      refine (HW7.out.shown HREL.out.l40 _ HSH.out).mono ?_
      rintro e w8 ⟨rfl, hb8⟩
      have hz8 : w3.heap.size < w8.heap.size := by have := hb8.size; omega
      have HW8 : Hid (LoopW w w8 src mk (w.heap.size + 1) pb p' m' s pe) := HW7.out.below (by omega) hb8
      have HT8 : Hid (TokIn w3.heap.size ⟨k1, k2, k3, k4, k5⟩ w8) := HT7.out.keep hb8 hz7
      have HW9 : Hid (∀ o, LoopW w (w8.alloc o) src mk (w.heap.size + 1) pb p' m' s pe) := fun o => HW8.out.alloc (by omega) o
      have HT9 : Hid (∀ o, TokIn w3.heap.size ⟨k1, k2, k3, k4, k5⟩ (w8.alloc o)) := fun o => HT8.out.keep ((Below.refl _ _).alloc (Nat.le_refl _) o) hz8
      clear hb8 HW7 HT7
      have tt := fun o => (HT9.out o).cells
      have a0 := fun o => (tt o).1
      have a1 := fun o => (tt o).2.1
      have a2 := fun o => (tt o).2.2.1
      have a3 := fun o => (tt o).2.2.2.1
      have a4 := fun o => (tt o).2.2.2.2
      clear tt
      simp only at a0 a1 a2 a3 a4
      unfold Tok.v
      go_wp2_with fail
      refine (accept_yes src mk HRA.out pb _ _ s pe (HW9.out _).par HREL.out.l40 hnl HREL.out.pos HREL.out.md HEN.out _ HSH.out (by simp only; omega)).mono ?_
      rintro e w10 ⟨rfl, hp10⟩
      have HW10 : Hid (LoopW w w10 src mk (w.heap.size + 1) pb p' m' (stepS src mk s) (k2 + k3.size)) := ⟨(HW9.out _).lex.of_below hp10.bel hs1', hp10.rebase, (HW9.out _).eof.keep hp10.bel (by omega), (HW9.out _).bel.trans (hp10.bel.mono (by omega))⟩
      clear hp10 HW8 HT8 HW9 HT9 a0 a1 a2 a3 a4
      go_wp2_with fail
      refine HW10.out.state.mono ?_
      rintro e w11 ⟨rfl, n, hw11⟩
      have HW11 : Hid (LoopW w w11 src mk (w.heap.size + 1) pb p' m' (stepS src mk s) (k2 + k3.size)) := hw11 ▸ HW10.out.drewN n
      clear hw11 HW10
      go_wp2
      go_roundg g1
      case rel => exact ⟨i + 1, p', m', k2 + k3.size, stepS src mk s, by go_num, by go_num, by omega, by omega, by omega, by omega, HREL', HW11⟩
      case measure => omega

end Go.Proofs.Qxb6604722a

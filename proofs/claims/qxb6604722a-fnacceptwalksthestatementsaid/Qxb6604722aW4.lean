import Derived.Test.Qxb6604722aW3
import Derived.Test.Qxb6604722aLex3
namespace Go.Proofs.Qxb6604722a
open Go.RowKit Lx
set_option maxHeartbeats 2000000
set_option maxRecDepth 100000
set_option linter.unusedSimpArgs false
set_option linter.unusedVariables false

/-- A token's value. -/
def Lx.Tok.v (t : Tok) : Value := .agg #[.int .i64 t.kind, .int .i64 t.pos, .string t.text, .string t.val, .int .i64 t.n]
/-- A token's block. -/
def TokBlk (N : Nat) (w : World) : Prop := w.heap[N]? = some (.cells #[.int .i64 0, .int .i64 0, .string ⟨#[]⟩, .string ⟨#[]⟩, .int .i64 0] 50 (0, 0))

theorem TokBlk.cells {N : Nat} {w : World} (h : TokBlk N w) : w.cell? ⟨N, 0, none⟩ = some (.int .i64 0) ∧ w.cell? ⟨N, 1, none⟩ = some (.int .i64 0) ∧ w.cell? ⟨N, 2, none⟩ = some (.string ⟨#[]⟩) ∧ w.cell? ⟨N, 3, none⟩ = some (.string ⟨#[]⟩) ∧ w.cell? ⟨N, 4, none⟩ = some (.int .i64 0) := by
  unfold TokBlk at h
  simp [World.cell?, h]
theorem TokBlk.free {N : Nat} {w : World} (h : TokBlk N w) (o : Nat) : w.frozen? ⟨N, o, none⟩ = false := by
  unfold TokBlk at h
  simp [World.frozen?, h]
theorem TokBlk.alloc (w : World) : TokBlk w.heap.size (w.alloc (.cells #[.int .i64 0, .int .i64 0, .string ⟨#[]⟩, .string ⟨#[]⟩, .int .i64 0] 50)) := by
  unfold TokBlk
  show (w.heap.push _)[w.heap.size]? = _
  simp
theorem TokBlk.lexed {N b : Nat} {w w' : World} (h : TokBlk N w) (hn : N ≠ b) (hN : N < w.heap.size) (k : Lexed b w w') : TokBlk N w' := (k.block N hN hn).trans h

/-- Five stores into a token's block. -/
def put5 (w : World) (N : Nat) (v0 v1 v2 v3 v4 : Value) : World :=
  ((((w.setCell ⟨N, 0, none⟩ v0).setCell ⟨N, 1, none⟩ v1).setCell ⟨N, 2, none⟩ v2).setCell ⟨N, 3, none⟩ v3).setCell ⟨N, 4, none⟩ v4
theorem put5_cells {N : Nat} {w : World} (h : TokBlk N w) (v0 v1 v2 v3 v4 : Value) :
    (((((w.setCell ⟨N, 0, none⟩ v0).setCell ⟨N, 1, none⟩ v1).setCell ⟨N, 2, none⟩ v2).setCell ⟨N, 3, none⟩ v3).setCell ⟨N, 4, none⟩ v4).cell? ⟨N, 0, none⟩ = some v0 ∧
    (((((w.setCell ⟨N, 0, none⟩ v0).setCell ⟨N, 1, none⟩ v1).setCell ⟨N, 2, none⟩ v2).setCell ⟨N, 3, none⟩ v3).setCell ⟨N, 4, none⟩ v4).cell? ⟨N, 1, none⟩ = some v1 ∧
    (((((w.setCell ⟨N, 0, none⟩ v0).setCell ⟨N, 1, none⟩ v1).setCell ⟨N, 2, none⟩ v2).setCell ⟨N, 3, none⟩ v3).setCell ⟨N, 4, none⟩ v4).cell? ⟨N, 2, none⟩ = some v2 ∧
    (((((w.setCell ⟨N, 0, none⟩ v0).setCell ⟨N, 1, none⟩ v1).setCell ⟨N, 2, none⟩ v2).setCell ⟨N, 3, none⟩ v3).setCell ⟨N, 4, none⟩ v4).cell? ⟨N, 3, none⟩ = some v3 ∧
    (((((w.setCell ⟨N, 0, none⟩ v0).setCell ⟨N, 1, none⟩ v1).setCell ⟨N, 2, none⟩ v2).setCell ⟨N, 3, none⟩ v3).setCell ⟨N, 4, none⟩ v4).cell? ⟨N, 4, none⟩ = some v4 := by
  have o : ∀ (w : World) (i j : Nat) (v : Value), i ≠ j → (w.setCell ⟨N, i, none⟩ v).cell? ⟨N, j, none⟩ = w.cell? ⟨N, j, none⟩ := fun w i j v hij => World.cell?_setCell_other _ _ _ _ (by intro e; cases e; exact hij rfl)
  obtain ⟨t0, t1, t2, t3, t4⟩ := h.cells
  refine ⟨?_, ?_, ?_, ?_, ?_⟩
  · rw [o _ 4 0 _ (by decide), o _ 3 0 _ (by decide), o _ 2 0 _ (by decide), o _ 1 0 _ (by decide)]
    exact World.cell?_setCell_same _ _ _ t0
  · rw [o _ 4 1 _ (by decide), o _ 3 1 _ (by decide), o _ 2 1 _ (by decide)]
    exact World.cell?_setCell_same _ _ _ ((o _ 0 1 _ (by decide)).trans t1)
  · rw [o _ 4 2 _ (by decide), o _ 3 2 _ (by decide)]
    exact World.cell?_setCell_same _ _ _ ((o _ 1 2 _ (by decide)).trans ((o _ 0 2 _ (by decide)).trans t2))
  · rw [o _ 4 3 _ (by decide)]
    exact World.cell?_setCell_same _ _ _ ((o _ 2 3 _ (by decide)).trans ((o _ 1 3 _ (by decide)).trans ((o _ 0 3 _ (by decide)).trans t3)))
  · exact World.cell?_setCell_same _ _ _ ((o _ 3 4 _ (by decide)).trans ((o _ 2 4 _ (by decide)).trans ((o _ 1 4 _ (by decide)).trans ((o _ 0 4 _ (by decide)).trans t4))))
theorem put5_block (w : World) (N b : Nat) (v0 v1 v2 v3 v4 : Value) (h : b ≠ N) :
    (((((w.setCell ⟨N, 0, none⟩ v0).setCell ⟨N, 1, none⟩ v1).setCell ⟨N, 2, none⟩ v2).setCell ⟨N, 3, none⟩ v3).setCell ⟨N, 4, none⟩ v4).heap[b]? = w.heap[b]? := by
  rw [Below.heap_setCell _ _ _ _ h, Below.heap_setCell _ _ _ _ h, Below.heap_setCell _ _ _ _ h, Below.heap_setCell _ _ _ _ h, Below.heap_setCell _ _ _ _ h]
theorem Lexed.put5 {b N : Nat} {a w : World} (h : Lexed b a w) (hb : b < a.heap.size) (hN : a.heap.size ≤ N) (v0 v1 v2 v3 v4 : Value) :
    Lexed b a (((((w.setCell ⟨N, 0, none⟩ v0).setCell ⟨N, 1, none⟩ v1).setCell ⟨N, 2, none⟩ v2).setCell ⟨N, 3, none⟩ v3).setCell ⟨N, 4, none⟩ v4) :=
  ((((h.setNew hb hN v0).setNew hb hN v1).setNew hb hN v2).setNew hb hN v3).setNew hb hN v4

def skipRet : Option Nat → Value
  | some st => .tuple #[Tok.v { kind := 11, pos := st, text := bs [47, 42], val := msgCom, n := 0 }, .bool false]
  | none => .tuple #[Tok.v { kind := 0, pos := 0, text := bs [], val := bs [], n := 0 }, .bool true]

theorem skipBlanks_any (b : Nat) (src : ByteArray) (pos : Nat) (mk : Bool) (md : Nat) (w : World) (hs : src.size ≤ maxLen) (hp : pos ≤ src.size) (hx : LexAt b w src pos mk md) :
    Calls Try.prog 31 #[.pointer (some ⟨b, 0, none⟩)] w fun e w' =>
      e = .returned (skipRet (skipF src src.size pos).1) ∧
      LexAt b w' src (skipF src src.size pos).2 mk md ∧ Lexed b w w' := by
  have hs0 := hs
  unfold maxLen at hs
  have hlb := hx.lt
  obtain ⟨T, hT⟩ : ∃ T, T = skipF src src.size pos := ⟨_, rfl⟩
  rw [← hT]
  have HT : Hid (T = skipF src src.size pos) := hT
  clear hT
  have hB : ∀ (k : Nat) (h : k < src.size), ((src[k]'h).toNat : Int) = bAt src k := fun k h => (bAt_eq src k h).symm
  go_enter Try.func31, Try.ntmps31
  go_wp2
  go_loopg [4, 5, 6] src.size (fun g v4 v5 v6 wr => ∃ (p : Nat), p ≤ src.size ∧ src.size ≤ g + p ∧ Hid (skipF src g p = T) ∧ Hid (LexAt b wr src p mk md) ∧ Hid (Lexed b w wr) ∧ Hid (TokBlk w.heap.size wr) ∧ w.heap.size < wr.heap.size)
  case atStart => exact ⟨pos, hp, by omega, HT.out.symm, hx.of_block (Below.heap_alloc _ _ _ hlb), (Lexed.refl _ _).alloc hlb _, TokBlk.alloc w, by simp⟩
  case round =>
    obtain ⟨p, hp', hn, hF, HX, HL, HB, hsz⟩ := hrel
    have c0 := HX.out.c0
    have c1 := HX.out.c1
    have f1 := HX.out.f1
    obtain ⟨t0, t1, t2, t3, t4⟩ := HB.out.cells
    have tf := HB.out.free
    by_cases hlt : p < src.size
    · obtain ⟨m, rfl⟩ : ∃ m, gk = m + 1 := ⟨gk - 1, by omega⟩
      cases h1 : blkB (bAt src p) with
      | true =>
        have h1' : bAt src p = 32 ∨ bAt src p = 9 ∨ bAt src p = 10 ∨ bAt src p = 13 ∨ bAt src p = 12 ∨ bAt src p = 11 := by
          simpa [blkB, or_assoc] using h1
        have HF : Hid (skipF src m (p + 1) = T) := (skipF_blank src m p hlt h1).symm.trans hF.out
        clear h1 hF
        rcases h1' with h | h | h | h | h | h
        all_goals
          go_wp2
          go_quiet (fail)
          go_wp2
          go_quiet (fail)
          go_wp2
          go_roundg m
          case rel => exact ⟨p + 1, by omega, by omega, HF, (HX.out.drewN _).set1 (p + 1) _ (by omega), (HL.out.drewN _).set 1 (.inl rfl) _, HB.out.lexed (by omega) hsz (((Lexed.refl _ _).drewN _).set 1 (.inl rfl) _), by simpa [World.setCell] using hsz⟩
          case measure => omega
      | false =>
        have hne : (bAt src p == 32) = false ∧ (bAt src p == 9) = false ∧ (bAt src p == 10) = false ∧ (bAt src p == 13) = false ∧ (bAt src p == 12) = false ∧ (bAt src p == 11) = false := by
          simpa [blkB, and_assoc] using h1
        obtain ⟨n1, n2, n3, n4, n5, n6⟩ := hne
        cases h2 : pre src p [45, 45] with
        | true =>
          have hbd := idx_bd src p 10
          by_cases h3 : idx src p 10 < 0
          · have HF : Hid (skipF src m src.size = T) := (skipF_line0 src m p hlt h1 h2 h3).symm.trans hF.out
            clear h1 hF
            go_wp2
            go_quiet (fail)
            go_wp2
            go_quiet (fail)
            go_wp2
            go_quiet ((go_at_call 38; exact quiet_same_at (hasPrefix_is _ _ _ true _ h2)))
            go_wp2
            go_quiet ((go_at_call 27; exact quiet_same_at (indexByte_at _ _ _ _)))
            go_wp2
            go_roundg m
            case rel => exact ⟨src.size, by omega, by omega, HF, (HX.out.drewN _).set1 src.size _ (by omega), (HL.out.drewN _).set 1 (.inl rfl) _, HB.out.lexed (by omega) hsz (((Lexed.refl _ _).drewN _).set 1 (.inl rfl) _), by simpa [World.setCell] using hsz⟩
            case measure => omega
          · have HF : Hid (skipF src m (p + (idx src p 10).toNat + 1) = T) := (skipF_line1 src m p hlt h1 h2 h3).symm.trans hF.out
            have hb2 := hbd.2 (by omega)
            clear h1 hF
            go_wp2
            go_quiet (fail)
            go_wp2
            go_quiet (fail)
            go_wp2
            go_quiet ((go_at_call 38; exact quiet_same_at (hasPrefix_is _ _ _ true _ h2)))
            go_wp2
            go_quiet ((go_at_call 27; exact quiet_same_at (indexByte_at _ _ _ _)))
            go_wp2
            go_roundg m
            case rel => exact ⟨p + (idx src p 10).toNat + 1, by omega, by omega, HF, (HX.out.drewN _).set1 (p + (idx src p 10).toNat + 1) _ (by omega), (HL.out.drewN _).set 1 (.inl rfl) _, HB.out.lexed (by omega) hsz (((Lexed.refl _ _).drewN _).set 1 (.inl rfl) _), by simpa [World.setCell] using hsz⟩
            case measure => omega
        | false =>
          cases h3 : pre src p [47, 42] with
          | true =>
            obtain ⟨k, hk⟩ : ∃ k, src.size = k + 1 := ⟨src.size - 1, by omega⟩
            have hg : p < (blockF src src.size 0 p).2 := by rw [hk]; exact blockF_gt src k 0 p hlt h3
            have hb := blockF_bd src src.size 0 p hp'
            clear hk
            have hcall := fun w0 (hx0 : LexAt b w0 src p mk md) => blockComment_any b src p mk md w0 hs0 hp' hx0
            have HC : Hid (∀ w0, LexAt b w0 src p mk md → _) := hcall
            clear hcall
            have HFb := fun (h4 : (blockF src src.size 0 p).1 = true) => (skipF_block src m p hlt h1 h2 h3 h4).symm.trans hF.out
            have HFe := fun (h4 : (blockF src src.size 0 p).1 = false) => (skipF_err src m p hlt h1 h2 h3 h4).symm.trans hF.out
            generalize blockF src src.size 0 p = R at HC HFb HFe hg hb
            obtain ⟨rb, rp⟩ := R
            cases rb with
            | true =>
              have HF : Hid (skipF src m rp = T) := HFb rfl
              clear HFb HFe hF h1
              simp only at hg hb
              go_wp2
              go_quiet (fail)
              go_wp2
              go_quiet (fail)
              go_wp2
              go_quiet ((go_at_call 38; exact quiet_same_at (hasPrefix_is _ _ _ false _ h2)))
              go_wp2
              go_quiet ((go_at_call 38; exact quiet_same_at (hasPrefix_is _ _ _ true _ h3)))
              go_wp2_with fail
              refine (HC.out _ (HX.out.drewN _)).mono ?_
              rintro e w' ⟨rfl, hx', hl'⟩
              go_wp2
              go_roundg m
              case rel => exact ⟨rp, by omega, by omega, HF, hx', (HL.out.drewN _).trans hl', HB.out.lexed (by omega) hsz (((Lexed.refl _ _).drewN _).trans hl'), Nat.lt_of_lt_of_le hsz hl'.size⟩
              case measure => omega
            | false =>
              have HF : Hid ((some p, rp) = T) := HFe rfl
              clear HFb HFe hF h1
              simp only at hg hb
              go_wp2
              go_quiet (fail)
              go_wp2
              go_quiet (fail)
              go_wp2
              go_quiet ((go_at_call 38; exact quiet_same_at (hasPrefix_is _ _ _ false _ h2)))
              go_wp2
              go_quiet ((go_at_call 38; exact quiet_same_at (hasPrefix_is _ _ _ true _ h3)))
              go_wp2_with fail
              refine (HC.out _ (HX.out.drewN _)).mono ?_
              rintro e w' ⟨rfl, hx', hl'⟩
              have HB' := HB.out.lexed (by omega) hsz (((Lexed.refl _ _).drewN _).trans hl')
              clear t0 t1 t2 t3 t4 tf
              obtain ⟨t0, t1, t2, t3, t4⟩ := HB'.cells
              have tf := HB'.free
              go_wp2
              obtain ⟨q0, q1, q2, q3, q4⟩ := put5_cells HB' (.int .i64 11) (.int .i64 p) (.string (bs [47, 42])) (.string msgCom) (.int .i64 0)
              unfold bs msgCom at q0 q1 q2 q3 q4
              refine bodyPost_ret (v := skipRet (some p)) (by simp [results, Try.results31, go_sem, skipRet, Tok.v, bs, msgCom, q0, q1, q2, q3, q4]) rfl ⟨by rw [← HF.out], ?_, ?_⟩
              · rw [← HF.out]
                exact hx'.of_block (put5_block _ _ _ _ _ _ _ _ (by omega))
              · exact ((HL.out.drewN _).trans hl').put5 hlb (Nat.le_refl _) _ _ _ _ _
          | false =>
            have e := (skipF_out src m p hlt h1 h2 h3).symm.trans hF.out
            have HF : Hid ((none, p) = T) := e
            clear e hF h1
            go_wp2
            go_quiet (fail)
            go_wp2
            go_quiet (fail)
            go_wp2
            go_quiet ((go_at_call 38; exact quiet_same_at (hasPrefix_is _ _ _ false _ h2)))
            go_wp2
            go_quiet ((go_at_call 38; exact quiet_same_at (hasPrefix_is _ _ _ false _ h3)))
            go_wp2
            generalize hwq : wr.drewN _ = wq
            obtain ⟨q0, q1, q2, q3, q4⟩ := put5_cells (w := wq) (by rw [← hwq]; exact HB.out) (.int .i64 0) (.int .i64 0) (.string ⟨#[]⟩) (.string ⟨#[]⟩) (.int .i64 0)
            refine bodyPost_ret (v := skipRet none) (by simp [results, Try.results31, go_sem, skipRet, Tok.v, bs, q0, q1, q2, q3, q4]) rfl ⟨by rw [← HF.out], ?_, ?_⟩
            · rw [← HF.out]
              exact (show LexAt b wq src p mk md from hwq ▸ HX.out.drewN _).of_block (put5_block _ _ _ _ _ _ _ _ (by omega))
            · exact (show Lexed b w wq from hwq ▸ HL.out.drewN _).put5 hlb (Nat.le_refl _) _ _ _ _ _
    · have e := (skipF_end src gk p hlt).symm.trans hF.out
      have HF : Hid ((none, p) = T) := e
      clear e
      go_wp2
      go_quiet (fail)
      go_wp2
      obtain ⟨q0, q1, q2, q3, q4⟩ := put5_cells (w := wr.drewN nq) (show TokBlk _ (wr.drewN nq) from HB.out) (.int .i64 0) (.int .i64 0) (.string ⟨#[]⟩) (.string ⟨#[]⟩) (.int .i64 0)
      refine bodyPost_ret (v := skipRet none) (by simp [results, Try.results31, go_sem, skipRet, Tok.v, bs, q0, q1, q2, q3, q4]) rfl ⟨by rw [← HF.out], ?_, ?_⟩
      · rw [← HF.out]
        exact (HX.out.drewN _).of_block (put5_block _ _ _ _ _ _ _ _ (by omega))
      · exact (HL.out.drewN _).put5 hlb (Nat.le_refl _) _ _ _ _ _

end Go.Proofs.Qxb6604722a

import Derived.Test.Qxb6604722aW8
namespace Go.Proofs.Qxb6604722a
open Go.RowKit Lx
set_option maxHeartbeats 4000000
set_option maxRecDepth 100000
set_option linter.unusedSimpArgs false
set_option linter.unusedVariables false

theorem read_num (b : Nat) (src : ByteArray) (pos : Nat) (mk : Bool) (md : Nat) (w : World) (hs : src.size ≤ 1048576) (hp : pos < src.size) (hw : wstB (bAt src pos) = false) (hn : numB src pos = true) (hx : LexAt b w src pos mk md) :
    Calls Try.prog 32 #[.pointer (some ⟨b, 0, none⟩)] w (RPost b w src mk (readF src mk pos md)) := by
  have hR : readF src mk pos md = ((numTok src pos).1, (numTok src pos).2, md) := by
    rw [readF, if_neg (by omega), if_neg (by simp [hw]), if_pos hn]
  rw [hR]
  clear hR
  have hlb := hx.lt
  have hB : ∀ (k : Nat) (h : k < src.size), ((src[k]'h).toNat : Int) = bAt src k := fun k h => (bAt_eq src k h).symm
  have hc := bAt_bd src pos
  have hc2 := bAt_bd src (pos + 1)
  have HS : Hid (TokW b w (w.alloc tok0) src pos mk md) := TokW.start hx
  have c0 := fun o => (hx.alloc o).c0
  have c1 := fun o => (hx.alloc o).c1
  have hcall : Hid (∀ wx, LexAt b wx src pos mk md → Calls Try.prog 44 #[.pointer (some ⟨b, 0, none⟩)] wx (RPost b wx src mk ((numTok src pos).1, (numTok src pos).2, md))) := fun wx hx => number_any b src pos mk md wx hs (by omega) hx
  obtain ⟨NT, hNT⟩ : ∃ NT, numTok src pos = NT := ⟨_, rfl⟩
  rw [hNT] at hcall ⊢
  clear hNT
  obtain ⟨⟨k1, k2, k3, k4, k5⟩, np⟩ := NT
  cases hd : digB (bAt src pos) with
  | true =>
    go_enter Try.func32, Try.ntmps32
    go_wp2
    go_quiet (fail)
    have TW : Hid (TokW b w ((w.alloc tok0).drewN nq) src pos mk md) := HS.out.drewN nq
    generalize (w.alloc tok0).drewN nq = w1 at TW ⊢
    clear HS c0 c1
    have c0 := TW.out.lex.c0
    have c1 := TW.out.lex.c1
    have c2 := TW.out.lex.c2
    have c3 := TW.out.lex.c3
    have f1 := TW.out.lex.f1
    have f3 := TW.out.lex.f3
    obtain ⟨t0, t1, t2, t3, t4⟩ := TW.out.tok.cells
    have tf := TW.out.tok.free
    go_wp2_with (first | (go_at_call 40; refine (isWordStart_is _ false _ hc.1 hc.2 hw).mono ?_; rintro e w' ⟨rfl, rfl⟩) | (go_at_call_of 43 (Value.int IntKind.u8 (bAt src pos)); refine (isDigit_is _ true _ hc.1 hc.2 hd).mono ?_; rintro e w' ⟨rfl, rfl⟩))
    refine (hcall.out _ TW.out.lex).mono ?_
    rintro e w2 ⟨rfl, hx2, hl2⟩
    have TW2 : Hid (TokW b w w2 src np mk md) := TW.out.called hlb hx2 hl2
    clear hx2 hl2 TW c0 c1 c2 c3 f1 f3 t0 t1 t2 t3 t4 tf
    obtain ⟨t0, t1, t2, t3, t4⟩ := TW2.out.tok.cells
    have tf := TW2.out.tok.free
    unfold Tok.v
    go_wp2
    exact tok_end (by kernel_rfl) TW2.out hlb ⟨k1, k2, k3, k4, k5⟩ _ rfl _ rfl rfl
  | false =>
    have hn2 : bAt src pos = 46 ∧ pos + 1 < src.size ∧ digB (bAt src (pos + 1)) = true := by
      simpa [numB, hd, and_assoc] using hn
    obtain ⟨h46, hp1, hd2⟩ := hn2
    have h46' : (bAt src pos == 46) = true := by simp [h46]
    clear h46
    go_enter Try.func32, Try.ntmps32
    go_wp2
    go_quiet (fail)
    have TW : Hid (TokW b w ((w.alloc tok0).drewN nq) src pos mk md) := HS.out.drewN nq
    generalize (w.alloc tok0).drewN nq = w1 at TW ⊢
    clear HS c0 c1
    have c0 := TW.out.lex.c0
    have c1 := TW.out.lex.c1
    have c2 := TW.out.lex.c2
    have c3 := TW.out.lex.c3
    have f1 := TW.out.lex.f1
    have f3 := TW.out.lex.f3
    obtain ⟨t0, t1, t2, t3, t4⟩ := TW.out.tok.cells
    have tf := TW.out.tok.free
    go_wp2_with (first | (go_at_call 40; refine (isWordStart_is _ false _ hc.1 hc.2 hw).mono ?_; rintro e w' ⟨rfl, rfl⟩) | (go_at_call_of 43 (Value.int IntKind.u8 (bAt src pos)); refine (isDigit_is _ false _ hc.1 hc.2 hd).mono ?_; rintro e w' ⟨rfl, rfl⟩) | (go_at_call 43; refine (isDigit_is _ true _ hc2.1 hc2.2 hd2).mono ?_; rintro e w' ⟨rfl, rfl⟩))
    refine (hcall.out _ TW.out.lex).mono ?_
    rintro e w2 ⟨rfl, hx2, hl2⟩
    have TW2 : Hid (TokW b w w2 src np mk md) := TW.out.called hlb hx2 hl2
    clear hx2 hl2 TW c0 c1 c2 c3 f1 f3 t0 t1 t2 t3 t4 tf
    obtain ⟨t0, t1, t2, t3, t4⟩ := TW2.out.tok.cells
    have tf := TW2.out.tok.free
    unfold Tok.v
    go_wp2
    exact tok_end (by kernel_rfl) TW2.out hlb ⟨k1, k2, k3, k4, k5⟩ _ rfl _ rfl rfl

end Go.Proofs.Qxb6604722a

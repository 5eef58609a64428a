import Derived.Test.Qxb6604722aW7
namespace Go.Proofs.Qxb6604722a
open Go.RowKit Lx
set_option maxHeartbeats 4000000
set_option maxRecDepth 100000
set_option linter.unusedSimpArgs false
set_option linter.unusedVariables false

theorem isWordStart_is (c : Int) (v : Bool) (w : World) (h0 : 0 ≤ c) (h1 : c ≤ 255) (h : wstB c = v) :
    Calls Try.prog 40 #[.int .u8 c] w fun e w' => e = .returned (.bool v) ∧ w = w' := by
  subst h
  exact (isWordStart_any c w h0 h1).mono fun e w' ⟨he, hw⟩ => ⟨he, hw.symm⟩
theorem isDigit_is (c : Int) (v : Bool) (w : World) (h0 : 0 ≤ c) (h1 : c ≤ 255) (h : digB c = v) :
    Calls Try.prog 43 #[.int .u8 c] w fun e w' => e = .returned (.bool v) ∧ w = w' := by
  subst h
  exact (isDigit_any c w h0 h1).mono fun e w' ⟨he, hw⟩ => ⟨he, hw.symm⟩
theorem isWordPart_is (c : Int) (v : Bool) (w : World) (h0 : 0 ≤ c) (h1 : c ≤ 255) (h : wptB c = v) :
    Calls Try.prog 41 #[.int .u8 c] w fun e w' => e = .returned (.bool v) ∧ w' = w := by
  subst h
  exact isWordPart_any c w h0 h1

theorem read_eof (b : Nat) (src : ByteArray) (pos : Nat) (mk : Bool) (md : Nat) (w : World) (hs : src.size ≤ 1048576) (hp : ¬ pos < src.size) (hp' : pos ≤ src.size) (hx : LexAt b w src pos mk md) :
    Calls Try.prog 32 #[.pointer (some ⟨b, 0, none⟩)] w (RPost b w src mk (readF src mk pos md)) := by
  have hR : readF src mk pos md = ({ kind := 0, pos := 0, text := bs [], val := bs [], n := 0 }, pos, md) := by rw [readF, if_pos hp]
  rw [hR]
  clear hR
  have hlb := hx.lt
  have HS : Hid (TokW b w (w.alloc tok0) src pos mk md) := TokW.start hx
  have c0 := fun o => (hx.alloc o).c0
  have c1 := fun o => (hx.alloc o).c1
  go_enter Try.func32, Try.ntmps32
  go_wp2
  go_quiet (fail)
  have TW : Hid (TokW b w ((w.alloc tok0).drewN nq) src pos mk md) := HS.out.drewN nq
  generalize (w.alloc tok0).drewN nq = w1 at TW ⊢
  clear HS c0 c1
  obtain ⟨t0, t1, t2, t3, t4⟩ := TW.out.tok.cells
  have tf := TW.out.tok.free
  go_wp2
  exact tok_end (by kernel_rfl) TW.out hlb { kind := 0, pos := 0, text := bs [], val := bs [], n := 0 } _ rfl _ rfl rfl

theorem read_word (b : Nat) (src : ByteArray) (pos : Nat) (mk : Bool) (md : Nat) (w : World) (hs : src.size ≤ 1048576) (hp : pos < src.size) (hw : wstB (bAt src pos) = true) (hx : LexAt b w src pos mk md) :
    Calls Try.prog 32 #[.pointer (some ⟨b, 0, none⟩)] w (RPost b w src mk (readF src mk pos md)) := by
  obtain ⟨T, hT⟩ : ∃ T, wordEnd src pos = T := ⟨_, rfl⟩
  have hR : readF src mk pos md = ({ kind := 1, pos := 0, text := src.extract pos T, val := foldB (src.extract pos T), n := 0 }, T, md) := by
    rw [readF, if_neg (by omega), if_pos hw, hT]
  rw [hR]
  have hT1 : pos ≤ T := hT ▸ scan_ge _ _ _ _
  have hT2 : T ≤ src.size := hT ▸ scan_le _ _ _ _ (by omega)
  have HT : Hid (scan wptB src src.size pos = T) := hT
  clear hR hT
  have hlb := hx.lt
  have hB : ∀ (k : Nat) (h : k < src.size), ((src[k]'h).toNat : Int) = bAt src k := fun k h => (bAt_eq src k h).symm
  have hc := bAt_bd src pos
  have HS : Hid (TokW b w (w.alloc tok0) src pos mk md) := TokW.start hx
  have c0 := fun o => (hx.alloc o).c0
  have c1 := fun o => (hx.alloc o).c1
  go_enter Try.func32, Try.ntmps32
  go_wp2
  go_quiet (fail)
  have TW : Hid (TokW b w ((w.alloc tok0).drewN nq) src pos mk md) := HS.out.drewN nq
  generalize (w.alloc tok0).drewN nq = w1 at TW ⊢
  clear HS c0 c1
  have c0 := TW.out.lex.c0
  have c1 := TW.out.lex.c1
  go_wp2_with (go_at_call 40; refine (isWordStart_is _ true _ hc.1 hc.2 hw).mono ?_; rintro e w' ⟨rfl, rfl⟩)
  clear c0 c1
  go_loopg [] src.size (fun g wr => ∃ (p : Nat), p ≤ src.size ∧ pos ≤ p ∧ src.size ≤ g + p ∧ Hid (scan wptB src g p = T) ∧ Hid (TokW b w wr src p mk md))
  case atStart => exact ⟨pos, by omega, by omega, by omega, HT, TW⟩
  case round =>
    clear TW
    obtain ⟨p, hp1, hp2, hn, hF, TW⟩ := hrel
    have c0 := TW.out.lex.c0
    have c1 := TW.out.lex.c1
    have f1 := TW.out.lex.f1
    have hcp := bAt_bd src p
    by_cases hlt : p < src.size
    · cases hq : wptB (bAt src p) with
      | true =>
        obtain ⟨m, rfl⟩ : ∃ m, gk = m + 1 := ⟨gk - 1, by omega⟩
        have HF : Hid (scan wptB src m (p + 1) = T) := (scan_step wptB src m p _ hlt rfl hq).symm.trans hF.out
        go_wp2
        go_quiet ((go_at_call 41; exact Calls.quiet_of_same (isWordPart_is _ true _ hcp.1 hcp.2 hq)))
        go_wp2
        go_roundg m
        case rel => exact ⟨p + 1, by omega, by omega, by omega, HF, (TW.out.drewN _).move hlb (p + 1) _ (by omega)⟩
        case measure => omega
      | false =>
        have hTp : p = T := (scan_stop wptB src gk p _ rfl hq).symm.trans hF.out
        subst hTp
        go_wp2
        go_quiet ((go_at_call 41; exact Calls.quiet_of_same (isWordPart_is _ false _ hcp.1 hcp.2 hq)))
        go_wp2
        have hsl := fun wx => run_slice_string (P := Try.prog) (w := wx) 9 src .i64 .i64 pos p Try.underlying9 (by omega) (by omega) (by omega)
        simp only [Int.toNat_natCast] at hsl
        go_quiet (fail)
        go_wp2_with fail
        have hesz : (src.extract pos p).size ≤ maxLen := by
          have h1 : (src.extract pos p).size = min p src.size - pos := ByteArray.size_extract
          unfold maxLen
          omega
        refine (foldCase_any _ _ hesz).mono ?_
        rintro e w2 ⟨rfl, hbel⟩
        have TW2 : Hid (TokW b w w2 src p mk md) := (TW.out.drewN _).below hlb hbel
        clear hbel hesz hsl c0 c1 f1 TW
        obtain ⟨t0, t1, t2, t3, t4⟩ := TW2.out.tok.cells
        have tf := TW2.out.tok.free
        go_wp2
        exact tok_end (by kernel_rfl) TW2.out hlb { kind := 1, pos := 0, text := src.extract pos p, val := foldB (src.extract pos p), n := 0 } _ rfl _ rfl rfl
    · have hTp : p = T := (scan_end wptB src gk p hlt).symm.trans hF.out
      subst hTp
      have hd : decide ((p : Int) < (src.size : Int)) = false := by simp; omega
      go_wp2
      go_quiet (fail)
      go_wp2
      have hsl := fun wx => run_slice_string (P := Try.prog) (w := wx) 9 src .i64 .i64 pos p Try.underlying9 (by omega) (by omega) (by omega)
      simp only [Int.toNat_natCast] at hsl
      go_quiet (fail)
      go_wp2_with fail
      have hesz : (src.extract pos p).size ≤ maxLen := by
        have h1 : (src.extract pos p).size = min p src.size - pos := ByteArray.size_extract
        unfold maxLen
        omega
      refine (foldCase_any _ _ hesz).mono ?_
      rintro e w2 ⟨rfl, hbel⟩
      have TW2 : Hid (TokW b w w2 src p mk md) := (TW.out.drewN _).below hlb hbel
      clear hbel hesz hsl c0 c1 f1 TW
      obtain ⟨t0, t1, t2, t3, t4⟩ := TW2.out.tok.cells
      have tf := TW2.out.tok.free
      go_wp2
      exact tok_end (by kernel_rfl) TW2.out hlb { kind := 1, pos := 0, text := src.extract pos p, val := foldB (src.extract pos p), n := 0 } _ rfl _ rfl rfl

end Go.Proofs.Qxb6604722a

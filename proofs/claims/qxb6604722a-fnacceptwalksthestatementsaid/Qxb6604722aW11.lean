import Derived.Test.Qxb6604722aW10
namespace Go.Proofs.Qxb6604722a
open Go.RowKit Lx
set_option maxHeartbeats 4000000
set_option maxRecDepth 100000
set_option linter.unusedSimpArgs false
set_option linter.unusedVariables false

theorem operatorChar_is (b : Nat) (src : ByteArray) (pos : Nat) (mk : Bool) (md : Nat) (c : Int) (v : Bool) (w : World) (h0 : 0 ≤ c) (h1 : c ≤ 255) (hx : LexAt b w src pos mk md) (h : opB mk c = v) :
    Calls Try.prog 45 #[.pointer (some ⟨b, 0, none⟩), .int .u8 c] w fun e w' => e = .returned (.bool v) ∧ w = w' := by
  subst h
  exact (operatorChar_any b src pos mk md c w h0 h1 hx).mono fun e w' ⟨he, hw⟩ => ⟨he, hw.symm⟩
theorem empty_is (k : ByteArray) : k.toList.isEmpty = decide (k.size = 0) := by
  rw [Lib.toList_data, Lib.size_eq]
  cases k.data.toList <;> simp

theorem read_ident (b : Nat) (src : ByteArray) (pos : Nat) (mk : Bool) (md : Nat) (w : World) (hs : src.size ≤ 1048576) (hp : pos < src.size) (h34 : bAt src pos = 34) (hx : LexAt b w src pos mk md) :
    Calls Try.prog 32 #[.pointer (some ⟨b, 0, none⟩)] w (RPost b w src mk (readF src mk pos md)) := by
  have hw : wstB 34 = false := by decide
  have hd : digB 34 = false := by decide
  have hn : numB src pos = false := by simp [numB, h34, hd]
  have hR : readF src mk pos md = (if (quTok src pos 2 34 msgIdent).1.kind = 2 ∧ (quTok src pos 2 34 msgIdent).1.val.size = 0 then ({ kind := 11, pos := 0, text := (quTok src pos 2 34 msgIdent).1.text, val := msgZero, n := 0 }, (quTok src pos 2 34 msgIdent).2, md)
     else ((quTok src pos 2 34 msgIdent).1, (quTok src pos 2 34 msgIdent).2, md)) := by
    rw [readF, if_neg (by omega), if_neg (by simp [h34, hw]), if_neg (by simp [hn]), if_neg (by omega), if_pos h34]
  rw [hR]
  clear hR hn
  have hlb := hx.lt
  have hB : ∀ (k : Nat) (h : k < src.size), ((src[k]'h).toNat : Int) = bAt src k := fun k h => (bAt_eq src k h).symm
  have hc := bAt_bd src pos
  have HS : Hid (TokW b w (w.alloc tok0) src pos mk md) := TokW.start hx
  have c0 := fun o => (hx.alloc o).c0
  have c1 := fun o => (hx.alloc o).c1
  have hcall : Hid (∀ wx, LexAt b wx src pos mk md → Calls Try.prog 22 #[.pointer (some ⟨b, 0, none⟩), .int .i64 2, .int .u8 34, .string msgIdent] wx fun e w' => e = .returned (quTok src pos 2 34 msgIdent).1.v ∧ LexAt b w' src (quTok src pos 2 34 msgIdent).2 mk md ∧ Lexed b wx w') :=
    fun wx hx => quoted_any b src pos mk md 2 34 34 msgIdent wx rfl hs hp hx
  obtain ⟨NT, hNT⟩ : ∃ NT, quTok src pos 2 34 msgIdent = NT := ⟨_, rfl⟩
  rw [hNT] at hcall ⊢
  clear hNT
  obtain ⟨⟨k1, k2, k3, k4, k5⟩, np⟩ := NT
  simp only at hcall ⊢
  by_cases hk : k1 = 2
  · by_cases hv : k4.size = 0
    · rw [if_pos ⟨hk, hv⟩]
      have hv' : k4.toList.isEmpty = true := by rw [empty_is]; simp [hv]
      subst hk
      clear hv
      go_enter Try.func32, Try.ntmps32
      go_wp2
      go_quiet (fail)
      have TW : Hid (TokW b w ((w.alloc tok0).drewN nq) src pos mk md) := HS.out.drewN nq
      generalize (w.alloc tok0).drewN nq = w1 at TW ⊢
      clear HS c0 c1
      have c0 := TW.out.lex.c0
      have c1 := TW.out.lex.c1
      have c2 := TW.out.lex.c2
      have c3 := TW.out.lex.c3
      have f1 := TW.out.lex.f1
      have f3 := TW.out.lex.f3
      obtain ⟨t0, t1, t2, t3, t4⟩ := TW.out.tok.cells
      have tf := TW.out.tok.free
      go_wp2_with (first | (go_at_call 40; refine (isWordStart_is _ false _ (by omega) (by omega) hw).mono ?_; rintro e w' ⟨rfl, rfl⟩) | (go_at_call 43; refine (isDigit_is _ false _ (by omega) (by omega) hd).mono ?_; rintro e w' ⟨rfl, rfl⟩))
      refine (hcall.out _ TW.out.lex).mono ?_
      rintro e w2 ⟨rfl, hx2, hl2⟩
      have TW2 : Hid (TokW b w w2 src np mk md) := TW.out.called hlb hx2 hl2
      clear hx2 hl2 TW c0 c1 c2 c3 f1 f3 t0 t1 t2 t3 t4 tf
      have TW3 : Hid (∀ o, TokW b w (w2.alloc o) src np mk md) := fun o => TW2.out.alloc hlb o
      have tt : ∀ o, _ := fun o => (TW3.out o).tok.cells
      have t0 := fun o => (tt o).1
      have t1 := fun o => (tt o).2.1
      have t2 := fun o => (tt o).2.2.1
      have t3 := fun o => (tt o).2.2.2.1
      have t4 := fun o => (tt o).2.2.2.2
      have tf := fun o => (TW3.out o).tok.free
      clear tt
      unfold Tok.v
      go_wp2
      exact tok_end (by kernel_rfl) (TW3.out _) hlb { kind := 11, pos := 0, text := k3, val := msgZero, n := 0 } _ rfl _ rfl rfl
    · rw [if_neg (fun h => hv h.2)]
      have hv' : k4.toList.isEmpty = false := by rw [empty_is]; simp [hv]
      subst hk
      clear hv
      go_enter Try.func32, Try.ntmps32
      go_wp2
      go_quiet (fail)
      have TW : Hid (TokW b w ((w.alloc tok0).drewN nq) src pos mk md) := HS.out.drewN nq
      generalize (w.alloc tok0).drewN nq = w1 at TW ⊢
      clear HS c0 c1
      have c0 := TW.out.lex.c0
      have c1 := TW.out.lex.c1
      have c2 := TW.out.lex.c2
      have c3 := TW.out.lex.c3
      have f1 := TW.out.lex.f1
      have f3 := TW.out.lex.f3
      obtain ⟨t0, t1, t2, t3, t4⟩ := TW.out.tok.cells
      have tf := TW.out.tok.free
      go_wp2_with (first | (go_at_call 40; refine (isWordStart_is _ false _ (by omega) (by omega) hw).mono ?_; rintro e w' ⟨rfl, rfl⟩) | (go_at_call 43; refine (isDigit_is _ false _ (by omega) (by omega) hd).mono ?_; rintro e w' ⟨rfl, rfl⟩))
      refine (hcall.out _ TW.out.lex).mono ?_
      rintro e w2 ⟨rfl, hx2, hl2⟩
      have TW2 : Hid (TokW b w w2 src np mk md) := TW.out.called hlb hx2 hl2
      clear hx2 hl2 TW c0 c1 c2 c3 f1 f3 t0 t1 t2 t3 t4 tf
      have TW3 : Hid (∀ o, TokW b w (w2.alloc o) src np mk md) := fun o => TW2.out.alloc hlb o
      have tt : ∀ o, _ := fun o => (TW3.out o).tok.cells
      have t0 := fun o => (tt o).1
      have t1 := fun o => (tt o).2.1
      have t2 := fun o => (tt o).2.2.1
      have t3 := fun o => (tt o).2.2.2.1
      have t4 := fun o => (tt o).2.2.2.2
      have tf := fun o => (TW3.out o).tok.free
      clear tt
      unfold Tok.v
      go_wp2
      exact tok_end (by kernel_rfl) (TW3.out _) hlb ⟨2, k2, k3, k4, k5⟩ _ rfl _ rfl rfl
  · rw [if_neg (fun h => hk h.1)]
    have hk' : (k1 == 2) = false := beq_eq_false_iff_ne.2 hk
    clear hk
    go_enter Try.func32, Try.ntmps32
    go_wp2
    go_quiet (fail)
    have TW : Hid (TokW b w ((w.alloc tok0).drewN nq) src pos mk md) := HS.out.drewN nq
    generalize (w.alloc tok0).drewN nq = w1 at TW ⊢
    clear HS c0 c1
    have c0 := TW.out.lex.c0
    have c1 := TW.out.lex.c1
    have c2 := TW.out.lex.c2
    have c3 := TW.out.lex.c3
    have f1 := TW.out.lex.f1
    have f3 := TW.out.lex.f3
    obtain ⟨t0, t1, t2, t3, t4⟩ := TW.out.tok.cells
    have tf := TW.out.tok.free
    go_wp2_with (first | (go_at_call 40; refine (isWordStart_is _ false _ (by omega) (by omega) hw).mono ?_; rintro e w' ⟨rfl, rfl⟩) | (go_at_call 43; refine (isDigit_is _ false _ (by omega) (by omega) hd).mono ?_; rintro e w' ⟨rfl, rfl⟩))
    refine (hcall.out _ TW.out.lex).mono ?_
    rintro e w2 ⟨rfl, hx2, hl2⟩
    have TW2 : Hid (TokW b w w2 src np mk md) := TW.out.called hlb hx2 hl2
    clear hx2 hl2 TW c0 c1 c2 c3 f1 f3 t0 t1 t2 t3 t4 tf
    have TW3 : Hid (∀ o, TokW b w (w2.alloc o) src np mk md) := fun o => TW2.out.alloc hlb o
    have tt : ∀ o, _ := fun o => (TW3.out o).tok.cells
    have t0 := fun o => (tt o).1
    have t1 := fun o => (tt o).2.1
    have t2 := fun o => (tt o).2.2.1
    have t3 := fun o => (tt o).2.2.2.1
    have t4 := fun o => (tt o).2.2.2.2
    have tf := fun o => (TW3.out o).tok.free
    clear tt
    unfold Tok.v
    go_wp2
    exact tok_end (by kernel_rfl) (TW3.out _) hlb ⟨k1, k2, k3, k4, k5⟩ _ rfl _ rfl rfl

theorem read_punct (b : Nat) (src : ByteArray) (pos : Nat) (mk : Bool) (md : Nat) (w : World) (hs : src.size ≤ 1048576) (hp : pos < src.size) (hw : wstB (bAt src pos) = false) (hn : numB src pos = false) (h39 : ¬ bAt src pos = 39) (h34 : ¬ bAt src pos = 34) (h59 : ¬ bAt src pos = 59) (h58 : ¬ (bAt src pos = 58 ∧ pre src pos [58, 58] = true)) (h63 : ¬ (bAt src pos = 63 ∧ mk = true)) (ho : opB mk (bAt src pos) = false) (hx : LexAt b w src pos mk md) :
    Calls Try.prog 32 #[.pointer (some ⟨b, 0, none⟩)] w (RPost b w src mk (readF src mk pos md)) := by
  have hR : readF src mk pos md = ({ kind := 7, pos := 0, text := src.extract pos (pos + 1), val := src.extract pos (pos + 1), n := 0 }, pos + 1, md) := by
    rw [readF, if_neg (by omega), if_neg (by simp [hw]), if_neg (by simp [hn]), if_neg h39, if_neg h34, if_neg h59, if_neg h58, if_neg h63, if_neg (by simp [ho])]
  rw [hR]
  clear hR
  have hd : digB (bAt src pos) = false := by
    cases h : digB (bAt src pos) with
    | false => rfl
    | true => simp [numB, h] at hn
  have e39 : (bAt src pos == 39) = false := beq_eq_false_iff_ne.2 h39
  have e34 : (bAt src pos == 34) = false := beq_eq_false_iff_ne.2 h34
  have e59 : (bAt src pos == 59) = false := beq_eq_false_iff_ne.2 h59
  have n63 : ¬ bAt src pos = 63 := by
    intro h
    have hm : mk = false := by
      cases mk with
      | false => rfl
      | true => exact absurd ⟨h, rfl⟩ h63
    rw [h, hm] at ho
    have h0 := opIdx_63
    simp [opB, h0] at ho
  have e63 : (bAt src pos == 63) = false := beq_eq_false_iff_ne.2 n63
  clear h39 h34 h59 h63 n63
  have hlb := hx.lt
  have hB : ∀ (k : Nat) (h : k < src.size), ((src[k]'h).toNat : Int) = bAt src k := fun k h => (bAt_eq src k h).symm
  have hc := bAt_bd src pos
  have HS : Hid (TokW b w (w.alloc tok0) src pos mk md) := TokW.start hx
  have c0 := fun o => (hx.alloc o).c0
  have c1 := fun o => (hx.alloc o).c1
  have hc2 := bAt_bd src (pos + 1)
  have hsl := fun wx => run_slice_string (P := Try.prog) (w := wx) 9 src .i64 .i64 pos ((pos : Int) + 1) Try.underlying9 (by omega) (by omega) (by omega)
  rw [show ((pos : Int) + 1).toNat = pos + 1 from by omega, Int.toNat_natCast] at hsl
  by_cases h46 : bAt src pos = 46
  · have e46 : (bAt src pos == 46) = true := by simp [h46]
    have e58 : (bAt src pos == 58) = false := by rw [h46]; decide
    clear h46 h58
    by_cases hp1 : pos + 1 < src.size
    · have hd2 : digB (bAt src (pos + 1)) = false := by
        cases h : digB (bAt src (pos + 1)) with
        | false => rfl
        | true => simp [numB, h, hp1, hd] at hn; simp [hn] at e46
      go_enter Try.func32, Try.ntmps32
      go_wp2
      go_quiet (fail)
      have TW : Hid (TokW b w ((w.alloc tok0).drewN nq) src pos mk md) := HS.out.drewN nq
      generalize (w.alloc tok0).drewN nq = w1 at TW ⊢
      clear HS c0 c1
      have c0 := TW.out.lex.c0
      have c1 := TW.out.lex.c1
      have c2 := TW.out.lex.c2
      have c3 := TW.out.lex.c3
      have f1 := TW.out.lex.f1
      have f3 := TW.out.lex.f3
      obtain ⟨t0, t1, t2, t3, t4⟩ := TW.out.tok.cells
      have tf := TW.out.tok.free
      go_wp2_with (first | (go_at_call 40; refine (isWordStart_is _ false _ hc.1 hc.2 hw).mono ?_; rintro e w' ⟨rfl, rfl⟩) | (go_at_call_of 43 (Value.int IntKind.u8 (bAt src pos)); refine (isDigit_is _ false _ hc.1 hc.2 hd).mono ?_; rintro e w' ⟨rfl, rfl⟩) | (go_at_call 45; refine (operatorChar_is b src pos mk md _ false _ hc.1 hc.2 TW.out.lex ho).mono ?_; rintro e w' ⟨rfl, rfl⟩) | (go_at_call 43; refine (isDigit_is _ false _ hc2.1 hc2.2 hd2).mono ?_; rintro e w' ⟨rfl, rfl⟩))
      go_quiet (fail)
      go_wp2
      exact tok_end (by kernel_rfl) ((TW.out.move hlb (pos + 1) ((pos : Int) + 1) (by omega)).drewN _) hlb { kind := 7, pos := 0, text := src.extract pos (pos + 1), val := src.extract pos (pos + 1), n := 0 } _ rfl _ rfl rfl
    · have hdp : decide ((pos : Int) + 1 < (src.size : Int)) = false := by simp; omega
      go_enter Try.func32, Try.ntmps32
      go_wp2
      go_quiet (fail)
      have TW : Hid (TokW b w ((w.alloc tok0).drewN nq) src pos mk md) := HS.out.drewN nq
      generalize (w.alloc tok0).drewN nq = w1 at TW ⊢
      clear HS c0 c1
      have c0 := TW.out.lex.c0
      have c1 := TW.out.lex.c1
      have c2 := TW.out.lex.c2
      have c3 := TW.out.lex.c3
      have f1 := TW.out.lex.f1
      have f3 := TW.out.lex.f3
      obtain ⟨t0, t1, t2, t3, t4⟩ := TW.out.tok.cells
      have tf := TW.out.tok.free
      go_wp2_with (first | (go_at_call 40; refine (isWordStart_is _ false _ hc.1 hc.2 hw).mono ?_; rintro e w' ⟨rfl, rfl⟩) | (go_at_call_of 43 (Value.int IntKind.u8 (bAt src pos)); refine (isDigit_is _ false _ hc.1 hc.2 hd).mono ?_; rintro e w' ⟨rfl, rfl⟩) | (go_at_call 45; refine (operatorChar_is b src pos mk md _ false _ hc.1 hc.2 TW.out.lex ho).mono ?_; rintro e w' ⟨rfl, rfl⟩))
      go_quiet (fail)
      go_wp2
      exact tok_end (by kernel_rfl) ((TW.out.move hlb (pos + 1) ((pos : Int) + 1) (by omega)).drewN _) hlb { kind := 7, pos := 0, text := src.extract pos (pos + 1), val := src.extract pos (pos + 1), n := 0 } _ rfl _ rfl rfl
  · have e46 : (bAt src pos == 46) = false := beq_eq_false_iff_ne.2 h46
    clear h46
    by_cases h58' : bAt src pos = 58
    · have hpr : pre src pos [58, 58] = false := by
        cases h : pre src pos [58, 58] with
        | false => rfl
        | true => exact absurd ⟨h58', h⟩ h58
      have e58 : (bAt src pos == 58) = true := by simp [h58']
      clear h58 h58'
      go_enter Try.func32, Try.ntmps32
      go_wp2
      go_quiet (fail)
      have TW : Hid (TokW b w ((w.alloc tok0).drewN nq) src pos mk md) := HS.out.drewN nq
      generalize (w.alloc tok0).drewN nq = w1 at TW ⊢
      clear HS c0 c1
      have c0 := TW.out.lex.c0
      have c1 := TW.out.lex.c1
      have c2 := TW.out.lex.c2
      have c3 := TW.out.lex.c3
      have f1 := TW.out.lex.f1
      have f3 := TW.out.lex.f3
      obtain ⟨t0, t1, t2, t3, t4⟩ := TW.out.tok.cells
      have tf := TW.out.tok.free
      go_wp2_with (first | (go_at_call 40; refine (isWordStart_is _ false _ hc.1 hc.2 hw).mono ?_; rintro e w' ⟨rfl, rfl⟩) | (go_at_call_of 43 (Value.int IntKind.u8 (bAt src pos)); refine (isDigit_is _ false _ hc.1 hc.2 hd).mono ?_; rintro e w' ⟨rfl, rfl⟩) | (go_at_call 45; refine (operatorChar_is b src pos mk md _ false _ hc.1 hc.2 TW.out.lex ho).mono ?_; rintro e w' ⟨rfl, rfl⟩) | (go_at_call 38; refine (hasPrefix_is _ _ _ false _ hpr).mono ?_; rintro e w' ⟨rfl, hw'⟩; subst hw'))
      go_quiet (fail)
      go_wp2
      exact tok_end (by kernel_rfl) ((TW.out.move hlb (pos + 1) ((pos : Int) + 1) (by omega)).drewN _) hlb { kind := 7, pos := 0, text := src.extract pos (pos + 1), val := src.extract pos (pos + 1), n := 0 } _ rfl _ rfl rfl
    · have e58 : (bAt src pos == 58) = false := beq_eq_false_iff_ne.2 h58'
      clear h58 h58'
      go_enter Try.func32, Try.ntmps32
      go_wp2
      go_quiet (fail)
      have TW : Hid (TokW b w ((w.alloc tok0).drewN nq) src pos mk md) := HS.out.drewN nq
      generalize (w.alloc tok0).drewN nq = w1 at TW ⊢
      clear HS c0 c1
      have c0 := TW.out.lex.c0
      have c1 := TW.out.lex.c1
      have c2 := TW.out.lex.c2
      have c3 := TW.out.lex.c3
      have f1 := TW.out.lex.f1
      have f3 := TW.out.lex.f3
      obtain ⟨t0, t1, t2, t3, t4⟩ := TW.out.tok.cells
      have tf := TW.out.tok.free
      go_wp2_with (first | (go_at_call 40; refine (isWordStart_is _ false _ hc.1 hc.2 hw).mono ?_; rintro e w' ⟨rfl, rfl⟩) | (go_at_call_of 43 (Value.int IntKind.u8 (bAt src pos)); refine (isDigit_is _ false _ hc.1 hc.2 hd).mono ?_; rintro e w' ⟨rfl, rfl⟩) | (go_at_call 45; refine (operatorChar_is b src pos mk md _ false _ hc.1 hc.2 TW.out.lex ho).mono ?_; rintro e w' ⟨rfl, rfl⟩))
      go_quiet (fail)
      go_wp2
      exact tok_end (by kernel_rfl) ((TW.out.move hlb (pos + 1) ((pos : Int) + 1) (by omega)).drewN _) hlb { kind := 7, pos := 0, text := src.extract pos (pos + 1), val := src.extract pos (pos + 1), n := 0 } _ rfl _ rfl rfl

end Go.Proofs.Qxb6604722a

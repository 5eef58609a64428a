import Derived.Test.Qxb6604722aW9
import Derived.Test.Qxb6604722aLex5
namespace Go.Proofs.Qxb6604722a
open Go.RowKit Lx
set_option maxHeartbeats 4000000
set_option maxRecDepth 100000
set_option linter.unusedSimpArgs false
set_option linter.unusedVariables false

theorem TokW.alloc {b : Nat} {w wr : World} {src : ByteArray} {p : Nat} {mk : Bool} {md : Nat} (h : TokW b w wr src p mk md) (hb : b < w.heap.size) (o : Obj) : TokW b w (wr.alloc o) src p mk md :=
  h.below hb ((Below.refl _ _).alloc (Nat.le_refl _) o)

theorem read_str (b : Nat) (src : ByteArray) (pos : Nat) (mk : Bool) (md : Nat) (w : World) (hs : src.size ≤ 1048576) (hp : pos < src.size) (h39 : bAt src pos = 39) (hx : LexAt b w src pos mk md) :
    Calls Try.prog 32 #[.pointer (some ⟨b, 0, none⟩)] w (RPost b w src mk (readF src mk pos md)) := by
  have hw : wstB 39 = false := by decide
  have hd : digB 39 = false := by decide
  have hn : numB src pos = false := by simp [numB, h39, hd]
  have hR : readF src mk pos md = ((quTok src pos 3 39 msgStr).1, (quTok src pos 3 39 msgStr).2, md) := by
    rw [readF, if_neg (by omega), if_neg (by simp [h39, hw]), if_neg (by simp [hn]), if_pos h39]
  rw [hR]
  clear hR hn
  have hlb := hx.lt
  have hB : ∀ (k : Nat) (h : k < src.size), ((src[k]'h).toNat : Int) = bAt src k := fun k h => (bAt_eq src k h).symm
  have hc := bAt_bd src pos
  have HS : Hid (TokW b w (w.alloc tok0) src pos mk md) := TokW.start hx
  have c0 := fun o => (hx.alloc o).c0
  have c1 := fun o => (hx.alloc o).c1
  have hcall : Hid (∀ wx, LexAt b wx src pos mk md → Calls Try.prog 22 #[.pointer (some ⟨b, 0, none⟩), .int .i64 3, .int .u8 39, .string msgStr] wx fun e w' => e = .returned (quTok src pos 3 39 msgStr).1.v ∧ LexAt b w' src (quTok src pos 3 39 msgStr).2 mk md ∧ Lexed b wx w') :=
    fun wx hx => quoted_any b src pos mk md 3 39 39 msgStr wx rfl hs hp hx
  obtain ⟨NT, hNT⟩ : ∃ NT, quTok src pos 3 39 msgStr = NT := ⟨_, rfl⟩
  rw [hNT] at hcall ⊢
  clear hNT
  obtain ⟨⟨k1, k2, k3, k4, k5⟩, np⟩ := NT
  go_enter Try.func32, Try.ntmps32
  go_wp2
  go_quiet (fail)
  have TW : Hid (TokW b w ((w.alloc tok0).drewN nq) src pos mk md) := HS.out.drewN nq
  generalize (w.alloc tok0).drewN nq = w1 at TW ⊢
  clear HS c0 c1
  have c0 := TW.out.lex.c0
  have c1 := TW.out.lex.c1
  have c2 := TW.out.lex.c2
  have c3 := TW.out.lex.c3
  have f1 := TW.out.lex.f1
  have f3 := TW.out.lex.f3
  obtain ⟨t0, t1, t2, t3, t4⟩ := TW.out.tok.cells
  have tf := TW.out.tok.free
  go_wp2_with (first | (go_at_call 40; refine (isWordStart_is _ false _ (by omega) (by omega) hw).mono ?_; rintro e w' ⟨rfl, rfl⟩) | (go_at_call 43; refine (isDigit_is _ false _ (by omega) (by omega) hd).mono ?_; rintro e w' ⟨rfl, rfl⟩))
  refine (hcall.out _ TW.out.lex).mono ?_
  rintro e w2 ⟨rfl, hx2, hl2⟩
  have TW2 : Hid (TokW b w w2 src np mk md) := TW.out.called hlb hx2 hl2
  clear hx2 hl2 TW c0 c1 c2 c3 f1 f3 t0 t1 t2 t3 t4 tf
  obtain ⟨t0, t1, t2, t3, t4⟩ := TW2.out.tok.cells
  have tf := TW2.out.tok.free
  unfold Tok.v
  go_wp2
  exact tok_end (by kernel_rfl) TW2.out hlb ⟨k1, k2, k3, k4, k5⟩ _ rfl _ rfl rfl

theorem read_semi (b : Nat) (src : ByteArray) (pos : Nat) (mk : Bool) (md : Nat) (w : World) (hs : src.size ≤ 1048576) (hp : pos < src.size) (h59 : bAt src pos = 59) (hx : LexAt b w src pos mk md) :
    Calls Try.prog 32 #[.pointer (some ⟨b, 0, none⟩)] w (RPost b w src mk (readF src mk pos md)) := by
  have hw : wstB 59 = false := by decide
  have hd : digB 59 = false := by decide
  have hn : numB src pos = false := by simp [numB, h59, hd]
  have hR : readF src mk pos md = ({ kind := 10, pos := 0, text := bs [59], val := bs [], n := 0 }, pos + 1, md) := by
    rw [readF, if_neg (by omega), if_neg (by simp [h59, hw]), if_neg (by simp [hn]), if_neg (by omega), if_neg (by omega), if_pos h59]
  rw [hR]
  clear hR hn
  have hlb := hx.lt
  have hB : ∀ (k : Nat) (h : k < src.size), ((src[k]'h).toNat : Int) = bAt src k := fun k h => (bAt_eq src k h).symm
  have hc := bAt_bd src pos
  have HS : Hid (TokW b w (w.alloc tok0) src pos mk md) := TokW.start hx
  have c0 := fun o => (hx.alloc o).c0
  have c1 := fun o => (hx.alloc o).c1
  go_enter Try.func32, Try.ntmps32
  go_wp2
  go_quiet (fail)
  have TW : Hid (TokW b w ((w.alloc tok0).drewN nq) src pos mk md) := HS.out.drewN nq
  generalize (w.alloc tok0).drewN nq = w1 at TW ⊢
  clear HS c0 c1
  have c0 := TW.out.lex.c0
  have c1 := TW.out.lex.c1
  have c2 := TW.out.lex.c2
  have c3 := TW.out.lex.c3
  have f1 := TW.out.lex.f1
  have f3 := TW.out.lex.f3
  obtain ⟨t0, t1, t2, t3, t4⟩ := TW.out.tok.cells
  have tf := TW.out.tok.free
  go_wp2_with (first | (go_at_call 40; refine (isWordStart_is _ false _ (by omega) (by omega) hw).mono ?_; rintro e w' ⟨rfl, rfl⟩) | (go_at_call 43; refine (isDigit_is _ false _ (by omega) (by omega) hd).mono ?_; rintro e w' ⟨rfl, rfl⟩))
  exact tok_end (by kernel_rfl) (TW.out.move hlb (pos + 1) ((pos : Int) + 1) (by omega)) hlb { kind := 10, pos := 0, text := bs [59], val := bs [], n := 0 } _ rfl _ rfl rfl

theorem read_cast (b : Nat) (src : ByteArray) (pos : Nat) (mk : Bool) (md : Nat) (w : World) (hs : src.size ≤ 1048576) (hp : pos < src.size) (h58 : bAt src pos = 58) (hpr : pre src pos [58, 58] = true) (hx : LexAt b w src pos mk md) :
    Calls Try.prog 32 #[.pointer (some ⟨b, 0, none⟩)] w (RPost b w src mk (readF src mk pos md)) := by
  have hw : wstB 58 = false := by decide
  have hd : digB 58 = false := by decide
  have hn : numB src pos = false := by simp [numB, h58, hd]
  have hp2 := pre_two src pos _ _ hpr
  have hR : readF src mk pos md = ({ kind := 8, pos := 0, text := bs [58, 58], val := bs [], n := 0 }, pos + 2, md) := by
    rw [readF, if_neg (by omega), if_neg (by simp [h58, hw]), if_neg (by simp [hn]), if_neg (by omega), if_neg (by omega), if_neg (by omega), if_pos ⟨h58, hpr⟩]
  rw [hR]
  clear hR hn
  have hlb := hx.lt
  have hB : ∀ (k : Nat) (h : k < src.size), ((src[k]'h).toNat : Int) = bAt src k := fun k h => (bAt_eq src k h).symm
  have hc := bAt_bd src pos
  have HS : Hid (TokW b w (w.alloc tok0) src pos mk md) := TokW.start hx
  have c0 := fun o => (hx.alloc o).c0
  have c1 := fun o => (hx.alloc o).c1
  go_enter Try.func32, Try.ntmps32
  go_wp2
  go_quiet (fail)
  have TW : Hid (TokW b w ((w.alloc tok0).drewN nq) src pos mk md) := HS.out.drewN nq
  generalize (w.alloc tok0).drewN nq = w1 at TW ⊢
  clear HS c0 c1
  have c0 := TW.out.lex.c0
  have c1 := TW.out.lex.c1
  have c2 := TW.out.lex.c2
  have c3 := TW.out.lex.c3
  have f1 := TW.out.lex.f1
  have f3 := TW.out.lex.f3
  obtain ⟨t0, t1, t2, t3, t4⟩ := TW.out.tok.cells
  have tf := TW.out.tok.free
  go_wp2_with (first | (go_at_call 40; refine (isWordStart_is _ false _ (by omega) (by omega) hw).mono ?_; rintro e w' ⟨rfl, rfl⟩) | (go_at_call 43; refine (isDigit_is _ false _ (by omega) (by omega) hd).mono ?_; rintro e w' ⟨rfl, rfl⟩) | (go_at_call 38; refine (hasPrefix_is _ _ _ true _ hpr).mono ?_; rintro e w' ⟨rfl, hw'⟩; subst hw'))
  exact tok_end (by kernel_rfl) (TW.out.move hlb (pos + 2) ((pos : Int) + 2) (by omega)) hlb { kind := 8, pos := 0, text := bs [58, 58], val := bs [], n := 0 } _ rfl _ rfl rfl

theorem read_marker (b : Nat) (src : ByteArray) (pos : Nat) (mk : Bool) (md : Nat) (w : World) (hs : src.size ≤ 1048576) (hp : pos < src.size) (h63 : bAt src pos = 63) (hmk : mk = true) (hmd : md ≤ 1048576) (hx : LexAt b w src pos mk md) :
    Calls Try.prog 32 #[.pointer (some ⟨b, 0, none⟩)] w (RPost b w src mk (readF src mk pos md)) := by
  have hw : wstB 63 = false := by decide
  have hd : digB 63 = false := by decide
  subst hmk
  have hn : numB src pos = false := by simp [numB, h63, hd]
  have hR : readF src true pos md = ({ kind := 9, pos := 0, text := bs [63], val := bs [], n := md }, pos + 1, md + 1) := by
    rw [readF, if_neg (by omega), if_neg (by simp [h63, hw]), if_neg (by simp [hn]), if_neg (by omega), if_neg (by omega), if_neg (by omega), if_neg (by omega), if_pos ⟨h63, rfl⟩]
  rw [hR]
  clear hR hn
  have hlb := hx.lt
  have hB : ∀ (k : Nat) (h : k < src.size), ((src[k]'h).toNat : Int) = bAt src k := fun k h => (bAt_eq src k h).symm
  have hc := bAt_bd src pos
  have HS : Hid (TokW b w (w.alloc tok0) src pos true md) := TokW.start hx
  have c0 := fun o => (hx.alloc o).c0
  have c1 := fun o => (hx.alloc o).c1
  go_enter Try.func32, Try.ntmps32
  go_wp2
  go_quiet (fail)
  have TW : Hid (TokW b w ((w.alloc tok0).drewN nq) src pos true md) := HS.out.drewN nq
  generalize (w.alloc tok0).drewN nq = w1 at TW ⊢
  clear HS c0 c1
  have c0 := TW.out.lex.c0
  have c1 := TW.out.lex.c1
  have c2 := TW.out.lex.c2
  have c3 := TW.out.lex.c3
  have f1 := TW.out.lex.f1
  have f3 := TW.out.lex.f3
  obtain ⟨t0, t1, t2, t3, t4⟩ := TW.out.tok.cells
  have tf := TW.out.tok.free
  go_wp2_with (first | (go_at_call 40; refine (isWordStart_is _ false _ (by omega) (by omega) hw).mono ?_; rintro e w' ⟨rfl, rfl⟩) | (go_at_call 43; refine (isDigit_is _ false _ (by omega) (by omega) hd).mono ?_; rintro e w' ⟨rfl, rfl⟩))
  exact tok_end (by kernel_rfl) ((TW.out.move hlb (pos + 1) ((pos : Int) + 1) (by omega)).mark hlb (md + 1) ((md : Int) + 1) (by omega)) hlb { kind := 9, pos := 0, text := bs [63], val := bs [], n := md } _ rfl _ rfl rfl

end Go.Proofs.Qxb6604722a

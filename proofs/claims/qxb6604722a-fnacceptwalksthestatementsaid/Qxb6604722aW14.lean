import Derived.Test.Qxb6604722aW11
namespace Go.Proofs.Qxb6604722a
open Go.RowKit Lx
set_option maxHeartbeats 2000000
set_option maxRecDepth 100000
set_option linter.unusedSimpArgs false
set_option linter.unusedVariables false

theorem nextF_err {s : ByteArray} {mk : Bool} {p md st q : Nat} (h : skipF s s.size p = (some st, q)) : nextF s mk p md = ({ kind := 11, pos := st, text := bs [47, 42], val := msgCom, n := 0 }, q, md) := by
  unfold nextF
  rw [h]
theorem nextF_ok {s : ByteArray} {mk : Bool} {p md q : Nat} {k1 : Int} {k2 : Nat} {k3 k4 : ByteArray} {k5 np nm : Nat} (h : skipF s s.size p = (none, q)) (h2 : readF s mk q md = (⟨k1, k2, k3, k4, k5⟩, np, nm)) : nextF s mk p md = (⟨k1, q, k3, k4, k5⟩, np, nm) := by
  unfold nextF
  rw [h]
  simp only
  rw [h2]

theorem next_of (src : ByteArray) (mk : Bool) (hread : ∀ (b pos md : Nat) (w : World), pos ≤ src.size → md ≤ 1048576 → LexAt b w src pos mk md → Calls Try.prog 32 #[.pointer (some ⟨b, 0, none⟩)] w (RPost b w src mk (readF src mk pos md)))
    (b : Nat) (pos : Nat) (md : Nat) (w : World) (hs : src.size ≤ 1048576) (hp : pos ≤ src.size) (hmd : md ≤ 1048576) (hx : LexAt b w src pos mk md) :
    Calls Try.prog 23 #[.pointer (some ⟨b, 0, none⟩)] w (RPost b w src mk (nextF src mk pos md)) := by
  have hlb := hx.lt
  have hsm : src.size ≤ maxLen := by unfold maxLen; omega
  have hbd := skipF_bd src src.size pos hp
  obtain ⟨⟨so, q⟩, hS⟩ : ∃ S, skipF src src.size pos = S := ⟨_, rfl⟩
  rw [hS] at hbd
  have hskip : ∀ (w : World), LexAt b w src pos mk md → Calls Try.prog 31 #[.pointer (some ⟨b, 0, none⟩)] w fun e w' => e = .returned (skipRet so) ∧ LexAt b w' src q mk md ∧ Lexed b w w' := fun w hx => by
    have := skipBlanks_any b src pos mk md w hsm hp hx
    rw [hS] at this
    exact this
  have HSK : Hid (∀ (w : World), LexAt b w src pos mk md → Calls Try.prog 31 #[.pointer (some ⟨b, 0, none⟩)] w fun e w' => e = .returned (skipRet so) ∧ LexAt b w' src q mk md ∧ Lexed b w w') := hskip
  clear hskip
  have HS : Hid (TokW b w (w.alloc tok0) src pos mk md) := TokW.start hx
  cases so with
  | some st =>
    rw [nextF_err hS]
    clear hS hread
    go_enter Try.func23, Try.ntmps23
    go_wp2_with fail
    refine (HSK.out _ HS.out.lex).mono ?_
    rintro e w1 ⟨rfl, hx1, hl1⟩
    have TW1 : Hid (TokW b w w1 src q mk md) := HS.out.called hlb hx1 hl1
    have TW3 : Hid (∀ o, TokW b w (w1.alloc o) src q mk md) := fun o => TW1.out.alloc hlb o
    clear hx1 hl1 HS HSK
    have tt : ∀ o, _ := fun o => (TW3.out o).tok.cells
    have t0 := fun o => (tt o).1
    have t1 := fun o => (tt o).2.1
    have t2 := fun o => (tt o).2.2.1
    have t3 := fun o => (tt o).2.2.2.1
    have t4 := fun o => (tt o).2.2.2.2
    have tf := fun o => (TW3.out o).tok.free
    clear tt
    unfold skipRet Tok.v
    go_wp2
    exact tok_end (by kernel_rfl) (TW3.out _) hlb { kind := 11, pos := st, text := bs [47, 42], val := msgCom, n := 0 } _ rfl _ rfl rfl
  | none =>
    obtain ⟨⟨⟨k1, k2, k3, k4, k5⟩, np, nm⟩, hRd⟩ : ∃ S, readF src mk q md = S := ⟨_, rfl⟩
    rw [nextF_ok hS hRd]
    have HRD : Hid (∀ (w : World), LexAt b w src q mk md → Calls Try.prog 32 #[.pointer (some ⟨b, 0, none⟩)] w (RPost b w src mk (⟨k1, k2, k3, k4, k5⟩, np, nm))) := fun w hx => by
      rw [← hRd]
      exact hread b q md w hbd.2.1 hmd hx
    clear hS hread hRd
    go_enter Try.func23, Try.ntmps23
    go_wp2_with fail
    refine (HSK.out _ HS.out.lex).mono ?_
    rintro e w1 ⟨rfl, hx1, hl1⟩
    have TW1 : Hid (TokW b w w1 src q mk md) := HS.out.called hlb hx1 hl1
    have TW3 : Hid (∀ o, TokW b w (w1.alloc o) src q mk md) := fun o => TW1.out.alloc hlb o
    clear hx1 hl1 HS HSK
    have c1 := fun o => (TW3.out o).lex.c1
    unfold skipRet Tok.v
    go_wp2_with fail
    refine (HRD.out _ (TW3.out _).lex).mono ?_
    rintro e w2 ⟨rfl, hx2, hl2⟩
    have TW4 : Hid (TokW b w w2 src np mk nm) := (TW3.out _).called hlb hx2 hl2
    have TW5 : Hid (∀ o, TokW b w (w2.alloc o) src np mk nm) := fun o => TW4.out.alloc hlb o
    clear hx2 hl2 TW1 TW3 TW4 c1
    have tt : ∀ o, _ := fun o => (TW5.out o).tok.cells
    have t0 := fun o => (tt o).1
    have t1 := fun o => (tt o).2.1
    have t2 := fun o => (tt o).2.2.1
    have t3 := fun o => (tt o).2.2.2.1
    have t4 := fun o => (tt o).2.2.2.2
    have tf := fun o => (TW5.out o).tok.free
    clear tt
    unfold Tok.v
    go_wp2
    exact tok_end (by kernel_rfl) (TW5.out _) hlb ⟨k1, q, k3, k4, k5⟩ _ rfl _ rfl rfl

end Go.Proofs.Qxb6604722a

import Derived.Test.Qxb6604722aW14
import Derived.Test.Qxb6604722aLex7
namespace Go.Proofs.Qxb6604722a
open Go.RowKit Lx
set_option maxHeartbeats 2000000
set_option maxRecDepth 100000
set_option linter.unusedSimpArgs false
set_option linter.unusedVariables false

/-- What 'next' does at this source. -/
def NextOk (src : ByteArray) (mk : Bool) : Prop :=
  ∀ (b pos md : Nat) (w : World), pos ≤ src.size → md ≤ 1048576 → LexAt b w src pos mk md → Calls Try.prog 23 #[.pointer (some ⟨b, 0, none⟩)] w (RPost b w src mk (nextF src mk pos md))

/-- A token as a tuple. -/
def Lx.Tok.tup (t : Tok) : Value := .tuple #[.int .i64 t.kind, .int .i64 t.pos, .string t.text, .string t.val, .int .i64 t.n]

theorem lexNext_of (src : ByteArray) (mk : Bool) (hnext : NextOk src mk) (b pos md : Nat) (w : World) (hp : pos ≤ src.size) (hmd : md ≤ 1048576) (hx : LexAt b w src pos mk md) (t : Tok) (np nm : Nat) (hn : nextF src mk pos md = (t, np, nm)) :
    Calls Try.prog 15 #[.pointer (some ⟨b, 0, none⟩)] w fun e w' => e = .returned t.tup ∧ LexAt b w' src np mk nm ∧ Lexed b w w' := by
  have hlb := hx.lt
  have hc := hnext b pos md w hp hmd hx
  rw [hn] at hc
  have HC : Hid (Calls Try.prog 23 #[.pointer (some ⟨b, 0, none⟩)] w (RPost b w src mk (t, np, nm))) := hc
  clear hc hn hnext
  obtain ⟨k1, k2, k3, k4, k5⟩ := t
  go_enter Try.func15, Try.ntmps15
  go_wp2_with fail
  refine HC.out.mono ?_
  rintro e w1 ⟨rfl, hx1, hl1⟩
  unfold Tok.v
  go_wp2
  go_quiet (fail)
  go_wp2
  have h1b := hx1.lt
  refine bodyPost_ret (v := Tok.tup ⟨k1, k2, k3, k4, k5⟩) (by simp [results, Try.results15, go_sem, Tok.tup]) rfl ⟨rfl, (hx1.alloc _).drewN _, (hl1.alloc h1b _).drewN _⟩

theorem newLexer_any (src : ByteArray) (mk : Bool) (w : World) :
    Calls Try.prog 8 #[.string src, .int .i64 0, .bool mk, .int .i64 0] w fun e w' => e = .returned (.pointer (some ⟨w.heap.size, 0, none⟩)) ∧ LexAt w.heap.size w' src 0 mk 0 ∧ Below w.heap.size w w' ∧ w.heap.size < w'.heap.size := by
  go_enter Try.func8, Try.ntmps8
  go_wp2
  go_ret
  refine ⟨rfl, ⟨?_, ?_, ?_, ?_, ?_, ?_⟩, (Below.refl _ _).alloc (Nat.le_refl _) _, by simp⟩ <;> simp

theorem endsStatement_any (t : Tok) (w : World) :
    Calls Try.prog 33 #[t.v] w fun e w' => e = .returned (.bool (endsB t.kind)) ∧ Below w.heap.size w w' := by
  obtain ⟨k1, k2, k3, k4, k5⟩ := t
  unfold Tok.v
  by_cases h : k1 = 10
  · subst h
    go_enter Try.func33, Try.ntmps33
    go_wp2
    go_ret
    exact ⟨rfl, (Below.refl _ _).alloc (Nat.le_refl _) _⟩
  · have h' : (k1 == 10) = false := beq_eq_false_iff_ne.2 h
    go_enter Try.func33, Try.ntmps33
    go_wp2
    go_ret
    exact ⟨ret_bool (by simp [endsB, h]), (Below.refl _ _).alloc (Nat.le_refl _) _⟩
theorem endsB1_any (k : Int) (w : World) :
    Calls Try.prog 16 #[.int .i64 k] w fun e w' => e = .returned (.bool (endsB k)) ∧ w = w' := by
  by_cases h : k = 0
  · subst h
    go_enter Try.func16, Try.ntmps16
    go_wp2
    go_ret
    exact ⟨rfl, rfl⟩
  · have h' : (k == 0) = false := beq_eq_false_iff_ne.2 h
    go_enter Try.func16, Try.ntmps16
    go_wp2
    go_ret
    exact ⟨ret_bool (by simp [endsB, h]), rfl⟩
theorem end_any (t : Tok) (w : World) (h : t.pos + t.text.size ≤ 9223372036854775807) :
    Calls Try.prog 48 #[t.v] w fun e w' => e = .returned (.int .i64 ((t.pos + t.text.size : Nat) : Int)) ∧ Below w.heap.size w w' := by
  obtain ⟨k1, k2, k3, k4, k5⟩ := t
  unfold Tok.v
  simp only at h
  go_enter Try.func48, Try.ntmps48
  go_wp2
  go_ret
  exact ⟨ret_int (by simp), (Below.refl _ _).alloc (Nat.le_refl _) _⟩

end Go.Proofs.Qxb6604722a

import Derived.Test.Qxb6604722aP3
namespace Go.Proofs.Qxb6604722a
open Go.RowKit Lx
set_option maxHeartbeats 2000000
set_option maxRecDepth 100000
set_option linter.unusedSimpArgs false
set_option linter.unusedVariables false

theorem accept_no (pb : Nat) (w0 w : World) (src : ByteArray) (mk : Bool) (s : PSt) (pe : Nat) (h : PIs pb w0 w src mk s pe) (hl40 : s.ts.length ≤ 40) (t : Tok) (ht : s.ts[s.nx]? = some t) (u : ByteArray) (hu : (t.val.toList == u.toList) = false) :
    Calls Try.prog 19 #[.pointer (some ⟨pb, 0, none⟩), .int .i64 t.kind, .string u] w fun e w' => e = .returned (.bool false) ∧ Below w.heap.size w w' := by
  obtain ⟨v, h⟩ := h
  have hpk : Hid (Calls Try.prog 34 #[.pointer (some ⟨pb, 0, none⟩)] w fun e w' => e = .returned t.v ∧ Below w.heap.size w w') := peek_any pb w0 w src mk _ _ v s.ts s.nx s.en pe h hl40 t ht
  obtain ⟨k1, k2, k3, k4, k5⟩ := t
  simp only at hu
  clear ht h
  have hin : Hid (Calls Try.prog 26 #[.pointer (some ⟨pb, 0, none⟩), .int .i64 k1, .string u] w fun e w' => e = .returned (.bool false) ∧ Below w.heap.size w w') := by
    show Calls _ _ _ _ _
    go_enter Try.func26, Try.ntmps26
    go_wp2_with fail
    refine hpk.out.mono ?_
    rintro e w1 ⟨rfl, hb1⟩
    have HB : Hid (Below w.heap.size w w1) := hb1
    clear hb1
    unfold Tok.v
    go_wp2
    go_ret
    exact ⟨rfl, HB.out.alloc HB.out.size _⟩
  clear hpk
  go_enter Try.func19, Try.ntmps19
  go_wp2_with fail
  refine hin.out.mono ?_
  rintro e w1 ⟨rfl, hb1⟩
  go_wp2
  go_ret
  exact ⟨rfl, hb1⟩

theorem accept_yes (src : ByteArray) (mk : Bool) (hra : RAOk src mk) (pb : Nat) (w0 w : World) (s : PSt) (pe : Nat) (h : PIs pb w0 w src mk s pe) (hl40 : s.ts.length ≤ 40) (hnl : s.nx + 1 < s.ts.length) (hp : s.pos ≤ src.size) (hm : s.md ≤ s.pos)
    (hen : s.ts.length ≤ s.nx + 1 + 4 → s.en = false) (t : Tok) (ht : s.ts[s.nx]? = some t) (hte : t.pos + t.text.size ≤ 100000000) :
    Calls Try.prog 19 #[.pointer (some ⟨pb, 0, none⟩), .int .i64 t.kind, .string t.val] w fun e w' => e = .returned (.bool true) ∧ PIs pb w0 w' src mk (stepS src mk s) (t.pos + t.text.size) := by
  obtain ⟨v, h⟩ := h
  have hpk : Hid (Calls Try.prog 34 #[.pointer (some ⟨pb, 0, none⟩)] w fun e w' => e = .returned t.v ∧ Below w.heap.size w w') := peek_any pb w0 w src mk _ _ v s.ts s.nx s.en pe h hl40 t ht
  have hsk : Hid (∀ w2, PIs pb w0 w2 src mk s pe → Calls Try.prog 35 #[.pointer (some ⟨pb, 0, none⟩), .int .i64 1] w2 fun e w' => e = .returned (.tuple #[]) ∧ PIs pb w0 w' src mk (stepS src mk s) (t.pos + t.text.size)) := fun w2 h2 => skip_of src mk hra pb w0 w2 s pe h2 hl40 hnl hp hm hen t ht hte
  have HP : Hid (ParW pb w0 w src mk s.pos s.md v s.ts s.nx s.en pe) := h
  obtain ⟨k1, k2, k3, k4, k5⟩ := t
  simp only at hsk
  clear ht h hra hen
  have hin : Hid (Calls Try.prog 26 #[.pointer (some ⟨pb, 0, none⟩), .int .i64 k1, .string k4] w fun e w' => e = .returned (.bool true) ∧ PIs pb w0 w' src mk (stepS src mk s) (k2 + k3.size)) := by
    show Calls _ _ _ _ _
    go_enter Try.func26, Try.ntmps26
    go_wp2_with fail
    refine hpk.out.mono ?_
    rintro e w1 ⟨rfl, hb1⟩
    have HP1 : Hid (ParW pb w0 w1 src mk s.pos s.md v s.ts s.nx s.en pe) := HP.out.below hb1
    clear hb1
    unfold Tok.v
    go_wp2_with fail
    refine (hsk.out _ ⟨v, HP1.out.alloc _⟩).mono ?_
    rintro e w2 ⟨rfl, hpi⟩
    go_wp2
    go_ret
    exact ⟨rfl, hpi⟩
  clear hpk hsk
  go_enter Try.func19, Try.ntmps19
  go_wp2_with fail
  refine hin.out.mono ?_
  rintro e w1 ⟨rfl, hpi⟩
  go_wp2
  go_ret
  exact ⟨rfl, hpi⟩

/-- The parser's start. -/
def startS (src : ByteArray) (mk : Bool) : PSt := ⟨(fill src mk 32 [] 0 0).1, 0, (fill src mk 32 [] 0 0).2.1, (fill src mk 32 [] 0 0).2.2.1, (fill src mk 32 [] 0 0).2.2.2⟩

theorem newParser_any (src : ByteArray) (mk : Bool) (hra : RAOk src mk) (w : World) :
    Calls Try.prog 17 #[.string src, .bool mk] w fun e w' => e = .returned (.pointer (some ⟨w.heap.size, 0, none⟩)) ∧ PIs w.heap.size w w' src mk (startS src mk) 0 := by
  have hcall : Hid (∀ w2, ParW w.heap.size w w2 src mk 0 0 (.slice none 0 0) [] 0 false 0 → Calls Try.prog 24 #[.pointer (some ⟨w.heap.size, 0, none⟩)] w2 fun e w' => e = .returned (.tuple #[]) ∧ PIs w.heap.size w w' src mk (startS src mk) 0) := fun w2 h2 =>
    hra w.heap.size w w2 0 0 (Nat.zero_le _) (Nat.le_refl _) _ [] 0 0 h2 (.inl ⟨rfl, rfl, rfl⟩) (by simp) _ rfl
  clear hra
  go_enter Try.func17, Try.ntmps17
  go_wp2_with fail
  refine (hcall.out _ ?_).mono ?_
  · refine ⟨⟨?_, ?_, ?_, ?_, ?_, ?_⟩, ?_, ?_, ?_, ?_, ?_, World.ownsRow_nil _ _ _ _, (Below.refl _ _).alloc (Nat.le_refl _) _⟩ <;> simp
  · rintro e w1 ⟨rfl, hpi⟩
    go_wp2
    go_ret
    exact ⟨rfl, hpi⟩

end Go.Proofs.Qxb6604722a

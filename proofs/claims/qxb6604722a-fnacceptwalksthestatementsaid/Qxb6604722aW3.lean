import Derived.Test.Qxb6604722aW1
import Derived.Test.Qxb6604722aMem
import Derived.Test.Qxb6604722aLex2
import Derived.Deep.QuietTactic
import Derived.BigQuiet
import Derived.Deep.LoopGhost
namespace Go.Proofs.Qxb6604722a
open Go.RowKit Lx
set_option maxHeartbeats 1000000
set_option linter.unusedSimpArgs false
set_option linter.unusedVariables false

theorem quiet_same_at {P : Program} {f : FuncId} {args : Array Value} {w : World} {k n : Nat} {v : Value}
    (h : Calls P f args (w.drewN (k + n)) fun e w' => e = .returned v ∧ w' = w.drewN (k + n)) : Calls P f args (w.drewN (k + n)) fun e w'' => e = .returned v ∧ ∃ m, w'' = w.drewN (k + m) :=
  h.mono fun _ _ ⟨he, hm⟩ => ⟨he, n, hm⟩
theorem quiet_at {P : Program} {f : FuncId} {args : Array Value} {w : World} {k n : Nat} {v : Value}
    (h : Calls P f args (w.drewN (k + n)) fun e w' => e = .returned v ∧ ∃ m, w' = (w.drewN (k + n)).drewN m) : Calls P f args (w.drewN (k + n)) fun e w'' => e = .returned v ∧ ∃ m, w'' = w.drewN (k + m) :=
  h.mono fun _ _ ⟨he, m, hm⟩ => ⟨he, n + m, by rw [hm, World.drewN_drewN, Nat.add_assoc]⟩

theorem hasPrefix_at (s : ByteArray) (i : Nat) (p : List UInt8) (w : World) :
    Calls Try.prog 38 #[.string (s.extract i s.size), .string ⟨p.toArray⟩] w fun e w' => e = .returned (.bool (pre s i p)) ∧ w' = w :=
  Try.strings_HasPrefix _ _ _
theorem hasPrefix_is (s : ByteArray) (i : Nat) (p : List UInt8) (v : Bool) (w : World) (h : pre s i p = v) :
    Calls Try.prog 38 #[.string (s.extract i s.size), .string ⟨p.toArray⟩] w fun e w' => e = .returned (.bool v) ∧ w' = w := by
  subst h
  exact hasPrefix_at s i p w
theorem indexByte_at (s : ByteArray) (i : Nat) (c : Int) (w : World) :
    Calls Try.prog 27 #[.string (s.extract i s.size), .int .u8 c] w fun e w' => e = .returned (.int .i64 (idx s i c.toNat.toUInt8)) ∧ w' = w :=
  Try.strings_IndexByte _ _ _
theorem indexByte_ops (c : Int) (w : World) :
    Calls Try.prog 27 #[.string ⟨#[43, 45, 42, 47, 60, 62, 61, 126, 33, 64, 35, 37, 94, 38, 124, 96, 63]⟩, .int .u8 c] w fun e w' => e = .returned (.int .i64 (opIdx c)) ∧ w' = w :=
  Try.strings_IndexByte _ _ _

theorem operatorChar_any (b : Nat) (src : ByteArray) (pos : Nat) (mk : Bool) (md : Nat) (c : Int) (w : World) (h0 : 0 ≤ c) (h1 : c ≤ 255) (hx : LexAt b w src pos mk md) :
    Calls Try.prog 45 #[.pointer (some ⟨b, 0, none⟩), .int .u8 c] w fun e w' => e = .returned (.bool (opB mk c)) ∧ w' = w := by
  have c2 := hx.c2
  clear hx
  by_cases hg : 0 ≤ opIdx c
  · by_cases h63 : c = 63
    · subst h63
      go_enter Try.func45, Try.ntmps45
      go_wp2_with (go_at_call 27; refine (indexByte_ops _ _).mono ?_; rintro e w' ⟨rfl, rfl⟩)
      go_ret
      exact ⟨ret_bool (by simp [opB, hg]), rfl⟩
    · go_enter Try.func45, Try.ntmps45
      go_wp2_with (go_at_call 27; refine (indexByte_ops _ _).mono ?_; rintro e w' ⟨rfl, rfl⟩)
      go_ret
      exact ⟨ret_bool (by simp [opB, hg, h63]), rfl⟩
  · go_enter Try.func45, Try.ntmps45
    go_wp2_with (go_at_call 27; refine (indexByte_ops _ _).mono ?_; rintro e w' ⟨rfl, rfl⟩)
    go_ret
    exact ⟨ret_bool (by simp [opB]; omega), rfl⟩

theorem commentAhead_any (b : Nat) (src : ByteArray) (pos : Nat) (mk : Bool) (md : Nat) (w : World) (hs : src.size ≤ maxLen) (hp : pos ≤ src.size) (hx : LexAt b w src pos mk md) :
    Calls Try.prog 46 #[.pointer (some ⟨b, 0, none⟩)] w fun e w' => e = .returned (.bool (com src pos)) ∧ ∃ n, w' = w.drewN n := by
  unfold maxLen at hs
  have c0 := hx.c0
  have c1 := hx.c1
  clear hx
  go_enter Try.func46, Try.ntmps46
  go_wp2
  go_quiet (fail)
  go_wp2_with (go_at_call 38; refine (hasPrefix_at _ _ _ _).mono ?_; rintro e w' ⟨rfl, rfl⟩)
  all_goals
    go_ret
    exact ⟨ret_bool (by simp [com, *]), _, rfl⟩

theorem blockComment_any (b : Nat) (src : ByteArray) (pos : Nat) (mk : Bool) (md : Nat) (w : World) (hs : src.size ≤ maxLen) (hp : pos ≤ src.size) (hx : LexAt b w src pos mk md) :
    Calls Try.prog 39 #[.pointer (some ⟨b, 0, none⟩)] w fun e w' => e = .returned (.bool (blockF src src.size 0 pos).1) ∧ LexAt b w' src (blockF src src.size 0 pos).2 mk md ∧ Lexed b w w' := by
  unfold maxLen at hs
  have hbd := blockF_bd src src.size 0 pos hp
  obtain ⟨T, hT⟩ : ∃ T, T = blockF src src.size 0 pos := ⟨_, rfl⟩
  rw [← hT] at hbd ⊢
  have HT : Hid (T = blockF src src.size 0 pos) := hT
  clear hT
  go_enter Try.func39, Try.ntmps39
  go_wp2
  go_loopg [3] src.size (fun g v wr => ∃ (d : Int) (p : Nat), v = .int .i64 d ∧ p ≤ src.size ∧ -(p : Int) ≤ d ∧ d ≤ p ∧ src.size ≤ g + p ∧ Hid (blockF src g d p = T) ∧ Hid (LexAt b wr src p mk md) ∧ Hid (Lexed b w wr))
  case atStart => exact ⟨0, pos, rfl, hp, by omega, by omega, by omega, HT.out.symm, hx, Lexed.refl _ _⟩
  case round =>
    obtain ⟨d, p, rfl, hp', hd1, hd2, hn, hF, HX, HL⟩ := hrel
    have c0 := HX.out.c0
    have c1 := HX.out.c1
    have f1 := HX.out.f1
    by_cases hlt : p < src.size
    · obtain ⟨m, rfl⟩ : ∃ m, gk = m + 1 := ⟨gk - 1, by omega⟩
      cases h1 : pre src p [47, 42] with
      | true =>
        have hp2 := pre_two src p _ _ h1
        go_wp2
        go_quiet (fail)
        go_wp2
        go_quiet ((go_at_call 38; exact quiet_same_at (hasPrefix_is _ _ _ true _ h1)))
        go_wp2
        go_roundg m
        case rel => exact ⟨d + 1, p + 2, rfl, by omega, by omega, by omega, by omega, (blockF_open src m d p hlt h1).symm.trans hF.out, (HX.out.drewN _).set1 (p + 2) _ (by omega), (HL.out.drewN _).set 1 (.inl rfl) _⟩
        case measure => omega
      | false =>
        cases h2 : pre src p [42, 47] with
        | true =>
          have hp2 := pre_two src p _ _ h2
          by_cases h3 : d - 1 = 0
          · go_wp2
            go_quiet (fail)
            go_wp2
            go_quiet ((go_at_call 38; exact quiet_same_at (hasPrefix_is _ _ _ false _ h1)))
            go_wp2
            go_quiet ((go_at_call 38; exact quiet_same_at (hasPrefix_is _ _ _ true _ h2)))
            go_wp2
            go_ret
            have e := (blockF_close src m d p hlt h1 h2 h3).symm.trans hF.out
            exact ⟨ret_bool (by rw [← e]), by rw [← e]; exact (HX.out.drewN _).set1 (p + 2) _ (by omega), (HL.out.drewN _).set 1 (.inl rfl) _⟩
          · have h3' : (d - 1 == 0) = false := beq_eq_false_iff_ne.2 h3
            go_wp2
            go_quiet (fail)
            go_wp2
            go_quiet ((go_at_call 38; exact quiet_same_at (hasPrefix_is _ _ _ false _ h1)))
            go_wp2
            go_quiet ((go_at_call 38; exact quiet_same_at (hasPrefix_is _ _ _ true _ h2)))
            go_wp2
            go_roundg m
            case rel => exact ⟨d - 1, p + 2, rfl, by omega, by omega, by omega, by omega, (blockF_in src m d p hlt h1 h2 h3).symm.trans hF.out, (HX.out.drewN _).set1 (p + 2) _ (by omega), (HL.out.drewN _).set 1 (.inl rfl) _⟩
            case measure => omega
        | false =>
          go_wp2
          go_quiet (fail)
          go_wp2
          go_quiet ((go_at_call 38; exact quiet_same_at (hasPrefix_is _ _ _ false _ h1)))
          go_wp2
          go_quiet ((go_at_call 38; exact quiet_same_at (hasPrefix_is _ _ _ false _ h2)))
          go_wp2
          go_roundg m
          case rel => exact ⟨d, p + 1, rfl, by omega, by omega, by omega, by omega, (blockF_on src m d p hlt h1 h2).symm.trans hF.out, (HX.out.drewN _).set1 (p + 1) _ (by omega), (HL.out.drewN _).set 1 (.inl rfl) _⟩
          case measure => omega
    · have e := (blockF_end src gk d p hlt).symm.trans hF.out
      go_wp2
      go_quiet (fail)
      go_wp2
      go_ret
      exact ⟨ret_bool (by rw [← e]), by rw [← e]; exact HX.out.drewN _, HL.out.drewN _⟩

end Go.Proofs.Qxb6604722a

import Derived.Test.Qxb6604722aProg
import Derived.Test.Qxb6604722aLex
import Derived.WalkKit
import Derived.WalkLawsBesides
import Derived.Below
import Derived.Outline
import Derived.Deep.Light
namespace Go.Proofs.Qxb6604722a
open Go.RowKit Lx
set_option maxHeartbeats 400000
set_option linter.unusedSimpArgs false
set_option linter.unusedVariables false

theorem isDigit_any (c : Int) (w : World) (h0 : 0 ≤ c) (h1 : c ≤ 255) :
    Calls Try.prog 43 #[.int .u8 c] w fun e w' => e = .returned (.bool (digB c)) ∧ w' = w := by
  by_cases h : 48 ≤ c
  · go_enter Try.func43, Try.ntmps43
    go_wp2
    go_ret
    exact ⟨by simp [digB, h], rfl⟩
  · go_enter Try.func43, Try.ntmps43
    go_wp2
    go_ret
    exact ⟨by simp [digB]; omega, rfl⟩

theorem ret_bool {a b : Bool} (h : a = b) : Ending.returned (.bool a) = .returned (.bool b) := by rw [h]

theorem ret_int {k : IntKind} {a b : Int} (h : a = b) : Ending.returned (.int k a) = .returned (.int k b) := by rw [h]

theorem isWordStart_any (c : Int) (w : World) (h0 : 0 ≤ c) (h1 : c ≤ 255) :
    Calls Try.prog 40 #[.int .u8 c] w fun e w' => e = .returned (.bool (wstB c)) ∧ w' = w := by
  rcases (show c < 65 ∨ (65 ≤ c ∧ c ≤ 90) ∨ (91 ≤ c ∧ c ≤ 94) ∨ c = 95 ∨ c = 96 ∨ (97 ≤ c ∧ c ≤ 122) ∨ (123 ≤ c ∧ c < 128) ∨ 128 ≤ c from by omega) with h | ⟨h, h'⟩ | ⟨h, h'⟩ | h | h | ⟨h, h'⟩ | ⟨h, h'⟩ | h
  all_goals
    try subst h
    go_enter Try.func40, Try.ntmps40
    go_wp2
    go_ret
    exact ⟨ret_bool (by rw [Bool.eq_iff_iff]; simp [wstB]; try omega), rfl⟩

theorem isWordPart_any (c : Int) (w : World) (h0 : 0 ≤ c) (h1 : c ≤ 255) :
    Calls Try.prog 41 #[.int .u8 c] w fun e w' => e = .returned (.bool (wptB c)) ∧ w' = w := by
  go_enter Try.func41, Try.ntmps41
  go_wp2_with (first | (go_at_call 40; refine (isWordStart_any _ _ h0 h1).mono ?_; rintro e w' ⟨rfl, rfl⟩) | (go_at_call 43; refine (isDigit_any _ _ h0 h1).mono ?_; rintro e w' ⟨rfl, rfl⟩))
  all_goals
    go_ret
    exact ⟨ret_bool (by simp [wptB, *]), rfl⟩

theorem skipDigits_any (s : ByteArray) (v : Int) (w : World) (hs : s.size ≤ maxLen) (h0 : 0 ≤ v) (h1 : v ≤ s.size) :
    Calls Try.prog 54 #[.string s, .int .i64 v] w fun e w' => ∃ r : Nat, Hid (r = skipD s v.toNat) ∧ v ≤ r ∧ r ≤ s.size ∧ e = .returned (.int .i64 r) ∧ w' = w := by
  unfold maxLen at hs
  obtain ⟨i, rfl⟩ := Int.eq_ofNat_of_zero_le h0
  have hi : i ≤ s.size := by omega
  obtain ⟨T, hT⟩ : ∃ T, T = skipD s i := ⟨_, rfl⟩
  have hT1 := skipD_ge s i
  have hT2 := skipD_le s i hi
  rw [← hT] at hT1 hT2
  rw [Int.toNat_natCast]
  have HT : Hid (T = skipD s i) := hT
  clear hT h0 h1
  have hB : ∀ (k : Nat) (h : k < s.size), ((s[k]'h).toNat : Int) = bAt s k := fun k h => (bAt_eq s k h).symm
  go_enter Try.func54, Try.ntmps54
  go_wp2
  go_loop [1] (fun v => ∃ k n : Nat, k ≤ s.size ∧ v = .int .i64 k ∧ s.size ≤ n + k ∧ Hid (scan digB s n k = T)) (fun v => s.size - (intOf v).toNat)
  case atStart => exact ⟨i, s.size, hi, rfl, by omega, HT.out.symm⟩
  case round =>
    obtain ⟨k, n, hk, rfl, hn, hsc⟩ := hrel
    by_cases hlt : k < s.size
    · obtain ⟨m, rfl⟩ : ∃ m, n = m + 1 := ⟨n - 1, by omega⟩
      go_wp2_with (go_at_call 43; refine (isDigit_any _ _ (bAt_bd _ _).1 (bAt_bd _ _).2).mono ?_; rintro e w' ⟨rfl, rfl⟩)
      · go_round
        case rel => exact ⟨k + 1, m, by omega, by go_num, by omega, (scan_step digB s m k _ hlt rfl (by assumption)).symm.trans hsc.out⟩
        case measure => simp [intOf]; omega
      · go_ret
        exact ⟨T, HT, by omega, by omega, ret_int (by rw [← hsc.out, scan_stop digB s _ k _ rfl (by assumption)]), rfl⟩
    · go_wp2
      go_ret
      exact ⟨T, HT, by omega, by omega, ret_int (by rw [← hsc.out, scan_end digB s _ k hlt]), rfl⟩

theorem ret_ib {k : IntKind} {a b : Int} {c d : Bool} (h : a = b) (h' : c = d) : Ending.returned (.tuple #[.int k a, .bool c]) = .returned (.tuple #[.int k b, .bool d]) := by rw [h, h']

end Go.Proofs.Qxb6604722a

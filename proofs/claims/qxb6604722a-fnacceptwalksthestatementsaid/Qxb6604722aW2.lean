import Derived.Test.Qxb6604722aW1
namespace Go.Proofs.Qxb6604722a
open Go.RowKit Lx
set_option maxHeartbeats 1000000
set_option linter.unusedSimpArgs false
set_option linter.unusedVariables false

theorem skipD_congr (s : ByteArray) {a b : Nat} (h : a = b) : ((skipD s a : Nat) : Int) = ((skipD s b : Nat) : Int) := by rw [h]
theorem scanNumber_any (s : ByteArray) (w : World) (hs : s.size ≤ maxLen) :
    Calls Try.prog 52 #[.string s] w fun e w' => e = .returned (.tuple #[.int .i64 (scanNum s).1, .bool (scanNum s).2]) ∧ w' = w := by
  have hs0 := hs
  unfold maxLen at hs
  have hB : ∀ (k : Nat) (h : k < s.size), ((s[k]'h).toNat : Int) = bAt s k := fun k h => (bAt_eq s k h).symm
  go_enter Try.func52, Try.ntmps52
  go_wp2_with fail
  refine (skipDigits_any _ _ _ hs0 (by omega) (by omega)).mono ?_
  rintro e w' ⟨n0, hn0, hg0, hl0, rfl, rfl⟩
  by_cases hdot : n0 < s.size ∧ bAt s n0 = 46
  · obtain ⟨hd1, hd2⟩ := hdot
    go_wp2_with fail
    refine (skipDigits_any _ _ _ hs0 (by omega) (by omega)).mono ?_
    rintro e w' ⟨n1, hn1, hg1, hl1, rfl, rfl⟩
    have hS : scanNum s = if n1 = 1 then (0, false) else expo s n1 false := by
      have e0 := hn0.out
      have e1 := hn1.out
      rw [Int.toNat_zero] at e0
      rw [show ((n0 : Int) + 1).toNat = n0 + 1 from by omega] at e1
      rw [scanNum, ← e0, ← e1, if_pos ⟨hd1, hd2⟩]
    by_cases h11 : n1 = 1
    · rw [if_pos h11] at hS
      have HS : Hid (scanNum s = (0, false)) := hS
      clear hS
      go_wp2
      go_ret2
      exact ⟨by rw [HS.out]; rfl, rfl⟩
    · rw [if_neg h11] at hS
      have HS : Hid (scanNum s = expo s n1 false) := hS
      clear hS hn0 hn1 hd2
      go_wp2_with (first | (go_at_call 54; refine (skipDigits_any _ _ _ hs0 (by omega) (by omega)).mono ?_; rintro e w' ⟨n2, hn2, hg2, hl2, rfl, rfl⟩) | (go_at_call 43; refine (isDigit_any _ _ (bAt_bd _ _).1 (bAt_bd _ _).2).mono ?_; rintro e w' ⟨rfl, rfl⟩))
      all_goals
        go_ret2
        refine ⟨?_, rfl⟩
        rw [HS.out]
        go_light
        try (have e2 := Hid.out hn2; clear hn2; subst e2)
        refine ret_ib ?_ ?_
        all_goals
          clear HS
          unfold expo expAt
          repeat' split
        all_goals first | omega | (simp_all; done) | (simp_all; omega) | exact skipD_congr s (by omega)
  · have hS : scanNum s = if n0 = 0 then (0, false) else expo s n0 true := by
      have e0 := hn0.out
      rw [Int.toNat_zero] at e0
      rw [scanNum, ← e0, if_neg hdot]
    by_cases h11 : n0 = 0
    · rw [if_pos h11] at hS
      have HS : Hid (scanNum s = (0, false)) := hS
      clear hS
      subst h11
      by_cases hlt : 0 < s.size
      · have hne : (bAt s 0 == 46) = false := by
          rw [beq_eq_false_iff_ne]
          exact fun h => hdot ⟨hlt, h⟩
        clear hdot
        go_wp2
        go_ret2
        exact ⟨by rw [HS.out]; rfl, rfl⟩
      · clear hdot
        go_wp2
        go_ret2
        exact ⟨by rw [HS.out]; rfl, rfl⟩
    · rw [if_neg h11] at hS
      have HS : Hid (scanNum s = expo s n0 true) := hS
      clear hS hn0
      go_wp2_with (first | (go_at_call 54; refine (skipDigits_any _ _ _ hs0 (by omega) (by omega)).mono ?_; rintro e w' ⟨n2, hn2, hg2, hl2, rfl, rfl⟩) | (go_at_call 43; refine (isDigit_any _ _ (bAt_bd _ _).1 (bAt_bd _ _).2).mono ?_; rintro e w' ⟨rfl, rfl⟩))
      all_goals
        go_ret2
        refine ⟨?_, rfl⟩
        rw [HS.out]
        go_light
        try (have e2 := Hid.out hn2; clear hn2; subst e2)
        refine ret_ib ?_ ?_
        all_goals
          clear HS
          unfold expo expAt
          repeat' split
        all_goals first | omega | (simp_all; done) | (simp_all; omega) | exact skipD_congr s (by omega)
end Go.Proofs.Qxb6604722a

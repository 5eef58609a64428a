/- The laws' gates, and small helpers. -/
import Derived.Test.Qxb6605687aDoorH1
import Derived.Test.Qxb6605687aDoorR2
namespace Go.Proofs.Qxb6605687aDoor
open Go.RowKit
set_option maxHeartbeats 4000000
set_option maxRecDepth 100000
set_option linter.unusedSimpArgs false
set_option linter.unusedVariables false

theorem gate31 (p : Option Addr) (cp : Nat) (S : List ByteArray) (w : World) (H : SL w p S) (hn : S.length ≤ maxLen) :
    Calls Tryd.prog 31 #[.slice p S.length cp] w fun e w' => (∃ b, e = .returned (.bool b)) ∧ w' = w := by
  have HS : Hid (SL w p S) := H
  have hmx : S.length ≤ 9223372036854775807 := by unfold maxLen at hn; omega
  clear H hn
  generalize hL : S.length = n at *
  have HL : Hid (S.length = n) := hL
  clear hL
  by_cases hb : n ≤ 1048576
  · go_enter Tryd.func31, Tryd.ntmps31
    go_wp2
    go_loopg [3, 4] (n + 1) (fun g vz vi wr => ∃ z i : Nat, vz = .int .i64 (z : Int) ∧ vi = .int .i64 (i : Int) ∧ z ≤ 1048576 ∧ i ≤ n ∧ n < g + i ∧ wr = w)
    case atStart => exact ⟨n, 0, rfl, rfl, hb, by omega, by omega, rfl⟩
    case round =>
      obtain ⟨z, i, rfl, rfl, hz, hi, hg, rfl⟩ := hrel
      rcases Nat.lt_or_ge i n with hlt | hge
      · obtain ⟨a, rfl, hc⟩ := HS.out.c i (by rw [HL.out]; exact hlt)
        have hsz := HS.out.size _ _ _ i (by rw [HL.out]; exact hlt)
        generalize S.getD i default = si at *
        have hsz' : si.size ≤ 9223372036854775807 := by unfold maxLen at hsz; omega
        clear hsz
        by_cases h1 : si.size ≤ 1048576
        · by_cases h2 : z + si.size ≤ 1048576
          · go_wp2
            go_roundg (gk - 1)
            case rel => exact ⟨z + si.size, i + 1, by go_num, by go_num, h2, by omega, by omega, rfl⟩
            case measure => omega
          · go_wp2
            go_ret
            exact ⟨⟨_, rfl⟩, rfl⟩
        · go_wp2
          go_ret
          exact ⟨⟨_, rfl⟩, rfl⟩
      · go_wp2
        all_goals
          go_ret
          exact ⟨⟨_, rfl⟩, rfl⟩
  · go_enter Tryd.func31, Tryd.ntmps31
    go_wp2
    go_ret
    exact ⟨⟨_, rfl⟩, rfl⟩

theorem gate36 (p : Option Addr) (cp : Nat) (S : List ByteArray) (b1 b2 : Bool) (w : World) (H : SL w p S) (hn : S.length ≤ maxLen) :
    Calls Tryd.prog 36 #[.slice p S.length cp, .bool b1, .bool b2] w fun e w' => (∃ b, e = .returned (.bool b)) ∧ w' = w := by
  have HS : Hid (SL w p S) := H
  have hmx : S.length ≤ 9223372036854775807 := by unfold maxLen at hn; omega
  clear H hn
  generalize hL : S.length = n at *
  have HL : Hid (S.length = n) := hL
  clear hL
  by_cases hb : n ≤ 1048576
  · go_enter Tryd.func36, Tryd.ntmps36
    go_wp2
    go_loopg [7, 8] (n + 1) (fun g vz vi wr => ∃ z i : Nat, vz = .int .i64 (z : Int) ∧ vi = .int .i64 (i : Int) ∧ z ≤ 1048576 ∧ i ≤ n ∧ n < g + i ∧ wr = w)
    case atStart => exact ⟨n, 0, rfl, rfl, hb, by omega, by omega, rfl⟩
    case round =>
      obtain ⟨z, i, rfl, rfl, hz, hi, hg, rfl⟩ := hrel
      rcases Nat.lt_or_ge i n with hlt | hge
      · obtain ⟨a, rfl, hc⟩ := HS.out.c i (by rw [HL.out]; exact hlt)
        have hsz := HS.out.size _ _ _ i (by rw [HL.out]; exact hlt)
        generalize S.getD i default = si at *
        have hsz' : si.size ≤ 9223372036854775807 := by unfold maxLen at hsz; omega
        clear hsz
        by_cases h1 : si.size ≤ 1048576
        · by_cases h2 : z + si.size ≤ 1048576
          · go_wp2
            go_roundg (gk - 1)
            case rel => exact ⟨z + si.size, i + 1, by go_num, by go_num, h2, by omega, by omega, rfl⟩
            case measure => omega
          · go_wp2
            go_ret
            exact ⟨⟨_, rfl⟩, rfl⟩
        · go_wp2
          go_ret
          exact ⟨⟨_, rfl⟩, rfl⟩
      · go_wp2
        all_goals
          go_ret
          exact ⟨⟨_, rfl⟩, rfl⟩
  · go_enter Tryd.func36, Tryd.ntmps36
    go_wp2
    go_ret
    exact ⟨⟨_, rfl⟩, rfl⟩

theorem gate29 (p : Option Addr) (cp : Nat) (S : List ByteArray) (tl : ByteArray) (w : World) (H : SL w p S) (hn : S.length ≤ maxLen) (ht : tl.size ≤ 9223372036854775807) :
    Calls Tryd.prog 29 #[.slice p S.length cp, .string tl] w fun e w' => (∃ b, e = .returned (.bool b)) ∧ w' = w := by
  have HS : Hid (SL w p S) := H
  have hmx : S.length ≤ 9223372036854775807 := by unfold maxLen at hn; omega
  clear H hn
  generalize hL : S.length = n at *
  have HL : Hid (S.length = n) := hL
  clear hL
  by_cases hb : n ≤ 1048576
  · go_enter Tryd.func29, Tryd.ntmps29
    go_wp2
    go_loopg [5, 6] (n + 1) (fun g vz vi wr => ∃ z i : Nat, vz = .int .i64 (z : Int) ∧ vi = .int .i64 (i : Int) ∧ z ≤ 1048576 ∧ i ≤ n ∧ n < g + i ∧ wr = w)
    case atStart => exact ⟨n, 0, rfl, rfl, hb, by omega, by omega, rfl⟩
    case round =>
      obtain ⟨z, i, rfl, rfl, hz, hi, hg, rfl⟩ := hrel
      rcases Nat.lt_or_ge i n with hlt | hge
      · obtain ⟨a, rfl, hc⟩ := HS.out.c i (by rw [HL.out]; exact hlt)
        have hsz := HS.out.size _ _ _ i (by rw [HL.out]; exact hlt)
        generalize S.getD i default = si at *
        have hsz' : si.size ≤ 9223372036854775807 := by unfold maxLen at hsz; omega
        clear hsz
        by_cases h1 : si.size ≤ 1048576
        · by_cases h2 : z + si.size ≤ 1048576
          · go_wp2
            go_roundg (gk - 1)
            case rel => exact ⟨z + si.size, i + 1, by go_num, by go_num, h2, by omega, by omega, rfl⟩
            case measure => omega
          · go_wp2
            go_ret
            exact ⟨⟨_, rfl⟩, rfl⟩
        · go_wp2
          go_ret
          exact ⟨⟨_, rfl⟩, rfl⟩
      · go_wp2
        all_goals
          go_ret
          exact ⟨⟨_, rfl⟩, rfl⟩
  · go_enter Tryd.func29, Tryd.ntmps29
    go_wp2
    go_ret
    exact ⟨⟨_, rfl⟩, rfl⟩

theorem notPlain_is (c : Int) (v : Bool) (w : World) (hv : (c == 32 || (decide (9 ≤ c) && decide (c ≤ 13)) || c == 34 || c == 39 || c == 0) = v) : Calls Tryd.prog 37 #[.int .u8 c] w fun e w' => e = .returned (.bool v) ∧ w' = w := by
  subst hv
  cases h1 : (c == 32) <;> cases h2 : decide (9 ≤ c) <;> cases h3 : decide (c ≤ 13) <;> cases h4 : (c == 34) <;> cases h5 : (c == 39) <;> cases h6 : (c == 0) <;>
    first
    | (exfalso; simp only [decide_eq_true_eq, decide_eq_false_iff_not, beq_iff_eq, beq_eq_false_iff_ne] at h1 h2 h3 h4 h5 h6; omega)
    | (go_enter Tryd.func37, Tryd.ntmps37
       go_wp2
       go_ret
       exact ⟨rfl, rfl⟩)
theorem escaped_is (c : Int) (v : Bool) (w : World) (hv : (decide (c < 32) || decide (127 ≤ c) || c == 34 || c == 92) = v) : Calls Tryd.prog 32 #[.int .u8 c] w fun e w' => e = .returned (.bool v) ∧ w' = w := by
  subst hv
  cases h1 : decide (c < 32) <;> cases h2 : decide (127 ≤ c) <;> cases h4 : (c == 34) <;> cases h5 : (c == 92) <;>
    first
    | (exfalso; simp only [decide_eq_true_eq, decide_eq_false_iff_not, beq_iff_eq, beq_eq_false_iff_ne] at h1 h2 h4 h5; omega)
    | (go_enter Tryd.func32, Tryd.ntmps32
       go_wp2
       go_ret
       exact ⟨rfl, rfl⟩)
/-- The hex digit of d. -/
def hxd (d : Int) : Int := if d < 10 then d + 48 else d + 87
theorem zzHex_is (d : Int) (w : World) (hd : 0 ≤ d ∧ d ≤ 15) : Calls Tryd.prog 33 #[.int .u8 d] w fun e w' => e = .returned (.int .u8 (hxd d)) ∧ w' = w := by
  obtain ⟨h0, h1⟩ := hd
  unfold hxd
  by_cases h : d < 10
  · rw [if_pos h, show d + 48 = 48 + d by omega]
    go_enter Tryd.func33, Tryd.ntmps33
    go_wp2
    go_ret
    exact ⟨rfl, rfl⟩
  · rw [if_neg h, show d + 87 = 97 + d - 10 by omega]
    have hd : decide (d < 10) = false := by simp; omega
    go_enter Tryd.func33, Tryd.ntmps33
    go_wp2
    go_ret
    exact ⟨rfl, rfl⟩
end Go.Proofs.Qxb6605687aDoor

/- visHasBlank, visHasByte, the gate. -/
import Derived.Test.Qxb6605742aW4
namespace Go.Proofs.Qxb6605742a
open Go.RowKit
set_option maxHeartbeats 8000000
set_option maxRecDepth 100000
set_option linter.unusedSimpArgs false
set_option linter.unusedVariables false

theorem dl (s : ByteArray) (k : Nat) (h : k < s.size) : s.data.toList.drop k = s[k]'h :: s.data.toList.drop (k + 1) := by
  have h1 : k < s.data.toList.length := by rw [← Lib.size_eq]; exact h
  rw [List.drop_eq_getElem_cons h1]
  congr 1
def isBl (b : UInt8) : Bool := b == 32 || b == 9
theorem u8_int (x : UInt8) (n : Nat) (hn : n < 256) : ((x.toNat : Int) = (n : Int)) ↔ x = UInt8.ofNat n := by
  constructor
  · intro h
    apply UInt8.toNat.inj
    rw [UInt8.toNat_ofNat']
    omega
  · intro h
    rw [h, UInt8.toNat_ofNat']
    omega

theorem blank_is (s : ByteArray) (v : Bool) (w : World) (hs : s.size ≤ 2000000) (hv : s.data.toList.any isBl = v) :
    Calls Try.prog 25 #[.string s] w fun e w' => e = .returned (.bool v) ∧ w' = w := by
  have HV : Hid (s.data.toList.any isBl = v) := hv
  clear hv
  go_enter Try.func25, Try.ntmps25
  go_wp2
  go_loopg [3] (s.size + 1) (fun g v3 wr => ∃ k : Nat, v3 = .int .i64 (k : Int) ∧ k ≤ s.size ∧ s.size < g + k ∧ Hid ((s.data.toList.drop k).any isBl = v) ∧ wr = w)
  case atStart => exact ⟨0, rfl, by omega, by omega, HV.out, rfl⟩
  case round =>
    obtain ⟨k, rfl, hk, hg, HF, rfl⟩ := hrel
    clear HV
    rcases Nat.lt_or_ge k s.size with hlt | hge
    · obtain ⟨x, hx⟩ : ∃ x : UInt8, s[k]'hlt = x := ⟨_, rfl⟩
      have hd : decide ((k : Int) < s.size) = true := by simp; omega
      have HD : Hid (s.data.toList.drop k = x :: s.data.toList.drop (k + 1)) := by rw [← hx]; exact dl s k hlt
      obtain ⟨y, hy⟩ : ∃ y : Int, (x.toNat : Int) = y := ⟨_, rfl⟩
      have hbk : ((s[k]'hlt).toNat : Int) = y := by rw [hx]; exact hy
      by_cases h32 : y = 32
      · have hvt : v = true := by
          have : x = 32 := (u8_int x 32 (by omega)).1 (by rw [hy, h32]; rfl)
          rw [← HF.out, HD.out, this]
          simp [isBl]
        clear hx hy
        subst hvt h32
        go_wp2
        go_ret
        exact ⟨rfl, rfl⟩
      · by_cases h9 : y = 9
        · have hvt : v = true := by
            have : x = 9 := (u8_int x 9 (by omega)).1 (by rw [hy, h9]; rfl)
            rw [← HF.out, HD.out, this]
            simp [isBl]
          clear hx hy
          subst hvt h9
          go_wp2
          go_ret
          exact ⟨rfl, rfl⟩
        · have e32 : (y == 32) = false := beq_eq_false_iff_ne.2 h32
          have e9 : (y == 9) = false := beq_eq_false_iff_ne.2 h9
          have HF2 : Hid ((s.data.toList.drop (k + 1)).any isBl = v) := by
            show _ = _
            rw [← HF.out, HD.out, List.any_cons]
            have n32 : x ≠ 32 := fun e => h32 (by rw [← hy, e]; rfl)
            have n9 : x ≠ 9 := fun e => h9 (by rw [← hy, e]; rfl)
            simp [isBl, n32, n9]
          clear hx hy h32 h9
          go_wp2
          go_roundg (gk - 1)
          case rel => exact ⟨k + 1, by go_num, by omega, by omega, HF2.out, rfl⟩
          case measure => omega
    · have hd : decide ((k : Int) < s.size) = false := by simp; omega
      have hvf : v = false := by rw [← HF.out, List.drop_eq_nil_of_le (by rw [← Lib.size_eq]; omega)]; rfl
      subst hvf
      go_wp2
      go_ret
      exact ⟨rfl, rfl⟩

theorem has_is (s : ByteArray) (v : Bool) (w : World) (hs : s.size ≤ 2000000) (hv : s.data.toList.contains 125 = v) :
    Calls Try.prog 27 #[.string s, .int .u8 125] w fun e w' => e = .returned (.bool v) ∧ w' = w := by
  have HV : Hid (s.data.toList.contains 125 = v) := hv
  clear hv
  go_enter Try.func27, Try.ntmps27
  go_wp2
  go_loopg [5] (s.size + 1) (fun g v3 wr => ∃ k : Nat, v3 = .int .i64 (k : Int) ∧ k ≤ s.size ∧ s.size < g + k ∧ Hid ((s.data.toList.drop k).contains 125 = v) ∧ wr = w)
  case atStart => exact ⟨0, rfl, by omega, by omega, HV.out, rfl⟩
  case round =>
    obtain ⟨k, rfl, hk, hg, HF, rfl⟩ := hrel
    clear HV
    rcases Nat.lt_or_ge k s.size with hlt | hge
    · obtain ⟨x, hx⟩ : ∃ x : UInt8, s[k]'hlt = x := ⟨_, rfl⟩
      have hd : decide ((k : Int) < s.size) = true := by simp; omega
      have HD : Hid (s.data.toList.drop k = x :: s.data.toList.drop (k + 1)) := by rw [← hx]; exact dl s k hlt
      obtain ⟨y, hy⟩ : ∃ y : Int, (x.toNat : Int) = y := ⟨_, rfl⟩
      have hbk : ((s[k]'hlt).toNat : Int) = y := by rw [hx]; exact hy
      by_cases h32 : y = 125
      · have hvt : v = true := by
          have : x = 125 := (u8_int x 125 (by omega)).1 (by rw [hy, h32]; rfl)
          rw [← HF.out, HD.out, this]
          simp
        clear hx hy
        subst hvt h32
        go_wp2
        go_ret
        exact ⟨rfl, rfl⟩
      · have e32 : (y == 125) = false := beq_eq_false_iff_ne.2 h32
        have HF2 : Hid ((s.data.toList.drop (k + 1)).contains 125 = v) := by
          show _ = _
          rw [← HF.out, HD.out]
          have n32 : x ≠ 125 := fun e => h32 (by rw [← hy, e]; rfl)
          rw [List.contains_cons, show ((125 : UInt8) == x) = false from beq_eq_false_iff_ne.2 (fun e => n32 e.symm), Bool.false_or]
        clear hx hy h32
        go_wp2
        go_roundg (gk - 1)
        case rel => exact ⟨k + 1, by go_num, by omega, by omega, HF2.out, rfl⟩
        case measure => omega
    · have hd : decide ((k : Int) < s.size) = false := by simp; omega
      have hvf : v = false := by rw [← HF.out, List.drop_eq_nil_of_le (by rw [← Lib.size_eq]; omega)]; rfl
      subst hvf
      go_wp2
      go_ret
      exact ⟨rfl, rfl⟩

theorem gate24 (a b c : ByteArray) (w : World) (ha : a.size ≤ 9223372036854775807) (hb : b.size ≤ 9223372036854775807) (hc : c.size ≤ 9223372036854775807) :
    Calls Try.prog 24 #[.string a, .string b, .string c] w fun e w' => (∃ v, e = .returned (.bool v)) ∧ w' = w := by
  by_cases h1 : a.size ≤ 1048576
  · by_cases h2 : b.size ≤ 1048576
    · by_cases h3 : c.size ≤ 1048576
      · by_cases h4 : a.size + b.size ≤ 1048576
        · by_cases h5 : a.size + b.size + c.size ≤ 1048576
          all_goals
            go_enter Try.func24, Try.ntmps24
            go_wp2
            go_ret
            exact ⟨⟨_, rfl⟩, rfl⟩
        · go_enter Try.func24, Try.ntmps24
          go_wp2
          go_ret
          exact ⟨⟨_, rfl⟩, rfl⟩
      · by_cases h4 : a.size + b.size ≤ 1048576
        all_goals
          go_enter Try.func24, Try.ntmps24
          go_wp2
          go_ret
          exact ⟨⟨_, rfl⟩, rfl⟩
    · go_enter Try.func24, Try.ntmps24
      go_wp2
      go_ret
      exact ⟨⟨_, rfl⟩, rfl⟩
  · go_enter Try.func24, Try.ntmps24
    go_wp2
    go_ret
    exact ⟨⟨_, rfl⟩, rfl⟩
end Go.Proofs.Qxb6605742a

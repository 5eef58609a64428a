/- visualiserMisreads; the law's helpers. -/
import Derived.Test.Qxb6605742aW3
namespace Go.Proofs.Qxb6605742a
open Go.RowKit
set_option maxHeartbeats 8000000
set_option maxRecDepth 100000
set_option linter.unusedSimpArgs false
set_option linter.unusedVariables false

theorem vm_none (s : ByteArray) (w : World) (hs : s.size ≤ 2000000) (hia : Lib.indexAny s.data.toList [32, 9] = -1) :
    Calls Try.prog 31 #[.string s] w fun e w' => e = .returned (.bool false) ∧ Below w.heap.size w w' := by
  have HC : Hid (Calls Try.prog 32 #[.string s, .string bl] w fun e w' => e = .returned (.int .i64 (-1)) ∧ Below w.heap.size w w') := by
    have := indexAny_bl s w (by omega)
    rw [hia] at this
    exact this
  clear hia
  go_enter Try.func31, Try.ntmps31
  go_wp2_with (go_at_call 32; refine HC.out.mono ?_; rintro e w1 ⟨rfl, hb⟩)
  go_ret
  exact ⟨rfl, hb⟩

theorem vm_tab (s : ByteArray) (i : Nat) (w : World) (hs : s.size ≤ 2000000) (hi : i < s.size) (hia : Lib.indexAny s.data.toList [32, 9] = i) (c : Int) (hc : ∀ h : i < s.size, ((s[i]'h).toNat : Int) = c) (hne : c ≠ 32) :
    Calls Try.prog 31 #[.string s] w fun e w' => e = .returned (.bool false) ∧ Below w.heap.size w w' := by
  have HC : Hid (Calls Try.prog 32 #[.string s, .string bl] w fun e w' => e = .returned (.int .i64 (i : Int)) ∧ Below w.heap.size w w') := by
    have := indexAny_bl s w (by omega)
    rw [hia] at this
    exact this
  clear hia
  have hn : decide ((i : Int) < 0) = false := by simp
  have hcc := hc hi
  have h32 : (c != 32) = true := bne_iff_ne.2 hne
  have hb1 : (i : Int) < s.size := by omega
  go_enter Try.func31, Try.ntmps31
  go_wp2_with (go_at_call 32; refine HC.out.mono ?_; rintro e w1 ⟨rfl, hb⟩)
  go_ret
  exact ⟨rfl, hb⟩

theorem vm_sp (s : ByteArray) (i : Nat) (rest rest1 : ByteArray) (v : Bool) (w : World) (hs : s.size ≤ 2000000) (hi : i < s.size) (hia : Lib.indexAny s.data.toList [32, 9] = i) (hc : ∀ h : i < s.size, ((s[i]'h).toNat : Int) = 32)
    (hr : s.extract (i + 1) s.size = rest) (hr0 : 1 ≤ rest.size) (hp : Lib.hasPrefix rest.data.toList [123] = true) (hr1 : rest.extract 1 rest.size = rest1) (hv : decide (0 ≤ Lib.indexByte rest1.data.toList 125) = v) :
    Calls Try.prog 31 #[.string s] w fun e w' => e = .returned (.bool v) ∧ Below w.heap.size w w' := by
  have HC : Hid (Calls Try.prog 32 #[.string s, .string bl] w fun e w' => e = .returned (.int .i64 (i : Int)) ∧ Below w.heap.size w w') := by
    have := indexAny_bl s w (by omega)
    rw [hia] at this
    exact this
  have HP : Hid (∀ w, Calls Try.prog 33 #[.string rest, .string ⟨#[123]⟩] w fun e w' => e = .returned (.bool true) ∧ w' = w) := fun w => by
    have := Try.strings_HasPrefix rest ⟨#[123]⟩ w
    rw [show (⟨#[123]⟩ : ByteArray).data.toList = [123] from rfl, hp] at this
    exact this
  have HQ : Hid (∀ w, Calls Try.prog 34 #[.string rest1, .string ⟨#[125]⟩] w fun e w' => e = .returned (.bool v) ∧ w' = w) := fun w => by
    have := Try.strings_Contains_one rest1 125 w
    rw [hv] at this
    exact this
  have hsl : ∀ W, (Instr.slice 9 (.string s) (some (.int .i64 ((i : Int) + 1))) none none).run Try.prog W = .ok (.string rest) W := fun W => by
    rw [run_slice_string_from_if _ _ _ _ _ Try.underlying9, if_pos (by omega), ← hr]
    rfl
  have hsl1 : ∀ W, (Instr.slice 9 (.string rest) (some (.int .i64 1)) none none).run Try.prog W = .ok (.string rest1) W := fun W => by
    rw [run_slice_string_from_if _ _ _ _ _ Try.underlying9, if_pos (by omega), ← hr1]
    rfl
  clear hia hp hv hr hr1
  have hn : decide ((i : Int) < 0) = false := by simp
  have hcc := hc hi
  have hb1 : (i : Int) < s.size := by omega
  go_enter Try.func31, Try.ntmps31
  go_wp2_with (first | (go_at_call 32; refine HC.out.mono ?_; rintro e w1 ⟨rfl, hb⟩) | (go_at_call 33; refine (HP.out _).mono ?_; rintro e9 w9 ⟨rfl, h9⟩; rw [h9]; clear h9 w9) | (go_at_call 34; refine (HQ.out _).mono ?_; rintro e9 w9 ⟨rfl, h9⟩; rw [h9]; clear h9 w9))
  go_ret
  exact ⟨rfl, hb⟩

/-- ZZvisualiserMisreads hands on. -/
theorem zz_of (s : ByteArray) (v : Bool) (w : World) (h : Calls Try.prog 31 #[.string s] w fun e w' => e = .returned (.bool v) ∧ Below w.heap.size w w') :
    Calls Try.prog 26 #[.string s] w fun e w' => e = .returned (.bool v) ∧ Below w.heap.size w w' := by
  have HC : Hid (Calls Try.prog 31 #[.string s] w fun e w' => e = .returned (.bool v) ∧ Below w.heap.size w w') := h
  clear h
  go_enter Try.func26, Try.ntmps26
  go_wp2_with (go_at_call 31; refine HC.out.mono ?_; rintro e w1 ⟨rfl, hb⟩)
  go_ret
  exact ⟨rfl, hb⟩
end Go.Proofs.Qxb6605742a

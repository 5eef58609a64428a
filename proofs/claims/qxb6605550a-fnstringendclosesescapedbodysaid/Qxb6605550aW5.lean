/- The escape: whatever byte asks for one. -/
import Derived.Test.Qxb6605550aW4
namespace Go.Proofs.Qxb6605550a
open Go.RowKit Go.Deep Pl
set_option maxHeartbeats 4000000
set_option linter.unusedSimpArgs false
set_option linter.unusedVariables false

def hexOf (n : Int) : Int := if n < 10 then 48 + n else 87 + n
set_option maxRecDepth 100000 in
theorem esc_six (r : Int) (B g cap : Nat) (xs : List Int) (w : World) (h : Raw w B g cap xs) (hcap : xs.length + 6 ≤ cap)
    (h0 : 0 ≤ r) (h1 : r < 32) (n2 : r ≠ 8) (n3 : r ≠ 12) (n4 : r ≠ 10) (n5 : r ≠ 13) (n6 : r ≠ 9) :
    Calls Try.prog 24 #[.slice (some ⟨g, 0, none⟩) xs.length cap, .int .i32 r] w fun e w' => e = .returned (.slice (some ⟨g, 0, none⟩) (xs.length + 6) cap) ∧ Raw w' B g cap (xs ++ [92, 117, 48, 48, hexOf (r / 16), hexOf (r % 16)]) ∧ w.grownBy w' (some g) := by
  have hr : r = 0 ∨ r = 1 ∨ r = 2 ∨ r = 3 ∨ r = 4 ∨ r = 5 ∨ r = 6 ∨ r = 7 ∨ r = 11 ∨ r = 14 ∨ r = 15 ∨ r = 16 ∨ r = 17 ∨ r = 18 ∨ r = 19 ∨ r = 20 ∨ r = 21 ∨ r = 22 ∨ r = 23 ∨ r = 24 ∨ r = 25 ∨ r = 26 ∨ r = 27 ∨ r = 28 ∨ r = 29 ∨ r = 30 ∨ r = 31 := by omega
  clear h0 h1 n2 n3 n4 n5 n6
  rcases hr with rfl | rfl | rfl | rfl | rfl | rfl | rfl | rfl | rfl | rfl | rfl | rfl | rfl | rfl | rfl | rfl | rfl | rfl | rfl | rfl | rfl | rfl | rfl | rfl | rfl | rfl | rfl
  · exact esc_six_of 0 0 0 48 48 B g cap xs w h hcap rfl rfl rfl rfl rfl rfl rfl (fun _ => by kernel_rfl) (fun _ => by kernel_rfl) (fun _ => by kernel_rfl) (fun _ => by kernel_rfl) (fun _ => by kernel_rfl) (fun _ => by kernel_rfl) (fun _ => by kernel_rfl) (fun _ => by kernel_rfl) (fun _ => by kernel_rfl)
  · exact esc_six_of 1 0 1 48 49 B g cap xs w h hcap rfl rfl rfl rfl rfl rfl rfl (fun _ => by kernel_rfl) (fun _ => by kernel_rfl) (fun _ => by kernel_rfl) (fun _ => by kernel_rfl) (fun _ => by kernel_rfl) (fun _ => by kernel_rfl) (fun _ => by kernel_rfl) (fun _ => by kernel_rfl) (fun _ => by kernel_rfl)
  · exact esc_six_of 2 0 2 48 50 B g cap xs w h hcap rfl rfl rfl rfl rfl rfl rfl (fun _ => by kernel_rfl) (fun _ => by kernel_rfl) (fun _ => by kernel_rfl) (fun _ => by kernel_rfl) (fun _ => by kernel_rfl) (fun _ => by kernel_rfl) (fun _ => by kernel_rfl) (fun _ => by kernel_rfl) (fun _ => by kernel_rfl)
  · exact esc_six_of 3 0 3 48 51 B g cap xs w h hcap rfl rfl rfl rfl rfl rfl rfl (fun _ => by kernel_rfl) (fun _ => by kernel_rfl) (fun _ => by kernel_rfl) (fun _ => by kernel_rfl) (fun _ => by kernel_rfl) (fun _ => by kernel_rfl) (fun _ => by kernel_rfl) (fun _ => by kernel_rfl) (fun _ => by kernel_rfl)
  · exact esc_six_of 4 0 4 48 52 B g cap xs w h hcap rfl rfl rfl rfl rfl rfl rfl (fun _ => by kernel_rfl) (fun _ => by kernel_rfl) (fun _ => by kernel_rfl) (fun _ => by kernel_rfl) (fun _ => by kernel_rfl) (fun _ => by kernel_rfl) (fun _ => by kernel_rfl) (fun _ => by kernel_rfl) (fun _ => by kernel_rfl)
  · exact esc_six_of 5 0 5 48 53 B g cap xs w h hcap rfl rfl rfl rfl rfl rfl rfl (fun _ => by kernel_rfl) (fun _ => by kernel_rfl) (fun _ => by kernel_rfl) (fun _ => by kernel_rfl) (fun _ => by kernel_rfl) (fun _ => by kernel_rfl) (fun _ => by kernel_rfl) (fun _ => by kernel_rfl) (fun _ => by kernel_rfl)
  · exact esc_six_of 6 0 6 48 54 B g cap xs w h hcap rfl rfl rfl rfl rfl rfl rfl (fun _ => by kernel_rfl) (fun _ => by kernel_rfl) (fun _ => by kernel_rfl) (fun _ => by kernel_rfl) (fun _ => by kernel_rfl) (fun _ => by kernel_rfl) (fun _ => by kernel_rfl) (fun _ => by kernel_rfl) (fun _ => by kernel_rfl)
  · exact esc_six_of 7 0 7 48 55 B g cap xs w h hcap rfl rfl rfl rfl rfl rfl rfl (fun _ => by kernel_rfl) (fun _ => by kernel_rfl) (fun _ => by kernel_rfl) (fun _ => by kernel_rfl) (fun _ => by kernel_rfl) (fun _ => by kernel_rfl) (fun _ => by kernel_rfl) (fun _ => by kernel_rfl) (fun _ => by kernel_rfl)
  · exact esc_six_of 11 0 11 48 98 B g cap xs w h hcap rfl rfl rfl rfl rfl rfl rfl (fun _ => by kernel_rfl) (fun _ => by kernel_rfl) (fun _ => by kernel_rfl) (fun _ => by kernel_rfl) (fun _ => by kernel_rfl) (fun _ => by kernel_rfl) (fun _ => by kernel_rfl) (fun _ => by kernel_rfl) (fun _ => by kernel_rfl)
  · exact esc_six_of 14 0 14 48 101 B g cap xs w h hcap rfl rfl rfl rfl rfl rfl rfl (fun _ => by kernel_rfl) (fun _ => by kernel_rfl) (fun _ => by kernel_rfl) (fun _ => by kernel_rfl) (fun _ => by kernel_rfl) (fun _ => by kernel_rfl) (fun _ => by kernel_rfl) (fun _ => by kernel_rfl) (fun _ => by kernel_rfl)
  · exact esc_six_of 15 0 15 48 102 B g cap xs w h hcap rfl rfl rfl rfl rfl rfl rfl (fun _ => by kernel_rfl) (fun _ => by kernel_rfl) (fun _ => by kernel_rfl) (fun _ => by kernel_rfl) (fun _ => by kernel_rfl) (fun _ => by kernel_rfl) (fun _ => by kernel_rfl) (fun _ => by kernel_rfl) (fun _ => by kernel_rfl)
  · exact esc_six_of 16 1 0 49 48 B g cap xs w h hcap rfl rfl rfl rfl rfl rfl rfl (fun _ => by kernel_rfl) (fun _ => by kernel_rfl) (fun _ => by kernel_rfl) (fun _ => by kernel_rfl) (fun _ => by kernel_rfl) (fun _ => by kernel_rfl) (fun _ => by kernel_rfl) (fun _ => by kernel_rfl) (fun _ => by kernel_rfl)
  · exact esc_six_of 17 1 1 49 49 B g cap xs w h hcap rfl rfl rfl rfl rfl rfl rfl (fun _ => by kernel_rfl) (fun _ => by kernel_rfl) (fun _ => by kernel_rfl) (fun _ => by kernel_rfl) (fun _ => by kernel_rfl) (fun _ => by kernel_rfl) (fun _ => by kernel_rfl) (fun _ => by kernel_rfl) (fun _ => by kernel_rfl)
  · exact esc_six_of 18 1 2 49 50 B g cap xs w h hcap rfl rfl rfl rfl rfl rfl rfl (fun _ => by kernel_rfl) (fun _ => by kernel_rfl) (fun _ => by kernel_rfl) (fun _ => by kernel_rfl) (fun _ => by kernel_rfl) (fun _ => by kernel_rfl) (fun _ => by kernel_rfl) (fun _ => by kernel_rfl) (fun _ => by kernel_rfl)
  · exact esc_six_of 19 1 3 49 51 B g cap xs w h hcap rfl rfl rfl rfl rfl rfl rfl (fun _ => by kernel_rfl) (fun _ => by kernel_rfl) (fun _ => by kernel_rfl) (fun _ => by kernel_rfl) (fun _ => by kernel_rfl) (fun _ => by kernel_rfl) (fun _ => by kernel_rfl) (fun _ => by kernel_rfl) (fun _ => by kernel_rfl)
  · exact esc_six_of 20 1 4 49 52 B g cap xs w h hcap rfl rfl rfl rfl rfl rfl rfl (fun _ => by kernel_rfl) (fun _ => by kernel_rfl) (fun _ => by kernel_rfl) (fun _ => by kernel_rfl) (fun _ => by kernel_rfl) (fun _ => by kernel_rfl) (fun _ => by kernel_rfl) (fun _ => by kernel_rfl) (fun _ => by kernel_rfl)
  · exact esc_six_of 21 1 5 49 53 B g cap xs w h hcap rfl rfl rfl rfl rfl rfl rfl (fun _ => by kernel_rfl) (fun _ => by kernel_rfl) (fun _ => by kernel_rfl) (fun _ => by kernel_rfl) (fun _ => by kernel_rfl) (fun _ => by kernel_rfl) (fun _ => by kernel_rfl) (fun _ => by kernel_rfl) (fun _ => by kernel_rfl)
  · exact esc_six_of 22 1 6 49 54 B g cap xs w h hcap rfl rfl rfl rfl rfl rfl rfl (fun _ => by kernel_rfl) (fun _ => by kernel_rfl) (fun _ => by kernel_rfl) (fun _ => by kernel_rfl) (fun _ => by kernel_rfl) (fun _ => by kernel_rfl) (fun _ => by kernel_rfl) (fun _ => by kernel_rfl) (fun _ => by kernel_rfl)
  · exact esc_six_of 23 1 7 49 55 B g cap xs w h hcap rfl rfl rfl rfl rfl rfl rfl (fun _ => by kernel_rfl) (fun _ => by kernel_rfl) (fun _ => by kernel_rfl) (fun _ => by kernel_rfl) (fun _ => by kernel_rfl) (fun _ => by kernel_rfl) (fun _ => by kernel_rfl) (fun _ => by kernel_rfl) (fun _ => by kernel_rfl)
  · exact esc_six_of 24 1 8 49 56 B g cap xs w h hcap rfl rfl rfl rfl rfl rfl rfl (fun _ => by kernel_rfl) (fun _ => by kernel_rfl) (fun _ => by kernel_rfl) (fun _ => by kernel_rfl) (fun _ => by kernel_rfl) (fun _ => by kernel_rfl) (fun _ => by kernel_rfl) (fun _ => by kernel_rfl) (fun _ => by kernel_rfl)
  · exact esc_six_of 25 1 9 49 57 B g cap xs w h hcap rfl rfl rfl rfl rfl rfl rfl (fun _ => by kernel_rfl) (fun _ => by kernel_rfl) (fun _ => by kernel_rfl) (fun _ => by kernel_rfl) (fun _ => by kernel_rfl) (fun _ => by kernel_rfl) (fun _ => by kernel_rfl) (fun _ => by kernel_rfl) (fun _ => by kernel_rfl)
  · exact esc_six_of 26 1 10 49 97 B g cap xs w h hcap rfl rfl rfl rfl rfl rfl rfl (fun _ => by kernel_rfl) (fun _ => by kernel_rfl) (fun _ => by kernel_rfl) (fun _ => by kernel_rfl) (fun _ => by kernel_rfl) (fun _ => by kernel_rfl) (fun _ => by kernel_rfl) (fun _ => by kernel_rfl) (fun _ => by kernel_rfl)
  · exact esc_six_of 27 1 11 49 98 B g cap xs w h hcap rfl rfl rfl rfl rfl rfl rfl (fun _ => by kernel_rfl) (fun _ => by kernel_rfl) (fun _ => by kernel_rfl) (fun _ => by kernel_rfl) (fun _ => by kernel_rfl) (fun _ => by kernel_rfl) (fun _ => by kernel_rfl) (fun _ => by kernel_rfl) (fun _ => by kernel_rfl)
  · exact esc_six_of 28 1 12 49 99 B g cap xs w h hcap rfl rfl rfl rfl rfl rfl rfl (fun _ => by kernel_rfl) (fun _ => by kernel_rfl) (fun _ => by kernel_rfl) (fun _ => by kernel_rfl) (fun _ => by kernel_rfl) (fun _ => by kernel_rfl) (fun _ => by kernel_rfl) (fun _ => by kernel_rfl) (fun _ => by kernel_rfl)
  · exact esc_six_of 29 1 13 49 100 B g cap xs w h hcap rfl rfl rfl rfl rfl rfl rfl (fun _ => by kernel_rfl) (fun _ => by kernel_rfl) (fun _ => by kernel_rfl) (fun _ => by kernel_rfl) (fun _ => by kernel_rfl) (fun _ => by kernel_rfl) (fun _ => by kernel_rfl) (fun _ => by kernel_rfl) (fun _ => by kernel_rfl)
  · exact esc_six_of 30 1 14 49 101 B g cap xs w h hcap rfl rfl rfl rfl rfl rfl rfl (fun _ => by kernel_rfl) (fun _ => by kernel_rfl) (fun _ => by kernel_rfl) (fun _ => by kernel_rfl) (fun _ => by kernel_rfl) (fun _ => by kernel_rfl) (fun _ => by kernel_rfl) (fun _ => by kernel_rfl) (fun _ => by kernel_rfl)
  · exact esc_six_of 31 1 15 49 102 B g cap xs w h hcap rfl rfl rfl rfl rfl rfl rfl (fun _ => by kernel_rfl) (fun _ => by kernel_rfl) (fun _ => by kernel_rfl) (fun _ => by kernel_rfl) (fun _ => by kernel_rfl) (fun _ => by kernel_rfl) (fun _ => by kernel_rfl) (fun _ => by kernel_rfl) (fun _ => by kernel_rfl)

theorem hexOf_in (n : Int) (h0 : 0 ≤ n) (h1 : n < 16) : 48 ≤ hexOf n ∧ hexOf n ≤ 102 ∧ hexOf n ≠ 92 := by
  unfold hexOf
  split <;> omega

set_option maxRecDepth 100000 in
/-- The Go function, whole: for each byte that the law hands to it. -/
theorem esc_any (r : Int) (B g cap : Nat) (xs : List Int) (w : World) (h : Raw w B g cap xs) (hcap : xs.length + 6 ≤ cap) (hr : r = 34 ∨ r = 92 ∨ (0 ≤ r ∧ r < 32)) :
    Calls Try.prog 24 #[.slice (some ⟨g, 0, none⟩) xs.length cap, .int .i32 r] w fun e w' => ∃ es, IsEsc es ∧ e = .returned (.slice (some ⟨g, 0, none⟩) (xs.length + es.length) cap) ∧ Raw w' B g cap (xs ++ es) ∧ w.grownBy w' (some g) := by
  by_cases h2 : r = 34 ∨ r = 92 ∨ r = 8 ∨ r = 12 ∨ r = 10 ∨ r = 13 ∨ r = 9
  · have hx : ∃ x : Int, (0 ≤ x ∧ x ≤ 255) ∧ ((r = 34 ∧ x = 34) ∨ (r = 92 ∧ x = 92) ∨ (r = 8 ∧ x = 98) ∨ (r = 12 ∧ x = 102) ∨ (r = 10 ∧ x = 110) ∨ (r = 13 ∧ x = 114) ∨ (r = 9 ∧ x = 116)) := by
      rcases h2 with rfl | rfl | rfl | rfl | rfl | rfl | rfl
      · exact ⟨34, by omega, by omega⟩
      · exact ⟨92, by omega, by omega⟩
      · exact ⟨98, by omega, by omega⟩
      · exact ⟨102, by omega, by omega⟩
      · exact ⟨110, by omega, by omega⟩
      · exact ⟨114, by omega, by omega⟩
      · exact ⟨116, by omega, by omega⟩
    obtain ⟨x, hx1, hx2⟩ := hx
    refine (esc_two r x B g cap xs w h hcap hx2).mono fun e w' ⟨he, hR, hG⟩ => ⟨[92, x], ⟨x, [], rfl, by simp, .inl rfl, ?_⟩, by rw [he]; simp, hR, hG⟩
    intro c hc
    simp at hc
    omega
  · have q1 := hexOf_in (r / 16) (by omega) (by omega)
    have q2 := hexOf_in (r % 16) (by omega) (by omega)
    refine (esc_six r B g cap xs w h hcap (by omega) (by omega) (by omega) (by omega) (by omega) (by omega) (by omega)).mono fun e w' ⟨he, hR, hG⟩ => ⟨[92, 117, 48, 48, hexOf (r / 16), hexOf (r % 16)], ⟨117, [48, 48, hexOf (r / 16), hexOf (r % 16)], rfl, ?_, .inr rfl, ?_⟩, by rw [he]; simp, hR, hG⟩
    · intro c hc
      simp at hc
      omega
    · intro c hc
      simp at hc
      omega

set_option maxRecDepth 100000 in
theorem escZ_any (r : Int) (B g cap : Nat) (xs : List Int) (w : World) (h : Raw w B g cap xs) (hcap : xs.length + 6 ≤ cap) (hr : r = 34 ∨ r = 92 ∨ (0 ≤ r ∧ r < 32)) :
    Calls Try.prog 13 #[.slice (some ⟨g, 0, none⟩) xs.length cap, .int .i32 r] w fun e w' => ∃ es, IsEsc es ∧ e = .returned (.slice (some ⟨g, 0, none⟩) (xs.length + es.length) cap) ∧ Raw w' B g cap (xs ++ es) ∧ w.grownBy w' (some g) := by
  have H := esc_any r B g cap xs w h hcap hr
  go_enter Try.func13, Try.ntmps13
  go_wp2_with (go_at_call 24; refine H.mono ?_; rintro e1 w1 ⟨es, hes, rfl, hR, hG⟩)
  go_ret
  exact ⟨es, hes, rfl, hR, hG⟩
end Go.Proofs.Qxb6605550a

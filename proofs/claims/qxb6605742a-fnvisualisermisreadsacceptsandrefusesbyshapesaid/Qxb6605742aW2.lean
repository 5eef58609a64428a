/- strings.IndexRune at a blank and a tab, the code point not ASCII. -/
import Derived.Test.Qxb6605742aW1
import Derived.Deep.RegionHeld3
import Derived.WalkMore
namespace Go.Proofs.Qxb6605742a
open Go.RowKit
set_option maxHeartbeats 4000000
set_option maxRecDepth 100000
set_option linter.unusedSimpArgs false
set_option linter.unusedVariables false

/-- A blank and a tab. -/
abbrev bl : ByteArray := ⟨#[32, 9]⟩
theorem rune_err (w : World) : Calls Try.prog 35 #[.string bl, .int .i32 65533] w fun e w' => e = .returned (.int .i64 (-1)) ∧ Below w.heap.size w w' := by
  have HB0 : Hid (Below w.heap.size w (w.iter bl 0)) := (Below.refl _ w).alloc (Nat.le_refl _) _
  have HI0 : Hid ((w.iter bl 0).heap[w.heap.size]? = some (.stringIter bl 0)) := World.iter_heap w bl 0
  go_enter Try.func35, Try.ntmps35
  go_wp2
  go_loopg [5, 6] 3 (fun g v5 v6 wx => ∃ i : Nat, i ≤ 2 ∧ 2 < g + i ∧ Hid (wx.heap[w.heap.size]? = some (.stringIter bl i)) ∧ Hid (Below w.heap.size w wx))
  case atStart => exact ⟨0, by omega, by omega, HI0.out, HB0.out⟩
  case round =>
    obtain ⟨i, hi, hg, HI, HB⟩ := hrel
    clear HI0 HB0
    rcases (by omega : i = 0 ∨ i = 1 ∨ i = 2) with rfl | rfl | rfl
    · have hnx : ∀ ty, (Instr.next (.pointer (some ⟨w.heap.size, 0, none⟩)) true ty).run Try.prog wr = .ok (.tuple #[.bool true, .int .i64 0, .int .i32 32]) (mv wr w.heap.size bl 1) := fun ty => next_some (r := 32) (n := 1) ty HI.out (by decide) (by decide)
      have HI1 := (show Hid _ from mv_heap (s' := bl) (pos' := 1) HI.out)
      have HB1 := (show Hid _ from mv_below HB.out (Nat.le_refl _) bl 1)
      generalize mv wr w.heap.size bl 1 = w1 at *
      go_wp2
      go_roundg (gk - 1)
      case rel => exact ⟨1, by omega, by omega, HI1.out, HB1.out⟩
      case measure => omega
    · have hnx : ∀ ty, (Instr.next (.pointer (some ⟨w.heap.size, 0, none⟩)) true ty).run Try.prog wr = .ok (.tuple #[.bool true, .int .i64 1, .int .i32 9]) (mv wr w.heap.size bl 2) := fun ty => next_some (r := 9) (n := 1) ty HI.out (by decide) (by decide)
      have HI1 := (show Hid _ from mv_heap (s' := bl) (pos' := 2) HI.out)
      have HB1 := (show Hid _ from mv_below HB.out (Nat.le_refl _) bl 2)
      generalize mv wr w.heap.size bl 2 = w1 at *
      go_wp2
      go_roundg (gk - 1)
      case rel => exact ⟨2, by omega, by omega, HI1.out, HB1.out⟩
      case measure => omega
    · have hnx : ∀ ty, (Instr.next (.pointer (some ⟨w.heap.size, 0, none⟩)) true ty).run Try.prog wr = .ok (.tuple #[.bool false]) wr := fun ty => next_none ty HI.out (by decide)
      go_wp2
      go_ret
      exact ⟨rfl, HB.out⟩

theorem enc2 (r : Nat) (h1 : 128 ≤ r) (hv : Utf8.valid (r : Int) = true) : ∃ rs : ByteArray, Utf8.encode (r : Int) = rs ∧ (rs.size = 2 ∧ (∃ x : UInt8, 128 ≤ x.toNat ∧ ∀ h : 1 < rs.size, rs[1]'h = x) ∨ 3 ≤ rs.size ∧ rs.size ≤ 4) := by
  by_cases h2 : r < 2048
  · have e : Utf8.encode (r : Int) = ⟨#[UInt8.ofNat (192 + r / 64), UInt8.ofNat (128 + r % 64)]⟩ := by
      unfold Utf8.encode
      simp only [hv, if_true, Int.toNat_natCast]
      rw [if_neg (by omega), if_pos h2]
    refine ⟨_, e, .inl ⟨rfl, UInt8.ofNat (128 + r % 64), ?_, fun _ => rfl⟩⟩
    simp [UInt8.toNat_ofNat']
    omega
  · by_cases h3 : r < 65536
    · have e : Utf8.encode (r : Int) = ⟨#[UInt8.ofNat (224 + r / 4096), UInt8.ofNat (128 + r / 64 % 64), UInt8.ofNat (128 + r % 64)]⟩ := by
        unfold Utf8.encode
        simp only [hv, if_true, Int.toNat_natCast]
        rw [if_neg (by omega), if_neg h2, if_pos h3]
      exact ⟨_, e, .inr ⟨by show 3 ≤ 3; omega, by show 3 ≤ 4; omega⟩⟩
    · have e : Utf8.encode (r : Int) = ⟨#[UInt8.ofNat (240 + r / 262144), UInt8.ofNat (128 + r / 4096 % 64), UInt8.ofNat (128 + r / 64 % 64), UInt8.ofNat (128 + r % 64)]⟩ := by
        unfold Utf8.encode
        simp only [hv, if_true, Int.toNat_natCast]
        rw [if_neg (by omega), if_neg h2, if_neg h3]
      exact ⟨_, e, .inr ⟨by show 3 ≤ 4; omega, by show 4 ≤ 4; omega⟩⟩

theorem rune_valid (r : Nat) (h1 : 128 ≤ r) (h2 : r ≤ 1114111) (hne : r ≠ 65533) (hv : Utf8.valid (r : Int) = true) (cs : ByteArray) (hcs : cs.size = 2) (hB : ∀ h : 1 < cs.size, ((cs[1]'h).toNat : Int) = 9) (w : World) :
    Calls Try.prog 35 #[.string cs, .int .i32 (r : Int)] w fun e w' => e = .returned (.int .i64 (-1)) ∧ ∃ d, w' = w.drewN d := by
  obtain ⟨rs, hrs, hrs2⟩ := enc2 r h1 hv
  have e1 : decide ((r : Int) < 128) = false := by simp; omega
  have e2 : ((r : Int) == 65533) = false := beq_eq_false_iff_ne.2 (by omega)
  have hvr : Lib.validRune (r : Int) = true := by
    simp [Utf8.valid] at hv
    simp [Lib.validRune]
    omega
  have HV : Hid (Utf8.valid (r : Int) = true) := hv
  clear hv
  rcases hrs2 with ⟨hs, x, hx, hxe⟩ | ⟨hs, hs4⟩
  · obtain ⟨y, hy⟩ : ∃ y : Int, (x.toNat : Int) = y := ⟨_, rfl⟩
    obtain ⟨e0, hsl, hib⟩ : ∃ e0 : ByteArray, (∀ W, (Instr.slice 9 (.string cs) (some (.int .i64 2)) none none).run Try.prog W = .ok (.string e0) W) ∧ ∀ c, Lib.indexByte e0.data.toList c = -1 := by
      refine ⟨cs.extract 2 cs.size, fun W => ?_, fun c => ?_⟩
      · rw [run_slice_string_from_if _ _ _ _ _ Try.underlying9]
        simp [hcs]
      · have : (cs.extract 2 cs.size).data.toList = [] := by
          apply List.eq_nil_of_length_eq_zero
          rw [← Lib.size_eq]
          simp [hcs]
        rw [this]
        rfl
    have hy9 : ((9 : Int) != y) = true := bne_iff_ne.2 (by omega)
    have hw1 : IntKind.i64.wrap (1 + 1) = 2 := by decide
    have hw2 : IntKind.i64.wrap 2 = 2 := by decide
    have hz0 : (2 : Int) ≤ (cs.size : Int) := by omega
    have hsl2 : ∀ W, (Instr.sliceAt 9 (.string cs) (some (.int .i64 2)) none none).run Try.prog W = .ok (.string e0) W := fun W => by rw [run_sliceAt_string (h := Try.underlying9)]; exact hsl W
    have hR : ∀ h : 1 < rs.size, ((rs[1]'h).toNat : Int) = y := fun h => by rw [hxe h]; exact hy
    clear hxe hx hy
    go_enter Try.func35, Try.ntmps35
    go_wp2_with (go_at_call 42; refine (Try.utf8_ValidRune _ _).mono ?_; rintro e w' ⟨rfl, h9⟩; rw [h9]; clear h9 w')
    apply wp_scope_straight
    go_wp2
    go_loopg [9] 1 (fun g v9 wx => v9 = .int .i64 1 ∧ wx = w)
    case atStart => exact ⟨by go_num, rfl⟩
    case round =>
      obtain ⟨rfl, rfl⟩ := hrel
      go_wp2
      apply wp_scope_straight
      go_wp2
      go_region_held3 (fun _ => True) (trivial) (fail)
      all_goals
        go_wp2
        go_region_held3 (fun _ => True) (trivial) ((go_at_call 41; refine (Try.strings_IndexByte _ _ _).mono ?_; rintro e9 w9 ⟨rfl, h9⟩; rw [h9, hib]; clear h9 w9))
        all_goals
          go_wp2
          dsimp only [Exit.noGoto, Exit.inBlock, Exit.then]
          go_ret
          exact ⟨rfl, 2, rfl⟩
  · have e3 : decide ((rs.size : Int) - 1 < 2) = false := by simp; omega
    go_enter Try.func35, Try.ntmps35
    go_wp2_with (go_at_call 42; refine (Try.utf8_ValidRune _ _).mono ?_; rintro e w' ⟨rfl, h9⟩; rw [h9]; clear h9 w')
    apply wp_scope_straight
    go_wp2
    go_loopg [9] 1 (fun g v9 wx => v9 = .int .i64 ((rs.size : Int) - 1) ∧ wx = w)
    case atStart => exact ⟨by go_num, rfl⟩
    case round =>
      obtain ⟨rfl, rfl⟩ := hrel
      go_wp2
      dsimp only [Exit.noGoto, Exit.inBlock]
      go_ret
      exact ⟨rfl, 0, rfl⟩
end Go.Proofs.Qxb6605742a

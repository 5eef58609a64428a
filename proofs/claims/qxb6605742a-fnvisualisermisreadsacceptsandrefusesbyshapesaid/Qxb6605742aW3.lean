/- strings.IndexAny at a blank and a tab, whatever the string. -/
import Derived.Test.Qxb6605742aW2
namespace Go.Proofs.Qxb6605742a
open Go.RowKit
set_option maxHeartbeats 8000000
set_option maxRecDepth 1000000
set_option linter.unusedSimpArgs false
set_option linter.unusedVariables false

theorem h55 : (Try.prog.info? 55).map (fun i => (i.zero, i.size)) = some (some (.agg (Array.replicate 256 (.bool false))), 256) := by kernel_rfl

theorem bl_list : bl.data.toList = [32, 9] := rfl
theorem bl_ascii : ∀ (j : Nat) b, bl.data.toList[j]? = some b → b.toNat < 128 := by
  intro j b h
  rw [bl_list] at h
  match j, h with
  | 0, h => simp at h; subst h; decide
  | 1, h => simp at h; subst h; decide

theorem indexAny_bl (s : ByteArray) (w : World) (hs : s.size < 4294967281) :
    Calls Try.prog 32 #[.string s, .string bl] w fun e w' => e = .returned (.int .i64 (Lib.indexAny s.data.toList [32, 9])) ∧ Below w.heap.size w w' := by
  rcases Nat.lt_or_ge 8 s.size with h8 | h8
  · refine (Try.strings_IndexAny_long (zero_of_info h55).1 s bl w (by decide) h8 hs (by decide) bl_ascii).mono ?_
    rintro e w' ⟨rfl, rfl⟩
    exact ⟨rfl, ((Below.refl _ w).alloc (Nat.le_refl _) _).alloc (by simp) _⟩
  have h8z : decide ((8 : Int) < (s.size : Int)) = false := decide_eq_false (by omega)
  have HB0 : Hid (Below w.heap.size w (w.iter s 0)) := (Below.refl _ w).alloc (Nat.le_refl _) _
  have HI0 : Hid ((w.iter s 0).heap[w.heap.size]? = some (.stringIter s 0)) := World.iter_heap w s 0
  obtain ⟨cs, hcs⟩ : ∃ cs, bl = cs := ⟨_, rfl⟩
  have hc2 : cs.size = 2 := by rw [← hcs]; rfl
  have HC : Hid (bl = cs) := hcs
  have hemp : cs.toList.isEmpty = false := by rw [← hcs, Lib.toList_data]; rfl
  have hn1 : ((cs.size : Int) == 1) = false := beq_eq_false_iff_ne.2 (by omega)
  rw [hcs]
  clear hcs
  go_enter Try.func32, Try.ntmps32
  go_wp2_with (go_at_call 36; refine (Try.strings_shouldUseASCIISet _ _).mono ?_; rintro e w' ⟨rfl, hw⟩; rw [hw, h8z])
  go_loopg [9, 10] (s.size + 1) (fun g v9 v10 wx => ∃ i : Nat, i ≤ s.size ∧ s.size < g + i ∧ Hid (wx.heap[w.heap.size]? = some (.stringIter s i)) ∧ Hid (Below w.heap.size w wx) ∧ Hid (Lib.NoAny s.data.toList [32, 9] i))
  case atStart => exact ⟨0, by omega, by omega, HI0.out, HB0.out, Lib.NoAny.zero _ _⟩
  case round =>
    obtain ⟨i, hi, hg, HI, HB, HN⟩ := hrel
    clear HI0 HB0
    rcases Nat.lt_or_ge i s.size with hlt | hge
    · obtain ⟨x, hx⟩ : ∃ x : UInt8, s[i]'hlt = x := ⟨_, rfl⟩
      have hxl : s.data.toList[i]? = some x := by rw [← hx]; exact Lib.data_getElem? s i hlt
      rcases Nat.lt_or_ge x.toNat 128 with h128 | h128
      · have hd : Utf8.decode s i = (x.toNat, 1) := by
          have := decode_ascii s i hlt (by rw [hx]; exact h128)
          rw [hx] at this
          exact this
        have hnx : ∀ ty, (Instr.next (.pointer (some ⟨w.heap.size, 0, none⟩)) true ty).run Try.prog wr = .ok (.tuple #[.bool true, .int .i64 i, .int .i32 x.toNat]) (mv wr w.heap.size s (i + 1)) := fun ty => next_some ty HI.out hlt hd
        have HI1 := (show Hid _ from mv_heap (s' := s) (pos' := i + 1) HI.out)
        have HB1 := (show Hid _ from mv_below HB.out (Nat.le_refl _) s (i + 1))
        have HX : Hid (s.data.toList[i]? = some x) := hxl
        have hcon := Lib.contains_iff_indexByte [32, 9] x
        obtain ⟨v, hv⟩ : ∃ v, Lib.indexByte [32, 9] x = v := ⟨_, rfl⟩
        rw [hv] at hcon
        have HRU : Hid (∀ w, Calls Try.prog 35 #[.string cs, .int .i32 (x.toNat : Int)] w fun e w' => e = .returned (.int .i64 v) ∧ w' = w) := fun w => by
          have := Try.strings_IndexRune_ascii cs (x.toNat : Int) w (by omega) (by omega)
          have hback : ((x.toNat : Int)).toNat.toUInt8 = x := by simp
          rw [hback, ← HC.out, bl_list, hv] at this
          rw [← HC.out]
          exact this
        clear hx hxl hd HI HB hv
        generalize mv wr w.heap.size s (i + 1) = w1 at *
        obtain ⟨y, hy⟩ : ∃ y : Int, (x.toNat : Int) = y := ⟨_, rfl⟩
        rw [hy] at HRU hnx
        clear hy h128
        cases hin : ([32, 9] : List UInt8).contains x with
        | false =>
          rw [hin] at hcon
          have hv0 : ¬ ((0 : Int) ≤ v) := of_decide_eq_false hcon.symm
          have HN2 := (show Hid _ from HN.out.succ HX.out hin)
          clear hcon hin HN
          go_wp2_with (go_at_call 35; refine (HRU.out _).mono ?_; rintro e9 w9 ⟨rfl, h9⟩; rw [h9]; clear h9 w9)
          go_roundg (gk - 1)
          case rel => exact ⟨i + 1, by omega, by omega, HI1.out, HB1.out, HN2.out⟩
          case measure => omega
        | true =>
          rw [hin] at hcon
          have hv0 : (0 : Int) ≤ v := of_decide_eq_true hcon.symm
          have HE : Hid (Lib.indexAny s.data.toList [32, 9] = i) := Lib.indexAny_hit HN.out HX.out hin
          clear hcon hin HN
          go_wp2_with (go_at_call 35; refine (HRU.out _).mono ?_; rintro e9 w9 ⟨rfl, h9⟩; rw [h9]; clear h9 w9)
          go_ret
          exact ⟨by rw [HE.out]; rfl, HB1.out⟩
      · obtain ⟨r, n, hd, hr1, hr2, hrv, hnn, hn2, hall⟩ := dec_high s i hlt (by rw [hx]; exact h128)
        have hnx : ∀ ty, (Instr.next (.pointer (some ⟨w.heap.size, 0, none⟩)) true ty).run Try.prog wr = .ok (.tuple #[.bool true, .int .i64 i, .int .i32 r]) (mv wr w.heap.size s (i + n)) := fun ty => next_some ty HI.out hlt hd
        have HI1 := (show Hid _ from mv_heap (s' := s) (pos' := i + n) HI.out)
        have HB1 := (show Hid _ from mv_below HB.out (Nat.le_refl _) s (i + n))
        have HN2 : Hid (Lib.NoAny s.data.toList [32, 9] (i + n)) := fun j b hj hb => by
          rcases Nat.lt_or_ge j i with hji | hji
          · exact HN.out j b hji hb
          · obtain ⟨k, rfl⟩ : ∃ k, j = i + k := ⟨j - i, by omega⟩
            have hjs : i + k < s.size := by omega
            have h1 := hall k hjs (by omega)
            have h2 : s.data.toList[i + k]? = some (s[i + k]'hjs) := Lib.data_getElem? s _ hjs
            rw [hb] at h2
            rw [← Option.some.inj h2] at h1
            have h4 : b ≠ 32 := fun e => by rw [e] at h1; exact absurd h1 (by decide)
            have h5 : b ≠ 9 := fun e => by rw [e] at h1; exact absurd h1 (by decide)
            simp [h4, h5]
        have HRU : Hid (∀ w, Calls Try.prog 35 #[.string cs, .int .i32 (r : Int)] w fun e w' => e = .returned (.int .i64 (-1)) ∧ Below w.heap.size w w') := fun w => by
          by_cases he : r = 65533
          · subst he
            rw [← HC.out]
            exact rune_err w
          · refine (rune_valid r hr1 hr2 he (hrv.resolve_left he) cs hc2 (fun h => by have h9 := HC.out; subst h9; rfl) w).mono ?_
            rintro e w' ⟨h1, d, rfl⟩
            exact ⟨h1, rfl, rfl, rfl, Nat.le_refl _, fun _ _ => rfl⟩
        have hszw : w.heap.size < (mv wr w.heap.size s (i + n)).heap.size := by
          have h1 := HI1.out
          rcases Nat.lt_or_ge w.heap.size (mv wr w.heap.size s (i + n)).heap.size with h | h
          · exact h
          · rw [Array.getElem?_eq_none h] at h1; cases h1
        clear hx hxl hd HI HB hall hrv HN h128
        generalize mv wr w.heap.size s (i + n) = w1 at *
        go_wp2_with (go_at_call 35; refine (HRU.out _).mono ?_; rintro e9 w9 ⟨rfl, hb9⟩)
        go_roundg (gk - 1)
        case rel => exact ⟨i + n, by omega, by omega, (hb9.block _ hszw).trans HI1.out, HB1.out.trans (hb9.mono (Nat.le_of_lt hszw)), HN2.out⟩
        case measure => omega
    · obtain rfl : i = s.size := by omega
      have hnx : ∀ ty, (Instr.next (.pointer (some ⟨w.heap.size, 0, none⟩)) true ty).run Try.prog wr = .ok (.tuple #[.bool false]) wr := fun ty => next_none ty HI.out (by omega)
      have HE : Hid (Lib.indexAny s.data.toList [32, 9] = -1) := Lib.indexAny_none (by rw [← Lib.size_eq]; exact HN.out)
      go_wp2
      go_ret
      exact ⟨by rw [HE.out]; rfl, HB.out⟩
end Go.Proofs.Qxb6605742a

/- The escape: two bytes or six, laid behind what is there. -/
import Derived.Test.Qxb6605550aW1
import Derived.Deep.RegionLaw
import Derived.Deep.RegionWith
namespace Go.Proofs.Qxb6605550a
open Go.RowKit Go.Deep Pl
set_option maxHeartbeats 4000000
set_option linter.unusedSimpArgs false
set_option linter.unusedVariables false

theorem grownBy_trans {w w1 w2 : World} {g : Nat} (h : w.grownBy w1 (some g)) (k : w1.grownBy w2 (some g)) : w.grownBy w2 (some g) :=
  ⟨k.os.trans h.os, k.tape.trans h.tape, k.output.trans h.output, Nat.le_trans h.size k.size, fun j hj hne => (k.block j (Nat.lt_of_lt_of_le hj h.size) hne).trans (h.block j hj hne)⟩
theorem grownBy_alloc (w : World) (o : Obj) (g : Option Nat) : w.grownBy (w.alloc o) g :=
  ⟨rfl, rfl, rfl, by simp, fun j hj _ => Below.heap_alloc w o j hj⟩
theorem grownBy_drew (w : World) (g : Option Nat) : w.grownBy w.drew g := ⟨rfl, rfl, rfl, Nat.le_refl _, fun _ _ _ => rfl⟩

/-- The row that is being built. -/
def Raw (w : World) (B g cap : Nat) (xs : List Int) : Prop :=
  w.ownsRow B 5 1 (.slice (some ⟨g, 0, none⟩) xs.length cap) xs.length (xs.map (Value.int .u8))

set_option maxRecDepth 100000 in
theorem esc_two (r x : Int) (B g cap : Nat) (xs : List Int) (w : World) (h : Raw w B g cap xs) (hcap : xs.length + 6 ≤ cap)
    (hr : (r = 34 ∧ x = 34) ∨ (r = 92 ∧ x = 92) ∨ (r = 8 ∧ x = 98) ∨ (r = 12 ∧ x = 102) ∨ (r = 10 ∧ x = 110) ∨ (r = 13 ∧ x = 114) ∨ (r = 9 ∧ x = 116)) :
    Calls Try.prog 24 #[.slice (some ⟨g, 0, none⟩) xs.length cap, .int .i32 r] w fun e w' => e = .returned (.slice (some ⟨g, 0, none⟩) (xs.length + 2) cap) ∧ Raw w' B g cap (xs ++ [92, x]) ∧ w.grownBy w' (some g) := by
  obtain ⟨i0, hi, hz0, hz1, hz2⟩ := info_parts Try.info5
  unfold Raw at h
  generalize hn : xs.length = n at *
  rcases hr with ⟨rfl, hx⟩ | ⟨rfl, hx⟩ | ⟨rfl, hx⟩ | ⟨rfl, hx⟩ | ⟨rfl, hx⟩ | ⟨rfl, hx⟩ | ⟨rfl, hx⟩
  all_goals
    go_enter Try.func24, Try.ntmps24
    go_wp2_with (at_builtin; refine wpList_append_fits _ rfl _ _ 22 rfl B 5 i0 1 Try.underlying22 hi hz1 g n cap _ rfl (h.alloc _) ⟨w.heap.size, 0, none⟩ 2 2 [.int .u8 92, .int .u8 x] rfl rfl (by intro t u ht; match t, ht with | 0, ht => simp at ht; subst ht; simp [Addr.add] | 1, ht => simp at ht; subst ht; simp [Addr.add, hx]) (by intro u hu; simp at hu; rcases hu with rfl | rfl <;> rfl) (by omega) ?_; intro w1 hown1 hgrow1)
    go_ret
    refine ⟨rfl, ?_, grownBy_trans (grownBy_alloc w _ _) hgrow1⟩
    unfold Raw
    simpa [hn] using hown1
end Go.Proofs.Qxb6605550a

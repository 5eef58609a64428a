/- The gate and the copy. -/
import Derived.Test.Qxb6605550aShelf
import Derived.Test.Qxb6605550aPlain
import Derived.WalkKit
import Derived.Below
import Derived.OwnWalk
import Derived.Deep.OwnRows
import Derived.Deep.LoopGhost
import Derived.Lib.LazyBuf
namespace Go.Proofs.Qxb6605550a
open Go.RowKit
set_option maxHeartbeats 2000000
set_option linter.unusedSimpArgs false
set_option linter.unusedVariables false

theorem Try.info5 : (Try.prog.info? 5).map (fun i => (i.zero, i.size, i.bytes)) = some (some (.int .u8 0), 1, 1) := by kernel_rfl

set_option maxRecDepth 100000 in
theorem gate_any (a0 a1 a2 : Option Addr) (l0 c0 l1 c1 l2 c2 : Nat) (w : World) (v : Bool) (h0 : (l0 : Int) ≤ 9223372036854775807) (h1 : (l1 : Int) ≤ 9223372036854775807) (h2 : (l2 : Int) ≤ 9223372036854775807)
    (hv : decide (l0 + l1 + l2 ≤ 1048576) = v) :
    Calls Try.prog 12 #[.slice a0 l0 c0, .slice a1 l1 c1, .slice a2 l2 c2] w fun e w' => e = .returned (.bool v) ∧ w' = w := by
  go_enter Try.func12, Try.ntmps12
  go_wp2
  all_goals go_ret
  all_goals first
    | exact ⟨by rw [show v = false from by rw [← hv]; exact decide_eq_false (by omega)]; rfl, rfl⟩
    | exact ⟨by rw [show v = true from by rw [← hv]; exact decide_eq_true (by omega)]; rfl, rfl⟩

/-- A slice of bytes that is read: nil, or a row. -/
def Rd (w : World) (a : Option Addr) (xs : List Int) : Prop :=
  (∀ c ∈ xs, 0 ≤ c ∧ c ≤ 255) ∧ ((a = none ∧ xs = []) ∨ ∃ x, a = some x ∧ ∀ i, i < xs.length → w.cell? (x.add i) = some (.int .u8 (xs.getD i 0)))
theorem add_block (a : Addr) (n : Nat) : (a.add n).block = a.block := by unfold Addr.add; split <;> rfl
theorem Rd.below {w w' : World} {a : Option Addr} {xs : List Int} {B : Nat} (h : Rd w a xs) (hb : Below B w w') (hB : ∀ x, a = some x → 0 < xs.length → x.block < B) : Rd w' a xs := by
  refine ⟨h.1, ?_⟩
  rcases h.2 with h2 | ⟨x, rfl, hc⟩
  · exact .inl h2
  · refine .inr ⟨x, rfl, fun i hi => ?_⟩
    rw [hb.cell (by rw [add_block]; exact hB x rfl (by omega))]
    exact hc i hi
theorem Rd.lt {w : World} {a : Option Addr} {xs : List Int} (h : Rd w a xs) : ∀ x, a = some x → 0 < xs.length → x.block < w.heap.size := by
  intro x hx hl
  rcases h.2 with ⟨h2, _⟩ | ⟨y, hy, hc⟩
  · rw [h2] at hx; cases hx
  · rw [hy] at hx
    cases hx
    have h0 := World.block_lt_of_cell? w _ (hc 0 hl)
    rwa [add_block] at h0
/-- .. in a world that has grown. -/
theorem Rd.later {w w' : World} {a : Option Addr} {xs : List Int} (h : Rd w a xs) (hb : Below w.heap.size w w') : Rd w' a xs := h.below hb h.lt
/-- What a copy leaves: its own row. -/
def Cp (w : World) (B : Nat) (a : Option Addr) (xs : List Int) : Prop :=
  (∀ c ∈ xs, 0 ≤ c ∧ c ≤ 255) ∧ ((a = none ∧ xs = []) ∨ ∃ g, a = some ⟨g, 0, none⟩ ∧ B ≤ g ∧ g < w.heap.size ∧ ∀ i, i < xs.length → w.cell? ⟨g, i, none⟩ = some (.int .u8 (xs.getD i 0)))

set_option maxRecDepth 100000 in
theorem clone_any (a : Option Addr) (c : Nat) (xs : List Int) (w : World) (h : Rd w a xs) (hl : xs.length ≤ 1048576) (hnil : a = none → c = 0) :
    Calls Try.prog 9 #[.slice a xs.length c] w fun e w' => ∃ a', e = .returned (.slice a' xs.length xs.length) ∧ Cp w' w.heap.size a' xs ∧ Below w.heap.size w w' := by
  obtain ⟨hw, h2⟩ := h
  rcases h2 with ⟨rfl, rfl⟩ | ⟨x, rfl, hc⟩
  · obtain rfl := hnil rfl
    have hq : ∀ W, (binOp .eql 22 (.slice none 0 0) (.slice none 0 0)).run Try.prog W = .ok (.bool true) W := fun W => Go.run_eql_slice_nil W 22 5 none 0 0 Try.underlying22
    go_enter Try.func9, Try.ntmps9
    go_wp2
    go_ret
    exact ⟨none, rfl, ⟨hw, .inl ⟨rfl, rfl⟩⟩, Below.refl _ _⟩
  · have hmk := run_make_row' (P := Try.prog) 22 5 (.int .u8 0) 1 Try.underlying22 Try.info5 rfl .i64 .i64 xs.length (by omega) (by omega)
    generalize hn : xs.length = n at *
    have hlt : 0 < n → x.block < w.heap.size := fun h0 => by
      have h1 := World.block_lt_of_cell? w _ (hc 0 h0)
      rwa [add_block] at h1
    have hq : ∀ W, (binOp .eql 22 (.slice (some x) n c) (.slice none 0 0)).run Try.prog W = .ok (.bool false) W := fun W => Go.run_eql_slice_nil W 22 5 (some x) n c Try.underlying22
    go_enter Try.func9, Try.ntmps9
    go_wp2
    go_loopw [4] (fun si wr => ∃ k : Nat, k ≤ n ∧ si = .int .i64 k ∧ wr.rowIs w.heap.size 5 n (fun j => if j < k then .int .u8 (xs.getD j 0) else .int .u8 0) ∧ Below w.heap.size w wr)
      (fun si _ => n - (intOf si).toNat)
    case atStart =>
      exact ⟨0, Nat.zero_le _, rfl, (World.rowIs_made w (.int .u8 0) n 5).congr (fun i hi => by simp), (Below.refl _ _).alloc (Nat.le_refl _) _⟩
    case round =>
      obtain ⟨k, hk, rfl, hrow, hb⟩ := hrel
      have hcx : k < n → wr.cell? (x.add k) = some (.int .u8 (xs.getD k 0)) := fun h => by
        rw [hb.cell (by rw [add_block]; exact hlt (by omega))]
        exact hc k h
      have hfz := hrow.frozen k
      have hcg : k < n → wr.cell? ⟨w.heap.size, k, none⟩ = some (.int .u8 0) := fun h => (hrow.cell h).trans (by simp)
      go_wp2
      · go_roundw
        case rel =>
          refine ⟨k + 1, by omega, by go_num, (hrow.set k _).congr (fun j hj => ?_), hb.setCell (Nat.le_refl _) _⟩
          by_cases e : j = k
          · subst e
            have hj' : j < xs.length := by omega
            simp [hj']
          · simp only [if_neg e]
            by_cases h2 : j < k
            · rw [if_pos h2, if_pos (by omega)]
            · rw [if_neg h2, if_neg (by omega)]
        case measure => simp [intOf]; omega
      · go_ret
        obtain rfl : k = n := by omega
        refine ⟨some ⟨w.heap.size, 0, none⟩, rfl, ⟨hw, .inr ⟨w.heap.size, rfl, Nat.le_refl _, hrow.lt, fun i hi => ?_⟩⟩, hb⟩
        rw [hrow.cell (by omega), if_pos (by omega)]
end Go.Proofs.Qxb6605550a

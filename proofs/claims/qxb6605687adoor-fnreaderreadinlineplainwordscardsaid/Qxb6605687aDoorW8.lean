/- A new reader. -/
import Derived.Test.Qxb6605687aDoorR2
import Derived.Deep.OwnRows
namespace Go.Proofs.Qxb6605687aDoor
open Go.RowKit
set_option maxHeartbeats 4000000
set_option maxRecDepth 100000
set_option linter.unusedSimpArgs false
set_option linter.unusedVariables false

theorem info5b : (Tryd.prog.info? 5).map (fun i => (i.zero, i.size, i.bytes)) = some (some (.int .u8 0), 1, 1) := by kernel_rfl
theorem made_u8s (n : Nat) : madeCells #[.int .u8 0] n = (u8s (List.replicate n 0)).toArray := by
  apply Array.ext
  · simp [madeCells, u8s]
  · intro i h1 h2
    simp [madeCells, u8s, Nat.mod_one]

theorem bytesNew_any (p : Option Addr) (n c : Nat) (w : World) : Calls Tryd.prog 45 #[.slice p n c] w fun e w' => e = .returned (.pointer (some ⟨w.heap.size, 0, none⟩)) ∧ w' = w.alloc (.cells #[.slice p n c, .int .i64 0, .int .i64 (-1)] 85) := by
  go_enter Tryd.func45, Tryd.ntmps45
  go_wp2
  go_ret
  exact ⟨rfl, rfl⟩

theorem reset_any (b : Nat) (x0 x1 x2 x3 x4 x5 x6 buf rd : Value) (w : World) (hbuf : ∃ p n c, buf = .slice p n c) (hrd : ∃ t p, rd = .iface t p) (hb : w.heap[b]? = some (.cells #[x0, x1, x2, x3, x4, x5, x6] 87 (0, 0))) :
    Calls Tryd.prog 62 #[.pointer (some ⟨b, 0, none⟩), buf, rd] w fun e w' => e = .returned (.tuple #[]) ∧ w'.heap[b]? = some (.cells #[buf, rd, .int .i64 0, .int .i64 0, .nilIface, .int .i64 (-1), .int .i64 (-1)] 87 (0, 0)) ∧ Below b w w' ∧ w'.heap.size = w.heap.size ∧ ∀ k, k ≠ b → w'.heap[k]? = w.heap[k]? := by
  obtain ⟨p, n, c, rfl⟩ := hbuf
  obtain ⟨t, q, rfl⟩ := hrd
  have c0 : w.cell? ⟨b, 0, none⟩ = some x0 := by rw [cell_of_row _ _ _ _ _ _ hb]; rfl
  have c1 : w.cell? ⟨b, 1, none⟩ = some x1 := by rw [cell_of_row _ _ _ _ _ _ hb]; rfl
  have c2 : w.cell? ⟨b, 2, none⟩ = some x2 := by rw [cell_of_row _ _ _ _ _ _ hb]; rfl
  have c3 : w.cell? ⟨b, 3, none⟩ = some x3 := by rw [cell_of_row _ _ _ _ _ _ hb]; rfl
  have c4 : w.cell? ⟨b, 4, none⟩ = some x4 := by rw [cell_of_row _ _ _ _ _ _ hb]; rfl
  have c5 : w.cell? ⟨b, 5, none⟩ = some x5 := by rw [cell_of_row _ _ _ _ _ _ hb]; rfl
  have c6 : w.cell? ⟨b, 6, none⟩ = some x6 := by rw [cell_of_row _ _ _ _ _ _ hb]; rfl
  have hf := frozen_row hb
  have HB : Hid (w.heap[b]? = some (.cells #[x0, x1, x2, x3, x4, x5, x6] 87 (0, 0))) := hb
  clear hb
  go_enter Tryd.func62, Tryd.ntmps62
  go_wp2
  go_end0
  refine ⟨rfl, heap_set (heap_set (heap_set (heap_set (heap_set (heap_set (heap_set HB.out 0 _) 1 _) 2 _) 3 _) 4 _) 5 _) 6 _, ?_, by simp [World.setCell], fun k hk => ?_⟩
  · exact (((((((Below.refl b w).setCell (Nat.le_refl _) _).setCell (Nat.le_refl _) _).setCell (Nat.le_refl _) _).setCell (Nat.le_refl _) _).setCell (Nat.le_refl _) _).setCell (Nat.le_refl _) _).setCell (Nat.le_refl _) _
  · rw [heap_set_ne hk, heap_set_ne hk, heap_set_ne hk, heap_set_ne hk, heap_set_ne hk, heap_set_ne hk, heap_set_ne hk]

theorem assert_no (q : Value) (W : World) : (Instr.typeAssert (.iface 76 q) 72 75 true).run Tryd.prog W = .ok (.tuple #[.pointer none, .bool false]) W := by kernel_rfl

/-- The state of a new reader. -/
def s0 : St := { ag := .slice none 0 0, ar := .slice none 0 0, lg := .slice none 0 0, r := 0, w := 0, er := .nilIface, lb := -1, lr := -1, n := 0, i := 0, pr := -1, ub := List.replicate 16384 0 }

theorem newSize_any (q : Value) (w : World) : Calls Tryd.prog 53 #[.iface 76 q, .int .i64 16384] w fun e w' => e = .returned (.pointer (some ⟨w.heap.size, 0, none⟩)) ∧
    w'.heap[w.heap.size]? = some (.cells #[.slice (some ⟨w.heap.size + 1, 0, none⟩) 16384 16384, .iface 76 q, .int .i64 0, .int .i64 0, .nilIface, .int .i64 (-1), .int .i64 (-1)] 87 (0, 0)) ∧
    w'.heap[w.heap.size + 1]? = some (.cells (u8s (List.replicate 16384 0)).toArray 5 (0, 0)) ∧ Below w.heap.size w w' ∧ w'.heap.size = w.heap.size + 2 := by
  obtain ⟨M, hM⟩ : ∃ M, (u8s (List.replicate 16384 0)).toArray = M := ⟨_, rfl⟩
  have hmk : ∀ w, (Instr.makeSlice 24 (.int .i64 16384) (.int .i64 16384)).run Tryd.prog w = .ok (.slice (some ⟨w.heap.size, 0, none⟩) 16384 16384) (w.alloc (.cells M 5)) := fun w => by
    rw [← hM, ← made_u8s]
    exact run_make_row' (P := Tryd.prog) 24 5 (.int .u8 0) 1 Tryd.underlying24 info5b rfl .i64 .i64 16384 (by omega) (by omega) w
  rw [hM]
  clear hM
  have HC : Hid (∀ (x0 x1 x2 x3 x4 x5 x6 : Value), Calls Tryd.prog 62 #[.pointer (some ⟨w.heap.size, 0, none⟩), .slice (some ⟨w.heap.size + 1, 0, none⟩) 16384 16384, .iface 76 q] ((w.alloc (.cells #[x0, x1, x2, x3, x4, x5, x6] 87)).alloc (.cells M 5)) fun e w' => e = .returned (.tuple #[]) ∧ w'.heap[w.heap.size]? = some (.cells #[.slice (some ⟨w.heap.size + 1, 0, none⟩) 16384 16384, .iface 76 q, .int .i64 0, .int .i64 0, .nilIface, .int .i64 (-1), .int .i64 (-1)] 87 (0, 0)) ∧ Below w.heap.size ((w.alloc (.cells #[x0, x1, x2, x3, x4, x5, x6] 87)).alloc (.cells M 5)) w' ∧ w'.heap.size = ((w.alloc (.cells #[x0, x1, x2, x3, x4, x5, x6] 87)).alloc (.cells M 5)).heap.size ∧ ∀ k, k ≠ w.heap.size → w'.heap[k]? = ((w.alloc (.cells #[x0, x1, x2, x3, x4, x5, x6] 87)).alloc (.cells M 5)).heap[k]?) := fun x0 x1 x2 x3 x4 x5 x6 =>
    reset_any w.heap.size x0 x1 x2 x3 x4 x5 x6 _ _ _ ⟨_, _, _, rfl⟩ ⟨_, _, rfl⟩ (by rw [Below.heap_alloc _ _ _ (by simp)]; exact heap_alloc_new w _)
  have hta := assert_no q
  have hmx : (max 16384 16 : Int) = 16384 := rfl
  go_enter Tryd.func53, Tryd.ntmps53
  go_wp2_with fail
  refine (HC.out _ _ _ _ _ _ _).mono ?_
  rintro e w1 ⟨rfl, h1, h2, h3, h4⟩
  have H1 : Hid (w1.heap[w.heap.size]? = some (.cells #[.slice (some ⟨w.heap.size + 1, 0, none⟩) 16384 16384, .iface 76 q, .int .i64 0, .int .i64 0, .nilIface, .int .i64 (-1), .int .i64 (-1)] 87 (0, 0))) := h1
  have h5 := h4 (w.heap.size + 1) (by omega)
  have h6 : w1.heap[w.heap.size + 1]? = some (.cells M 5 (0, 0)) := by
    rw [h5]
    have := heap_alloc_new (w.alloc (.cells #[.slice none 0 0, .nilIface, .int .i64 0, .int .i64 0, .nilIface, .int .i64 0, .int .i64 0] 87)) (.cells M 5)
    simpa using this
  have H6 : Hid (w1.heap[w.heap.size + 1]? = some (.cells M 5 (0, 0))) := h6
  have HB : Hid (Below w.heap.size w w1) := ((((Below.refl _ w).alloc (Nat.le_refl _) _).alloc (by simp) _).trans h2)
  have HZ : Hid (w1.heap.size = w.heap.size + 2) := by show _ = _; rw [h3]; simp
  clear HC h1 h2 h3 h4 h5 h6 hmk hta
  go_wp2
  go_ret
  exact ⟨rfl, H1.out, H6.out, HB.out, HZ.out⟩

theorem newReader_any (q : Value) (w : World) : Calls Tryd.prog 44 #[.iface 69 q] w fun e w' => e = .returned (.pointer (some ⟨w.heap.size + 3, 0, none⟩)) ∧
    w'.heap[w.heap.size]? = some (.cells #[.iface 69 q, .int .i64 0] 74 (0, 0)) ∧
    w'.heap[w.heap.size + 1]? = some (.cells #[.slice (some ⟨w.heap.size + 2, 0, none⟩) 16384 16384, .iface 76 (.pointer (some ⟨w.heap.size, 0, none⟩)), .int .i64 0, .int .i64 0, .nilIface, .int .i64 (-1), .int .i64 (-1)] 87 (0, 0)) ∧
    w'.heap[w.heap.size + 2]? = some (.cells (u8s (List.replicate 16384 0)).toArray 5 (0, 0)) ∧
    w'.heap[w.heap.size + 3]? = some (.cells #[.pointer (some ⟨w.heap.size + 1, 0, none⟩), .pointer (some ⟨w.heap.size, 0, none⟩), .slice none 0 0, .slice none 0 0, .slice none 0 0] 78 (0, 0)) ∧ Below w.heap.size w w' := by
  have HC : Hid (Calls Tryd.prog 53 #[.iface 76 (.pointer (some ⟨w.heap.size, 0, none⟩)), .int .i64 16384] (w.alloc (.cells #[.iface 69 q, .int .i64 0] 74)) fun e w' => e = .returned (.pointer (some ⟨w.heap.size + 1, 0, none⟩)) ∧
    w'.heap[w.heap.size + 1]? = some (.cells #[.slice (some ⟨w.heap.size + 1 + 1, 0, none⟩) 16384 16384, .iface 76 (.pointer (some ⟨w.heap.size, 0, none⟩)), .int .i64 0, .int .i64 0, .nilIface, .int .i64 (-1), .int .i64 (-1)] 87 (0, 0)) ∧
    w'.heap[w.heap.size + 1 + 1]? = some (.cells (u8s (List.replicate 16384 0)).toArray 5 (0, 0)) ∧ Below (w.heap.size + 1) (w.alloc (.cells #[.iface 69 q, .int .i64 0] 74)) w' ∧ w'.heap.size = w.heap.size + 1 + 2) := by
    have := newSize_any (.pointer (some ⟨w.heap.size, 0, none⟩)) (w.alloc (.cells #[.iface 69 q, .int .i64 0] 74))
    rw [show (w.alloc (.cells #[.iface 69 q, .int .i64 0] 74)).heap.size = w.heap.size + 1 from by simp] at this
    exact this
  go_enter Tryd.func44, Tryd.ntmps44
  go_wp2_with fail
  refine HC.out.mono ?_
  rintro e w1 ⟨rfl, h1, h2, h3, h4⟩
  have h0 : w1.heap[w.heap.size]? = some (.cells #[.iface 69 q, .int .i64 0] 74 (0, 0)) := by
    rw [h3.block _ (by omega)]
    exact heap_alloc_new w _
  have HH : Hid ((w1.heap[w.heap.size]? = some (.cells #[.iface 69 q, .int .i64 0] 74 (0, 0))) ∧ (w1.heap[w.heap.size + 1]? = some (.cells #[.slice (some ⟨w.heap.size + 1 + 1, 0, none⟩) 16384 16384, .iface 76 (.pointer (some ⟨w.heap.size, 0, none⟩)), .int .i64 0, .int .i64 0, .nilIface, .int .i64 (-1), .int .i64 (-1)] 87 (0, 0))) ∧
    (w1.heap[w.heap.size + 1 + 1]? = some (.cells (u8s (List.replicate 16384 0)).toArray 5 (0, 0))) ∧ Below w.heap.size w w1) := ⟨h0, h1, h2, ((Below.refl _ w).alloc (Nat.le_refl _) _).trans (h3.mono (by omega))⟩
  clear HC h0 h1 h2 h3
  go_wp2
  go_ret
  refine ⟨rfl, ?_, ?_, ?_, ?_, HH.out.2.2.2.alloc (by omega) _⟩
  · rw [Below.heap_alloc _ _ _ (by omega)]; exact HH.out.1
  · rw [Below.heap_alloc _ _ _ (by omega)]; exact HH.out.2.1
  · rw [Below.heap_alloc _ _ _ (by omega)]; exact HH.out.2.2.1
  · have := heap_alloc_new w1 (.cells #[.pointer (some ⟨w.heap.size + 1, 0, none⟩), .pointer (some ⟨w.heap.size, 0, none⟩), .slice none 0 0, .slice none 0 0, .slice none 0 0] 78)
    rw [h4] at this
    exact this

theorem newBytes_any (D cap : Nat) (xs : List Int) (w : World) : Calls Tryd.prog 26 #[.slice (some ⟨D, 0, none⟩) xs.length cap] w fun e w' => e = .returned (.pointer (some ⟨w.heap.size + 4, 0, none⟩)) ∧ RI w.heap.size D cap xs w' s0 0 ∧ Below w.heap.size w w' := by
  have HC : Hid (Calls Tryd.prog 44 #[.iface 69 (.pointer (some ⟨w.heap.size, 0, none⟩))] (w.alloc (.cells #[.slice (some ⟨D, 0, none⟩) xs.length cap, .int .i64 0, .int .i64 (-1)] 85)) fun e w' => e = .returned (.pointer (some ⟨w.heap.size + 4, 0, none⟩)) ∧ RI w.heap.size D cap xs w' s0 0 ∧ Below w.heap.size w w') := by
    have := newReader_any (.pointer (some ⟨w.heap.size, 0, none⟩)) (w.alloc (.cells #[.slice (some ⟨D, 0, none⟩) xs.length cap, .int .i64 0, .int .i64 (-1)] 85))
    rw [show (w.alloc (.cells #[.slice (some ⟨D, 0, none⟩) xs.length cap, .int .i64 0, .int .i64 (-1)] 85)).heap.size = w.heap.size + 1 from by simp] at this
    refine this.mono ?_
    rintro e w' ⟨rfl, h1, h2, h3, h4, h5⟩
    refine ⟨rfl, ⟨⟨?_, h1, h2, h3, h4, by simp [s0]⟩, rfl, Nat.zero_le _, Nat.le_refl _, by simp [s0], rfl, by simp [s0]⟩, ((Below.refl _ w).alloc (Nat.le_refl _) _).trans (h5.mono (by omega))⟩
    rw [h5.block _ (by omega)]
    exact heap_alloc_new w _
  go_enter Tryd.func26, Tryd.ntmps26
  go_wp2_with (first | (go_at_call 45; refine (bytesNew_any _ _ _ _).mono ?_; rintro e w' ⟨rfl, rfl⟩) | (go_at_call 44; refine HC.out.mono ?_; rintro e w' ⟨rfl, h1, h2⟩; have HH := (show Hid (RI w.heap.size D cap xs w' s0 0 ∧ Below w.heap.size w w') from ⟨h1, h2⟩); clear h1 h2))
  go_ret
  exact ⟨rfl, HH.out.1, HH.out.2⟩
end Go.Proofs.Qxb6605687aDoor

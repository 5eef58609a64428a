/- The escape of six bytes: the walk. -/
import Derived.Test.Qxb6605550aW3
namespace Go.Proofs.Qxb6605550a
open Go.RowKit Go.Deep Pl
set_option maxHeartbeats 4000000
set_option linter.unusedSimpArgs false
set_option linter.unusedVariables false

set_option maxRecDepth 100000 in
theorem esc_six_of (r s t x y : Int) (B g cap : Nat) (xs : List Int) (w : World) (h : Raw w B g cap xs) (hcap : xs.length + 6 ≤ cap)
    (n0 : (r == 34) = false) (n1 : (r == 92) = false) (n2 : (r == 8) = false) (n3 : (r == 12) = false) (n4 : (r == 10) = false) (n5 : (r == 13) = false) (n6 : (r == 9) = false)
    (f1 : ∀ W, (binOp .shr 21 (.int .i32 r) (.int .u64 12)).run Try.prog W = .ok (.int .i32 0) W) (f2 : ∀ W, (binOp .shr 21 (.int .i32 r) (.int .u64 8)).run Try.prog W = .ok (.int .i32 0) W)
    (f3 : ∀ W, (binOp .shr 21 (.int .i32 r) (.int .u64 4)).run Try.prog W = .ok (.int .i32 s) W)
    (f4 : ∀ W, (binOp .and 21 (.int .i32 0) (.int .i32 15)).run Try.prog W = .ok (.int .i32 0) W) (f5 : ∀ W, (binOp .and 21 (.int .i32 s) (.int .i32 15)).run Try.prog W = .ok (.int .i32 s) W)
    (f6 : ∀ W, (binOp .and 21 (.int .i32 r) (.int .i32 15)).run Try.prog W = .ok (.int .i32 t) W)
    (f7 : ∀ W, (Instr.index 9 (.string ⟨#[48, 49, 50, 51, 52, 53, 54, 55, 56, 57, 97, 98, 99, 100, 101, 102]⟩) (.int .i32 0)).run Try.prog W = .ok (.int .u8 48) W)
    (f8 : ∀ W, (Instr.index 9 (.string ⟨#[48, 49, 50, 51, 52, 53, 54, 55, 56, 57, 97, 98, 99, 100, 101, 102]⟩) (.int .i32 s)).run Try.prog W = .ok (.int .u8 x) W)
    (f9 : ∀ W, (Instr.index 9 (.string ⟨#[48, 49, 50, 51, 52, 53, 54, 55, 56, 57, 97, 98, 99, 100, 101, 102]⟩) (.int .i32 t)).run Try.prog W = .ok (.int .u8 y) W) :
    Calls Try.prog 24 #[.slice (some ⟨g, 0, none⟩) xs.length cap, .int .i32 r] w fun e w' => e = .returned (.slice (some ⟨g, 0, none⟩) (xs.length + 6) cap) ∧ Raw w' B g cap (xs ++ [92, 117, 48, 48, x, y]) ∧ w.grownBy w' (some g) := by
  obtain ⟨i0, hi, hz0, hz1, hz2⟩ := info_parts Try.info5
  unfold Raw at h
  generalize hn : xs.length = n at *
  go_enter Try.func24, Try.ntmps24
  go_wp2
  clear n0 n1 n2 n3 n4 n5 n6
  refine wp_region_held_drew (S := fun _ => True) mixed trivial (fun hHeld => ?_)
  refine wpAnyH_take (i := 0) (oi := { dst := some 39, op := Op.move (Operand.tmp 0), type := 22, pos := "join.go:156", after := #[], guard := none }) (v := .slice (some ⟨g, 0, none⟩) n cap) rfl (by kernel_rfl) (by kernel_rfl) (by kernel_rfl) (fun _ _ _ h => h) (yMove _ rfl rfl rfl) trivial ?_
  simp only [Act.put, List.setIfInBounds_toArray, List.set_cons_zero, List.set_cons_succ]
  refine wpAnyH_take (i := 1) (oi := { dst := some 40, op := Op.move (Operand.tmp 1), type := 21, pos := "join.go:156", after := #[], guard := none }) (v := .int .i32 r) rfl (by kernel_rfl) (by kernel_rfl) (by kernel_rfl) (fun _ _ _ h => h) (yMove _ rfl rfl rfl) trivial ?_
  simp only [Act.put, List.setIfInBounds_toArray, List.set_cons_zero, List.set_cons_succ]
  refine wpAnyH_take (i := 2) (oi := { dst := some 41, op := Op.binOp BinOp.shr 21 (Operand.tmp 40) (Operand.const (Value.int IntKind.u64 12)) 47, type := 21, pos := "join.go:156", after := #[{ on := 1, ground := Ground.data }], guard := none }) (v := .int .i32 0) rfl (by kernel_rfl) (by kernel_rfl) (by kernel_rfl) (fun _ _ _ h => h) (yShr _ (.int .i32 r) (.int .u64 12) rfl rfl rfl rfl f1) trivial ?_
  simp only [Act.put, List.setIfInBounds_toArray, List.set_cons_zero, List.set_cons_succ]
  refine wpAnyH_take (i := 3) (oi := { dst := some 42, op := Op.binOp BinOp.and 21 (Operand.tmp 41) (Operand.const (Value.int IntKind.i32 15)) 21, type := 21, pos := "join.go:156", after := #[{ on := 2, ground := Ground.data }], guard := none }) (v := .int .i32 0) rfl (by kernel_rfl) (by kernel_rfl) (by kernel_rfl) (fun _ _ _ h => h) (yAnd _ (.int .i32 0) (.int .i32 15) rfl rfl rfl rfl f4) trivial ?_
  simp only [Act.put, List.setIfInBounds_toArray, List.set_cons_zero, List.set_cons_succ]
  refine wpAnyH_take (i := 4) (oi := { dst := some 43, op := Op.index 9 (Operand.const (Value.string { data := #[48, 49, 50, 51, 52, 53, 54, 55, 56, 57, 97, 98, 99, 100, 101, 102] })) (Operand.tmp 42), type := 5, pos := "join.go:156", after := #[{ on := 3, ground := Ground.data }], guard := none }) (v := .int .u8 48) rfl (by kernel_rfl) (by kernel_rfl) (by kernel_rfl) (fun _ _ _ h => h) (yIndex _ (.string ⟨#[48, 49, 50, 51, 52, 53, 54, 55, 56, 57, 97, 98, 99, 100, 101, 102]⟩) (.int .i32 0) rfl rfl rfl rfl f7) trivial ?_
  simp only [Act.put, List.setIfInBounds_toArray, List.set_cons_zero, List.set_cons_succ]
  refine wpAnyH_take (i := 5) (oi := { dst := some 44, op := Op.move (Operand.tmp 1), type := 21, pos := "join.go:156", after := #[], guard := none }) (v := .int .i32 r) rfl (by kernel_rfl) (by kernel_rfl) (by kernel_rfl) (fun _ _ _ h => h) (yMove _ rfl rfl rfl) trivial ?_
  simp only [Act.put, List.setIfInBounds_toArray, List.set_cons_zero, List.set_cons_succ]
  refine wpAnyH_take (i := 6) (oi := { dst := some 45, op := Op.binOp BinOp.shr 21 (Operand.tmp 44) (Operand.const (Value.int IntKind.u64 8)) 47, type := 21, pos := "join.go:156", after := #[{ on := 5, ground := Ground.data }], guard := none }) (v := .int .i32 0) rfl (by kernel_rfl) (by kernel_rfl) (by kernel_rfl) (fun _ _ _ h => h) (yShr _ (.int .i32 r) (.int .u64 8) rfl rfl rfl rfl f2) trivial ?_
  simp only [Act.put, List.setIfInBounds_toArray, List.set_cons_zero, List.set_cons_succ]
  refine wpAnyH_take (i := 7) (oi := { dst := some 46, op := Op.binOp BinOp.and 21 (Operand.tmp 45) (Operand.const (Value.int IntKind.i32 15)) 21, type := 21, pos := "join.go:156", after := #[{ on := 6, ground := Ground.data }], guard := none }) (v := .int .i32 0) rfl (by kernel_rfl) (by kernel_rfl) (by kernel_rfl) (fun _ _ _ h => h) (yAnd _ (.int .i32 0) (.int .i32 15) rfl rfl rfl rfl f4) trivial ?_
  simp only [Act.put, List.setIfInBounds_toArray, List.set_cons_zero, List.set_cons_succ]
  refine wpAnyH_take (i := 8) (oi := { dst := some 47, op := Op.index 9 (Operand.const (Value.string { data := #[48, 49, 50, 51, 52, 53, 54, 55, 56, 57, 97, 98, 99, 100, 101, 102] })) (Operand.tmp 46), type := 5, pos := "join.go:156", after := #[{ on := 7, ground := Ground.data }], guard := none }) (v := .int .u8 48) rfl (by kernel_rfl) (by kernel_rfl) (by kernel_rfl) (fun _ _ _ h => h) (yIndex _ (.string ⟨#[48, 49, 50, 51, 52, 53, 54, 55, 56, 57, 97, 98, 99, 100, 101, 102]⟩) (.int .i32 0) rfl rfl rfl rfl f7) trivial ?_
  simp only [Act.put, List.setIfInBounds_toArray, List.set_cons_zero, List.set_cons_succ]
  refine wpAnyH_take (i := 9) (oi := { dst := some 48, op := Op.move (Operand.tmp 1), type := 21, pos := "join.go:156", after := #[], guard := none }) (v := .int .i32 r) rfl (by kernel_rfl) (by kernel_rfl) (by kernel_rfl) (fun _ _ _ h => h) (yMove _ rfl rfl rfl) trivial ?_
  simp only [Act.put, List.setIfInBounds_toArray, List.set_cons_zero, List.set_cons_succ]
  refine wpAnyH_take (i := 10) (oi := { dst := some 49, op := Op.binOp BinOp.shr 21 (Operand.tmp 48) (Operand.const (Value.int IntKind.u64 4)) 47, type := 21, pos := "join.go:156", after := #[{ on := 9, ground := Ground.data }], guard := none }) (v := .int .i32 s) rfl (by kernel_rfl) (by kernel_rfl) (by kernel_rfl) (fun _ _ _ h => h) (yShr _ (.int .i32 r) (.int .u64 4) rfl rfl rfl rfl f3) trivial ?_
  simp only [Act.put, List.setIfInBounds_toArray, List.set_cons_zero, List.set_cons_succ]
  refine wpAnyH_take (i := 11) (oi := { dst := some 50, op := Op.binOp BinOp.and 21 (Operand.tmp 49) (Operand.const (Value.int IntKind.i32 15)) 21, type := 21, pos := "join.go:156", after := #[{ on := 10, ground := Ground.data }], guard := none }) (v := .int .i32 s) rfl (by kernel_rfl) (by kernel_rfl) (by kernel_rfl) (fun _ _ _ h => h) (yAnd _ (.int .i32 s) (.int .i32 15) rfl rfl rfl rfl f5) trivial ?_
  simp only [Act.put, List.setIfInBounds_toArray, List.set_cons_zero, List.set_cons_succ]
  refine wpAnyH_take (i := 12) (oi := { dst := some 51, op := Op.index 9 (Operand.const (Value.string { data := #[48, 49, 50, 51, 52, 53, 54, 55, 56, 57, 97, 98, 99, 100, 101, 102] })) (Operand.tmp 50), type := 5, pos := "join.go:156", after := #[{ on := 11, ground := Ground.data }], guard := none }) (v := .int .u8 x) rfl (by kernel_rfl) (by kernel_rfl) (by kernel_rfl) (fun _ _ _ h => h) (yIndex _ (.string ⟨#[48, 49, 50, 51, 52, 53, 54, 55, 56, 57, 97, 98, 99, 100, 101, 102]⟩) (.int .i32 s) rfl rfl rfl rfl f8) trivial ?_
  simp only [Act.put, List.setIfInBounds_toArray, List.set_cons_zero, List.set_cons_succ]
  refine wpAnyH_take (i := 13) (oi := { dst := some 52, op := Op.move (Operand.tmp 1), type := 21, pos := "join.go:156", after := #[], guard := none }) (v := .int .i32 r) rfl (by kernel_rfl) (by kernel_rfl) (by kernel_rfl) (fun _ _ _ h => h) (yMove _ rfl rfl rfl) trivial ?_
  simp only [Act.put, List.setIfInBounds_toArray, List.set_cons_zero, List.set_cons_succ]
  refine wpAnyH_take (i := 14) (oi := { dst := some 53, op := Op.binOp BinOp.and 21 (Operand.tmp 52) (Operand.const (Value.int IntKind.i32 15)) 21, type := 21, pos := "join.go:156", after := #[{ on := 13, ground := Ground.data }], guard := none }) (v := .int .i32 t) rfl (by kernel_rfl) (by kernel_rfl) (by kernel_rfl) (fun _ _ _ h => h) (yAnd _ (.int .i32 r) (.int .i32 15) rfl rfl rfl rfl f6) trivial ?_
  simp only [Act.put, List.setIfInBounds_toArray, List.set_cons_zero, List.set_cons_succ]
  refine wpAnyH_take (i := 15) (oi := { dst := some 54, op := Op.index 9 (Operand.const (Value.string { data := #[48, 49, 50, 51, 52, 53, 54, 55, 56, 57, 97, 98, 99, 100, 101, 102] })) (Operand.tmp 53), type := 5, pos := "join.go:156", after := #[{ on := 14, ground := Ground.data }], guard := none }) (v := .int .u8 y) rfl (by kernel_rfl) (by kernel_rfl) (by kernel_rfl) (fun _ _ _ h => h) (yIndex _ (.string ⟨#[48, 49, 50, 51, 52, 53, 54, 55, 56, 57, 97, 98, 99, 100, 101, 102]⟩) (.int .i32 t) rfl rfl rfl rfl f9) trivial ?_
  simp only [Act.put, List.setIfInBounds_toArray, List.set_cons_zero, List.set_cons_succ]
  clear f1 f2 f3 f4 f5 f6 f7 f8 f9
  refine wpAnyH_ready (rs := [16]) (by kernel_rfl) (by simp) ?_
  refine AllReadyH.cons (o := { dst := some 55, op := Op.buildSlice 22 6 #[(0, Operand.const (Value.int IntKind.u8 92)), (1, Operand.const (Value.int IntKind.u8 117)), (2, Operand.tmp 43), (3, Operand.tmp 47), (4, Operand.tmp 51), (5, Operand.tmp 54)], type := 22, pos := "join.go:156", after := #[{ on := 4, ground := Ground.data }, { on := 8, ground := Ground.data }, { on := 12, ground := Ground.data }, { on := 15, ground := Ground.data }], guard := none }) rfl (fun K hK => ?_) AllReadyH.nil
  go_simp
  refine hK.out _ _ trivial (fun _ => ?_)
  clear hK K
  try simp only [Act.put, List.setIfInBounds_toArray, List.set_cons_zero, List.set_cons_succ]
  refine wpAnyH_ready (rs := [17]) (by kernel_rfl) (by simp) ?_
  refine AllReadyH.cons (o := { dst := some 56, op := Op.call { callee := Callee.builtin Builtin.append, args := #[Operand.tmp 39, Operand.tmp 55], argTypes := #[22, 22] }, type := 22, pos := "join.go:156", after := #[{ on := 0, ground := Ground.data }, { on := 16, ground := Ground.data }], guard := none }) rfl (fun K hK => ?_) AllReadyH.nil
  refine step_append_fits (by rfl) _ _ 22 (by rfl) B 5 i0 1 Try.underlying22 hi hz1 g n cap _ (by rfl) (h.drew.alloc _) ⟨w.heap.size, 0, none⟩ 6 6 [.int .u8 92, .int .u8 117, .int .u8 48, .int .u8 48, .int .u8 x, .int .u8 y] (by rfl) (by rfl) (six_cells _ _ _ _ _ _ _) (six_one _ _ _ _ _ _) (by omega) ?_
  intro w1 hown1 hgrow1
  refine hK.out _ _ trivial (fun _ => ?_)
  clear hK K
  try simp only [Act.put, List.setIfInBounds_toArray, List.set_cons_zero, List.set_cons_succ]
  refine wpAnyH_ready (rs := [18]) (by kernel_rfl) (by simp) ?_
  refine AllReadyH.cons (o := { dst := some 4, op := Op.assign (Operand.tmp 56), type := 22, pos := "join.go:156", after := #[{ on := 17, ground := Ground.data }, { on := 17, ground := Ground.chain }, { on := 0, ground := Ground.phase }, { on := 1, ground := Ground.phase }, { on := 2, ground := Ground.phase }, { on := 3, ground := Ground.phase }, { on := 4, ground := Ground.phase }, { on := 5, ground := Ground.phase }, { on := 6, ground := Ground.phase }, { on := 7, ground := Ground.phase }, { on := 8, ground := Ground.phase }, { on := 9, ground := Ground.phase }, { on := 10, ground := Ground.phase }, { on := 11, ground := Ground.phase }, { on := 12, ground := Ground.phase }, { on := 13, ground := Ground.phase }, { on := 14, ground := Ground.phase }, { on := 15, ground := Ground.phase }, { on := 16, ground := Ground.phase }, { on := 17, ground := Ground.phase }], guard := none }) rfl (fun K hK => ?_) AllReadyH.nil
  go_simp
  refine hK.out _ _ trivial (fun _ => ?_)
  clear hK K
  try simp only [Act.put, List.setIfInBounds_toArray, List.set_cons_zero, List.set_cons_succ]
  refine wpAnyH_done (by kernel_rfl) ?_ _
  go_wp2
  go_ret
  refine ⟨rfl, ?_, grownBy_trans (grownBy_trans (grownBy_drew w _) (grownBy_alloc _ _ _)) hgrow1⟩
  unfold Raw
  simpa [hn] using hown1
end Go.Proofs.Qxb6605550a

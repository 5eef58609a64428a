import Derived.Test.Qxb6604722aP2
import Derived.Deep.DeepCutAuto
namespace Go.Proofs.Qxb6604722a
open Go.RowKit Lx
set_option maxHeartbeats 2000000
set_option maxRecDepth 100000
set_option linter.unusedSimpArgs false
set_option linter.unusedVariables false

/-- What 'readAhead' does at this source. -/
def RAOk (src : ByteArray) (mk : Bool) : Prop :=
  ∀ (pb : Nat) (w0 w : World) (pos md : Nat), pos ≤ src.size → md ≤ pos → ∀ (v : Value) (ts : List Tok) (nx pe : Nat), ParW pb w0 w src mk pos md v ts nx false pe → ((v = .slice none 0 0 ∧ ts = [] ∧ nx = 0) ∨ (nx < ts.length ∧ ts.length ≤ 40)) → (ts.drop nx).length ≤ 40 →
    ∀ T : List Tok × Bool × Nat × Nat, fill src mk 32 (ts.drop nx) pos md = T →
    Calls Try.prog 24 #[.pointer (some ⟨pb, 0, none⟩)] w fun e w' => e = .returned (.tuple #[]) ∧ ∃ v, ParW pb w0 w' src mk T.2.2.1 T.2.2.2 v T.1 0 T.2.1 pe

theorem end_is (k1 : Int) (k2 : Nat) (k3 k4 : ByteArray) (k5 : Nat) (w : World) (h : k2 + k3.size ≤ 9223372036854775807) :
    Calls Try.prog 48 #[.agg #[.int .i64 k1, .int .i64 k2, .string k3, .string k4, .int .i64 k5]] w fun e w' => e = .returned (.int .i64 ((k2 + k3.size : Nat) : Int)) ∧ w' = w.alloc (.cells #[.int .i64 k1, .int .i64 k2, .string k3, .string k4, .int .i64 k5] 50) := by
  go_enter Try.func48, Try.ntmps48
  go_wp2
  go_ret
  exact ⟨ret_int (by simp), rfl⟩

/-- What the parser holds, how far it is, whether it has come to the end, where its lexer is. -/
structure PSt where
  ts : List Tok
  nx : Nat
  en : Bool
  pos : Nat
  md : Nat
def stepS (src : ByteArray) (mk : Bool) (s : PSt) : PSt :=
  if s.ts.length ≤ s.nx + 1 + 4 then ⟨(fill src mk 32 (s.ts.drop (s.nx + 1)) s.pos s.md).1, 0, (fill src mk 32 (s.ts.drop (s.nx + 1)) s.pos s.md).2.1, (fill src mk 32 (s.ts.drop (s.nx + 1)) s.pos s.md).2.2.1, (fill src mk 32 (s.ts.drop (s.nx + 1)) s.pos s.md).2.2.2⟩
  else ⟨s.ts, s.nx + 1, s.en, s.pos, s.md⟩
/-- The parser in state s. -/
def PIs (pb : Nat) (w0 w : World) (src : ByteArray) (mk : Bool) (s : PSt) (pe : Nat) : Prop := ∃ v, ParW pb w0 w src mk s.pos s.md v s.ts s.nx s.en pe

theorem skip_of (src : ByteArray) (mk : Bool) (hra : RAOk src mk) (pb : Nat) (w0 w : World) (s : PSt) (pe : Nat) (h : PIs pb w0 w src mk s pe) (hl40 : s.ts.length ≤ 40) (hnl : s.nx + 1 < s.ts.length) (hp : s.pos ≤ src.size) (hm : s.md ≤ s.pos)
    (hen : s.ts.length ≤ s.nx + 1 + 4 → s.en = false) (t : Tok) (ht : s.ts[s.nx]? = some t) (hte : t.pos + t.text.size ≤ 100000000) :
    Calls Try.prog 35 #[.pointer (some ⟨pb, 0, none⟩), .int .i64 1] w fun e w' => e = .returned (.tuple #[]) ∧ PIs pb w0 w' src mk (stepS src mk s) (t.pos + t.text.size) := by
  obtain ⟨ts, nx, en, pos, md⟩ := s
  obtain ⟨v, h⟩ := h
  simp only at *
  obtain ⟨g, cap, hv, f0, f1, f2, f3, f4⟩ := h.at nx (by omega) t ht
  subst hv
  have hgp : pb < g := (h.rowLt g rfl).1
  have HP : Hid (ParW pb w0 w src mk pos md (.slice (some ⟨g, 0, none⟩) ts.length cap) ts nx en pe) := h
  obtain ⟨k1, k2, k3, k4, k5⟩ := t
  simp only at *
  have h5 := h.set5 (nx + 1) ((nx : Int) + 1) (by omega)
  have c5 := h.c5
  have fr := h.fr
  have d4 := h5.c4
  have d5 := h5.c5
  have e0 : (w.setCell ⟨pb, 5, none⟩ (.int .i64 ((nx : Int) + 1))).cell? ⟨g, nx * 5, none⟩ = some (.int .i64 k1) := (World.cell?_setCell_other _ _ _ _ (fun e => by have e' := congrArg Addr.block e; simp at e'; omega)).trans f0
  have e1 : (w.setCell ⟨pb, 5, none⟩ (.int .i64 ((nx : Int) + 1))).cell? ⟨g, nx * 5 + 1, none⟩ = some (.int .i64 k2) := (World.cell?_setCell_other _ _ _ _ (fun e => by have e' := congrArg Addr.block e; simp at e'; omega)).trans f1
  have e2 : (w.setCell ⟨pb, 5, none⟩ (.int .i64 ((nx : Int) + 1))).cell? ⟨g, nx * 5 + 2, none⟩ = some (.string k3) := (World.cell?_setCell_other _ _ _ _ (fun e => by have e' := congrArg Addr.block e; simp at e'; omega)).trans f2
  have e3 : (w.setCell ⟨pb, 5, none⟩ (.int .i64 ((nx : Int) + 1))).cell? ⟨g, nx * 5 + 3, none⟩ = some (.string k4) := (World.cell?_setCell_other _ _ _ _ (fun e => by have e' := congrArg Addr.block e; simp at e'; omega)).trans f3
  have e4 : (w.setCell ⟨pb, 5, none⟩ (.int .i64 ((nx : Int) + 1))).cell? ⟨g, nx * 5 + 4, none⟩ = some (.int .i64 k5) := (World.cell?_setCell_other _ _ _ _ (fun e => by have e' := congrArg Addr.block e; simp at e'; omega)).trans f4
  have H5 : Hid (ParW pb w0 (w.setCell ⟨pb, 5, none⟩ (.int .i64 ((nx : Int) + 1))) src mk pos md (.slice (some ⟨g, 0, none⟩) ts.length cap) ts (nx + 1) en pe) := h5
  clear h h5 ht f0 f1 f2 f3 f4
  go_enter Try.func35, Try.ntmps35
  go_upto_region 1 with fail
  have fr1 := H5.out.fr
  generalize w.setCell ⟨pb, 5, none⟩ (.int .i64 ((nx : Int) + 1)) = W at H5 d4 d5 e0 e1 e2 e3 e4 fr1 ⊢
  clear c5 fr HP
  have hwr : IntKind.i64.wrap ((nx : Int) + 1 - 1) = nx := by rw [IntWalk.i64_in _ (by omega)]; omega
  have hwr2 : IntKind.i64.wrap (nx : Int) = nx := IntWalk.i64_in _ (by omega)
  have b0 : (0 : Int) ≤ (nx : Int) := Int.natCast_nonneg _
  have b1 : (nx : Int) < (ts.length : Int) := by omega
  have hgp1 : ¬ pb = g := by omega
  have hgp2 : ¬ g = pb := by omega
  have c7 := fun o => (H5.out.alloc o).c7
  have f7 := fun o => (H5.out.alloc o).fr 7
  have s4 : ∀ (o : Obj) (u : Value), ((W.alloc o).setCell ⟨pb, 7, none⟩ u).cell? ⟨pb, 4, none⟩ = some (.slice (some ⟨g, 0, none⟩) ts.length cap) := fun o u => (setO 7 4 u (by decide)).trans (H5.out.alloc o).c4
  have s5 : ∀ (o : Obj) (u : Value), ((W.alloc o).setCell ⟨pb, 7, none⟩ u).cell? ⟨pb, 5, none⟩ = some (.int .i64 ((nx + 1 : Nat) : Int)) := fun o u => (setO 7 5 u (by decide)).trans (H5.out.alloc o).c5
  have n4 := World.new_ne W _ d4
  have n5 := World.new_ne W _ d5
  have m0 := World.new_ne W _ e0
  have m1 := World.new_ne W _ e1
  have m2 := World.new_ne W _ e2
  have m3 := World.new_ne W _ e3
  have m4 := World.new_ne W _ e4
  go_region_held3 (fun w' => w'.cell? ⟨pb, 4, none⟩ = some (.slice (some ⟨g, 0, none⟩) ts.length cap) ∧ w'.cell? ⟨pb, 5, none⟩ = some (.int .i64 ((nx + 1 : Nat) : Int)) ∧ w'.cell? ⟨g, nx * 5, none⟩ = some (.int .i64 k1) ∧ w'.cell? ⟨g, nx * 5 + 1, none⟩ = some (.int .i64 k2) ∧ w'.cell? ⟨g, nx * 5 + 2, none⟩ = some (.string k3) ∧ w'.cell? ⟨g, nx * 5 + 3, none⟩ = some (.string k4) ∧ w'.cell? ⟨g, nx * 5 + 4, none⟩ = some (.int .i64 k5)) (go_keep)
    ((go_at_call 48; refine (end_is k1 k2 k3 k4 k5 _ (by omega)).mono ?_; rintro e w' ⟨rfl, rfl⟩))
  have H7 : Hid (ParW pb w0 (((W.alloc (.cells #[.int .i64 k1, .int .i64 k2, .string k3, .string k4, .int .i64 k5] 50)).setCell ⟨pb, 7, none⟩ (.int .i64 ((k2 : Int) + (k3.size : Int)))).drew) src mk pos md (.slice (some ⟨g, 0, none⟩) ts.length cap) ts (nx + 1) en (k2 + k3.size)) := ((H5.out.alloc _).set7 (k2 + k3.size) _ (by omega)).drewN 1
  generalize ((W.alloc (.cells #[.int .i64 k1, .int .i64 k2, .string k3, .string k4, .int .i64 k5] 50)).setCell ⟨pb, 7, none⟩ (.int .i64 ((k2 : Int) + (k3.size : Int)))).drew = W2 at H7 ⊢
  clear H5 d4 d5 e0 e1 e2 e3 e4 fr1 hwr hwr2 c7 f7 s4 s5 n4 n5 m0 m1 m2 m3 m4
  have c4 := H7.out.c4
  have c5 := H7.out.c5
  by_cases h4 : ts.length ≤ nx + 1 + 4
  · have hst : stepS src mk ⟨ts, nx, en, pos, md⟩ = ⟨(fill src mk 32 (ts.drop (nx + 1)) pos md).1, 0, (fill src mk 32 (ts.drop (nx + 1)) pos md).2.1, (fill src mk 32 (ts.drop (nx + 1)) pos md).2.2.1, (fill src mk 32 (ts.drop (nx + 1)) pos md).2.2.2⟩ := if_pos h4
    have hen' := hen h4
    subst hen'
    have HRA : Hid (∀ W3, ParW pb w0 W3 src mk pos md (.slice (some ⟨g, 0, none⟩) ts.length cap) ts (nx + 1) false (k2 + k3.size) → Calls Try.prog 24 #[.pointer (some ⟨pb, 0, none⟩)] W3 fun e w' => e = .returned (.tuple #[]) ∧ PIs pb w0 w' src mk (stepS src mk ⟨ts, nx, false, pos, md⟩) (k2 + k3.size)) := fun W3 hW3 => by
      rw [hst]
      exact hra pb w0 W3 pos md hp hm _ ts (nx + 1) _ hW3 (.inr ⟨hnl, hl40⟩) (by rw [List.length_drop]; omega) _ rfl
    clear hst hra hen
    have hsub : ((ts.length : Int) - ((nx : Int) + 1) ≤ 4) := by omega
    go_wp2
    go_quiet (fail)
    go_wp2_with fail
    refine (HRA.out _ (H7.out.drewN _)).mono ?_
    rintro e w' ⟨rfl, hpi⟩
    go_wp2
    go_end0
    exact ⟨rfl, hpi⟩
  · have hst : stepS src mk ⟨ts, nx, en, pos, md⟩ = ⟨ts, nx + 1, en, pos, md⟩ := if_neg h4
    have HST : Hid (stepS src mk ⟨ts, nx, en, pos, md⟩ = ⟨ts, nx + 1, en, pos, md⟩) := hst
    clear hst hra hen
    go_wp2
    go_quiet (fail)
    go_wp2
    go_end0
    exact ⟨rfl, by rw [HST.out]; exact ⟨_, H7.out.drewN _⟩⟩

end Go.Proofs.Qxb6604722a

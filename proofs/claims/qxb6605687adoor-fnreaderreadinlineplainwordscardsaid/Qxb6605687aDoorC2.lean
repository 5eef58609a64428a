/- append of a string within the capacity, whatever the capacity. -/
import Derived.Test.Qxb6605687aDoorC1
import Derived.Room.AppendFits
namespace Go.Proofs.Qxb6605687aDoor
open Go.RowKit
set_option maxHeartbeats 4000000
set_option linter.unusedSimpArgs false
set_option linter.unusedVariables false

theorem run_append_str {P : Program} (w : World) (base : Nat) (t u ty e : TypeId) (i : TypeInfo) (ht : P.underlying t = some (.slice e)) (hu : P.underlying u = some .string) (hi : P.info? e = some i) (hsize : i.size = 1)
    (g n cap : Nat) (xs : List Value) (hown : w.ownsRow base e 1 (.slice (some ⟨g, 0, none⟩) n cap) n xs) (s : ByteArray) (hroom : n + s.size ≤ cap) :
    ∃ w', (Builtin.append_ #[t, u] ty #[.slice (some ⟨g, 0, none⟩) n cap, .string s]).run P w = .ok (.slice (some ⟨g, 0, none⟩) (n + s.size) cap) w' ∧ w'.ownsRow base e 1 (.slice (some ⟨g, 0, none⟩) (n + s.size) cap) (n + s.size) (xs ++ Lib.strCells s) ∧ w.grownBy w' (some g) := by
  rcases Nat.eq_zero_or_pos cap with h0 | hp
  · subst h0
    have hxl : xs.length = n := by simpa using hown.1
    obtain rfl : n = 0 := by omega
    have hs0 : s.size = 0 := by omega
    have hsc : Lib.strCells s = [] := List.eq_nil_of_length_eq_zero (by rw [Lib.strCells_length, hs0])
    rcases hown.2 with ⟨hv, _⟩ | ⟨g', cap', cur, hv, hbg, hg, hnc, hcm, hcs, htake⟩
    · cases hv
    · cases hv
      have hr := Lib.run_append_room_string (P := P) w t u ty e i ht hu hi hsize g 0 0 cur hg s (by omega) (by omega)
      refine ⟨_, hr, ⟨by rw [hsc, hs0]; simpa using hown.1, .inr ⟨g, 0, _, rfl, hbg, setRow_heap w g cur _ e _ hg, by omega, hcm, ?_, ?_⟩⟩, ⟨rfl, rfl, rfl, by simp, fun k _ hk => setRow_other w g k _ (fun e => hk (by simp [e]))⟩⟩
      · simp [hsc, hs0]; simpa using hcs
      · have hx : xs = [] := List.eq_nil_of_length_eq_zero hxl
        simp [hs0, hsc, hx]
  · exact Lib.run_append_fits_string w base t u ty e i ht hu hi hsize (some ⟨g, 0, none⟩) n cap xs hown s hp hroom
theorem wpList_append_str {P : Program} (w : World) {ops : Array Oper} {rest : List Oper} {o : Oper} {a : Act} {Q : Exit → Act → World → Prop} (hgd : o.guard = none) (sl x : Operand) (t u : TypeId)
    (ho : o.op = .call { callee := .builtin .append, args := #[sl, x], argTypes := #[t, u] })
    (base : Nat) (e : TypeId) (i : TypeInfo) (ht : P.underlying t = some (.slice e)) (hu : P.underlying u = some .string) (hi : P.info? e = some i) (hsize : i.size = 1)
    (g n cap : Nat) (xs : List Value) (hs : a.eval sl = .slice (some ⟨g, 0, none⟩) n cap) (hown : w.ownsRow base e 1 (.slice (some ⟨g, 0, none⟩) n cap) n xs) (s : ByteArray) (hx : a.eval x = .string s) (hroom : n + s.size ≤ cap)
    (h : ∀ w', w'.ownsRow base e 1 (.slice (some ⟨g, 0, none⟩) (n + s.size) cap) (n + s.size) (xs ++ Lib.strCells s) → w.grownBy w' (some g) → wpList P ops Q rest (a.put o.dst (.slice (some ⟨g, 0, none⟩) (n + s.size) cap)) w') : wpList P ops Q (o :: rest) a w := by
  refine wpList_plain hgd fun K hK => ?_
  obtain ⟨w', hr, h2, h3⟩ := run_append_str (P := P) w base t u o.type e i ht hu hi hsize g n cap xs hown s hroom
  unfold Oper.wp execOp
  simp only [ho, resolve, invoke, builtin, Sem.run_bind, Sem.run_pure, Result.andThen_ok, List.map_toArray, List.map_cons, List.map_nil, hs, hx, hr]
  exact hK _ _ (h w' h2 h3)
end Go.Proofs.Qxb6605687aDoor

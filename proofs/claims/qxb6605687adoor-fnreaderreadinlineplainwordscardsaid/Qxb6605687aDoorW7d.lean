/- splitInline: what its loops keep. -/
import Derived.Test.Qxb6605687aDoorR2
import Derived.WalkMore
namespace Go.Proofs.Qxb6605687aDoor
open Go.RowKit
set_option maxHeartbeats 4000000
set_option maxRecDepth 100000
set_option linter.unusedSimpArgs false
set_option linter.unusedVariables false

variable {h D cap : Nat} {xs : List Int} {W : World} {s : St} {lb lo : Nat} {l L : List Int} {A : List Int} {vs : List Value} {args : List (List Int)}

/-- What 'splitInline' leaves. -/
def Split (h D cap : Nat) (xs : List Int) (W : World) (s : St) (L : List Int) (T : Bool × List Int × List (List Int)) (e : Ending) (w' : World) : Prop :=
  ∃ ev ag' ar' vs', e = .returned ev ∧ ((T.1 = true ∧ ev = .nilIface) ∨ (T.1 = false ∧ ∃ p, ev = .iface 100 p)) ∧ RS h D cap xs w' { s with ag := ag', ar := ar' } ∧ Rows3 (h + 5) w' ag' ar' s.lg T.2.1 vs' T.2.2 L ∧ Below h W w'

/-- What the loop over the words keeps. -/
def Out (h D cap : Nat) (xs : List Int) (W : World) (s : St) (lb lo : Nat) (l L : List Int) (T : Bool × List Int × List (List Int)) (a0 v0 : Nat) (g : Nat) (v6 : Value) (wr : World) : Prop :=
  ∃ (i : Nat) (ag ar : Value) (A : List Int) (vs : List Value) (args : List (List Int)), v6 = .int .i64 (i : Int) ∧ i ≤ l.length ∧ WS h D cap xs W s lb lo l L wr ag ar A vs args ∧ spl g (l.drop i) A args = T ∧ l.length < g + i ∧ A.length ≤ a0 + i ∧ vs.length ≤ v0 + i

/-- What the loop over a word keeps. -/
def Wrd (h D cap : Nat) (xs : List Int) (W : World) (s : St) (lb lo : Nat) (l L : List Int) (ag : Value) (vs : List Value) (args : List (List Int)) (T2 : Option (List Int × Int) × List Int) (a0 j : Nat) (g : Nat) (v6 v8 : Value) (w2 : World) : Prop :=
  ∃ (k : Nat) (q : Int) (ar : Value) (A : List Int), v6 = .int .i64 (k : Int) ∧ v8 = .int .u8 q ∧ (q = 0 ∨ q = 34 ∨ q = 39) ∧ j ≤ k ∧ k ≤ l.length ∧ WS h D cap xs W s lb lo l L w2 ag ar A vs args ∧ wd g (l.drop k) q A = T2 ∧ l.length < g + k ∧ A.length ≤ a0 + k
/-- Behind it. -/
def Wrt (h D cap : Nat) (xs : List Int) (W : World) (s : St) (lb lo : Nat) (l L : List Int) (ag : Value) (vs : List Value) (args : List (List Int)) (T2 : Option (List Int × Int) × List Int) (a0 : Nat) (v6 v8 : Value) (w2 : World) : Prop :=
  ∃ (k : Nat) (q : Int) (ar : Value) (A : List Int), v6 = .int .i64 (k : Int) ∧ v8 = .int .u8 q ∧ k ≤ l.length ∧ WS h D cap xs W s lb lo l L w2 ag ar A vs args ∧ T2 = (some (l.drop k, q), A) ∧ A.length ≤ a0 + k

theorem info5 : (Tryd.prog.info? 5).map (fun i => (i.zero, i.size, i.bytes)) = some (some (.int .u8 0), 1, 1) := by kernel_rfl
theorem info24 : (Tryd.prog.info? 24).map (fun i => (i.zero, i.size, i.bytes)) = some (some (.slice none 0 0), 1, 24) := by kernel_rfl

theorem toNul_pre (l : List Int) : ∃ k, k ≤ l.length ∧ toNul l = l.take k := by
  unfold toNul
  cases hf : fi l 0 with
  | some k => exact ⟨k, by have := fi_lt hf; omega, rfl⟩
  | none => exact ⟨l.length, Nat.le_refl _, by rw [List.take_length]⟩

end Go.Proofs.Qxb6605687aDoor

/- copy onto a new row. -/
import Derived.Test.Qxb6605687aDoorW1
namespace Go.Proofs.Qxb6605687aDoor
open Go.RowKit
set_option maxHeartbeats 4000000
set_option maxRecDepth 100000
set_option linter.unusedSimpArgs false
set_option linter.unusedVariables false

theorem wpList_copy_at {P : Program} {ops : Array Oper} {rest : List Oper} {o : Oper} {a : Act} {w : World} {Q : Exit → Act → World → Prop} (hgd : o.guard = none) (d s : Operand) (dT sT : TypeId)
    (ho : o.op = .call { callee := .builtin .copy, args := #[d, s], argTypes := #[dT, sT] }) (elem : TypeId) (hu : P.underlying dT = some (.slice elem)) (hsz : (P.info? elem).map (·.size) = some 1)
    (g off dLen dCap : Nat) (ad : Addr) (sLen sCap : Nat) (hd : a.eval d = .slice (some ⟨g, off, none⟩) dLen dCap) (hs : a.eval s = .slice (some ad) sLen sCap)
    (cur : Array Value) (t : TypeId) (hg : w.heap[g]? = some (.cells cur t (0, 0))) (cs : List Value) (m : Nat) (hm : Nat.min sLen dLen = m) (hn : cs.length = m)
    (hsrc : ∀ j v, cs[j]? = some v → w.cell? (ad.add j) = some v) (hfit : off + cs.length ≤ cur.size) (h1 : ∀ v ∈ cs, v.oneCell' = true)
    (R : Array Value) (hR : R = (cur.toList.take off ++ cs ++ cur.toList.drop (off + cs.length)).toArray) (h : wpList P ops Q rest (a.put o.dst (.int .i64 (m : Int))) (w.setRow g R)) : wpList P ops Q (o :: rest) a w :=
  wpList_plain hgd fun K hK => by
    have := step_copy_at (P := P) (ops := ops) (o := o) (a := a) (w := w) (K := K) (Q := Q) (E := False) hgd d s dT sT ho elem hu hsz g off dLen dCap ad sLen sCap hd hs cur t hg cs m hm hn hsrc hfit h1 R hR (hK _ _ h)
    have hw : Region.wanted o (yielded ops a.tmps) = true := by simp [Region.wanted, hgd]
    rw [if_pos hw] at this
    exact this
end Go.Proofs.Qxb6605687aDoor

/- The escape of six bytes. -/
import Derived.Test.Qxb6605550aW2
import Derived.Deep.RegionHeld3
namespace Go.Proofs.Qxb6605550a
open Go.RowKit Go.Deep Pl
set_option maxHeartbeats 4000000
set_option linter.unusedSimpArgs false
set_option linter.unusedVariables false

/-- In a region: append within the capacity, the row the call's own. -/
theorem step_append_fits {P : Program} {ops : Array Oper} {o : Oper} {a : Act} {w : World} {K : Act → World → Prop} {Q : Exit → Act → World → Prop} {E : Prop}
    (hg : o.guard = none) (s x : Operand) (t : TypeId) (hop : o.op = Op.call { callee := Callee.builtin Builtin.append, args := #[s, x], argTypes := #[t, t] })
    (base : Nat) (e : TypeId) (i : TypeInfo) (size : Nat) (h1 : P.underlying t = some (.slice e)) (h2 : P.info? e = some i) (h4 : i.size = size)
    (g k cap : Nat) (xs : List Value) (hs : a.eval s = .slice (some ⟨g, 0, none⟩) k cap) (hown : w.ownsRow base e size (.slice (some ⟨g, 0, none⟩) k cap) k xs) (ad : Addr) (m c : Nat) (news : List Value) (hx : a.eval x = .slice (some ad) m c) (hn : news.length = m * size)
    (hc : ∀ j u, news[j]? = some u → w.cell? (ad.add j) = some u) (h1c : ∀ u ∈ news, u.oneCell' = true) (b1 : k + m ≤ cap)
    (hK : ∀ w', w'.ownsRow base e size (.slice (some ⟨g, 0, none⟩) (k + m) cap) (k + m) (xs ++ news) → w.grownBy w' (some g) → K (a.put o.dst (.slice (some ⟨g, 0, none⟩) (k + m) cap)) w') :
    if Region.wanted o (yielded ops a.tmps) = true then Oper.wp P o a w K Q else E := by
  have hw : Region.wanted o (yielded ops a.tmps) = true := by simp [Region.wanted, hg]
  rw [if_pos hw]
  obtain ⟨w', hrun, r1, r2⟩ := run_append_fits (P := P) w base t o.type e i size h1 h2 h4 g k cap xs hown ad m c news hn hc h1c b1
  unfold Oper.wp
  simp [execOp, hop, resolve, invoke, builtin, hs, hx, hrun, Result.andThen]
  exact hK w' r1 r2

theorem six_cells (w : World) (a b c d e f : Int) : ∀ (j : Nat) (u : Value), [Value.int .u8 a, .int .u8 b, .int .u8 c, .int .u8 d, .int .u8 e, .int .u8 f][j]? = some u →
    (w.alloc (.cells #[.int .u8 a, .int .u8 b, .int .u8 c, .int .u8 d, .int .u8 e, .int .u8 f] 5)).cell? ((⟨w.heap.size, 0, none⟩ : Addr).add j) = some u := by
  intro j u h
  match j, h with
  | 0, h => simp at h; subst h; simp [Addr.add]
  | 1, h => simp at h; subst h; simp [Addr.add]
  | 2, h => simp at h; subst h; simp [Addr.add]
  | 3, h => simp at h; subst h; simp [Addr.add]
  | 4, h => simp at h; subst h; simp [Addr.add]
  | 5, h => simp at h; subst h; simp [Addr.add]
theorem six_one (a b c d e f : Int) : ∀ u ∈ [Value.int .u8 a, .int .u8 b, .int .u8 c, .int .u8 d, .int .u8 e, .int .u8 f], u.oneCell' = true := by
  intro u hu
  simp at hu
  rcases hu with rfl | rfl | rfl | rfl | rfl | rfl <;> rfl

theorem mixed : Try.prog.follows .mixedOrders = true := by kernel_rfl

theorem yMove {P : Program} {ops : Array Oper} {S : World → Prop} {o : Oper} {a : Act} {x : Operand} (v : Value) (hg : o.guard = none) (hop : o.op = .move x) (hv : a.eval x = v) : YieldsIf P ops S o v a := by
  refine Or.inl ⟨by simp [Region.wanted, hg], fun w _ => ?_⟩
  subst hv
  simp [execOp, hop]
theorem yShr {P : Program} {ops : Array Oper} {S : World → Prop} {o : Oper} {a : Act} {t u : TypeId} {x y : Operand} (v p q : Value) (hg : o.guard = none) (hop : o.op = .binOp .shr t x y u) (hp : a.eval x = p) (hq : a.eval y = q)
    (h : ∀ W, (binOp .shr t p q).run P W = .ok v W) : YieldsIf P ops S o v a := by
  refine Or.inl ⟨by simp [Region.wanted, hg], fun w _ => ?_⟩
  subst hp
  subst hq
  simp only [execOp, hop, eqGuard]
  simp [h]
theorem yAnd {P : Program} {ops : Array Oper} {S : World → Prop} {o : Oper} {a : Act} {t u : TypeId} {x y : Operand} (v p q : Value) (hg : o.guard = none) (hop : o.op = .binOp .and t x y u) (hp : a.eval x = p) (hq : a.eval y = q)
    (h : ∀ W, (binOp .and t p q).run P W = .ok v W) : YieldsIf P ops S o v a := by
  refine Or.inl ⟨by simp [Region.wanted, hg], fun w _ => ?_⟩
  subst hp
  subst hq
  simp only [execOp, hop, eqGuard]
  simp [h]
theorem yIndex {P : Program} {ops : Array Oper} {S : World → Prop} {o : Oper} {a : Act} {t : TypeId} {x y : Operand} (v p q : Value) (hg : o.guard = none) (hop : o.op = .index t x y) (hp : a.eval x = p) (hq : a.eval y = q)
    (h : ∀ W, (Instr.index t p q).run P W = .ok v W) : YieldsIf P ops S o v a := by
  refine Or.inl ⟨by simp [Region.wanted, hg], fun w _ => ?_⟩
  subst hp
  subst hq
  simp only [execOp, hop]
  simp [h]
end Go.Proofs.Qxb6605550a

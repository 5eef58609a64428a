/- What the reader's arguments hold behind the call. -/
import Derived.Test.Qxb6605687aDoorP8b
import Derived.Test.Qxb6605687aDoorH3
import Derived.Test.Qxb6605687aDoorB7
namespace Go.Proofs.Qxb6605687aDoor
open Go.RowKit
set_option maxHeartbeats 8000000
set_option maxRecDepth 100000
set_option linter.unusedSimpArgs false
set_option linter.unusedVariables false

theorem u8s_get (l : List Int) (k : Nat) (h : k < l.length) : (u8s l)[k]? = some (.int .u8 (l.getD k 0)) := by
  simp [u8s, h]

theorem got_all {b : Nat} {w : World} {ag ar lg : Value} {A : List Int} {vs : List Value} {S : List ByteArray} {L : List Int} (R : Rows3 b w ag ar lg A vs (Sb S) L) {pg : Option Addr} {cg q : Nat} (hag : ag = .slice pg vs.length cg) (hq : q = S.length) :
    ∀ k, k < q → ∃ g ao, pg = some ⟨g, 0, none⟩ ∧ w.cell? ⟨g, k, none⟩ = some (.slice ao (S.getD k default).size (S.getD k default).size) ∧ ∀ m, m < (S.getD k default).size → ∃ g' o', ao = some ⟨g', o', none⟩ ∧ w.cell? ⟨g', o' + m, none⟩ = some (.int .u8 (sa (S.getD k default) m)) := by
  intro k hk
  have hl := R.len
  rw [Sb_len] at hl
  have hkv : k < vs.length := by omega
  have hv : vs[k]? = some vs[k] := by simp [hkv]
  have ha := Sb_get S k (by omega)
  obtain ⟨ao, e1, h2⟩ := R.hs k _ _ hv ha
  rw [sb_len] at e1 h2
  have hog := R.og
  rw [hag] at hog
  rcases hog.2 with ⟨h3, h4⟩ | ⟨g, c, cur, h3, _⟩
  · omega
  · cases h3
    have hcell := hog.cells (g := g) rfl k vs[k] hv
    rw [add_mk, Nat.zero_add, e1] at hcell
    refine ⟨g, ao, rfl, hcell, fun m hm => ?_⟩
    obtain ⟨g', o', e2, _, _, _, _, _, h5⟩ := h2 (by omega)
    exact ⟨g', o', e2, h5 m hm⟩

end Go.Proofs.Qxb6605687aDoor

/- The reader while a line is split. -/
import Derived.Test.Qxb6605687aDoorR1
import Derived.Test.Qxb6605687aDoorW5
import Derived.Test.Qxb6605687aDoorW6
namespace Go.Proofs.Qxb6605687aDoor
open Go.RowKit
set_option maxHeartbeats 4000000
set_option linter.unusedSimpArgs false
set_option linter.unusedVariables false

structure WS (h D cap : Nat) (xs : List Int) (W0 : World) (s : St) (lb lo : Nat) (l : List Int) (L : List Int) (wr : World) (ag ar : Value) (A : List Int) (vs : List Value) (args : List (List Int)) : Prop where
  rs : RS h D cap xs wr { s with ag := ag, ar := ar }
  rows : Rows3 (h + 5) wr ag ar s.lg A vs args L
  ln : LN wr ag ar lb lo l
  bel : Below h W0 wr

section
variable {h D cap : Nat} {xs : List Int} {W0 : World} {s : St} {lb lo : Nat} {l L : List Int} {wr : World} {ag ar : Value} {A : List Int} {vs : List Value} {args : List (List Int)}

theorem WS.same (H : WS h D cap xs W0 s lb lo l L wr ag ar A vs args) {w' : World} (hb : Below wr.heap.size wr w') : WS h D cap xs W0 s lb lo l L w' ag ar A vs args := by
  have hlt := H.rs.lt
  exact ⟨H.rs.same fun k _ hk => hb.block k (by omega), H.rows.keep hb.size fun k _ hk => hb.block k hk, H.ln.keep hb.size (hb.block _ H.ln.lt), H.bel.trans (hb.mono (by omega))⟩
theorem WS.drewN (H : WS h D cap xs W0 s lb lo l L wr ag ar A vs args) (k : Nat) : WS h D cap xs W0 s lb lo l L (wr.drewN k) ag ar A vs args := H.same (below_drewN (Below.refl _ wr) k)
theorem WS.drew (H : WS h D cap xs W0 s lb lo l L wr ag ar A vs args) : WS h D cap xs W0 s lb lo l L wr.drew ag ar A vs args := H.same (Below.refl _ wr).drew
theorem WS.alloc (H : WS h D cap xs W0 s lb lo l L wr ag ar A vs args) (o : Obj) : WS h D cap xs W0 s lb lo l L (wr.alloc o) ag ar A vs args := H.same ((Below.refl _ wr).alloc (Nat.le_refl _) o)

/-- A byte is laid behind the arena. -/
theorem WS.putA (H : WS h D cap xs W0 s lb lo l L wr ag ar A vs args) (hlb : lb ≠ h + 4) {w' : World} {ar' : Value} {m : List Int} (ho : w'.ownsRow (h + 5) 5 1 ar' (A.length + m.length) (u8s A ++ u8s m)) (hm : Moved wr w' ar ar') :
    WS h D cap xs W0 s lb lo l L (w'.setCell ⟨h + 4, 3, none⟩ ar') ag ar' (A ++ m) vs args := by
  have hr : ∀ k, ar.ownBlock = some k → h + 5 ≤ k := fun k hk => (H.rows.oa.lt k hk).1
  have h1 : RS h D cap xs w' { s with ag := ag, ar := ar } := H.rs.grown hm.grown hr
  refine ⟨h1.setR3 ar', (H.rows.putA ho hm).set _ _ (by show h + 4 < h + 5; omega), (H.ln.putA hm).keep (by simp [World.setCell]) (heap_set_ne hlb), ?_⟩
  exact (H.bel.grown hm.grown (by have := H.rs.lt; omega) (fun k hk => by have := hr k hk; omega)).setCell (by show h ≤ h + 4; omega) _
/-- An argument is laid behind the others. -/
theorem WS.putG (H : WS h D cap xs W0 s lb lo l L wr ag ar A vs args) (hlb : lb ≠ h + 4) {w' : World} {ag' v : Value} {arg : List Int} (ho : w'.ownsRow (h + 5) 24 1 ag' (vs.length + 1) (vs ++ [v])) (hm : Moved wr w' ag ag') (hv : Hold (h + 5) wr ag ar s.lg A.length v arg) :
    WS h D cap xs W0 s lb lo l L (w'.setCell ⟨h + 4, 2, none⟩ ag') ag' ar A (vs ++ [v]) (args ++ [arg]) := by
  have hr : ∀ k, ag.ownBlock = some k → h + 5 ≤ k := fun k hk => (H.rows.og.lt k hk).1
  have h1 : RS h D cap xs w' { s with ag := ag, ar := ar } := H.rs.grown hm.grown hr
  refine ⟨h1.setR2 ag', (H.rows.putG ho hm hv).set _ _ (by show h + 4 < h + 5; omega), (H.ln.putG hm).keep (by simp [World.setCell]) (heap_set_ne hlb), ?_⟩
  exact (H.bel.grown hm.grown (by have := H.rs.lt; omega) (fun k hk => by have := hr k hk; omega)).setCell (by show h ≤ h + 4; omega) _
end

theorem spl_nil (g : Nat) (l A : List Int) (ags : List (List Int)) (h : skp l = []) : spl (g + 1) l A ags = (true, A, ags) := by rw [spl, h]
theorem spl_glued (g : Nat) (l A A' : List Int) (ags : List (List Int)) (c : Int) (r : List Int) (h : skp l = c :: r) (hw : wd (r.length + 2) (c :: r) 0 A = (none, A')) : spl (g + 1) l A ags = (false, A', ags) := by rw [spl, h]; simp only [hw]
theorem spl_open (g : Nat) (l A A' : List Int) (ags : List (List Int)) (c : Int) (r l' : List Int) (q : Int) (h : skp l = c :: r) (hw : wd (r.length + 2) (c :: r) 0 A = (some (l', q), A')) (hq : q ≠ 0) : spl (g + 1) l A ags = (false, A', ags) := by rw [spl, h]; simp only [hw, hq, if_false]
theorem spl_word (g : Nat) (l A A' : List Int) (ags : List (List Int)) (c : Int) (r l' : List Int) (h : skp l = c :: r) (hw : wd (r.length + 2) (c :: r) 0 A = (some (l', 0), A')) : spl (g + 1) l A ags = spl g l' A' (ags ++ [A'.drop A.length]) := by rw [spl, h]; simp only [hw, if_true]

theorem drop_cons (l : List Int) (i : Nat) (hi : i < l.length) : l.drop i = l.getD i 0 :: l.drop (i + 1) := by
  rw [List.drop_eq_getElem_cons hi]
  congr 1
  simp [hi]
theorem skp_sp (l : List Int) (i : Nat) (hi : i < l.length) (h : isSp (l.getD i 0) = true) : skp (l.drop i) = skp (l.drop (i + 1)) := by
  rw [drop_cons l i hi, skp, if_pos h]
theorem skp_no (l : List Int) (i : Nat) (h : i < l.length → isSp (l.getD i 0) = false) : skp (l.drop i) = l.drop i := by
  rcases Nat.lt_or_ge i l.length with hi | hi
  · rw [drop_cons l i hi, skp, if_neg (by rw [h hi]; simp)]
  · rw [List.drop_eq_nil_of_le hi, skp]
end Go.Proofs.Qxb6605687aDoor

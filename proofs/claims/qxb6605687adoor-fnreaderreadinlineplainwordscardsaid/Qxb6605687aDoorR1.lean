/- The reader's three rows: arguments, arena, long line. -/
import Derived.Test.Qxb6605687aDoorL1
namespace Go.Proofs.Qxb6605687aDoor
open Go.RowKit
set_option maxHeartbeats 4000000
set_option linter.unusedSimpArgs false
set_option linter.unusedVariables false

/-- An argument: a slice that holds these bytes; where it lies in the arena's own block it lies behind none of what is still to come. -/
def Hold (b : Nat) (w : World) (ag ar lg : Value) (n : Nat) (v : Value) (arg : List Int) : Prop :=
  ∃ ao, v = .slice ao arg.length arg.length ∧ (0 < arg.length → ∃ g o, ao = some ⟨g, o, none⟩ ∧ b ≤ g ∧ g < w.heap.size ∧ ag.ownBlock ≠ some g ∧ lg.ownBlock ≠ some g ∧ (ar.ownBlock = some g → o + arg.length ≤ n) ∧
    ∀ j, j < arg.length → w.cell? ⟨g, o + j, none⟩ = some (.int .u8 (arg.getD j 0)))

structure Rows3 (b : Nat) (w : World) (ag ar lg : Value) (A : List Int) (vs : List Value) (args : List (List Int)) (L : List Int) : Prop where
  oa : w.ownsRow b 5 1 ar A.length (u8s A)
  og : w.ownsRow b 24 1 ag vs.length vs
  ol : w.ownsRow b 5 1 lg L.length (u8s L)
  dag : ∀ g, ar.ownBlock = some g → ag.ownBlock ≠ some g
  dal : ∀ g, ar.ownBlock = some g → lg.ownBlock ≠ some g
  dgl : ∀ g, ag.ownBlock = some g → lg.ownBlock ≠ some g
  len : vs.length = args.length
  hs : ∀ (k : Nat) (v : Value) (arg : List Int), vs[k]? = some v → args[k]? = some arg → Hold b w ag ar lg A.length v arg

/-- A line that is read. -/
structure LN (w : World) (ag ar : Value) (lb lo : Nat) (l : List Int) : Prop where
  c : ∀ j, j < l.length → w.cell? ⟨lb, lo + j, none⟩ = some (.int .u8 (l.getD j 0))
  lt : lb < w.heap.size
  na : ar.ownBlock ≠ some lb
  ng : ag.ownBlock ≠ some lb

theorem Moved.keep {w w' : World} {v v' : Value} (h : Moved w w' v v') {k : Nat} (hk : k < w.heap.size) (hn : v.ownBlock ≠ some k) : w'.heap[k]? = w.heap[k]? := by
  rcases h with ⟨_, h⟩ | ⟨_, h⟩
  · exact h.block k hk (fun e => hn e.symm)
  · exact h.block k hk (by simp)
theorem Moved.size {w w' : World} {v v' : Value} (h : Moved w w' v v') : w.heap.size ≤ w'.heap.size := by
  rcases h with ⟨_, h⟩ | ⟨_, h⟩ <;> exact h.size
theorem Moved.grown {w w' : World} {v v' : Value} (h : Moved w w' v v') : w.grownBy w' v.ownBlock := by
  rcases h with ⟨_, h⟩ | ⟨_, h⟩
  · exact h
  · exact ⟨h.os, h.tape, h.output, h.size, fun k hk _ => h.block k hk (by simp)⟩
theorem Moved.ne {w w' : World} {v v' : Value} (h : Moved w w' v v') {k : Nat} (hk : k < w.heap.size) (hn : v.ownBlock ≠ some k) : v'.ownBlock ≠ some k := by
  rcases h with ⟨h, _⟩ | ⟨h, _⟩
  · rw [h]; exact hn
  · rw [h]; intro e; cases e; omega
theorem cell_keep {w w' : World} {k o : Nat} (h : w'.heap[k]? = w.heap[k]?) : w'.cell? ⟨k, o, none⟩ = w.cell? ⟨k, o, none⟩ := World.cell?_of_block (a := ⟨k, o, none⟩) h
theorem own_keep {w w' : World} {b : Nat} {e : TypeId} {v : Value} {n : Nat} {xs : List Value} (h : w.ownsRow b e 1 v n xs) (hb : ∀ g, v.ownBlock = some g → w'.heap[g]? = w.heap[g]?) : w'.ownsRow b e 1 v n xs := by
  refine ⟨h.1, ?_⟩
  rcases h.2 with h2 | ⟨g, cap, cur, hv, h3, h4, h5⟩
  · exact .inl h2
  · exact .inr ⟨g, cap, cur, hv, h3, (hb g (by rw [hv]; rfl)).trans h4, h5⟩

section
variable {b : Nat} {w w' : World} {ag ar lg : Value} {A : List Int} {vs : List Value} {args : List (List Int)} {L : List Int}

theorem Hold.keep {n : Nat} {v : Value} {arg : List Int} (h : Hold b w ag ar lg n v arg) (hs : w.heap.size ≤ w'.heap.size) (hk : ∀ k, b ≤ k → k < w.heap.size → w'.heap[k]? = w.heap[k]?) : Hold b w' ag ar lg n v arg := by
  obtain ⟨ao, hv, h⟩ := h
  refine ⟨ao, hv, fun hp => ?_⟩
  obtain ⟨g, o, h1, h2, h3, h4, h4', h5, h6⟩ := h hp
  exact ⟨g, o, h1, h2, by omega, h4, h4', h5, fun j hj => by rw [cell_keep (hk g h2 h3)]; exact h6 j hj⟩

/-- Every block from b on as it was. -/
theorem Rows3.keep (H : Rows3 b w ag ar lg A vs args L) (hs : w.heap.size ≤ w'.heap.size) (hk : ∀ k, b ≤ k → k < w.heap.size → w'.heap[k]? = w.heap[k]?) : Rows3 b w' ag ar lg A vs args L :=
  ⟨own_keep H.oa fun g hg => hk g (H.oa.lt g hg).1 (H.oa.lt g hg).2, own_keep H.og fun g hg => hk g (H.og.lt g hg).1 (H.og.lt g hg).2, own_keep H.ol fun g hg => hk g (H.ol.lt g hg).1 (H.ol.lt g hg).2,
    H.dag, H.dal, H.dgl, H.len, fun k v arg h1 h2 => (H.hs k v arg h1 h2).keep hs hk⟩
theorem Rows3.alloc (H : Rows3 b w ag ar lg A vs args L) (o : Obj) : Rows3 b (w.alloc o) ag ar lg A vs args L :=
  H.keep (by simp) fun k _ hk => Below.heap_alloc w o k hk
theorem Rows3.drewN (H : Rows3 b w ag ar lg A vs args L) (k : Nat) : Rows3 b { w with drawn := w.drawn + k } ag ar lg A vs args L := H.keep (Nat.le_refl _) fun _ _ _ => rfl
theorem Rows3.drew (H : Rows3 b w ag ar lg A vs args L) : Rows3 b w.drew ag ar lg A vs args L := H.keep (Nat.le_refl _) fun _ _ _ => rfl
theorem Rows3.set (H : Rows3 b w ag ar lg A vs args L) (a : Addr) (v : Value) (ha : a.block < b) : Rows3 b (w.setCell a v) ag ar lg A vs args L :=
  H.keep (by simp [World.setCell]) fun k hk _ => heap_set_ne (by omega)

theorem LN.moved {lb lo : Nat} {l : List Int} (H : LN w ag ar lb lo l) {v v' : Value} (hm : Moved w w' v v') (hv : v.ownBlock ≠ some lb) : ∀ j, j < l.length → w'.cell? ⟨lb, lo + j, none⟩ = some (.int .u8 (l.getD j 0)) := fun j hj => by
  rw [cell_keep (hm.keep H.lt hv)]
  exact H.c j hj
theorem LN.keep {lb lo : Nat} {l : List Int} (H : LN w ag ar lb lo l) (hs : w.heap.size ≤ w'.heap.size) (hk : w'.heap[lb]? = w.heap[lb]?) : LN w' ag ar lb lo l :=
  ⟨fun j hj => by rw [cell_keep hk]; exact H.c j hj, by have := H.lt; omega, H.na, H.ng⟩
theorem LN.putA {lb lo : Nat} {l : List Int} (H : LN w ag ar lb lo l) {ar' : Value} (hm : Moved w w' ar ar') : LN w' ag ar' lb lo l :=
  ⟨H.moved hm H.na, by have := H.lt; have := hm.size; omega, hm.ne H.lt H.na, H.ng⟩
theorem LN.putG {lb lo : Nat} {l : List Int} (H : LN w ag ar lb lo l) {ag' : Value} (hm : Moved w w' ag ag') : LN w' ag' ar lb lo l :=
  ⟨H.moved hm H.ng, by have := H.lt; have := hm.size; omega, H.na, hm.ne H.lt H.ng⟩

theorem Rows3.putA (H : Rows3 b w ag ar lg A vs args L) {ar' : Value} {l : List Int} (ho : w'.ownsRow b 5 1 ar' (A.length + l.length) (u8s A ++ u8s l)) (hm : Moved w w' ar ar') : Rows3 b w' ag ar' lg (A ++ l) vs args L := by
  refine ⟨?_, ?_, ?_, ?_, ?_, H.dgl, H.len, ?_⟩
  · rw [u8s_append, List.length_append]; exact ho
  · exact own_keep H.og fun g hg => hm.keep (H.og.lt g hg).2 (fun e => H.dag g e hg)
  · exact own_keep H.ol fun g hg => hm.keep (H.ol.lt g hg).2 (fun e => H.dal g e hg)
  · intro g hg hg'
    exact hm.ne (H.og.lt g hg').2 (fun e => H.dag g e hg') hg
  · intro g hg hg'
    exact hm.ne (H.ol.lt g hg').2 (fun e => H.dal g e hg') hg
  · intro k v arg h1 h2
    obtain ⟨ao, hv, h⟩ := H.hs k v arg h1 h2
    refine ⟨ao, hv, fun hp => ?_⟩
    obtain ⟨g, o, e1, e2, e3, e4, e4', e5, e6⟩ := h hp
    refine ⟨g, o, e1, e2, by have := hm.size; omega, e4, e4', fun hg => ?_, fun j hj => ?_⟩
    · rw [List.length_append]
      by_cases hag : ar.ownBlock = some g
      · have := e5 hag; omega
      · exact absurd hg (hm.ne e3 hag)
    · by_cases hag : ar.ownBlock = some g
      · have hle := e5 hag
        rcases hm with ⟨hb, _⟩ | ⟨_, hgr⟩
        · have hb' : ar'.ownBlock = some g := hb.trans hag
          have hlt : o + j < (u8s A).length := by rw [u8s_len]; omega
          have c1 := H.oa.cells hag (o + j) _ (List.getElem?_eq_getElem hlt)
          have c2 := ho.cells hb' (o + j) ((u8s A)[o + j]) (by rw [List.getElem?_append_left hlt]; exact List.getElem?_eq_getElem hlt)
          rw [add_mk, Nat.zero_add] at c1 c2
          rw [c2, ← c1]
          exact e6 j hj
        · rw [cell_keep (hgr.block g e3 (by simp))]
          exact e6 j hj
      · rw [cell_keep (hm.keep e3 hag)]
        exact e6 j hj

theorem Rows3.putG (H : Rows3 b w ag ar lg A vs args L) {ag' : Value} {v : Value} {arg : List Int} (ho : w'.ownsRow b 24 1 ag' (vs.length + 1) (vs ++ [v])) (hm : Moved w w' ag ag') (hv : Hold b w ag ar lg A.length v arg) : Rows3 b w' ag' ar lg A (vs ++ [v]) (args ++ [arg]) L := by
  have hold : ∀ v arg, Hold b w ag ar lg A.length v arg → Hold b w' ag' ar lg A.length v arg := fun v arg h => by
    obtain ⟨ao, hv, h⟩ := h
    refine ⟨ao, hv, fun hp => ?_⟩
    obtain ⟨g, o, e1, e2, e3, e4, e4', e5, e6⟩ := h hp
    exact ⟨g, o, e1, e2, by have := hm.size; omega, hm.ne e3 e4, e4', e5, fun j hj => by rw [cell_keep (hm.keep e3 e4)]; exact e6 j hj⟩
  refine ⟨own_keep H.oa fun g hg => hm.keep (H.oa.lt g hg).2 (H.dag g hg), ?_, own_keep H.ol fun g hg => hm.keep (H.ol.lt g hg).2 (fun e => H.dgl g e hg), ?_, H.dal, ?_, ?_, ?_⟩
  · rw [List.length_append]; exact ho
  · intro g hg
    exact hm.ne (H.oa.lt g hg).2 (H.dag g hg)
  · intro g hg hg'
    exact hm.ne (H.ol.lt g hg').2 (fun e => H.dgl g e hg') hg
  · rw [List.length_append, List.length_append, H.len]; rfl
  · intro k u arg' h1 h2
    rcases Nat.lt_or_ge k vs.length with hk | hk
    · rw [List.getElem?_append_left hk] at h1
      rw [List.getElem?_append_left (by rw [← H.len]; exact hk)] at h2
      exact hold u arg' (H.hs k u arg' h1 h2)
    · rw [List.getElem?_append_right hk] at h1
      rw [List.getElem?_append_right (by rw [← H.len]; exact hk)] at h2
      have h0 : k - vs.length = 0 := by
        have := (List.getElem?_eq_some_iff.1 h1).1
        simp at this
        omega
      rw [h0] at h1
      rw [← H.len, h0] at h2
      simp at h1 h2
      subst h1 h2
      exact hold _ _ hv

theorem Rows3.putL (H : Rows3 b w ag ar lg A vs args L) {lg0 lg' : Value} {M : List Int} (h0 : lg0.ownBlock = lg.ownBlock) (ho : w'.ownsRow b 5 1 lg' M.length (u8s M)) (hm : Moved w w' lg0 lg') : Rows3 b w' ag ar lg' A vs args M := by
  have hna : ∀ g, ar.ownBlock = some g → lg0.ownBlock ≠ some g := fun g hg => by rw [h0]; exact H.dal g hg
  have hng : ∀ g, ag.ownBlock = some g → lg0.ownBlock ≠ some g := fun g hg => by rw [h0]; exact H.dgl g hg
  refine ⟨own_keep H.oa fun g hg => hm.keep (H.oa.lt g hg).2 (hna g hg), own_keep H.og fun g hg => hm.keep (H.og.lt g hg).2 (hng g hg), ho, H.dag, ?_, ?_, H.len, ?_⟩
  · intro g hg
    exact hm.ne (H.oa.lt g hg).2 (hna g hg)
  · intro g hg
    exact hm.ne (H.og.lt g hg).2 (hng g hg)
  · intro k v arg h1 h2
    obtain ⟨ao, hv, h⟩ := H.hs k v arg h1 h2
    refine ⟨ao, hv, fun hp => ?_⟩
    obtain ⟨g, o, e1, e2, e3, e4, e4', e5, e6⟩ := h hp
    have h4 : lg0.ownBlock ≠ some g := by rw [h0]; exact e4'
    exact ⟨g, o, e1, e2, by have := hm.size; omega, e4, hm.ne e3 h4, e5, fun j hj => by rw [cell_keep (hm.keep e3 h4)]; exact e6 j hj⟩

/-- A new argument: the arena's end. -/
theorem Rows3.hold (H : Rows3 b w ag ar lg A vs args L) (st : Nat) (hst : st ≤ A.length) {v : Value} (hv : ∃ ao, v = .slice ao (A.length - st) (A.length - st) ∧ (st < A.length → ∀ g, ar.ownBlock = some g → ao = some ⟨g, st, none⟩)) : Hold b w ag ar lg A.length v (A.drop st) := by
  obtain ⟨ao, hv, hao⟩ := hv
  refine ⟨ao, by rw [List.length_drop]; exact hv, fun hp => ?_⟩
  rw [List.length_drop] at hp
  rcases H.oa.2 with ⟨_, h0⟩ | ⟨g, cap, cur, hr, _⟩
  · omega
  · have hg : ar.ownBlock = some g := by rw [hr]; rfl
    refine ⟨g, st, hao (by omega) g hg, (H.oa.lt g hg).1, (H.oa.lt g hg).2, H.dag g hg, H.dal g hg, fun _ => by rw [List.length_drop]; omega, fun j hj => ?_⟩
    rw [List.length_drop] at hj
    have hlt : st + j < (u8s A).length := by rw [u8s_len]; omega
    have c1 := H.oa.cells hg (st + j) _ (List.getElem?_eq_getElem hlt)
    rw [add_mk, Nat.zero_add] at c1
    rw [c1]
    simp [u8s, show st + j < A.length by omega]
end
end Go.Proofs.Qxb6605687aDoor

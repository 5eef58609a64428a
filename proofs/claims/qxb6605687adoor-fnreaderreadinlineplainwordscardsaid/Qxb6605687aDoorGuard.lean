/- A region that writes a cell which it loads before: the condition on the world is asked only while the writers have not come up. -/
import Derived.Deep.RegionHeld3
namespace Go.Proofs.Qxb6605687aDoor

section
variable {P : Program} {ops : Array Oper} {Q : Exit → Act → World → Prop} {md : Region.Mode} {S : World → Prop} {G : List Nat}

/-- Whatever order is picked from here on, and behind every operation S holds as long as none of those in G has come up. -/
def wpAnyG (P : Program) (md : Region.Mode) (ops : Array Oper) (Q : Exit → Act → World → Prop) (S : World → Prop) (G : List Nat) : Nat → Array Bool → Act → World → Prop
  | 0, listed, a, w => Region.ready md ops listed = [] ∧ Q .normal a w
  | fuel + 1, listed, a, w =>
    (Region.ready md ops listed = [] → Q .normal a w) ∧
    ∀ i ∈ Region.ready md ops listed, wpOp P ops Q i (fun a' w' => ((∀ k ∈ G, (listed.setIfInBounds i true).getD k true = false) → S w') ∧ wpAnyG P md ops Q S G fuel (listed.setIfInBounds i true) a' w') a w

theorem wpAny_of_guarded : ∀ (fuel : Nat) (listed : Array Bool) (a : Act) (w : World), wpAnyG P md ops Q S G fuel listed a w → wpAny P md ops Q fuel listed a w
  | 0, _, _, _, h => h
  | fuel + 1, _, _, _, h => ⟨h.1, fun i hi => wpOp_mono (fun a' w' h' => wpAny_of_guarded fuel _ a' w' h'.2) (h.2 i hi)⟩

theorem not_waits {i : Nat} {oj : Oper} {listed : Array Bool} (hr : i ∈ Region.ready md ops listed) (hall : ∀ e ∈ oj.after, Region.binds md e = true → listed.getD e.on false = true) :
    ∀ e ∈ oj.after, Region.binds md e = true → e.on ≠ i := fun e he hb heq => by
  have h1 := hall e he hb
  have h0 := (mem_ready.1 hr).1
  rw [heq] at h1
  rcases Nat.lt_or_ge i listed.size with h' | h'
  · simp [h'] at h0 h1; rw [h0] at h1; cases h1
  · simp [Array.getElem?_eq_none h'] at h1

theorem un_listed {i : Nat} {listed : Array Bool} (h0 : listed.getD i true = false) (h1 : listed.getD i false = true) : False := by
  rcases Nat.lt_or_ge i listed.size with h' | h'
  · simp [h'] at h0 h1; rw [h0] at h1; cases h1
  · simp [Array.getElem?_eq_none h'] at h1

/-- An operation that yields in whatever world. -/
theorem wpAnyG_first {i : Nat} {oi : Oper} {v : Value} (hi : ops[i]? = some oi) (hsel : ∀ (j : Nat) (o : Oper) cs b, ops[j]? = some o → o.op ≠ .select cs b)
    (hQ : ∀ c a w, Q (.panic c) (a.put oi.dst v) w → Q (.panic c) a w) (hiG : i ∉ G) :
    ∀ (fuel : Nat) (listed : Array Bool) (a : Act) (w : World),
      (∀ j oj, ops[j]? = some oj → j ≠ i → listed.getD j true = false → (∀ e ∈ oj.after, Region.binds md e = true → e.on ≠ i) → oi.apart ops oj = true) →
      i ∈ Region.ready md ops listed → YieldsIf P ops (fun _ => True) oi v a → ((∀ k ∈ G, (listed.setIfInBounds i true).getD k true = false) → S w) →
      wpAnyG P md ops Q S G fuel (listed.setIfInBounds i true) (a.put oi.dst v) w → wpAnyG P md ops Q S G (fuel + 1) listed a w := by
  intro fuel
  induction fuel with
  | zero =>
    intro listed a w _ hr hy hS H
    refine ⟨fun h => (by rw [h] at hr; cases hr), fun j hj => ?_⟩
    by_cases hji : j = i
    · subst hji; exact hy.wpOp hi trivial ⟨hS, H⟩
    · have := ready_mono hj hji
      rw [H.1] at this
      cases this
  | succ fuel ih =>
    intro listed a w hfree hr hy hS H
    refine ⟨fun h => (by rw [h] at hr; cases hr), fun j hj => ?_⟩
    by_cases hji : j = i
    · subst hji; exact hy.wpOp hi trivial ⟨hS, H⟩
    · have h1 := H.2 j (ready_mono hj hji)
      obtain ⟨hjun, oj, hoj, hall⟩ := mem_ready.1 hj
      have hnot := not_waits hr hall
      have h2 := wpOp_putIf hoj (hfree j oj hoj hji hjun hnot) (fun cs b => hsel i oi cs b hi) (fun cs b => hsel j oj cs b hoj) hQ hy h1
      have hfree' : ∀ k ok, ops[k]? = some ok → k ≠ i → (listed.setIfInBounds j true).getD k true = false →
          (∀ e ∈ ok.after, Region.binds md e = true → e.on ≠ i) → oi.apart ops ok = true := fun k ok hk hki hun hno => by
        refine hfree k ok hk hki ?_ hno
        by_cases hjk : j = k
        · subst hjk; exact hjun
        · rw [getD_set_ne true hjk] at hun; exact hun
      have hcm : (listed.setIfInBounds i true).setIfInBounds j true = (listed.setIfInBounds j true).setIfInBounds i true := Array.setIfInBounds_comm _ _ (Ne.symm hji)
      rw [hcm] at h2
      refine wpOp_mono (fun a' w' h3 => ⟨fun hg => h3.2.1 (fun k hk => ?_), ih (listed.setIfInBounds j true) a' w' hfree' (ready_mono hr (Ne.symm hji)) h3.1 h3.2.1 h3.2.2⟩) h2
      have hne : i ≠ k := fun e => hiG (by rw [e]; exact hk)
      rw [getD_set_ne true hne]
      exact hg k hk

/-- An operation that yields in every world that meets S, and for which every one of G waits (over the chain C). -/
theorem wpAnyG_firstS {i : Nat} {oi : Oper} {v : Value} {C : List Nat} (hi : ops[i]? = some oi) (hsel : ∀ (j : Nat) (o : Oper) cs b, ops[j]? = some o → o.op ≠ .select cs b)
    (hQ : ∀ c a w, Q (.panic c) (a.put oi.dst v) w → Q (.panic c) a w) (hGC : ∀ k ∈ G, k ∈ C)
    (hC : ∀ c ∈ C, c ≠ i ∧ ∃ oc, ops[c]? = some oc ∧ ∃ e ∈ oc.after, Region.binds md e = true ∧ (e.on = i ∨ e.on ∈ C)) :
    ∀ (fuel : Nat) (listed : Array Bool) (a : Act) (w : World),
      (∀ j oj, ops[j]? = some oj → j ≠ i → listed.getD j true = false → (∀ e ∈ oj.after, Region.binds md e = true → e.on ≠ i) → oi.apart ops oj = true) →
      i ∈ Region.ready md ops listed → (∀ c ∈ C, listed.getD c true = false) → YieldsIf P ops S oi v a → S w →
      wpAnyG P md ops Q S G fuel (listed.setIfInBounds i true) (a.put oi.dst v) w → wpAnyG P md ops Q S G (fuel + 1) listed a w := by
  intro fuel
  induction fuel with
  | zero =>
    intro listed a w _ hr _ hy hS H
    refine ⟨fun h => (by rw [h] at hr; cases hr), fun j hj => ?_⟩
    by_cases hji : j = i
    · subst hji; exact hy.wpOp hi hS ⟨fun _ => hS, H⟩
    · have := ready_mono hj hji
      rw [H.1] at this
      cases this
  | succ fuel ih =>
    intro listed a w hfree hr hun hy hS H
    refine ⟨fun h => (by rw [h] at hr; cases hr), fun j hj => ?_⟩
    by_cases hji : j = i
    · subst hji; exact hy.wpOp hi hS ⟨fun _ => hS, H⟩
    · have h1 := H.2 j (ready_mono hj hji)
      obtain ⟨hjun, oj, hoj, hall⟩ := mem_ready.1 hj
      have hnot := not_waits hr hall
      have hjC : j ∉ C := fun hm => by
        obtain ⟨_, oc, hoc, e, he, hb, hon⟩ := hC j hm
        rw [hoj] at hoc
        cases hoc
        rcases hon with h | h
        · exact hnot e he hb h
        · exact un_listed (hun _ h) (hall e he hb)
      have h2 := wpOp_putIf hoj (hfree j oj hoj hji hjun hnot) (fun cs b => hsel i oi cs b hi) (fun cs b => hsel j oj cs b hoj) hQ hy h1
      have hfree' : ∀ k ok, ops[k]? = some ok → k ≠ i → (listed.setIfInBounds j true).getD k true = false →
          (∀ e ∈ ok.after, Region.binds md e = true → e.on ≠ i) → oi.apart ops ok = true := fun k ok hk hki hun hno => by
        refine hfree k ok hk hki ?_ hno
        by_cases hjk : j = k
        · subst hjk; exact hjun
        · rw [getD_set_ne true hjk] at hun; exact hun
      have hun' : ∀ c ∈ C, (listed.setIfInBounds j true).getD c true = false := fun c hc => by
        have hne : j ≠ c := fun e => hjC (by rw [e]; exact hc)
        rw [getD_set_ne true hne]
        exact hun c hc
      have hg : ∀ k ∈ G, ((listed.setIfInBounds i true).setIfInBounds j true).getD k true = false := fun k hk => by
        have hne : j ≠ k := fun e => hjC (by rw [e]; exact hGC k hk)
        have hne2 : i ≠ k := fun e => (hC k (hGC k hk)).1 e.symm
        rw [getD_set_ne true hne, getD_set_ne true hne2]
        exact hun k (hGC k hk)
      refine wpOp_mono (fun a' w' h3 => ⟨fun _ => h3.2.1 hg, ih (listed.setIfInBounds j true) a' w' hfree' (ready_mono hr (Ne.symm hji)) hun' h3.1 (h3.2.1 hg) ?_⟩) h2
      rw [Array.setIfInBounds_comm _ _ hji]
      exact h3.2.2

/-- The chain's conditions as a Bool. -/
def chained (md : Region.Mode) (ops : Array Oper) (listed : Array Bool) (i : Nat) (C G : List Nat) : Bool :=
  G.all (fun k => C.contains k) && C.all fun c => !listed.getD c true && c != i && match ops[c]? with
    | some oc => oc.after.any fun e => Region.binds md e && (e.on == i || C.contains e.on)
    | none => false

theorem chained_spec {listed : Array Bool} {i : Nat} {C G : List Nat} (h : chained md ops listed i C G = true) :
    (∀ k ∈ G, k ∈ C) ∧ (∀ c ∈ C, c ≠ i ∧ ∃ oc, ops[c]? = some oc ∧ ∃ e ∈ oc.after, Region.binds md e = true ∧ (e.on = i ∨ e.on ∈ C)) ∧ ∀ c ∈ C, listed.getD c true = false := by
  unfold chained at h
  rw [Bool.and_eq_true, List.all_eq_true, List.all_eq_true] at h
  obtain ⟨h1, h2⟩ := h
  refine ⟨fun k hk => by simpa using h1 k hk, fun c hc => ?_, fun c hc => ?_⟩
  · have := h2 c hc
    rw [Bool.and_eq_true, Bool.and_eq_true] at this
    obtain ⟨⟨_, h3⟩, h4⟩ := this
    refine ⟨by simpa using h3, ?_⟩
    cases ho : ops[c]? with
    | none => rw [ho] at h4; cases h4
    | some oc =>
      rw [ho] at h4
      rw [Array.any_eq_true'] at h4
      obtain ⟨e, he, h5⟩ := h4
      rw [Bool.and_eq_true] at h5
      exact ⟨oc, rfl, e, he, h5.1, by simpa using h5.2⟩
  · have := h2 c hc
    rw [Bool.and_eq_true, Bool.and_eq_true] at this
    simpa using this.1.1

theorem wpAnyG_take {i : Nat} {oi : Oper} {v : Value} {fuel : Nat} {listed : Array Bool} {a : Act} {w : World} (hi : ops[i]? = some oi)
    (hs : Region.noSelect ops = true) (hf : Region.free md ops listed i = true) (hr : (Region.ready md ops listed).contains i = true) (hiG : G.contains i = false)
    (hQ : ∀ c a w, Q (.panic c) (a.put oi.dst v) w → Q (.panic c) a w) (hy : YieldsIf P ops (fun _ => True) oi v a) (hS : (∀ k ∈ G, (listed.setIfInBounds i true).getD k true = false) → S w)
    (h : wpAnyG P md ops Q S G fuel (listed.setIfInBounds i true) (a.put oi.dst v) w) : wpAnyG P md ops Q S G (fuel + 1) listed a w :=
  wpAnyG_first hi (Region.noSelect_spec hs) hQ (by simpa using hiG) fuel listed a w (Region.free_spec hi hf) (by simpa using hr) hy hS h

theorem wpAnyG_takeS {i : Nat} {oi : Oper} {v : Value} {fuel : Nat} {listed : Array Bool} {a : Act} {w : World} (C : List Nat) (hi : ops[i]? = some oi)
    (hs : Region.noSelect ops = true) (hf : Region.free md ops listed i = true) (hr : (Region.ready md ops listed).contains i = true) (hc : chained md ops listed i C G = true)
    (hQ : ∀ c a w, Q (.panic c) (a.put oi.dst v) w → Q (.panic c) a w) (hy : YieldsIf P ops S oi v a) (hS : S w)
    (h : wpAnyG P md ops Q S G fuel (listed.setIfInBounds i true) (a.put oi.dst v) w) : wpAnyG P md ops Q S G (fuel + 1) listed a w :=
  wpAnyG_firstS hi (Region.noSelect_spec hs) hQ (chained_spec hc).1 (chained_spec hc).2.1 fuel listed a w (Region.free_spec hi hf) (by simpa using hr) (chained_spec hc).2.2 hy hS h

/-- One operation alone may come up. -/
theorem wpAnyG_step {i : Nat} {o : Oper} {fuel : Nat} {listed : Array Bool} {a : Act} {w : World} (hr : Region.ready md ops listed = [i]) (ho : ops[i]? = some o)
    (h : ∀ K' : Act → World → Prop, Shut (∀ a w, ((∀ k ∈ G, (listed.setIfInBounds i true).getD k true = false) → S w) → wpAnyG P md ops Q S G fuel (listed.setIfInBounds i true) a w → K' a w) →
      if Region.wanted o (yielded ops a.tmps) = true then Oper.wp P o a w K' Q else K' (a.put o.dst undef) w) : wpAnyG P md ops Q S G (fuel + 1) listed a w := by
  refine ⟨fun h0 => (by rw [hr] at h0; cases h0), fun j hj => ?_⟩
  rw [hr] at hj
  rcases List.mem_singleton.1 hj with rfl
  exact wpOp_step ho (fun K' hK => h K' (fun a w hS hW => hK a w ⟨hS, hW⟩))

theorem wpAnyG_done {listed : Array Bool} {a : Act} {w : World} (hr : Region.ready md ops listed = []) (h : Q .normal a w) :
    ∀ fuel, wpAnyG P md ops Q S G fuel listed a w
  | 0 => ⟨hr, h⟩
  | _ + 1 => ⟨fun _ => h, by rw [hr]; simp⟩

theorem wp_region_guarded {id : Nat} {a : Act} {w : World} (S : World → Prop) (G : List Nat) (hm : P.follows .mixedOrders = true)
    (h : wpAnyG P .any ops Q S G ops.size (Array.replicate ops.size false) a w.drew) : (Code.region id ops true).wp P Q a w :=
  wp_region_any hm (wpAny_of_guarded _ _ _ _ h)

/-- Behind an operation of G, or as long as it is listed, nothing of S is asked. -/
theorem guard_past {S : Prop} {listed : Array Bool} (k : Nat) (hk : k ∈ G) (h : listed.getD k true = true) : (∀ k ∈ G, listed.getD k true = false) → S := fun hg => by
  have := hg k hk
  rw [h] at this
  cases this
end
end Go.Proofs.Qxb6605687aDoor

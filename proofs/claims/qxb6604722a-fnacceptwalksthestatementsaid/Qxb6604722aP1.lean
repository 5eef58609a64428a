import Derived.Test.Qxb6604722aPar
import Derived.Test.Qxb6604722aGuard
import Derived.Laws.Slices
import Derived.Deep.RegionHeld3
import Derived.Deep.Light
import Derived.Deep.RegionLaw
import Derived.Deep.DeepCutAuto
namespace Go.Proofs.Qxb6604722a
open Go.RowKit Lx
set_option maxHeartbeats 4000000
set_option maxRecDepth 100000
set_option linter.unusedSimpArgs false
set_option linter.unusedVariables false

theorem info50 : (Try.prog.info? 50).map (fun i => (i.zero, i.size, i.bytes)) = some (some (.agg #[.int .i64 0, .int .i64 0, .string ⟨#[]⟩, .string ⟨#[]⟩, .int .i64 0]), 5, 56) := by kernel_rfl

theorem yMove {P : Program} {ops : Array Oper} {S : World → Prop} {o : Oper} {a : Act} {x : Operand} (v : Value) (hg : o.guard = none) (hop : o.op = .move x) (hv : a.eval x = v) : YieldsIf P ops S o v a := by
  refine Or.inl ⟨by simp [Region.wanted, hg], fun w _ => ?_⟩
  subst hv
  simp [execOp, hop]
theorem ySlice {P : Program} {ops : Array Oper} {S : World → Prop} {o : Oper} {a : Act} {t : TypeId} {x : Operand} {lo hi mx : Option Operand} (v p : Value) (pl ph pm : Option Value) (hg : o.guard = none) (hop : o.op = .slice t x lo hi mx)
    (h : ∀ W, (Instr.sliceAt t p pl ph pm).run P W = .ok v W) (hp : a.eval x = p := by rfl) (h1 : lo.map a.eval = pl := by rfl) (h2 : hi.map a.eval = ph := by rfl) (h3 : mx.map a.eval = pm := by rfl) : YieldsIf P ops S o v a := by
  refine Or.inl ⟨by simp [Region.wanted, hg], fun w _ => ?_⟩
  subst hp h1 h2 h3
  simp only [execOp, hop]
  simp [h]
theorem size54 (W : World) : (sizeOf (Try.prog.elem 54)).run Try.prog W = .ok 5 W := by
  have h0 : Try.prog.elem 54 = 50 := by kernel_rfl
  have h1 : (Try.prog.info? 50).map (·.size) = some 5 := by kernel_rfl
  rw [h0]
  cases hq : Try.prog.info? 50 with
  | none => simp [hq] at h1
  | some i =>
    have hi : i.size = 5 := by simpa [hq] using h1
    simp [sizeOf, typeInfo, hq, hi]
theorem slice54_l (g n c l : Nat) (h1 : l ≤ n) (hne : c ≠ l) (W : World) :
    (Instr.sliceAt 54 (.slice (some ⟨g, 0, none⟩) n c) (some (.int .i64 l)) none none).run Try.prog W = .ok (.slice (some ⟨g, l * 5, none⟩) (n - l) (c - l)) W := by
  have ht : Try.prog.underlying 54 = some (.slice (Try.prog.elem 54)) := by kernel_rfl
  rw [run_sliceAt_slice _ _ _ _ _ _ ht, run_slice_l _ _ _ _ _ ht _ _ (by omega) (by omega), size54]
  simp [sliced, hne, Addr.add]
  omega
theorem slice54_h (g n c m : Nat) (h1 : m ≤ c) (W : World) :
    (Instr.sliceAt 54 (.slice (some ⟨g, 0, none⟩) n c) none (some (.int .i64 m)) none).run Try.prog W = .ok (.slice (some ⟨g, 0, none⟩) m c) W := by
  have ht : Try.prog.underlying 54 = some (.slice (Try.prog.elem 54)) := by kernel_rfl
  rw [run_sliceAt_slice _ _ _ _ _ _ ht, run_slice_h _ _ _ _ _ ht _ _ (by omega) (by omega), size54]
  simp [sliced, Addr.add]

theorem step_copy_nil {P : Program} {ops : Array Oper} {o : Oper} {a : Act} {w : World} {K : Act → World → Prop} {Q : Exit → Act → World → Prop} {E : Prop} (hgd : o.guard = none) (d s : Operand) (dT sT : TypeId)
    (ho : o.op = .call { callee := .builtin .copy, args := #[d, s], argTypes := #[dT, sT] }) (elem : TypeId) (k : Nat) (hu : P.underlying dT = some (.slice elem)) (hsz : (P.info? elem).map (·.size) = some k)
    (hd : a.eval d = .slice none 0 0) (hs : a.eval s = .slice none 0 0) (h : K (a.put o.dst (.int .i64 0)) w) :
    if Region.wanted o (yielded ops a.tmps) = true then Oper.wp P o a w K Q else E := by
  have hw : Region.wanted o (yielded ops a.tmps) = true := by simp [Region.wanted, hgd]
  rw [if_pos hw]
  have hrun : (Builtin.copy_ #[dT, sT] o.type #[.slice none 0 0, .slice none 0 0]).run P w = .ok (.int .i64 0) w := by
    cases hq : P.info? elem with
    | none => simp [hq] at hsz
    | some i => simp [Builtin.copy_, run_underlying hu, Builtin.lenOf, Builtin.firstCells, sizeOf, typeInfo, hq, goInt]
  unfold Oper.wp
  simp [execOp, ho, resolve, invoke, builtin, hd, hs, hrun, Result.andThen]
  exact h

theorem step_copy_rows {P : Program} {ops : Array Oper} {o : Oper} {a : Act} {w : World} {K : Act → World → Prop} {Q : Exit → Act → World → Prop} {E : Prop} (hgd : o.guard = none) (d s : Operand) (dT sT : TypeId)
    (ho : o.op = .call { callee := .builtin .copy, args := #[d, s], argTypes := #[dT, sT] }) (elem : TypeId) (k : Nat) (hu : P.underlying dT = some (.slice elem)) (hsz : (P.info? elem).map (·.size) = some k)
    (g dLen dCap : Nat) (ad : Addr) (sLen sCap : Nat) (hd : a.eval d = .slice (some ⟨g, 0, none⟩) dLen dCap) (hs : a.eval s = .slice (some ad) sLen sCap)
    (cur : Array Value) (t : TypeId) (hg : w.heap[g]? = some (.cells cur t (0, 0))) (cs : List Value) (m : Nat) (hm : Nat.min sLen dLen = m) (hn : cs.length = m * k)
    (hsrc : ∀ j v, cs[j]? = some v → w.cell? (ad.add j) = some v) (hfit : cs.length ≤ cur.size) (h1 : ∀ v ∈ cs, v.oneCell' = true)
    (R : Array Value) (hR : R = (cs ++ cur.toList.drop cs.length).toArray) (h : K (a.put o.dst (.int .i64 (m : Int))) (w.setRow g R)) :
    if Region.wanted o (yielded ops a.tmps) = true then Oper.wp P o a w K Q else E := by
  have hw : Region.wanted o (yielded ops a.tmps) = true := by simp [Region.wanted, hgd]
  rw [if_pos hw]
  subst hR
  have hl := run_loadCells_list (P := P) w ad cs hsrc
  have hst := run_storeCells_at P g 0 t cs 0 cur w hg (by simpa using hfit) h1
  have hrun : (Builtin.copy_ #[dT, sT] o.type #[.slice (some ⟨g, 0, none⟩) dLen dCap, .slice (some ad) sLen sCap]).run P w = .ok (.int .i64 (m : Int)) (w.setRow g (cs ++ cur.toList.drop cs.length).toArray) := by
    cases hq : P.info? elem with
    | none => simp [hq] at hsz
    | some i =>
      have hi : i.size = k := by simpa [hq] using hsz
      rw [hn] at hl
      simp only [Nat.zero_add, List.take_zero, List.nil_append] at hst
      simp [Builtin.copy_, run_underlying hu, Builtin.lenOf, Builtin.firstCells, sizeOf, typeInfo, hq, hi, hm, hl, hst, goInt]
  unfold Oper.wp
  simp [execOp, ho, resolve, invoke, builtin, hd, hs, hrun, Result.andThen]
  exact h

/-- What the loop of 'readAhead' keeps. -/
def Ahead (src : ByteArray) (mk : Bool) (pb : Nat) (w0 w : World) (T : List Tok × Bool × Nat × Nat) (pe g : Nat) : Prop :=
  ∃ (v : Value) (ts : List Tok) (en : Bool) (p m : Nat), ParW pb w0 w src mk p m v ts 0 en pe ∧ p ≤ src.size ∧ m ≤ p ∧ ts.length ≤ 40 ∧ (∃ cap ao, v = .slice ao ts.length cap) ∧
    ((en = false ∧ 32 ≤ g + ts.length ∧ fill src mk g ts p m = T) ∨ (en = true ∧ (ts, true, p, m) = T))

theorem endsStatement_is (k1 : Int) (k2 : Nat) (k3 k4 : ByteArray) (k5 : Nat) (v : Bool) (w : World) (h : endsB k1 = v) :
    Calls Try.prog 33 #[.agg #[.int .i64 k1, .int .i64 k2, .string k3, .string k4, .int .i64 k5]] w fun e w' => e = .returned (.bool v) ∧ Below w.heap.size w w' := by
  subst h
  exact endsStatement_any ⟨k1, k2, k3, k4, k5⟩ w

theorem own_snoc {w : World} {base : Nat} {v : Value} {n : Nat} {ts : List Tok} (t : Tok) {xs : List Value} (hn : n = ts.length + 1) (hx : xs = flat ts ++ t.cells) (h : w.ownsRow base 50 5 v n xs) : w.ownsRow base 50 5 v (ts ++ [t]).length (flat (ts ++ [t])) := by
  subst hn hx
  rw [flat_append, List.length_append]
  simpa [flat] using h

theorem copy_own {w : World} {pb g cap mm : Nat} {cur R : Array Value} {ts : List Tok} (hbg : pb + 1 ≤ g) (hh : w.heap[g]? = some (.cells cur 50 (0, 0))) (hmm : ts.length = mm) (hmc : mm ≤ cap) (hcm : cap ≤ maxLen) (hcs : cur.size = cap * 5)
    (hR : R = (flat ts ++ cur.toList.drop (flat ts).length).toArray) : (w.setRow g R).ownsRow (pb + 1) 50 5 (.slice (some ⟨g, 0, none⟩) mm cap) ts.length (flat ts) := by
  subst hmm
  refine ⟨flat_len ts, .inr ⟨g, cap, R, rfl, hbg, setRow_heap w g cur R 50 _ hh, hmc, hcm, ?_, ?_⟩⟩
  · rw [hR, ← hcs]
    have := flat_len ts
    simp
    omega
  · rw [hR, ← flat_len ts]
    simp

theorem readAhead_any (src : ByteArray) (mk : Bool) (hnext : NextOk src mk) (pb : Nat) (w0 w : World) (hs : src.size ≤ 1048576) (pos md : Nat) (hp : pos ≤ src.size) (hm : md ≤ pos) (v : Value) (ts : List Tok) (nx pe : Nat)
    (h : ParW pb w0 w src mk pos md v ts nx false pe) (hcase : (v = .slice none 0 0 ∧ ts = [] ∧ nx = 0) ∨ (nx < ts.length ∧ ts.length ≤ 40)) (hdl : (ts.drop nx).length ≤ 40) (T : List Tok × Bool × Nat × Nat) (hT : fill src mk 32 (ts.drop nx) pos md = T) :
    Calls Try.prog 24 #[.pointer (some ⟨pb, 0, none⟩)] w fun e w' => e = .returned (.tuple #[]) ∧ ∃ v, ParW pb w0 w' src mk T.2.2.1 T.2.2.2 v T.1 0 T.2.1 pe := by
  obtain ⟨i0, hi0, hz0, hz1, hz2⟩ := info_parts info50
  have HT : Hid (fill src mk 32 (ts.drop nx) pos md = T) := hT
  have HP : Hid (ParW pb w0 w src mk pos md v ts nx false pe) := h
  have c4 := h.c4
  have c5 := h.c5
  have fr := h.fr
  have hl := h.lt
  clear hT h
  go_enter Try.func24, Try.ntmps24
  go_upto_region 0 with fail
  go_cut [] (fun wc => Hid (∃ v', ParW pb w0 wc src mk pos md v' (ts.drop nx) 0 false pe ∧ ∃ cap ao, v' = .slice ao (ts.drop nx).length cap))
  case first =>
    rcases hcase with ⟨hv, hts, hnx⟩ | ⟨hlt, hle⟩
    · subst hv hts hnx
      have P4 := HP.out.put4 (w' := w) (v' := .slice none 0 0) (ts' := []) ⟨rfl, rfl, rfl, Nat.le_refl _, fun _ _ _ => rfl⟩ (World.ownsRow_nil _ _ _ _)
      have P5 := P4.set5 0 0 rfl
      have k1a := P4.c4
      have k1b := P4.c5
      have k2a := P5.c4
      have k2b := P5.c5
      have PP : Hid (ParW pb w0 ((w.setCell ⟨pb, 4, none⟩ (.slice none 0 0)).setCell ⟨pb, 5, none⟩ (.int .i64 0)) src mk pos md (.slice none 0 0) [] 0 false pe) := P5
      clear P4 P5
      go_region_held3 (fun w' => w'.cell? ⟨pb, 4, none⟩ = some (.slice none 0 0) ∧ w'.cell? ⟨pb, 5, none⟩ = some (.int .i64 0)) (first | go_keep | exact ⟨k1a, k1b⟩ | exact ⟨k2a, k2b⟩) ((refine step_copy_nil (by rfl) _ _ 54 54 (by rfl) 50 5 Try.underlying54 (by kernel_rfl) (by rfl) (by rfl) ?_))
      clear k1a k1b k2a k2b c4 c5 fr HP hl
      go_wp2
      go_meet
      case rel => exact ⟨_, PP.out.drewN 1, _, _, rfl⟩
    · as_aux_lemma =>
      rcases HP.out.own.2 with ⟨_, h0⟩ | ⟨g, cap, cur, hv, hbg, hh, hncap, hcm, hcs, htk⟩
      · omega
      subst hv
      have hlen : (flat (ts.drop nx)).length = (ts.length - nx) * 5 := by rw [flat_len, List.length_drop]
      obtain ⟨R, hR⟩ : ∃ R, R = (flat (ts.drop nx) ++ cur.toList.drop (flat (ts.drop nx)).length).toArray := ⟨_, rfl⟩
      have hgr : w.grownBy (w.setRow g R) (some g) := ⟨rfl, rfl, rfl, by simp [World.setRow], fun k hk hne => setRow_other w g k R (by intro e; exact hne (by rw [e]))⟩
      have hG := HP.out.grown (w' := w.setRow g R) hgr
      have r4 : (w.drew.setRow g R).cell? ⟨pb, 4, none⟩ = some (.slice (some ⟨g, 0, none⟩) ts.length cap) := hG.2.1
      have r5 : (w.drew.setRow g R).cell? ⟨pb, 5, none⟩ = some (.int .i64 nx) := hG.2.2.1
      have rf : ∀ o, (w.drew.setRow g R).frozen? ⟨pb, o, none⟩ = false := hG.2.2.2.2.2.1
      have HSRC : Hid (∀ j v, (flat (ts.drop nx))[j]? = some v → w.drew.cell? ((⟨g, nx * 5, none⟩ : Addr).add j) = some v) := fun j u hj => by
        have ea : (⟨g, nx * 5, none⟩ : Addr).add j = ⟨g, nx * 5 + j, none⟩ := by unfold Addr.add; split <;> simp_all
        rw [ea]
        refine HP.out.cell rfl (nx * 5 + j) u ?_
        rw [← flat_drop, List.getElem?_drop] at hj
        exact hj
      have HH : Hid (w.drew.heap[g]? = some (.cells cur 50 (0, 0))) := hh
      have HLEN : Hid ((flat (ts.drop nx)).length = (ts.length - nx) * 5) := hlen
      have HFIT : Hid ((flat (ts.drop nx)).length ≤ cur.size) := by show _ ≤ _; rw [hlen, hcs]; omega
      have HR : Hid (R = (flat (ts.drop nx) ++ cur.toList.drop (flat (ts.drop nx)).length).toArray) := hR
      have HG : Hid (w.grownBy (w.setRow g R) (some g)) := hgr
      have HTK : Hid (cur.size = cap * 5) := hcs
      have hle1 : nx ≤ ts.length := by omega
      have hcn : ¬ cap = nx := by omega
      obtain ⟨mm, hmm⟩ : ∃ mm, ts.length - nx = mm := ⟨_, rfl⟩
      have HMM : Hid (ts.length - nx = mm) := hmm
      have hmc : mm ≤ cap := by omega
      rw [hmm] at HLEN
      have hown' := copy_own (w := w.drew) (pb := pb) (ts := ts.drop nx) hbg HH.out (by rw [List.length_drop, hmm]) hmc hcm hcs hR
      have P5 := ((HP.out.drewN 1).put4 (w' := w.drew.setRow g R) ⟨rfl, rfl, rfl, by simp [World.setRow], fun k hk hne => setRow_other w.drew g k R (by intro e; exact hne (by rw [e]; rfl))⟩ hown').set5 0 0 rfl
      have PP : Hid (ParW pb w0 (((w.drew.setRow g R).setCell ⟨pb, 4, none⟩ (.slice (some ⟨g, 0, none⟩) mm cap)).setCell ⟨pb, 5, none⟩ (.int .i64 0)) src mk pos md (.slice (some ⟨g, 0, none⟩) mm cap) (ts.drop nx) 0 false pe) := P5
      clear hh hlen hG hgr hR hcs htk hmm hown' P5
      have hS0 : w.drew.cell? ⟨pb, 4, none⟩ = some (.slice (some ⟨g, 0, none⟩) ts.length cap) ∧ w.drew.cell? ⟨pb, 5, none⟩ = some (.int .i64 nx) := ⟨c4, c5⟩
      refine wp_region_guarded (fun w' => w'.cell? ⟨pb, 4, none⟩ = some (.slice (some ⟨g, 0, none⟩) ts.length cap) ∧ w'.cell? ⟨pb, 5, none⟩ = some (.int .i64 nx)) [23, 26] (by kernel_rfl) ?_
      refine wpAnyG_take (i := 0) (oi := { dst := some 3, op := Op.move (Operand.tmp 0), type := 38, pos := "parser.go:1184", after := #[], guard := none }) (v := .pointer (some ⟨pb, 0, none⟩)) rfl (by kernel_rfl) (by kernel_rfl) (by kernel_rfl) (by kernel_rfl) (fun _ _ _ h => h) (yMove _ rfl rfl rfl) (fun _ => hS0) ?_
      simp only [Act.put, List.setIfInBounds_toArray, List.set_cons_zero, List.set_cons_succ]
      refine wpAnyG_take (i := 1) (oi := { dst := some 4, op := Op.move (Operand.tmp 0), type := 38, pos := "parser.go:1184", after := #[{ on := 23, ground := Ground.gcOnly Departure.lateStores }], guard := none }) (v := .pointer (some ⟨pb, 0, none⟩)) rfl (by kernel_rfl) (by kernel_rfl) (by kernel_rfl) (by kernel_rfl) (fun _ _ _ h => h) (yMove _ rfl rfl rfl) (fun _ => hS0) ?_
      simp only [Act.put, List.setIfInBounds_toArray, List.set_cons_zero, List.set_cons_succ]
      refine wpAnyG_take (i := 2) (oi := { dst := some 5, op := Op.move (Operand.tmp 0), type := 38, pos := "parser.go:1184", after := #[], guard := none }) (v := .pointer (some ⟨pb, 0, none⟩)) rfl (by kernel_rfl) (by kernel_rfl) (by kernel_rfl) (by kernel_rfl) (fun _ _ _ h => h) (yMove _ rfl rfl rfl) (fun _ => hS0) ?_
      simp only [Act.put, List.setIfInBounds_toArray, List.set_cons_zero, List.set_cons_succ]
      refine wpAnyG_take (i := 3) (oi := { dst := some 6, op := Op.nilCheck (Operand.tmp 5), type := 0, pos := "parser.go:1184", after := #[{ on := 2, ground := Ground.data }], guard := none }) (v := .pointer (some ⟨pb, 0, none⟩)) rfl (by kernel_rfl) (by kernel_rfl) (by kernel_rfl) (by kernel_rfl) (fun _ _ _ h => h) (Or.inl ⟨by rfl, fun w _ => by go_simp⟩) (fun _ => hS0) ?_
      simp only [Act.put, List.setIfInBounds_toArray, List.set_cons_zero, List.set_cons_succ]
      refine wpAnyG_take (i := 4) (oi := { dst := some 7, op := Op.fieldAddr 57 (Operand.tmp 6) 1, type := 0, pos := "parser.go:1184", after := #[{ on := 3, ground := Ground.data }], guard := none }) (v := .pointer (some ⟨pb, 4, none⟩)) rfl (by kernel_rfl) (by kernel_rfl) (by kernel_rfl) (by kernel_rfl) (fun _ _ _ h => h) (Or.inl ⟨by rfl, fun w _ => by go_simp⟩) (fun _ => hS0) ?_
      simp only [Act.put, List.setIfInBounds_toArray, List.set_cons_zero, List.set_cons_succ]
      refine wpAnyG_takeS (i := 5) (oi := { dst := some 8, op := Op.load 54 (Operand.tmp 7), type := 54, pos := "parser.go:1184", after := #[{ on := 4, ground := Ground.data }], guard := none }) (v := .slice (some ⟨g, 0, none⟩) ts.length cap) [23, 26] rfl (by kernel_rfl) (by kernel_rfl) (by kernel_rfl) (by kernel_rfl) (fun _ _ _ h => h) (Or.inl ⟨by rfl, fun w ⟨hS4, hS5⟩ => by go_simp⟩) hS0 ?_
      simp only [Act.put, List.setIfInBounds_toArray, List.set_cons_zero, List.set_cons_succ]
      refine wpAnyG_take (i := 6) (oi := { dst := some 9, op := Op.move (Operand.tmp 0), type := 38, pos := "parser.go:1184", after := #[], guard := none }) (v := .pointer (some ⟨pb, 0, none⟩)) rfl (by kernel_rfl) (by kernel_rfl) (by kernel_rfl) (by kernel_rfl) (fun _ _ _ h => h) (yMove _ rfl rfl rfl) (fun _ => hS0) ?_
      simp only [Act.put, List.setIfInBounds_toArray, List.set_cons_zero, List.set_cons_succ]
      refine wpAnyG_take (i := 7) (oi := { dst := some 10, op := Op.nilCheck (Operand.tmp 9), type := 0, pos := "parser.go:1184", after := #[{ on := 6, ground := Ground.data }], guard := none }) (v := .pointer (some ⟨pb, 0, none⟩)) rfl (by kernel_rfl) (by kernel_rfl) (by kernel_rfl) (by kernel_rfl) (fun _ _ _ h => h) (Or.inl ⟨by rfl, fun w _ => by go_simp⟩) (fun _ => hS0) ?_
      simp only [Act.put, List.setIfInBounds_toArray, List.set_cons_zero, List.set_cons_succ]
      refine wpAnyG_take (i := 8) (oi := { dst := some 11, op := Op.fieldAddr 57 (Operand.tmp 10) 1, type := 0, pos := "parser.go:1184", after := #[{ on := 7, ground := Ground.data }], guard := none }) (v := .pointer (some ⟨pb, 4, none⟩)) rfl (by kernel_rfl) (by kernel_rfl) (by kernel_rfl) (by kernel_rfl) (fun _ _ _ h => h) (Or.inl ⟨by rfl, fun w _ => by go_simp⟩) (fun _ => hS0) ?_
      simp only [Act.put, List.setIfInBounds_toArray, List.set_cons_zero, List.set_cons_succ]
      refine wpAnyG_takeS (i := 9) (oi := { dst := some 12, op := Op.load 54 (Operand.tmp 11), type := 54, pos := "parser.go:1184", after := #[{ on := 8, ground := Ground.data }], guard := none }) (v := .slice (some ⟨g, 0, none⟩) ts.length cap) [23, 26] rfl (by kernel_rfl) (by kernel_rfl) (by kernel_rfl) (by kernel_rfl) (fun _ _ _ h => h) (Or.inl ⟨by rfl, fun w ⟨hS4, hS5⟩ => by go_simp⟩) hS0 ?_
      simp only [Act.put, List.setIfInBounds_toArray, List.set_cons_zero, List.set_cons_succ]
      refine wpAnyG_take (i := 10) (oi := { dst := some 13, op := Op.move (Operand.tmp 0), type := 38, pos := "parser.go:1184", after := #[], guard := none }) (v := .pointer (some ⟨pb, 0, none⟩)) rfl (by kernel_rfl) (by kernel_rfl) (by kernel_rfl) (by kernel_rfl) (fun _ _ _ h => h) (yMove _ rfl rfl rfl) (fun _ => hS0) ?_
      simp only [Act.put, List.setIfInBounds_toArray, List.set_cons_zero, List.set_cons_succ]
      refine wpAnyG_take (i := 11) (oi := { dst := some 14, op := Op.nilCheck (Operand.tmp 13), type := 0, pos := "parser.go:1184", after := #[{ on := 10, ground := Ground.data }], guard := none }) (v := .pointer (some ⟨pb, 0, none⟩)) rfl (by kernel_rfl) (by kernel_rfl) (by kernel_rfl) (by kernel_rfl) (fun _ _ _ h => h) (Or.inl ⟨by rfl, fun w _ => by go_simp⟩) (fun _ => hS0) ?_
      simp only [Act.put, List.setIfInBounds_toArray, List.set_cons_zero, List.set_cons_succ]
      refine wpAnyG_take (i := 12) (oi := { dst := some 15, op := Op.fieldAddr 57 (Operand.tmp 14) 1, type := 0, pos := "parser.go:1184", after := #[{ on := 11, ground := Ground.data }], guard := none }) (v := .pointer (some ⟨pb, 4, none⟩)) rfl (by kernel_rfl) (by kernel_rfl) (by kernel_rfl) (by kernel_rfl) (fun _ _ _ h => h) (Or.inl ⟨by rfl, fun w _ => by go_simp⟩) (fun _ => hS0) ?_
      simp only [Act.put, List.setIfInBounds_toArray, List.set_cons_zero, List.set_cons_succ]
      refine wpAnyG_takeS (i := 13) (oi := { dst := some 16, op := Op.load 54 (Operand.tmp 15), type := 54, pos := "parser.go:1184", after := #[{ on := 12, ground := Ground.data }], guard := none }) (v := .slice (some ⟨g, 0, none⟩) ts.length cap) [23, 26] rfl (by kernel_rfl) (by kernel_rfl) (by kernel_rfl) (by kernel_rfl) (fun _ _ _ h => h) (Or.inl ⟨by rfl, fun w ⟨hS4, hS5⟩ => by go_simp⟩) hS0 ?_
      simp only [Act.put, List.setIfInBounds_toArray, List.set_cons_zero, List.set_cons_succ]
      refine wpAnyG_take (i := 14) (oi := { dst := some 17, op := Op.move (Operand.tmp 0), type := 38, pos := "parser.go:1184", after := #[], guard := none }) (v := .pointer (some ⟨pb, 0, none⟩)) rfl (by kernel_rfl) (by kernel_rfl) (by kernel_rfl) (by kernel_rfl) (fun _ _ _ h => h) (yMove _ rfl rfl rfl) (fun _ => hS0) ?_
      simp only [Act.put, List.setIfInBounds_toArray, List.set_cons_zero, List.set_cons_succ]
      refine wpAnyG_take (i := 15) (oi := { dst := some 18, op := Op.nilCheck (Operand.tmp 17), type := 0, pos := "parser.go:1184", after := #[{ on := 14, ground := Ground.data }], guard := none }) (v := .pointer (some ⟨pb, 0, none⟩)) rfl (by kernel_rfl) (by kernel_rfl) (by kernel_rfl) (by kernel_rfl) (fun _ _ _ h => h) (Or.inl ⟨by rfl, fun w _ => by go_simp⟩) (fun _ => hS0) ?_
      simp only [Act.put, List.setIfInBounds_toArray, List.set_cons_zero, List.set_cons_succ]
      refine wpAnyG_take (i := 16) (oi := { dst := some 19, op := Op.fieldAddr 57 (Operand.tmp 18) 2, type := 0, pos := "parser.go:1184", after := #[{ on := 15, ground := Ground.data }], guard := none }) (v := .pointer (some ⟨pb, 5, none⟩)) rfl (by kernel_rfl) (by kernel_rfl) (by kernel_rfl) (by kernel_rfl) (fun _ _ _ h => h) (Or.inl ⟨by rfl, fun w _ => by go_simp⟩) (fun _ => hS0) ?_
      simp only [Act.put, List.setIfInBounds_toArray, List.set_cons_zero, List.set_cons_succ]
      refine wpAnyG_takeS (i := 17) (oi := { dst := some 20, op := Op.load 3 (Operand.tmp 19), type := 3, pos := "parser.go:1184", after := #[{ on := 16, ground := Ground.data }], guard := none }) (v := .int .i64 nx) [23, 26] rfl (by kernel_rfl) (by kernel_rfl) (by kernel_rfl) (by kernel_rfl) (fun _ _ _ h => h) (Or.inl ⟨by rfl, fun w ⟨hS4, hS5⟩ => by go_simp⟩) hS0 ?_
      simp only [Act.put, List.setIfInBounds_toArray, List.set_cons_zero, List.set_cons_succ]
      refine wpAnyG_take (i := 18) (oi := { dst := some 21, op := Op.slice 54 (Operand.tmp 16) (some (Operand.tmp 20)) none none, type := 54, pos := "parser.go:1184", after := #[{ on := 13, ground := Ground.data }, { on := 17, ground := Ground.data }], guard := none }) (v := .slice (some ⟨g, nx * 5, none⟩) (ts.length - nx) (cap - nx)) rfl (by kernel_rfl) (by kernel_rfl) (by kernel_rfl) (by kernel_rfl) (fun _ _ _ h => h) (ySlice _ _ (some _) none none rfl rfl (slice54_l g ts.length cap nx (by omega) (by omega))) (fun _ => hS0) ?_
      simp only [Act.put, List.setIfInBounds_toArray, List.set_cons_zero, List.set_cons_succ]
      refine wpAnyG_step (i := 19) (o := { dst := some 22, op := Op.call { callee := Callee.builtin Builtin.copy, args := #[Operand.tmp 12, Operand.tmp 21], argTypes := #[54, 54] }, type := 3, pos := "parser.go:1184", after := #[{ on := 9, ground := Ground.data }, { on := 18, ground := Ground.data }], guard := none }) (by kernel_rfl) rfl (fun K hK => ?_)
      refine step_copy_rows (by rfl) _ _ 54 54 (by rfl) 50 5 Try.underlying54 (by kernel_rfl) g ts.length cap ⟨g, nx * 5, none⟩ (ts.length - nx) (cap - nx) (by rfl) (by rfl) cur 50 HH.out (flat (ts.drop nx)) mm ((Nat.min_eq_left (by omega)).trans HMM.out) HLEN.out HSRC.out HFIT.out (flat_one _) R HR.out ?_
      refine hK.out _ _ (fun _ => ⟨r4, r5⟩) ?_
      clear hK K
      simp only [Act.put, List.setIfInBounds_toArray, List.set_cons_zero, List.set_cons_succ]
      refine wpAnyG_take (i := 20) (oi := { dst := some 23, op := Op.slice 54 (Operand.tmp 8) none (some (Operand.tmp 22)) none, type := 54, pos := "parser.go:1184", after := #[{ on := 5, ground := Ground.data }, { on := 19, ground := Ground.data }], guard := none }) (v := .slice (some ⟨g, 0, none⟩) mm cap) rfl (by kernel_rfl) (by kernel_rfl) (by kernel_rfl) (by kernel_rfl) (fun _ _ _ h => h) (ySlice _ _ none (some _) none rfl rfl (slice54_h g ts.length cap mm (by omega))) (fun _ => ⟨r4, r5⟩) ?_
      simp only [Act.put, List.setIfInBounds_toArray, List.set_cons_zero, List.set_cons_succ]
      refine wpAnyG_take (i := 21) (oi := { dst := some 24, op := Op.nilCheck (Operand.tmp 3), type := 0, pos := "parser.go:1184", after := #[{ on := 0, ground := Ground.data }, { on := 0, ground := Ground.phase }, { on := 1, ground := Ground.textOnly Departure.lateStores }, { on := 2, ground := Ground.phase }, { on := 3, ground := Ground.phase }, { on := 4, ground := Ground.phase }, { on := 5, ground := Ground.phase }, { on := 6, ground := Ground.phase }, { on := 7, ground := Ground.phase }, { on := 8, ground := Ground.phase }, { on := 9, ground := Ground.phase }, { on := 10, ground := Ground.phase }, { on := 11, ground := Ground.phase }, { on := 12, ground := Ground.phase }, { on := 13, ground := Ground.phase }, { on := 14, ground := Ground.phase }, { on := 15, ground := Ground.phase }, { on := 16, ground := Ground.phase }, { on := 17, ground := Ground.phase }, { on := 18, ground := Ground.phase }, { on := 19, ground := Ground.phase }, { on := 20, ground := Ground.phase }], guard := none }) (v := .pointer (some ⟨pb, 0, none⟩)) rfl (by kernel_rfl) (by kernel_rfl) (by kernel_rfl) (by kernel_rfl) (fun _ _ _ h => h) (Or.inl ⟨by rfl, fun w _ => by go_simp⟩) (fun _ => ⟨r4, r5⟩) ?_
      simp only [Act.put, List.setIfInBounds_toArray, List.set_cons_zero, List.set_cons_succ]
      refine wpAnyG_take (i := 22) (oi := { dst := some 25, op := Op.fieldAddr 57 (Operand.tmp 24) 1, type := 0, pos := "parser.go:1184", after := #[{ on := 21, ground := Ground.data }, { on := 0, ground := Ground.phase }, { on := 1, ground := Ground.textOnly Departure.lateStores }, { on := 2, ground := Ground.phase }, { on := 3, ground := Ground.phase }, { on := 4, ground := Ground.phase }, { on := 5, ground := Ground.phase }, { on := 6, ground := Ground.phase }, { on := 7, ground := Ground.phase }, { on := 8, ground := Ground.phase }, { on := 9, ground := Ground.phase }, { on := 10, ground := Ground.phase }, { on := 11, ground := Ground.phase }, { on := 12, ground := Ground.phase }, { on := 13, ground := Ground.phase }, { on := 14, ground := Ground.phase }, { on := 15, ground := Ground.phase }, { on := 16, ground := Ground.phase }, { on := 17, ground := Ground.phase }, { on := 18, ground := Ground.phase }, { on := 19, ground := Ground.phase }, { on := 20, ground := Ground.phase }], guard := none }) (v := .pointer (some ⟨pb, 4, none⟩)) rfl (by kernel_rfl) (by kernel_rfl) (by kernel_rfl) (by kernel_rfl) (fun _ _ _ h => h) (Or.inl ⟨by rfl, fun w _ => by go_simp⟩) (fun _ => ⟨r4, r5⟩) ?_
      simp only [Act.put, List.setIfInBounds_toArray, List.set_cons_zero, List.set_cons_succ]
      refine wpAnyG_step (i := 23) (o := { dst := none, op := Op.store 54 (Operand.tmp 25) (Operand.tmp 23), type := 0, pos := "parser.go:1184", after := #[{ on := 22, ground := Ground.data }, { on := 20, ground := Ground.data }, { on := 19, ground := Ground.chain }, { on := 0, ground := Ground.phase }, { on := 1, ground := Ground.textOnly Departure.lateStores }, { on := 2, ground := Ground.phase }, { on := 3, ground := Ground.phase }, { on := 4, ground := Ground.phase }, { on := 5, ground := Ground.phase }, { on := 6, ground := Ground.phase }, { on := 7, ground := Ground.phase }, { on := 8, ground := Ground.phase }, { on := 9, ground := Ground.phase }, { on := 10, ground := Ground.phase }, { on := 11, ground := Ground.phase }, { on := 12, ground := Ground.phase }, { on := 13, ground := Ground.phase }, { on := 14, ground := Ground.phase }, { on := 15, ground := Ground.phase }, { on := 16, ground := Ground.phase }, { on := 17, ground := Ground.phase }, { on := 18, ground := Ground.phase }, { on := 19, ground := Ground.phase }, { on := 20, ground := Ground.phase }], guard := none }) (by kernel_rfl) rfl (fun K hK => ?_)
      go_simp
      refine hK.out _ _ (guard_past 23 (by simp) (by kernel_rfl)) ?_
      clear hK K
      try simp only [Act.put, List.setIfInBounds_toArray, List.set_cons_zero, List.set_cons_succ]
      refine wpAnyG_take (i := 24) (oi := { dst := some 26, op := Op.nilCheck (Operand.tmp 4), type := 0, pos := "parser.go:1184", after := #[{ on := 1, ground := Ground.data }, { on := 0, ground := Ground.phase }, { on := 1, ground := Ground.phase }, { on := 2, ground := Ground.phase }, { on := 3, ground := Ground.phase }, { on := 4, ground := Ground.phase }, { on := 5, ground := Ground.phase }, { on := 6, ground := Ground.phase }, { on := 7, ground := Ground.phase }, { on := 8, ground := Ground.phase }, { on := 9, ground := Ground.phase }, { on := 10, ground := Ground.phase }, { on := 11, ground := Ground.phase }, { on := 12, ground := Ground.phase }, { on := 13, ground := Ground.phase }, { on := 14, ground := Ground.phase }, { on := 15, ground := Ground.phase }, { on := 16, ground := Ground.phase }, { on := 17, ground := Ground.phase }, { on := 18, ground := Ground.phase }, { on := 19, ground := Ground.phase }, { on := 20, ground := Ground.phase }, { on := 21, ground := Ground.phase }, { on := 22, ground := Ground.phase }, { on := 23, ground := Ground.phase }], guard := none }) (v := .pointer (some ⟨pb, 0, none⟩)) rfl (by kernel_rfl) (by kernel_rfl) (by kernel_rfl) (by kernel_rfl) (fun _ _ _ h => h) (Or.inl ⟨by rfl, fun w _ => by go_simp⟩) (guard_past 23 (by simp) (by kernel_rfl)) ?_
      simp only [Act.put, List.setIfInBounds_toArray, List.set_cons_zero, List.set_cons_succ]
      refine wpAnyG_take (i := 25) (oi := { dst := some 27, op := Op.fieldAddr 57 (Operand.tmp 26) 2, type := 0, pos := "parser.go:1184", after := #[{ on := 24, ground := Ground.data }, { on := 0, ground := Ground.phase }, { on := 1, ground := Ground.phase }, { on := 2, ground := Ground.phase }, { on := 3, ground := Ground.phase }, { on := 4, ground := Ground.phase }, { on := 5, ground := Ground.phase }, { on := 6, ground := Ground.phase }, { on := 7, ground := Ground.phase }, { on := 8, ground := Ground.phase }, { on := 9, ground := Ground.phase }, { on := 10, ground := Ground.phase }, { on := 11, ground := Ground.phase }, { on := 12, ground := Ground.phase }, { on := 13, ground := Ground.phase }, { on := 14, ground := Ground.phase }, { on := 15, ground := Ground.phase }, { on := 16, ground := Ground.phase }, { on := 17, ground := Ground.phase }, { on := 18, ground := Ground.phase }, { on := 19, ground := Ground.phase }, { on := 20, ground := Ground.phase }, { on := 21, ground := Ground.phase }, { on := 22, ground := Ground.phase }, { on := 23, ground := Ground.phase }], guard := none }) (v := .pointer (some ⟨pb, 5, none⟩)) rfl (by kernel_rfl) (by kernel_rfl) (by kernel_rfl) (by kernel_rfl) (fun _ _ _ h => h) (Or.inl ⟨by rfl, fun w _ => by go_simp⟩) (guard_past 23 (by simp) (by kernel_rfl)) ?_
      simp only [Act.put, List.setIfInBounds_toArray, List.set_cons_zero, List.set_cons_succ]
      refine wpAnyG_step (i := 26) (o := { dst := none, op := Op.store 3 (Operand.tmp 27) (Operand.const (Value.int IntKind.i64 0)), type := 0, pos := "parser.go:1184", after := #[{ on := 25, ground := Ground.data }, { on := 23, ground := Ground.chain }, { on := 0, ground := Ground.phase }, { on := 1, ground := Ground.phase }, { on := 2, ground := Ground.phase }, { on := 3, ground := Ground.phase }, { on := 4, ground := Ground.phase }, { on := 5, ground := Ground.phase }, { on := 6, ground := Ground.phase }, { on := 7, ground := Ground.phase }, { on := 8, ground := Ground.phase }, { on := 9, ground := Ground.phase }, { on := 10, ground := Ground.phase }, { on := 11, ground := Ground.phase }, { on := 12, ground := Ground.phase }, { on := 13, ground := Ground.phase }, { on := 14, ground := Ground.phase }, { on := 15, ground := Ground.phase }, { on := 16, ground := Ground.phase }, { on := 17, ground := Ground.phase }, { on := 18, ground := Ground.phase }, { on := 19, ground := Ground.phase }, { on := 20, ground := Ground.phase }, { on := 21, ground := Ground.phase }, { on := 22, ground := Ground.phase }, { on := 23, ground := Ground.phase }], guard := none }) (by kernel_rfl) rfl (fun K hK => ?_)
      go_simp
      refine hK.out _ _ (guard_past 23 (by simp) (by kernel_rfl)) ?_
      clear hK K
      try simp only [Act.put, List.setIfInBounds_toArray, List.set_cons_zero, List.set_cons_succ]
      refine wpAnyG_done (by kernel_rfl) ?_ _
      go_wp2
      go_meet
      case rel => exact ⟨_, PP.out, cap, _, by rw [List.length_drop, HMM.out]⟩
  case rest =>
    clear HP c4 c5 fr hl hcase
    have HA : Hid (Ahead src mk pb w0 wc T pe 32) := by
      obtain ⟨v', hP, hsh⟩ := hcut
      exact ⟨v', _, _, _, _, hP, hp, hm, hdl, hsh, .inl ⟨rfl, by omega, HT.out⟩⟩
    clear hcut HT
    go_wp2
    go_loopg [] 32 (fun g wr => Hid (Ahead src mk pb w0 wr T pe g))
    case atStart => exact HA
    case round =>
      clear HA
      obtain ⟨v', ts', en, p, m, hP, hp', hm', hlen, ⟨cap, ao, rfl⟩, hst⟩ := hrel
      have HP : Hid (ParW pb w0 wr src mk p m (.slice ao ts'.length cap) ts' 0 en pe) := hP
      have HST : Hid ((en = false ∧ 32 ≤ gk + ts'.length ∧ fill src mk gk ts' p m = T) ∨ (en = true ∧ (ts', true, p, m) = T)) := hst
      clear hP hst
      have c4 := HP.out.c4
      have c6 := HP.out.c6
      by_cases h32 : ts'.length < 32
      · cases en with
        | true =>
          have hF : (ts', true, p, m) = T := by
            rcases HST.out with h | h
            · cases h.1
            · exact h.2
          subst hF
          go_wp2
          go_end0
          exact ⟨rfl, _, HP.out⟩
        | false =>
          obtain ⟨⟨⟨k1, k2, k3, k4, k5⟩, p1, m1⟩, hN⟩ : ∃ N, nextF src mk p m = N := ⟨_, rfl⟩
          have hbd := nextF_bd src mk p m hp' hm'
          rw [hN] at hbd
          simp only at hbd
          obtain ⟨-, -, hbd1, hbd2, hbd3, -⟩ := hbd
          obtain ⟨g1, hg1⟩ : ∃ g1, gk = g1 + 1 := by
            rcases HST.out with h | h
            · exact ⟨gk - 1, by omega⟩
            · cases h.1
          subst hg1
          have hfl : 32 ≤ g1 + 1 + ts'.length ∧ fill src mk (g1 + 1) ts' p m = T := by
            rcases HST.out with h | h
            · exact h.2
            · cases h.1
          obtain ⟨h32g, hfl⟩ := hfl
          have HFE : Hid (endsB k1 = true → (ts' ++ List.replicate 5 eofT, true, p1, m1) = T) := fun he => (fill_end src mk g1 ts' p m _ p1 m1 h32 hN he).symm.trans hfl
          have HFM : Hid (endsB k1 = false → fill src mk g1 (ts' ++ [⟨k1, k2, k3, k4, k5⟩]) p1 m1 = T) := fun he => (fill_more src mk g1 ts' p m _ p1 m1 h32 hN he).symm.trans hfl
          have HC : Hid (Calls Try.prog 23 #[.pointer (some ⟨pb, 0, none⟩)] wr (RPost pb wr src mk (⟨k1, k2, k3, k4, k5⟩, p1, m1))) := by
            rw [← hN]
            exact hnext pb p m wr hp' (by omega) HP.out.lex
          clear hN hfl HST
          have hs32 : decide ((ts'.length : Int) < 32) = true := by simp; omega
          go_wp2_with fail
          refine HC.out.mono ?_
          rintro e w1 ⟨rfl, hx1, hl1⟩
          have HP1 : Hid (ParW pb w0 w1 src mk p1 m1 (.slice ao ts'.length cap) ts' 0 false pe) := HP.out.lexed hx1 hl1
          clear hx1 hl1 HP c4 c6 HC
          unfold Tok.v
          go_wp2_with fail
          cases hen : endsB k1 with
          | false =>
            have HF : Hid (fill src mk g1 (ts' ++ [⟨k1, k2, k3, k4, k5⟩]) p1 m1 = T) := HFM.out hen
            clear HFE HFM
            refine (endsStatement_is k1 k2 k3 k4 k5 false _ hen).mono ?_
            rintro e w2 ⟨rfl, hb2⟩
            have HP2 : Hid (ParW pb w0 w2 src mk p1 m1 (.slice ao ts'.length cap) ts' 0 false pe) := (HP1.out.alloc _).below hb2
            have tc : ∀ o, w2.cell? ⟨w1.heap.size, o, none⟩ = (w1.alloc (.cells #[.int .i64 k1, .int .i64 k2, .string k3, .string k4, .int .i64 k5] 50)).cell? ⟨w1.heap.size, o, none⟩ := fun o => hb2.cell (p := ⟨w1.heap.size, o, none⟩) (by simp)
            have tc0 : w2.cell? ⟨w1.heap.size, 0, none⟩ = some (.int .i64 k1) := by rw [tc]; simp
            have tc1 : w2.cell? ⟨w1.heap.size, 1, none⟩ = some (.int .i64 k2) := by rw [tc]; simp
            have tc2 : w2.cell? ⟨w1.heap.size, 2, none⟩ = some (.string k3) := by rw [tc]; simp
            have tc3 : w2.cell? ⟨w1.heap.size, 3, none⟩ = some (.string k4) := by rw [tc]; simp
            have tc4 : w2.cell? ⟨w1.heap.size, 4, none⟩ = some (.int .i64 k5) := by rw [tc]; simp
            have hsz2 : w1.heap.size < w2.heap.size := by have := hb2.size; simp at this; omega
            have hpl := HP2.out.lt
            have c4 := HP2.out.c4
            clear hb2 tc HP1
            go_wp2
            go_region_law ((refine step_append_lies _ (by rfl) _ _ _ (by rfl) (pb + 1) 50 i0 _ 5 56 Try.underlying54 hi0 hz0 hz1 hz2 rfl (by omega) (.slice ao ts'.length cap) ts'.length (flat ts') (by rfl) ((HP2.out.own.alloc _).drew) ⟨w2.heap.size, 0, none⟩ 1 1 [.int .i64 k1, .int .i64 k2, .string k3, .string k4, .int .i64 k5] (by rfl) (by rfl) (World.news_of_block (cs := #[.int .i64 k1, .int .i64 k2, .string k3, .string k4, .int .i64 k5]) (t := 50) (fr := (0, 0)) (heap_alloc_new w2 _)) (by simp [Value.oneCell']) (by omega) (by unfold maxLen; omega) (by omega) (by simp; omega) (w2.heap.size + 1) (by simp) ?_; intro gg cap1 w3 hown hgrow hat hlt3; have hG := ((HP2.out.alloc _).drewN 1).grown hgrow; have c43 := hG.2.1; have f43 := hG.2.2.2.2.2.1 4))
            all_goals
              go_wp2
              go_roundg g1
              case rel => exact ⟨_, ts' ++ [⟨k1, k2, k3, k4, k5⟩], false, p1, m1, ((HP2.out.alloc _).drewN 1).put4 hgrow (own_snoc ⟨k1, k2, k3, k4, k5⟩ rfl rfl hown), hbd2, hbd3, by simp; omega, ⟨cap1, _, by rw [List.length_append]; rfl⟩, .inl ⟨rfl, by simp; omega, HF.out⟩⟩
              case measure => omega
          | true =>
            have HF : Hid ((ts' ++ List.replicate 5 eofT, true, p1, m1) = T) := HFE.out hen
            clear HFE HFM
            refine (endsStatement_is k1 k2 k3 k4 k5 true _ hen).mono ?_
            rintro e w2 ⟨rfl, hb2⟩
            have HP2 : Hid (ParW pb w0 w2 src mk p1 m1 (.slice ao ts'.length cap) ts' 0 false pe) := (HP1.out.alloc _).below hb2
            clear hb2 HP1
            have c6 := HP2.out.c6
            have f6 := HP2.out.fr 6
            have HP3 : Hid (ParW pb w0 (w2.setCell ⟨pb, 6, none⟩ (.bool true)) src mk p1 m1 (.slice ao ts'.length cap) ts' 0 true pe) := HP2.out.set6 true
            go_wp2
            clear c6 f6 HP2
            go_loopg [61] 5 (fun g v61 wx => ∃ (k : Nat) (ao : Option Addr) (cap : Nat), k ≤ 5 ∧ g = 5 - k ∧ v61 = .int .i64 k ∧ Hid (ParW pb w0 wx src mk p1 m1 (.slice ao (ts'.length + k) cap) (ts' ++ List.replicate k eofT) 0 true pe))
            case atStart => exact ⟨0, ao, cap, by omega, rfl, rfl, by simpa using HP3⟩
            case round =>
              clear HP3
              obtain ⟨k, ao, cap, hk, hgk, rfl, HP3⟩ := hrel
              have hpl := HP3.out.lt
              have c4 := HP3.out.c4
              by_cases hk5 : k < 5
              · have hown0 : wr.ownsRow (pb + 1) 50 5 (.slice ao (ts'.length + k) cap) (ts'.length + k) (flat (ts' ++ List.replicate k eofT)) := by
                  have := HP3.out.own
                  rw [List.length_append, List.length_replicate] at this
                  exact this
                have HOWN : Hid (wr.ownsRow (pb + 1) 50 5 (.slice ao (ts'.length + k) cap) (ts'.length + k) (flat (ts' ++ List.replicate k eofT))) := hown0
                clear hown0
                go_wp2_with (at_builtin; refine wpList_append_lies _ (by rfl) _ _ _ (by rfl) (pb + 1) 50 i0 _ 5 56 Try.underlying54 hi0 hz0 hz1 hz2 rfl (by omega) (.slice ao (ts'.length + k) cap) (ts'.length + k) (flat (ts' ++ List.replicate k eofT)) (by rfl) (HOWN.out.alloc _) ⟨wr.heap.size, 0, none⟩ 1 1 [.int .i64 0, .int .i64 0, .string ⟨#[]⟩, .string ⟨#[]⟩, .int .i64 0] (by rfl) (by rfl) (World.news_of_block (cs := #[.int .i64 0, .int .i64 0, .string ⟨#[]⟩, .string ⟨#[]⟩, .int .i64 0]) (t := 50) (fr := (0, 0)) (heap_alloc_new wr _)) (by simp [Value.oneCell']) (by omega) (by unfold maxLen; omega) (by omega) (by simp; omega) (wr.heap.size + 1) (by simp) ?_; intro gg cap1 w3 hown hgrow hat hlt3; have hG := (HP3.out.alloc _).grown hgrow; have c43 := hG.2.1; have f43 := hG.2.2.2.2.2.1 4)
                go_roundg (5 - (k + 1))
                case rel =>
                  refine ⟨k + 1, some ⟨gg, 0, none⟩, cap1, by omega, rfl, by go_num, ?_⟩
                  have hfin := (HP3.out.alloc _).put4 hgrow (ts' := (ts' ++ List.replicate k eofT) ++ [eofT]) (own_snoc eofT (by simp) rfl hown)
                  rw [List.append_assoc, ← List.replicate_succ'] at hfin
                  exact hfin
                case measure => omega
              · have hk5' : k = 5 := by omega
                subst hk5'
                go_wp2
                go_roundg g1
                case rel => exact ⟨_, ts' ++ List.replicate 5 eofT, true, p1, m1, HP3.out, hbd2, hbd3, by simp; omega, ⟨cap, ao, by simp⟩, .inr ⟨rfl, HF.out⟩⟩
                case measure => omega
      · have hF : (ts', en, p, m) = T := by
          rcases HST.out with h | h
          · rw [h.1, ← h.2.2]; exact (fill_full src mk gk ts' p m h32).symm
          · rw [h.1]; exact h.2
        subst hF
        have hd : decide ((ts'.length : Int) < 32) = false := by simp; omega
        go_wp2
        go_end0
        exact ⟨rfl, _, HP.out⟩

end Go.Proofs.Qxb6604722a

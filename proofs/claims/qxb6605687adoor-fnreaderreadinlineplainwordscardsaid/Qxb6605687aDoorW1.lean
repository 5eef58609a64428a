/- bytes.Reader.Read, counter.Read. -/
import Derived.Test.Qxb6605687aDoorM1
namespace Go.Proofs.Qxb6605687aDoor
open Go.RowKit
set_option maxHeartbeats 4000000
set_option maxRecDepth 100000
set_option linter.unusedSimpArgs false
set_option linter.unusedVariables false

theorem step_copy_at {P : Program} {ops : Array Oper} {o : Oper} {a : Act} {w : World} {K : Act → World → Prop} {Q : Exit → Act → World → Prop} {E : Prop} (hgd : o.guard = none) (d s : Operand) (dT sT : TypeId)
    (ho : o.op = .call { callee := .builtin .copy, args := #[d, s], argTypes := #[dT, sT] }) (elem : TypeId) (hu : P.underlying dT = some (.slice elem)) (hsz : (P.info? elem).map (·.size) = some 1)
    (g off dLen dCap : Nat) (ad : Addr) (sLen sCap : Nat) (hd : a.eval d = .slice (some ⟨g, off, none⟩) dLen dCap) (hs : a.eval s = .slice (some ad) sLen sCap)
    (cur : Array Value) (t : TypeId) (hg : w.heap[g]? = some (.cells cur t (0, 0))) (cs : List Value) (m : Nat) (hm : Nat.min sLen dLen = m) (hn : cs.length = m)
    (hsrc : ∀ j v, cs[j]? = some v → w.cell? (ad.add j) = some v) (hfit : off + cs.length ≤ cur.size) (h1 : ∀ v ∈ cs, v.oneCell' = true)
    (R : Array Value) (hR : R = (cur.toList.take off ++ cs ++ cur.toList.drop (off + cs.length)).toArray) (h : K (a.put o.dst (.int .i64 (m : Int))) (w.setRow g R)) :
    if Region.wanted o (yielded ops a.tmps) = true then Oper.wp P o a w K Q else E := by
  have hw : Region.wanted o (yielded ops a.tmps) = true := by simp [Region.wanted, hgd]
  rw [if_pos hw]
  subst hR
  have hl := run_loadCells_list (P := P) w ad cs hsrc
  have hst := run_storeCells_at P g off t cs 0 cur w hg (by simpa using hfit) h1
  have hrun : (Builtin.copy_ #[dT, sT] o.type #[.slice (some ⟨g, off, none⟩) dLen dCap, .slice (some ad) sLen sCap]).run P w = .ok (.int .i64 (m : Int)) (w.setRow g (cur.toList.take off ++ cs ++ cur.toList.drop (off + cs.length)).toArray) := by
    cases hq : P.info? elem with
    | none => simp [hq] at hsz
    | some i =>
      have hi : i.size = 1 := by simpa [hq] using hsz
      rw [hn] at hl
      simp only [Nat.add_zero] at hst
      simp [Builtin.copy_, run_underlying hu, Builtin.lenOf, Builtin.firstCells, sizeOf, typeInfo, hq, hi, hm, hl, hst, goInt]
  unfold Oper.wp
  simp only [List.append_assoc] at hrun h
  simp [execOp, ho, resolve, invoke, builtin, hd, hs, hrun, Result.andThen]
  exact h

/-- What is written over. -/
def lay (ub : List Int) (o : Nat) (l : List Int) : List Int := ub.take o ++ l ++ ub.drop (o + l.length)
theorem lay_len (ub : List Int) (o : Nat) (l : List Int) (h : o + l.length ≤ ub.length) : (lay ub o l).length = ub.length := by
  simp [lay]; omega
theorem lay_u8s (ub : List Int) (o : Nat) (l : List Int) : (u8s (lay ub o l)).toArray = ((u8s ub).toArray.toList.take o ++ u8s l ++ (u8s ub).toArray.toList.drop (o + (u8s l).length)).toArray := by
  simp [lay, u8s, List.map_take, List.map_drop]

variable {h D cap : Nat} {xs : List Int} {W : World} {s : St} {B0 : Nat} {a1 a3 a4 : Addr}

theorem yread_eof (H : RS h D cap xs W s) (G : Gl B0 W a1 a3 a4) (hi : s.i = xs.length) (hN : xs.length ≤ 2000000) (o len cp : Nat) :
    Calls Tryd.prog 137 #[.pointer (some ⟨h, 0, none⟩), .slice (some ⟨h + 3, o, none⟩) len cp] W fun e w' => e = .returned (.tuple #[.int .i64 0, .iface 160 (.pointer (some a3))]) ∧ RS h D cap xs w' s ∧ Fr h W w' := by
  have y0 := H.y0
  have y1 := H.y1
  have g3 := G.g3
  rw [hi] at y1
  have HH : Hid (RS h D cap xs W s) := H
  clear H G
  go_enter Tryd.func137, Tryd.ntmps137
  go_wp2
  go_quiet (fail)
  go_wp2
  go_quiet (fail)
  go_wp2
  go_ret2
  exact ⟨rfl, (HH.out.drewN _).drewN _, fr_drewN (fr_drewN (Fr.refl h W) _) _⟩

theorem yread_some (H : RS h D cap xs W s) (hd : Dat W D xs) (hDh : D < h) (hi : s.i < xs.length) (hN : xs.length ≤ 2000000) (hc : xs.length ≤ cap) (hcap : cap ≤ maxLen) (o len cp m : Nat) (hlen : 0 < len) (ho : o + len = 16384) (hm : Nat.min (xs.length - s.i) len = m) :
    Calls Tryd.prog 137 #[.pointer (some ⟨h, 0, none⟩), .slice (some ⟨h + 3, o, none⟩) len cp] W fun e w' => e = .returned (.tuple #[.int .i64 m, .nilIface]) ∧
      RS h D cap xs w' { s with i := s.i + m, pr := -1, ub := lay s.ub o ((xs.drop s.i).take m) } ∧ Fr h W w' := by
  have y0 := H.y0
  have y1 := H.y1
  have y2 := H.y2
  have fY := H.fY
  have HH : Hid (RS h D cap xs W s) := H
  have HD : Hid (Dat W D xs) := hd
  have hsi : ¬ ((xs.length : Int) ≤ s.i) := by omega
  clear H hd
  go_enter Tryd.func137, Tryd.ntmps137
  go_wp2
  go_quiet (fail)
  go_wp2
  obtain ⟨W1, hW1⟩ : ∃ W1, W1 = ((W.drewN nq).setCell ⟨h, 2, none⟩ (.int .i64 (-1))) := ⟨_, rfl⟩
  have HH1 : Hid (RS h D cap xs W1 { s with pr := -1 }) := by rw [hW1]; exact (HH.out.drewN nq).setY2 (-1)
  have HB1 : Hid (Fr h W W1) := by rw [hW1]; exact (fr_drewN (Fr.refl h W) nq).setCell (by show h ≤ h ∧ h < h + 5; omega) _
  have HL : Hid (((xs.drop s.i).take m).length = m) := by show _ = _; rw [List.length_take, List.length_drop, ← hm]; simp only [Nat.min_def]; split <;> split <;> omega
  have hml : m ≤ len := by rw [← hm]; exact Nat.min_le_right _ _
  have hmN : s.i + m ≤ xs.length := by have : m ≤ xs.length - s.i := by rw [← hm]; exact Nat.min_le_left _ _
                                       omega
  have HS : Hid (∀ j v, (u8s ((xs.drop s.i).take m))[j]? = some v → W1.drew.cell? ((⟨D, s.i, none⟩ : Addr).add j) = some v) := fun j v hj => by
    obtain ⟨hj1, rfl⟩ := List.getElem?_eq_some_iff.1 hj
    rw [u8s_len, HL.out] at hj1
    rw [add_mk]
    have h2 := (HD.out.fr HB1.out hDh) (s.i + j) (by omega)
    have h3 : xs.getD (s.i + j) 0 = xs[s.i + j]'(by omega) := by simp [show s.i + j < xs.length by omega]
    rw [h3] at h2
    simpa [u8s] using h2
  rw [← hW1]
  clear hW1 y0 y1 y2 fY
  have y0 := HH1.out.y0
  have y1 := HH1.out.y1
  have fY := HH1.out.fY
  have hsl := slice24_l D 0 xs.length cap s.i (by omega) (by omega)
  rw [Nat.zero_add] at hsl
  have HX : Hid (RS h D cap xs (W1.drew.setRow (h + 3) (u8s (lay s.ub o ((xs.drop s.i).take m))).toArray) { s with pr := -1, ub := lay s.ub o ((xs.drop s.i).take m) }) := HH1.out.drew.setU _ (by rw [lay_len _ _ _ (by have := HL.out; have := HH.out.us; omega)]; exact HH.out.us)
  have z0 := HX.out.y0
  have z1 := HX.out.y1
  have fZ := HX.out.fY
  go_region_held3 (fun w' => w'.cell? ⟨h, 0, none⟩ = some (.slice (some ⟨D, 0, none⟩) xs.length cap) ∧ w'.cell? ⟨h, 1, none⟩ = some (.int .i64 s.i)) (first | go_keep | exact ⟨z0, z1⟩) ((refine step_copy_at (by rfl) _ _ 24 24 (by rfl) 5 Tryd.underlying24 (by kernel_rfl) (h + 3) o len cp ⟨D, s.i, none⟩ (xs.length - s.i) (cap - s.i) (by rfl) (by rfl) _ 5 HH1.out.drew.hU (u8s ((xs.drop s.i).take m)) m hm ((u8s_len _).trans HL.out) HS.out (by have h1 := HL.out; have h2 := HH1.out.us; rw [u8s_len]; simp [u8s]; simp at h2; omega) (u8s_one _) _ (lay_u8s _ _ _) ?_))
  go_wp2
  go_ret2
  refine ⟨rfl, ?_, ?_⟩
  · exact HX.out.setY1 _
  · exact (fr_setRow HB1.out.drew _ _ (by omega)).setCell (by show h ≤ h ∧ h < h + 5; omega) _
end Go.Proofs.Qxb6605687aDoor

/- readLine. -/
import Derived.Test.Qxb6605687aDoorR2
namespace Go.Proofs.Qxb6605687aDoor
open Go.RowKit
set_option maxHeartbeats 4000000
set_option maxRecDepth 100000
set_option linter.unusedSimpArgs false
set_option linter.unusedVariables false

/-- The reader between two calls. -/
structure RX (h D cap : Nat) (xs : List Int) (W0 w : World) (s : St) (c : Nat) (A : List Int) (vs : List Value) (args : List (List Int)) (L : List Int) : Prop where
  ri : RI h D cap xs w s c
  rows : Rows3 (h + 5) w s.ag s.ar s.lg A vs args L
  er : s.er = .nilIface
  bel : Below h W0 w

/-- What does not change. -/
structure Env (h D cap : Nat) (xs : List Int) (B0 : Nat) (W : World) (a1 a3 a4 : Addr) : Prop where
  by_ : By xs
  g : Gl B0 W a1 a3 a4
  d : Dat W D xs
  hB0 : B0 ≤ h
  hD : D < h
  n : xs.length ≤ 2000000
  nc : xs.length ≤ cap
  mx : cap ≤ maxLen
theorem Env.below {h D cap : Nat} {xs : List Int} {B0 : Nat} {W W' : World} {a1 a3 a4 : Addr} (E : Env h D cap xs B0 W a1 a3 a4) (hb : Below h W W') : Env h D cap xs B0 W' a1 a3 a4 :=
  ⟨E.by_, E.g.below hb E.hB0, E.d.below hb E.hD, E.hB0, E.hD, E.n, E.nc, E.mx⟩

variable {h D cap : Nat} {xs : List Int} {W0 w : World} {s : St} {c : Nat} {A : List Int} {vs : List Value} {args : List (List Int)} {L : List Int} {B0 : Nat} {a1 a3 a4 : Addr}

theorem slice24_p (p : Option Addr) (n c m : Nat) (h1 : m ≤ c) (W : World) : (Instr.sliceAt 24 (.slice p n c) none (some (.int .i64 m)) none).run Tryd.prog W = .ok (.slice p m c) W := by
  rw [run_sliceAt_slice _ _ _ _ _ _ und24, run_slice_h _ _ _ _ _ und24 _ _ (by omega) (by omega), size24]
  cases p with
  | none => simp [sliced]
  | some a =>
    have ha : a.add 0 = a := by
      unfold Addr.add
      split <;> simp_all
    simp [sliced, ha]

/-- 'ReadSlice' again. -/
theorem read_any (E : Env h D cap xs B0 w a1 a3 a4) (H : RX h D cap xs W0 w s c A vs args L) :
    Calls Tryd.prog 63 #[.pointer (some ⟨h + 2, 0, none⟩), .int .u8 10] w fun e w' => ∃ o cp s', e = .returned (.tuple #[.slice (some ⟨h + 3, o, none⟩) (cut (xs.drop c)).1 cp, errV a1 a3 (cut (xs.drop c)).2]) ∧
      RX h D cap xs W0 w' s' (c + (cut (xs.drop c)).1) A vs args L ∧ Kp s s' ∧ Fr h w w' ∧ o + (cut (xs.drop c)).1 ≤ 16384 ∧ (cut (xs.drop c)).1 ≤ cp ∧ ∀ j, j < (cut (xs.drop c)).1 → w'.cell? ⟨h + 3, o + j, none⟩ = some (.int .u8 ((xs.drop c).getD j 0)) := by
  refine (readSlice_any H.ri H.er E.by_ E.g E.hB0 E.d E.hD E.n E.nc E.mx).mono ?_
  rintro e w' ⟨v4, v5, rfl, o, cp, s', rfl, rfl, h1, h2, h3, h4, h5, h6, h7⟩
  refine ⟨o, cp, s', rfl, ⟨h1, ?_, h2, H.bel.trans h4.bel⟩, h3, h4, h5, h6, fun j hj => ?_⟩
  · obtain ⟨e1, e2, e3⟩ := h3
    rw [e1, e2, e3]
    exact H.rows.keep h4.bel.size fun k hk _ => h4.up k hk
  · rw [h1.rs.u (o + j) (by omega), h7 j hj]

/-- How a line ends: 0 with its LF, 1 too long, 2 the data end. -/
def rl (l : List Int) : Nat × Nat :=
  match fi l 10 with
  | some k => if k ≤ 65536 then (k, 0) else (k, 1)
  | none => if l.length ≤ 65536 then (l.length, 2) else (l.length, 1)

/-- What 'readLine' leaves. -/
def Lined (h D cap : Nat) (xs : List Int) (W0 w : World) (a4 : Addr) (s : St) (c : Nat) (A : List Int) (vs : List Value) (args : List (List Int)) (e : Ending) (w' : World) : Prop :=
  ∃ v ev, e = .returned (.tuple #[v, ev]) ∧ Below h w w' ∧
    (((rl (xs.drop c)).2 = 0 ∧ ev = .nilIface ∧ ∃ s' L' lb lo cp, RX h D cap xs W0 w' s' (c + (rl (xs.drop c)).1 + 1) A vs args L' ∧ s'.ag = s.ag ∧ s'.ar = s.ar ∧ lb ≠ h + 4 ∧
        v = .slice (some ⟨lb, lo, none⟩) ((rl (xs.drop c)).1 - cr ((xs.drop c).take (rl (xs.drop c)).1)) cp ∧ (rl (xs.drop c)).1 ≤ cp ∧ LN w' s.ag s.ar lb lo ((xs.drop c).take ((rl (xs.drop c)).1 - cr ((xs.drop c).take (rl (xs.drop c)).1)))) ∨
      ((rl (xs.drop c)).2 = 1 ∧ ∃ p, ev = .iface 100 p) ∨
      ((rl (xs.drop c)).2 = 2 ∧ ev = .iface 160 (.pointer (some a4)) ∧ ∃ s' L', RX h D cap xs W0 w' s' xs.length A vs args L'))

theorem RX.alloc (H : RX h D cap xs W0 w s c A vs args L) (o : Obj) : RX h D cap xs W0 (w.alloc o) s c A vs args L :=
  ⟨H.ri.adv 0 (Nat.zero_le _) rfl rfl rfl rfl rfl (H.ri.rs.alloc o), H.rows.alloc o, H.er, H.bel.alloc (by have := H.ri.rs.lt; omega) o⟩
theorem RX.putL (H : RX h D cap xs W0 w s c A vs args L) {w' : World} {lg0 lg' : Value} {M : List Int} (h0 : lg0.ownBlock = s.lg.ownBlock) (ho : w'.ownsRow (h + 5) 5 1 lg' M.length (u8s M)) (hm : Moved w w' lg0 lg') :
    RX h D cap xs W0 (w'.setCell ⟨h + 4, 4, none⟩ lg') { s with lg := lg' } c A vs args M := by
  have hr : ∀ k, lg0.ownBlock = some k → h + 5 ≤ k := fun k hk => (H.rows.ol.lt k (by rw [← h0]; exact hk)).1
  exact ⟨H.ri.adv 0 (Nat.zero_le _) rfl rfl rfl rfl rfl ((H.ri.rs.grown hm.grown hr).setR4 lg'), (H.rows.putL h0 ho hm).set _ _ (by show h + 4 < h + 5; omega), H.er,
    (H.bel.grown hm.grown (by have := H.ri.rs.lt; omega) (fun k hk => by have := hr k hk; omega)).setCell (by show h ≤ h + 4; omega) _⟩
theorem RX.lnU (H : RX h D cap xs W0 w s c A vs args L) {o : Nat} {l : List Int} (hc : ∀ j, j < l.length → w.cell? ⟨h + 3, o + j, none⟩ = some (.int .u8 (l.getD j 0))) : LN w s.ag s.ar (h + 3) o l :=
  ⟨hc, by have := H.ri.rs.lt; omega, fun e => by have := (H.rows.oa.lt _ e).1; omega, fun e => by have := (H.rows.og.lt _ e).1; omega⟩

/-- The end of 'readLine': the LF and a CR are cut off. -/
theorem cr_le (l : List Int) : cr l ≤ l.length := by
  unfold cr
  split
  · rename_i h
    cases l with
    | nil => cases h
    | cons a r => simp
  · exact Nat.zero_le _

theorem cut_rl0 {l : List Int} {m : Nat} (h : cut l = (m, 0)) : ∃ k, m = k + 1 ∧ k + 1 ≤ l.length ∧ rl l = (k, 0) := by
  unfold cut at h
  cases hf : fi (l.take 16384) 10 with
  | some k =>
    rw [hf] at h
    simp at h
    have hk := fi_lt hf
    rw [List.length_take] at hk
    have hl : fi l 10 = some k := by
      have := List.take_append_drop 16384 l
      rw [← this, fi_append, hf]
    refine ⟨k, h.symm, by omega, ?_⟩
    unfold rl
    rw [hl]
    simp
    omega
  | none =>
    rw [hf] at h
    simp only at h
    split at h <;> simp at h
theorem cut_one {l : List Int} {m : Nat} (h : cut l = (m, 1)) : m = 16384 ∧ 16384 ≤ l.length ∧ fi (l.take 16384) 10 = none := by
  unfold cut at h
  cases hf : fi (l.take 16384) 10 with
  | some k => rw [hf] at h; simp at h
  | none =>
    rw [hf] at h
    simp only at h
    split at h
    · simp at h; exact ⟨h.symm, by assumption, rfl⟩
    · simp at h
theorem cut_two {l : List Int} {m : Nat} (h : cut l = (m, 2)) : m = l.length ∧ l.length < 16384 ∧ fi l 10 = none := by
  unfold cut at h
  cases hf : fi (l.take 16384) 10 with
  | some k => rw [hf] at h; simp at h
  | none =>
    rw [hf] at h
    simp only at h
    split at h
    · simp at h
    · rename_i hl
      simp at h
      refine ⟨h.symm, by omega, ?_⟩
      rw [List.take_of_length_le (by omega)] at hf
      exact hf
theorem cut_kind (l : List Int) : (cut l).2 = 0 ∨ (cut l).2 = 1 ∨ (cut l).2 = 2 := by
  unfold cut
  cases fi (l.take 16384) 10 with
  | some k => exact .inl rfl
  | none =>
    simp only
    split
    · exact .inr (.inl rfl)
    · exact .inr (.inr rfl)

/-- With p bytes gathered that hold no LF. -/
theorem rl_more {l : List Int} {p k : Nat} (hp : fi (l.take p) 10 = none) (hpl : p ≤ l.length) (hk : fi (l.drop p) 10 = some k) : fi l 10 = some (p + k) := by
  rw [← List.take_append_drop p l, fi_append, hp, hk]
  simp [hpl]
  omega
theorem rl_none {l : List Int} {p : Nat} (hp : fi (l.take p) 10 = none) (hk : fi (l.drop p) 10 = none) : fi l 10 = none := by
  rw [← List.take_append_drop p l, fi_append, hp, hk]
  rfl
theorem fi_take_add {l : List Int} {p : Nat} (hp : fi (l.take p) 10 = none) (hk : fi ((l.drop p).take 16384) 10 = none) : fi (l.take (p + 16384)) 10 = none := by
  have e : l.take (p + 16384) = l.take p ++ (l.drop p).take 16384 := by
    have := drop_take_add l 0 p 16384
    simpa using this
  rw [e, fi_append, hp, hk]
  rfl
theorem rl_long {l : List Int} {p : Nat} (hp : fi (l.take p) 10 = none) (hpl : p ≤ l.length) (h6 : 65536 < p) : (rl l).2 = 1 := by
  unfold rl
  cases hf : fi l 10 with
  | some k =>
    have : p ≤ k := by
      rcases Nat.lt_or_ge k p with hlt | hge
      · exfalso
        have e := List.take_append_drop p l
        rw [← e, fi_append, hp] at hf
        simp at hf
        obtain ⟨a, _, h2⟩ := hf
        omega
      · exact hge
    simp [show ¬ k ≤ 65536 by omega]
  | none => simp [show ¬ l.length ≤ 65536 by omega]
end Go.Proofs.Qxb6605687aDoor

/- readInline. -/
import Derived.Test.Qxb6605687aDoorW7
import Derived.Test.Qxb6605687aDoorW9b
namespace Go.Proofs.Qxb6605687aDoor
open Go.RowKit
set_option maxHeartbeats 4000000
set_option maxRecDepth 100000
set_option linter.unusedSimpArgs false
set_option linter.unusedVariables false

variable {h D cap : Nat} {xs : List Int} {W0 w : World} {s : St} {c : Nat} {A : List Int} {vs : List Value} {args : List (List Int)} {L : List Int} {B0 : Nat} {a1 a3 a4 : Addr}

/-- The line that 'readInline' splits. -/
def body (l : List Int) : List Int := l.take ((rl l).1 - cr (l.take (rl l).1))

/-- What 'readInline' leaves. -/
def Inl (h D cap : Nat) (xs : List Int) (W0 w : World) (a4 : Addr) (c : Nat) (A : List Int) (vs : List Value) (args : List (List Int)) (e : Ending) (w' : World) : Prop :=
  ∃ ev, e = .returned ev ∧ Below h w w' ∧
    (((rl (xs.drop c)).2 = 0 ∧ (((split (body (xs.drop c)) A args).1 = true ∧ ev = .nilIface) ∨ ((split (body (xs.drop c)) A args).1 = false ∧ ∃ p, ev = .iface 100 p)) ∧
        ∃ s' vs' L', RX h D cap xs W0 w' s' (c + (rl (xs.drop c)).1 + 1) (split (body (xs.drop c)) A args).2.1 vs' (split (body (xs.drop c)) A args).2.2 L') ∨
      ((rl (xs.drop c)).2 = 1 ∧ ∃ p, ev = .iface 100 p) ∨
      ((rl (xs.drop c)).2 = 2 ∧ ev = .iface 160 (.pointer (some a4)) ∧ ∃ s' L', RX h D cap xs W0 w' s' xs.length A vs args L'))

theorem rl_le (l : List Int) (h : (rl l).2 = 0) : (rl l).1 + 1 ≤ l.length := by
  unfold rl at h ⊢
  cases hf : fi l 10 with
  | some k =>
    rw [hf] at h
    have := fi_lt hf
    simp only at h ⊢
    split
    · simp only; omega
    · simp only; omega
  | none =>
    rw [hf] at h
    simp only at h
    split at h <;> simp at h

theorem inline_any (E : Env h D cap xs B0 w a1 a3 a4) (H : RX h D cap xs W0 w s c A vs args L) (hA : A.length ≤ 2000000) (hV : vs.length ≤ 2000000) :
    Calls Tryd.prog 47 #[.pointer (some ⟨h + 4, 0, none⟩)] w (Inl h D cap xs W0 w a4 c A vs args) := by
  have HC : Hid (∀ tl, Calls Tryd.prog 54 #[.pointer (some ⟨h + 4, 0, none⟩), .string tl, .bool false] w (Lined h D cap xs W0 w a4 s c A vs args)) := fun tl => readLine_any tl E H
  have HBY : Hid (By (xs.drop c)) := E.by_.drop c
  have hN := E.n
  have hdl : (xs.drop c).length ≤ 2000000 := by rw [List.length_drop]; omega
  clear E H
  go_enter Tryd.func47, Tryd.ntmps47
  go_wp2_with fail
  refine (HC.out _).mono ?_
  rintro e w1 ⟨v, ev, rfl, hb, hst⟩
  clear HC
  rcases hst with ⟨h0, rfl, s1, L1, lb, lo, cp, hx, e1, e2, hlb, rfl, hcp, hln⟩ | ⟨h1, p, rfl⟩ | ⟨h2, rfl, s1, L1, hx⟩
  · have hle := rl_le _ h0
    have hbl : (body (xs.drop c)).length = (rl (xs.drop c)).1 - cr ((xs.drop c).take (rl (xs.drop c)).1) := by
      unfold body
      rw [List.length_take]
      omega
    have HSP : Hid (Calls Tryd.prog 55 #[.pointer (some ⟨h + 4, 0, none⟩), .slice (some ⟨lb, lo, none⟩) ((rl (xs.drop c)).1 - cr ((xs.drop c).take (rl (xs.drop c)).1)) cp] w1 (Split h D cap xs w1 s1 L1 (split (body (xs.drop c)) A args))) := by
      have := split_any (A := A) (vs := vs) (args := args) (L := L1) (l := body (xs.drop c)) hx.ri.rs hx.rows (by rw [e1, e2]; exact hln) hlb (HBY.out.take _) (by omega) cp (by omega) hA hV
      rw [hbl] at this
      exact this
    have HX : Hid (RX h D cap xs W0 w1 s1 (c + (rl (xs.drop c)).1 + 1) A vs args L1) := hx
    have HB : Hid (Below h w w1) := hb
    have H0 : Hid ((rl (xs.drop c)).2 = 0) := h0
    clear hx hb h0 hln hbl hle hcp e1 e2
    go_wp2_with fail
    refine HSP.out.mono ?_
    rintro e w2 ⟨ev, ag', ar', vs', rfl, hev, hrs, hrows, hb2⟩
    have HH : Hid (Inl h D cap xs W0 w a4 c A vs args (.returned ev) w2) := by
      refine ⟨ev, rfl, HB.out.trans hb2, .inl ⟨H0.out, hev, { s1 with ag := ag', ar := ar' }, vs', L1, ?_⟩⟩
      exact ⟨HX.out.ri.adv 0 (Nat.zero_le _) rfl rfl rfl rfl rfl hrs, hrows, HX.out.er, HX.out.bel.trans hb2⟩
    clear hev hrs hrows hb2 HSP HX HB
    go_wp2
    go_ret
    exact HH.out
  · have HH : Hid (Inl h D cap xs W0 w a4 c A vs args (.returned (.iface 100 p)) w1) := ⟨_, rfl, hb, .inr (.inl ⟨h1, p, rfl⟩)⟩
    clear h1 hb
    go_wp2
    go_ret
    exact HH.out
  · have HH : Hid (Inl h D cap xs W0 w a4 c A vs args (.returned (.iface 160 (.pointer (some a4)))) w1) := ⟨_, rfl, hb, .inr (.inr ⟨h2, rfl, s1, L1, hx⟩)⟩
    clear h2 hx hb
    go_wp2
    go_ret
    exact HH.out

theorem zzInline_any (E : Env h D cap xs B0 w a1 a3 a4) (H : RX h D cap xs W0 w s c A vs args L) (hA : A.length ≤ 2000000) (hV : vs.length ≤ 2000000) :
    Calls Tryd.prog 28 #[.pointer (some ⟨h + 4, 0, none⟩)] w (Inl h D cap xs W0 w a4 c A vs args) := by
  have HC : Hid (Calls Tryd.prog 47 #[.pointer (some ⟨h + 4, 0, none⟩)] w (Inl h D cap xs W0 w a4 c A vs args)) := inline_any E H hA hV
  clear E H
  go_enter Tryd.func28, Tryd.ntmps28
  go_wp2_with fail
  refine HC.out.mono ?_
  rintro e w1 ⟨ev, rfl, hst⟩
  have HH : Hid (Inl h D cap xs W0 w a4 c A vs args (.returned ev) w1) := ⟨ev, rfl, hst⟩
  clear HC hst
  go_wp2
  go_ret
  exact HH.out
end Go.Proofs.Qxb6605687aDoor

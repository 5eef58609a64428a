/- The laws' small helpers. -/
import Derived.Test.Qxb6605687aDoorW3
namespace Go.Proofs.Qxb6605687aDoor
open Go.RowKit
set_option maxHeartbeats 4000000
set_option maxRecDepth 100000
set_option linter.unusedSimpArgs false
set_option linter.unusedVariables false

/-- A string's bytes. -/
def sb (s : ByteArray) : List Int := s.data.toList.map fun b => (b.toNat : Int)
theorem sb_len (s : ByteArray) : (sb s).length = s.size := by
  unfold sb
  rw [List.length_map]
  exact Array.length_toList
theorem sb_by (s : ByteArray) : By (sb s) := fun x hx => by
  obtain ⟨b, _, rfl⟩ := List.mem_map.1 hx
  have := b.toNat_lt
  omega
/-- Byte k. -/
def sa (s : ByteArray) (k : Nat) : Int := (sb s).getD k 0
theorem sb_get (s : ByteArray) (k : Nat) (h : k < s.size) : ((s[k]'h).toNat : Int) = sa s k := by
  have h1 : k < s.data.size := h
  unfold sa sb
  rw [List.getD_eq_getElem?_getD, List.getElem?_map, Array.getElem?_toList, Array.getElem?_eq_getElem h1]
  rfl
theorem sb_drop (s : ByteArray) (k : Nat) (h : k < s.size) : (sb s).drop k = sa s k :: (sb s).drop (k + 1) := by
  have h1 : k < (sb s).length := by rw [sb_len]; exact h
  rw [List.drop_eq_getElem_cons h1]
  congr 1
  simp [sa, h1]

/-- A slice of strings. -/
structure SL (w : World) (p : Option Addr) (S : List ByteArray) : Prop where
  c : ∀ i, i < S.length → ∃ a, p = some a ∧ w.cell? (a.add i) = some (.string (S.getD i default))
  mx : ∀ s ∈ S, s.size ≤ maxLen
theorem SL.below {w w' : World} {p : Option Addr} {S : List ByteArray} {B : Nat} (H : SL w p S) (hb : Below B w w') (hB : ∀ a, p = some a → 0 < S.length → a.block < B) : SL w' p S :=
  ⟨fun i hi => by
    obtain ⟨a, e, hc⟩ := H.c i hi
    refine ⟨a, e, ?_⟩
    rw [hb.cell (by rw [show (a.add i).block = a.block from by unfold Addr.add; split <;> rfl]; exact hB a e (by omega))]
    exact hc, H.mx⟩
theorem SL.size (w : World) (p : Option Addr) (S : List ByteArray) (H : SL w p S) (i : Nat) (hi : i < S.length) : (S.getD i default).size ≤ maxLen := H.mx _ (by simp [hi])

theorem hasLF_is (s : ByteArray) (v : Bool) (w : World) (hs : s.size ≤ 2000000) (hv : (fi (sb s) 10).isSome = v) : Calls Tryd.prog 30 #[.string s] w fun e w' => e = .returned (.bool v) ∧ w' = w := by
  have hB := sb_get s
  have hl := sb_len s
  have HV : Hid ((fi (sb s) 10).isSome = v) := hv
  clear hv
  go_enter Tryd.func30, Tryd.ntmps30
  go_wp2
  go_loopg [3] (s.size + 1) (fun g v3 wr => ∃ k : Nat, v3 = .int .i64 (k : Int) ∧ k ≤ s.size ∧ s.size < g + k ∧ Hid ((fi ((sb s).drop k) 10).isSome = v) ∧ wr = w)
  case atStart => exact ⟨0, rfl, by omega, by omega, by simpa using HV, rfl⟩
  case round =>
    obtain ⟨k, rfl, hk, hg, hf, rfl⟩ := hrel
    have HF : Hid ((fi ((sb s).drop k) 10).isSome = v) := hf
    clear hf HV
    rcases Nat.lt_or_ge k s.size with hlt | hge
    · have HD : Hid ((sb s).drop k = sa s k :: (sb s).drop (k + 1)) := sb_drop s k hlt
      have hd : decide ((k : Int) < s.size) = true := by simp; omega
      have hbk := hB k hlt
      clear hB
      generalize sa s k = ck at *
      by_cases h10 : ck = 10
      · subst h10
        have hvt : v = true := by rw [← HF.out, HD.out]; simp [fi]
        subst hvt
        go_wp2
        go_ret
        exact ⟨rfl, rfl⟩
      · have e10 : (ck == 10) = false := beq_eq_false_iff_ne.2 h10
        have HF2 : Hid ((fi ((sb s).drop (k + 1)) 10).isSome = v) := by
          show _ = _
          rw [← HF.out, HD.out, fi, if_neg h10]
          simp
        clear h10
        go_wp2
        go_roundg (gk - 1)
        case rel => exact ⟨k + 1, by go_num, by omega, by omega, HF2.out, rfl⟩
        case measure => omega
    · have hd : decide ((k : Int) < s.size) = false := by simp; omega
      have hvf : v = false := by rw [← HF.out, List.drop_eq_nil_of_le (by omega)]; rfl
      subst hvf
      go_wp2
      go_ret
      exact ⟨rfl, rfl⟩
end Go.Proofs.Qxb6605687aDoor

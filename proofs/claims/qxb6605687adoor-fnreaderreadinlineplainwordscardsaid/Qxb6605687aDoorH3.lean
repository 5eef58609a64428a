/- ZZReaderArgs, zzEqBS. -/
import Derived.Test.Qxb6605687aDoorH1
import Derived.Test.Qxb6605687aDoorM1
import Derived.Deep.RegionHeld3
namespace Go.Proofs.Qxb6605687aDoor
open Go.RowKit
set_option maxHeartbeats 4000000
set_option maxRecDepth 100000
set_option linter.unusedSimpArgs false
set_option linter.unusedVariables false

theorem zzArgs_is {h D cap : Nat} {xs : List Int} {w : World} {s : St} (H : RS h D cap xs w s) : Calls Tryd.prog 34 #[.pointer (some ⟨h + 4, 0, none⟩)] w fun e w' => e = .returned s.ag ∧ w' = w := by
  have c2 : w.cell? ⟨h + 4, 2, none⟩ = some s.ag := by rw [cell_of_row _ _ _ _ _ _ H.hR]; rfl
  clear H
  generalize s.ag = ag at *
  go_enter Tryd.func34, Tryd.ntmps34
  go_wp2
  go_ret
  exact ⟨rfl, rfl⟩

theorem zzEqBS_is (ao : Option Addr) (n : Nat) (s : ByteArray) (w : World) (hs : s.size ≤ 2000000) (hn : n = s.size) (hc : ∀ j, j < s.size → ∃ g o, ao = some ⟨g, o, none⟩ ∧ w.cell? ⟨g, o + j, none⟩ = some (.int .u8 (sa s j))) :
    Calls Tryd.prog 35 #[.slice ao n n, .string s] w fun e w' => e = .returned (.bool true) ∧ ∃ d, w' = w.drewN d := by
  subst hn
  have hB := sb_get s
  have HC : Hid (∀ j, j < s.size → ∃ g o, ao = some ⟨g, o, none⟩ ∧ w.cell? ⟨g, o + j, none⟩ = some (.int .u8 (sa s j))) := hc
  clear hc
  go_enter Tryd.func35, Tryd.ntmps35
  go_wp2
  go_loopg [5] (s.size + 1) (fun g v5 wr => ∃ k : Nat, v5 = .int .i64 (k : Int) ∧ k ≤ s.size ∧ s.size < g + k ∧ Hid (∃ d, wr = w.drewN d))
  case atStart => exact ⟨0, rfl, by omega, by omega, 0, rfl⟩
  case round =>
    obtain ⟨k, rfl, hk, hg, HWD⟩ := hrel
    rcases Nat.lt_or_ge k s.size with hlt | hge
    · obtain ⟨g, o, rfl, hck0⟩ := HC.out k hlt
      have hck : wr.cell? ⟨g, o + k, none⟩ = some (.int .u8 (sa s k)) := by
        obtain ⟨d, e⟩ := HWD.out
        rw [e]
        exact hck0
      clear hck0
      have hd : decide ((k : Int) < s.size) = true := by simp; omega
      have hbk := hB k hlt
      clear hB
      generalize sa s k = ck at *
      go_wp2
      go_region_held3 (fun w' => w'.cell? ⟨g, o + k, none⟩ = some (.int .u8 ck)) (go_keep) (fail)
      all_goals
        go_wp2
        go_roundg (gk - 1)
        case rel =>
          refine ⟨k + 1, by go_num, by omega, by omega, ?_⟩
          obtain ⟨d, e⟩ := HWD.out
          exact ⟨d + 1, by rw [e]; rfl⟩
        case measure => omega
    · have hd : decide ((k : Int) < s.size) = false := by simp; omega
      go_wp2
      go_ret
      exact ⟨rfl, HWD.out⟩
end Go.Proofs.Qxb6605687aDoor

/- counter.Read; Buffered; readErr; Offset; unexpected. -/
import Derived.Test.Qxb6605687aDoorW1
namespace Go.Proofs.Qxb6605687aDoor
open Go.RowKit
set_option maxHeartbeats 4000000
set_option maxRecDepth 100000
set_option linter.unusedSimpArgs false
set_option linter.unusedVariables false
variable {h D cap : Nat} {xs : List Int} {W : World} {s : St} {B0 : Nat} {a1 a3 a4 : Addr}

theorem cread_eof (H : RS h D cap xs W s) (G : Gl B0 W a1 a3 a4) (hi : s.i = xs.length) (hN : xs.length ≤ 2000000) (hn : s.n ≤ 2000000) (o len cp : Nat) :
    Calls Tryd.prog 139 #[.pointer (some ⟨h + 1, 0, none⟩), .slice (some ⟨h + 3, o, none⟩) len cp] W fun e w' => e = .returned (.tuple #[.int .i64 0, .iface 160 (.pointer (some a3))]) ∧ RS h D cap xs w' s ∧ Fr h W w' := by
  have c0 := H.c0
  have HC : Hid (Calls Tryd.prog 137 #[.pointer (some ⟨h, 0, none⟩), .slice (some ⟨h + 3, o, none⟩) len cp] W fun e w' => e = .returned (.tuple #[.int .i64 0, .iface 160 (.pointer (some a3))]) ∧ RS h D cap xs w' s ∧ Fr h W w') := yread_eof H G hi hN o len cp
  clear H G
  go_enter Tryd.func139, Tryd.ntmps139
  go_wp2_with fail
  refine HC.out.mono ?_
  rintro e w1 ⟨rfl, H1, B1⟩
  have c1 := H1.c1
  have fC := H1.fC
  have HH : Hid (RS h D cap xs w1 s) := H1
  have HB : Hid (Fr h W w1) := B1
  clear H1 B1 HC c0
  go_wp2
  go_ret2
  refine ⟨rfl, ?_, ?_⟩
  · have := HH.out.setC1 s.n
    exact this
  · exact HB.out.setCell (by show h ≤ h + 1 ∧ h + 1 < h + 5; omega) _

theorem cread_some (H : RS h D cap xs W s) (hd : Dat W D xs) (hDh : D < h) (hi : s.i < xs.length) (hn : s.n ≤ 2000000) (hN : xs.length ≤ 2000000) (hc : xs.length ≤ cap) (hcap : cap ≤ maxLen) (o len cp m : Nat) (hlen : 0 < len) (ho : o + len = 16384) (hm : Nat.min (xs.length - s.i) len = m) :
    Calls Tryd.prog 139 #[.pointer (some ⟨h + 1, 0, none⟩), .slice (some ⟨h + 3, o, none⟩) len cp] W fun e w' => e = .returned (.tuple #[.int .i64 m, .nilIface]) ∧
      RS h D cap xs w' { s with i := s.i + m, n := s.n + m, pr := -1, ub := lay s.ub o ((xs.drop s.i).take m) } ∧ Fr h W w' := by
  have c0 := H.c0
  have HC : Hid (Calls Tryd.prog 137 #[.pointer (some ⟨h, 0, none⟩), .slice (some ⟨h + 3, o, none⟩) len cp] W fun e w' => e = .returned (.tuple #[.int .i64 m, .nilIface]) ∧ RS h D cap xs w' { s with i := s.i + m, pr := -1, ub := lay s.ub o ((xs.drop s.i).take m) } ∧ Fr h W w') := yread_some H hd hDh hi hN hc hcap o len cp m hlen ho hm
  clear H hd
  have hml : m ≤ len := by rw [← hm]; exact Nat.min_le_right _ _
  go_enter Tryd.func139, Tryd.ntmps139
  go_wp2_with fail
  refine HC.out.mono ?_
  rintro e w1 ⟨rfl, H1, B1⟩
  have c1 := H1.c1
  have fC := H1.fC
  have HH : Hid (RS h D cap xs w1 { s with i := s.i + m, pr := -1, ub := lay s.ub o ((xs.drop s.i).take m) }) := H1
  have HB : Hid (Fr h W w1) := B1
  clear H1 B1 HC c0
  go_wp2
  go_ret2
  refine ⟨rfl, ?_, ?_⟩
  · have := HH.out.setC1 (s.n + m)
    exact this
  · exact HB.out.setCell (by show h ≤ h + 1 ∧ h + 1 < h + 5; omega) _

theorem buffered_any (H : RS h D cap xs W s) (hw : s.w ≤ 16384) (hr : s.r ≤ s.w) :
    Calls Tryd.prog 46 #[.pointer (some ⟨h + 2, 0, none⟩)] W fun e w' => e = .returned (.int .i64 ((s.w - s.r : Nat) : Int)) ∧ ∃ k, w' = W.drewN k := by
  have b2 := H.b2
  have b3 := H.b3
  clear H
  have e : ((s.w - s.r : Nat) : Int) = (s.w : Int) - s.r := by omega
  rw [e]
  clear e
  go_enter Tryd.func46, Tryd.ntmps46
  go_wp2
  go_quiet (fail)
  go_wp2
  go_ret
  exact ⟨rfl, _, rfl⟩

theorem readErr_any (H : RS h D cap xs W s) : Calls Tryd.prog 90 #[.pointer (some ⟨h + 2, 0, none⟩)] W fun e w' => e = .returned s.er ∧ w' = W.setCell ⟨h + 2, 4, none⟩ .nilIface := by
  have b4 := H.b4
  have fB := H.fB
  clear H
  go_enter Tryd.func90, Tryd.ntmps90
  go_wp2
  go_ret
  exact ⟨rfl, rfl⟩

theorem unexpected_eof (G : Gl B0 W a1 a3 a4) : Calls Tryd.prog 64 #[.iface 160 (.pointer (some a3))] W fun e w' => e = .returned (.iface 160 (.pointer (some a4))) ∧ w' = W := by
  have g3 := G.g3
  have g4 := G.g4
  have hq := eql_same W a3
  clear G
  go_enter Tryd.func64, Tryd.ntmps64
  go_wp2
  go_ret
  exact ⟨rfl, rfl⟩

theorem offset_any (H : RS h D cap xs W s) (hw : s.w ≤ 16384) (hr : s.r ≤ s.w) (hn : s.n ≤ 2000000) (hwn : s.w - s.r ≤ s.n) :
    Calls Tryd.prog 27 #[.pointer (some ⟨h + 4, 0, none⟩)] W fun e w' => e = .returned (.int .i64 ((s.n - (s.w - s.r) : Nat) : Int)) ∧ ∃ k, w' = W.drewN k := by
  have r0 := H.r0
  have r1 := H.r1
  have c1 := H.c1
  have HC : Hid (∀ k, Calls Tryd.prog 46 #[.pointer (some ⟨h + 2, 0, none⟩)] (W.drewN k) fun e w' => e = .returned (.int .i64 ((s.w - s.r : Nat) : Int)) ∧ ∃ j, w' = (W.drewN k).drewN j) := fun k => buffered_any (H.drewN k) hw hr
  clear H
  have e : ((s.n - (s.w - s.r) : Nat) : Int) = (s.n : Int) - ((s.w - s.r : Nat) : Int) := by omega
  rw [e]
  clear e
  generalize s.w - s.r = m at *
  go_enter Tryd.func27, Tryd.ntmps27
  go_wp2
  go_quiet ((go_at_call 46; exact Calls.quiet_of (HC.out _)))
  go_wp2
  go_ret
  exact ⟨rfl, _, rfl⟩
end Go.Proofs.Qxb6605687aDoor

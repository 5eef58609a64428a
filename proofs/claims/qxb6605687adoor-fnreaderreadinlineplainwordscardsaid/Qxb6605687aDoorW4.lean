/- bufio.Reader.fill. -/
import Derived.Test.Qxb6605687aDoorW3
namespace Go.Proofs.Qxb6605687aDoor
open Go.RowKit
set_option maxHeartbeats 4000000
set_option maxRecDepth 100000
set_option linter.unusedSimpArgs false
set_option linter.unusedVariables false

/-- The reader stands at byte c of its data. -/
structure RI (h D cap : Nat) (xs : List Int) (W : World) (s : St) (c : Nat) : Prop where
  rs : RS h D cap xs W s
  n : s.n = s.i
  iN : s.i ≤ xs.length
  rw : s.r ≤ s.w
  ww : s.w ≤ 16384
  cc : c + (s.w - s.r) = s.i
  win : (s.ub.take s.w).drop s.r = (xs.drop c).take (s.w - s.r)

/-- What 'args', 'arena' and 'long' hold is as it was. -/
def Kp (s s' : St) : Prop := s'.ag = s.ag ∧ s'.ar = s.ar ∧ s'.lg = s.lg

variable {h D cap : Nat} {xs : List Int} {W : World} {s : St} {B0 : Nat} {a1 a3 a4 : Addr} {c : Nat}

theorem take_lay (ub l : List Int) (o : Nat) (ho : o ≤ ub.length) : (lay ub o l).take (o + l.length) = ub.take o ++ l := by
  unfold lay
  rw [List.take_append_of_le_length (by simp; omega)]
  exact List.take_of_length_le (by simp; omega)

theorem drop_take_add (l : List Int) (c a b : Nat) : (l.drop c).take (a + b) = (l.drop c).take a ++ (l.drop (c + a)).take b := by
  rw [List.take_add, List.drop_drop]

/-- The first half of 'fill': what is buffered is moved to the buffer's head. -/
theorem RI.slid (H : RI h D cap xs W s c) {W' : World} (ub' : List Int) (hu : ub'.take (s.w - s.r) = (s.ub.take s.w).drop s.r)
    (hr : RS h D cap xs W' { s with r := 0, w := s.w - s.r, ub := ub' }) : RI h D cap xs W' { s with r := 0, w := s.w - s.r, ub := ub' } c :=
  ⟨hr, H.n, H.iN, Nat.zero_le _, by have := H.ww; show s.w - s.r ≤ 16384; omega, H.cc, by
    show (ub'.take (s.w - s.r)).drop 0 = (xs.drop c).take (s.w - s.r - 0)
    rw [hu, List.drop_zero, H.win, Nat.sub_zero]⟩

theorem meth_read (p : Value) (W : World) : (method 279 76 p "Read").run Tryd.prog W = .ok (139, p) W := by kernel_rfl

/-- What 'fill' leaves. -/
def Filled (h D cap : Nat) (xs : List Int) (c : Nat) (a3 : Addr) (s : St) (W w' : World) : Prop :=
  ∃ s', RI h D cap xs w' s' c ∧ Kp s s' ∧ s'.r = 0 ∧ Fr h W w' ∧
    ((s.i < xs.length ∧ s.w - s.r < s'.w ∧ s'.er = s.er) ∨ (s.i = xs.length ∧ s'.i = xs.length ∧ s'.w = s.w - s.r ∧ s'.er = .iface 160 (.pointer (some a3))))

theorem slid_u (ub : List Int) (r w : Nat) (hr : r ≤ w) (hw : w ≤ ub.length) : (lay ub 0 ((ub.take w).drop r)).take (w - r) = (ub.take w).drop r := by
  have hl : ((ub.take w).drop r).length = w - r := by simp; omega
  have := take_lay ub ((ub.take w).drop r) 0 (by omega)
  rw [hl, Nat.zero_add] at this
  simpa using this

theorem fill_any (H : RI h D cap xs W s c) (G : Gl B0 W a1 a3 a4) (hB0 : B0 ≤ h) (hd : Dat W D xs) (hDh : D < h) (hN : xs.length ≤ 2000000) (hc : xs.length ≤ cap) (hcap : cap ≤ maxLen) (hfull : s.w - s.r < 16384) :
    Calls Tryd.prog 91 #[.pointer (some ⟨h + 2, 0, none⟩)] W fun e w' => e = .returned (.tuple #[]) ∧ Filled h D cap xs c a3 s W w' := by
  have HI : Hid (RI h D cap xs W s c) := H
  have HG : Hid (Gl B0 W a1 a3 a4) := G
  have HD : Hid (Dat W D xs) := hd
  clear hd G
  go_enter Tryd.func91, Tryd.ntmps91
  go_step
  go_step
  go_cut [] (fun wc => Hid (∃ s1, RI h D cap xs wc s1 c ∧ s1.r = 0 ∧ s1.w = s.w - s.r ∧ s1.i = s.i ∧ s1.er = s.er ∧ Kp s s1 ∧ Fr h W wc))
  case first =>
    obtain ⟨HRS, hn, hiN, hrw, hww, hcc, hwin⟩ := H
    have b2 := HRS.b2
    rcases Nat.eq_zero_or_pos s.r with h0 | hp
    · rw [h0] at b2
      clear HRS
      go_wp2
      go_meet
      case rel => exact ⟨s, HI.out, h0, by rw [h0]; rfl, rfl, rfl, ⟨rfl, rfl, rfl⟩, Fr.refl h W⟩
    · have b0 := HRS.b0
      have b3 := HRS.b3
      have fB := HRS.fB
      obtain ⟨sa, hsl, HSA⟩ : ∃ sa : Addr, (∀ W, (Instr.sliceAt 24 (.slice (some ⟨h + 3, 0, none⟩) 16384 16384) (some (.int .i64 s.r)) (some (.int .i64 s.w)) none).run Tryd.prog W = .ok (.slice (some sa) (s.w - s.r) (16384 - s.r)) W) ∧ Hid (∀ j, j < s.w - s.r → sa.add j = ⟨h + 3, s.r + j, none⟩) := by
        by_cases he : s.r = 16384
        · refine ⟨⟨h + 3, 0, none⟩, fun W => ?_, fun j hj => by omega⟩
          rw [run_sliceAt_slice _ _ _ _ _ _ und24, run_slice_lh _ _ _ _ _ und24 _ _ _ _ (by omega) (by omega) (by omega), size24]
          simp [sliced, he]
        · refine ⟨⟨h + 3, s.r, none⟩, fun W => ?_, fun j hj => add_mk _ _ _⟩
          have := slice24_lh (h + 3) 0 16384 16384 s.r s.w hrw hww (by omega) W
          rw [Nat.zero_add] at this
          exact this
      have hl : ((s.ub.take s.w).drop s.r).length = s.w - s.r := by have := HRS.us; simp; omega
      have hus := HRS.us
      have HX : Hid (RS h D cap xs (W.drew.setRow (h + 3) (u8s (lay s.ub 0 ((s.ub.take s.w).drop s.r))).toArray) { s with ub := lay s.ub 0 ((s.ub.take s.w).drop s.r) }) := HRS.drew.setU _ (by rw [lay_len _ _ _ (by omega)]; exact hus)
      have z0 := HX.out.b0
      have z2 := HX.out.b2
      have z3 := HX.out.b3
      have zf := HX.out.fB
      have zz : (W.drew.setRow (h + 3) (u8s (lay s.ub 0 ((s.ub.take s.w).drop s.r))).toArray).cell? ⟨h + 2, 0, none⟩ = some (.slice (some ⟨h + 3, 0, none⟩) 16384 16384) ∧ (W.drew.setRow (h + 3) (u8s (lay s.ub 0 ((s.ub.take s.w).drop s.r))).toArray).cell? ⟨h + 2, 2, none⟩ = some (.int .i64 s.r) ∧ (W.drew.setRow (h + 3) (u8s (lay s.ub 0 ((s.ub.take s.w).drop s.r))).toArray).cell? ⟨h + 2, 3, none⟩ = some (.int .i64 s.w) := ⟨z0, z2, z3⟩
      have HS : Hid (∀ j v, (u8s ((s.ub.take s.w).drop s.r))[j]? = some v → W.drew.cell? (sa.add j) = some v) := fun j v hj => by
        obtain ⟨hj1, rfl⟩ := List.getElem?_eq_some_iff.1 hj
        rw [u8s_len, hl] at hj1
        rw [HSA.out j hj1]
        have h2 := HRS.u (s.r + j) (by omega)
        have h3 : s.ub.getD (s.r + j) 0 = s.ub[s.r + j]'(by omega) := by simp [show s.r + j < s.ub.length by omega]
        rw [h3] at h2
        simpa [u8s] using h2
      have HU : Hid (W.drew.heap[h + 3]? = some (.cells (u8s s.ub).toArray 5 (0, 0))) := HRS.hU
      have HL : Hid ((u8s ((s.ub.take s.w).drop s.r)).length = s.w - s.r) := (u8s_len _).trans hl
      have HF : Hid (0 + (u8s ((s.ub.take s.w).drop s.r)).length ≤ (u8s s.ub).toArray.size) := by show _ ≤ _; rw [u8s_len, hl]; simp [u8s]; omega
      have HMN : Hid (Nat.min (s.w - s.r) 16384 = s.w - s.r) := Nat.min_eq_left (by omega)
      clear HRS hwin hl hus
      have hgt : decide ((0 : Int) < s.r) = true := by simp; omega
      go_wp2
      go_region_held3 (fun w' => w'.cell? ⟨h + 2, 0, none⟩ = some (.slice (some ⟨h + 3, 0, none⟩) 16384 16384) ∧ w'.cell? ⟨h + 2, 2, none⟩ = some (.int .i64 s.r) ∧ w'.cell? ⟨h + 2, 3, none⟩ = some (.int .i64 s.w)) (first | exact zz | go_keep) ((refine step_copy_at (by rfl) _ _ 24 24 (by rfl) 5 Tryd.underlying24 (by kernel_rfl) (h + 3) 0 16384 16384 sa (s.w - s.r) (16384 - s.r) (by rfl) (by rfl) _ 5 HU.out (u8s ((s.ub.take s.w).drop s.r)) (s.w - s.r) HMN.out HL.out HS.out HF.out (u8s_one _) _ (lay_u8s _ _ _) ?_))
      have HBV : Hid (Fr h W (W.drew.setRow (h + 3) (u8s (lay s.ub 0 ((s.ub.take s.w).drop s.r))).toArray)) := fr_setRow (Fr.refl h W).drew _ _ (by omega)
      clear zz
      generalize (W.drew.setRow (h + 3) (u8s (lay s.ub 0 ((s.ub.take s.w).drop s.r))).toArray) = V at *
      clear b0 b2 b3 fB HU HS HF HL HMN
      have hsub : IntKind.i64.wrap ((s.w : Int) - s.r) = ((s.w - s.r : Nat) : Int) := wrap_nat _ _ (by omega) (by omega)
      go_wp2
      go_region
      all_goals
        go_wp2
        go_meet
        case rel => exact ⟨{ s with r := 0, w := s.w - s.r, ub := lay s.ub 0 ((s.ub.take s.w).drop s.r) }, HI.out.slid _ (slid_u _ _ _ hrw (by rw [HI.out.rs.us]; exact hww)) ((HX.out.setB3 (s.w - s.r)).setB2 0).drew, rfl, rfl, rfl, rfl, ⟨rfl, rfl, rfl⟩, ((HBV.out.setCell (by show h ≤ h + 2 ∧ h + 2 < h + 5; omega) _).setCell (by show h ≤ h + 2 ∧ h + 2 < h + 5; omega) _).drew⟩
  case rest =>
    clear H
    obtain ⟨s1, H1, hr1, hw1, hi1, he1, hk1, hb1⟩ := hcut
    have HK : Hid (Kp s s1) := hk1
    have HB1 : Hid (Fr h W wc) := hb1
    have HI1 : Hid (RI h D cap xs wc s1 c) := H1
    have HEQ : Hid (s1.w = s.w - s.r ∧ s1.i = s.i ∧ s1.er = s.er) := ⟨hw1, hi1, he1⟩
    obtain ⟨HRS, hn, hiN, hrw, hww, hcc, hwin⟩ := H1
    rw [hr1, Nat.sub_zero] at hcc
    rw [hr1, Nat.sub_zero, List.drop_zero] at hwin
    have HW : Hid (s1.ub.take s1.w = (xs.drop c).take s1.w) := hwin
    have hf1 : s1.w < 16384 := by omega
    have b0 := HRS.b0
    have b1 := HRS.b1
    have b3 := HRS.b3
    have HR : Hid (RS h D cap xs wc s1) := HRS
    have hsl := slice24_l (h + 3) 0 16384 16384 s1.w (by omega) (by omega)
    rw [Nat.zero_add] at hsl
    have HD1 : Hid (Dat wc D xs) := HD.out.fr hb1 hDh
    have HG1 : Hid (Gl B0 wc a1 a3 a4) := HG.out.fr hb1 hB0
    clear HRS HI HG HD hb1 hk1 hw1 hi1 he1 hwin hfull
    have hmeth := meth_read
    rcases Nat.lt_or_ge s1.i xs.length with hlt | hge
    · obtain ⟨m, hm⟩ : ∃ m, Nat.min (xs.length - s1.i) (16384 - s1.w) = m := ⟨_, rfl⟩
      have hm0 : 0 < m := by rw [← hm]; simp only [Nat.min_def]; split <;> omega
      have hml : m ≤ 16384 - s1.w := by rw [← hm]; exact Nat.min_le_right _ _
      have hmN : m ≤ xs.length - s1.i := by rw [← hm]; exact Nat.min_le_left _ _
      have HM : Hid (Nat.min (xs.length - s1.i) (16384 - s1.w) = m) := hm
      clear hm
      go_wp2
      go_quiet (fail)
      go_wp2
      go_loopg [2] 1 (fun g v2 wr => v2 = .int .i64 100 ∧ wr = wc.drewN nq)
      case atStart => exact ⟨rfl, rfl⟩
      case round =>
        obtain ⟨rfl, rfl⟩ := hrel
        have HC : Hid (Calls Tryd.prog 139 #[.pointer (some ⟨h + 1, 0, none⟩), .slice (some ⟨h + 3, s1.w, none⟩) (16384 - s1.w) (16384 - s1.w)] (wc.drewN (nq + 1)) fun e w' => e = .returned (.tuple #[.int .i64 m, .nilIface]) ∧
            RS h D cap xs w' { s1 with i := s1.i + m, n := s1.n + m, pr := -1, ub := lay s1.ub s1.w ((xs.drop s1.i).take m) } ∧ Fr h (wc.drewN (nq + 1)) w') :=
          cread_some (HR.out.drewN (nq + 1)) (HD1.out.fr (fr_drewN (Fr.refl h wc) (nq + 1)) hDh) hDh hlt (by omega) hN hc hcap s1.w _ _ m (by omega) (by omega) HM.out
        go_wp2
        go_region_held3 (fun w' => w'.cell? ⟨h + 2, 0, none⟩ = some (.slice (some ⟨h + 3, 0, none⟩) 16384 16384) ∧ w'.cell? ⟨h + 2, 1, none⟩ = some (.iface 76 (.pointer (some ⟨h + 1, 0, none⟩))) ∧ w'.cell? ⟨h + 2, 3, none⟩ = some (.int .i64 s1.w)) (first | go_keep | exact ⟨q0, q1, q3⟩) ((go_at_call 139; refine HC.out.mono ?_; rintro e w1 ⟨rfl, H1, B1⟩; have q0 := H1.b0; have q1 := H1.b1; have q3 := H1.b3))
        have HX : Hid (RS h D cap xs w1 { s1 with i := s1.i + m, n := s1.n + m, pr := -1, ub := lay s1.ub s1.w ((xs.drop s1.i).take m) }) := H1
        have HBX : Hid (Fr h W w1) := (fr_drewN HB1.out (nq + 1)).trans B1
        have fB := H1.fB
        clear H1 B1 HC hmeth q0 q1 b0 b1 b3
        have hneg : decide ((m : Int) < 0) = false := by simp
        have hpos : decide ((0 : Int) < m) = true := by simp; omega
        go_wp2
        (try simp only [Exit.inBlock, Exit.then])
        refine bodyPost_ret (results_none rfl _ _ _) rfl ?_
        have hlm : ((xs.drop s1.i).take m).length = m := by rw [List.length_take, List.length_drop]; omega
        refine ⟨rfl, _, ⟨HX.out.setB3 (s1.w + m), by show s1.n + m = s1.i + m; omega, by show s1.i + m ≤ _; omega, by show s1.r ≤ s1.w + m; omega, by show s1.w + m ≤ 16384; omega, by show c + (s1.w + m - s1.r) = s1.i + m; omega, ?_⟩, HK.out, hr1, HBX.out.setCell (by show h ≤ h + 2 ∧ h + 2 < h + 5; omega) _, .inl ⟨by have := HEQ.out.2.1; omega, by show s.w - s.r < s1.w + m; have := HEQ.out.1; omega, HEQ.out.2.2⟩⟩
        show ((lay s1.ub s1.w ((xs.drop s1.i).take m)).take (s1.w + m)).drop s1.r = (xs.drop c).take (s1.w + m - s1.r)
        have h1 := take_lay s1.ub ((xs.drop s1.i).take m) s1.w (by rw [HR.out.us]; omega)
        rw [hlm] at h1
        rw [hr1, Nat.sub_zero, List.drop_zero, h1, drop_take_add, HW.out, hcc]
    · go_wp2
      go_quiet (fail)
      go_wp2
      go_loopg [2] 1 (fun g v2 wr => v2 = .int .i64 100 ∧ wr = wc.drewN nq)
      case atStart => exact ⟨rfl, rfl⟩
      case round =>
        obtain ⟨rfl, rfl⟩ := hrel
        have hiE : s1.i = xs.length := by omega
        have HC : Hid (Calls Tryd.prog 139 #[.pointer (some ⟨h + 1, 0, none⟩), .slice (some ⟨h + 3, s1.w, none⟩) (16384 - s1.w) (16384 - s1.w)] (wc.drewN (nq + 1)) fun e w' => e = .returned (.tuple #[.int .i64 0, .iface 160 (.pointer (some a3))]) ∧ RS h D cap xs w' s1 ∧ Fr h (wc.drewN (nq + 1)) w') :=
          cread_eof (HR.out.drewN (nq + 1)) (HG1.out.fr (fr_drewN (Fr.refl h wc) (nq + 1)) hB0) hiE hN (by omega) s1.w _ _
        go_wp2
        go_region_held3 (fun w' => w'.cell? ⟨h + 2, 0, none⟩ = some (.slice (some ⟨h + 3, 0, none⟩) 16384 16384) ∧ w'.cell? ⟨h + 2, 1, none⟩ = some (.iface 76 (.pointer (some ⟨h + 1, 0, none⟩))) ∧ w'.cell? ⟨h + 2, 3, none⟩ = some (.int .i64 s1.w)) (first | go_keep | exact ⟨q0, q1, q3⟩) ((go_at_call 139; refine HC.out.mono ?_; rintro e w1 ⟨rfl, H1, B1⟩; have q0 := H1.b0; have q1 := H1.b1; have q3 := H1.b3))
        have HX : Hid (RS h D cap xs w1 s1) := H1
        have HBX : Hid (Fr h W w1) := (fr_drewN HB1.out (nq + 1)).trans B1
        have fB := H1.fB
        have q4 := H1.b4
        clear H1 B1 HC hmeth q0 q1 b0 b1 b3
        go_wp2
        (try simp only [Exit.inBlock, Exit.then])
        refine bodyPost_ret (results_none rfl _ _ _) rfl ?_
        refine ⟨rfl, _, ⟨(HX.out.setB3 s1.w).setB4 (.iface 160 (.pointer (some a3))), hn, hiN, hrw, hww, by show c + (s1.w - s1.r) = s1.i; omega, ?_⟩, HK.out, hr1, (HBX.out.setCell (by show h ≤ h + 2 ∧ h + 2 < h + 5; omega) _).setCell (by show h ≤ h + 2 ∧ h + 2 < h + 5; omega) _, .inr ⟨by have := HEQ.out.2.1; omega, hiE, HEQ.out.1, rfl⟩⟩
        show (s1.ub.take s1.w).drop s1.r = (xs.drop c).take (s1.w - s1.r)
        rw [hr1, Nat.sub_zero, List.drop_zero]
        exact HW.out
end Go.Proofs.Qxb6605687aDoor

/- bufio.Reader.ReadSlice. -/
import Derived.Test.Qxb6605687aDoorW4
namespace Go.Proofs.Qxb6605687aDoor
open Go.RowKit
set_option maxHeartbeats 4000000
set_option maxRecDepth 100000
set_option linter.unusedSimpArgs false
set_option linter.unusedVariables false

theorem fi_append : ∀ (a b : List Int) (c : Int), fi (a ++ b) c = (match fi a c with | some k => some k | none => (fi b c).map (· + a.length))
  | [], b, c => by simp [fi]
  | x :: a, b, c => by
    rw [List.cons_append, fi, fi, fi_append a b c]
    by_cases h : x = c
    · simp [h]
    · simp only [h, if_false]
      cases fi a c with
      | some k => rfl
      | none =>
        cases fi b c with
        | none => rfl
        | some k => simp; omega
theorem fi_lt : ∀ {a : List Int} {c : Int} {k : Nat}, fi a c = some k → k < a.length
  | [], c, k, h => by cases h
  | x :: a, c, k, h => by
    rw [fi] at h
    by_cases hx : x = c
    · simp [hx] at h; subst h; simp
    · simp only [hx, if_false] at h
      cases hf : fi a c with
      | none => rw [hf] at h; cases h
      | some j =>
        rw [hf] at h
        simp at h
        have := fi_lt hf
        simp
        omega

/-- How many bytes 'ReadSlice' hands over, and with which error (0: none, 1: the buffer is full, 2: the end). -/
def cut (l : List Int) : Nat × Nat :=
  match fi (l.take 16384) 10 with
  | some k => (k + 1, 0)
  | none => if 16384 ≤ l.length then (16384, 1) else (l.length, 2)
def errV (a1 a3 : Addr) : Nat → Value
  | 0 => .nilIface
  | 1 => .iface 160 (.pointer (some a1))
  | _ => .iface 160 (.pointer (some a3))

theorem fi_take {l : List Int} {n k : Nat} (hn : n ≤ 16384) (h : fi (l.take n) 10 = some k) : fi (l.take 16384) 10 = some k := by
  have e : l.take 16384 = l.take n ++ (l.drop n).take (16384 - n) := by
    have := drop_take_add l 0 n (16384 - n)
    rw [show n + (16384 - n) = 16384 by omega] at this
    simpa using this
  rw [e, fi_append, h]
theorem cut_some {l : List Int} {n k : Nat} (hn : n ≤ 16384) (h : fi (l.take n) 10 = some k) : cut l = (k + 1, 0) := by
  rw [cut, fi_take hn h]
theorem cut_full {l : List Int} (h : fi (l.take 16384) 10 = none) (hl : 16384 ≤ l.length) : cut l = (16384, 1) := by
  rw [cut, h]; simp [hl]
theorem cut_end {l : List Int} (h : fi (l.take l.length) 10 = none) (hl : l.length < 16384) : cut l = (l.length, 2) := by
  have e : l.take 16384 = l.take l.length := by rw [List.take_of_length_le (by omega), List.take_of_length_le (by omega)]
  rw [cut, e, h]; simp [hl]

theorem quiet_at {P : Program} {f : FuncId} {args : Array Value} {w : World} {k n : Nat} {v : Value}
    (h : Calls P f args (w.drewN (k + n)) fun e w' => e = .returned v ∧ ∃ m, w' = (w.drewN (k + n)).drewN m) : Calls P f args (w.drewN (k + n)) fun e w'' => e = .returned v ∧ ∃ m, w'' = w.drewN (k + m) :=
  h.mono fun _ _ ⟨he, m, hm⟩ => ⟨he, n + m, by rw [hm, World.drewN_drewN, Nat.add_assoc]⟩

variable {h D cap : Nat} {xs : List Int} {W : World} {s : St} {B0 : Nat} {a1 a3 a4 : Addr} {c : Nat}

theorem RI.get (H : RI h D cap xs W s c) (j : Nat) (hj : j < s.w - s.r) : s.ub.getD (s.r + j) 0 = (xs.drop c).getD j 0 := by
  have hw := congrArg (fun l => l.getD j 0) H.win
  have h1 := H.ww
  have h2 := H.cc
  have h3 := H.iN
  have h4 := H.rs.us
  simp only [List.getD_eq_getElem?_getD, List.getElem?_drop, List.getElem?_take] at hw ⊢
  rw [if_pos (by omega), if_pos hj] at hw
  exact hw

theorem RS.setB2' (H : RS h D cap xs W s) (v : Nat) (x : Int) (hx : x = v) : RS h D cap xs (W.setCell ⟨h + 2, 2, none⟩ (.int .i64 x)) { s with r := v } := by
  subst hx
  exact H.setB2 v
theorem RI.adv (H : RI h D cap xs W s c) (m : Nat) (hm : m ≤ s.w - s.r) {W' : World} {s' : St} (hr : s'.r = s.r + m) (hw : s'.w = s.w) (hi : s'.i = s.i) (hn : s'.n = s.n) (hu : s'.ub = s.ub) (h' : RS h D cap xs W' s') : RI h D cap xs W' s' (c + m) := by
  have h1 := H.rw
  have h2 := H.ww
  have h3 := H.cc
  refine ⟨h', by rw [hn, hi]; exact H.n, by rw [hi]; exact H.iN, by omega, by omega, by omega, ?_⟩
  rw [hu, hw, hr, ← List.drop_drop, H.win, List.drop_take, List.drop_drop]
  congr 1
  omega

theorem slice24_any (g n c l m : Nat) (h1 : l ≤ m) (h2 : m ≤ c) : ∃ o', (∀ W, (Instr.sliceAt 24 (.slice (some ⟨g, 0, none⟩) n c) (some (.int .i64 l)) (some (.int .i64 m)) none).run Tryd.prog W = .ok (.slice (some ⟨g, o', none⟩) (m - l) (c - l)) W) ∧ (l < m → o' = l) := by
  by_cases he : c = l
  · refine ⟨0, fun W => ?_, fun h => by omega⟩
    rw [run_sliceAt_slice _ _ _ _ _ _ und24, run_slice_lh _ _ _ _ _ und24 _ _ _ _ (by omega) (by omega) (by omega), size24]
    simp [sliced, he]
  · refine ⟨l, fun W => ?_, fun h => rfl⟩
    have := slice24_lh g 0 n c l m h1 h2 he W
    rw [Nat.zero_add] at this
    exact this

/-- What 'ReadSlice' leaves behind its loop. -/
def Sliced (h D cap : Nat) (xs : List Int) (c : Nat) (a1 a3 : Addr) (s : St) (W : World) (v4 v5 : Value) (w' : World) : Prop :=
  ∃ o cp s', v4 = .slice (some ⟨h + 3, o, none⟩) (cut (xs.drop c)).1 cp ∧ v5 = errV a1 a3 (cut (xs.drop c)).2 ∧ RI h D cap xs w' s' (c + (cut (xs.drop c)).1) ∧ s'.er = .nilIface ∧ Kp s s' ∧ Fr h W w' ∧
    o + (cut (xs.drop c)).1 ≤ 16384 ∧ (cut (xs.drop c)).1 ≤ cp ∧ (∀ j, j < (cut (xs.drop c)).1 → s'.ub.getD (o + j) 0 = (xs.drop c).getD j 0)

/-- What the loop keeps. -/
def Seek (h D cap : Nat) (xs : List Int) (c : Nat) (a3 : Addr) (s : St) (W : World) (g : Nat) (v5 v6 : Value) (wr : World) : Prop :=
  ∃ s1 k, v5 = .nilIface ∧ RI h D cap xs wr s1 c ∧ Kp s s1 ∧ Fr h W wr ∧ v6 = .int .i64 ((k : Nat) : Int) ∧ k ≤ s1.w - s1.r ∧ fi ((xs.drop c).take k) 10 = none ∧
    ((s1.er = .nilIface ∧ 2 * (16384 - (s1.w - s1.r)) + 1 ≤ g) ∨ (s1.er = .iface 160 (.pointer (some a3)) ∧ s1.i = xs.length ∧ s1.r = 0 ∧ s1.w < 16384 ∧ k = s1.w - s1.r ∧ 2 * (16384 - (s1.w - s1.r)) ≤ g))

theorem readSlice_any (H : RI h D cap xs W s c) (he : s.er = .nilIface) (hby : By xs) (G : Gl B0 W a1 a3 a4) (hB0 : B0 ≤ h) (hd : Dat W D xs) (hDh : D < h) (hN : xs.length ≤ 2000000) (hc : xs.length ≤ cap) (hcap : cap ≤ maxLen) :
    Calls Tryd.prog 63 #[.pointer (some ⟨h + 2, 0, none⟩), .int .u8 10] W fun e w' => ∃ v4 v5, e = .returned (.tuple #[v4, v5]) ∧ Sliced h D cap xs c a1 a3 s W v4 v5 w' := by
  have HG : Hid (Gl B0 W a1 a3 a4) := G
  have HD : Hid (Dat W D xs) := hd
  have HBY : Hid (By xs) := hby
  have HS : Hid (Seek h D cap xs c a3 s W 40000 .nilIface (.int .i64 0) W) := ⟨s, 0, rfl, H, ⟨rfl, rfl, rfl⟩, Fr.refl h W, rfl, Nat.zero_le _, by simp [fi], .inl ⟨he, by omega⟩⟩
  clear H he hd G hby
  go_enter Tryd.func63, Tryd.ntmps63
  go_upto_region 1 with fail
  go_step
  go_step
  go_step
  go_step
  go_step
  go_step
  go_step
  go_step
  go_cut [4, 5] (fun v4 v5 wc => Hid (Sliced h D cap xs c a1 a3 s W v4 v5 wc))
  case first =>
    go_step
    go_loopg [5, 6] 40000 (fun g v5 v6 wr => Hid (Seek h D cap xs c a3 s W g v5 v6 wr))
    case atStart => exact HS
    case round =>
      clear HS
      obtain ⟨s1, k, rfl, H1, hk1, hb1, rfl, hk, hfk, hst⟩ := hrel
      have HI : Hid (RI h D cap xs wr s1 c) := H1
      have HK : Hid (Kp s s1) := hk1
      have HB : Hid (Fr h W wr) := hb1
      have HF : Hid (fi ((xs.drop c).take k) 10 = none) := hfk
      have HST : Hid ((s1.er = .nilIface ∧ 2 * (16384 - (s1.w - s1.r)) + 1 ≤ gk) ∨ (s1.er = .iface 160 (.pointer (some a3)) ∧ s1.i = xs.length ∧ s1.r = 0 ∧ s1.w < 16384 ∧ k = s1.w - s1.r ∧ 2 * (16384 - (s1.w - s1.r)) ≤ gk)) := hst
      obtain ⟨HRS, hn, hiN, hrw, hww, hcc, hwin⟩ := H1
      have b0 := HRS.b0
      have b2 := HRS.b2
      have b3 := HRS.b3
      have HR : Hid (RS h D cap xs wr s1) := HRS
      clear HRS hwin hk1 hb1 hfk hst
      obtain ⟨L, hL⟩ : ∃ L, L = ((xs.drop c).take (s1.w - s1.r)).drop k := ⟨_, rfl⟩
      have hLl : L.length = s1.w - s1.r - k := by rw [hL, List.length_drop, List.length_take, List.length_drop]; omega
      obtain ⟨o', hsl, HO⟩ := slice24_any (h + 3) 16384 16384 (s1.r + k) s1.w (by omega) hww
      simp only [Int.natCast_add] at hsl
      have HC : Hid (∀ n v, (match fi L 10 with | some k => (k : Int) | none => -1) = v → Calls Tryd.prog 67 #[.slice (some ⟨h + 3, o', none⟩) (s1.w - (s1.r + k)) (16384 - (s1.r + k)), .int .u8 10] (wr.drewN n) fun e w' => e = .returned (.int .i64 v) ∧ w' = wr.drewN n) := fun n v hv => by
        refine indexByte_is (h + 3) o' _ _ L 10 v _ (by omega) (by rw [hL]; exact ((HBY.out.drop c).take _).drop k) (by omega) (fun i hi => ?_) hv
        rw [HO (by omega)]
        have h2 := (HR.out.drewN n).u (s1.r + k + i) (by omega)
        rw [show s1.r + k + i = s1.r + (k + i) by omega, HI.out.get (k + i) (by omega)] at h2
        rw [show s1.r + k + i = s1.r + (k + i) by omega]
        have h3 : L.getD i 0 = (xs.drop c).getD (k + i) 0 := by
          rw [hL]
          simp only [List.getD_eq_getElem?_getD, List.getElem?_drop, List.getElem?_take]
          rw [if_pos (by omega)]
        rw [h3]
        exact h2
      have HSP : Hid ((xs.drop c).take (s1.w - s1.r) = (xs.drop c).take k ++ L) := by
        show _ = _
        rw [hL]
        have := List.take_append_drop k ((xs.drop c).take (s1.w - s1.r))
        rw [List.take_take, Nat.min_eq_left hk] at this
        exact this.symm
      have HKL : Hid (((xs.drop c).take k).length = k) := by show _ = _; rw [List.length_take, List.length_drop]; omega
      clear hL HO
      cases hf : fi L 10 with
      | some p =>
        have hp := fi_lt hf
        have hcut : cut (xs.drop c) = (k + p + 1, 0) := cut_some (n := s1.w - s1.r) (by omega) (by rw [HSP.out, fi_append, HF.out]; simp [hf, HKL.out]; omega)
        rw [hf] at HC
        obtain ⟨o2, hsl2, HO2⟩ := slice24_any (h + 3) 16384 16384 s1.r (s1.r + (p + k) + 1) (by omega) (by omega)
        simp only [Int.natCast_add, Int.natCast_one] at hsl2
        have hge : decide ((0 : Int) ≤ (p : Int)) = true := by simp
        go_wp2
        go_quiet ((go_at_call 67; exact Calls.quiet_of_same (HC.out _ _ rfl)))
        clear HC
        go_wp2
        go_quiet (fail)
        have fB := HR.out.fB
        obtain rfl := HO2 (by omega)
        go_wp2
        go_meet
        case rel =>
          have hen : s1.er = .nilIface := by
            rcases HST.out with h1 | h1
            · exact h1.1
            · omega
          refine ⟨s1.r, 16384 - s1.r, { s1 with r := s1.r + (p + k + 1) }, by rw [hcut]; congr 1; omega, by rw [hcut]; rfl, HI.out.adv _ (by rw [hcut]; show k + p + 1 ≤ _; omega) (by rw [hcut]; show s1.r + (p + k + 1) = s1.r + (k + p + 1); omega) rfl rfl rfl rfl ((HR.out.drewN _).setB2' (s1.r + (p + k + 1)) _ (by simp)), hen, HK.out, (fr_drewN HB.out _).setCell (by show h ≤ h + 2 ∧ h + 2 < h + 5; omega) _, by rw [hcut]; show s1.r + (k + p + 1) ≤ _; omega, by rw [hcut]; show k + p + 1 ≤ _; omega, fun j hj => ?_⟩
          rw [hcut] at hj
          exact HI.out.get j (by simp only at hj; omega)
      | none =>
        have hcutn : fi ((xs.drop c).take (s1.w - s1.r)) 10 = none := by rw [HSP.out, fi_append, HF.out]; simp [hf]
        have HCN : Hid (fi ((xs.drop c).take (s1.w - s1.r)) 10 = none) := hcutn
        clear hcutn
        rw [hf] at HC
        have b4 := HR.out.b4
        have fB := HR.out.fB
        have g1 := (HG.out.fr HB.out hB0).g1
        rcases HST.out with ⟨her, hg⟩ | ⟨her, hiE, hr0, hw16, hkk, hg⟩
        · rw [her] at b4
          have HBUF : Hid (∀ n, Calls Tryd.prog 46 #[.pointer (some ⟨h + 2, 0, none⟩)] (wr.drewN n) fun e w' => e = .returned (.int .i64 ((s1.w - s1.r : Nat) : Int)) ∧ ∃ j, w' = (wr.drewN n).drewN j) := fun n => buffered_any (HR.out.drewN n) hww hrw
          by_cases hfull : s1.w - s1.r = 16384
          · have hge : decide ((16384 : Int) ≤ ((s1.w - s1.r : Nat) : Int)) = true := by rw [hfull]; rfl
            have hcut : cut (xs.drop c) = (16384, 1) := cut_full (by rw [← hfull]; exact HCN.out) (by rw [List.length_drop]; omega)
            go_wp2
            go_quiet ((go_at_call 67; exact Calls.quiet_of_same (HC.out _ _ rfl)))
            clear HC
            go_wp2
            go_quiet ((go_at_call 46; exact quiet_at (HBUF.out _)))
            go_wp2
            go_meet
            case rel =>
              have hr0 : s1.r = 0 := by omega
              refine ⟨0, 16384, { s1 with r := s1.w }, by rw [hcut], by rw [hcut]; rfl, HI.out.adv _ (by rw [hcut]; show 16384 ≤ _; omega) (by rw [hcut]; show s1.w = s1.r + 16384; omega) rfl rfl rfl rfl ((HR.out.drewN _).setB2 s1.w), her, HK.out, (fr_drewN HB.out _).setCell (by show h ≤ h + 2 ∧ h + 2 < h + 5; omega) _, by rw [hcut]; show 0 + 16384 ≤ _; omega, by rw [hcut]; show 16384 ≤ _; omega, fun j hj => ?_⟩
              rw [hcut] at hj
              have := HI.out.get j (by simp only at hj; omega)
              rw [hr0] at this
              exact this
          · have hge : decide ((16384 : Int) ≤ ((s1.w - s1.r : Nat) : Int)) = false := by simp; omega
            have HFL : Hid (∀ n, Calls Tryd.prog 91 #[.pointer (some ⟨h + 2, 0, none⟩)] (wr.drewN n) fun e w' => e = .returned (.tuple #[]) ∧ Filled h D cap xs c a3 s1 (wr.drewN n) w') := fun n => by
              have hbn := fr_drewN (Fr.refl h wr) n
              exact fill_any ⟨HR.out.drewN n, hn, hiN, hrw, hww, hcc, HI.out.win⟩ ((HG.out.fr HB.out hB0).fr hbn hB0) hB0 ((HD.out.fr HB.out hDh).fr hbn hDh) hDh hN hc hcap (by omega)
            go_wp2
            go_quiet ((go_at_call 67; exact Calls.quiet_of_same (HC.out _ _ rfl)))
            clear HC
            go_wp2
            go_quiet ((go_at_call 46; exact quiet_at (HBUF.out _)))
            go_wp2
            go_quiet (fail)
            go_wp2_with fail
            refine (HFL.out _).mono ?_
            rintro e w1 ⟨rfl, s2, H2, hk2, hr2, hb2, hst2⟩
            have HI2 : Hid (RI h D cap xs w1 s2 c) := H2
            have HK2 : Hid (Kp s1 s2) := hk2
            have HB2 : Hid (Fr h W w1) := (fr_drewN HB.out _).trans hb2
            have HST2 : Hid ((s1.i < xs.length ∧ s1.w - s1.r < s2.w ∧ s2.er = s1.er) ∨ (s1.i = xs.length ∧ s2.i = xs.length ∧ s2.w = s1.w - s1.r ∧ s2.er = .iface 160 (.pointer (some a3)))) := hst2
            have hw2 := H2.ww
            clear H2 hk2 hb2 hst2 HBUF HFL
            go_wp2
            go_roundg (gk - 1)
            case rel =>
              refine ⟨s2, s1.w - s1.r, rfl, HI2.out, ⟨HK2.out.1.trans HK.out.1, HK2.out.2.1.trans HK.out.2.1, HK2.out.2.2.trans HK.out.2.2⟩, HB2.out, by congr 1; omega, ?_, HCN.out, ?_⟩
              · rcases HST2.out with h1 | h1 <;> omega
              · rcases HST2.out with ⟨h1, h2, h3⟩ | ⟨h1, h2, h3, h4⟩
                · exact .inl ⟨h3.trans her, by omega⟩
                · exact .inr ⟨h4, h2, hr2, by omega, by omega, by omega⟩
            case measure => omega
        · rw [her] at b4
          have hrest : (xs.drop c).length = s1.w := by rw [List.length_drop]; omega
          have hcut : cut (xs.drop c) = (s1.w, 2) := by
            have := cut_end (l := xs.drop c) (by rw [hrest]; have := HCN.out; rw [hr0] at this; exact this) (by omega)
            rw [this, hrest]
          have hsl2 := slice24_lh (h + 3) 0 16384 16384 0 s1.w (by omega) (by omega) (by omega)
          have hsl3 : ∀ W, (Instr.sliceAt 24 (.slice (some ⟨h + 3, 0, none⟩) 16384 16384) (some (.int .i64 s1.r)) (some (.int .i64 s1.w)) none).run Tryd.prog W = .ok (.slice (some ⟨h + 3, 0, none⟩) s1.w 16384) W := fun W => by
            rw [hr0]
            exact hsl2 W
          have HRE : Hid (∀ n, Calls Tryd.prog 90 #[.pointer (some ⟨h + 2, 0, none⟩)] ((wr.drewN n).setCell ⟨h + 2, 2, none⟩ (.int .i64 s1.w)) fun e w' => e = .returned (.iface 160 (.pointer (some a3))) ∧ w' = ((wr.drewN n).setCell ⟨h + 2, 2, none⟩ (.int .i64 s1.w)).setCell ⟨h + 2, 4, none⟩ .nilIface) := fun n => by
            have := readErr_any ((HR.out.drewN n).setB2 s1.w)
            rw [show ({ s1 with r := s1.w } : St).er = .iface 160 (.pointer (some a3)) from her] at this
            exact this
          have HR0 : Hid (s1.r = 0 ∧ s1.w < 16384 ∧ s1.er = .iface 160 (.pointer (some a3))) := ⟨hr0, hw16, her⟩
          clear hsl2 hr0 hkk hiE hrest her
          go_wp2
          go_quiet ((go_at_call 67; exact Calls.quiet_of_same (HC.out _ _ rfl)))
          clear HC
          go_wp2
          go_quiet (fail)
          go_wp2_with fail
          refine (HRE.out _).mono ?_
          rintro e w1 ⟨rfl, rfl⟩
          clear HRE
          go_wp2
          go_meet
          case rel =>
            have hr0 := HR0.out.1
            refine ⟨0, 16384, { s1 with r := s1.w, er := .nilIface }, by rw [hcut], by rw [hcut]; rfl, HI.out.adv _ (by rw [hcut]; show s1.w ≤ _; omega) (by rw [hcut]; show s1.w = s1.r + s1.w; omega) rfl rfl rfl rfl (((HR.out.drewN _).setB2 s1.w).setB4 .nilIface), rfl, HK.out, ((fr_drewN HB.out _).setCell (by show h ≤ h + 2 ∧ h + 2 < h + 5; omega) _).setCell (by show h ≤ h + 2 ∧ h + 2 < h + 5; omega) _, by rw [hcut]; show 0 + s1.w ≤ _; omega, by rw [hcut]; show s1.w ≤ _; omega, fun j hj => ?_⟩
            rw [hcut] at hj
            have := HI.out.get j (by simp only at hj; omega)
            rw [hr0] at this
            exact this
  case rest =>
    clear HS
    obtain ⟨o, cp, s1, rfl, rfl, H1, he1, hk1, hb1, ho, hcp, hbs⟩ := hcut
    have HI : Hid (RI h D cap xs wc s1 (c + (cut (xs.drop c)).1)) := H1
    have HB : Hid (Fr h W wc) := hb1
    have fB := H1.rs.fB
    have b5 := H1.rs.b5
    have b6 := H1.rs.b6
    have HU : Hid (∀ j, j < 16384 → wc.cell? ⟨h + 3, j, none⟩ = some (.int .u8 (s1.ub.getD j 0))) := H1.rs.u
    have HBS : Hid (∀ j, j < (cut (xs.drop c)).1 → s1.ub.getD (o + j) 0 = (xs.drop c).getD j 0) := hbs
    have HEND : Hid (∀ (w' : World) (s' : St), RS h D cap xs w' s' → s'.r = s1.r → s'.w = s1.w → s'.i = s1.i → s'.n = s1.n → s'.ub = s1.ub → s'.er = s1.er → Kp s1 s' → Fr h W w' →
        Sliced h D cap xs c a1 a3 s W (.slice (some ⟨h + 3, o, none⟩) (cut (xs.drop c)).1 cp) (errV a1 a3 (cut (xs.drop c)).2) w') := fun w' s' hR e1 e2 e3 e4 e5 e6 e7 hB' => by
      refine ⟨o, cp, s', rfl, rfl, HI.out.adv 0 (Nat.zero_le _) e1 e2 e3 e4 e5 hR, e6.trans he1, ⟨e7.1.trans hk1.1, e7.2.1.trans hk1.2.1, e7.2.2.trans hk1.2.2⟩, hB', ho, hcp, fun j hj => by rw [e5]; exact hbs j hj⟩
    clear H1 hk1 hb1 hbs
    generalize hm : (cut (xs.drop c)).1 = m at *
    generalize (cut (xs.drop c)).2 = ek at *
    cases m with
    | zero =>
      go_wp2
      go_ret2
      exact ⟨_, _, rfl, HEND.out _ s1 HI.out.rs rfl rfl rfl rfl rfl rfl ⟨rfl, rfl, rfl⟩ HB.out⟩
    | succ q =>
      have u2 := HU.out (o + q) (by omega)
      go_wp2
      go_ret2
      exact ⟨_, _, rfl, HEND.out _ _ ((HI.out.rs.setB5 _).setB6 (-1)) rfl rfl rfl rfl rfl rfl ⟨rfl, rfl, rfl⟩ ((HB.out.setCell (by show h ≤ h + 2 ∧ h + 2 < h + 5; omega) _).setCell (by show h ≤ h + 2 ∧ h + 2 < h + 5; omega) _)⟩
end Go.Proofs.Qxb6605687aDoor

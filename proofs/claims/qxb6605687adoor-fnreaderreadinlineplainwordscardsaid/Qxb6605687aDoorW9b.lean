/- readLine: the walk. -/
import Derived.Test.Qxb6605687aDoorW9
import Derived.Lib.SlBytesConst
namespace Go.Proofs.Qxb6605687aDoor
open Go.RowKit
set_option maxHeartbeats 4000000
set_option maxRecDepth 100000
set_option linter.unusedSimpArgs false
set_option linter.unusedVariables false

theorem info5c : (Tryd.prog.info? 5).map (fun i => (i.zero, i.size, i.bytes)) = some (some (.int .u8 0), 1, 1) := by kernel_rfl
theorem own_form2 {w : World} {b : Nat} {e : TypeId} {v : Value} {n : Nat} {xs : List Value} (h : w.ownsRow b e 1 v n xs) : ∃ p c, v = .slice p n c := by
  rcases h.2 with ⟨h1, h2⟩ | ⟨g, c, cur, h1, _⟩
  · exact ⟨none, 0, by rw [h1, h2]⟩
  · exact ⟨_, _, h1⟩
theorem own_zero {w : World} {b : Nat} {e : TypeId} {p : Option Addr} {n c : Nat} {xs : List Value} (h : w.ownsRow b e 1 (.slice p n c) n xs) : w.ownsRow b e 1 (.slice p 0 c) 0 [] := by
  refine ⟨rfl, ?_⟩
  rcases h.2 with ⟨h1, h2⟩ | ⟨g, c2, cur, h1, h2, h3, h4, h5, h6, h7⟩
  · injection h1 with e1 e2 e3
    subst e1 e3
    exact .inl ⟨rfl, rfl⟩
  · injection h1 with e1 e2 e3
    subst e1 e3
    exact .inr ⟨g, c, cur, rfl, h2, h3, Nat.zero_le _, h5, h6, by simp⟩
theorem own_cap {w : World} {b : Nat} {e : TypeId} {p : Option Addr} {n c : Nat} {xs : List Value} (h : w.ownsRow b e 1 (.slice p n c) n xs) : n ≤ c := by
  rcases h.2 with ⟨h1, h2⟩ | ⟨g, c2, cur, h1, h2, h3, h4, h5, h6, h7⟩
  · omega
  · injection h1 with e1 e2 e3
    omega

theorem conv24 (W : World) : (convert 24 24 (.slice (some ⟨W.heap.size, 0, none⟩) 1 1)).run Tryd.prog (W.alloc (.cells #[.int .u8 13] 5)) = .ok (.slice (some ⟨W.heap.size, 0, none⟩) 1 1) (W.alloc (.cells #[.int .u8 13] 5 (1, 2))) :=
  Lib.run_convert_bytes_const W 24 5 #[.int .u8 13] 1 1 Tryd.underlying24 Tryd.underlying5

variable {h D cap : Nat} {xs : List Int} {W0 w : World} {s : St} {c : Nat} {A : List Int} {vs : List Value} {args : List (List Int)} {L : List Int} {B0 : Nat} {a1 a3 a4 : Addr}

/-- The end: the LF and a CR are cut off. (wx: the world ahead of the CR's own slice.) -/
theorem trim_end (lb lo k cp : Nat) (l : List Int) (wx : World) (hl : l.length = k) (hby : By l) (hk : k ≤ cp) (hb : k ≤ 2000000) (hlt : lb < wx.heap.size) (hc : ∀ j, j < k → wx.cell? ⟨lb, lo + j, none⟩ = some (.int .u8 (l.getD j 0))) :
    Calls Tryd.prog 66 #[.slice (some ⟨lb, lo, none⟩) k cp, .slice (some ⟨wx.heap.size, 0, none⟩) 1 1] (wx.alloc (.cells #[.int .u8 13] 5 (1, 2))) fun e w' => e = .returned (.slice (some ⟨lb, lo, none⟩) (k - cr l) cp) ∧ w' = wx.alloc (.cells #[.int .u8 13] 5 (1, 2)) := by
  refine trim_cr lb lo k cp wx.heap.size l _ hl hby hk hb (fun i hi => ?_) (by rw [cell_of_row _ _ _ _ _ _ (heap_alloc_new wx _)]; rfl)
  rw [World.cell?_alloc_lt _ _ ⟨lb, lo + i, none⟩ hlt]
  exact hc i hi

theorem news_of {h o m c : Nat} {xs : List Int} {w : World} (hcl : ∀ j, j < m → w.cell? ⟨h + 3, o + j, none⟩ = some (.int .u8 ((xs.drop c).getD j 0))) (hm : m ≤ (xs.drop c).length) :
    ∀ j u, (u8s ((xs.drop c).take m))[j]? = some u → w.cell? ((⟨h + 3, o, none⟩ : Addr).add j) = some u := fun j u hj => by
  obtain ⟨hj1, rfl⟩ := List.getElem?_eq_some_iff.1 hj
  rw [u8s_len, List.length_take] at hj1
  rw [add_mk, hcl j (by omega)]
  rw [List.length_drop] at hm hj1
  simp [u8s, show c + j < xs.length by omega]

/-- What the loop keeps. -/
def LR (h D cap : Nat) (xs : List Int) (W0 w : World) (a1 a3 : Addr) (s : St) (c : Nat) (A : List Int) (vs : List Value) (args : List (List Int)) (g : Nat) (v9 : Value) (wr : World) : Prop :=
  Below h w wr ∧ ((v9 = .iface 160 (.pointer (some a1)) ∧ ∃ p s1, 0 < p ∧ p ≤ 65536 ∧ p ≤ (xs.drop c).length ∧ RX h D cap xs W0 wr s1 (c + p) A vs args ((xs.drop c).take p) ∧ s1.ag = s.ag ∧ s1.ar = s.ar ∧ fi ((xs.drop c).take p) 10 = none ∧ 65540 ≤ g + p) ∨
    (v9 = .nilIface ∧ ∃ k s1, rl (xs.drop c) = (k, 0) ∧ k + 1 ≤ (xs.drop c).length ∧ RX h D cap xs W0 wr s1 (c + k + 1) A vs args ((xs.drop c).take (k + 1)) ∧ s1.ag = s.ag ∧ s1.ar = s.ar) ∨
    (v9 = .iface 160 (.pointer (some a3)) ∧ (rl (xs.drop c)).2 = 2 ∧ ∃ s1 L1, RX h D cap xs W0 wr s1 xs.length A vs args L1))


theorem readLine_any (tl : ByteArray) (E : Env h D cap xs B0 w a1 a3 a4) (H : RX h D cap xs W0 w s c A vs args L) :
    Calls Tryd.prog 54 #[.pointer (some ⟨h + 4, 0, none⟩), .string tl, .bool false] w (Lined h D cap xs W0 w a4 s c A vs args) := by
  obtain ⟨i0, hi0, hz0, hz1, hz2⟩ := info_parts info5c
  have HE : Hid (Env h D cap xs B0 w a1 a3 a4) := E
  have hN := E.n
  have r0 := H.ri.rs.r0
  obtain ⟨lgp, lgc, hlg⟩ := own_form2 H.rows.ol
  have hci : c ≤ xs.length := by have := H.ri.cc; have := H.ri.iN; omega
  have HRN : Hid ((xs.drop c).length = xs.length - c) := List.length_drop
  obtain ⟨⟨m, ek⟩, hcut⟩ : ∃ me, cut (xs.drop c) = me := ⟨_, rfl⟩
  have HC : Hid (Calls Tryd.prog 63 #[.pointer (some ⟨h + 2, 0, none⟩), .int .u8 10] w fun e w' => ∃ o cp s', e = .returned (.tuple #[.slice (some ⟨h + 3, o, none⟩) m cp, errV a1 a3 ek]) ∧
      RX h D cap xs W0 w' s' (c + m) A vs args L ∧ Kp s s' ∧ Fr h w w' ∧ o + m ≤ 16384 ∧ m ≤ cp ∧ ∀ j, j < m → w'.cell? ⟨h + 3, o + j, none⟩ = some (.int .u8 ((xs.drop c).getD j 0))) := by
    have := read_any E H
    rw [hcut] at this
    exact this
  clear E
  have hkind := cut_kind (xs.drop c)
  rw [hcut] at hkind
  simp only at hkind
  go_enter Tryd.func54, Tryd.ntmps54
  go_wp2_with fail
  refine HC.out.mono ?_
  rintro e w1 ⟨o, cp, s1, rfl, HX1, hkp, hfr, ho, hcp, hcl⟩
  have HX : Hid (RX h D cap xs W0 w1 s1 (c + m) A vs args L) := HX1
  have HFR : Hid (Fr h w w1) := hfr
  have HCL : Hid (∀ j, j < m → w1.cell? ⟨h + 3, o + j, none⟩ = some (.int .u8 ((xs.drop c).getD j 0))) := hcl
  have HKP : Hid (Kp s s1) := hkp
  have r01 := HX1.ri.rs.r0
  have r41 : w1.cell? ⟨h + 4, 4, none⟩ = some (.slice lgp L.length lgc) := by rw [← hlg, ← hkp.2.2]; exact HX1.ri.rs.r4
  have hown1 : w1.ownsRow (h + 5) 5 1 (.slice lgp L.length lgc) L.length (u8s L) := by
    have := HX1.rows.ol
    rw [hkp.2.2, hlg] at this
    exact this
  have HOWN : Hid (w1.ownsRow (h + 5) 5 1 (.slice lgp L.length lgc) L.length (u8s L)) := hown1
  have HE1 : Hid (Env h D cap xs B0 w1 a1 a3 a4) := HE.out.below hfr.bel
  have HLG : Hid (s1.lg = .slice lgp L.length lgc) := hkp.2.2.trans hlg
  have g1 := HE1.out.g.g1
  have HCUT : Hid (cut (xs.drop c) = (m, ek)) := hcut
  clear HC HX1 hkp hfr hcl hown1 H r0 hcut hlg
  by_cases hk0 : ek = 0
  · subst hk0
    have hrl := HRN.out
    obtain ⟨k, rfl, hkl, hrlk⟩ := cut_rl0 HCUT.out
    have HRL : Hid (rl (xs.drop c) = (k, 0)) := hrlk
    have hsl := slice24_h (h + 3) o (k + 1) cp k (by omega)
    have HTR : Hid (Calls Tryd.prog 66 #[.slice (some ⟨h + 3, o, none⟩) k cp, .slice (some ⟨w1.heap.size, 0, none⟩) 1 1] (w1.alloc (.cells #[.int .u8 13] 5 (1, 2))) fun e w' => e = .returned (.slice (some ⟨h + 3, o, none⟩) (k - cr ((xs.drop c).take k)) cp) ∧ w' = w1.alloc (.cells #[.int .u8 13] 5 (1, 2))) :=
      trim_end (h + 3) o k cp ((xs.drop c).take k) w1 (by rw [List.length_take]; omega) ((HE.out.by_.drop c).take k) (by omega) (by omega) (by have := HX.out.ri.rs.lt; omega) (fun j hj => by
        rw [HCL.out j (by omega)]
        simp only [List.getD_eq_getElem?_getD, List.getElem?_take]
        rw [if_pos hj])
    clear hrlk hrl
    have hcv := conv24 w1
    simp only [errV]
    go_wp2_with (go_at_call 66; refine HTR.out.mono ?_; rintro e w' ⟨rfl, rfl⟩)
    go_ret2
    have hcr := cr_le ((xs.drop c).take k)
    rw [List.length_take] at hcr
    have HXa := HX.out.alloc (.cells #[.int .u8 13] 5 (1, 2))
    refine ⟨_, _, rfl, HFR.out.bel.alloc (by have := HX.out.ri.rs.lt; omega) _, .inl ⟨by rw [HRL.out], rfl, s1, L, h + 3, o, cp, ?_, HKP.out.1, HKP.out.2.1, by omega, by rw [HRL.out]; rfl, by rw [HRL.out]; show k ≤ cp; omega, ?_⟩⟩
    · rw [HRL.out]; exact HXa
    · rw [HRL.out, ← HKP.out.1, ← HKP.out.2.1]
      refine HXa.lnU fun j hj => ?_
      rw [List.length_take] at hj
      rw [World.cell?_alloc_lt _ _ ⟨h + 3, o + j, none⟩ (by show h + 3 < _; have := HX.out.ri.rs.lt; omega), HCL.out j (by simp only at hj; omega)]
      simp only [List.getD_eq_getElem?_getD, List.getElem?_take]
      rw [if_pos (by simp only at hj ⊢; omega)]
  · have hmle : m ≤ (xs.drop c).length := by
      rcases hkind with rfl | rfl | rfl
      · exact absurd rfl hk0
      · have := cut_one HCUT.out; omega
      · have := cut_two HCUT.out; omega
    obtain ⟨ax, hev, HLS⟩ : ∃ ax, errV a1 a3 ek = .iface 160 (.pointer (some ax)) ∧ Hid (∀ w4 s4, RX h D cap xs W0 w4 s4 (c + m) A vs args ((xs.drop c).take m) → s4.ag = s.ag → s4.ar = s.ar → Below h w w4 → LR h D cap xs W0 w a1 a3 s c A vs args 70000 (.iface 160 (.pointer (some ax))) w4) := by
      rcases hkind with rfl | rfl | rfl
      · exact absurd rfl hk0
      · obtain ⟨rfl, h16, hfn⟩ := cut_one HCUT.out
        exact ⟨a1, rfl, fun w4 s4 hx e1 e2 hb => ⟨hb, .inl ⟨rfl, 16384, s4, by omega, by omega, h16, hx, e1, e2, hfn, by omega⟩⟩⟩
      · obtain ⟨rfl, hl16, hfn⟩ := cut_two HCUT.out
        have hrl := HRN.out
        exact ⟨a3, rfl, fun w4 s4 hx e1 e2 hb => ⟨hb, .inr (.inr ⟨rfl, by unfold rl; rw [hfn]; simp only; rw [if_pos (by omega)], s4, _, by
          rw [show c + (xs.drop c).length = xs.length by omega] at hx
          exact hx⟩)⟩⟩
    rw [hev]
    have hsl0 := slice24_p lgp L.length lgc 0 (Nat.zero_le _)
    simp only [Int.natCast_zero] at hsl0
    have hrl := HRN.out
    have hb1 : 0 + m ≤ maxLen := by unfold maxLen; omega
    have hb2 : (0 + m) * 1 ≤ 140737488355328 := by omega
    have HML : Hid (((xs.drop c).take m).length = m) := by show _ = _; rw [List.length_take]; omega
    have HNW : Hid (∀ j u, (u8s ((xs.drop c).take m))[j]? = some u → w1.cell? ((⟨h + 3, o, none⟩ : Addr).add j) = some u) := fun j u hj => by
      obtain ⟨hj1, rfl⟩ := List.getElem?_eq_some_iff.1 hj
      rw [u8s_len, HML.out] at hj1
      rw [add_mk, HCL.out j hj1]
      have h5 : c + j < xs.length := by omega
      simp [u8s, h5]
    clear hrl hkind hk0 hev
    go_wp2_with (at_builtin; refine wpList_append_two _ (by rfl) _ _ 24 (by rfl) (h + 5) 5 i0 (.int .u8 0) 1 Tryd.underlying24 hi0 hz0 hz1 hz2 rfl (.slice lgp 0 lgc) 0 (u8s []) (by rfl) (own_zero HOWN.out) ⟨h + 3, o, none⟩ m cp (u8s ((xs.drop c).take m)) (by rfl) ((u8s_len _).trans HML.out) HNW.out (u8s_one _) hb1 hb2 (Nat.succ_le_of_lt HX.out.ri.rs.lt) ?_; intro lg3 w3 hown hmv; rw [Nat.zero_add] at hown; obtain ⟨p3, c3, rfl⟩ := own_form2 hown; have hG := HX.out.ri.rs.grown hmv.grown (fun k hk => ((own_zero HOWN.out).lt k hk).1); have r43 := hG.r4; have f33 := hG.fR)
    have HLR : Hid (LR h D cap xs W0 w a1 a3 s c A vs args 70000 (.iface 160 (.pointer (some ax))) (w3.setCell ⟨h + 4, 4, none⟩ (.slice p3 m c3))) := by
      have hz : (Value.slice lgp 0 lgc).ownBlock = s1.lg.ownBlock := by rw [HLG.out]; cases lgp <;> rfl
      refine HLS.out _ { s1 with lg := .slice p3 m c3 } (HX.out.putL hz ?_ hmv) HKP.out.1 HKP.out.2.1 ?_
      · rw [HML.out]
        simpa [u8s] using hown
      · exact (HFR.out.bel.grown hmv.grown (by have := HX.out.ri.rs.lt; omega) (fun k hk => by have := ((own_zero HOWN.out).lt k hk).1; omega)).setCell (by show h ≤ h + 4; omega) _
    clear HLS hown hmv hG r43 f33 HOWN HLG HX HFR HCL HKP HE1 g1 r01 r41 HNW hsl0 HCUT HML
    go_loopg [9] 70000 (fun g v9 wr => Hid (LR h D cap xs W0 w a1 a3 s c A vs args g v9 wr))
    case atStart => exact HLR
    case round =>
      clear HLR
      obtain ⟨hbel, hst⟩ := hrel
      have HB : Hid (Below h w wr) := hbel
      have HEr : Hid (Env h D cap xs B0 wr a1 a3 a4) := HE.out.below hbel
      have g1 := HEr.out.g.g1
      clear hbel
      rcases hst with ⟨rfl, p, s2, hp0, hp6, hpl, hx, e1, e2, hfn, hg⟩ | ⟨rfl, k, s2, hrlk, hkl, hx, e1, e2⟩ | ⟨rfl, hrl2, s2, L2, hx⟩
      · have HX2 : Hid (RX h D cap xs W0 wr s2 (c + p) A vs args ((xs.drop c).take p)) := hx
        have HKP2 : Hid (s2.ag = s.ag ∧ s2.ar = s.ar) := ⟨e1, e2⟩
        have HFN : Hid (fi ((xs.drop c).take p) 10 = none) := hfn
        have hrl := HRN.out
        have hcp1 : c + p ≤ xs.length := by omega
        have HDD : Hid (xs.drop (c + p) = (xs.drop c).drop p) := by show _ = _; rw [List.drop_drop]
        obtain ⟨⟨m2, ek2⟩, hcut2⟩ : ∃ me, cut (xs.drop (c + p)) = me := ⟨_, rfl⟩
        have hkind2 := cut_kind (xs.drop (c + p))
        rw [hcut2] at hkind2
        simp only at hkind2
        have HC2 : Hid (Calls Tryd.prog 63 #[.pointer (some ⟨h + 2, 0, none⟩), .int .u8 10] wr fun e w' => ∃ o cp s', e = .returned (.tuple #[.slice (some ⟨h + 3, o, none⟩) m2 cp, errV a1 a3 ek2]) ∧
            RX h D cap xs W0 w' s' (c + p + m2) A vs args ((xs.drop c).take p) ∧ Kp s2 s' ∧ Fr h wr w' ∧ o + m2 ≤ 16384 ∧ m2 ≤ cp ∧ ∀ j, j < m2 → w'.cell? ⟨h + 3, o + j, none⟩ = some (.int .u8 ((xs.drop (c + p)).getD j 0))) := by
          have := read_any HEr.out hx
          rw [hcut2] at this
          exact this
        have hm2l : m2 ≤ (xs.drop (c + p)).length := by
          rcases hkind2 with rfl | rfl | rfl
          · obtain ⟨k, rfl, hkl, _⟩ := cut_rl0 hcut2; omega
          · have := cut_one hcut2; omega
          · have := cut_two hcut2; omega
        have hdl : (xs.drop (c + p)).length = xs.length - (c + p) := List.length_drop
        have HTK : Hid ((xs.drop c).take p ++ (xs.drop (c + p)).take m2 = (xs.drop c).take (p + m2)) := by
          show _ = _
          rw [drop_take_add]
        have HML : Hid (((xs.drop (c + p)).take m2).length = m2) := by show _ = _; rw [List.length_take]; omega
        have hlp : ((xs.drop c).take p).length = p := by rw [List.length_take]; omega
        have hol := hx.rows.ol
        rw [hlp] at hol
        obtain ⟨g5, c5, hlg5, hg5, hg5'⟩ := hol.form (by omega)
        have HLG2 : Hid (s2.lg = .slice (some ⟨g5, 0, none⟩) p c5) := hlg5
        rw [hlg5] at hol
        have r0 := hx.ri.rs.r0
        have hq := eql_same wr a1
        have hb1 : p + m2 ≤ maxLen := by unfold maxLen; omega
        have hb2 : (p + m2) * 1 ≤ 140737488355328 := by omega
        have hmN : p + m2 ≤ 2000000 := by omega
        have HCUT2 : Hid (cut (xs.drop (c + p)) = (m2, ek2)) := hcut2
        have HK2 : Hid (ek2 = 0 ∨ ek2 = 1 ∨ ek2 = 2) := hkind2
        have HM2 : Hid (m2 ≤ (xs.drop (c + p)).length ∧ (xs.drop (c + p)).length = xs.length - (c + p)) := ⟨hm2l, hdl⟩
        clear hx e1 e2 hfn hrl hcut2 hkind2 hm2l hdl hlp hlg5 hg5 hg5' hol
        have HLP : Hid (((xs.drop c).take p).length = p) := by show _ = _; rw [List.length_take]; have := HRN.out; omega
        have HDL : Hid (p + m2 ≤ (xs.drop c).length) := by show _ ≤ _; have := HRN.out; have := HM2.out; omega
        rcases HK2.out with rfl | rfl | rfl
        · as_aux_lemma =>
          obtain ⟨k2, rfl, hk2l, hrl2⟩ := cut_rl0 HCUT2.out
          obtain ⟨q, hq2⟩ : ∃ q, p + k2 = q := ⟨_, rfl⟩
          have HT : Hid (p + (k2 + 1) = q + 1) := by show _ = _; omega
          have HT3 : Hid (((xs.drop c).take (p + (k2 + 1))).length = q + 1) := by show _ = _; rw [List.length_take]; have := HDL.out; omega
          have HFI : Hid (fi (xs.drop c) 10 = some q) := by
            show _ = _
            rw [← hq2]
            refine rl_more HFN.out hpl ?_
            rw [← HDD.out]
            unfold rl at hrl2
            cases hf : fi (xs.drop (c + p)) 10 with
            | none => rw [hf] at hrl2; simp only at hrl2; split at hrl2 <;> simp at hrl2
            | some a => rw [hf] at hrl2; simp only at hrl2; split at hrl2 <;> simp at hrl2; rw [hrl2]
          have hqb : q ≤ 2000000 := by omega
          have HQ2 : Hid (p + k2 = q) := hq2
          clear hrl2 hk2l hq2
          simp only [errV] at HC2
          by_cases hbig : 65536 < q
          · have hd : decide ((65536 : Int) < q) = true := by simp; omega
            have HRL : Hid ((rl (xs.drop c)).2 = 1) := by show _ = _; unfold rl; rw [HFI.out]; simp only; rw [if_neg (by omega)]
            go_wp2_with fail
            refine HC2.out.mono ?_
            rintro e w5 ⟨o5, cp5, s5, rfl, HX5', hkp5, hfr5, ho5, hcp5, hcl5⟩
            have HX5 := (show Hid (RX h D cap xs W0 w5 s5 (c + p + (k2 + 1)) A vs args ((xs.drop c).take p)) from HX5')
            have HFR5 := (show Hid (Fr h wr w5) from hfr5)
            have HKP5 := (show Hid (Kp s2 s5) from hkp5)
            have HNW5 := (show Hid (∀ j u, (u8s ((xs.drop (c + p)).take (k2 + 1)))[j]? = some u → w5.cell? ((⟨h + 3, o5, none⟩ : Addr).add j) = some u) from news_of hcl5 HM2.out.1)
            have r45 : w5.cell? ⟨h + 4, 4, none⟩ = some (.slice (some ⟨g5, 0, none⟩) p c5) := (by rw [← HLG2.out, ← hkp5.2.2]; exact HX5'.ri.rs.r4)
            have HOW5 := (show Hid (w5.ownsRow (h + 5) 5 1 (.slice (some ⟨g5, 0, none⟩) p c5) p (u8s ((xs.drop c).take p))) from by rw [← HLG2.out, ← hkp5.2.2]; have := HX5'.rows.ol; rw [HLP.out] at this; exact this)
            clear HX5' hkp5 hfr5 hcl5 HC2
            go_wp2_with (at_builtin; refine wpList_append_two _ (by rfl) _ _ 24 (by rfl) (h + 5) 5 i0 (.int .u8 0) 1 Tryd.underlying24 hi0 hz0 hz1 hz2 rfl (.slice (some ⟨g5, 0, none⟩) p c5) p (u8s ((xs.drop c).take p)) (by rfl) HOW5.out ⟨h + 3, o5, none⟩ (k2 + 1) cp5 (u8s ((xs.drop (c + p)).take (k2 + 1))) (by rfl) ((u8s_len _).trans HML.out) HNW5.out (u8s_one _) hb1 hb2 (Nat.succ_le_of_lt HX5.out.ri.rs.lt) ?_; intro lg6 w6 hown6 hmv6; rw [HT.out] at hown6; obtain ⟨p6, c6, rfl⟩ := own_form2 hown6; have hG6 := HX5.out.ri.rs.grown hmv6.grown (fun k hk => (HOW5.out.lt k hk).1); have r46 := hG6.r4; have f36 := hG6.fR; have hsl6 := slice24_p p6 (q + 1) c6 q (by have := own_cap hown6; omega); have HX6 := (show Hid (RX h D cap xs W0 (w6.setCell ⟨h + 4, 4, none⟩ (.slice p6 (q + 1) c6)) { s5 with lg := .slice p6 (q + 1) c6 } (c + p + (k2 + 1)) A vs args ((xs.drop c).take (p + (k2 + 1)))) from HX5.out.putL (by rw [HKP5.out.2.2, HLG2.out]) (by rw [HT3.out, ← HTK.out, u8s_append]; exact hown6) hmv6); have HB6 := (show Hid (Below h w (w6.setCell ⟨h + 4, 4, none⟩ (.slice p6 (q + 1) c6))) from ((HB.out.trans HFR5.out.bel).grown hmv6.grown (by have := HX5.out.ri.rs.lt; omega) (fun k hk => by have := (HOW5.out.lt k hk).1; omega)).setCell (by show h ≤ h + 4; omega) _))
            go_ret2
            exact ⟨_, _, rfl, HB6.out.alloc (by have := HX6.out.ri.rs.lt; omega) _, .inr (.inl ⟨HRL.out, _, rfl⟩)⟩
          · have hd : decide ((65536 : Int) < q) = false := by simp; omega
            have HRL : Hid (rl (xs.drop c) = (q, 0)) := by show _ = _; unfold rl; rw [HFI.out]; simp only; rw [if_pos (by omega)]
            go_wp2_with fail
            refine HC2.out.mono ?_
            rintro e w5 ⟨o5, cp5, s5, rfl, HX5', hkp5, hfr5, ho5, hcp5, hcl5⟩
            have HX5 := (show Hid (RX h D cap xs W0 w5 s5 (c + p + (k2 + 1)) A vs args ((xs.drop c).take p)) from HX5')
            have HFR5 := (show Hid (Fr h wr w5) from hfr5)
            have HKP5 := (show Hid (Kp s2 s5) from hkp5)
            have HNW5 := (show Hid (∀ j u, (u8s ((xs.drop (c + p)).take (k2 + 1)))[j]? = some u → w5.cell? ((⟨h + 3, o5, none⟩ : Addr).add j) = some u) from news_of hcl5 HM2.out.1)
            have r45 : w5.cell? ⟨h + 4, 4, none⟩ = some (.slice (some ⟨g5, 0, none⟩) p c5) := (by rw [← HLG2.out, ← hkp5.2.2]; exact HX5'.ri.rs.r4)
            have HOW5 := (show Hid (w5.ownsRow (h + 5) 5 1 (.slice (some ⟨g5, 0, none⟩) p c5) p (u8s ((xs.drop c).take p))) from by rw [← HLG2.out, ← hkp5.2.2]; have := HX5'.rows.ol; rw [HLP.out] at this; exact this)
            clear HX5' hkp5 hfr5 hcl5 HC2
            go_wp2_with (at_builtin; refine wpList_append_two _ (by rfl) _ _ 24 (by rfl) (h + 5) 5 i0 (.int .u8 0) 1 Tryd.underlying24 hi0 hz0 hz1 hz2 rfl (.slice (some ⟨g5, 0, none⟩) p c5) p (u8s ((xs.drop c).take p)) (by rfl) HOW5.out ⟨h + 3, o5, none⟩ (k2 + 1) cp5 (u8s ((xs.drop (c + p)).take (k2 + 1))) (by rfl) ((u8s_len _).trans HML.out) HNW5.out (u8s_one _) hb1 hb2 (Nat.succ_le_of_lt HX5.out.ri.rs.lt) ?_; intro lg6 w6 hown6 hmv6; rw [HT.out] at hown6; obtain ⟨p6, c6, rfl⟩ := own_form2 hown6; have hG6 := HX5.out.ri.rs.grown hmv6.grown (fun k hk => (HOW5.out.lt k hk).1); have r46 := hG6.r4; have f36 := hG6.fR; have hsl6 := slice24_p p6 (q + 1) c6 q (by have := own_cap hown6; omega); have HX6 := (show Hid (RX h D cap xs W0 (w6.setCell ⟨h + 4, 4, none⟩ (.slice p6 (q + 1) c6)) { s5 with lg := .slice p6 (q + 1) c6 } (c + p + (k2 + 1)) A vs args ((xs.drop c).take (p + (k2 + 1)))) from HX5.out.putL (by rw [HKP5.out.2.2, HLG2.out]) (by rw [HT3.out, ← HTK.out, u8s_append]; exact hown6) hmv6); have HB6 := (show Hid (Below h w (w6.setCell ⟨h + 4, 4, none⟩ (.slice p6 (q + 1) c6))) from ((HB.out.trans HFR5.out.bel).grown hmv6.grown (by have := HX5.out.ri.rs.lt; omega) (fun k hk => by have := (HOW5.out.lt k hk).1; omega)).setCell (by show h ≤ h + 4; omega) _))
            go_roundg (gk - 1)
            case rel =>
              refine ⟨HB6.out, .inr (.inl ⟨rfl, q, { s5 with lg := .slice p6 (q + 1) c6 }, HRL.out, by have := HDL.out; have := HT.out; omega, ?_, HKP5.out.1.trans HKP2.out.1, HKP5.out.2.1.trans HKP2.out.2⟩)⟩
              have := HX6.out
              rw [show c + p + (k2 + 1) = c + q + 1 by have := HQ2.out; omega, HT.out] at this
              exact this
            case measure => omega
        · as_aux_lemma =>
          obtain ⟨rfl, h16, hfn2⟩ := cut_one HCUT2.out
          obtain ⟨t, ht⟩ : ∃ t, p + 16384 = t := ⟨_, rfl⟩
          have HT : Hid (p + 16384 = t) := ht
          have HT3 : Hid (((xs.drop c).take (p + 16384)).length = t) := by show _ = _; rw [List.length_take]; have := HDL.out; omega
          have HFN2 : Hid (fi ((xs.drop c).take t) 10 = none) := by
            show _ = _
            rw [← ht]
            refine fi_take_add HFN.out ?_
            rw [← HDD.out]
            exact hfn2
          have htb : t ≤ 2000000 := by omega
          clear hfn2 h16 ht
          simp only [errV] at HC2
          by_cases hbig : 65536 < t
          · have hd : decide ((65536 : Int) < t) = true := by simp; omega
            have HRL : Hid ((rl (xs.drop c)).2 = 1) := rl_long HFN2.out (by have := HDL.out; have := HT.out; omega) hbig
            go_wp2_with fail
            refine HC2.out.mono ?_
            rintro e w5 ⟨o5, cp5, s5, rfl, HX5', hkp5, hfr5, ho5, hcp5, hcl5⟩
            have HX5 := (show Hid (RX h D cap xs W0 w5 s5 (c + p + 16384) A vs args ((xs.drop c).take p)) from HX5')
            have HFR5 := (show Hid (Fr h wr w5) from hfr5)
            have HKP5 := (show Hid (Kp s2 s5) from hkp5)
            have HNW5 := (show Hid (∀ j u, (u8s ((xs.drop (c + p)).take 16384))[j]? = some u → w5.cell? ((⟨h + 3, o5, none⟩ : Addr).add j) = some u) from news_of hcl5 HM2.out.1)
            have r45 : w5.cell? ⟨h + 4, 4, none⟩ = some (.slice (some ⟨g5, 0, none⟩) p c5) := (by rw [← HLG2.out, ← hkp5.2.2]; exact HX5'.ri.rs.r4)
            have HOW5 := (show Hid (w5.ownsRow (h + 5) 5 1 (.slice (some ⟨g5, 0, none⟩) p c5) p (u8s ((xs.drop c).take p))) from by rw [← HLG2.out, ← hkp5.2.2]; have := HX5'.rows.ol; rw [HLP.out] at this; exact this)
            clear HX5' hkp5 hfr5 hcl5 HC2
            go_wp2_with (at_builtin; refine wpList_append_two _ (by rfl) _ _ 24 (by rfl) (h + 5) 5 i0 (.int .u8 0) 1 Tryd.underlying24 hi0 hz0 hz1 hz2 rfl (.slice (some ⟨g5, 0, none⟩) p c5) p (u8s ((xs.drop c).take p)) (by rfl) HOW5.out ⟨h + 3, o5, none⟩ 16384 cp5 (u8s ((xs.drop (c + p)).take 16384)) (by rfl) ((u8s_len _).trans HML.out) HNW5.out (u8s_one _) hb1 hb2 (Nat.succ_le_of_lt HX5.out.ri.rs.lt) ?_; intro lg6 w6 hown6 hmv6; rw [HT.out] at hown6; obtain ⟨p6, c6, rfl⟩ := own_form2 hown6; have hG6 := HX5.out.ri.rs.grown hmv6.grown (fun k hk => (HOW5.out.lt k hk).1); have r46 := hG6.r4; have f36 := hG6.fR; have HX6 := (show Hid (RX h D cap xs W0 (w6.setCell ⟨h + 4, 4, none⟩ (.slice p6 t c6)) { s5 with lg := .slice p6 t c6 } (c + p + 16384) A vs args ((xs.drop c).take (p + 16384))) from HX5.out.putL (by rw [HKP5.out.2.2, HLG2.out]) (by rw [HT3.out, ← HTK.out, u8s_append]; exact hown6) hmv6); have HB6 := (show Hid (Below h w (w6.setCell ⟨h + 4, 4, none⟩ (.slice p6 t c6))) from ((HB.out.trans HFR5.out.bel).grown hmv6.grown (by have := HX5.out.ri.rs.lt; omega) (fun k hk => by have := (HOW5.out.lt k hk).1; omega)).setCell (by show h ≤ h + 4; omega) _))
            go_ret2
            exact ⟨_, _, rfl, HB6.out.alloc (by have := HX6.out.ri.rs.lt; omega) _, .inr (.inl ⟨HRL.out, _, rfl⟩)⟩
          · have hd : decide ((65536 : Int) < t) = false := by simp; omega
            go_wp2_with fail
            refine HC2.out.mono ?_
            rintro e w5 ⟨o5, cp5, s5, rfl, HX5', hkp5, hfr5, ho5, hcp5, hcl5⟩
            have HX5 := (show Hid (RX h D cap xs W0 w5 s5 (c + p + 16384) A vs args ((xs.drop c).take p)) from HX5')
            have HFR5 := (show Hid (Fr h wr w5) from hfr5)
            have HKP5 := (show Hid (Kp s2 s5) from hkp5)
            have HNW5 := (show Hid (∀ j u, (u8s ((xs.drop (c + p)).take 16384))[j]? = some u → w5.cell? ((⟨h + 3, o5, none⟩ : Addr).add j) = some u) from news_of hcl5 HM2.out.1)
            have r45 : w5.cell? ⟨h + 4, 4, none⟩ = some (.slice (some ⟨g5, 0, none⟩) p c5) := (by rw [← HLG2.out, ← hkp5.2.2]; exact HX5'.ri.rs.r4)
            have HOW5 := (show Hid (w5.ownsRow (h + 5) 5 1 (.slice (some ⟨g5, 0, none⟩) p c5) p (u8s ((xs.drop c).take p))) from by rw [← HLG2.out, ← hkp5.2.2]; have := HX5'.rows.ol; rw [HLP.out] at this; exact this)
            clear HX5' hkp5 hfr5 hcl5 HC2
            go_wp2_with (at_builtin; refine wpList_append_two _ (by rfl) _ _ 24 (by rfl) (h + 5) 5 i0 (.int .u8 0) 1 Tryd.underlying24 hi0 hz0 hz1 hz2 rfl (.slice (some ⟨g5, 0, none⟩) p c5) p (u8s ((xs.drop c).take p)) (by rfl) HOW5.out ⟨h + 3, o5, none⟩ 16384 cp5 (u8s ((xs.drop (c + p)).take 16384)) (by rfl) ((u8s_len _).trans HML.out) HNW5.out (u8s_one _) hb1 hb2 (Nat.succ_le_of_lt HX5.out.ri.rs.lt) ?_; intro lg6 w6 hown6 hmv6; rw [HT.out] at hown6; obtain ⟨p6, c6, rfl⟩ := own_form2 hown6; have hG6 := HX5.out.ri.rs.grown hmv6.grown (fun k hk => (HOW5.out.lt k hk).1); have r46 := hG6.r4; have f36 := hG6.fR; have HX6 := (show Hid (RX h D cap xs W0 (w6.setCell ⟨h + 4, 4, none⟩ (.slice p6 t c6)) { s5 with lg := .slice p6 t c6 } (c + p + 16384) A vs args ((xs.drop c).take (p + 16384))) from HX5.out.putL (by rw [HKP5.out.2.2, HLG2.out]) (by rw [HT3.out, ← HTK.out, u8s_append]; exact hown6) hmv6); have HB6 := (show Hid (Below h w (w6.setCell ⟨h + 4, 4, none⟩ (.slice p6 t c6))) from ((HB.out.trans HFR5.out.bel).grown hmv6.grown (by have := HX5.out.ri.rs.lt; omega) (fun k hk => by have := (HOW5.out.lt k hk).1; omega)).setCell (by show h ≤ h + 4; omega) _))
            go_roundg (gk - 1)
            case rel =>
              refine ⟨HB6.out, .inl ⟨rfl, t, { s5 with lg := .slice p6 t c6 }, by have := HT.out; omega, by omega, by have := HDL.out; have := HT.out; omega, ?_, HKP5.out.1.trans HKP2.out.1, HKP5.out.2.1.trans HKP2.out.2, HFN2.out, by have := HT.out; omega⟩⟩
              have := HX6.out
              rw [show c + p + 16384 = c + t by have := HT.out; omega, HT.out] at this
              exact this
            case measure => omega
        · as_aux_lemma =>
          obtain ⟨hm2e, h16, hfn2⟩ := cut_two HCUT2.out
          obtain ⟨t, ht⟩ : ∃ t, p + m2 = t := ⟨_, rfl⟩
          have HT : Hid (p + m2 = t) := ht
          have HT3 : Hid (((xs.drop c).take (p + m2)).length = t) := by show _ = _; rw [List.length_take]; have := HDL.out; omega
          have HTL : Hid ((xs.drop c).length = t ∧ c + p + m2 = xs.length) := by show _ ∧ _; have := HRN.out; have := HM2.out; omega
          have HFI : Hid (fi (xs.drop c) 10 = none) := rl_none HFN.out (by rw [← HDD.out]; exact hfn2)
          have htb : t ≤ 2000000 := by omega
          clear hfn2 h16 ht hm2e
          simp only [errV] at HC2
          by_cases hbig : 65536 < t
          · have hd : decide ((65536 : Int) < t) = true := by simp; omega
            have HRL : Hid ((rl (xs.drop c)).2 = 1) := by show _ = _; unfold rl; rw [HFI.out]; simp only; rw [if_neg (by have := HTL.out; omega)]
            go_wp2_with fail
            refine HC2.out.mono ?_
            rintro e w5 ⟨o5, cp5, s5, rfl, HX5', hkp5, hfr5, ho5, hcp5, hcl5⟩
            have HX5 := (show Hid (RX h D cap xs W0 w5 s5 (c + p + m2) A vs args ((xs.drop c).take p)) from HX5')
            have HFR5 := (show Hid (Fr h wr w5) from hfr5)
            have HKP5 := (show Hid (Kp s2 s5) from hkp5)
            have HNW5 := (show Hid (∀ j u, (u8s ((xs.drop (c + p)).take m2))[j]? = some u → w5.cell? ((⟨h + 3, o5, none⟩ : Addr).add j) = some u) from news_of hcl5 HM2.out.1)
            have r45 : w5.cell? ⟨h + 4, 4, none⟩ = some (.slice (some ⟨g5, 0, none⟩) p c5) := (by rw [← HLG2.out, ← hkp5.2.2]; exact HX5'.ri.rs.r4)
            have HOW5 := (show Hid (w5.ownsRow (h + 5) 5 1 (.slice (some ⟨g5, 0, none⟩) p c5) p (u8s ((xs.drop c).take p))) from by rw [← HLG2.out, ← hkp5.2.2]; have := HX5'.rows.ol; rw [HLP.out] at this; exact this)
            clear HX5' hkp5 hfr5 hcl5 HC2
            go_wp2_with (at_builtin; refine wpList_append_two _ (by rfl) _ _ 24 (by rfl) (h + 5) 5 i0 (.int .u8 0) 1 Tryd.underlying24 hi0 hz0 hz1 hz2 rfl (.slice (some ⟨g5, 0, none⟩) p c5) p (u8s ((xs.drop c).take p)) (by rfl) HOW5.out ⟨h + 3, o5, none⟩ m2 cp5 (u8s ((xs.drop (c + p)).take m2)) (by rfl) ((u8s_len _).trans HML.out) HNW5.out (u8s_one _) hb1 hb2 (Nat.succ_le_of_lt HX5.out.ri.rs.lt) ?_; intro lg6 w6 hown6 hmv6; rw [HT.out] at hown6; obtain ⟨p6, c6, rfl⟩ := own_form2 hown6; have hG6 := HX5.out.ri.rs.grown hmv6.grown (fun k hk => (HOW5.out.lt k hk).1); have r46 := hG6.r4; have f36 := hG6.fR; have HX6 := (show Hid (RX h D cap xs W0 (w6.setCell ⟨h + 4, 4, none⟩ (.slice p6 t c6)) { s5 with lg := .slice p6 t c6 } (c + p + m2) A vs args ((xs.drop c).take (p + m2))) from HX5.out.putL (by rw [HKP5.out.2.2, HLG2.out]) (by rw [HT3.out, ← HTK.out, u8s_append]; exact hown6) hmv6); have HB6 := (show Hid (Below h w (w6.setCell ⟨h + 4, 4, none⟩ (.slice p6 t c6))) from ((HB.out.trans HFR5.out.bel).grown hmv6.grown (by have := HX5.out.ri.rs.lt; omega) (fun k hk => by have := (HOW5.out.lt k hk).1; omega)).setCell (by show h ≤ h + 4; omega) _))
            go_ret2
            exact ⟨_, _, rfl, HB6.out.alloc (by have := HX6.out.ri.rs.lt; omega) _, .inr (.inl ⟨HRL.out, _, rfl⟩)⟩
          · have hd : decide ((65536 : Int) < t) = false := by simp; omega
            have HRL : Hid ((rl (xs.drop c)).2 = 2) := by show _ = _; unfold rl; rw [HFI.out]; simp only; rw [if_pos (by have := HTL.out; omega)]
            go_wp2_with fail
            refine HC2.out.mono ?_
            rintro e w5 ⟨o5, cp5, s5, rfl, HX5', hkp5, hfr5, ho5, hcp5, hcl5⟩
            have HX5 := (show Hid (RX h D cap xs W0 w5 s5 (c + p + m2) A vs args ((xs.drop c).take p)) from HX5')
            have HFR5 := (show Hid (Fr h wr w5) from hfr5)
            have HKP5 := (show Hid (Kp s2 s5) from hkp5)
            have HNW5 := (show Hid (∀ j u, (u8s ((xs.drop (c + p)).take m2))[j]? = some u → w5.cell? ((⟨h + 3, o5, none⟩ : Addr).add j) = some u) from news_of hcl5 HM2.out.1)
            have r45 : w5.cell? ⟨h + 4, 4, none⟩ = some (.slice (some ⟨g5, 0, none⟩) p c5) := (by rw [← HLG2.out, ← hkp5.2.2]; exact HX5'.ri.rs.r4)
            have HOW5 := (show Hid (w5.ownsRow (h + 5) 5 1 (.slice (some ⟨g5, 0, none⟩) p c5) p (u8s ((xs.drop c).take p))) from by rw [← HLG2.out, ← hkp5.2.2]; have := HX5'.rows.ol; rw [HLP.out] at this; exact this)
            clear HX5' hkp5 hfr5 hcl5 HC2
            go_wp2_with (at_builtin; refine wpList_append_two _ (by rfl) _ _ 24 (by rfl) (h + 5) 5 i0 (.int .u8 0) 1 Tryd.underlying24 hi0 hz0 hz1 hz2 rfl (.slice (some ⟨g5, 0, none⟩) p c5) p (u8s ((xs.drop c).take p)) (by rfl) HOW5.out ⟨h + 3, o5, none⟩ m2 cp5 (u8s ((xs.drop (c + p)).take m2)) (by rfl) ((u8s_len _).trans HML.out) HNW5.out (u8s_one _) hb1 hb2 (Nat.succ_le_of_lt HX5.out.ri.rs.lt) ?_; intro lg6 w6 hown6 hmv6; rw [HT.out] at hown6; obtain ⟨p6, c6, rfl⟩ := own_form2 hown6; have hG6 := HX5.out.ri.rs.grown hmv6.grown (fun k hk => (HOW5.out.lt k hk).1); have r46 := hG6.r4; have f36 := hG6.fR; have HX6 := (show Hid (RX h D cap xs W0 (w6.setCell ⟨h + 4, 4, none⟩ (.slice p6 t c6)) { s5 with lg := .slice p6 t c6 } (c + p + m2) A vs args ((xs.drop c).take (p + m2))) from HX5.out.putL (by rw [HKP5.out.2.2, HLG2.out]) (by rw [HT3.out, ← HTK.out, u8s_append]; exact hown6) hmv6); have HB6 := (show Hid (Below h w (w6.setCell ⟨h + 4, 4, none⟩ (.slice p6 t c6))) from ((HB.out.trans HFR5.out.bel).grown hmv6.grown (by have := HX5.out.ri.rs.lt; omega) (fun k hk => by have := (HOW5.out.lt k hk).1; omega)).setCell (by show h ≤ h + 4; omega) _))
            go_roundg (gk - 1)
            case rel =>
              refine ⟨HB6.out, .inr (.inr ⟨rfl, HRL.out, { s5 with lg := .slice p6 t c6 }, (xs.drop c).take (p + m2), ?_⟩)⟩
              have := HX6.out
              rw [HTL.out.2] at this
              exact this
            case measure => omega
      · have HRL : Hid (rl (xs.drop c) = (k, 0)) := hrlk
        have HX2 : Hid (RX h D cap xs W0 wr s2 (c + k + 1) A vs args ((xs.drop c).take (k + 1))) := hx
        have HKP2 : Hid (s2.ag = s.ag ∧ s2.ar = s.ar) := ⟨e1, e2⟩
        have hrl := HRN.out
        have hlk : ((xs.drop c).take (k + 1)).length = k + 1 := by rw [List.length_take]; omega
        have hol := hx.rows.ol
        rw [hlk] at hol
        obtain ⟨g5, c5, hlg5, hg5, hg5'⟩ := hol.form (by omega)
        rw [hlg5] at hol
        have hc5 := own_cap hol
        have HCL5 : Hid (∀ j, j < k → wr.cell? ⟨g5, 0 + j, none⟩ = some (.int .u8 (((xs.drop c).take k).getD j 0))) := fun j hj => by
          have := hol.cells (g := g5) rfl j (.int .u8 ((xs.drop c).getD j 0)) (by
            rw [List.getElem?_eq_some_iff]
            refine ⟨by rw [u8s_len]; omega, ?_⟩
            simp [u8s, show c + j < xs.length by omega])
          rw [add_mk] at this
          rw [this]
          simp only [List.getD_eq_getElem?_getD, List.getElem?_take]
          rw [if_pos hj]
        have r4 : wr.cell? ⟨h + 4, 4, none⟩ = some (.slice (some ⟨g5, 0, none⟩) (k + 1) c5) := by rw [← hlg5]; exact hx.ri.rs.r4
        have hq := eql_nil_left wr a1
        have hsl := slice24_h g5 0 (k + 1) c5 k (by omega)
        have HTR : Hid (Calls Tryd.prog 66 #[.slice (some ⟨g5, 0, none⟩) k c5, .slice (some ⟨wr.heap.size, 0, none⟩) 1 1] (wr.alloc (.cells #[.int .u8 13] 5 (1, 2))) fun e w' => e = .returned (.slice (some ⟨g5, 0, none⟩) (k - cr ((xs.drop c).take k)) c5) ∧ w' = wr.alloc (.cells #[.int .u8 13] 5 (1, 2))) :=
          trim_end g5 0 k c5 ((xs.drop c).take k) wr (by rw [List.length_take]; omega) ((HE.out.by_.drop c).take k) (by omega) (by omega) hg5' HCL5.out
        have hcv := conv24 wr
        have HLN : Hid (LN (wr.alloc (.cells #[.int .u8 13] 5 (1, 2))) s.ag s.ar g5 0 ((xs.drop c).take (k - cr ((xs.drop c).take k)))) := by
          rw [← e1, ← e2]
          refine ⟨fun j hj => ?_, by simp; omega, fun h1 => hx.rows.dal g5 h1 (by rw [hlg5]; rfl), fun h1 => hx.rows.dgl g5 h1 (by rw [hlg5]; rfl)⟩
          rw [List.length_take] at hj
          rw [World.cell?_alloc_lt _ _ ⟨g5, 0 + j, none⟩ hg5', HCL5.out j (by omega)]
          simp only [List.getD_eq_getElem?_getD, List.getElem?_take]
          rw [if_pos (by omega), if_pos (by omega)]
        have hg4 : g5 ≠ h + 4 := by omega
        have hkb : k ≤ 2000000 := by omega
        clear hrlk hx e1 e2 hrl hlk hol hlg5 hg5 hg5' HCL5
        go_wp2_with (go_at_call 66; refine HTR.out.mono ?_; rintro e w' ⟨rfl, rfl⟩)
        go_ret2
        refine ⟨_, _, rfl, HB.out.alloc (by have := HX2.out.ri.rs.lt; omega) _, .inl ⟨by rw [HRL.out], rfl, s2, (xs.drop c).take (k + 1), g5, 0, c5, ?_, HKP2.out.1, HKP2.out.2, hg4, by rw [HRL.out]; rfl, by rw [HRL.out]; show k ≤ c5; omega, ?_⟩⟩
        · rw [HRL.out]; exact HX2.out.alloc _
        · rw [HRL.out]; exact HLN.out
      · have HX2 : Hid (RX h D cap xs W0 wr s2 xs.length A vs args L2) := hx
        have HRL : Hid ((rl (xs.drop c)).2 = 2) := hrl2
        have hq := HEr.out.g.eql31
        have HUN : Hid (Calls Tryd.prog 64 #[.iface 160 (.pointer (some a3))] wr fun e w' => e = .returned (.iface 160 (.pointer (some a4))) ∧ w' = wr) := unexpected_eof HEr.out.g
        clear hx hrl2
        go_wp2_with (go_at_call 64; refine HUN.out.mono ?_; rintro e w' ⟨rfl, rfl⟩)
        go_ret2
        exact ⟨_, _, rfl, HB.out, .inr (.inr ⟨HRL.out, rfl, s2, L2, HX2.out⟩)⟩
end Go.Proofs.Qxb6605687aDoor

import Derived.Test.Qxb6604722aPar
import Derived.Deep.RegionHeld3
namespace Go.Proofs.Qxb6604722a
open Go.RowKit Lx
set_option maxHeartbeats 2000000
set_option maxRecDepth 100000
set_option linter.unusedSimpArgs false
set_option linter.unusedVariables false

section
variable {pb : Nat} {w0 w w' : World} {src : ByteArray} {mk : Bool} {pos md : Nat} {v : Value} {ts : List Tok} {nx : Nat} {en : Bool} {pe : Nat}
/-- The row, and the five cells of one token in it. -/
theorem ParW.at (h : ParW pb w0 w src mk pos md v ts nx en pe) (k : Nat) (hk : k < ts.length) (t : Tok) (ht : ts[k]? = some t) : ∃ g cap, v = .slice (some ⟨g, 0, none⟩) ts.length cap ∧
    w.cell? ⟨g, k * 5, none⟩ = some (.int .i64 t.kind) ∧ w.cell? ⟨g, k * 5 + 1, none⟩ = some (.int .i64 t.pos) ∧ w.cell? ⟨g, k * 5 + 2, none⟩ = some (.string t.text) ∧ w.cell? ⟨g, k * 5 + 3, none⟩ = some (.string t.val) ∧ w.cell? ⟨g, k * 5 + 4, none⟩ = some (.int .i64 t.n) := by
  rcases h.own.2 with ⟨_, h0⟩ | ⟨g, cap, cur, hv, hbg, hh, hncap, hcm, hcs, htk⟩
  · omega
  · have htk2 : ts[k] = t := by
      rw [List.getElem?_eq_getElem hk] at ht
      exact Option.some.inj ht
    obtain ⟨f0, f1, f2, f3, f4⟩ := flat_at ts k hk
    rw [htk2] at f0 f1 f2 f3 f4
    exact ⟨g, cap, hv, h.cell hv _ _ f0, h.cell hv _ _ f1, h.cell hv _ _ f2, h.cell hv _ _ f3, h.cell hv _ _ f4⟩
end

/-- A token's block, of whatever type. -/
def Blk (T : TypeId) (N : Nat) (w : World) : Prop := w.heap[N]? = some (.cells #[.int .i64 0, .int .i64 0, .string ⟨#[]⟩, .string ⟨#[]⟩, .int .i64 0] T (0, 0))
theorem Blk.cells {T : TypeId} {N : Nat} {w : World} (h : Blk T N w) : w.cell? ⟨N, 0, none⟩ = some (.int .i64 0) ∧ w.cell? ⟨N, 1, none⟩ = some (.int .i64 0) ∧ w.cell? ⟨N, 2, none⟩ = some (.string ⟨#[]⟩) ∧ w.cell? ⟨N, 3, none⟩ = some (.string ⟨#[]⟩) ∧ w.cell? ⟨N, 4, none⟩ = some (.int .i64 0) := by
  unfold Blk at h
  simp [World.cell?, h]
theorem Blk.free {T : TypeId} {N : Nat} {w : World} (h : Blk T N w) (o : Nat) : w.frozen? ⟨N, o, none⟩ = false := by
  unfold Blk at h
  simp [World.frozen?, h]
theorem Blk.alloc (T : TypeId) (w : World) : Blk T w.heap.size (w.alloc (.cells #[.int .i64 0, .int .i64 0, .string ⟨#[]⟩, .string ⟨#[]⟩, .int .i64 0] T)) := by
  unfold Blk
  show (w.heap.push _)[w.heap.size]? = _
  simp
theorem put5_of {N : Nat} {w : World} {T : TypeId} (h : Blk T N w) (v0 v1 v2 v3 v4 : Value) :
    (((((w.setCell ⟨N, 0, none⟩ v0).setCell ⟨N, 1, none⟩ v1).setCell ⟨N, 2, none⟩ v2).setCell ⟨N, 3, none⟩ v3).setCell ⟨N, 4, none⟩ v4).cell? ⟨N, 0, none⟩ = some v0 ∧
    (((((w.setCell ⟨N, 0, none⟩ v0).setCell ⟨N, 1, none⟩ v1).setCell ⟨N, 2, none⟩ v2).setCell ⟨N, 3, none⟩ v3).setCell ⟨N, 4, none⟩ v4).cell? ⟨N, 1, none⟩ = some v1 ∧
    (((((w.setCell ⟨N, 0, none⟩ v0).setCell ⟨N, 1, none⟩ v1).setCell ⟨N, 2, none⟩ v2).setCell ⟨N, 3, none⟩ v3).setCell ⟨N, 4, none⟩ v4).cell? ⟨N, 2, none⟩ = some v2 ∧
    (((((w.setCell ⟨N, 0, none⟩ v0).setCell ⟨N, 1, none⟩ v1).setCell ⟨N, 2, none⟩ v2).setCell ⟨N, 3, none⟩ v3).setCell ⟨N, 4, none⟩ v4).cell? ⟨N, 3, none⟩ = some v3 ∧
    (((((w.setCell ⟨N, 0, none⟩ v0).setCell ⟨N, 1, none⟩ v1).setCell ⟨N, 2, none⟩ v2).setCell ⟨N, 3, none⟩ v3).setCell ⟨N, 4, none⟩ v4).cell? ⟨N, 4, none⟩ = some v4 := by
  have o : ∀ (w : World) (i j : Nat) (v : Value), i ≠ j → (w.setCell ⟨N, i, none⟩ v).cell? ⟨N, j, none⟩ = w.cell? ⟨N, j, none⟩ := fun w i j v hij => World.cell?_setCell_other _ _ _ _ (by intro e; cases e; exact hij rfl)
  obtain ⟨t0, t1, t2, t3, t4⟩ := h.cells
  refine ⟨?_, ?_, ?_, ?_, ?_⟩
  · rw [o _ 4 0 _ (by decide), o _ 3 0 _ (by decide), o _ 2 0 _ (by decide), o _ 1 0 _ (by decide)]
    exact World.cell?_setCell_same _ _ _ t0
  · rw [o _ 4 1 _ (by decide), o _ 3 1 _ (by decide), o _ 2 1 _ (by decide)]
    exact World.cell?_setCell_same _ _ _ ((o _ 0 1 _ (by decide)).trans t1)
  · rw [o _ 4 2 _ (by decide), o _ 3 2 _ (by decide)]
    exact World.cell?_setCell_same _ _ _ ((o _ 1 2 _ (by decide)).trans ((o _ 0 2 _ (by decide)).trans t2))
  · rw [o _ 4 3 _ (by decide)]
    exact World.cell?_setCell_same _ _ _ ((o _ 2 3 _ (by decide)).trans ((o _ 1 3 _ (by decide)).trans ((o _ 0 3 _ (by decide)).trans t3)))
  · exact World.cell?_setCell_same _ _ _ ((o _ 3 4 _ (by decide)).trans ((o _ 2 4 _ (by decide)).trans ((o _ 1 4 _ (by decide)).trans ((o _ 0 4 _ (by decide)).trans t4))))

theorem parserState_any (pb : Nat) (w0 w : World) (src : ByteArray) (mk : Bool) (pos md : Nat) (v : Value) (ts : List Tok) (nx : Nat) (en : Bool) (pe : Nat) (h : ParW pb w0 w src mk pos md v ts nx en pe) :
    Calls Try.prog 20 #[.pointer (some ⟨pb, 0, none⟩)] w fun e w' => e = .returned (.tuple #[.int .i64 nx, .int .i64 ts.length, .int .i64 pe]) ∧ ∃ n, w' = w.drewN n := by
  have c5 := h.c5
  have c7 := h.c7
  have c4 := h.c4
  obtain ⟨ao, cap, hv⟩ : ∃ ao cap, v = .slice ao ts.length cap := by
    rcases h.own.2 with ⟨hv, h0⟩ | ⟨g, cap, cur, hv, _⟩
    · exact ⟨none, 0, by rw [hv, h0]⟩
    · exact ⟨_, cap, hv⟩
  subst hv
  clear h
  go_enter Try.func20, Try.ntmps20
  go_wp2
  go_quiet (fail)
  go_wp2
  go_ret3
  exact ⟨rfl, _, rfl⟩

theorem peek_any (pb : Nat) (w0 w : World) (src : ByteArray) (mk : Bool) (pos md : Nat) (v : Value) (ts : List Tok) (nx : Nat) (en : Bool) (pe : Nat) (h : ParW pb w0 w src mk pos md v ts nx en pe) (hl40 : ts.length ≤ 40) (t : Tok) (ht : ts[nx]? = some t) :
    Calls Try.prog 34 #[.pointer (some ⟨pb, 0, none⟩)] w fun e w' => e = .returned t.v ∧ Below w.heap.size w w' := by
  have hk : nx < ts.length := (List.getElem?_eq_some_iff.1 ht).1
  obtain ⟨g, cap, hv, f0, f1, f2, f3, f4⟩ := h.at nx hk t ht
  subst hv
  have c4 := h.c4
  have c5 := h.c5
  have n4 := World.new_ne w _ c4
  have n5 := World.new_ne w _ c5
  have m0 := World.new_ne w _ f0
  have m1 := World.new_ne w _ f1
  have m2 := World.new_ne w _ f2
  have m3 := World.new_ne w _ f3
  have m4 := World.new_ne w _ f4
  have b0 : (0 : Int) ≤ (nx : Int) := Int.natCast_nonneg _
  have b1 : (nx : Int) < (ts.length : Int) := by omega
  obtain ⟨k1, k2, k3, k4, k5⟩ := t
  simp only at f0 f1 f2 f3 f4
  clear h ht
  go_enter Try.func34, Try.ntmps34
  go_wp2
  go_region_held3 (fun w' => w'.cell? ⟨pb, 4, none⟩ = some (.slice (some ⟨g, 0, none⟩) ts.length cap) ∧ w'.cell? ⟨pb, 5, none⟩ = some (.int .i64 nx) ∧ w'.cell? ⟨g, nx * 5, none⟩ = some (.int .i64 k1) ∧ w'.cell? ⟨g, nx * 5 + 1, none⟩ = some (.int .i64 k2) ∧ w'.cell? ⟨g, nx * 5 + 2, none⟩ = some (.string k3) ∧ w'.cell? ⟨g, nx * 5 + 3, none⟩ = some (.string k4) ∧ w'.cell? ⟨g, nx * 5 + 4, none⟩ = some (.int .i64 k5)) (go_keep) (fail)
  all_goals go_wp2
  all_goals exact bodyPost_ret (v := Tok.v ⟨k1, k2, k3, k4, k5⟩) (by simp [results, Try.results34, go_sem, Tok.v]) rfl ⟨rfl, ((Below.refl _ _).alloc (Nat.le_refl _) _).drew⟩

theorem aheadAt_any (pb : Nat) (w0 w : World) (src : ByteArray) (mk : Bool) (pos md : Nat) (v : Value) (ts : List Tok) (nx : Nat) (en : Bool) (pe : Nat) (h : ParW pb w0 w src mk pos md v ts nx en pe) (hl40 : ts.length ≤ 40) (t : Tok) (ht : ts[nx]? = some t) :
    Calls Try.prog 25 #[.pointer (some ⟨pb, 0, none⟩), .int .i64 nx] w fun e w' => e = .returned t.tup ∧ Below w.heap.size w w' := by
  have hk : nx < ts.length := (List.getElem?_eq_some_iff.1 ht).1
  obtain ⟨g, cap, hv, f0, f1, f2, f3, f4⟩ := h.at nx hk t ht
  subst hv
  have c4 := h.c4
  obtain ⟨k1, k2, k3, k4, k5⟩ := t
  simp only at f0 f1 f2 f3 f4
  clear h ht
  go_enter Try.func25, Try.ntmps25
  go_wp2
  go_quiet (fail)
  go_wp2
  exact bodyPost_ret (v := Tok.tup ⟨k1, k2, k3, k4, k5⟩) (by simp [results, Try.results25, go_sem, Tok.tup]) rfl ⟨rfl, (show Below _ _ ((w.alloc _).drewN _) from ⟨rfl, rfl, rfl, by simp, fun k hk => Below.heap_alloc _ _ _ hk⟩)⟩

theorem shown_any (pb : Nat) (w0 w : World) (src : ByteArray) (mk : Bool) (pos md : Nat) (v : Value) (ts : List Tok) (nx : Nat) (en : Bool) (pe : Nat) (h : ParW pb w0 w src mk pos md v ts nx en pe) (hl40 : ts.length ≤ 40) (t : Tok) (ht : ts[nx]? = some t) :
    Calls Try.prog 18 #[.pointer (some ⟨pb, 0, none⟩)] w fun e w' => e = .returned (.tuple #[t.v, .bool true]) ∧ Below w.heap.size w w' := by
  have hk : nx < ts.length := (List.getElem?_eq_some_iff.1 ht).1
  have HP : Hid (ParW pb w0 w src mk pos md v ts nx en pe) := h
  have HT : Hid (ts[nx]? = some t) := ht
  clear h ht
  obtain ⟨k1, k2, k3, k4, k5⟩ := t
  go_enter Try.func18, Try.ntmps18
  go_wp2_with fail
  refine (parserState_any pb w0 _ src mk pos md v ts nx en pe (HP.out.alloc _)).mono ?_
  rintro e w1 ⟨rfl, n, hw1⟩
  have HP1 : Hid (ParW pb w0 w1 src mk pos md v ts nx en pe) := hw1 ▸ (HP.out.alloc _).drewN n
  have HB : Hid (Below w.heap.size w w1) := by rw [hw1]; exact ⟨rfl, rfl, rfl, by simp, fun k hk => Below.heap_alloc _ _ _ hk⟩
  have HK : Hid (Blk 35 w.heap.size w1) := by rw [hw1]; exact Blk.alloc 35 w
  have hN1 : w.heap.size < w1.heap.size := by rw [hw1]; simp
  clear hw1
  go_wp2_with fail
  refine (aheadAt_any pb w0 _ src mk pos md v ts nx en pe HP1.out hl40 _ HT.out).mono ?_
  rintro e w2 ⟨rfl, hb2⟩
  have HK2 : Hid (Blk 35 w.heap.size w2) := (hb2.block _ hN1).trans HK.out
  have HB2 : Hid (Below w.heap.size w w2) := HB.out.trans (hb2.mono (Nat.le_of_lt hN1))
  clear hb2 HK HB HP HP1 HT
  obtain ⟨t0, t1, t2, t3, t4⟩ := HK2.out.cells
  have tf := HK2.out.free
  obtain ⟨q0, q1, q2, q3, q4⟩ := put5_of HK2.out (.int .i64 k1) (.int .i64 k2) (.string k3) (.string k4) (.int .i64 k5)
  have HQ : Hid (_ ∧ _ ∧ _ ∧ _ ∧ _) := ⟨q0, q1, q2, q3, q4⟩
  clear q0 q1 q2 q3 q4
  unfold Tok.tup
  go_wp2
  obtain ⟨q0, q1, q2, q3, q4⟩ := HQ.out
  exact bodyPost_ret (v := .tuple #[Tok.v ⟨k1, k2, k3, k4, k5⟩, .bool true]) (by simp [results, Try.results18, go_sem, Tok.v, q0, q1, q2, q3, q4]) rfl ⟨rfl, ((((HB2.out.setCell (Nat.le_refl _) _).setCell (Nat.le_refl _) _).setCell (Nat.le_refl _) _).setCell (Nat.le_refl _) _).setCell (Nat.le_refl _) _⟩

end Go.Proofs.Qxb6604722a

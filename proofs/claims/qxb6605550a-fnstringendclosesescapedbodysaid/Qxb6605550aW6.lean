/- The search for the closing quote. -/
import Derived.Test.Qxb6605550aW5
namespace Go.Proofs.Qxb6605550a
open Go.RowKit Go.Deep Pl
set_option maxHeartbeats 4000000
set_option linter.unusedSimpArgs false
set_option linter.unusedVariables false

theorem bks_at_start (xs : List Int) (start : Nat) : bks xs start start = 0 := by
  cases start with
  | zero => rfl
  | succ n => rw [bks, if_neg (by omega)]

/-- What the search is told of the row, and what it finds. -/
structure Found (xs : List Int) (start E : Nat) : Prop where
  le : start ≤ E
  at_ : xs[E]? = some 34
  bytes : ∀ c ∈ xs, 0 ≤ c ∧ c ≤ 255
  quotes : ∀ i, start ≤ i → i < E → xs[i]? = some 34 → bks xs start i % 2 = 1
  last : bks xs start E % 2 = 0

set_option maxRecDepth 100000 in
theorem stringEnd_any (g cap : Nat) (xs : List Int) (start E : Nat) (w : World) (hF : Found xs start E) (hcap : xs.length ≤ cap) (hl : xs.length ≤ 1000000000)
    (hc : ∀ i, i < xs.length → w.cell? ⟨g, i, none⟩ = some (.int .u8 (xs.getD i 0))) :
    Calls Try.prog 23 #[.slice (some ⟨g, 0, none⟩) xs.length cap, .int .i64 start] w fun e w' => e = .returned (.int .i64 E) ∧ w' = w := by
  have hEl : E < xs.length := by
    have := (List.getElem?_eq_some_iff.1 hF.at_).1
    exact this
  have HF : Hid (Found xs start E) := hF
  have hle := hF.le
  clear hF
  generalize hn : xs.length = n at *
  go_enter Try.func23, Try.ntmps23
  go_wp2
  go_loopw [5] (fun sf wr => ∃ f : Nat, start ≤ f ∧ f ≤ E ∧ sf = .int .i64 f ∧ wr = w) (fun sf _ => E - (intOf sf).toNat)
  case atStart => exact ⟨start, Nat.le_refl _, hle, rfl, rfl⟩
  case round =>
    obtain ⟨f, hsf, hfE, rfl, rfl⟩ := hrel
    obtain ⟨k, hk, hkE, hk34⟩ := find_quote xs HF.out.bytes f E hfE HF.out.at_
    have hcut : ∀ i, i < (xs.drop f).length → wr.cell? ⟨g, f + i, none⟩ = some (.int .u8 ((xs.drop f).getD i 0)) := fun i hi => by
      simp at hi
      rw [hc (f + i) (by omega)]
      simp [List.getD_eq_getElem?_getD]
    have hcall := Try.bytes_IndexByte g f (n - f) (cap - f) (xs.drop f) 34 wr (by simp [hn]) (by rw [show (n - f) = (xs.drop f).length from by simp [hn]]; exact hcut)
    have hkk : Lib.indexByte (Lib.bytesOf (List.drop f xs)) (34 : Int).toNat.toUInt8 = k := hk
    rw [hkk] at hcall
    have HC : Hid (Calls Try.prog 27 #[.slice (some ⟨g, f, none⟩) (n - f) (cap - f), .int .u8 34] wr fun e w' => e = .returned (.int .i64 k) ∧ w' = wr) := hcall
    have hne : ¬ cap = f := by omega
    clear hcall hkk hk hcut
    go_wp2_with (go_at_call 27; refine HC.out.mono ?_; rintro e1 w1 ⟨rfl, rfl⟩)
    clear HC
    go_loopw [7, 8] (fun s7 s8 wr => ∃ c j : Nat, j + c = f + k ∧ start ≤ j ∧ Hid (bks xs start (f + k) = c + bks xs start j) ∧ s7 = .int .i64 c ∧ s8 = .int .i64 ((j : Int) - 1) ∧ wr = w1) (fun s7 _ _ => f + k - (intOf s7).toNat)
    case atStart => exact ⟨0, f + k, rfl, by omega, (Nat.zero_add _).symm, rfl, by go_num, rfl⟩
    case round =>
      obtain ⟨c, j, hjc, hsj, hb, rfl, rfl, rfl⟩ := hrel
      by_cases hj : start < j
      · obtain ⟨i, rfl⟩ : ∃ i, j = i + 1 := ⟨j - 1, by omega⟩
        rw [show ((i + 1 : Nat) : Int) - 1 = i from by omega]
        have hci := hc i (by omega)
        by_cases h92 : xs.getD i 0 = 92
        · rw [h92] at hci
          go_wp2
          refine ⟨⟨c + 1, i, by omega, by omega, ?_, by go_num, rfl, trivial⟩, by simp [intOf]; omega⟩
          have e1 : bks xs start (i + 1) = bks xs start i + 1 := by rw [bks, if_pos ⟨by omega, h92⟩]
          have e2 := hb.out
          show bks xs start (f + k) = c + 1 + bks xs start i
          omega
        · have e1 : bks xs start (i + 1) = 0 := by rw [bks, if_neg (fun q => h92 q.2)]
          have hbk : bks xs start (f + k) = c := by have := hb.out; omega
          have hpar : (f + k = E ∧ c % 2 = 0) ∨ (f + k < E ∧ c % 2 = 1) := by
            by_cases e : f + k = E
            · exact .inl ⟨e, by rw [← hbk, e]; exact HF.out.last⟩
            · exact .inr ⟨by omega, by rw [← hbk]; exact HF.out.quotes _ (by omega) (by omega) hk34⟩
          generalize xs.getD i 0 = q at hci h92
          rcases hpar with ⟨hE, hp⟩ | ⟨hE, hp⟩
          · go_wp2
            go_ret
            refine ⟨?_, rfl⟩
            show Ending.returned (.int .i64 ((k : Int) + f)) = Ending.returned (.int .i64 E)
            congr 2
            omega
          · go_wp2
            exact ⟨⟨f + k + 1, by omega, by omega, by go_num, trivial⟩, by simp [intOf]; omega⟩
      · obtain rfl : j = start := by omega
        have hbk : bks xs j (f + k) = c := by
          have h1 := hb.out
          have h2 := bks_at_start xs j
          omega
        have hpar : (f + k = E ∧ c % 2 = 0) ∨ (f + k < E ∧ c % 2 = 1) := by
          by_cases e : f + k = E
          · exact .inl ⟨e, by rw [← hbk, e]; exact HF.out.last⟩
          · exact .inr ⟨by omega, by rw [← hbk]; exact HF.out.quotes _ (by omega) (by omega) hk34⟩
        have hno : ¬ (j : Int) ≤ (j : Int) - 1 := by omega
        rcases hpar with ⟨hE, hp⟩ | ⟨hE, hp⟩
        · go_wp2
          go_ret
          refine ⟨?_, rfl⟩
          show Ending.returned (.int .i64 ((k : Int) + f)) = Ending.returned (.int .i64 E)
          congr 2
          omega
        · go_wp2
          exact ⟨⟨f + k + 1, by omega, by omega, by go_num, trivial⟩, by simp [intOf]; omega⟩

set_option maxRecDepth 100000 in
theorem stringEndZ_any (g cap : Nat) (xs : List Int) (start E : Nat) (w : World) (hF : Found xs start E) (hcap : xs.length ≤ cap) (hl : xs.length ≤ 1000000000)
    (hc : ∀ i, i < xs.length → w.cell? ⟨g, i, none⟩ = some (.int .u8 (xs.getD i 0))) :
    Calls Try.prog 10 #[.slice (some ⟨g, 0, none⟩) xs.length cap, .int .i64 start] w fun e w' => e = .returned (.int .i64 E) ∧ w' = w := by
  have H := stringEnd_any g cap xs start E w hF hcap hl hc
  clear hF hc
  go_enter Try.func10, Try.ntmps10
  go_wp2_with (go_at_call 23; refine H.mono ?_; rintro e1 w1 ⟨rfl, rfl⟩)
  go_ret
  exact ⟨rfl, rfl⟩
end Go.Proofs.Qxb6605550a

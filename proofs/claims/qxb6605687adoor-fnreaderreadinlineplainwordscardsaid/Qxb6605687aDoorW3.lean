/- bytes.IndexByte, bytes.TrimSuffix at one CR. -/
import Derived.Test.Qxb6605687aDoorW2
import Derived.Lib.BytesEntry
import Derived.Lib.Bytes
import Derived.Lib.Walk
import Derived.Lib.Slices
namespace Go.Proofs.Qxb6605687aDoor
open Go.RowKit
set_option maxHeartbeats 4000000
set_option maxRecDepth 100000
set_option linter.unusedSimpArgs false
set_option linter.unusedVariables false

theorem wrap_nat (x : Int) (n : Nat) (h : x = n) (hn : n ≤ 4000000000000) : IntKind.i64.wrap x = n := by
  subst h
  simp [IntKind.wrap, IntKind.bits, IntKind.signed]
  omega

/-- Every number is a byte. -/
def By (l : List Int) : Prop := ∀ x ∈ l, 0 ≤ x ∧ x ≤ 255
theorem By.take {l : List Int} (h : By l) (n : Nat) : By (l.take n) := fun x hx => h x (List.mem_of_mem_take hx)
theorem By.drop {l : List Int} (h : By l) (n : Nat) : By (l.drop n) := fun x hx => h x (List.mem_of_mem_drop hx)
theorem By.append {a b : List Int} (h : By a) (k : By b) : By (a ++ b) := fun x hx => (List.mem_append.1 hx).elim (h x) (k x)

/-- Where a byte first stands. -/
def fi : List Int → Int → Option Nat
  | [], _ => none
  | b :: l, c => if b = c then some 0 else (fi l c).map (· + 1)

theorem u8_eq (a b : Int) (ha : 0 ≤ a ∧ a ≤ 255) (hb : 0 ≤ b ∧ b ≤ 255) : (UInt8.ofNat a.toNat == UInt8.ofNat b.toNat) = decide (a = b) := by
  by_cases h : a = b
  · subst h; simp
  · rw [decide_eq_false h, beq_eq_false_iff_ne]
    intro e
    have := congrArg UInt8.toNat e
    simp at this
    omega

theorem fi_index : ∀ (l : List Int) (c : Int), By l → 0 ≤ c ∧ c ≤ 255 → Lib.indexByte (Lib.bytesOf l) (UInt8.ofNat c.toNat) = (match fi l c with | some k => (k : Int) | none => -1)
  | [], _, _, _ => rfl
  | b :: l, c, h, hc => by
    have ih := fi_index l c (fun x hx => h x (by simp [hx])) hc
    have hb := u8_eq b c (h b (by simp)) hc
    show (if (UInt8.ofNat b.toNat == UInt8.ofNat c.toNat) = true then (0 : Int) else if (Lib.indexByte (Lib.bytesOf l) (UInt8.ofNat c.toNat) == -1) = true then -1 else Lib.indexByte (Lib.bytesOf l) (UInt8.ofNat c.toNat) + 1) = _
    rw [ih, hb, fi]
    by_cases e : b = c
    · simp [e]
    · simp only [e, decide_false, Bool.false_eq_true, if_false]
      cases hf : fi l c with
      | none => simp
      | some k =>
        have : ¬ ((k : Int) = -1) := by omega
        simp [this]

theorem indexByte_is (b o n c : Nat) (xs : List Int) (cv : Int) (v : Int) (w : World) (hx : xs.length = n) (hb : By xs) (hcv : 0 ≤ cv ∧ cv ≤ 255)
    (hc : ∀ i, i < n → w.cell? ⟨b, o + i, none⟩ = some (.int .u8 (xs.getD i 0))) (hv : (match fi xs cv with | some k => (k : Int) | none => -1) = v) :
    Calls Tryd.prog 67 #[.slice (some ⟨b, o, none⟩) n c, .int .u8 cv] w fun e w' => e = .returned (.int .i64 v) ∧ w' = w := by
  rw [← hv, ← fi_index xs cv hb hcv]
  go_enter Tryd.func67, Tryd.ntmps67
  go_wp2
  rw [run_callFunc_extern Tryd.func93 (by kernel_rfl) (by kernel_rfl) (by kernel_rfl) (e := Extern.BytealgIndexByte.indexByte) (by kernel_rfl), Lib.run_indexByteSlice w b o n c xs hx hc cv]
  simp only [Result.andThen]
  rw [Oper.upon_value]
  go_wp2
  go_ret
  exact ⟨rfl, rfl⟩

theorem equal_any (v1 v2 : Value) (xs ys : List Int) (w : World)
    (h1 : (convert 24 9 v1).run Tryd.prog w = .ok (.string (strOfNums xs)) w) (h2 : (convert 24 9 v2).run Tryd.prog w = .ok (.string (strOfNums ys)) w) :
    Calls Tryd.prog 92 #[v1, v2] w fun e w' => e = .returned (.bool (Lib.bytesOf xs == Lib.bytesOf ys)) ∧ w' = w := by
  rw [← Lib.strOfNums_toList, ← Lib.strOfNums_toList]
  go_enter Tryd.func92, Tryd.ntmps92
  go_wp2
  go_ret
  exact ⟨rfl, rfl⟩

/-- The slice less a CR that ends it. -/
def cr (l : List Int) : Nat := if l.getLast? = some 13 then 1 else 0

theorem bytesOf_one (x y : Int) (hx : 0 ≤ x ∧ x ≤ 255) (hy : 0 ≤ y ∧ y ≤ 255) : (Lib.bytesOf [x] == Lib.bytesOf [y]) = decide (x = y) := by
  show ((UInt8.ofNat x.toNat == UInt8.ofNat y.toNat) && true) = _
  rw [Bool.and_true, u8_eq x y hx hy]

theorem hasSuffix_cr (b1 o1 n c b2 : Nat) (xs : List Int) (v : Bool) (w : World) (hx : xs.length = n) (hby : By xs) (hnc : n ≤ c) (hbig : n ≤ 2000000)
    (hc1 : ∀ i, i < n → w.cell? ⟨b1, o1 + i, none⟩ = some (.int .u8 (xs.getD i 0))) (hc2 : w.cell? ⟨b2, 0, none⟩ = some (.int .u8 13)) (hv : decide (xs.getLast? = some 13) = v) :
    Calls Tryd.prog 65 #[.slice (some ⟨b1, o1, none⟩) n c, .slice (some ⟨b2, 0, none⟩) 1 1] w fun e w' => e = .returned (.bool v) ∧ w' = w := by
  subst hv
  have g2 := run_convert_bytes_arg (P := Tryd.prog) w 24 5 Tryd.underlying24 Tryd.underlying5 b2 0 1 1 [13] rfl (fun i hi => by
      obtain rfl : i = 0 := by omega
      exact hc2) 9 Tryd.underlying9
  rcases Nat.eq_zero_or_pos n with h0 | hp
  · subst h0
    have hnil : xs = [] := List.length_eq_zero_iff.1 hx
    subst hnil
    go_enter Tryd.func65, Tryd.ntmps65
    go_wp2
    go_ret
    exact ⟨rfl, rfl⟩
  · have hsl := slice24_l b1 o1 n c (n - 1) (by omega) (by omega)
    have en : n - (n - 1) = 1 := by omega
    rw [en] at hsl
    have hlast : xs.getLast? = some (xs.getD (n - 1) 0) := by
      rw [List.getLast?_eq_getElem?, hx]
      simp [show n - 1 < xs.length by omega]
    have hbl : 0 ≤ xs.getD (n - 1) 0 ∧ xs.getD (n - 1) 0 ≤ 255 := hby _ (by simp [show n - 1 < xs.length by omega])
    have g1 := run_convert_bytes_arg (P := Tryd.prog) w 24 5 Tryd.underlying24 Tryd.underlying5 b1 (o1 + (n - 1)) 1 (c - (n - 1)) [xs.getD (n - 1) 0] rfl (fun i hi => by
      obtain rfl : i = 0 := by omega
      exact hc1 (n - 1) (by omega)) 9 Tryd.underlying9
    have hd : decide (xs.getLast? = some 13) = decide (xs.getD (n - 1) 0 = 13) := by rw [hlast]; simp
    rw [hd, ← bytesOf_one _ 13 hbl (by omega)]
    have HC : Hid (Calls Tryd.prog 92 #[.slice (some ⟨b1, o1 + (n - 1), none⟩) 1 (c - (n - 1)), .slice (some ⟨b2, 0, none⟩) 1 1] w fun e w' => e = .returned (.bool (Lib.bytesOf [xs.getD (n - 1) 0] == Lib.bytesOf [13])) ∧ w' = w) := equal_any _ _ _ _ w g1 g2
    clear g1 g2 hd hlast hbl
    generalize hz : (Lib.bytesOf [xs.getD (n - 1) 0] == Lib.bytesOf [13]) = z at *
    have hge : decide ((1 : Int) ≤ n) = true := by simp; omega
    have hsub : IntKind.i64.wrap ((n : Int) - 1) = ((n - 1 : Nat) : Int) := wrap_nat _ _ (by omega) (by omega)
    go_enter Tryd.func65, Tryd.ntmps65
    go_wp2_with fail
    refine HC.out.mono ?_
    rintro e w1 ⟨rfl, rfl⟩
    clear HC
    go_wp2
    go_ret
    exact ⟨rfl, rfl⟩

theorem trim_cr (b1 o1 n c b2 : Nat) (xs : List Int) (w : World) (hx : xs.length = n) (hby : By xs) (hnc : n ≤ c) (hbig : n ≤ 2000000)
    (hc1 : ∀ i, i < n → w.cell? ⟨b1, o1 + i, none⟩ = some (.int .u8 (xs.getD i 0))) (hc2 : w.cell? ⟨b2, 0, none⟩ = some (.int .u8 13)) :
    Calls Tryd.prog 66 #[.slice (some ⟨b1, o1, none⟩) n c, .slice (some ⟨b2, 0, none⟩) 1 1] w fun e w' => e = .returned (.slice (some ⟨b1, o1, none⟩) (n - cr xs) c) ∧ w' = w := by
  have HC : Hid (Calls Tryd.prog 65 #[.slice (some ⟨b1, o1, none⟩) n c, .slice (some ⟨b2, 0, none⟩) 1 1] w fun e w' => e = .returned (.bool (decide (xs.getLast? = some 13))) ∧ w' = w) := hasSuffix_cr b1 o1 n c b2 xs _ w hx hby hnc hbig hc1 hc2 rfl
  clear hc1 hc2
  by_cases hl : xs.getLast? = some 13
  · have hcr : cr xs = 1 := by simp [cr, hl]
    have hp : 0 < n := by
      rcases Nat.eq_zero_or_pos n with h0 | hp
      · rw [h0] at hx
        rw [List.length_eq_zero_iff.1 hx] at hl
        cases hl
      · exact hp
    rw [decide_eq_true hl] at HC
    rw [hcr]
    clear hcr hl
    have hsub : IntKind.i64.wrap ((n : Int) - 1) = ((n - 1 : Nat) : Int) := wrap_nat _ _ (by omega) (by omega)
    have hsl := slice24_h b1 o1 n c (n - 1) (by omega)
    go_enter Tryd.func66, Tryd.ntmps66
    go_wp2_with fail
    refine HC.out.mono ?_
    rintro e w1 ⟨rfl, rfl⟩
    clear HC
    go_wp2
    go_ret
    exact ⟨rfl, rfl⟩
  · have hcr : cr xs = 0 := by simp [cr, hl]
    rw [decide_eq_false hl] at HC
    rw [hcr]
    clear hcr hl
    go_enter Tryd.func66, Tryd.ntmps66
    go_wp2_with fail
    refine HC.out.mono ?_
    rintro e w1 ⟨rfl, rfl⟩
    clear HC
    go_wp2
    go_ret
    exact ⟨rfl, rfl⟩
end Go.Proofs.Qxb6605687aDoor

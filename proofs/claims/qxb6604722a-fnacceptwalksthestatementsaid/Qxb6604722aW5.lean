import Derived.Test.Qxb6604722aW4
import Derived.Test.Qxb6604722aLex4
import Derived.Laws.IdiomStrings
namespace Go.Proofs.Qxb6604722a
open Go.RowKit Lx
set_option maxHeartbeats 2000000
set_option maxRecDepth 100000
set_option linter.unusedSimpArgs false
set_option linter.unusedVariables false

theorem ret_str {a b : ByteArray} (h : a = b) : Ending.returned (.string a) = .returned (.string b) := by rw [h]

theorem bytesRow_cell (s : ByteArray) (cap : Nat) (w : World) (t : TypeId) (j : Nat) (h : j < s.size) :
    (w.alloc (.cells (bytesRow s cap) t ((bytesRow s cap).size, (bytesRow s cap).size + 1))).cell? ⟨w.heap.size, j, none⟩ = some (.int .u8 (bAt s j)) ∧
    (w.alloc (.cells (bytesRow s cap) t ((bytesRow s cap).size, (bytesRow s cap).size + 1))).frozen? ⟨w.heap.size, j, none⟩ = false := by
  have hh : (w.alloc (.cells (bytesRow s cap) t ((bytesRow s cap).size, (bytesRow s cap).size + 1))).heap[w.heap.size]? = some (.cells (bytesRow s cap) t ((bytesRow s cap).size, (bytesRow s cap).size + 1)) := by
    show (w.heap.push _)[w.heap.size]? = _
    simp
  have hsz : j < (bytesRow s cap).size := by
    unfold bytesRow
    rw [Array.size_append, Array.size_map]
    have : s.data.size = s.size := rfl
    omega
  constructor
  · unfold World.cell?
    rw [hh]
    have : (bytesRow s cap)[j]? = some (.int .u8 (bAt s j)) := by
      unfold bytesRow
      rw [Array.getElem?_append_left (by rw [Array.size_map]; exact h), bAt_eq s j h, Array.getElem?_map, Array.getElem?_eq_getElem h]
      rfl
    simpa using this
  · unfold World.frozen?
    rw [hh]
    simp
    omega

/-- What cell j holds when the first k are folded. -/
def part (s : ByteArray) (k j : Nat) : Int := if j < k then lowI (bAt s j) else bAt s j

theorem foldCase_any (s : ByteArray) (w : World) (hs : s.size ≤ maxLen) :
    Calls Try.prog 42 #[.string s] w fun e w' => e = .returned (.string (foldB s)) ∧ Below w.heap.size w w' := by
  unfold maxLen at hs
  have hB : ∀ (k : Nat) (h : k < s.size), ((s[k]'h).toNat : Int) = bAt s k := fun k h => (bAt_eq s k h).symm
  have kc := fun (w : World) => run_bytes_of_string (P := Try.prog) w 9 52 5 s Try.underlying9 Try.underlying52 Try.underlying5
  go_enter Try.func42, Try.ntmps42
  go_wp2
  go_loopg [3] (s.size + 1) (fun g v wr => w = wr ∧ ∃ k : Nat, k ≤ s.size ∧ s.size < g + k ∧ v = .int .i64 k ∧ Hid (∀ j, j < k → ¬ (65 ≤ bAt s j ∧ bAt s j ≤ 90)))
  case atStart => exact ⟨rfl, 0, Nat.zero_le _, by omega, rfl, fun j h => by omega⟩
  case round =>
    obtain ⟨rfl, k, hk, hg, rfl, hlow⟩ := hrel
    obtain ⟨m, rfl⟩ : ∃ m, gk = m + 1 := ⟨gk - 1, by omega⟩
    by_cases hlt : k < s.size
    · by_cases hu : 65 ≤ bAt s k ∧ bAt s k ≤ 90
      · obtain ⟨hu1, hu2⟩ := hu
        have hkne : ((k : Int) == (s.size : Int)) = false := beq_eq_false_iff_ne.2 (by omega)
        go_wp2
        have HB0 : Hid (∀ j, j < s.size → (w.alloc (.cells (bytesRow s (grownCap w s.size 0 5)) 5 ((bytesRow s (grownCap w s.size 0 5)).size, (bytesRow s (grownCap w s.size 0 5)).size + 1))).cell? ⟨w.heap.size, j, none⟩ = some (.int .u8 (bAt s j)) ∧
            (w.alloc (.cells (bytesRow s (grownCap w s.size 0 5)) 5 ((bytesRow s (grownCap w s.size 0 5)).size, (bytesRow s (grownCap w s.size 0 5)).size + 1))).frozen? ⟨w.heap.size, j, none⟩ = false) := fun j hj => bytesRow_cell s _ w 5 j hj
        clear kc
        generalize grownCap w s.size 0 5 = cap at HB0 ⊢
        go_loopg [3] (s.size + 1) (fun g v wx => ∃ i : Nat, i ≤ s.size ∧ s.size < g + i ∧ v = .int .i64 i ∧ Hid (∀ j, j < s.size → wx.cell? ⟨w.heap.size, j, none⟩ = some (.int .u8 (part s i j)) ∧ wx.frozen? ⟨w.heap.size, j, none⟩ = false) ∧ Hid (Below w.heap.size w wx))
        case atStart =>
          refine ⟨k, hk, by omega, rfl, fun j hj => ?_, ((Below.refl _ _).alloc (Nat.le_refl _) _).drew⟩
          have h := HB0.out j hj
          refine ⟨h.1.trans ?_, h.2⟩
          unfold part
          split
          · rw [lowI_no _ (hlow.out j (by assumption))]
          · rfl
        case round =>
          obtain ⟨i, hi, hgi, rfl, HC, HL⟩ := hrel
          obtain ⟨m', rfl⟩ : ∃ m', gk = m' + 1 := ⟨gk - 1, by omega⟩
          by_cases hli : i < s.size
          · obtain ⟨ci, fi⟩ := HC.out i hli
            have hpi : part s i i = bAt s i := if_neg (Nat.lt_irrefl _)
            rw [hpi] at ci
            clear hpi
            by_cases hv : 65 ≤ bAt s i ∧ bAt s i ≤ 90
            · obtain ⟨hv1, hv2⟩ := hv
              go_wp2
              go_roundg m'
              case rel =>
                refine ⟨i + 1, by omega, by omega, by go_num, fun j hj => ?_, HL.out.setCell (Nat.le_refl _) _⟩
                have h := HC.out j hj
                refine ⟨?_, (World.frozen?_setCell _ _ _ _).trans h.2⟩
                by_cases e : j = i
                · subst e
                  rw [World.cell?_setCell_same _ _ _ h.1]
                  unfold part
                  rw [if_pos (by omega), lowI_up _ hv1 hv2]
                · rw [World.cell?_setCell_other _ _ _ _ (by intro e'; cases e'; exact e rfl), h.1]
                  unfold part
                  by_cases hj' : j < i
                  · rw [if_pos hj', if_pos (by omega)]
                  · rw [if_neg hj', if_neg (by omega)]
              case measure => omega
            · have hrel' : Hid (∀ j, j < s.size → wr.cell? ⟨w.heap.size, j, none⟩ = some (.int .u8 (part s (i + 1) j)) ∧ wr.frozen? ⟨w.heap.size, j, none⟩ = false) := fun j hj => by
                have h := HC.out j hj
                refine ⟨h.1.trans ?_, h.2⟩
                unfold part
                by_cases hj' : j < i
                · rw [if_pos hj', if_pos (by omega)]
                · rw [if_neg hj']
                  by_cases e : j = i
                  · subst e
                    rw [if_pos (by omega), lowI_no _ hv]
                  · rw [if_neg (by omega)]
              by_cases hv1 : 65 ≤ bAt s i
              · have hv2 : ¬ bAt s i ≤ 90 := fun h => hv ⟨hv1, h⟩
                go_wp2
                go_roundg m'
                case rel => exact ⟨i + 1, by omega, by omega, by go_num, hrel', HL⟩
                case measure => omega
              · go_wp2
                go_roundg m'
                case rel => exact ⟨i + 1, by omega, by omega, by go_num, hrel', HL⟩
                case measure => omega
          · have hback := run_convert_bytes_back (P := Try.prog) wr 52 9 5 ⟨w.heap.size, 0, none⟩ cap (foldB s).data.toList Try.underlying52 Try.underlying5 Try.underlying9 (fun j hj => by
              have hj' : j < s.size := by rw [foldB_len] at hj; exact hj
              have h := HC.out j hj'
              rw [foldB_at s j hj]
              have ea : (⟨w.heap.size, 0, none⟩ : Addr).add j = ⟨w.heap.size, j, none⟩ := by unfold Addr.add; split <;> simp_all
              rw [ea, h.1]
              unfold part
              rw [if_pos (by omega)])
            rw [foldB_len] at hback
            have ef : (⟨(foldB s).data.toList.toArray⟩ : ByteArray) = foldB s := by simp
            rw [ef] at hback
            go_wp2
            go_ret
            exact ⟨rfl, HL.out⟩
      · have hstep : Hid (∀ j, j < k + 1 → ¬ (65 ≤ bAt s j ∧ bAt s j ≤ 90)) := fun j hj => by
          by_cases e : j = k
          · subst e; exact hu
          · exact hlow j (by omega)
        by_cases hu1 : 65 ≤ bAt s k
        · have hu2 : ¬ bAt s k ≤ 90 := fun h => hu ⟨hu1, h⟩
          clear hu
          go_wp2
          go_roundg m
          case rel => exact ⟨rfl, k + 1, by omega, by omega, by go_num, hstep⟩
          case measure => omega
        · clear hu
          go_wp2
          go_roundg m
          case rel => exact ⟨rfl, k + 1, by omega, by omega, by go_num, hstep⟩
          case measure => omega
    · have hks : k = s.size := by omega
      subst hks
      go_wp2
      go_ret
      exact ⟨ret_str (foldB_id s hlow).symm, Below.refl _ _⟩

end Go.Proofs.Qxb6604722a

import Derived.Test.Qxb6604722aW13
import Derived.Test.Qxb6604722aW15
namespace Go.Proofs.Qxb6604722a
open Go.RowKit Lx

theorem read_any (src : ByteArray) (mk : Bool) (hs : src.size ≤ 1048576) (b pos md : Nat) (w : World) (hp : pos ≤ src.size) (hmd : md ≤ 1048576) (hx : LexAt b w src pos mk md) :
    Calls Try.prog 32 #[.pointer (some ⟨b, 0, none⟩)] w (RPost b w src mk (readF src mk pos md)) := by
  by_cases hlt : pos < src.size
  · cases hw : wstB (bAt src pos) with
    | true => exact read_word b src pos mk md w hs hlt hw hx
    | false =>
      cases hn : numB src pos with
      | true => exact read_num b src pos mk md w hs hlt hw hn hx
      | false =>
        by_cases h39 : bAt src pos = 39
        · exact read_str b src pos mk md w hs hlt h39 hx
        · by_cases h34 : bAt src pos = 34
          · exact read_ident b src pos mk md w hs hlt h34 hx
          · by_cases h59 : bAt src pos = 59
            · exact read_semi b src pos mk md w hs hlt h59 hx
            · by_cases h58 : bAt src pos = 58 ∧ pre src pos [58, 58] = true
              · exact read_cast b src pos mk md w hs hlt h58.1 h58.2 hx
              · by_cases h63 : bAt src pos = 63 ∧ mk = true
                · exact read_marker b src pos mk md w hs hlt h63.1 h63.2 hmd hx
                · cases ho : opB mk (bAt src pos) with
                  | true =>
                    cases e63 : (bAt src pos == 63) with
                    | true =>
                      have hmk : mk = false := by
                        cases mk with
                        | false => rfl
                        | true => exact absurd ⟨by simpa using e63, rfl⟩ h63
                      exact read_op_yes b src pos mk md w hs hlt e63 hmk ho hx
                    | false => exact read_op_no b src pos mk md w hs hlt e63 ho hx
                  | false => exact read_punct b src pos mk md w hs hlt hw hn h39 h34 h59 h58 h63 ho hx
  · exact read_eof b src pos mk md w hs hlt hp hx

theorem nextOk (src : ByteArray) (mk : Bool) (hs : src.size ≤ 1048576) : NextOk src mk := fun b pos md w hp hmd hx =>
  next_of src mk (fun b pos md w hp hmd hx => read_any src mk hs b pos md w hp hmd hx) b pos md w hs hp hmd hx

end Go.Proofs.Qxb6604722a

/- PLAIN: what the parser reads ahead. -/
import Derived.Test.Qxb6604722aLex6
namespace Go.Proofs.Qxb6604722a.Lx
def endsB (k : Int) : Bool := k == 10 || k == 0
def eofT : Tok := { kind := 0, pos := 0, text := bs [], val := bs [], n := 0 }
def fill (s : ByteArray) (mk : Bool) : Nat → List Tok → Nat → Nat → List Tok × Bool × Nat × Nat
  | 0, ts, p, m => (ts, false, p, m)
  | n + 1, ts, p, m =>
    if ts.length < 32 then
      if endsB (nextF s mk p m).1.kind = true then (ts ++ List.replicate 5 eofT, true, (nextF s mk p m).2.1, (nextF s mk p m).2.2)
      else fill s mk n (ts ++ [(nextF s mk p m).1]) (nextF s mk p m).2.1 (nextF s mk p m).2.2
    else (ts, false, p, m)
theorem fill_full (s : ByteArray) (mk : Bool) (n : Nat) (ts : List Tok) (p m : Nat) (h : ¬ ts.length < 32) : fill s mk n ts p m = (ts, false, p, m) := by
  cases n with
  | zero => rfl
  | succ n => rw [fill, if_neg h]
theorem fill_end (s : ByteArray) (mk : Bool) (n : Nat) (ts : List Tok) (p m : Nat) (t : Tok) (p' m' : Nat) (h : ts.length < 32) (hn : nextF s mk p m = (t, p', m')) (he : endsB t.kind = true) : fill s mk (n + 1) ts p m = (ts ++ List.replicate 5 eofT, true, p', m') := by
  rw [fill, if_pos h, hn, if_pos he]
theorem fill_more (s : ByteArray) (mk : Bool) (n : Nat) (ts : List Tok) (p m : Nat) (t : Tok) (p' m' : Nat) (h : ts.length < 32) (hn : nextF s mk p m = (t, p', m')) (he : endsB t.kind = false) : fill s mk (n + 1) ts p m = fill s mk n (ts ++ [t]) p' m' := by
  rw [fill, if_pos h, hn, if_neg (by simp [he])]
end Go.Proofs.Qxb6604722a.Lx

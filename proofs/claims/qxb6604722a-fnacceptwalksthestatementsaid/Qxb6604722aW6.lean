import Derived.Test.Qxb6604722aW5
import Derived.StillTailTactics
import Derived.Deep.RegionWith
import Derived.BigRegion
namespace Go.Proofs.Qxb6604722a
open Go.RowKit Lx
set_option maxHeartbeats 2000000
set_option maxRecDepth 100000
set_option linter.unusedSimpArgs false
set_option linter.unusedVariables false

theorem mixed : Try.prog.follows .mixedOrders = true := by kernel_rfl

theorem still_tail {P : Program} {id : Nat} {Q : Exit → Act → World → Prop} {a : Act} {w : World} {l : List Oper} (n : Nat) (hm : P.follows .mixedOrders = true) (hB : Region.lexTailB .any l.toArray n = true)
    (h : wpStill P l.toArray w.drew (fun a' => wpList P l.toArray Q (l.drop n) a' w.drew) (l.take n) a) : (Code.region id l.toArray true).wp P Q a w :=
  wp_region_still_tail n hm hB h

theorem Lexed.below {b B : Nat} {a w w' : World} (h : Lexed b a w) (k : Below B w w') (hB : a.heap.size ≤ B) (hb : b < B) : Lexed b a w' where
  os := k.os.trans h.os
  tape := k.tape.trans h.tape
  output := k.output.trans h.output
  size := Nat.le_trans h.size k.size
  block := fun i hi hn => (k.block i (by omega)).trans (h.block i hi hn)
  cells := fun o h1 h3 => (k.cell (p := ⟨b, o, none⟩) hb).trans (h.cells o h1 h3)
  froz := fun o => (k.frozen (p := ⟨b, o, none⟩) hb).trans (h.froz o)

theorem BuilderAt.setBelow {T e : TypeId} {B c : Nat} {p : Value} {bs : List Value} {w : World} (h : Lib.BuilderAt T e B c p bs w) {a : Addr} (ha : a.block < B) (u : Value) : Lib.BuilderAt T e B c p bs (w.setCell a u) := by
  obtain ⟨hB, v, hb, hown, hne⟩ := h
  exact ⟨hB, v, (Below.heap_setCell _ _ _ _ (by omega)).trans hb, ownsRow_setCell_below hown ha u, hne⟩
theorem IsBuilder.setBelow {T e : TypeId} {B c : Nat} {bs : List Value} {w : World} (h : Lib.IsBuilder T e B c bs w) {a : Addr} (ha : a.block < B) (u : Value) : Lib.IsBuilder T e B c bs (w.setCell a u) :=
  h.elim (fun x => .inl (BuilderAt.setBelow x ha u)) (fun x => .inr (BuilderAt.setBelow x ha u))
theorem IsBuilder.drewN {T e : TypeId} {B c : Nat} {bs : List Value} {w : World} (h : Lib.IsBuilder T e B c bs w) (n : Nat) : Lib.IsBuilder T e B c bs (w.drewN n) := h
theorem builder_new (w : World) : Lib.IsBuilder 62 5 w.heap.size w.heap.size (Lib.byteCells []) (w.alloc (.cells #[.pointer none, .slice none 0 0] 62)) := by
  refine .inl ⟨Nat.le_refl _, .slice none 0 0, ?_, World.ownsRow_nil _ _ _ _, by simp [Value.ownBlock]⟩
  show (w.heap.push _)[w.heap.size]? = _
  simp

theorem indexByte_is (s : ByteArray) (i : Nat) (q : Int) (q8 : UInt8) (v : Int) (w : World) (hq : q = q8.toNat) (hv : idx s i q8 = v) :
    Calls Try.prog 27 #[.string (s.extract i s.size), .int .u8 q] w fun e w' => e = .returned (.int .i64 v) ∧ w' = w := by
  subst hv hq
  have h := indexByte_at s i (q8.toNat : Int) w
  have e : ((q8.toNat : Int).toNat.toUInt8) = q8 := by simp
  rw [e] at h
  exact h

/-- What the loop of 'quoted' keeps: the lexer at p, the token's block N and the builder's N + 1. -/
structure QuW (b : Nat) (w wr : World) (src : ByteArray) (p : Nat) (mk : Bool) (md : Nat) (acc : List UInt8) : Prop where
  lex : LexAt b wr src p mk md
  led : Lexed b w wr
  tok : TokBlk w.heap.size wr
  bld : Lib.IsBuilder 62 5 (w.heap.size + 1) (w.heap.size + 1) (Lib.byteCells acc) wr
  big : w.heap.size + 1 < wr.heap.size

theorem QuW.start {b : Nat} {w : World} {src : ByteArray} {pos : Nat} {mk : Bool} {md : Nat} (hx : LexAt b w src pos mk md) (v : Int) (hv : v = (pos + 1 : Nat)) :
    QuW b w (((w.setCell ⟨b, 1, none⟩ (.int .i64 v)).alloc (.cells #[.int .i64 0, .int .i64 0, .string ⟨#[]⟩, .string ⟨#[]⟩, .int .i64 0] 50)).alloc (.cells #[.pointer none, .slice none 0 0] 62)) src (pos + 1) mk md [] := by
  have hlb := hx.lt
  have hsz : (w.setCell ⟨b, 1, none⟩ (.int .i64 v)).heap.size = w.heap.size := by simp [World.setCell]
  have hx1 := hx.set1 (pos + 1) v hv
  have h1 := hx1.of_block (Below.heap_alloc _ (.cells #[.int .i64 0, .int .i64 0, .string ⟨#[]⟩, .string ⟨#[]⟩, .int .i64 0] 50) _ hx1.lt)
  have hl0 : Lexed b w (w.setCell ⟨b, 1, none⟩ (.int .i64 v)) := (Lexed.refl _ _).set 1 (.inl rfl) _
  have hl1 := hl0.alloc hx1.lt (.cells #[.int .i64 0, .int .i64 0, .string ⟨#[]⟩, .string ⟨#[]⟩, .int .i64 0] 50)
  have ht := TokBlk.alloc (w.setCell ⟨b, 1, none⟩ (.int .i64 v))
  rw [hsz] at ht
  generalize hW : (w.setCell ⟨b, 1, none⟩ (.int .i64 v)).alloc (.cells #[.int .i64 0, .int .i64 0, .string ⟨#[]⟩, .string ⟨#[]⟩, .int .i64 0] 50) = W at *
  have hWs : W.heap.size = w.heap.size + 1 := by rw [← hW]; simp [hsz]
  have hbn := builder_new W
  rw [hWs] at hbn
  exact ⟨h1.of_block (Below.heap_alloc _ _ _ h1.lt), hl1.alloc h1.lt _, (Below.heap_alloc _ _ _ (by omega)).trans ht, hbn, by simp [hWs]⟩

/-- Behind a look at the builder, which may lay marks on her own rows. -/
structure QuE (b : Nat) (w wr : World) (src : ByteArray) (p : Nat) (mk : Bool) (md : Nat) : Prop where
  lex : LexAt b wr src p mk md
  led : Lexed b w wr
  tok : TokBlk w.heap.size wr
theorem QuW.drewN {b : Nat} {w wr : World} {src : ByteArray} {p : Nat} {mk : Bool} {md : Nat} {acc : List UInt8} (h : QuW b w wr src p mk md acc) (n : Nat) : QuW b w (wr.drewN n) src p mk md acc :=
  ⟨h.lex.drewN n, h.led.drewN n, h.tok, h.bld, h.big⟩
theorem QuW.drew {b : Nat} {w wr : World} {src : ByteArray} {p : Nat} {mk : Bool} {md : Nat} {acc : List UInt8} (h : QuW b w wr src p mk md acc) : QuW b w wr.drew src p mk md acc := h.drewN 1
theorem QuW.move {b : Nat} {w wr : World} {src : ByteArray} {p : Nat} {mk : Bool} {md : Nat} {acc : List UInt8} (h : QuW b w wr src p mk md acc) (hb : b < w.heap.size) (p' : Nat) (v : Int) (hv : v = p') : QuW b w (wr.setCell ⟨b, 1, none⟩ (.int .i64 v)) src p' mk md acc :=
  ⟨h.lex.set1 p' v hv, h.led.set 1 (.inl rfl) _, (Below.heap_setCell _ _ _ _ (by show _ ≠ b; omega)).trans h.tok, IsBuilder.setBelow h.bld (by show b < _; omega) _, by simpa [World.setCell] using h.big⟩
/-- Behind a write to the builder. -/
theorem QuW.wrote {b : Nat} {w wr w' : World} {src : ByteArray} {p : Nat} {mk : Bool} {md : Nat} {acc acc' : List UInt8} (h : QuW b w wr src p mk md acc) (hb : b < w.heap.size) {bs' : List Value}
    (k : Below (w.heap.size + 1) wr w') (hw : Lib.BuilderAt 62 5 (w.heap.size + 1) (w.heap.size + 1) (.pointer (some ⟨w.heap.size + 1, 0, none⟩)) bs' w') (e : bs' = Lib.byteCells acc') : QuW b w w' src p mk md acc' :=
  ⟨h.lex.of_below k (by omega), h.led.below k (by omega) (by omega), (k.block _ (by omega)).trans h.tok, .inr (e ▸ hw), Nat.lt_of_lt_of_le h.big k.size⟩

theorem QuW.sure {b : Nat} {w wr w' : World} {src : ByteArray} {p : Nat} {mk : Bool} {md : Nat} {acc : List UInt8} (h : QuW b w wr src p mk md acc) (hb : b < w.heap.size)
    (k : Below (w.heap.size + 1) wr w') : QuE b w w' src p mk md :=
  ⟨h.lex.of_below k (by omega), h.led.below k (by omega) (by omega), (k.block _ (by omega)).trans h.tok⟩

theorem quTok_some {s : ByteArray} {p : Nat} {kind : Int} {q : UInt8} {msg : ByteArray} {l : List UInt8} {r : Nat} (h : quF s q s.size (p + 1) [] = some (l, r)) :
    quTok s p kind q msg = ({ kind := kind, pos := 0, text := s.extract p r, val := ⟨l.toArray⟩, n := 0 }, r) := by
  unfold quTok
  rw [h]
theorem quTok_none {s : ByteArray} {p : Nat} {kind : Int} {q : UInt8} {msg : ByteArray} (h : quF s q s.size (p + 1) [] = none) :
    quTok s p kind q msg = ({ kind := 11, pos := 0, text := s.extract p s.size, val := msg, n := 0 }, s.size) := by
  unfold quTok
  rw [h]

theorem quoted_any (b : Nat) (src : ByteArray) (pos : Nat) (mk : Bool) (md : Nat) (kind q : Int) (q8 : UInt8) (msg : ByteArray) (w : World) (hq : q = q8.toNat) (hs : src.size ≤ 1048576) (hp : pos < src.size) (hx : LexAt b w src pos mk md) :
    Calls Try.prog 22 #[.pointer (some ⟨b, 0, none⟩), .int .i64 kind, .int .u8 q, .string msg] w fun e w' =>
      e = .returned (quTok src pos kind q8 msg).1.v ∧ LexAt b w' src (quTok src pos kind q8 msg).2 mk md ∧ Lexed b w w' := by
  have hlb := hx.lt
  obtain ⟨T, hT⟩ : ∃ T, quF src q8 src.size (pos + 1) [] = T := ⟨_, rfl⟩
  obtain ⟨R, hR⟩ : ∃ R, quTok src pos kind q8 msg = R := ⟨_, rfl⟩
  rw [hR]
  have HT : Hid (quF src q8 src.size (pos + 1) [] = T) := hT
  have HR : Hid (quTok src pos kind q8 msg = R) := hR
  have HQ : Hid (q = q8.toNat) := hq
  have hq0 : 0 ≤ q := by omega
  have hq1 : q ≤ 255 := by have := q8.toNat_lt; omega
  clear hT hR hq
  have hB : ∀ (k : Nat) (h : k < src.size), ((src[k]'h).toNat : Int) = bAt src k := fun k h => (bAt_eq src k h).symm
  have c0 := hx.c0
  have c1 := hx.c1
  have f1 := hx.f1
  go_enter Try.func22, Try.ntmps22
  go_wp2
  have HS : Hid (QuW b w (((w.setCell ⟨b, 1, none⟩ (.int .i64 ((pos : Int) + 1))).alloc (.cells #[.int .i64 0, .int .i64 0, .string ⟨#[]⟩, .string ⟨#[]⟩, .int .i64 0] 50)).alloc (.cells #[.pointer none, .slice none 0 0] 62)) src (pos + 1) mk md []) := QuW.start hx _ (by omega)
  clear c0 c1 f1
  go_loopg [11] src.size (fun g v11 wr => ∃ (p : Nat) (acc : List UInt8), p ≤ src.size ∧ pos < p ∧ acc.length + pos + 1 ≤ p ∧ src.size ≤ g + p ∧ Hid (quF src q8 g p acc = T) ∧ Hid (QuW b w wr src p mk md acc))
  case atStart => exact ⟨pos + 1, [], by omega, by omega, by simp, by omega, HT, HS⟩
  case round =>
    clear HS
    obtain ⟨p, acc, hp', hpp, hacc, hn, hF, HW⟩ := hrel
    have c0 := HW.out.lex.c0
    have c1 := HW.out.lex.c1
    have f1 := HW.out.lex.f1
    by_cases hi : idx src p q8 < 0
    · have HF : Hid (none = T) := (quF_none src q8 gk p acc hi).symm.trans hF.out
      obtain ⟨v, hv⟩ : ∃ v, idx src p q8 = v := ⟨_, rfl⟩
      rw [hv] at hi
      have HV : Hid (idx src p q8 = v) := hv
      clear hF hv
      obtain ⟨t0, t1, t2, t3, t4⟩ := HW.out.tok.cells
      have tf := HW.out.tok.free
      go_wp2
      go_quiet ((go_at_call 27; exact Calls.quiet_of_same (indexByte_is _ _ _ q8 v _ HQ.out HV.out)))
      go_wp2
      have hR : R = ({ kind := 11, pos := 0, text := src.extract pos src.size, val := msg, n := 0 }, src.size) := by rw [← HR.out]; exact quTok_none (HT.out.trans HF.out.symm)
      subst hR
      have HW3 := (HW.out.drewN nq).move hlb src.size (src.size : Int) rfl
      obtain ⟨q0, q1, q2, q3, q4⟩ := put5_cells HW3.tok (.int .i64 11) (.int .i64 0) (.string (src.extract pos src.size)) (.string msg) (.int .i64 0)
      refine bodyPost_ret (v := Tok.v { kind := 11, pos := 0, text := src.extract pos src.size, val := msg, n := 0 }) (by simp [results, Try.results22, go_sem, Tok.v, q0, q1, q2, q3, q4]) rfl ⟨rfl, ?_, ?_⟩
      · exact HW3.lex.of_block (put5_block _ _ _ _ _ _ _ _ (by omega))
      · exact HW3.led.put5 hlb (Nat.le_refl _) _ _ _ _ _
    · obtain ⟨e, he⟩ : ∃ e : Nat, idx src p q8 = e := ⟨(idx src p q8).toNat, by omega⟩
      have hb2 := (idx_bd src p q8).2 (by omega)
      rw [he] at hb2
      have hes : quF src q8 gk p acc = T := hF.out
      have HE : Hid (idx src p q8 = e) := he
      obtain ⟨m, rfl⟩ : ∃ m, gk = m + 1 := ⟨gk - 1, by omega⟩
      have FS := quF_some src q8 m p acc hi
      have FO := quF_on src q8 m p acc hi
      have hen : (idx src p q8).toNat = e := by omega
      rw [hen] at FS FO
      have HFS : Hid (src.size ≤ p + e + 1 ∨ ¬ bAt src (p + e + 1) = q8.toNat → some (acc ++ (src.extract p (p + e)).data.toList, p + e + 1) = T) := fun h => (FS h).symm.trans hes
      have HFO : Hid (¬ (src.size ≤ p + e + 1 ∨ ¬ bAt src (p + e + 1) = q8.toNat) → quF src q8 m (p + e + 2) (acc ++ (src.extract p (p + e)).data.toList ++ [q8]) = T) := fun h => (FO h).symm.trans hes
      clear FS FO hen hes hF he hi
      go_wp2
      go_quiet ((go_at_call 27; exact Calls.quiet_of_same (indexByte_is _ _ _ q8 e _ HQ.out HE.out)))
      go_wp2
      have hsl := fun wx => run_slice_string (P := Try.prog) (w := wx) 9 src .i64 .i64 p ((p : Int) + e) Try.underlying9 (by omega) (by omega) (by omega)
      rw [show ((p : Int) + e).toNat = p + e from by omega, Int.toNat_natCast] at hsl
      have hwr : IntKind.i64.wrap ((p : Int) + e) = (p : Int) + e := IntWalk.i64_in _ (by omega)
      refine still_tail 15 mixed (by kernel_rfl) ?_
      simp only [List.take_succ_cons, List.take_zero, List.drop_succ_cons, List.drop_zero]
      repeat still_step
      refine wpStill_nil ?_
      clear hsl hwr
      go_wp2_with fail
      have hex : (src.extract p (p + e)).size = e := by
        have h1 : (src.extract p (p + e)).size = min (p + e) src.size - p := ByteArray.size_extract
        omega
      refine (Try.Builder_WriteString (w.heap.size + 1) (w.heap.size + 1) (Lib.byteCells acc) (src.extract p (p + e)) _ (HW.out.drewN _).bld ?hl ?hB).mono ?_
      case hl => rw [Lib.byteCells_length, hex]; omega
      case hB => exact Nat.le_of_lt (HW.out.drewN _).big
      rintro ee w1 ⟨rfl, hbd, hbel⟩
      clear hex
      have HW1 : Hid (QuW b w w1 src p mk md (acc ++ (src.extract p (p + e)).data.toList)) := (HW.out.drewN _).wrote hlb hbel hbd (by simp [Lib.byteCells])
      clear hbd hbel HW c0 c1 f1
      have hl2 : (acc ++ (src.extract p (p + e)).data.toList).length = acc.length + e := by
        rw [List.length_append, ext_len _ _ _ (by omega)]; omega
      have HL2 : Hid ((acc ++ (src.extract p (p + e)).data.toList).length = acc.length + e) := hl2
      clear hl2
      generalize acc ++ (src.extract p (p + e)).data.toList = acc1 at HW1 HFS HFO HL2
      have c0 := HW1.out.lex.c0
      have c1 := HW1.out.lex.c1
      have f1 := HW1.out.lex.f1
      by_cases h1 : src.size ≤ p + e + 1
      · have HF : Hid (some (acc1, p + e + 1) = T) := HFS.out (.inl h1)
        clear HFS HFO
        have hd : decide ((src.size : Int) ≤ (p : Int) + ((e : Int) + 1)) = true := by simp; omega
        go_wp2
        go_quiet (fail)
        go_wp2
        have HW3 := HW1.out.move hlb (p + e + 1) ((p : Int) + ((e : Int) + 1)) (by omega)
        have HW4 : Hid (QuW b w ((w1.setCell ⟨b, 1, none⟩ (.int .i64 ((p : Int) + ((e : Int) + 1)))).drewN nq) src (p + e + 1) mk md acc1) := HW3.drewN nq
        clear HW3 HW1 c0 c1 f1
        generalize (w1.setCell ⟨b, 1, none⟩ (.int .i64 ((p : Int) + ((e : Int) + 1)))).drewN nq = W at HW4 ⊢
        obtain ⟨r, hr⟩ : ∃ r : Nat, p + e + 1 = r := ⟨_, rfl⟩
        rw [hr] at HW4 HF
        have hr1 : r ≤ src.size := by omega
        have hr2 : pos ≤ r := by omega
        clear hr
        have hsl := fun wx => run_slice_string (P := Try.prog) (w := wx) 9 src .i64 .i64 pos r Try.underlying9 (by omega) (by omega) (by omega)
        simp only [Int.toNat_natCast] at hsl
        have c0 := HW4.out.lex.c0
        have c1 := HW4.out.lex.c1
        obtain ⟨t0, t1, t2, t3, t4⟩ := HW4.out.tok.cells
        have tf := HW4.out.tok.free
        go_region_with (go_at_call 30; refine (Try.Builder_String_any (w.heap.size + 1) (w.heap.size + 1) acc1 _ ?_ ?_).mono ?_; exact HW4.out.drew.bld; exact Nat.le_of_lt HW4.out.drew.big; rintro e2 w2 ⟨rfl, hbel⟩; have HW5 : QuE b w w2 src r mk md := HW4.out.drew.sure hlb hbel; have c0' := HW5.lex.c0; have c1' := HW5.lex.c1; obtain ⟨t0', t1', t2', t3', t4'⟩ := HW5.tok.cells; have tf' := HW5.tok.free)
        all_goals
          go_wp2
          have hR : R = ({ kind := kind, pos := 0, text := src.extract pos r, val := ⟨acc1.toArray⟩, n := 0 }, r) := by rw [← HR.out]; exact quTok_some (HT.out.trans HF.out.symm)
          subst hR
          obtain ⟨q0, q1, q2, q3, q4⟩ := put5_cells HW5.tok (.int .i64 kind) (.int .i64 0) (.string (src.extract pos r)) (.string ⟨acc1.toArray⟩) (.int .i64 0)
          refine bodyPost_ret (v := Tok.v { kind := kind, pos := 0, text := src.extract pos r, val := ⟨acc1.toArray⟩, n := 0 }) (by simp [results, Try.results22, go_sem, Tok.v, q0, q1, q2, q3, q4]) rfl ⟨rfl, ?_, ?_⟩
          · exact HW5.lex.of_block (put5_block _ _ _ _ _ _ _ _ (by omega))
          · exact HW5.led.put5 hlb (Nat.le_refl _) _ _ _ _ _
      · by_cases h2 : bAt src (p + e + 1) = q8.toNat
        · have HF : Hid (quF src q8 m (p + e + 2) (acc1 ++ [q8]) = T) := HFO.out (by omega)
          clear HFS HFO
          have hd : decide ((src.size : Int) ≤ (p : Int) + ((e : Int) + 1)) = false := by simp; omega
          have hbt : (bAt src (p + (e + 1)) != q) = false := by
            rw [show p + (e + 1) = p + e + 1 from by omega, h2, ← HQ.out]; simp
          clear h2
          go_wp2
          go_quiet (fail)
          go_wp2_with fail
          have HW3 := (HW1.out.move hlb (p + e + 1) ((p : Int) + ((e : Int) + 1)) (by omega)).drewN nq
          have hbl : (Lib.byteCells acc1).length + 1 ≤ 140737488355328 := by have := HL2.out; rw [Lib.byteCells_length]; omega
          refine (Try.Builder_WriteByte (w.heap.size + 1) (w.heap.size + 1) (Lib.byteCells acc1) q _ HW3.bld hbl (Nat.le_of_lt HW3.big)).mono ?_
          rintro ee w2 ⟨rfl, hbd, hbel⟩
          have HW5 : Hid (QuW b w w2 src (p + e + 1) mk md (acc1 ++ [q8])) := HW3.wrote hlb hbel hbd (by simp [Lib.byteCells, HQ.out])
          clear hbd hbel HW3 HW1 c0 c1 f1 hbl
          have c1 := HW5.out.lex.c1
          have f1 := HW5.out.lex.f1
          go_wp2
          go_roundg m
          case rel => exact ⟨p + e + 2, acc1 ++ [q8], by omega, by omega, by have := HL2.out; simp; omega, by omega, HF, HW5.out.move hlb (p + e + 2) _ (by omega)⟩
          case measure => omega
        · have HF : Hid (some (acc1, p + e + 1) = T) := HFS.out (.inr h2)
          clear HFS HFO
          have hd : decide ((src.size : Int) ≤ (p : Int) + ((e : Int) + 1)) = false := by simp; omega
          have hbt : (bAt src (p + (e + 1)) != q) = true := by
            rw [show p + (e + 1) = p + e + 1 from by omega, HQ.out]; simpa using h2
          clear h2
          go_wp2
          go_quiet (fail)
          go_wp2
          have HW3 := HW1.out.move hlb (p + e + 1) ((p : Int) + ((e : Int) + 1)) (by omega)
          have HW4 : Hid (QuW b w ((w1.setCell ⟨b, 1, none⟩ (.int .i64 ((p : Int) + ((e : Int) + 1)))).drewN nq) src (p + e + 1) mk md acc1) := HW3.drewN nq
          clear HW3 HW1 c0 c1 f1
          generalize (w1.setCell ⟨b, 1, none⟩ (.int .i64 ((p : Int) + ((e : Int) + 1)))).drewN nq = W at HW4 ⊢
          obtain ⟨r, hr⟩ : ∃ r : Nat, p + e + 1 = r := ⟨_, rfl⟩
          rw [hr] at HW4 HF
          have hr1 : r ≤ src.size := by omega
          have hr2 : pos ≤ r := by omega
          clear hr
          have hsl := fun wx => run_slice_string (P := Try.prog) (w := wx) 9 src .i64 .i64 pos r Try.underlying9 (by omega) (by omega) (by omega)
          simp only [Int.toNat_natCast] at hsl
          have c0 := HW4.out.lex.c0
          have c1 := HW4.out.lex.c1
          obtain ⟨t0, t1, t2, t3, t4⟩ := HW4.out.tok.cells
          have tf := HW4.out.tok.free
          go_region_with (go_at_call 30; refine (Try.Builder_String_any (w.heap.size + 1) (w.heap.size + 1) acc1 _ ?_ ?_).mono ?_; exact HW4.out.drew.bld; exact Nat.le_of_lt HW4.out.drew.big; rintro e2 w2 ⟨rfl, hbel⟩; have HW5 : QuE b w w2 src r mk md := HW4.out.drew.sure hlb hbel; have c0' := HW5.lex.c0; have c1' := HW5.lex.c1; obtain ⟨t0', t1', t2', t3', t4'⟩ := HW5.tok.cells; have tf' := HW5.tok.free)
          all_goals
            go_wp2
            have hR : R = ({ kind := kind, pos := 0, text := src.extract pos r, val := ⟨acc1.toArray⟩, n := 0 }, r) := by rw [← HR.out]; exact quTok_some (HT.out.trans HF.out.symm)
            subst hR
            obtain ⟨q0, q1, q2, q3, q4⟩ := put5_cells HW5.tok (.int .i64 kind) (.int .i64 0) (.string (src.extract pos r)) (.string ⟨acc1.toArray⟩) (.int .i64 0)
            refine bodyPost_ret (v := Tok.v { kind := kind, pos := 0, text := src.extract pos r, val := ⟨acc1.toArray⟩, n := 0 }) (by simp [results, Try.results22, go_sem, Tok.v, q0, q1, q2, q3, q4]) rfl ⟨rfl, ?_, ?_⟩
            · exact HW5.lex.of_block (put5_block _ _ _ _ _ _ _ _ (by omega))
            · exact HW5.led.put5 hlb (Nat.le_refl _) _ _ _ _ _

end Go.Proofs.Qxb6604722a

/- PLAIN: the parser holds the stream of tokens. (PSt, stepS, startS come with the walks; no walk is in here.) -/
import Derived.Test.Qxb6604722aP4
namespace Go.Proofs.Qxb6604722a
open Lx
set_option linter.unusedVariables false

/-- From (p, m) the lexer reads the tokens l, none of which ends the statement, and is then at (q, r). -/
def Runs (src : ByteArray) (mk : Bool) : Nat → Nat → List Tok → Nat → Nat → Prop
  | p, m, [], q, r => p = q ∧ m = r
  | p, m, t :: l, q, r => (nextF src mk p m).1 = t ∧ endsB t.kind = false ∧ Runs src mk (nextF src mk p m).2.1 (nextF src mk p m).2.2 l q r
theorem Runs.append {src : ByteArray} {mk : Bool} : ∀ {l : List Tok} {l2 : List Tok} {p m q r u v : Nat}, Runs src mk p m l q r → Runs src mk q r l2 u v → Runs src mk p m (l ++ l2) u v
  | [], l2, p, m, q, r, u, v, h, k => by obtain ⟨rfl, rfl⟩ := h; exact k
  | t :: l, l2, p, m, q, r, u, v, h, k => ⟨h.1, h.2.1, Runs.append h.2.2 k⟩

/-- What reading ahead gives. -/
theorem fill_law (src : ByteArray) (mk : Bool) : ∀ (n : Nat) (ts : List Tok) (p m : Nat), p ≤ src.size → m ≤ p → ts.length ≤ 32 → 32 ≤ n + ts.length →
    ∃ l q r, Runs src mk p m l q r ∧ (fill src mk n ts p m).2.2.1 ≤ src.size ∧ (fill src mk n ts p m).2.2.2 ≤ (fill src mk n ts p m).2.2.1 ∧ (fill src mk n ts p m).1.length ≤ 40 ∧
      (((fill src mk n ts p m).2.1 = false ∧ (fill src mk n ts p m).1 = ts ++ l ∧ (fill src mk n ts p m).2.2.1 = q ∧ (fill src mk n ts p m).2.2.2 = r ∧ (fill src mk n ts p m).1.length = 32) ∨
       ((fill src mk n ts p m).2.1 = true ∧ (fill src mk n ts p m).1 = ts ++ (l ++ List.replicate 5 eofT) ∧ endsB (nextF src mk q r).1.kind = true))
  | 0, ts, p, m, hp, hm, h1, h2 => ⟨[], p, m, ⟨rfl, rfl⟩, hp, hm, by show ts.length ≤ 40; omega, .inl ⟨rfl, by show ts = ts ++ []; simp, rfl, rfl, by show ts.length = 32; omega⟩⟩
  | n + 1, ts, p, m, hp, hm, h1, h2 => by
    by_cases h32 : ts.length < 32
    · obtain ⟨⟨t, p', m'⟩, hN⟩ : ∃ N, nextF src mk p m = N := ⟨_, rfl⟩
      have hbd := nextF_bd src mk p m hp hm
      rw [hN] at hbd
      simp only at hbd
      cases he : endsB t.kind with
      | true =>
        rw [fill_end src mk n ts p m t p' m' h32 hN he]
        exact ⟨[], p, m, ⟨rfl, rfl⟩, hbd.2.2.2.1, hbd.2.2.2.2.1, by simp; omega, .inr ⟨rfl, by simp, by rw [hN]; exact he⟩⟩
      | false =>
        rw [fill_more src mk n ts p m t p' m' h32 hN he]
        obtain ⟨l, q, r, hr, a1, a2, a3, a4⟩ := fill_law src mk n (ts ++ [t]) p' m' hbd.2.2.2.1 hbd.2.2.2.2.1 (by simp; omega) (by simp; omega)
        refine ⟨t :: l, q, r, ⟨by rw [hN], he, by rw [hN]; exact hr⟩, a1, a2, a3, ?_⟩
        rcases a4 with ⟨b1, b2, b3, b4, b5⟩ | ⟨b1, b2, b3⟩
        · exact .inl ⟨b1, by rw [b2]; simp, b3, b4, b5⟩
        · exact .inr ⟨b1, by rw [b2]; simp, b3⟩
    · rw [fill_full src mk (n + 1) ts p m h32]
      exact ⟨[], p, m, ⟨rfl, rfl⟩, hp, hm, by simp only; omega, .inl ⟨rfl, by simp, rfl, rfl, by simp only; omega⟩⟩

/-- The parser in state s shows what the lexer reads from (p, m) on. -/
structure Rel (src : ByteArray) (mk : Bool) (s : PSt) (p m : Nat) : Prop where
  l40 : s.ts.length ≤ 40
  pos : s.pos ≤ src.size
  md : s.md ≤ s.pos
  run : ∃ l q r, Runs src mk p m l q r ∧ ((s.en = false ∧ s.ts.drop s.nx = l ∧ s.pos = q ∧ s.md = r ∧ 5 ≤ l.length) ∨ (s.en = true ∧ s.ts.drop s.nx = l ++ List.replicate 5 eofT ∧ endsB (nextF src mk q r).1.kind = true))

theorem drop_head {α : Type} {ts : List α} {n : Nat} {t : α} {l : List α} (h : ts.drop n = t :: l) : ts[n]? = some t ∧ ts.drop (n + 1) = l ∧ ts.length = n + 1 + l.length := by
  have h1 : ts[n]? = some t := by
    have : (ts.drop n)[0]? = some t := by rw [h]; rfl
    rw [List.getElem?_drop] at this
    simpa using this
  refine ⟨h1, ?_, ?_⟩
  · rw [← List.tail_drop, h]; rfl
  · have := congrArg List.length h
    simp at this
    have hlt : n < ts.length := (List.getElem?_eq_some_iff.1 h1).1
    omega

theorem start_rel (src : ByteArray) (mk : Bool) : Rel src mk (startS src mk) 0 0 := by
  obtain ⟨l, q, r, hr, a1, a2, a3, a4⟩ := fill_law src mk 32 [] 0 0 (Nat.zero_le _) (Nat.le_refl _) (by simp) (by simp)
  refine ⟨a3, a1, a2, l, q, r, hr, ?_⟩
  rcases a4 with ⟨b1, b2, b3, b4, b5⟩ | ⟨b1, b2, b3⟩
  · refine .inl ⟨b1, ?_, b3, b4, ?_⟩
    · show (fill src mk 32 [] 0 0).1.drop 0 = l
      rw [b2]; simp
    · rw [b2] at b5
      simp at b5
      omega
  · refine .inr ⟨b1, ?_, b3⟩
    show (fill src mk 32 [] 0 0).1.drop 0 = _
    rw [b2]; simp

/-- At the statement's end the parser shows the end token. -/
theorem Rel.end {src : ByteArray} {mk : Bool} {s : PSt} {p m : Nat} (h : Rel src mk s p m) (he : endsB (nextF src mk p m).1.kind = true) : s.ts[s.nx]? = some eofT := by
  obtain ⟨l, q, r, hr, h2⟩ := h.run
  cases l with
  | cons t l =>
    have := hr.2.1
    rw [← hr.1, he] at this
    cases this
  | nil =>
    rcases h2 with ⟨_, _, _, _, h5⟩ | ⟨_, h3, _⟩
    · simp at h5
    · rw [List.nil_append] at h3
      exact (drop_head (t := eofT) (l := List.replicate 4 eofT) h3).1

/-- Else it shows that very token; and behind a step, the next ones. -/
theorem Rel.step {src : ByteArray} {mk : Bool} {s : PSt} {p m : Nat} (h : Rel src mk s p m) {t : Tok} {p' m' : Nat} (hN : nextF src mk p m = (t, p', m')) (he : endsB t.kind = false) :
    s.ts[s.nx]? = some t ∧ s.nx + 1 < s.ts.length ∧ (s.ts.length ≤ s.nx + 1 + 4 → s.en = false) ∧ Rel src mk (stepS src mk s) p' m' := by
  obtain ⟨l, q, r, hr, h2⟩ := h.run
  cases l with
  | nil =>
    rcases h2 with ⟨_, _, _, _, h5⟩ | ⟨_, h3, h4⟩
    · simp at h5
    · obtain ⟨rfl, rfl⟩ := hr
      rw [hN] at h4
      rw [he] at h4
      cases h4
  | cons t' l =>
    obtain ⟨r1, r2, r3⟩ := hr
    rw [hN] at r1 r3
    simp only at r1 r3
    subst r1
    rcases h2 with ⟨h1, h3, h4, h5, h6⟩ | ⟨h1, h3, h4⟩
    · obtain ⟨d1, d2, d3⟩ := drop_head h3
      simp at h6
      refine ⟨d1, by omega, fun _ => h1, ?_⟩
      by_cases hle : s.ts.length ≤ s.nx + 1 + 4
      · obtain ⟨l2, q2, r2', hr2, a1, a2, a3, a4⟩ := fill_law src mk 32 (s.ts.drop (s.nx + 1)) s.pos s.md h.pos h.md (by rw [d2]; omega) (by omega)
        have hst : stepS src mk s = ⟨(fill src mk 32 (s.ts.drop (s.nx + 1)) s.pos s.md).1, 0, (fill src mk 32 (s.ts.drop (s.nx + 1)) s.pos s.md).2.1, (fill src mk 32 (s.ts.drop (s.nx + 1)) s.pos s.md).2.2.1, (fill src mk 32 (s.ts.drop (s.nx + 1)) s.pos s.md).2.2.2⟩ := if_pos hle
        rw [hst]
        subst h4 h5
        refine ⟨a3, a1, a2, l ++ l2, q2, r2', r3.append hr2, ?_⟩
        rcases a4 with ⟨b1, b2, b3, b4, b5⟩ | ⟨b1, b2, b3⟩
        · refine .inl ⟨b1, ?_, b3, b4, ?_⟩
          · show (fill src mk 32 (s.ts.drop (s.nx + 1)) s.pos s.md).1.drop 0 = _
            rw [b2, d2]; simp
          · rw [b2, d2, List.length_append] at b5
            rw [List.length_append]
            omega
        · refine .inr ⟨b1, ?_, b3⟩
          show (fill src mk 32 (s.ts.drop (s.nx + 1)) s.pos s.md).1.drop 0 = _
          rw [b2, d2]; simp
      · have hst : stepS src mk s = ⟨s.ts, s.nx + 1, s.en, s.pos, s.md⟩ := if_neg hle
        rw [hst]
        exact ⟨h.l40, h.pos, h.md, l, q, r, r3, .inl ⟨h1, d2, h4, h5, by omega⟩⟩
    · have h3' : s.ts.drop s.nx = t :: (l ++ List.replicate 5 eofT) := by rw [h3]; simp
      obtain ⟨d1, d2, d3⟩ := drop_head h3'
      simp at d3
      have hle : ¬ s.ts.length ≤ s.nx + 1 + 4 := by omega
      refine ⟨d1, by omega, fun hh => absurd hh hle, ?_⟩
      have hst : stepS src mk s = ⟨s.ts, s.nx + 1, s.en, s.pos, s.md⟩ := if_neg hle
      rw [hst]
      exact ⟨h.l40, h.pos, h.md, l, q, r, r3, .inr ⟨h1, d2, h4⟩⟩

end Go.Proofs.Qxb6604722a

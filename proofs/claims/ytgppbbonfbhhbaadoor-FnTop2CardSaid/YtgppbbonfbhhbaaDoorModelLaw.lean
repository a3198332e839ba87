/-
  The plain law of the model: tokens and runs give what ReadFields' scan gives. No program in sight.
-/
import Derived.Test.YtgppbbonfbhhbaaDoorText
namespace Go.Proofs.YtgppbbonfbhhbaaDoor
open Go.RowKit Rf

/-- One token: what becomes of the runes kept, the closed fields, the open field. -/
structure TS where
  out : List Int
  done : List (Nat × Nat)
  opn : Option Nat

def tokStep (sep : Int → Bool) (st : TS) (t : Tok) : TS :=
  ⟨if t.empty then st.out else st.out ++ [t.r], if solid sep t then st.done else closeAt st.done st.opn st.out.length, if solid sep t then some (st.opn.getD st.out.length) else none⟩

theorem scan_toks (sep : Int → Bool) (raw : Bool) (hb : raw = true ∨ sep 92 = false) : ∀ (rs : List Int) (out : List Int) (done : List (Nat × Nat)) (opn : Option Nat) (esc : Bool), (raw = true ∨ esc = false) →
    let a := rs.foldl (Rf.step sep raw) ⟨out, done, opn, esc⟩
    let b := (toks raw rs).foldl (tokStep sep) ⟨out, done, opn⟩
    a.out = b.out ∧ a.done = b.done ∧ a.opn = b.opn := by
  intro rs
  induction rs using toks.induct (raw := raw) with
  | case1 => intro out done opn esc he; exact ⟨rfl, rfl, rfl⟩
  | case2 r h =>
    intro out done opn esc he
    obtain ⟨rfl, rfl⟩ : raw = false ∧ r = 92 := by revert h; cases raw <;> simp
    have h92 : sep 92 = false := by simpa using hb
    have he' : esc = false := by simpa using he
    subst he'
    rw [toks_last _ _ h]
    cases opn <;> simp [Rf.step, tokStep, solid, h92]
  | case3 r h =>
    intro out done opn esc he
    have h' : (!raw && r == 92) = false := by simpa using h
    rw [toks_plain _ _ _ h', toks_nil]
    cases hr : decide (r = 92) <;> cases raw <;> cases hs : sep r <;> cases opn <;> simp_all [Rf.step, tokStep, solid, closeAt]
  | case4 r x rs h ih =>
    intro out done opn esc he
    obtain ⟨rfl, rfl⟩ : raw = false ∧ r = 92 := by revert h; cases raw <;> simp
    have h92 : sep 92 = false := by simpa using hb
    have he' : esc = false := by simpa using he
    subst he'
    rw [toks_esc _ _ _ _ h]
    simp only [List.foldl_cons]
    have e : Rf.step sep false (Rf.step sep false ⟨out, done, opn, false⟩ 92) x = ⟨out ++ [x], done, some (opn.getD out.length), false⟩ := by
      by_cases hx : x = 92 <;> cases opn <;> simp [Rf.step, h92, hx]
    have e2 : tokStep sep ⟨out, done, opn⟩ ⟨x, true, false⟩ = ⟨out ++ [x], done, some (opn.getD out.length)⟩ := by simp [tokStep, solid]
    rw [e, e2]
    exact ih _ _ _ _ (Or.inr rfl)
  | case5 r x rs h ih =>
    intro out done opn esc he
    have h' : (!raw && r == 92) = false := by simpa using h
    rw [toks_plain _ _ _ h']
    simp only [List.foldl_cons]
    have e : ∃ esc', Rf.step sep raw ⟨out, done, opn, esc⟩ r = ⟨(tokStep sep ⟨out, done, opn⟩ ⟨r, false, false⟩).out, (tokStep sep ⟨out, done, opn⟩ ⟨r, false, false⟩).done, (tokStep sep ⟨out, done, opn⟩ ⟨r, false, false⟩).opn, esc'⟩ ∧ (raw = true ∨ esc' = false) := by
      by_cases hr : r = 92
      · have hraw : raw = true := by revert h'; rw [hr]; cases raw <;> simp
        subst hraw
        cases hs : sep r <;> cases opn <;> simp_all [Rf.step, tokStep, solid, closeAt]
      · refine ⟨false, ?_, Or.inr rfl⟩
        have hlive : (raw || !esc) = true := by rcases he with h | h <;> simp [h]
        cases hs : sep r <;> cases opn <;> simp [Rf.step, tokStep, solid, closeAt, hr, hs, hlive]
    obtain ⟨esc', e1, e2⟩ := e
    rw [e1]
    exact ih _ _ _ _ e2
end Go.Proofs.YtgppbbonfbhhbaaDoor

/-
  The plain law of 'the first fields of the full split': no program in sight.
-/
import Derived.Test.YtjoceojknhipoaaGreatDoorReady
namespace Go.Proofs.YtjoceojknhipoaaGreatDoor
open Go.RowKit Rf

def count (st : St) : Nat := st.done.length + (match st.opn with | some _ => 1 | none => 0)
theorem count_step (sep : Int → Bool) (raw : Bool) (st : St) (r : Int) : count (Rf.step sep raw st r) ≤ count st + 1 := by
  obtain ⟨out, done, opn, esc⟩ := st
  by_cases hr : r = 92
  · have hs' : sep 92 = sep r := by rw [hr]
    cases hs : sep r <;> rw [hs] at hs' <;> cases raw <;> cases esc <;> cases opn <;> simp [Rf.step, hr, hs', count]
  · cases hs : sep r <;> cases raw <;> cases esc <;> cases opn <;> simp [Rf.step, hr, hs, count]
theorem count_foldl (sep : Int → Bool) (raw : Bool) : ∀ (rs : List Int) (st : St), count (rs.foldl (Rf.step sep raw) st) ≤ count st + rs.length
  | [], _ => by simp
  | r :: rs, st => by
    have h1 := count_foldl sep raw rs (Rf.step sep raw st r)
    have h2 := count_step sep raw st r
    simp only [List.foldl_cons, List.length_cons]
    omega
theorem fields_count (sep : Int → Bool) (raw : Bool) (rs : List Int) : (scan sep raw rs).fields.length ≤ rs.length := by
  have h := count_foldl sep raw rs St.init
  have e : (scan sep raw rs).fields.length = count (scan sep raw rs) := by
    generalize scan sep raw rs = st
    obtain ⟨out, done, opn, esc⟩ := st
    cases opn <;> simp [St.fields, closeAt, count]
  rw [e]
  simpa [scan, St.init, count] using h

theorem runesBytes_go : ∀ (l : List Int) (b : ByteArray), l.foldl (fun r n => r ++ Utf8.encode n) b = b ++ runesBytes l
  | [], b => by simp [runesBytes]
  | n :: l, b => by
    have h1 := runesBytes_go l (b ++ Utf8.encode n)
    have h2 := runesBytes_go l (ByteArray.empty ++ Utf8.encode n)
    rw [List.foldl_cons, h1]
    unfold runesBytes at h2 ⊢
    rw [List.foldl_cons, h2]
    simp [ByteArray.append_assoc]
theorem runesBytes_append (a b : List Int) : runesBytes (a ++ b) = runesBytes a ++ runesBytes b := by
  unfold runesBytes
  rw [List.foldl_append, runesBytes_go]
  rfl

theorem part_three (out : List Int) (a b c d : Nat) (h1 : a ≤ b) (h2 : b ≤ c) (h3 : c ≤ d) : Rf.part out (a, d) = Rf.part out (a, b) ++ Rf.part out (b, c) ++ Rf.part out (c, d) := by
  have key : ∀ a b d : Nat, a ≤ b → b ≤ d → Rf.part out (a, d) = Rf.part out (a, b) ++ Rf.part out (b, d) := by
    intro a b d h1 h2
    simp only [Rf.part, List.drop_take]
    rw [show d - a = (b - a) + (d - b) by omega, List.take_add, List.drop_drop, show a + (b - a) = b by omega]
  rw [key a b d h1 (by omega), key b c d h2 h3, List.append_assoc]

/-- What the two splits have to do with each other. -/
def Pair (n : Int) (o oa : Option (List (List Int))) : Prop :=
  (o = none ∧ oa = none) ∨ (∃ xs, o = some xs ∧ oa = some xs ∧ (xs.length : Int) ≤ n ∧ xs.length ≤ 65536) ∨
    (∃ (xs ys : List (List Int)) (q L : Nat) (mid : List Int), o = some xs ∧ oa = some ys ∧ n = (q : Int) + 1 ∧ xs.length = q + 1 ∧ ys.length = L + 1 ∧ q < L ∧ L ≤ 65536 ∧ (∀ i, i < q → xs.getD i [] = ys.getD i []) ∧ xs.getD q [] = ys.getD q [] ++ mid ++ ys.getD L [] ∧ (xs.getD q []).length ≤ 65536)

theorem pair_of (sep ws : Int → Bool) (n : Int) (raw : Bool) (rs : List Int) (hn : 2 ≤ n) (hr : rs.length ≤ 65536) : Pair n (give sep ws n raw rs) (give sep ws (-1) raw rs) := by
  have hfc := fields_count sep raw rs
  have hol := out_le sep raw rs
  generalize hst : scan sep raw rs = st at *
  generalize hf : st.fields = fs at *
  have hasc := fields_asc hst hf
  by_cases h0 : fs = []
  · subst h0
    exact Or.inl ⟨by simp [give, hst, hf], by simp [give, hst, hf]⟩
  · have ga : give sep ws (-1) raw rs = some (fs.map (Rf.part st.out)) := by
      simp only [give, hst, hf, if_neg h0]
      rw [cut_none (by omega) (by omega)]
    have gn : give sep ws n raw rs = some ((cut ws n st.out fs).map (Rf.part st.out)) := by
      simp only [give, hst, hf, if_neg h0]
    by_cases hc : n < (fs.length : Int)
    · obtain ⟨q, rfl⟩ : ∃ q : Nat, n = (q : Int) + 1 := ⟨(n - 1).toNat, by omega⟩
      obtain ⟨L, hL⟩ : ∃ L, fs.length = L + 1 := ⟨fs.length - 1, by omega⟩
      rw [cut_merged hL (by omega) (by omega)] at gn
      have hml := merged_length fs q (fs.getD L (0, 0)).2 (by omega)
      have hall := hasc.all.2
      have hq' : fs.getD q (0, 0) ∈ fs.take L := by
        rw [List.getD, List.getElem?_eq_getElem (by omega)]
        exact List.mem_take_iff_getElem.2 ⟨q, by omega, rfl⟩
      have hl' : fs.getD L (0, 0) ∈ fs.drop L := by
        rw [List.getD, List.getElem?_eq_getElem (by omega)]
        exact List.mem_drop_iff_getElem.2 ⟨0, by omega, by simp⟩
      have hap := Asc.append (fs := fs.take L) (gs := fs.drop L) (by rw [List.take_append_drop]; exact hasc) _ hq' _ hl'
      have h1 := hall _ (List.mem_of_mem_take hq')
      have h2 := hall _ (List.mem_of_mem_drop hl')
      have gd : ∀ (l : List (Nat × Nat)) (i : Nat), i < l.length → (l.map (Rf.part st.out)).getD i [] = Rf.part st.out (l.getD i (0, 0)) := by
        intro l i hi
        simp [List.getD, hi]
      refine Or.inr (Or.inr ⟨_, _, q, L, Rf.part st.out ((fs.getD q (0, 0)).2, (fs.getD L (0, 0)).1), gn, ga, rfl, by rw [List.length_map, hml], by rw [List.length_map, hL], by omega, by omega, ?_, ?_, ?_⟩)
      · intro i hi
        rw [gd _ _ (by omega), gd _ _ (by omega), merged_low fs q _ i (by omega) hi]
      · rw [gd _ _ (by omega), gd _ _ (by omega), gd _ _ (by omega), merged_top fs q _ (by omega)]
        exact part_three st.out _ _ _ _ h1.2.1 hap h2.2.1
      · rw [gd _ _ (by omega)]
        simp only [Rf.part, List.length_drop, List.length_take]
        omega
    · rw [cut_none (by omega) (by omega)] at gn
      exact Or.inr (Or.inl ⟨_, gn, ga, by rw [List.length_map]; omega, by rw [List.length_map]; omega⟩)
end Go.Proofs.YtjoceojknhipoaaGreatDoor

/-
  What ReadFields hands back to the law, by the parts that the law itself finds.
-/
import Derived.Test.YtgppbbonfbhhbaaDoorCuts
import Derived.Laws.Cover4
namespace Go.Proofs.YtgppbbonfbhhbaaDoor
open Go.RowKit Rf

/-- The texts as they lie. -/
def GotMem (T : List Tok) (C : List (Nat × Nat)) (v : Value) (w : World) : Prop :=
  (C = [] ∧ v = .slice none 0 0) ∨ ∃ g c, v = .slice (some ⟨g, 0, none⟩) C.length c ∧ ∀ k, k < C.length → w.cell? ⟨g, k, none⟩ = some (.string (catU ((T.take (C.getD k (0, 0)).2).drop (C.getD k (0, 0)).1)))

theorem got_of {b : Nat} {sep : Int → Bool} {n : Int} {T : List Tok} {w W : World} {e : Ending} {w' : World} (h : RfOut b (mall sep n T) W e w') (hb : Below w.heap.size w W) (hw : w.heap.size ≤ b) (hW : w.heap.size ≤ W.heap.size) :
    ∃ v, e = .returned v ∧ GotMem T (ccut sep n T) v w' ∧ Below w.heap.size w w' := by
  rw [mall_ccut] at h
  obtain ⟨⟨W2, hg, hb2⟩, h⟩ := h
  have hB : Below w.heap.size w w' := (hb.grown hg hW (by intro k hk; cases hk; exact hw)).trans (hb2.mono (Nat.le_trans hW hg.size))
  by_cases h0 : ccut sep n T = []
  · rw [if_pos h0] at h
    exact ⟨_, h, Or.inl ⟨h0, rfl⟩, hB⟩
  · rw [if_neg h0] at h
    obtain ⟨g, c, he, hc⟩ := h
    refine ⟨_, he, Or.inr ⟨g, c, by simp, fun k hk => ?_⟩, hB⟩
    rw [hc k (by simpa using hk)]
    simp [List.getD, hk, textAt, catU]

theorem rf_env (k : Int) (line : ByteArray) (n : Int) (raw : Bool) (G b : Nat) (W : World) (hz : IsZEnv W G (ifsAt k) (sepAt k)) (hne : G ≠ b) (hC : IsCfg W b (.iface 24 (.pointer (some ⟨G, 0, none⟩))) ⟨#[]⟩) (hs : line.size ≤ 1048576) (hn : n = -1 ∨ 1 ≤ n) :
    Calls Tryd.prog 8 #[.pointer (some ⟨b, 0, none⟩), .string line, .int .i64 n, .bool raw] W (RfOut b (mall (among (ifsAt k)) n (toks raw (runes line))) W) := by
  have hp := prep_env (ifsAt k) ⟨#[]⟩ (sepAt k) b G W hz hne hC
  rw [ifs_given] at hp
  rw [← give_mall (among (ifsAt k)) n raw (runes line) hn (Or.inr (ifs_bs k))]
  by_cases h1 : n = 1
  · subst h1
    exact readFields_one (ifsAt k) line raw b _ W hp hs
  · exact readFields_many (ifsAt k) line n raw b _ W hp hs (by omega)

theorem catU_size : ∀ (ts : List Tok), (catU ts).size ≤ 4 * ts.length
  | [] => Nat.zero_le _
  | t :: ts => by
    have ih := catU_size ts
    unfold catU at ih ⊢
    have hc : textOf (t :: ts) = (if t.empty then [] else [t.r]) ++ textOf ts := by
      unfold textOf
      cases h : t.empty <;> simp [h]
    rw [hc]
    cases h : t.empty
    · have := encode_size_le t.r
      simp only [Bool.false_eq_true, if_false, List.singleton_append, rb_cons, ByteArray.size_append, List.length_cons]
      omega
    · simp only [if_true, List.nil_append, List.length_cons]
      omega

theorem part_snoc (T : List Tok) (a b j : Nat) (hb : b ≤ T.length) (hj : a + j < b) : catU ((T.take (a + (j + 1))).drop a) = catU ((T.take (a + j)).drop a) ++ unitS (T.getD (a + j) tok0) := by
  rw [show a + (j + 1) = a + j + 1 by omega, take_snoc T a (a + j) tok0 (by omega) (by omega), catU_snoc]
theorem blank_pre {w wx : World} {g n uc B : Nat} {sep : Int → Bool} {T : List Tok} (h : w.ownsRow B 33 3 (.slice (some ⟨g, 0, none⟩) n uc) T.length (unitCells sep T)) (hb : Below w.heap.size w wx) (hl : T.length ≤ 1048577) (x c : Nat) (hx : x ≤ T.length) (b : Bool) (hbv : decide (x ≤ mlo sep T) = b) :
    Calls Tryd.prog 7 #[.slice (some ⟨g, 0, none⟩) x c] wx fun e w' => e = .returned (.bool b) ∧ Below wx.heap.size wx w' := by
  have hz := hb.size
  have hg := (h.lt g rfl).2
  have hu := unitsAt_of h hb 0 x hx
  have hc := blank_any sep ((T.take x).drop 0) g (0 * 3) c wx (by simp; omega) (by omega) hu
  have hn : ((T.take x).drop 0).length = x := by simp; omega
  rw [hn] at hc
  rw [List.drop_zero, lead_blank sep T x hx, hbv, Nat.zero_mul] at hc
  exact hc

theorem blank_suf {w wx : World} {g n uc B : Nat} {sep : Int → Bool} {T : List Tok} (h : w.ownsRow B 33 3 (.slice (some ⟨g, 0, none⟩) n uc) T.length (unitCells sep T)) (hb : Below w.heap.size w wx) (hl : T.length ≤ 1048577) (l m o c : Nat) (hm : m = T.length - l) (ho : o = l * 3) (hlo : mlo sep T ≤ l) (b : Bool) (hbv : decide (mhi sep T ≤ l) = b) :
    Calls Tryd.prog 7 #[.slice (some ⟨g, o, none⟩) m c] wx fun e w' => e = .returned (.bool b) ∧ Below wx.heap.size wx w' := by
  subst hm ho
  have hz := hb.size
  have hg := (h.lt g rfl).2
  have hu := unitsAt_of h hb l T.length (Nat.le_refl _)
  have hc := blank_any sep ((T.take T.length).drop l) g (l * 3) c wx (by simp; omega) (by omega) hu
  have hn : ((T.take T.length).drop l).length = T.length - l := by simp
  rw [hn, List.take_length, tail_blank sep T l hlo, hbv] at hc
  exact hc
theorem own_frz {w : World} {base : Nat} {e : TypeId} {size g n c m : Nat} {xs : List Value} (h : w.ownsRow base e size (.slice (some ⟨g, 0, none⟩) n c) m xs) (hm : n = m) (k : Nat) : w.frozen? ⟨g, k, none⟩ = false := by
  subst hm
  exact h.frozenAt k

theorem cut_zero {wy wx : World} {C : List (Nat × Nat)} {s15 s16 : Value} (h : CutMem wy C s15 s16 wx) (h0 : C = []) : ∃ o c, s15 = .slice o 0 c := by
  rcases h.sl with ⟨_, h⟩ | ⟨g1, c1, g2, c2, h, _⟩
  · exact h
  · subst h0; exact ⟨_, _, h⟩
theorem cut_some {wy wx : World} {C : List (Nat × Nat)} {s15 s16 : Value} (h : CutMem wy C s15 s16 wx) (h0 : C ≠ []) : ∃ g1 c1 g2 c2, s15 = .slice (some ⟨g1, 0, none⟩) C.length c1 ∧ s16 = .slice (some ⟨g2, 0, none⟩) C.length c2 ∧ g1 < wx.heap.size ∧ g2 < wx.heap.size ∧
    ∀ k, k < C.length → wx.cell? ⟨g1, k, none⟩ = some (.int .i64 (C.getD k (0, 0)).1) ∧ wx.cell? ⟨g2, k, none⟩ = some (.int .i64 (C.getD k (0, 0)).2) := by
  rcases h.sl with ⟨h, _⟩ | ⟨g1, c1, g2, c2, h1, h2, h3⟩
  · exact absurd h h0
  · have hp := List.length_pos_iff.2 h0
    exact ⟨g1, c1, g2, c2, h1, h2, World.block_lt_of_cell? _ _ (h3 0 hp).1, World.block_lt_of_cell? _ _ (h3 0 hp).2, h3⟩
theorem got_zero {T : List Tok} {C : List (Nat × Nat)} {v : Value} {w : World} (h : GotMem T C v w) (h0 : C = []) : ∃ o c, v = .slice o 0 c := by
  rcases h with ⟨_, h⟩ | ⟨g, c, h, _⟩
  · exact ⟨_, _, h⟩
  · subst h0; exact ⟨_, _, h⟩
theorem got_some {T : List Tok} {C : List (Nat × Nat)} {v : Value} {w : World} (h : GotMem T C v w) (h0 : C ≠ []) : ∃ g c, v = .slice (some ⟨g, 0, none⟩) C.length c ∧ g < w.heap.size ∧ ∀ k, k < C.length → w.cell? ⟨g, k, none⟩ = some (.string (catU ((T.take (C.getD k (0, 0)).2).drop (C.getD k (0, 0)).1))) := by
  rcases h with ⟨h, _⟩ | ⟨g, c, h1, h2⟩
  · exact absurd h h0
  · exact ⟨g, c, h1, World.block_lt_of_cell? _ _ (h2 0 (List.length_pos_iff.2 h0)), h2⟩
theorem part_nil (T : List Tok) (a : Nat) : catU ((T.take (a + 0)).drop a) = ⟨#[]⟩ := by
  rw [List.drop_eq_nil_of_le (by simp; omega), catU_nil]
theorem part_size (T : List Tok) (a b : Nat) (h : T.length ≤ 1048577) : (catU ((T.take b).drop a)).size ≤ 4194308 := by
  have := catU_size ((T.take b).drop a)
  simp at this
  omega
theorem unitS_size (t : Tok) : (unitS t).size ≤ 4 := by
  unfold unitS
  split
  · exact Nat.zero_le _
  · exact encode_size_le _
end Go.Proofs.YtgppbbonfbhhbaaDoor

/-
  What the model's last loop reads and writes. No walk here.
-/
import Derived.Test.YtjoceojknhipoaaGreatDoorOneLaw
import Derived.Test.YtjoceojknhipoaaGreatDoorWhole
namespace Go.Proofs.YtjoceojknhipoaaGreatDoor
open Go.RowKit Rf

theorem ints_at (l : List Nat) (k : Nat) (h : k < l.length) : (ints l)[k]? = some (.int .i64 (l.getD k 0 : Nat)) := by simp [ints, List.getD, h]
theorem fst_at (L : List (Nat × Nat)) (k : Nat) (h : k < L.length) : (L.map (·.1)).getD k 0 = (L.getD k (0, 0)).1 := by simp [List.getD, h]
theorem snd_at (L : List (Nat × Nat)) (k : Nat) (h : k < L.length) : (L.map (·.2)).getD k 0 = (L.getD k (0, 0)).2 := by simp [List.getD, h]

theorem own_ints {w : World} {base g c n m : Nat} {l : List Nat} (h : w.ownsRow base 3 1 (.slice (some ⟨g, 0, none⟩) n c) m (ints l)) (hm : m = l.length) (k : Nat) (hk : k < l.length) : w.cell? ⟨g, k, none⟩ = some (.int .i64 (l.getD k 0 : Nat)) := by
  subst hm
  obtain ⟨g2, c2, hv⟩ := own_cons h (by omega)
  cases hv
  rw [h.cellAt _ (by omega)]
  exact ints_at l k hk

/-- The places of the k-th text. -/
structure CutAt (n : Int) (L : List (Nat × Nat)) (k : Nat) : Prop where
  lt : k < L.length
  fst : ((tcut n L).getD k (0, 0)).1 = (L.getD k (0, 0)).1
  lst : k + 1 = (tcut n L).length → ((tcut n L).getD k (0, 0)).2 = (L.getD (L.length - 1) (0, 0)).2
  mid : k + 1 < (tcut n L).length → ((tcut n L).getD k (0, 0)).2 = (L.getD k (0, 0)).2

theorem tcut_at {n : Int} {L : List (Nat × Nat)} {k : Nat} (hn : n = -1 ∨ 2 ≤ n) (hk : k < (tcut n L).length) : CutAt n L k := by
  by_cases hc : n ≠ -1 ∧ n < (L.length : Int)
  · obtain ⟨q, hq⟩ : ∃ q : Nat, n = (q : Int) + 1 := ⟨(n - 1).toNat, by omega⟩
    have hl : L.getLastD (0, 0) = L.getD (L.length - 1) (0, 0) := by
      rw [List.getLastD_eq_getLast?, List.getLast?_eq_getElem?]
      rfl
    have e : tcut n L = merged L q (L.getD (L.length - 1) (0, 0)).2 := by
      unfold tcut merged
      rw [if_pos hc, hl, show n.toNat - 1 = q by omega]
    have hm := merged_length L q (L.getD (L.length - 1) (0, 0)).2 (by omega)
    rw [e] at hk
    rw [hm] at hk
    refine ⟨by omega, ?_, fun h => ?_, fun h => ?_⟩
    · rw [e]
      by_cases hkq : k = q
      · subst hkq; rw [merged_top _ _ _ (by omega)]
      · rw [merged_low _ _ _ _ (by omega) (by omega)]
    · rw [e, hm] at h
      obtain rfl : k = q := by omega
      rw [e, merged_top _ _ _ (by omega)]
    · rw [e, hm] at h
      rw [e, merged_low _ _ _ _ (by omega) (by omega)]
  · have e : tcut n L = L := by unfold tcut; rw [if_neg hc]
    rw [e] at hk
    refine ⟨hk, by rw [e], fun h => ?_, fun _ => by rw [e]⟩
    rw [e] at h
    rw [e, show k = L.length - 1 by omega]

def mtexts (ts : List Tok) (L : List (Nat × Nat)) : List ByteArray := L.map fun p => runesBytes (textAt ts p)
theorem mtexts_len (ts : List Tok) (L : List (Nat × Nat)) : (mtexts ts L).length = L.length := by simp [mtexts]
theorem mtexts_at (ts : List Tok) (L : List (Nat × Nat)) (k : Nat) (hk : k < L.length) : (mtexts ts L).getD k ByteArray.empty = runesBytes (textOf ((ts.take (L.getD k (0, 0)).2).drop (L.getD k (0, 0)).1)) := by
  simp [mtexts, List.getD, hk, textAt]

theorem Filled.stepB {h k : Nat} {Wm wx w' : World} {ts : List ByteArray} (hf : Filled h Wm ts k wx) (hk : k < ts.length) (hb : Below wx.heap.size wx w') (t : ByteArray) (ht : ts.getD k ByteArray.empty = t) : Filled h Wm ts (k + 1) (w'.setCell ⟨h, k, none⟩ (.string t)) := by
  subst ht
  have hz : h ≤ wx.heap.size := Nat.le_of_lt (hf.row.lt h rfl).2
  refine ⟨?_, (hf.bel.trans (hb.mono hz)).setCell (Nat.le_refl _) _⟩
  have := ((own_call hf.row hb).stored k (.string (ts.getD k ByteArray.empty))).1
  rw [done_step ts k hk] at this
  exact this

/-- The cell that is written next. -/
theorem Filled.cell {h k : Nat} {Wm wx w' : World} {ts : List ByteArray} (hf : Filled h Wm ts k wx) (hk : k < ts.length) (hb : Below wx.heap.size wx w') : w'.cell? ⟨h, k, none⟩ = some (.string ByteArray.empty) ∧ w'.frozen? ⟨h, k, none⟩ = false := by
  have ho := own_call hf.row hb
  refine ⟨?_, ho.frozenAt k⟩
  have hl : (done_ ts k).length = ts.length := by simp [done_]; omega
  rw [ho.cellAt k (by omega), done_at ts k hk]

theorem filled_res {h : Nat} {w Wm w' : World} {ts : List Tok} {L : List (Nat × Nat)} (hb : Below w.heap.size w Wm) (hw : w.heap.size ≤ h) (hf : Filled h Wm (mtexts ts L) L.length w') (o : Option (List (List Int))) (ho : o = some (L.map (textAt ts))) :
    RfRes o w (.returned (.slice (some ⟨h, 0, none⟩) L.length L.length)) w' := by
  subst ho
  refine ⟨_, rfl, ⟨h, L.length, by simp, fun k hk => ?_⟩, hb.trans (hf.bel.mono hw)⟩
  simp only [List.length_map] at hk
  have hd : done_ (mtexts ts L) L.length = (mtexts ts L).map Value.string := by rw [← mtexts_len ts L]; exact done_all _
  rw [hf.row.cellAt k (by rw [mtexts_len]; omega), hd]
  simp [mtexts, List.getD, hk]
end Go.Proofs.YtjoceojknhipoaaGreatDoor

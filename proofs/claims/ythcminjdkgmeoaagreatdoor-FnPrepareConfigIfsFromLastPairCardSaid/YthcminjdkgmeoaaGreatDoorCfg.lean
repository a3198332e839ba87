/-
  What the law's small helpers answer.
-/
import Derived.Test.YthcminjdkgmeoaaGreatDoorCpy
namespace Go.Proofs.YthcminjdkgmeoaaGreatDoor
open Go.RowKit
set_option linter.unusedVariables false

/-- Where the copied pairs lie. -/
def SlAt (ss : List ByteArray) (v : Value) (w : World) : Prop := ∃ ao c, v = .slice ao ss.length c ∧ (0 < ss.length → ∃ P, ao = some ⟨P, 0, none⟩ ∧ ∀ k, k < ss.length → w.cell? ⟨P, k, none⟩ = some (.string (ss.getD k ByteArray.empty)))
theorem CpyOut.at {ss : List ByteArray} {w w' : World} {e : Ending} (h : CpyOut ss w e w') : ∃ v, e = .returned v ∧ SlAt ss v w' ∧ Below w.heap.size w w' := by
  obtain ⟨v, h1, h2, h3⟩ := h
  refine ⟨v, h1, ?_, h2⟩
  rcases h3 with ⟨rfl, ao, c, rfl⟩ | ⟨P, rfl, h4⟩
  · exact ⟨ao, c, rfl, fun h => absurd h (by simp)⟩
  · exact ⟨_, _, rfl, fun _ => ⟨P, rfl, h4⟩⟩
def lists (ss : List ByteArray) : List (List UInt8) := ss.map fun s => s.data.toList
theorem lists_len (ss : List ByteArray) : (lists ss).length = ss.length := List.length_map ..
theorem lists_get {ss : List ByteArray} {k : Nat} {x : List UInt8} (h : (lists ss)[k]? = some x) : k < ss.length ∧ x = (ss.getD k ByteArray.empty).data.toList := by
  have hk : k < ss.length := by
    have := (List.getElem?_eq_some_iff.1 h).1
    rwa [lists_len] at this
  unfold lists at h
  rw [List.getElem?_map, List.getElem?_eq_getElem hk] at h
  refine ⟨hk, ?_⟩
  rw [List.getD_eq_getElem?_getD, List.getElem?_eq_getElem hk]
  exact (Option.some.inj h).symm
theorem str_back (s : ByteArray) : (⟨s.data.toList.toArray⟩ : ByteArray) = s := by simp
theorem lst_sl (ss : List ByteArray) (hl : ss.length ≤ 1048576) (hs : ∀ i, i < ss.length → (ss.getD i ByteArray.empty).size ≤ 1048576) (v : Value) (w : World) (h : SlAt ss v w) :
    Calls Tryz.prog 11 #[.bool false, v] w (LstOut (lists ss) w) := by
  obtain ⟨ao, c, rfl, h⟩ := h
  by_cases h0 : 0 < ss.length
  · obtain ⟨P, rfl, h2⟩ := h h0
    have hh := lst_any (lists ss) P c w (by rw [lists_len]; exact h0) (by rw [lists_len]; omega) (fun x hx => by
      obtain ⟨k, hk⟩ := List.getElem?_of_mem hx
      obtain ⟨hk1, rfl⟩ := lists_get hk
      have := hs k hk1
      rw [len_size]
      omega) (fun k x hx => by
      obtain ⟨hk1, rfl⟩ := lists_get hx
      show _ = some (Value.string ⟨(ss.getD k ByteArray.empty).data.toList.toArray⟩)
      rw [str_back]
      exact h2 k hk1)
    rw [lists_len] at hh
    exact hh
  · obtain rfl : ss = [] := by
      cases ss with
      | nil => rfl
      | cons a r => exact absurd (Nat.succ_pos _) h0
    exact lst_zero ao c w

/-- A Config with the environment of these pairs. -/
def CfgOut (ss : List ByteArray) (w : World) (e : Ending) (w' : World) : Prop := ∃ v R b, e = .returned (.pointer (some ⟨b, 0, none⟩)) ∧ IsCfg w' b (.iface 53 (.agg #[.bool false, v])) ⟨#[]⟩ ∧ EnvAt R v w' ∧ ResOk (lists ss) R ∧ R.length ≤ 1048576 ∧ (∀ x ∈ R, x.length ≤ 4194304) ∧ w.heap.size ≤ b ∧ Below w.heap.size w w'
set_option maxRecDepth 100000 in
set_option maxHeartbeats 1000000 in
theorem newCfg_any (ss : List ByteArray) (hl : ss.length ≤ 1048576) (hs : ∀ i, i < ss.length → (ss.getD i ByteArray.empty).size ≤ 1048576) (v : Value) (w : World) (h : SlAt ss v w) : Calls Tryz.prog 8 #[v] w (CfgOut ss w) := by
  have HL := Lib.hid (lst_sl ss hl hs v w h)
  have HLS := Lib.hid (show (lists ss).length ≤ 1048576 by rw [lists_len]; exact hl)
  clear h hl hs
  go_enter Tryz.func8, Tryz.ntmps8
  go_wp2_with (go_at_call 11; refine HL.out.mono ?_; rintro e w1 ⟨v, R, rfl, a1, a2, a3, a4, a5⟩; have H1 := Lib.hid (And.intro a1 (And.intro a2 (And.intro a3 (And.intro a4 a5)))); clear a1 a2 a3 a4 a5)
  go_ret
  have hb := H1.out.2.2.2.2
  have hnew : ∀ o, Below w1.heap.size w1 (w1.alloc o) := fun o => (Below.refl w1.heap.size w1).alloc (Nat.le_refl _) o
  exact ⟨v, R, w1.heap.size, rfl, ⟨(cell_of_row _ _ 0 _ _ (0, 0) (heap_alloc_new _ _)).trans rfl, (cell_of_row _ _ 3 _ _ (0, 0) (heap_alloc_new _ _)).trans rfl, (cell_of_row _ _ 25 _ _ (0, 0) (heap_alloc_new _ _)).trans rfl, frozen_of_row _ _ 0 _ _ (heap_alloc_new _ _), frozen_of_row _ _ 25 _ _ (heap_alloc_new _ _)⟩, H1.out.1.below (hnew _), H1.out.2.1, Nat.le_trans H1.out.2.2.1 HLS.out, H1.out.2.2.2.1, hb.size, hb.trans ((hnew _).mono hb.size)⟩

theorem prepCfg_any (L R : List (List UInt8)) (hR : ResOk L R) (hn : R.length ≤ 4194304) (hs : ∀ x ∈ R, x.length ≤ 4194304) (v : Value) (old : ByteArray) (b : Nat) (w : World) (hE : EnvAt R v w)
    (hC : IsCfg w b (.iface 53 (.agg #[.bool false, v])) old) : Calls Tryz.prog 9 #[.pointer (some ⟨b, 0, none⟩)] w (PrepOut R v b (ifsOf (Stb.fnd (ifsL ++ [61]) R)) w) := by
  have HP := Lib.hid (prep_list L R hR hn hs v old b w hE hC)
  clear hR hn hs hE hC
  go_enter Tryz.func9, Tryz.ntmps9
  go_wp2_with (go_at_call 12; refine HP.out.mono ?_; rintro e w1 ⟨rfl, a1⟩; have H1 := Lib.hid a1; clear a1)
  go_ret
  exact ⟨rfl, H1.out⟩
theorem ifsOf_any (b : Nat) (s : ByteArray) (w : World) (h : w.cell? ⟨b, 25, none⟩ = some (.string s)) : Calls Tryz.prog 10 #[.pointer (some ⟨b, 0, none⟩)] w fun e w' => e = .returned (.string s) ∧ w = w' := by
  go_enter Tryz.func10, Tryz.ntmps10
  go_wp2
  go_ret
  exact ⟨rfl, rfl⟩

/-- What the law expects, after the first k pairs. -/
def wantK (ss : List ByteArray) (k : Nat) : ByteArray := ifsOf (Stb.fnd (ifsL ++ [61]) ((lists ss).take k))
theorem fnd_snoc (T : List UInt8) (l : List (List UInt8)) (x : List UInt8) : Stb.fnd T (l ++ [x]) = if Stb.key x = T then some x else Stb.fnd T l := by
  unfold Stb.fnd
  rw [List.foldl_append]
  rfl
theorem lists_take {ss : List ByteArray} {k : Nat} (hk : k < ss.length) : (lists ss).take (k + 1) = (lists ss).take k ++ [(ss.getD k ByteArray.empty).data.toList] := by
  have h : (lists ss)[k]? = some (ss.getD k ByteArray.empty).data.toList := by
    unfold lists
    rw [List.getElem?_map, List.getD_eq_getElem?_getD, List.getElem?_eq_getElem hk]
    rfl
  rw [List.take_add_one, h]
  rfl
theorem wantK_hit {ss : List ByteArray} {k : Nat} (hk : k < ss.length) (h : Stb.key (ss.getD k ByteArray.empty).data.toList = ifsL ++ [61]) : wantK ss (k + 1) = (ss.getD k ByteArray.empty).extract 4 (ss.getD k ByteArray.empty).size := by
  unfold wantK
  rw [lists_take hk, fnd_snoc, if_pos h]
  show (⟨((ss.getD k ByteArray.empty).data.toList.drop 4).toArray⟩ : ByteArray) = _
  rw [← drop_ext, str_back]
theorem wantK_miss {ss : List ByteArray} {k : Nat} (hk : k < ss.length) (h : Stb.key (ss.getD k ByteArray.empty).data.toList ≠ ifsL ++ [61]) : wantK ss (k + 1) = wantK ss k := by
  unfold wantK
  rw [lists_take hk, fnd_snoc, if_neg h]
theorem wantK_all (ss : List ByteArray) : wantK ss ss.length = ifsOf (Stb.fnd (ifsL ++ [61]) (lists ss)) := by
  unfold wantK
  rw [List.take_of_length_le (Nat.le_of_eq (lists_len ss))]

end Go.Proofs.YthcminjdkgmeoaaGreatDoor

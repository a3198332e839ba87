/-
  The environment's search for IFS: the binary search.
-/
import Derived.Test.YthcminjdkgmeoaaGreatDoorGt1
namespace Go.Proofs.YthcminjdkgmeoaaGreatDoor
open Go.RowKit
set_option linter.unusedVariables false

def BsOut (R : List (List UInt8)) (w : World) (e : Ending) (w' : World) : Prop :=
  ∃ (i : Nat) (f : Bool), e = .returned (.tuple #[.int .i64 (i : Int), .bool f]) ∧ (f = true → ∃ x, R[i]? = some x ∧ Stb.fnd (ifsL ++ [61]) R = some x) ∧ (f = false → Stb.fnd (ifsL ++ [61]) R = none) ∧ Below w.heap.size w w'
/-- What the search knows of its two ends. -/
def BdI (R : List (List UInt8)) (n i j : Nat) : Prop := (i = 0 ∨ ∀ x, R[i - 1]? = some x → Stb.getC ifsL x < 0) ∧ (j = n ∨ ∀ x, R[j]? = some x → ¬ Stb.getC ifsL x < 0)
theorem str_size (x : List UInt8) : (⟨x.toArray⟩ : ByteArray).size = x.length := by
  show x.toArray.size = _
  rw [List.size_toArray]

set_option maxRecDepth 100000 in
set_option maxHeartbeats 2000000 in
theorem bs_any (L R : List (List UInt8)) (hR : ResOk L R) (hn : R.length ≤ 4194304) (hs : ∀ x ∈ R, x.length ≤ 4194304) (v : Value) (w : World) (hE : EnvAt R v w) (a b c : Nat) (v2 : Value)
    (ha : w.cell? ⟨a, 0, none⟩ = some (.int .i64 4)) (hb0 : w.cell? ⟨b, 0, none⟩ = some (.bool false)) (hb1 : w.cell? ⟨b, 1, none⟩ = some v2) (hc : w.cell? ⟨c, 0, none⟩ = some (.int .i64 3)) :
    Calls Tryz.prog 85 #[v, .string ⟨#[73, 70, 83]⟩, .func (.func 86) #[] #[.pointer (some ⟨a, 0, none⟩), .pointer (some ⟨b, 0, none⟩), .pointer (some ⟨c, 0, none⟩)]] w (BsOut R w) := by
  obtain ⟨ao, cap, rfl, hcell⟩ := hE
  have HCELL := Lib.hid hcell
  have HG := Lib.hid (fun (w2 : World) (x : List UInt8) (hx : x ∈ R) (hb : Below w.heap.size w w2) =>
    get1_any ⟨x.toArray⟩ (by rw [str_size]; exact hs x hx) v2 a b c w2 ((hb.cell (p := ⟨a, 0, none⟩) (World.block_lt_of_cell? w _ ha)).trans ha) ((hb.cell (p := ⟨b, 0, none⟩) (World.block_lt_of_cell? w _ hb0)).trans hb0)
      ((hb.cell (p := ⟨b, 1, none⟩) (World.block_lt_of_cell? w _ hb1)).trans hb1) ((hb.cell (p := ⟨c, 0, none⟩) (World.block_lt_of_cell? w _ hc)).trans hc))
  have HSE := Lib.hid (fun (i : Nat) (hi : i ≤ R.length) (h1 : i = 0 ∨ ∀ x, R[i - 1]? = some x → Stb.getC ifsL x < 0) (h2 : i = R.length ∨ ∀ x, R[i]? = some x → ¬ Stb.getC ifsL x < 0) => Stb.search_fnd (R := R) (t := ifsL) (by decide) hR.inc hR.val hi h1 h2)
  obtain ⟨n, hN⟩ : ∃ n, R.length = n := ⟨_, rfl⟩
  have HN := Lib.hid hN
  have hnz : (n : Int) ≤ 4194304 := by omega
  rw [hN]
  clear hcell ha hb0 hb1 hc hN hs hn
  go_enter Tryz.func85, Tryz.ntmps85
  go_wp2_with fail
  go_loopg [9, 10] n (fun gk s9 s10 wr => ∃ i j : Nat, s9 = .int .i64 (i : Int) ∧ s10 = .int .i64 (j : Int) ∧ i ≤ j ∧ j ≤ n ∧ gk = j - i ∧ Hid (BdI R n i j) ∧ Hid (Below w.heap.size w wr))
  case atStart => exact ⟨0, n, rfl, rfl, Nat.zero_le _, Nat.le_refl _, rfl, Lib.hid ⟨Or.inl rfl, Or.inl rfl⟩, Lib.hid (Below.refl _ _)⟩
  case round =>
    obtain ⟨i, j, rfl, rfl, h1, h2, rfl, HX, HB⟩ := hrel
    by_cases hij : i < j
    · have hijz : (i : Int) < (j : Int) := by omega
      have hjz : (j : Int) ≤ (n : Int) := by omega
      obtain ⟨h, hh0⟩ : ∃ h, (i + j) / 2 = h := ⟨_, rfl⟩
      have hwh : ((i : Int) + (j : Int)) / 2 = (h : Int) := by omega
      have hhz : (h : Int) < (n : Int) := by omega
      have hhR : h < R.length := by rw [HN.out]; omega
      obtain ⟨x, hx⟩ : ∃ x, R[h]? = some x := ⟨_, List.getElem?_eq_getElem hhR⟩
      obtain ⟨P, rfl, hP⟩ := HCELL.out (fun e => by rw [e] at hhR; simp at hhR)
      have cx : wr.cell? ⟨P, h, none⟩ = some (.string ⟨x.toArray⟩) := (HB.out.cell (p := ⟨P, h, none⟩) (World.block_lt_of_cell? w _ (hP h x hx))).trans (hP h x hx)
      have HCALL := Lib.hid (HG.out wr x (List.mem_of_getElem? hx) HB.out)
      obtain ⟨z, hz⟩ : ∃ z, Stb.getC ifsL x = z := ⟨_, rfl⟩
      have HZ : Hid (∀ y, R[h]? = some y → Stb.getC ifsL y = z) := Lib.hid (fun y hy => by rw [hx] at hy; rw [← Option.some.inj hy]; exact hz)
      have hz2 : Stb.getC ifsL (⟨x.toArray⟩ : ByteArray).data.toList = z := hz
      rw [hz2] at HCALL
      clear hz hz2 hx hP hhR
      by_cases hz0 : z < 0
      · go_wp2_with (go_at_call 86; refine HCALL.out.mono ?_; rintro e w2 ⟨rfl, hq⟩; have H2 := Lib.hid (HB.out.trans (hq.mono HB.out.size)); clear hq)
        go_roundg (j - (h + 1))
        case measure => omega
        case rel => exact ⟨h + 1, j, by go_num, rfl, by omega, h2, rfl, Lib.hid ⟨Or.inr (fun y hy => by rw [Nat.add_sub_cancel] at hy; rw [HZ.out y hy]; exact hz0), HX.out.2⟩, H2⟩
      · go_wp2_with (go_at_call 86; refine HCALL.out.mono ?_; rintro e w2 ⟨rfl, hq⟩; have H2 := Lib.hid (HB.out.trans (hq.mono HB.out.size)); clear hq)
        go_roundg (h - i)
        case measure => omega
        case rel => exact ⟨i, h, rfl, rfl, by omega, by omega, rfl, Lib.hid ⟨HX.out.1, Or.inr (fun y hy => by rw [HZ.out y hy]; omega)⟩, H2⟩
    · have hijz : ¬ (i : Int) < (j : Int) := by omega
      have hej : j = i := by omega
      subst hej
      have HS := Lib.hid (HSE.out j (by rw [HN.out]; exact h2) HX.out.1 (by rw [HN.out]; exact HX.out.2.imp id (fun h y hy => by have := h y hy; omega)))
      by_cases hjn : j < n
      · have hjz : (j : Int) < (n : Int) := by omega
        have hhR : j < R.length := by rw [HN.out]; omega
        obtain ⟨x, hx⟩ : ∃ x, R[j]? = some x := ⟨_, List.getElem?_eq_getElem hhR⟩
        obtain ⟨P, rfl, hP⟩ := HCELL.out (fun e => by rw [e] at hhR; simp at hhR)
        have cx : wr.cell? ⟨P, j, none⟩ = some (.string ⟨x.toArray⟩) := (HB.out.cell (p := ⟨P, j, none⟩) (World.block_lt_of_cell? w _ (hP j x hx))).trans (hP j x hx)
        have HCALL := Lib.hid (HG.out wr x (List.mem_of_getElem? hx) HB.out)
        obtain ⟨z, hz⟩ : ∃ z, Stb.getC ifsL x = z := ⟨_, rfl⟩
        have hz2 : Stb.getC ifsL (⟨x.toArray⟩ : ByteArray).data.toList = z := hz
        rw [hz2] at HCALL
        have HXX := Lib.hid (And.intro hx hz)
        clear hz hz2 hx hP hhR
        by_cases hz0 : z = 0
        · have hzb : (z == 0) = true := by simp [hz0]
          have HF : Hid (∃ y, R[j]? = some y ∧ Stb.fnd (ifsL ++ [61]) R = some y) := Lib.hid ⟨x, HXX.out.1, HS.out.1 x HXX.out.1 (by rw [HXX.out.2]; exact hz0)⟩
          clear hz0
          go_wp2_with (go_at_call 86; refine HCALL.out.mono ?_; rintro e w2 ⟨rfl, hq⟩; have H2 := Lib.hid (HB.out.trans (hq.mono HB.out.size)); clear hq)
          go_ret2
          exact ⟨j, true, rfl, fun _ => HF.out, fun e => (by cases e), H2.out⟩
        · have hzb : (z == 0) = false := by simp [hz0]
          have HF : Hid (Stb.fnd (ifsL ++ [61]) R = none) := Lib.hid (HS.out.2 (fun y hy => by
            rw [HXX.out.1] at hy
            rw [← Option.some.inj hy, HXX.out.2]
            exact hz0))
          clear hz0
          go_wp2_with (go_at_call 86; refine HCALL.out.mono ?_; rintro e w2 ⟨rfl, hq⟩; have H2 := Lib.hid (HB.out.trans (hq.mono HB.out.size)); clear hq)
          go_ret2
          exact ⟨j, false, rfl, fun e => (by cases e), fun _ => HF.out, H2.out⟩
      · have hjz : ¬ (j : Int) < (n : Int) := by omega
        have HF : Hid (Stb.fnd (ifsL ++ [61]) R = none) := Lib.hid (HS.out.2 (fun y hy => by
          rw [List.getElem?_eq_none (by rw [HN.out]; omega)] at hy
          cases hy))
        go_wp2_with fail
        go_ret2
        exact ⟨j, false, rfl, fun e => (by cases e), fun _ => HF.out, HB.out⟩
end Go.Proofs.YthcminjdkgmeoaaGreatDoor

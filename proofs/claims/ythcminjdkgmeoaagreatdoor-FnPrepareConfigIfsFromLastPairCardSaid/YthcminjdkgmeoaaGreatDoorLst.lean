/-
  The environment of a list of pairs.
-/
import Derived.Test.YthcminjdkgmeoaaGreatDoorDl
namespace Go.Proofs.YthcminjdkgmeoaaGreatDoor
open Go.RowKit
set_option linter.unusedVariables false

/-- The kept pairs lie so. -/
def EnvAt (R : List (List UInt8)) (v : Value) (w : World) : Prop := ∃ ao c, v = .slice ao R.length c ∧ (R ≠ [] → ∃ P, ao = some ⟨P, 0, none⟩ ∧ ∀ (k : Nat) x, R[k]? = some x → w.cell? ⟨P, k, none⟩ = some (strL x))
def ifsL : List UInt8 := [73, 70, 83]
/-- What the kept pairs are good for. -/
structure ResOk (L R : List (List UInt8)) : Prop where
  inc : ∀ (i j : Nat) x y, i < j → R[i]? = some x → R[j]? = some y → Lib.compareBytes (Stb.key x) (Stb.key y) < 0
  val : ∀ x ∈ R, Stb.valid x = true
  fnd : Stb.fnd (ifsL ++ [61]) R = Stb.fnd (ifsL ++ [61]) L
def LstOut (L : List (List UInt8)) (w : World) (e : Ending) (w' : World) : Prop := ∃ v R, e = .returned (.iface 53 (.agg #[.bool false, v])) ∧ EnvAt R v w' ∧ ResOk L R ∧ R.length ≤ L.length ∧ (∀ x ∈ R, x.length ≤ 4194304) ∧ Below w.heap.size w w'


theorem listEnv_cells {w : World} : (w.alloc (.cells #[.bool false, .slice none 0 0] 53)).heap[w.heap.size]? = some (.cells #[.bool false, .slice none 0 0] 53 (0, 0)) := heap_alloc_new w _
/-- The copy is ready to be put in order. -/
theorem sort_ready {w1 : World} {P n c : Nat} {S : Nat → List UInt8} (h : SA w1 P n S id w1) (hn : n ≤ 4194304) (hS : ∀ k, (S k).length ≤ 4194304) :
    Calls Tryz.prog 14 #[.slice (some ⟨P, 0, none⟩) n c, cmpV w1.heap.size] (w1.alloc (.cells #[.bool false, .slice none 0 0] 53)) fun e w' => e = .returned (.tuple #[]) ∧ ∃ q, SA (w1.alloc (.cells #[.bool false, .slice none 0 0] 53)) P n S q w' ∧ Stb.Shuf 0 n id q ∧ Stb.Sorted (ltS S) 0 n q := by
  have hP := h.lt
  have hc0 : (w1.alloc (.cells #[.bool false, .slice none 0 0] 53)).cell? ⟨w1.heap.size, 0, none⟩ = some (.bool false) := (Lib.cell_of_heap listEnv_cells 0).trans rfl
  have hc1 : (w1.alloc (.cells #[.bool false, .slice none 0 0] 53)).cell? ⟨w1.heap.size, 1, none⟩ = some (.slice none 0 0) := (Lib.cell_of_heap listEnv_cells 1).trans rfl
  have hb : Below w1.heap.size w1 (w1.alloc (.cells #[.bool false, .slice none 0 0] 53)) := (Below.refl w1.heap.size w1).alloc (Nat.le_refl _) _
  exact sort_any _ _ P n w1.heap.size c S (by omega) (fun w x y hk => cmpf_any w1.heap.size ⟨(S x).toArray⟩ ⟨(S y).toArray⟩ (by show (S x).toArray.size ≤ _; rw [List.size_toArray]; exact hS x) (by show (S y).toArray.size ≤ _; rw [List.size_toArray]; exact hS y) w (hk.cell (by omega) hc0) (hk.cell (by omega) hc1)) ⟨(h.below hb).cells, KeptP.refl _ _⟩
theorem name_list (x : List UInt8) : ((⟨x.toArray⟩ : ByteArray).extract 0 (eqPos ⟨x.toArray⟩)).data.toList = Stb.name x := ext_list _ _
theorem toList_eq (s : ByteArray) : s.toList = s.data.toList := Lib.toList_data s
/-- The thinning out, under way. -/
structure ThI (W2 : World) (P n : Nat) (R done : List (List UInt8)) (last : List UInt8) (rest : List (List UInt8)) (w : World) : Prop where
  dl : DL W2 P (done ++ rest) w
  res : Stb.dd done last rest = R
  inv : Stb.DdI done last rest
  len : (done ++ rest).length ≤ n
  sml : ∀ x ∈ done ++ rest, x.length ≤ 4194304
section
variable {W2 w w' : World} {P n : Nat} {R done rest : List (List UInt8)} {last x : List UInt8}
theorem ThI.below (h : ThI W2 P n R done last rest w) (hb : Below w.heap.size w w') : ThI W2 P n R done last rest w' := ⟨h.dl.below hb, h.res, h.inv, h.len, h.sml⟩
theorem ThI.drop (h : ThI W2 P n R done last (x :: rest) w) (hv : Stb.valid x = false) (hd : DL W2 P ((done ++ x :: rest).take done.length ++ (done ++ x :: rest).drop (done.length + 1)) w') : ThI W2 P n R done last rest w' := by
  have e : (done ++ x :: rest).take done.length ++ (done ++ x :: rest).drop (done.length + 1) = done ++ rest := by
    rw [List.take_left, List.drop_append]
    simp
  rw [e] at hd
  have hr := h.res
  rw [Stb.dd, hv, if_neg (by simp)] at hr
  have hl := h.len
  simp at hl
  exact ⟨hd, hr, h.inv.tail, by simp; omega, fun y hy => h.sml y (by
    rcases List.mem_append.1 hy with hy | hy
    · simp [hy]
    · simp [hy])⟩
theorem ThI.dup (h : ThI W2 P n R done last (x :: rest) w) (hv : Stb.valid x = true) (hl : Stb.name x = last) (hd : DL W2 P ((done ++ x :: rest).take (done.length - 1) ++ (done ++ x :: rest).drop done.length) w') : ∃ d, (d ++ [x]).length = done.length ∧ ThI W2 P n R (d ++ [x]) last rest w' := by
  obtain ⟨d, z, h1, _, h3⟩ := h.inv.dup hv hl
  have e : (done ++ x :: rest).take (done.length - 1) ++ (done ++ x :: rest).drop done.length = (d ++ [x]) ++ rest := by
    have e1 : done.length - 1 = d.length := by rw [h1]; simp
    rw [e1, List.drop_left, h1, List.append_assoc, List.take_left]
    simp
  rw [e] at hd
  have hr := h.res
  rw [Stb.dd, hv, if_pos rfl, if_pos hl, h1] at hr
  have hln := h.len
  rw [h1] at hln
  simp at hln hr
  refine ⟨d, by rw [h1]; simp, hd, hr, h3, by simp; omega, fun y hy => h.sml y ?_⟩
  rw [h1]
  simp at hy ⊢
  rcases hy with hy | hy | hy
  · simp [hy]
  · simp [hy]
  · simp [hy]
theorem ThI.new (h : ThI W2 P n R done last (x :: rest) w) (hv : Stb.valid x = true) (hl : Stb.name x ≠ last) : ThI W2 P n R (done ++ [x]) (Stb.name x) rest w := by
  have hr := h.res
  rw [Stb.dd, hv, if_pos rfl, if_neg hl] at hr
  have e : (done ++ [x]) ++ rest = done ++ x :: rest := by simp
  exact ⟨by rw [e]; exact h.dl, hr, h.inv.new hv hl, by rw [e]; exact h.len, by rw [e]; exact h.sml⟩
end

set_option maxRecDepth 100000 in
set_option maxHeartbeats 4000000 in
theorem lst_any (L : List (List UInt8)) (b c : Nat) (w : World) (h0 : 0 < L.length) (hn : L.length ≤ 4194304) (hs : ∀ x ∈ L, x.length ≤ 4194304) (hc : ∀ (k : Nat) x, L[k]? = some x → w.cell? ⟨b, k, none⟩ = some (strL x)) :
    Calls Tryz.prog 11 #[.bool false, .slice (some ⟨b, 0, none⟩) L.length c] w (LstOut L w) := by
  obtain ⟨S, hS⟩ : ∃ S : Nat → List UInt8, S = fun k => L.getD k [] := ⟨_, rfl⟩
  have HCL := Lib.hid (clone_any b c L.length S w h0 (by omega) (fun k hk => by rw [hS]; exact hc k _ (getD_of hk)))
  have hSL : ∀ k, (S k).length ≤ 4194304 := fun k => by
    rw [hS]
    by_cases hk : k < L.length
    · exact hs _ (List.mem_of_getElem? (getD_of hk))
    · show (L.getD k []).length ≤ _
      rw [List.getD_eq_getElem?_getD, List.getElem?_eq_none (by omega)]
      simp
  have HSL := Lib.hid hSL
  have hlay : Stb.lay L.length S id = L := by
    apply List.ext_getElem?
    intro k
    by_cases hk : k < L.length
    · rw [Stb.lay_get S id hk, hS, getD_of hk]
      rfl
    · rw [List.getElem?_eq_none (by rw [Stb.lay_length]; omega), List.getElem?_eq_none (by omega)]
  have HLAY := Lib.hid hlay
  have HSM := Lib.hid hs
  have hmf : ∀ (fn : Fn) (first cap : Array Value) (w : World), (Instr.makeFunc fn first cap).run Tryz.prog w = .ok (.func fn first cap) w := fun _ _ _ _ => rfl
  obtain ⟨n, hN⟩ : ∃ n, L.length = n := ⟨_, rfl⟩
  have HNL := Lib.hid hN
  have hnz : (n : Int) ≤ 4194304 := by omega
  have HNZ := Lib.hid (show n ≤ 4194304 by omega)
  rw [hN] at HCL HLAY ⊢
  clear hc hSL hs hlay hS hN hn h0
  go_enter Tryz.func11, Tryz.ntmps11
  go_wp2_with (first
    | (go_at_call 13; refine HCL.out.mono ?_; rintro e w1 ⟨P, c2, rfl, a1, a2, a3, a4, a5⟩; have HSO := Lib.hid (sort_ready (c := c2) a1 HNZ.out HSL.out); have HC2 := Lib.hid (And.intro a2 a3); have HB1 := Lib.hid (And.intro a4 a5); have HPL := Lib.hid a1.lt; clear a1 a2 a3 a4 a5)
    | (go_at_call 14; refine HSO.out.mono ?_; rintro e w3 ⟨rfl, q, b1, b2, b3⟩; have HQ := Lib.hid (And.intro b1 (And.intro b2 b3)); clear b1 b2 b3))
  obtain ⟨R, hR⟩ : ∃ R, Stb.dd [] [] (Stb.lay n S q) = R := ⟨_, rfl⟩
  have HR := Lib.hid hR
  have HT0 : Hid (ThI (w1.alloc (.cells #[.bool false, .slice none 0 0] 53)) P n R [] [] (Stb.lay n S q) w3) := Lib.hid ⟨HQ.out.1.dl, hR, Stb.DdI.start (Stb.lay_srt HQ.out.2.2), by rw [List.nil_append, Stb.lay_length]; exact Nat.le_refl _, fun x hx => by
    obtain ⟨k, hk⟩ := List.getElem?_of_mem hx
    obtain ⟨_, rfl⟩ := Stb.lay_at hk
    exact HSL.out _⟩
  clear hR
  go_loopg [5, 7, 8] n (fun gk s5 s7 s8 wr => ∃ (done rest : List (List UInt8)) (last : List UInt8) (m i : Nat), s5 = .slice (some ⟨P, 0, none⟩) m c2 ∧ s7 = strL last ∧ s8 = .int .i64 (i : Int) ∧ m = (done ++ rest).length ∧ i = done.length ∧ gk = rest.length ∧ Hid (ThI (w1.alloc (.cells #[.bool false, .slice none 0 0] 53)) P n R done last rest wr))
  case atStart => exact ⟨[], Stb.lay n S q, [], n, 0, rfl, rfl, rfl, by rw [List.nil_append, Stb.lay_length], rfl, by rw [Stb.lay_length], HT0⟩
  case round =>
    obtain ⟨done, rest, last, m, i, rfl, rfl, rfl, hm, hi, rfl, HX⟩ := hrel
    have hk := HX.out.dl.kept
    have E0 : wr.cell? ⟨w1.heap.size, 0, none⟩ = some (.bool false) := hk.cell (by have := HPL.out; omega) ((Lib.cell_of_heap listEnv_cells 0).trans rfl)
    have E1 : wr.cell? ⟨w1.heap.size, 1, none⟩ = some (.slice none 0 0) := hk.cell (by have := HPL.out; omega) ((Lib.cell_of_heap listEnv_cells 1).trans rfl)
    clear hk
    cases rest with
    | nil =>
      have hmi : m = i := by rw [hm, hi]; simp
      have hiz : ¬ (i : Int) < (m : Int) := by omega
      have F1 : wr.frozen? ⟨w1.heap.size, 1, none⟩ = false := (World.frozen?_of_block (HX.out.dl.kept.block w1.heap.size (by simp) (by have := HPL.out; omega))).trans (Lib.frozen_of_heap listEnv_cells 1)
      have HL1 := Lib.hid hi
      have HL2 := Lib.hid hmi
      clear hm hi hmi
      go_wp2_with fail
      go_ret
      have hres : done = R := HX.out.res
      have hdn : done ++ [] = R := by rw [List.append_nil, hres]
      have hP := HPL.out
      have hE := Stb.env_get (t := ifsL) (by decide) (by decide) HQ.out.2.1 HQ.out.2.2
      rw [HR.out, HLAY.out] at hE
      have hb1 := HB1.out.1
      have hb2 : Below w1.heap.size w1 (w1.alloc (.cells #[.bool false, .slice none 0 0] 53)) := (Below.refl w1.heap.size w1).alloc (Nat.le_refl _) _
      have hkk := HX.out.dl.kept
      have hb3 : Below w.heap.size (w1.alloc (.cells #[.bool false, .slice none 0 0] 53)) wr := ⟨hkk.os, hkk.tape, hkk.output, hkk.size, fun k hk => hkk.block k (by have := hb1.size; have := hb2.size; omega) (by have := HB1.out.2; omega)⟩
      refine ⟨.slice (some ⟨P, 0, none⟩) m c2, R, rfl, ⟨some ⟨P, 0, none⟩, c2, by rw [HL2.out, HL1.out, hres], fun _ => ⟨P, rfl, fun k x hx => ?_⟩⟩, ⟨hE.1, hE.2.1, hE.2.2⟩, ?_, fun x hx => HX.out.sml x (by rw [hdn]; exact hx), ?_⟩
      · rw [World.cell?_setCell_other _ _ _ _ (by intro h; cases h; omega)]
        exact HX.out.dl.cells k x (by rw [hdn]; exact hx)
      · have := HX.out.len
        rw [hdn] at this
        rw [HNL.out]
        exact this
      · exact (hb1.trans ((hb2.mono hb1.size).trans hb3)).setCell (p := ⟨w1.heap.size, 1, none⟩) hb1.size _
    | cons x r =>
      have hml := HX.out.len
      have hmi : i < m := by rw [hm, hi]; simp
      have hiz : (i : Int) < (m : Int) := by omega
      have hmz : (m : Int) ≤ 4194304 := by have := HNZ.out; omega
      have hxs : x.length ≤ 4194304 := HX.out.sml x (by simp)
      have cx : wr.cell? ⟨P, i, none⟩ = some (.string ⟨x.toArray⟩) := HX.out.dl.cells i x (by rw [hi, List.getElem?_append_right (Nat.le_refl _), Nat.sub_self]; rfl)
      have hsz : (⟨x.toArray⟩ : ByteArray).size = x.length := by show x.toArray.size = _; rw [List.size_toArray]
      have heq : eqPos ⟨x.toArray⟩ = Stb.eqP x := rfl
      have HMI := Lib.hid (And.intro hm hi)
      have HDEL : Hid (∀ w5, Below wr.heap.size wr w5 → Calls Tryz.prog 19 #[.slice (some ⟨P, 0, none⟩) m c2, .int .i64 (i : Int), .int .i64 ((i : Int) + 1)] w5 fun e w' => e = .returned (.slice (some ⟨P, 0, none⟩) (m - 1) c2) ∧ DL (w1.alloc (.cells #[.bool false, .slice none 0 0] 53)) P ((done ++ x :: r).take done.length ++ (done ++ x :: r).drop (done.length + 1)) w') := Lib.hid (fun w5 hb5 => by
        have h := del_any _ w5 P (done ++ x :: r) done.length (done.length + 1) c2 (HX.out.dl.below hb5) (by omega) (by simp) (by have := HC2.out.1; omega) HC2.out.2
        rw [← hm, ← hi] at h
        rw [← hi]
        rw [show i + 1 - i = 1 by omega] at h
        exact h)
      have HDUP : Hid (0 < i → ∀ w5, Below wr.heap.size wr w5 → Calls Tryz.prog 19 #[.slice (some ⟨P, 0, none⟩) m c2, .int .i64 ((i : Int) - 1), .int .i64 (i : Int)] w5 fun e w' => e = .returned (.slice (some ⟨P, 0, none⟩) (m - 1) c2) ∧ DL (w1.alloc (.cells #[.bool false, .slice none 0 0] 53)) P ((done ++ x :: r).take (done.length - 1) ++ (done ++ x :: r).drop done.length) w') := Lib.hid (fun hi0 w5 hb5 => by
        have h := del_any _ w5 P (done ++ x :: r) (done.length - 1) done.length c2 (HX.out.dl.below hb5) (by omega) (by simp) (by have := HC2.out.1; omega) HC2.out.2
        rw [← hm, ← hi] at h
        rw [← hi]
        rw [show i - (i - 1) = 1 by omega, show (((i - 1 : Nat)) : Int) = (i : Int) - 1 by omega] at h
        exact h)
      clear hml hm hi
      by_cases hq : Stb.eqP x < x.length
      · have HCUT := Lib.hid (fun (w5 : World) => cut_hit ⟨x.toArray⟩ w5 (by omega) (by rw [heq, hsz]; exact hq))
        have hnl := name_list x
        obtain ⟨nm, hnm⟩ : ∃ nm, (⟨x.toArray⟩ : ByteArray).extract 0 (eqPos ⟨x.toArray⟩) = nm := ⟨_, rfl⟩
        obtain ⟨vl, hvl⟩ : ∃ vl, (⟨x.toArray⟩ : ByteArray).extract (eqPos ⟨x.toArray⟩ + 1) (⟨x.toArray⟩ : ByteArray).size = vl := ⟨_, rfl⟩
        rw [hnm, hvl] at HCUT
        rw [hnm] at hnl
        have HNM := Lib.hid hnl
        clear hnm hvl hsz heq
        by_cases hz : Stb.eqP x = 0
        · have hv : Stb.valid x = false := by simp [Stb.valid, hz]
          have hemp : (nm.toList == []) = true := by
            rw [toList_eq, hnl, Stb.name, hz]
            rfl
          have HV := Lib.hid hv
          clear hnl hz hq hv
          go_wp2_with (first
            | (go_at_call 18; refine (HCUT.out _).mono ?_; rintro e w5 ⟨rfl, u, hw5⟩; subst w5)
            | (go_at_call 19; refine (HDEL.out _ (below_drewN (Below.refl wr.heap.size wr) u)).mono ?_; rintro e w6 ⟨rfl, c1⟩; have H6 := Lib.hid (HX.out.drop HV.out c1); clear c1))
          go_roundg r.length
          case measure => simp
          case rel => exact ⟨done, r, last, m - 1, i, rfl, rfl, rfl, by have := HMI.out.1; simp at this ⊢; omega, HMI.out.2, rfl, H6⟩
        · have hv : Stb.valid x = true := by simp [Stb.valid]; omega
          have hlen : (Stb.name x).length = Stb.eqP x := by
            unfold Stb.name
            rw [List.length_take]
            omega
          have hemp : (nm.toList == []) = false := by
            rw [toList_eq, hnl, beq_eq_false_iff_ne]
            intro e
            rw [e] at hlen
            simp at hlen
            omega
          have HV := Lib.hid hv
          obtain ⟨rr, hrr⟩ : ∃ rr, Lib.compareBytes last (Stb.name x) = rr := ⟨_, rfl⟩
          have HCMP : Hid (∀ w5 : World, Calls Tryz.prog 17 #[.agg #[.bool false, .slice none 0 0], .string ⟨last.toArray⟩, .string nm] w5 fun e w' => e = .returned (.int .i64 rr) ∧ Below w5.heap.size w5 w') := Lib.hid (fun w5 => by
            have h := compare_any (.slice none 0 0) ⟨last.toArray⟩ nm w5
            rw [hnl, hrr] at h
            exact h)
          by_cases hl : Stb.name x = last
          · have hr0 : (rr == 0) = true := by
              rw [← hrr, hl, Stb.cb_refl]
              rfl
            have HL := Lib.hid hl
            have HI0 : Hid (0 < i) := Lib.hid (by
              obtain ⟨d, z, h1, _⟩ := HX.out.inv.dup hv hl
              rw [HMI.out.2, h1]
              simp)
            have hi0 : (0 : Int) < (i : Int) := by have := HI0.out; omega
            clear hnl hz hq hv hlen hrr hl
            go_wp2_with (first
              | (go_at_call 18; refine (HCUT.out _).mono ?_; rintro e w5 ⟨rfl, u, hw5⟩; subst w5)
              | (go_at_call 17; refine (HCMP.out _).mono ?_; rintro e w6 ⟨rfl, hb6⟩; have HB6 := Lib.hid ((below_drewN (Below.refl wr.heap.size wr) u).trans hb6); clear hb6)
              | (go_at_call 19; refine (HDUP.out HI0.out _ HB6.out).mono ?_; rintro e w7 ⟨rfl, c1⟩; have H7 := Lib.hid (HX.out.dup HV.out HL.out c1); clear c1))
            obtain ⟨d, hd1, hd2⟩ := H7.out
            go_roundg r.length
            case measure => simp
            case rel => exact ⟨d ++ [x], r, last, m - 1, i, rfl, rfl, rfl, by have := HMI.out.1; rw [List.length_append, hd1]; simp at this ⊢; omega, by rw [hd1]; exact HMI.out.2, rfl, Lib.hid hd2⟩
          · have hr0 : (rr == 0) = false := by
              rw [← hrr, beq_eq_false_iff_ne]
              intro e
              exact hl (Stb.cb_eq _ _ e).symm
            have HL := Lib.hid hl
            have HNM2 : Hid (nm = ⟨(Stb.name x).toArray⟩) := Lib.hid (by rw [← hnl])
            clear hnl hz hq hv hlen hrr hl
            go_wp2_with (first
              | (go_at_call 18; refine (HCUT.out _).mono ?_; rintro e w5 ⟨rfl, u, hw5⟩; subst w5)
              | (go_at_call 17; refine (HCMP.out _).mono ?_; rintro e w6 ⟨rfl, hb6⟩; have H6 := Lib.hid ((HX.out.new HV.out HL.out).below ((below_drewN (Below.refl wr.heap.size wr) u).trans hb6)); clear hb6))
            go_roundg r.length
            case measure => simp
            case rel => exact ⟨done ++ [x], r, Stb.name x, m, i + 1, rfl, by rw [HNM2.out], by go_num, by have := HMI.out.1; simp at this ⊢; omega, by have := HMI.out.2; simp; omega, rfl, H6⟩
      · have hv : Stb.valid x = false := by simp [Stb.valid]; omega
        have HV := Lib.hid hv
        have HCUT := Lib.hid (fun (w5 : World) => cut_miss ⟨x.toArray⟩ w5 (by omega) (by rw [heq, hsz]; exact hq))
        obtain ⟨s, hs⟩ : ∃ s : ByteArray, ⟨x.toArray⟩ = s := ⟨_, rfl⟩
        rw [hs] at HCUT cx
        clear hs hsz heq hq hv
        cases hemp : (s.toList == [])
        all_goals
          go_wp2_with (first
            | (go_at_call 18; refine (HCUT.out _).mono ?_; rintro e w5 ⟨rfl, rfl⟩)
            | (go_at_call 19; refine (HDEL.out _ (Below.refl _ _)).mono ?_; rintro e w6 ⟨rfl, c1⟩; have H6 := Lib.hid (HX.out.drop HV.out c1); clear c1))
          go_roundg r.length
          case measure => simp
          case rel => exact ⟨done, r, last, m - 1, i, rfl, rfl, rfl, by have := HMI.out.1; simp at this ⊢; omega, HMI.out.2, rfl, H6⟩
end Go.Proofs.YthcminjdkgmeoaaGreatDoor

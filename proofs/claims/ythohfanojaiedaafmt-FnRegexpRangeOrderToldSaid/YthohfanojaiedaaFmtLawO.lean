/-
  FnRegexpRangeOrder answers true at every input.
-/
import Derived.Test.YthohfanojaiedaaFmtSmallO
import Derived.Test.YthohfanojaiedaaFmtAs
namespace Go.Proofs.YthohfanojaiedaaFmt
open Go.RowKit Go.Extern.Stop Go.Stop Go.Extern

/-- The bracket's text. -/
def rng (a b : UInt8) : ByteArray := ⟨#[91, a, 45, b, 93]⟩
theorem conv_five (a b : UInt8) (x y : Nat) (ha : a.toNat = x) (hb : b.toNat = y) (W : World) : (convert 27 9 (.slice (some ⟨W.heap.size, 0, none⟩) 5 5)).run Tryf.prog (W.alloc (.cells #[.int .u8 91, .int .u8 x, .int .u8 45, .int .u8 y, .int .u8 93] 5)) = .ok (.string (rng a b)) (W.alloc (.cells #[.int .u8 91, .int .u8 x, .int .u8 45, .int .u8 y, .int .u8 93] 5)) := by
  subst ha hb
  exact run_convert_bytes_back _ _ _ _ ⟨W.heap.size, 0, none⟩ 5 [91, a, 45, b, 93] Tryf.underlying27 Tryf.underlying5 Tryf.underlying9 (fun j hj => by
    match j, hj with
    | 0, _ => simp [Addr.add]
    | 1, _ => simp [Addr.add]
    | 2, _ => simp [Addr.add]
    | 3, _ => simp [Addr.add]
    | 4, _ => simp [Addr.add])

/-- The pattern: letters and digits, then the bracket. -/
theorem pat_facts (s : ByteArray) (a b : UInt8) : (s ++ rng a b).size = s.size + 5 ∧ (∀ k, k < s.size → bt (s ++ rng a b) k = bt s k) ∧ bt (s ++ rng a b) s.size = 91 ∧ bt (s ++ rng a b) (s.size + 1) = a.toNat ∧ bt (s ++ rng a b) (s.size + 1 + 1) = 45 ∧ bt (s ++ rng a b) (s.size + 1 + 2) = b.toNat ∧ bt (s ++ rng a b) (s.size + 1 + 3) = 93 := by
  have hz : (s ++ rng a b).data.toList = s.data.toList ++ [91, a, 45, b, 93] := by
    rw [ByteArray.data_append, Array.toList_append]
    rfl
  have hl : s.data.toList.length = s.size := by simp
  have hat : ∀ j, bt (s ++ rng a b) (s.size + j) = ([91, a, 45, b, 93].getD j 0 : UInt8).toNat := fun j => by
    unfold bt
    rw [hz, List.getD, List.getElem?_append_right (by omega), hl, Nat.add_sub_cancel_left]
    rfl
  refine ⟨by rw [ByteArray.size_append]; rfl, fun k hk => ?_, hat 0, hat 1, hat 2, hat 3, hat 4⟩
  unfold bt
  rw [hz, List.getD, List.getD, List.getElem?_append_left (by omega)]

set_option maxRecDepth 100000 in
set_option maxHeartbeats 4000000 in
theorem lawO_ok (s : ByteArray) (a b : UInt8) (x y : Nat) (hax : a.toNat = x) (hby : b.toNat = y) (mode : Int) (w : World) (hs : s.size ≤ 65536) (p : Addr) (hV : w.cell? ⟨0, 0, none⟩ = some (.iface 109 (.pointer (some p))))
    (hal : allAl s = true) (hx : isAl x = true) (hy : isAl y = true) (hxy : x ≤ y) :
    Calls Tryf.prog 4 #[.string s, .int .u8 x, .int .u8 y, .int .u64 mode] w (Good w) := by
  obtain ⟨ib, hib, hb0, hb1, hb2⟩ := info_parts Tryf.info_byte
  obtain ⟨I, U, hmo⟩ := mode_ok mode
  obtain ⟨m, hm⟩ : ∃ m, bits .or .u64 (bits .and .u64 mode 59) 4 = m := ⟨_, rfl⟩
  rw [hm] at hmo
  have HMO := Lib.hid hmo
  obtain ⟨p1, p2, p3, p4, p5, p6, p7⟩ := pat_facts s a b
  rw [hax] at p4
  rw [hby] at p6
  have HCV := conv_five a b x y hax hby
  obtain ⟨Q, hQ⟩ : ∃ Q, s ++ rng a b = Q := ⟨_, rfl⟩
  rw [hQ] at p1 p2 p3 p4 p5 p6 p7
  have HRX := Lib.hid (fun W q => regexp_ok Q m I U HMO.out s.size x y p1 (fun k hk => by rw [p2 k hk]; exact allAl_at hal k hk) p3 p4 p5 p6 p7 hx hy hxy W (by omega) p q)
  have HAA := Lib.hid (fun W => allAlnum_any s W hs)
  rw [hal] at HAA
  have HX := Lib.hid (fun W => alnum_yes hx W)
  have HY := Lib.hid (fun W => alnum_yes hy W)
  have HBY := Lib.hid (fun W => bytesO_yes s x y mode W (by omega))
  have HV := Lib.hid hV
  have HVs := Lib.hid (World.block_lt_of_cell? _ _ hV)
  have hz : (s.size : Int) ≤ 65536 := by omega
  have hQz : (Q.size : Int) ≤ 65541 := by omega
  have hxz : (x : Int) ≤ (y : Int) := by omega
  have hrz : (rng a b).size = 5 := rfl
  obtain ⟨r5, hr5⟩ : ∃ r5, rng a b = r5 := ⟨_, rfl⟩
  rw [hr5] at HCV hQ hrz
  have sz : (s.size : Int) + (r5.size : Int) ≤ 65541 := by omega
  clear hr5 hrz
  clear hV hmo p1 p2 p3 p4 p5 p6 p7 hal hx hy hax hby
  go_enter Tryf.func4, Tryf.ntmps4
  go_upto_region 8 with (first
    | (go_at_call 9; refine (HBY.out _).mono ?_; rintro e w' ⟨rfl, rfl⟩)
    | (go_at_call 10; refine (HAA.out _).mono ?_; rintro e w' ⟨rfl, rfl⟩)
    | (go_at_call 11; first | (refine (HX.out _).mono ?_; rintro e w' ⟨rfl, rfl⟩; clear HX) | (refine (HY.out _).mono ?_; rintro e w' ⟨rfl, rfl⟩)))
  go_upto_region 9 with fail
  have HB1 := Lib.hid ((Below.refl w.heap.size w).alloc (Nat.le_refl _) (.cells #[.int .u8 91, .int .u8 x, .int .u8 45, .int .u8 y, .int .u8 93] 5))
  generalize w.alloc (.cells #[.int .u8 91, .int .u8 x, .int .u8 45, .int .u8 y, .int .u8 93] 5) = w1 at HB1 ⊢
  have hV1 := (HB1.out.cell (p := ⟨0, 0, none⟩) HVs.out).trans HV.out
  have HRX1 := Lib.hid (HRX.out _ hV1)
  have hpf : part Q 0 Q.size = Q.data.toList := by
    unfold part
    rw [List.drop_zero, List.take_of_length_le (by simp)]
  obtain ⟨X, hX⟩ : ∃ X : ByteArray, ⟨(headOf I U ++ part Q 0 Q.size ++ [36]).toArray⟩ = X := ⟨_, rfl⟩
  rw [hX] at HRX1
  rw [hpf] at hX
  have HXX := Lib.hid hX
  have hhl : (headOf I U).length ≤ 7 := by cases I <;> cases U <;> decide
  clear hV1 HCV hX hpf
  go_upto_region 17 with (go_at_call 8; refine (HRX1.out).mono ?_; rintro e w2 ⟨rfl, hbb2⟩; have HB2 := Lib.hid (HB1.out.trans (hbb2.mono HB1.out.size)); clear hbb2)
  go_upto_region 18 with (first
    | (at_make; refine wpList_make_own _ rfl _ _ 27 rfl w2.heap.size 5 ib (.int .u8 0) 1 Tryf.underlying27 hib hb0 hb1 _ _ _ (Q.size + 8) rfl rfl (by omega) (by rw [hb2]; omega) (by unfold maxLen; omega) (Nat.le_refl _) ?_; intro w3 hown3 hgrow3; have HB3 := Lib.hid ((Below.refl w2.heap.size w2).grown hgrow3 (Nat.le_refl _) (fun k hk => by cases hk)); have hz3 := HB3.out.size)
    | (go_at_call 7; refine (head_any w2.heap.size 0 _ [] m I U HMO.out _ hz3 hown3 (by omega)).mono ?_; rintro e w4 ⟨v4, rfl, hown4, hb4⟩; have HB4 := Lib.hid (HB3.out.trans hb4); clear hb4))
  have hz4 := HB4.out.size
  rw [Nat.zero_add, List.nil_append] at hown4
  have HOWN4 := Lib.hid hown4
  clear hown4 hown3 hgrow3
  go_upto_region 20 with (first
    | (at_builtin; refine Lib.wpList_append_own_string _ rfl _ _ 27 9 rfl w2.heap.size 5 ib Tryf.underlying27 Tryf.underlying9 hib hb0 hb1 hb2 _ _ _ rfl HOWN4.out Q rfl (by unfold maxLen; omega) (by omega) hz4 ?_; intro v5 w5 hown5 hgrow5 _; have HB5 := Lib.hid (HB4.out.grown hgrow5 hz4 (fun j hj => (HOWN4.out.lt j hj).1)); have hz5 := HB5.out.size)
    | (at_builtin; refine wpList_append_own _ rfl _ _ 27 rfl w2.heap.size 5 ib (.int .u8 0) 1 1 Tryf.underlying27 hib hb0 hb1 hb2 rfl (by decide) _ _ _ rfl (hown5.alloc _) ⟨_, 0, none⟩ 1 1 [.int .u8 36] rfl rfl (cell_one_new _ _ _) (by intro u hu; simp at hu; subst hu; rfl) (by unfold maxLen; omega) (by omega) (by simp; omega) ?_; intro v6 w6 hown6 hgrow6 _; have HB6 := Lib.hid ((HB5.out.alloc hz5 _).grown hgrow6 (by simp; omega) (fun j hj => (hown5.lt j hj).1))))
  have hcells : Lib.byteCells (headOf I U ++ Q.data.toList ++ [36]) = Lib.byteCells (headOf I U) ++ Lib.strCells Q ++ [.int .u8 36] := by
    rw [Lib.byteCells_append, Lib.byteCells_append]
    rfl
  rw [← hcells] at hown6
  have hcv := conv_own hown6
  rw [HXX.out] at hcv
  have hz2 := HB2.out.size
  have HB26 := Lib.hid (HB2.out.trans (HB6.out.mono hz2))
  clear hown5 hown6 hgrow5 hgrow6 hcells hz2 hz3 hz4 hz5 HB3 HB4 HB5 HB6 HOWN4
  go_wp2
  go_ret
  exact ⟨rfl, HB26.out⟩
theorem as_hit2 (q : Nat) (t : ByteArray) (w2 : World) (hE : w2.cell? ⟨1, 0, none⟩ = some (.iface 80 (.agg #[.pointer (some ⟨4, 30, none⟩)]))) (hq : ErrAt q t w2) :
    Calls Tryf.prog 12 #[.iface 36 (.pointer (some ⟨q, 0, none⟩)), .iface 38 (.pointer (some ⟨w2.heap.size, 0, none⟩))] (w2.alloc (.cells #[.pointer none] 36)) fun e w' => e = .returned (.bool true) ∧ w'.cell? ⟨w2.heap.size, 0, none⟩ = some (.pointer (some ⟨q, 0, none⟩)) ∧ ErrAt q t w' ∧ Below w2.heap.size w2 w' := by
  have hlt := World.block_lt_of_cell? _ _ hE
  have hql : q < w2.heap.size := (Array.getElem?_eq_some_iff.1 hq).1
  refine (as_hit ⟨q, 0, none⟩ ⟨w2.heap.size, 0, none⟩ (.pointer none) _ (by rw [World.cell?_alloc_past _ _ _ hlt]; exact hE) (by simp [go_sem]) (by simp [go_sem])).mono ?_
  rintro e w' ⟨rfl, rfl⟩
  refine ⟨rfl, by simp [go_sem], ?_, ?_⟩
  · refine (Below.block (B := w2.heap.size) (w := w2) ?_ q hql).trans hq
    exact ((((((Below.refl _ _).alloc (Nat.le_refl _) _).alloc (by simp) _).alloc (by simp; omega) _).alloc (by simp; omega) _).alloc (by simp; omega) _).setCell (p := ⟨w2.heap.size, 0, none⟩) (Nat.le_refl _) _
  · exact ((((((Below.refl _ _).alloc (Nat.le_refl _) _).alloc (by simp) _).alloc (by simp; omega) _).alloc (by simp; omega) _).alloc (by simp; omega) _).setCell (p := ⟨w2.heap.size, 0, none⟩) (Nat.le_refl _) _

set_option maxRecDepth 100000 in
set_option maxHeartbeats 4000000 in
theorem lawO_bad (F : Interp) (s : ByteArray) (a b : UInt8) (x y : Nat) (hax : a.toNat = x) (hby : b.toNat = y) (mode : Int) (w : World) (hs : s.size ≤ 65536) (p : Addr) (hV : w.cell? ⟨0, 0, none⟩ = some (.iface 109 (.pointer (some p))))
    (hal : allAl s = true) (hx : isAl x = true) (hy : isAl y = true) (hxy : y < x) (hF : F.answers w.tape) (hE : w.cell? ⟨1, 0, none⟩ = some (.iface 80 (.agg #[.pointer (some ⟨4, 30, none⟩)]))) :
    Calls Tryf.prog 4 #[.string s, .int .u8 x, .int .u8 y, .int .u64 mode] w (Good w) := by
  obtain ⟨I, U, hmo⟩ := mode_ok mode
  obtain ⟨m, hm⟩ : ∃ m, bits .or .u64 (bits .and .u64 mode 59) 4 = m := ⟨_, rfl⟩
  rw [hm] at hmo
  have HMO := Lib.hid hmo
  obtain ⟨p1, p2, p3, p4, p5, p6, p7⟩ := pat_facts s a b
  rw [hax] at p4
  rw [hby] at p6
  have HCV := conv_five a b x y hax hby
  obtain ⟨Q, hQ⟩ : ∃ Q, s ++ rng a b = Q := ⟨_, rfl⟩
  rw [hQ] at p1 p2 p3 p4 p5 p6 p7
  have HRX := Lib.hid (fun W q hFW => regexp_bad F Q W m I U HMO.out s.size x y p1 (fun k hk => by rw [p2 k hk]; exact allAl_at hal k hk) p3 p4 p5 p6 p7 hx hy hxy hFW (by omega) p q)
  have HAA := Lib.hid (fun W => allAlnum_any s W hs)
  rw [hal] at HAA
  have HX := Lib.hid (fun W => alnum_yes hx W)
  have HY := Lib.hid (fun W => alnum_yes hy W)
  have HBY := Lib.hid (fun W => bytesO_yes s x y mode W (by omega))
  have HV := Lib.hid hV
  have HVs := Lib.hid (World.block_lt_of_cell? _ _ hV)
  have hz : (s.size : Int) ≤ 65536 := by omega
  have hQz : (Q.size : Int) ≤ 65541 := by omega
  have hxz : (y : Int) < (x : Int) := by omega
  have HF := Lib.hid hF
  have HE := Lib.hid hE
  have HEs := Lib.hid (World.block_lt_of_cell? _ _ hE)
  have hrz : (rng a b).size = 5 := rfl
  obtain ⟨r5, hr5⟩ : ∃ r5, rng a b = r5 := ⟨_, rfl⟩
  rw [hr5] at HCV hQ hrz
  have sz : (s.size : Int) + (r5.size : Int) ≤ 65541 := by omega
  clear hr5 hrz
  clear hV hF hE hmo p1 p2 p3 p4 p5 p6 p7 hal hx hy hax hby
  go_enter Tryf.func4, Tryf.ntmps4
  go_upto_region 8 with (first
    | (go_at_call 9; refine (HBY.out _).mono ?_; rintro e w' ⟨rfl, rfl⟩)
    | (go_at_call 10; refine (HAA.out _).mono ?_; rintro e w' ⟨rfl, rfl⟩)
    | (go_at_call 11; first | (refine (HX.out _).mono ?_; rintro e w' ⟨rfl, rfl⟩; clear HX) | (refine (HY.out _).mono ?_; rintro e w' ⟨rfl, rfl⟩)))
  go_upto_region 9 with fail
  have HB1 := Lib.hid ((Below.refl w.heap.size w).alloc (Nat.le_refl _) (.cells #[.int .u8 91, .int .u8 x, .int .u8 45, .int .u8 y, .int .u8 93] 5))
  generalize w.alloc (.cells #[.int .u8 91, .int .u8 x, .int .u8 45, .int .u8 y, .int .u8 93] 5) = w1 at HB1 ⊢
  have hV1 := (HB1.out.cell (p := ⟨0, 0, none⟩) HVs.out).trans HV.out
  have HRX1 := Lib.hid (HRX.out _ hV1 (by rw [HB1.out.tape]; exact HF.out))
  clear hV1 HCV
  go_upto_region 14 with (go_at_call 8; refine (HRX1.out).mono ?_; rintro e w2 ⟨q, t, rfl, hq2, hbb2⟩; have HQ2 := Lib.hid hq2; have HB2 := Lib.hid (HB1.out.trans (hbb2.mono HB1.out.size)); clear hbb2 hq2)
  have hE2 := (HB2.out.cell (p := ⟨1, 0, none⟩) HEs.out).trans HE.out
  have HAS := Lib.hid (as_hit2 q t w2 hE2 HQ2.out)
  clear hE2
  go_upto_region 16 with (go_at_call 12; refine (HAS.out).mono ?_; rintro e w3 ⟨rfl, hc3, hq3, hb3⟩; have s0 : w3.cell? ⟨q, 0, none⟩ = some (.string t) := by { rw [Lib.cell_of_heap hq3]; rfl }; have s1 : w3.cell? ⟨q, 1, none⟩ = some .nilIface := by { rw [Lib.cell_of_heap hq3]; rfl }; have HB3 := Lib.hid hb3; clear hb3 hq3)
  go_wp2_with (go_at_call 13; refine (unwrap_any t _).mono ?_; rintro e w4 ⟨rfl, hb4⟩)
  go_ret
  have h3 := HB2.out.trans (HB3.out.mono HB2.out.size)
  exact ⟨rfl, h3.trans (hb4.mono h3.size)⟩

set_option maxRecDepth 100000 in
set_option maxHeartbeats 4000000 in
theorem lawO_no (s : ByteArray) (x y : Nat) (mode : Int) (w : World) (hs : s.size ≤ 65536) (h : (allAl s && isAl x && isAl y) = false) :
    Calls Tryf.prog 4 #[.string s, .int .u8 x, .int .u8 y, .int .u64 mode] w (Good w) := by
  have HAA := Lib.hid (fun W => allAlnum_any s W hs)
  have HX := Lib.hid (fun W => alnum_any x W)
  have HY := Lib.hid (fun W => alnum_any y W)
  have HBY := Lib.hid (fun W => bytesO_yes s x y mode W (by omega))
  have hz : (s.size : Int) ≤ 65536 := by omega
  generalize allAl s = P at *
  generalize isAl x = A at *
  generalize isAl y = B at *
  clear hs
  cases P <;> cases A <;> cases B
  all_goals first
    | (exact absurd h (by decide))
    | (clear h
       go_enter Tryf.func4, Tryf.ntmps4
       go_wp2_with (first
         | (go_at_call 9; refine (HBY.out _).mono ?_; rintro e w' ⟨rfl, rfl⟩)
         | (go_at_call 10; refine (HAA.out _).mono ?_; rintro e w' ⟨rfl, rfl⟩)
         | (go_at_call 11; first | (refine (HX.out _).mono ?_; rintro e w' ⟨rfl, rfl⟩; clear HX) | (refine (HY.out _).mono ?_; rintro e w' ⟨rfl, rfl⟩)))
       go_ret
       exact ⟨rfl, Below.refl _ _⟩)

theorem lawO_all (F : Interp) (s : ByteArray) (x y : Nat) (hx8 : x < 256) (hy8 : y < 256) (mode : Int) (w : World) (hl : s.size ≤ maxLen) (p : Addr) (hF : F.answers w.tape) (hV : w.cell? ⟨0, 0, none⟩ = some (.iface 109 (.pointer (some p))))
    (hE : w.cell? ⟨1, 0, none⟩ = some (.iface 80 (.agg #[.pointer (some ⟨4, 30, none⟩)]))) :
    Calls Tryf.prog 4 #[.string s, .int .u8 x, .int .u8 y, .int .u64 mode] w (Good w) := by
  unfold maxLen at hl
  have hax : (UInt8.ofNat x).toNat = x := by simp; omega
  have hby : (UInt8.ofNat y).toNat = y := by simp; omega
  by_cases hs : s.size ≤ 65536
  · cases h : (allAl s && isAl x && isAl y)
    · exact lawO_no s x y mode w hs h
    · simp only [Bool.and_eq_true] at h
      by_cases hxy : x ≤ y
      · exact lawO_ok s _ _ x y hax hby mode w hs p hV h.1.1 h.1.2 h.2 hxy
      · exact lawO_bad F s _ _ x y hax hby mode w hs p hV h.1.1 h.1.2 h.2 (by omega) hF hE
  · clear hV hE hF hax hby
    by_cases hs2 : s.size ≤ 1048576
    · have HBY := Lib.hid (fun W => bytesO_yes s x y mode W hs2)
      have hz : (65536 : Int) < (s.size : Int) := by omega
      clear hs hs2 hl
      go_enter Tryf.func4, Tryf.ntmps4
      go_wp2_with (go_at_call 9; refine (HBY.out _).mono ?_; rintro e w' ⟨rfl, rfl⟩)
      go_ret
      exact ⟨rfl, Below.refl _ _⟩
    · have HBY := Lib.hid (fun W => bytesO_no s x y mode W (by omega))
      clear hs hs2 hl
      go_enter Tryf.func4, Tryf.ntmps4
      go_wp2_with (go_at_call 9; refine (HBY.out _).mono ?_; rintro e w' ⟨rfl, rfl⟩)
      go_ret
      exact ⟨rfl, Below.refl _ _⟩
end Go.Proofs.YthohfanojaiedaaFmt

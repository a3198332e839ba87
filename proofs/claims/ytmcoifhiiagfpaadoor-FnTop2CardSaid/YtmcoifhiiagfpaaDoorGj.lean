/-
  The loop that lets the braces that are never closed fall back to text.
  SplitBraces whole: at a word without an opening brace, and at a word with one.
-/
import Derived.Test.YtmcoifhiiagfpaaDoorGi
import Derived.LaidEql
namespace Go.Proofs.YtmcoifhiiagfpaaDoor
open Go.RowKit
set_option linter.unusedSectionVars false
variable [Pw]

/-- The pointer to the word in hand. -/
theorem acc_top {N : Nat} {hs : HS} {w : World} (h : SB N hs w) : (hs.frames = [] → hs.acc.blk = N) ∧ (hs.frames ≠ [] → ¬ hs.acc.blk = N) := by
  have htop := h.topBlk
  have hdw := h.dw
  obtain ⟨top, frames, ov⟩ := hs
  cases frames with
  | nil => exact ⟨fun _ => htop, fun h => absurd rfl h⟩
  | cons f r =>
    refine ⟨fun h => (by cases h), fun _ e => ?_⟩
    have h1 : (top.blk :: (f.words.map HW.blk ++ (r.flatMap HF.words).map HW.blk)).Nodup := by
      have h2 := hdw
      simp only [HS.words, List.flatMap_cons, List.map_cons, List.map_append] at h2
      exact h2
    refine (List.nodup_cons.1 h1).1 (List.mem_append.2 (Or.inl ?_))
    have e2 : f.acc.blk = top.blk := e.trans htop.symm
    rw [← e2]
    exact List.mem_map.2 ⟨f.acc, by simp [HF.words], rfl⟩

theorem word_size : (Tryd.prog.info? 40).map (fun i => i.size) = some 1 := by kernel_rfl
theorem neq_same (w : World) (k : Nat) : (binOp .neq 38 (.pointer (some ⟨k, 0, none⟩)) (.pointer (some ⟨k, 0, none⟩))).run Tryd.prog w = .ok (.bool false) w := by
  obtain ⟨j, hj, _⟩ := Option.map_eq_some_iff.1 word_size
  have h1 : ∀ d : Nat, (Op.equalIn (d + 1) 38 (.pointer (some ⟨k, 0, none⟩)) (.pointer (some ⟨k, 0, none⟩))).run Tryd.prog w = .ok true w := fun d => by
    simp [Op.equalIn, run_underlying Tryd.underlying38, sizeOf, typeInfo, hj, run_sameAddr_same]
  simp only [binOp]
  simp [Op.equal, Op.maxDepth, h1 9999]
theorem neq_other (w : World) {k l : Nat} (h : ¬ k = l) {ca cb : Array Value} {ta tb : TypeId} (ha : w.heap[k]? = some (.cells ca ta (0, 0))) (hb : w.heap[l]? = some (.cells cb tb (0, 0))) : (binOp .neq 38 (.pointer (some ⟨k, 0, none⟩)) (.pointer (some ⟨l, 0, none⟩))).run Tryd.prog w = .ok (.bool true) w := by
  obtain ⟨j, hj, hs⟩ := Option.map_eq_some_iff.1 word_size
  have hne : (⟨k, 0, none⟩ : Addr) ≠ ⟨l, 0, none⟩ := fun e => h (Addr.mk.inj e).1
  have h1 : ∀ d : Nat, (Op.equalIn (d + 1) 38 (.pointer (some ⟨k, 0, none⟩)) (.pointer (some ⟨l, 0, none⟩))).run Tryd.prog w = .ok false w := fun d => by
    simp [Op.equalIn, run_underlying Tryd.underlying38, sizeOf, typeInfo, hj, hs, run_sameAddr_other w hne ha hb]
  simp only [binOp]
  simp [Op.equal, Op.maxDepth, h1 9999]
/-- The pointers to the word in hand and to the whole, compared. -/
theorem acc_neq {N : Nat} {hs : HS} {w : World} (h : SB N hs w) (hf : ¬ hs.acc.blk = N) : (binOp .neq 38 (.pointer (some ⟨hs.acc.blk, 0, none⟩)) (.pointer (some ⟨N, 0, none⟩))).run Tryd.prog w = .ok (.bool true) w := by
  have h1 := (h.words _ (acc_mem hs)).blk
  have h2 := (h.words hs.top (by simp [HS.words])).blk
  rw [h.topBlk] at h2
  exact neq_other w hf h1 h2

set_option linter.unusedSimpArgs false in
set_option maxRecDepth 1000000 in
set_option maxHeartbeats 2000000 in
theorem unwind_roundT {N p : Nat} {a : Act} (fu : FrU N p a) {top : List Part} {f0 : Frame} {r : List Frame} {xs : List Value} {ys : List Part} {ws w : World} (hs : Sb N ⟨top, f0 :: r⟩ xs ys w) (hk : Still N ws w) (hsq : f0.seq = true) (hlen : ((⟨top, r⟩ : St).push (.lit lb :: sepBy dots f0.elems)).cur.length ≤ 100000000) (hn : f0.elems.length ≤ 100000000) (Q0 : Exit → Act → World → Prop) :
    Code.wp Tryd.prog (bodyOf 5) (Exit.then (fun a' w' => FrU N p a' ∧ Sb N ((⟨top, r⟩ : St).push (.lit lb :: sepBy dots f0.elems)) xs ys w' ∧ Still N ws w') Q0) a w := by
  obtain ⟨f, hf, ht⟩ := frame_lit a.tmps fu.size
  obtain ⟨t, d⟩ := a
  have hd : d = [] := fu.defers
  subst hd
  have h0 := (hf 0).trans fu.s0
  have h2 := (hf 2).trans fu.s2
  have h3 := (hf 3).trans fu.s3
  have h4 := (hf 4).trans fu.s4
  have h5 := (hf 5).trans fu.s5
  have h6 := (hf 6).trans fu.s6
  have h7 := (hf 7).trans fu.s7
  have h8 := (hf 8).trans fu.s8
  simp only [h0, h2, h3, h4, h5, h6, h7, h8] at ht
  have ht2 : t = _ := ht
  subst ht2
  clear hf ht fu h0 h2 h3 h4 h5 h6 h7 h8
  obtain ⟨ac, hneq, c1, c2⟩ : ∃ ac : Nat, (binOp .neq 38 (.pointer (some ⟨ac, 0, none⟩)) (.pointer (some ⟨N, 0, none⟩))).run Tryd.prog w = .ok (.bool true) w ∧ w.cell? ⟨N + 2, 0, none⟩ = some (.pointer (some ⟨ac, 0, none⟩)) ∧ w.cell? ⟨N + 1, 0, none⟩ = some (.pointer (some ⟨N, 0, none⟩)) := by
    obtain ⟨hs0, hsb, hst, hxy⟩ := hs
    refine ⟨hs0.acc.blk, acc_neq hsb ((acc_top hsb).2 (fun e => ?_)), by rw [Lib.cell_of_heap hsb.b2]; rfl, by rw [Lib.cell_of_heap hsb.b1]; rfl⟩
    have h1 := congrArg St.stack hst
    simp [HS.st, e] at h1
  have HPOP := Lib.hid (pop_any N ⟨top, f0 :: r⟩ f0 r xs ys w hs)
  have HK := Lib.hid hk
  have HSQ := Lib.hid hsq
  rw [cur_push] at hlen
  simp only [List.length_append, List.length_cons] at hlen
  have HLEN := Lib.hid hlen
  have HN := Lib.hid hn
  have hnz : (f0.elems.length : Int) ≤ 100000000 := by omega
  clear hs hk hsq hlen hn
  conv => arg 2; whnf
  unfold ptr
  go_upto_region 106 with (go_at_call 24; refine (HPOP.out).mono ?_; rintro e w7 hp7; obtain ⟨b, rfl, h7, s7⟩ := hp7; unfold ptr)
  obtain ⟨T7, hT7⟩ : ∃ T7, (⟨top, r⟩ : St) = T7 := ⟨_, rfl⟩
  have HT7 := Lib.hid hT7
  have h7' : Sb N T7 (.iface 76 (.pointer (some ⟨b, 0, none⟩)) :: xs) (.brace true f0.elems :: ys) w7 := by
    rw [← hT7, ← HSQ.out]
    exact h7
  have HM7 := Lib.hid (show Sb N T7 (.iface 76 (.pointer (some ⟨b, 0, none⟩)) :: xs) (.brace true f0.elems :: ys) w7 ∧ Still N ws w7 ∧ KeepB w7 w7 from ⟨h7', HK.out.trans s7, KeepB.refl _⟩)
  have hl7 := HLEN.out
  rw [hT7] at hl7
  have HL7 := Lib.hid hl7
  clear hT7 h7 h7' s7 HPOP hl7 c1 c2 hneq
  have cN7 : w7.cell? ⟨N + 5, 0, none⟩ = some (.func (.func 25) #[] #[.pointer (some ⟨N + 2, 0, none⟩)]) := by rw [Lib.cell_of_heap HM7.out.1.b5]; rfl
  have lN7 : N + 5 < w7.heap.size := HM7.out.1.lt
  have HLN7 := Lib.hid lN7
  clear lN7
  go_upto_region 106 with fail
  refine region_anyE (fun w' => w'.cell? ⟨N + 5, 0, none⟩ = some (.func (.func 25) #[] #[.pointer (some ⟨N + 2, 0, none⟩)])) 2 (by kernel_rfl) ?_ (fun hS hC => ?_)
  · (try dsimp only); go_keep
  refine anyE_take (i := 0) (v := ?_) [0] (by kernel_rfl) rfl (fun _ _ _ h => h) (by rfl) ?_ hC hS ?_
  rotate_left
  · intro w hSw
    (try dsimp only at hSw)
    go_simp
    (try with_reducible rfl)
  clear hC
  intro hC
  try simp only [Act.put, List.setIfInBounds_toArray, List.set_cons_zero, List.set_cons_succ]
  refine anyE_one (i := 1) (by kernel_rfl) hC rfl (fun K hK => ?_)
  clear hC
  go_simp
  (refine (lbrace_any _).mono ?_; rintro e1 wa7 ⟨q7, rfl, hq1, hb1⟩; have hb2 : Below w7.heap.size w7 wa7 := ((Below.refl w7.heap.size w7).drew).trans hb1; have cNa7 : wa7.cell? ⟨N + 5, 0, none⟩ = some (.func (.func 25) #[] #[.pointer (some ⟨N + 2, 0, none⟩)]) := (hb2.cell (p := ⟨N + 5, 0, none⟩) HLN7.out).trans cN7; have HQ7 := Lib.hid (And.intro hq1 hb2); clear hq1 hb1 hb2; unfold ptr)
  refine hK.out _ _ ?_ ?_
  · (try dsimp only); exact cNa7
  clear hS
  intro hS hC
  clear hK K
  try simp only [Act.put, List.setIfInBounds_toArray, List.set_cons_zero, List.set_cons_succ]
  refine anyE_last (by kernel_rfl) rfl (by kernel_rfl) (fun K hK => ?_)
  clear hC
  go_simp
  (go_at_call 25; refine (addLit_any2 N T7 (.iface 76 (.pointer (some ⟨b, 0, none⟩)) :: xs) (.brace true f0.elems :: ys) wa7 q7 lb (HM7.out.1.below HQ7.out.2) HQ7.out.1 (by have := HL7.out; omega)).mono ?_; rintro e2 w8 ⟨rfl, h9, s9, kb9⟩)
  refine hK.out _ _ ?_
  clear hK K hS
  refine NoPanic.normal ?_
  try simp only [Act.put, List.setIfInBounds_toArray, List.set_cons_zero, List.set_cons_succ]
  have HM8 := Lib.hid (And.intro h9 (And.intro (HM7.out.2.1.trans ((Still.of_below HQ7.out.2 (by have := HLN7.out; omega)).trans s9)) (HM7.out.2.2.trans ((KeepB.of_below HQ7.out.2).trans kb9))))
  clear cN7 cNa7 HQ7 HLN7 h9 s9 kb9
  obtain ⟨e2, cap2, br2⟩ : ∃ e2 cap2 : Nat, w8.heap[b]? = some (.cells #[.bool true, .slice (some ⟨e2, 0, none⟩) f0.elems.length cap2] 80 (0, 0)) := by
    obtain ⟨hs, hsb, hst, hxy⟩ := HM8.out.1
    obtain ⟨e2, cap2, br2⟩ := brace_lies hxy
    exact ⟨e2, cap2, br2.blk⟩
  have cbb : w8.cell? ⟨b, 1, none⟩ = some (.slice (some ⟨e2, 0, none⟩) f0.elems.length cap2) := by rw [Lib.cell_of_heap br2]; rfl
  have HB8 := Lib.hid br2
  clear br2
  go_upto_region 107 with fail
  go_wp2_with fail
  refine spillB_loopT (N := N) (p := p) (b := b) (e := e2) (cap := cap2) (T := T7.push [.lit lb]) ?_ HM8.out.1 HB8.out (by rw [cur_push, List.length_append]; have := HL7.out; simp only [List.length_cons, List.length_nil]; omega) HN.out _ ?_
  · exact ⟨⟨rfl, rfl, rfl, rfl, rfl, rfl, rfl, rfl, rfl, rfl⟩, rfl, rfl, rfl, rfl⟩
  intro a11 w11 sf11 h11 s11
  have h20 := h11.tail
  rw [push_push, ← HT7.out] at h20
  have HF := Lib.hid (And.intro h20 (HM8.out.2.1.trans s11))
  clear h11 s11 cbb f h20
  obtain ⟨fr11, g432, g433, g434, g33⟩ := sf11
  clear g432 g433 g434 g33
  obtain ⟨f, hf, ht⟩ := frame_lit a11.tmps fr11.size
  obtain ⟨t, d⟩ := a11
  have hd : d = [] := fr11.defers
  subst hd
  have h0 := (hf 0).trans fr11.s0
  have h2 := (hf 2).trans fr11.s2
  have h3 := (hf 3).trans fr11.s3
  have h4 := (hf 4).trans fr11.s4
  have h5 := (hf 5).trans fr11.s5
  have h6 := (hf 6).trans fr11.s6
  have h7 := (hf 7).trans fr11.s7
  have h8 := (hf 8).trans fr11.s8
  simp only [h0, h2, h3, h4, h5, h6, h7, h8] at ht
  have ht2 : t = _ := ht
  subst ht2
  clear hf ht fr11 h0 h2 h3 h4 h5 h6 h7 h8
  unfold ptr
  go_wp2_with fail
  exact ⟨⟨rfl, rfl, rfl, rfl, rfl, rfl, rfl, rfl, rfl, rfl⟩, HF.out.1, HF.out.2⟩

set_option linter.unusedSimpArgs false in
set_option maxRecDepth 1000000 in
set_option maxHeartbeats 2000000 in
theorem unwind_roundF {N p : Nat} {a : Act} (fu : FrU N p a) {top : List Part} {f0 : Frame} {r : List Frame} {xs : List Value} {ys : List Part} {ws w : World} (hs : Sb N ⟨top, f0 :: r⟩ xs ys w) (hk : Still N ws w) (hsq : f0.seq = false) (hlen : ((⟨top, r⟩ : St).push (.lit lb :: sepBy cm f0.elems)).cur.length ≤ 100000000) (hn : f0.elems.length ≤ 100000000) (Q0 : Exit → Act → World → Prop) :
    Code.wp Tryd.prog (bodyOf 5) (Exit.then (fun a' w' => FrU N p a' ∧ Sb N ((⟨top, r⟩ : St).push (.lit lb :: sepBy cm f0.elems)) xs ys w' ∧ Still N ws w') Q0) a w := by
  obtain ⟨f, hf, ht⟩ := frame_lit a.tmps fu.size
  obtain ⟨t, d⟩ := a
  have hd : d = [] := fu.defers
  subst hd
  have h0 := (hf 0).trans fu.s0
  have h2 := (hf 2).trans fu.s2
  have h3 := (hf 3).trans fu.s3
  have h4 := (hf 4).trans fu.s4
  have h5 := (hf 5).trans fu.s5
  have h6 := (hf 6).trans fu.s6
  have h7 := (hf 7).trans fu.s7
  have h8 := (hf 8).trans fu.s8
  simp only [h0, h2, h3, h4, h5, h6, h7, h8] at ht
  have ht2 : t = _ := ht
  subst ht2
  clear hf ht fu h0 h2 h3 h4 h5 h6 h7 h8
  obtain ⟨ac, hneq, c1, c2⟩ : ∃ ac : Nat, (binOp .neq 38 (.pointer (some ⟨ac, 0, none⟩)) (.pointer (some ⟨N, 0, none⟩))).run Tryd.prog w = .ok (.bool true) w ∧ w.cell? ⟨N + 2, 0, none⟩ = some (.pointer (some ⟨ac, 0, none⟩)) ∧ w.cell? ⟨N + 1, 0, none⟩ = some (.pointer (some ⟨N, 0, none⟩)) := by
    obtain ⟨hs0, hsb, hst, hxy⟩ := hs
    refine ⟨hs0.acc.blk, acc_neq hsb ((acc_top hsb).2 (fun e => ?_)), by rw [Lib.cell_of_heap hsb.b2]; rfl, by rw [Lib.cell_of_heap hsb.b1]; rfl⟩
    have h1 := congrArg St.stack hst
    simp [HS.st, e] at h1
  have HPOP := Lib.hid (pop_any N ⟨top, f0 :: r⟩ f0 r xs ys w hs)
  have HK := Lib.hid hk
  have HSQ := Lib.hid hsq
  rw [cur_push] at hlen
  simp only [List.length_append, List.length_cons] at hlen
  have HLEN := Lib.hid hlen
  have HN := Lib.hid hn
  have hnz : (f0.elems.length : Int) ≤ 100000000 := by omega
  clear hs hk hsq hlen hn
  conv => arg 2; whnf
  unfold ptr
  go_upto_region 106 with (go_at_call 24; refine (HPOP.out).mono ?_; rintro e w7 hp7; obtain ⟨b, rfl, h7, s7⟩ := hp7; unfold ptr)
  obtain ⟨T7, hT7⟩ : ∃ T7, (⟨top, r⟩ : St) = T7 := ⟨_, rfl⟩
  have HT7 := Lib.hid hT7
  have h7' : Sb N T7 (.iface 76 (.pointer (some ⟨b, 0, none⟩)) :: xs) (.brace false f0.elems :: ys) w7 := by
    rw [← hT7, ← HSQ.out]
    exact h7
  have HM7 := Lib.hid (show Sb N T7 (.iface 76 (.pointer (some ⟨b, 0, none⟩)) :: xs) (.brace false f0.elems :: ys) w7 ∧ Still N ws w7 ∧ KeepB w7 w7 from ⟨h7', HK.out.trans s7, KeepB.refl _⟩)
  have hl7 := HLEN.out
  rw [hT7] at hl7
  have HL7 := Lib.hid hl7
  clear hT7 h7 h7' s7 HPOP hl7 c1 c2 hneq
  have cN7 : w7.cell? ⟨N + 5, 0, none⟩ = some (.func (.func 25) #[] #[.pointer (some ⟨N + 2, 0, none⟩)]) := by rw [Lib.cell_of_heap HM7.out.1.b5]; rfl
  have lN7 : N + 5 < w7.heap.size := HM7.out.1.lt
  have HLN7 := Lib.hid lN7
  clear lN7
  go_upto_region 106 with fail
  refine region_anyE (fun w' => w'.cell? ⟨N + 5, 0, none⟩ = some (.func (.func 25) #[] #[.pointer (some ⟨N + 2, 0, none⟩)])) 2 (by kernel_rfl) ?_ (fun hS hC => ?_)
  · (try dsimp only); go_keep
  refine anyE_take (i := 0) (v := ?_) [0] (by kernel_rfl) rfl (fun _ _ _ h => h) (by rfl) ?_ hC hS ?_
  rotate_left
  · intro w hSw
    (try dsimp only at hSw)
    go_simp
    (try with_reducible rfl)
  clear hC
  intro hC
  try simp only [Act.put, List.setIfInBounds_toArray, List.set_cons_zero, List.set_cons_succ]
  refine anyE_one (i := 1) (by kernel_rfl) hC rfl (fun K hK => ?_)
  clear hC
  go_simp
  (refine (lbrace_any _).mono ?_; rintro e1 wa7 ⟨q7, rfl, hq1, hb1⟩; have hb2 : Below w7.heap.size w7 wa7 := ((Below.refl w7.heap.size w7).drew).trans hb1; have cNa7 : wa7.cell? ⟨N + 5, 0, none⟩ = some (.func (.func 25) #[] #[.pointer (some ⟨N + 2, 0, none⟩)]) := (hb2.cell (p := ⟨N + 5, 0, none⟩) HLN7.out).trans cN7; have HQ7 := Lib.hid (And.intro hq1 hb2); clear hq1 hb1 hb2; unfold ptr)
  refine hK.out _ _ ?_ ?_
  · (try dsimp only); exact cNa7
  clear hS
  intro hS hC
  clear hK K
  try simp only [Act.put, List.setIfInBounds_toArray, List.set_cons_zero, List.set_cons_succ]
  refine anyE_last (by kernel_rfl) rfl (by kernel_rfl) (fun K hK => ?_)
  clear hC
  go_simp
  (go_at_call 25; refine (addLit_any2 N T7 (.iface 76 (.pointer (some ⟨b, 0, none⟩)) :: xs) (.brace false f0.elems :: ys) wa7 q7 lb (HM7.out.1.below HQ7.out.2) HQ7.out.1 (by have := HL7.out; omega)).mono ?_; rintro e2 w8 ⟨rfl, h9, s9, kb9⟩)
  refine hK.out _ _ ?_
  clear hK K hS
  refine NoPanic.normal ?_
  try simp only [Act.put, List.setIfInBounds_toArray, List.set_cons_zero, List.set_cons_succ]
  have HM8 := Lib.hid (And.intro h9 (And.intro (HM7.out.2.1.trans ((Still.of_below HQ7.out.2 (by have := HLN7.out; omega)).trans s9)) (HM7.out.2.2.trans ((KeepB.of_below HQ7.out.2).trans kb9))))
  clear cN7 cNa7 HQ7 HLN7 h9 s9 kb9
  obtain ⟨e2, cap2, br2⟩ : ∃ e2 cap2 : Nat, w8.heap[b]? = some (.cells #[.bool false, .slice (some ⟨e2, 0, none⟩) f0.elems.length cap2] 80 (0, 0)) := by
    obtain ⟨hs, hsb, hst, hxy⟩ := HM8.out.1
    obtain ⟨e2, cap2, br2⟩ := brace_lies hxy
    exact ⟨e2, cap2, br2.blk⟩
  have cbb : w8.cell? ⟨b, 1, none⟩ = some (.slice (some ⟨e2, 0, none⟩) f0.elems.length cap2) := by rw [Lib.cell_of_heap br2]; rfl
  have HB8 := Lib.hid br2
  clear br2
  go_upto_region 107 with fail
  go_wp2_with fail
  refine spillB_loopF (N := N) (p := p) (b := b) (e := e2) (cap := cap2) (T := T7.push [.lit lb]) ?_ HM8.out.1 HB8.out (by rw [cur_push, List.length_append]; have := HL7.out; simp only [List.length_cons, List.length_nil]; omega) HN.out _ ?_
  · exact ⟨⟨rfl, rfl, rfl, rfl, rfl, rfl, rfl, rfl, rfl, rfl⟩, rfl, rfl, rfl, rfl⟩
  intro a11 w11 sf11 h11 s11
  have h20 := h11.tail
  rw [push_push, ← HT7.out] at h20
  have HF := Lib.hid (And.intro h20 (HM8.out.2.1.trans s11))
  clear h11 s11 cbb f h20
  obtain ⟨fr11, g432, g433, g434, g33⟩ := sf11
  clear g432 g433 g434 g33
  obtain ⟨f, hf, ht⟩ := frame_lit a11.tmps fr11.size
  obtain ⟨t, d⟩ := a11
  have hd : d = [] := fr11.defers
  subst hd
  have h0 := (hf 0).trans fr11.s0
  have h2 := (hf 2).trans fr11.s2
  have h3 := (hf 3).trans fr11.s3
  have h4 := (hf 4).trans fr11.s4
  have h5 := (hf 5).trans fr11.s5
  have h6 := (hf 6).trans fr11.s6
  have h7 := (hf 7).trans fr11.s7
  have h8 := (hf 8).trans fr11.s8
  simp only [h0, h2, h3, h4, h5, h6, h7, h8] at ht
  have ht2 : t = _ := ht
  subst ht2
  clear hf ht fr11 h0 h2 h3 h4 h5 h6 h7 h8
  unfold ptr
  go_wp2_with fail
  exact ⟨⟨rfl, rfl, rfl, rfl, rfl, rfl, rfl, rfl, rfl, rfl⟩, HF.out.1, HF.out.2⟩

set_option maxRecDepth 1000000 in
set_option maxHeartbeats 2000000 in
theorem unwind_exit {N p : Nat} {a : Act} (fu : FrU N p a) {top : List Part} {xs : List Value} {ys : List Part} {w : World} (hs : Sb N ⟨top, []⟩ xs ys w) (Q : Exit → Act → World → Prop) (hQ : ∀ a', FrU N p a' → Q (.exit 11) a' w) :
    Code.wp Tryd.prog (bodyOf 5) Q a w := by
  obtain ⟨f, hf, ht⟩ := frame_lit a.tmps fu.size
  obtain ⟨t, d⟩ := a
  have hd : d = [] := fu.defers
  subst hd
  have h0 := (hf 0).trans fu.s0
  have h2 := (hf 2).trans fu.s2
  have h3 := (hf 3).trans fu.s3
  have h4 := (hf 4).trans fu.s4
  have h5 := (hf 5).trans fu.s5
  have h6 := (hf 6).trans fu.s6
  have h7 := (hf 7).trans fu.s7
  have h8 := (hf 8).trans fu.s8
  simp only [h0, h2, h3, h4, h5, h6, h7, h8] at ht
  have ht2 : t = _ := ht
  subst ht2
  clear hf ht fu h0 h2 h3 h4 h5 h6 h7 h8
  obtain ⟨c1, c2⟩ : w.cell? ⟨N + 2, 0, none⟩ = some (.pointer (some ⟨N, 0, none⟩)) ∧ w.cell? ⟨N + 1, 0, none⟩ = some (.pointer (some ⟨N, 0, none⟩)) := by
    obtain ⟨hs0, hsb, hst, hxy⟩ := hs
    have hfr : hs0.frames = [] := by
      have h1 := congrArg St.stack hst
      simpa [HS.st] using h1
    have h2 := (acc_top hsb).1 hfr
    have hb2 := hsb.b2
    rw [h2] at hb2
    exact ⟨by rw [Lib.cell_of_heap hb2]; rfl, by rw [Lib.cell_of_heap hsb.b1]; rfl⟩
  have hneq := neq_same w N
  clear hs
  conv => arg 2; whnf
  unfold ptr
  go_wp2_with fail
  exact ⟨rfl, rfl, rfl, rfl, rfl, rfl, rfl, rfl, rfl, rfl⟩

theorem unwind_step (f : Frame) (r : List Frame) (top : List Part) : unwind ((⟨top, r⟩ : St).push (unclosed f)).stack ((⟨top, r⟩ : St).push (unclosed f)).top = unwind (f :: r) top := by
  cases r with
  | nil =>
    show unwind [] (top ++ unclosed f) = unwind [f] top
    rw [unwind, unwind]
  | cons g r =>
    show unwind ({ g with acc := g.acc ++ unclosed f } :: r) top = unwind (f :: g :: r) top
    conv => rhs; rw [unwind]

theorem unwind_loop {N p : Nat} {a : Act} (fu : FrU N p a) {st : St} {xs : List Value} {ys : List Part} {w : World} (hs : Sb N st xs ys w) (hsz : st.sz ≤ 100000000) (Q : Exit → Act → World → Prop)
    (hQ : ∀ a' w', FrU N p a' → Sb N ⟨unwind st.stack st.top, []⟩ xs ys w' → Still N w w' → Q (.exit 11) a' w') :
    Code.wp Tryd.prog (Code.loop (bodyOf 5)) Q a w := by
  refine wp_loop_ghost (fun n a' w' => ∃ st', st'.stack.length = n ∧ FrU N p a' ∧ Sb N st' xs ys w' ∧ Still N w w' ∧ unwind st'.stack st'.top = unwind st.stack st.top ∧ st'.sz ≤ 100000000) st.stack.length ⟨st, rfl, fu, hs, Still.refl _ _, rfl, hsz⟩ ?_
  rintro n a1 w1 ⟨⟨top, stack⟩, rfl, fu1, hs1, hk1, hu1, hz1⟩
  cases stack with
  | nil =>
    refine unwind_exit fu1 hs1 _ (fun a' h => hQ a' w1 h ?_ hk1)
    rw [← hu1]
    show Sb N ⟨unwind [] top, []⟩ xs ys w1
    rw [unwind]
    exact hs1
  | cons f0 r =>
    have hun : unclosed f0 = .lit lb :: sepBy (if f0.seq then dots else cm) f0.elems := rfl
    have hsz1 := unclosed_sz f0
    have hps := push_sz ⟨top, r⟩ (unclosed f0)
    have hcu := cur_sz ((⟨top, r⟩ : St).push (unclosed f0))
    have hst : (⟨top, f0 :: r⟩ : St).sz = sz top + (f0.sz + (r.map Frame.sz).sum) := rfl
    have hst2 : (⟨top, r⟩ : St).sz = sz top + (r.map Frame.sz).sum := rfl
    have hel := esz_len f0.elems
    have hf0 : f0.sz = esz f0.elems + 4 := rfl
    have hstep := unwind_step f0 r top
    have hlen : ((⟨top, r⟩ : St).push (unclosed f0)).stack.length = r.length := by cases r <;> rfl
    have done : ∀ (ex : Exit) (a' : Act) (w' : World), Exit.then (fun a' w' => FrU N p a' ∧ Sb N ((⟨top, r⟩ : St).push (unclosed f0)) xs ys w' ∧ Still N w w') Q ex a' w' → Exit.then (fun a' w' => ∃ n', n' < (f0 :: r).length ∧ ∃ st', st'.stack.length = n' ∧ FrU N p a' ∧ Sb N st' xs ys w' ∧ Still N w w' ∧ unwind st'.stack st'.top = unwind st.stack st.top ∧ st'.sz ≤ 100000000) Q ex a' w' := by
      intro ex a' w' hq
      cases ex with
      | normal => exact ⟨r.length, by simp, _, hlen, hq.1, hq.2.1, hq.2.2, hstep.trans hu1, by omega⟩
      | exit id => exact hq
      | goto l => exact hq
      | ret => exact hq
      | panic ch => exact hq
      | outgrown => exact hq
    cases hsq : f0.seq with
    | true =>
      rw [hsq] at hun
      have hun2 : unclosed f0 = .lit lb :: sepBy dots f0.elems := hun
      rw [hun2] at done hcu hps hsz1
      exact Code.wp_mono done (unwind_roundT fu1 hs1 hk1 hsq (by omega) (by omega) Q)
    | false =>
      rw [hsq] at hun
      have hun2 : unclosed f0 = .lit lb :: sepBy cm f0.elems := hun
      rw [hun2] at done hcu hps hsz1
      exact Code.wp_mono done (unwind_roundF fu1 hs1 hk1 hsq (by omega) (by omega) Q)
end Go.Proofs.YtmcoifhiiagfpaaDoor

namespace Go.Proofs.YtmcoifhiiagfpaaDoor
open Go.RowKit
set_option linter.unusedSectionVars false
variable [Pw]

/-- What SplitBraces leaves: the word's new parts; all else as it was. -/
structure Split (ps : List Part) (w w' : World) : Prop where
  word : ∃ v vals, w'.heap[Pw.p]? = some (.cells #[v] 40 (0, 0)) ∧ RowAt w' (fun k => k = Pw.p) v vals ∧ PartsAt w' (fun k => k = Pw.p) vals (split ps)
  kept : ∀ k, k < w.heap.size → k ≠ Pw.p → w'.heap[k]? = w.heap[k]?
  size : w.heap.size ≤ w'.heap.size
  os : w'.os = w.os
  tape : w'.tape = w.tape
  output : w'.output = w.output

theorem split_end {ps : List Part} {w w8 : World} {top : HW} {ov : Value} (hsb : SB w.heap.size ⟨top, [], ov⟩ w8) (hps : top.ps = split ps) (hbel : Below w.heap.size w w8) (hpc : ∃ c, w.heap[Pw.p]? = some (.cells c 40 (0, 0)) ∧ c.size = 1) : Split ps w (w8.setCell ⟨Pw.p, 0, none⟩ top.v) := by
  obtain ⟨c, hc, hc1⟩ := hpc
  have hpl := (Array.getElem?_eq_some_iff.1 hc).1
  have ht := hsb.words top (List.mem_cons_self ..)
  have hc8 : w8.heap[Pw.p]? = some (.cells c 40 (0, 0)) := (hbel.block _ hpl).trans hc
  have hsafe : Safe (HS.live w.heap.size ⟨top, [], ov⟩) (fun k => k = Pw.p) w8 (w8.setCell ⟨Pw.p, 0, none⟩ top.v) := ⟨fun k hk hn => Below.heap_setCell _ _ _ _ (fun e => hn (Or.inr e)), fun k _ hn e => hn (Or.inr e)⟩
  refine ⟨⟨top.v, top.vals, ?_, ?_, ?_⟩, fun k hk hn => ?_, ?_, hbel.os, hbel.tape, hbel.output⟩
  · rw [heap_setCell_same _ _ _ _ _ _ hc8]
    obtain ⟨l⟩ := c
    match l, hc1 with
    | [x], _ => rfl
  · rcases ht.own.2 with ⟨hv, hn⟩ | ⟨g, cap, cur, hv, hb, hg, _, _, _, htk⟩
    · exact Or.inl ⟨hv, List.eq_nil_of_length_eq_zero hn⟩
    · refine Or.inr ⟨g, cap, cur, hv, ?_, ?_, by simpa using htk⟩
      · show ¬ g = Pw.p
        omega
      · rw [Below.heap_setCell _ _ _ _ (by show g ≠ Pw.p; omega)]
        exact hg
  · rw [← hps]
    exact ht.parts.safe hsafe
  · rw [Below.heap_setCell _ _ _ _ hn]
    exact hbel.block k hk
  · simp only [World.size_setCell]
    exact hbel.size

set_option maxRecDepth 1000000 in
set_option maxHeartbeats 2000000 in
theorem split_no (w : World) {v : Value} {vals : List Value} {ps : List Part} (hb : w.heap[Pw.p]? = some (.cells #[v] 40 (0, 0))) (hr : RowAt w (fun k => k = Pw.p) v vals) (hp : PartsAt w (fun k => k = Pw.p) vals ps) (hn : ps.any holds = false) (hB : 19 * sz ps + 20 * ps.length + 100 ≤ 100000000) :
    Calls Tryd.prog 9 #[ptr Pw.p] w fun e w' => e = .returned (.bool false) ∧ w = w' := by
  have hpl := sz_length ps
  have cb : w.cell? ⟨Pw.p, 0, none⟩ = some v := by rw [Lib.cell_of_heap hb]; rfl
  have HC := Lib.hid (containsFunc_any w (fun k => k = Pw.p) v vals ps hr hp (by omega) (fun q hq s e => by
    subst e
    have := sz_mem ps _ hq
    have e2 : psz (Part.lit s) = 1 + s.size := rfl
    omega))
  rw [hn] at HC
  clear hb hr hp hn hB hpl
  unfold ptr
  go_enter Tryd.func9, Tryd.ntmps9
  go_wp2_with (go_at_call 21; refine (HC.out).mono ?_; rintro e1 w1 ⟨rfl, rfl⟩)
  go_ret
  exact ⟨rfl, rfl⟩

set_option maxRecDepth 1000000 in
set_option maxHeartbeats 2000000 in
theorem split_yes (w : World) {v : Value} {vals : List Value} {ps : List Part} (hb : w.heap[Pw.p]? = some (.cells #[v] 40 (0, 0))) (hr : RowAt w (fun k => k = Pw.p) v vals) (hp : PartsAt w (fun k => k = Pw.p) vals ps) (hn : ps.any holds = true) (hB : 19 * sz ps + 20 * ps.length + 100 ≤ 100000000) (hE : Errs w) :
    Calls Tryd.prog 9 #[ptr Pw.p] w fun e w' => e = .returned (.bool true) ∧ Split ps w w' := by
  have hpl := sz_length ps
  have hE1 : 0 < w.heap.size := by
    obtain ⟨⟨e1, a1, b1⟩, _⟩ := hE
    exact World.block_lt_of_cell? w _ a1
  have hE2 : 1 < w.heap.size := by
    obtain ⟨_, ⟨e1, a1, b1⟩⟩ := hE
    exact World.block_lt_of_cell? w _ a1
  have cb : w.cell? ⟨Pw.p, 0, none⟩ = some v := by rw [Lib.cell_of_heap hb]; rfl
  have sp : Pw.p < w.heap.size := (Array.getElem?_eq_some_iff.1 hb).1
  have hlen := hp.length
  have hpos : 0 < ps.length := by
    cases ps with
    | nil => simp at hn
    | cons a r => simp
  obtain ⟨g, cap, rfl, hg, hcl⟩ : ∃ g cap, v = .slice (some ⟨g, 0, none⟩) ps.length cap ∧ g < w.heap.size ∧ ∀ k u, vals[k]? = some u → w.cell? ⟨g, k, none⟩ = some u := by
    rcases hr with ⟨_, h0⟩ | ⟨g, cap, cur, hv, hL, hg, ht⟩
    · rw [h0] at hlen
      simp at hlen
      omega
    · refine ⟨g, cap, by rw [hv, hlen], (Array.getElem?_eq_some_iff.1 hg).1, fun k u hu => ?_⟩
      have hkl : k < vals.length := (List.getElem?_eq_some_iff.1 hu).1
      have h2 : (cur.toList.take vals.length)[k]? = some u := by rw [ht]; exact hu
      rw [List.getElem?_take_of_lt hkl] at h2
      rw [Lib.cell_of_heap hg]
      simpa using h2
  have HC := Lib.hid (containsFunc_any w (fun k => k = Pw.p) _ vals ps hr hp (by omega) (fun q hq s e => by
    subst e
    have := sz_mem ps _ hq
    have e2 : psz (Part.lit s) = 1 + s.size := rfl
    omega))
  rw [hn] at HC
  have HST := Lib.hid (start_st w ⟨_, hb⟩ (L := fun k => k = Pw.p) rfl hp)
  have HI := Lib.hid (And.intro hb (And.intro hg (And.intro hcl (And.intro hE (And.intro hE1 hE2)))))
  have HB := Lib.hid hB
  have HSP := Lib.hid sp
  clear hb hr hp hn hB hpl hlen hE hE1 hE2 hg hcl hpos sp
  unfold ptr
  go_enter Tryd.func9, Tryd.ntmps9
  go_upto_region 9 with (go_at_call 21; refine (HC.out).mono ?_; rintro e1 w1 ⟨rfl, rfl⟩)
  obtain ⟨W, hW⟩ : ∃ W, W = startW w := ⟨_, rfl⟩
  have cW : W.cell? ⟨Pw.p, 0, none⟩ = some (.slice (some ⟨g, 0, none⟩) ps.length cap) := by
    rw [hW]
    exact ((start_below w).cell (p := ⟨Pw.p, 0, none⟩) HSP.out).trans cb
  have HW := Lib.hid hW
  refine (show Code.wp _ _ _ _ (startW w) from ?_)
  rw [← HW.out]
  clear hW cb
  go_wp2_with fail
  refine parts_loop (N := w.heap.size) (p := Pw.p) (g := g) (cap := cap) (vals := vals) (ps := ps) ?_ (by rw [HW.out]; exact HST.out) HI.out.2.1 (fun k u hu => by rw [HW.out]; exact ((start_below w).cell (p := ⟨g, k, none⟩) HI.out.2.1).trans (HI.out.2.2.1 k u hu)) (by have := HB.out; omega) (by rw [HW.out]; exact HI.out.2.2.2.1.below (start_below w) HI.out.2.2.2.2.1 HI.out.2.2.2.2.2) HI.out.2.2.2.2.1 HI.out.2.2.2.2.2 _ ?_
  · exact ⟨rfl, rfl, rfl, rfl, rfl, rfl, rfl, rfl, rfl, rfl, rfl, rfl, rfl⟩
  intro a1 w1 fr1 hs1 hk1
  have hz1 : (ps.foldl stepP ⟨[], []⟩ : St).sz ≤ 100000000 := by
    have h1 := foldP_sz ps ⟨[], []⟩
    have h0 : (⟨[], []⟩ : St).sz = 0 := rfl
    have := HB.out
    omega
  have HF1 := Lib.hid (And.intro hs1 (And.intro hk1 hz1))
  clear hs1 hk1 hz1 cW
  obtain ⟨f, hf, ht⟩ := frame_lit a1.tmps fr1.size
  obtain ⟨t, d⟩ := a1
  have hd : d = [] := fr1.defers
  subst hd
  have h0 := (hf 0).trans fr1.s0
  have h2 := (hf 2).trans fr1.s2
  have h3 := (hf 3).trans fr1.s3
  have h4 := (hf 4).trans fr1.s4
  have h5 := (hf 5).trans fr1.s5
  have h6 := (hf 6).trans fr1.s6
  have h7 := (hf 7).trans fr1.s7
  have h8 := (hf 8).trans fr1.s8
  have h50 := (hf 50).trans fr1.s50
  have h51 := (hf 51).trans fr1.s51
  have h52 := (hf 52).trans fr1.s52
  simp only [h0, h2, h3, h4, h5, h6, h7, h8, h50, h51, h52] at ht
  have ht2 : t = _ := ht
  subst ht2
  clear hf ht fr1 h0 h2 h3 h4 h5 h6 h7 h8 h50 h51 h52
  unfold ptr
  go_wp2_with fail
  refine unwind_loop (N := w.heap.size) (p := Pw.p) ?_ HF1.out.1 HF1.out.2.2 _ ?_
  · exact ⟨rfl, rfl, rfl, rfl, rfl, rfl, rfl, rfl, rfl, rfl⟩
  intro a2 w2 fr2 hs2 hk2
  obtain ⟨hs0, hsb, hst, hxy⟩ := hs2
  obtain ⟨top, frames, ov⟩ := hs0
  obtain rfl : frames = [] := by
    have h1 := congrArg St.stack hst
    simpa [HS.st] using h1
  have htop : top.ps = split ps := congrArg St.top hst
  have hbel : Below w.heap.size w w2 := (start_below w).trans (by rw [← HW.out]; exact (HF1.out.2.1.trans hk2).bel)
  have hbk : top.blk = w.heap.size := hsb.topBlk
  have htb := (hsb.words top (by simp [HS.words])).blk
  rw [hbk] at htb
  have c1 : w2.cell? ⟨w.heap.size + 1, 0, none⟩ = some (.pointer (some ⟨w.heap.size, 0, none⟩)) := by rw [Lib.cell_of_heap hsb.b1]; rfl
  obtain ⟨sa, sn, sc, hv⟩ : ∃ sa sn sc, top.v = .slice sa sn sc := by
    rcases (hsb.words top (by simp [HS.words])).own.2 with ⟨hv, _⟩ | ⟨g, cap, cur, hv, _⟩
    · exact ⟨_, _, _, hv⟩
    · exact ⟨_, _, _, hv⟩
  have c2 : w2.cell? ⟨w.heap.size, 0, none⟩ = some (.slice sa sn sc) := by rw [Lib.cell_of_heap htb, ← hv]; rfl
  have HV := Lib.hid hv
  clear hv
  have bp : w2.heap[Pw.p]? = some (.cells #[.slice (some ⟨g, 0, none⟩) ps.length cap] 40 (0, 0)) := (hbel.block _ HSP.out).trans HI.out.1
  have c3 : w2.cell? ⟨Pw.p, 0, none⟩ = some (.slice (some ⟨g, 0, none⟩) ps.length cap) := by rw [Lib.cell_of_heap bp]; rfl
  have fz : w2.frozen? ⟨Pw.p, 0, none⟩ = false := Lib.frozen_of_heap bp 0
  have HF2 := Lib.hid (And.intro hsb (And.intro htop hbel))
  clear hsb htop hbel hxy hst hbk htb bp
  obtain ⟨f, hf, ht⟩ := frame_lit a2.tmps fr2.size
  obtain ⟨t, d⟩ := a2
  have hd : d = [] := fr2.defers
  subst hd
  have h0 := (hf 0).trans fr2.s0
  have h2 := (hf 2).trans fr2.s2
  have h3 := (hf 3).trans fr2.s3
  have h4 := (hf 4).trans fr2.s4
  have h5 := (hf 5).trans fr2.s5
  have h6 := (hf 6).trans fr2.s6
  have h7 := (hf 7).trans fr2.s7
  have h8 := (hf 8).trans fr2.s8
  simp only [h0, h2, h3, h4, h5, h6, h7, h8] at ht
  have ht2 : t = _ := ht
  subst ht2
  clear hf ht fr2 h0 h2 h3 h4 h5 h6 h7 h8
  unfold ptr
  go_wp2_with fail
  go_ret
  refine ⟨rfl, ?_⟩
  rw [← HV.out]
  exact split_end HF2.out.1 HF2.out.2.1 HF2.out.2.2 ⟨_, HI.out.1, rfl⟩
end Go.Proofs.YtmcoifhiiagfpaaDoor

/-
  'FnTop2' returns true for every input and leaves its argument as it was: the row's statement and its card (the listed variables tied).
-/
import Derived.Test.YtmcoifhiiagfpaaDoorGp
import Derived.Test.YtmcoifhiiagfpaaDoorRows
import Derived.Test.YtmcoifhiiagfpaaDoorCards
import Derived.Test.YtmcoifhiiagfpaaDoorTie
import Derived.ProofKit
import Derived.OpenShut
import Derived.SliceStrings
import Derived.Carry
import Derived.ChangeOld
import Derived.Lay
import Derived.LaidOnce
import Derived.Lib.LaidU8
import Derived.Lib.LaidTab
import Derived.LaidLaws
import Derived.Ground.NamesProg
import Derived.SevenTiedAt
namespace Go.Proofs.YtmcoifhiiagfpaaDoor.fnTop2
open Go.ChangeShapes Go.WideShapes Go.ChangeAt Go.RowKit

theorem own : ownKnob Tryd.prog.godebug = none := by kernel_rfl
theorem laidOut : laidOutB Tryd.prog = true := by kernel_rfl
def laid : List (String × DataW Unit) := [("math/bits.deBruijn32tab", Rows.laid_math_bits_deBruijn32tab), ("math/bits.deBruijn64tab", Rows.laid_math_bits_deBruijn64tab), ("internal/strconv.uint64pow10", Rows.laid_internal_strconv_uint64pow10), ("strconv.ErrRange", Rows.laid_strconv_ErrRange), ("strconv.ErrSyntax", Rows.laid_strconv_ErrSyntax)]

theorem err_cell {W : World} {n nm : String} {d : DataW Unit} {g : Nat} {ti : TypeId} {ms : Array (String × TypeId)} (h : Lib.VarReads Tryd.prog W n (.iface nm d)) (hg : Tryd.prog.globalNamed n = some g) (ht : (Tryd.prog.globals[g]?).map (·.type) = some ti) (hi : Tryd.prog.underlying ti = some (.interface ms)) :
    ∃ ev, W.cell? ⟨g, 0, none⟩ = some ev ∧ (ev = .nilIface ∨ ∃ te pe, ev = .iface te pe) := by
  obtain ⟨g', t', cs, fuel, p, hg', ht', hv, hd⟩ := h
  obtain rfl := Option.some.inj (hg.symm.trans hg')
  obtain rfl := Option.some.inj (ht.symm.trans ht')
  obtain ⟨_, u, v, hcs, _, _⟩ := iface_of_trod hi hd
  refine ⟨.iface u v, ?_, Or.inr ⟨u, v, rfl⟩⟩
  have h0 := World.var?_cell hg' hv 0
  obtain ⟨l⟩ := cs
  simp only at hcs
  subst hcs
  simpa using h0
theorem errs_of {W : World} (h : laidMet Tryd.prog laid W) : Errs W :=
  ⟨err_cell (Lib.laidMet.reads h (.tail _ (.tail _ (.tail _ (.tail _ (.head _)))))) (by kernel_rfl) (by kernel_rfl) Tryd.underlying55,
   err_cell (Lib.laidMet.reads h (.tail _ (.tail _ (.tail _ (.head _))))) (by kernel_rfl) (by kernel_rfl) Tryd.underlying55⟩
theorem pow_data : (Rows.laid_internal_strconv_uint64pow10 : DataW Unit) = Lib.tabData .u64 Lib.pow10Tab := by kernel_rfl
theorem tab_of {W : World} (h : laidMet Tryd.prog laid W) : Tab W := by
  have h1 := Lib.laidMet.reads h (n := "internal/strconv.uint64pow10") (d := Rows.laid_internal_strconv_uint64pow10) (.tail _ (.tail _ (.head _)))
  rw [pow_data] at h1
  obtain ⟨g', t', cs, fuel, p, hg', ht', hv, hd⟩ := h1
  have hg : Tryd.prog.globalNamed "internal/strconv.uint64pow10" = some 3 := by kernel_rfl
  have hty : (Tryd.prog.globals[3]?).map (·.type) = some 123 := by kernel_rfl
  obtain rfl := Option.some.inj (hg.symm.trans hg')
  obtain rfl := Option.some.inj (hty.symm.trans ht')
  unfold Tab Lib.TabIs
  rw [hv, ← Lib.cells_of_tab (n := 20) (e := 98) (show Tryd.prog.underlying 123 = some (.array 20 98) by kernel_rfl) (show Tryd.prog.underlying 98 = some (.int .u64) by kernel_rfl) (by kernel_rfl) (by kernel_rfl) hd]

theorem add_mid (b o j : Nat) : (⟨b, o, none⟩ : Addr).add j = ⟨b, o + j, none⟩ := by
  unfold Addr.add
  split <;> simp_all
theorem var_lt {W : World} (h : laidMet Tryd.prog laid W) : 5 < W.heap.size := by
  obtain ⟨g', t', cs, fuel, p, hg', ht', hv, hd⟩ := Lib.laidMet.reads h (n := "math/bits.deBruijn64tab") (d := Rows.laid_math_bits_deBruijn64tab) (.tail _ (.head _))
  rcases Nat.lt_or_ge 5 W.heap.size with h' | h'
  · exact h'
  · unfold World.var? at hv
    rw [show Tryd.prog.globalNamed "math/bits.deBruijn64tab" = some 5 by kernel_rfl] at hv
    simp only [Option.bind_some] at hv
    rw [Array.getElem?_eq_none h'] at hv
    cases hv
theorem spot_none {w : World} {b o : Nat} {sp : Option Nat} {v : Value} (h : w.cell? ⟨b, o, sp⟩ = some v) : sp = none := by
  cases sp with
  | none => rfl
  | some x =>
    unfold World.cell? at h
    split at h <;> simp at h
theorem cells_u8 : Tryd.prog.cellsOf 5 = 1 := by kernel_rfl
section
variable {H : Type} {enc : TypeId × Value → H} {W W' : World} {base : Nat} {v : Value} {d : DataW H} {p : List MemPlace}
set_option maxRecDepth 10000 in
theorem bytes_of (hv : Value.okWide Tryd.prog W .any base 22 v) (h : DataW.Trod enc Tryd.prog W 0 (fun _ => true) true 22 v d p) : ∃ l, BytesAt W v l := by
  obtain ⟨a0, len, cap, rfl⟩ := okWide_slice Tryd.underlying22 hv
  obtain ⟨fuel, hf⟩ := h
  rcases open_ints Tryd.underlying22 Tryd.underlying5 cells_u8 hf with ⟨hcs, hx⟩ | ⟨a, len', cap', zs, hcs, _, hl, hm, hz, hx, hcell, hwf⟩
  · simp [Value.cells] at hcs
    obtain ⟨rfl, rfl, rfl⟩ := hcs
    exact ⟨[], none, 0, rfl, fun h => absurd rfl h⟩
  · simp [Value.cells] at hcs
    obtain ⟨rfl, rfl, rfl⟩ := hcs
    simp only [if_true] at hz
    have hlen : ((zs.take len).map fun z => UInt8.ofNat z.toNat).length = len := by simp; omega
    refine ⟨(zs.take len).map fun z => UInt8.ofNat z.toNat, some a, cap, by rw [hlen], fun hne => ?_⟩
    have hpos : 0 < len := by rw [← hlen]; exact List.length_pos_iff.2 hne
    obtain ⟨g, off, sp⟩ := a
    have h0 := hcell 0 (by omega)
    have hsp : sp = none := spot_none (w := W) (b := g) (o := off + 0) (sp := sp) h0
    subst hsp
    refine ⟨g, off, rfl, block_lt_of_cell h0, fun k x hx => ?_⟩
    rw [List.getElem?_map] at hx
    obtain ⟨z, hz2, rfl⟩ := Option.map_eq_some_iff.1 hx
    have hk : k < len := by
      have := (List.getElem?_eq_some_iff.1 hz2).1
      rw [List.length_take] at this
      omega
    rw [List.getElem?_take_of_lt hk] at hz2
    have hw := hwf z (List.mem_of_getElem? hz2)
    have hc := hcell k (by omega)
    have e : zs.getD k 0 = z := by rw [List.getD_eq_getElem?_getD, hz2]; rfl
    rw [e] at hc
    have hb : 0 ≤ z ∧ z ≤ 255 := by simpa [Lit.wf, IntKind.min, IntKind.max, IntKind.signed, IntKind.bits] using hw
    have e2 : ((UInt8.ofNat z.toNat).toNat : Int) = z := by
      rw [UInt8.toNat_ofNat']
      omega
    rw [e2, ← add_mid]
    exact hc
theorem carry_bytes (h : DataW.Trod enc Tryd.prog W 0 (fun _ => true) true 22 v d p) (hb : Below W.heap.size W W') (hlt : ∀ x ∈ p, x.block < W.heap.size) : DataW.Trod enc Tryd.prog W' 0 (fun b => decide (b < W.heap.size)) true 22 v d p :=
  Below.trod laidOut (by kernel_rfl) (of_decide_eq_true (by kernel_rfl)) h hb hlt
end

set_option maxRecDepth 100000 in
theorem lifted (os : Os) (started : os.Started) (H : Type) (enc : TypeId × Value → H) :
    ReturnsInHanded {} Tryd.checked os 3 .any (fun w args => (Rows.fnTop2Spec.pre enc Tryd.prog Tryd.f3 [] false w args ∧ laidMetH Tryd.prog laid w) ∧ sizedMet enc Tryd.prog Tryd.f3 (OpenSpec.ofChange Rows.fnTop2Spec) false w args)
      (Rows.fnTop2Spec.post enc Tryd.prog Tryd.f3 false true false false) := by
  refine returnsInHanded_of_change_and (C := Tryd.checked) (X := fun w _ => laidMetH Tryd.prog laid w) (fun _ _ _ hh h => h.of_heap hh) own started (by kernel_rfl) Tryd.func3
    (ChangeSpec.witness_shaped (enc := enc) (C := Tryd.checked) (os := os) (X := fun w _ => laidMetH Tryd.prog laid w) false (World.laidAll Tryd.prog os laid) #[.slice none 0 0] 8 (World.laidAll_os _ _ _)
      (World.shaped_of_ZipB (by kernel_rfl) (by kernel_rfl)) (by kernel_rfl) (by kernel_rfl) (by kernel_rfl)
      (by rw [MakeChecks.laidMetH_plain _ _ _ (by kernel_rfl)]; exact laidMet_laidAll _ (by kernel_rfl) (by kernel_rfl))) ?_
  intro W base args ds gs before hval0 hW _ _ hL _
  have hval : ∀ (j : Nat) t v, Tryd.f3.params[j]? = some t → args[j]? = some v → Value.okWide Tryd.prog W .any base t v := hval0
  have hW' := hW
  obtain ⟨p, q, hA0, hV, rfl, _, _⟩ := hW
  have hA : DataW.TrodAll enc Tryd.prog W 0 (fun _ => true) true Tryd.f3.params.toList args.toList ds p := hA0
  rw [Tryd.params3] at hA hval
  obtain ⟨v0, vs0, d0, ds0, p0, q0, hargs, rfl, rfl, h0, r0⟩ := trodAll_cons hA
  obtain ⟨rfl, rfl, rfl⟩ := trodAll_nil r0
  obtain rfl : args = #[v0] := by cases args; simp_all
  obtain ⟨rfl, rfl⟩ := trodVars_none hV
  have hlt : ∀ x ∈ p0 ++ [], x.block < W.heap.size := fun x hx => by simpa using hW'.lt x (by simpa using hx)
  obtain ⟨l, hS⟩ := bytes_of (hval 0 22 v0 rfl rfl) h0
  clear hA0 hval0
  rw [MakeChecks.laidMetH_plain _ _ _ (by kernel_rfl)] at hL
  have h6 : 6 ≤ W.heap.size := var_lt hL
  refine (law_any v0 l W hS (errs_of hL) (tab_of hL) h6).mono fun e W' ⟨he, bel⟩ => ?_
  subst he
  have k0 := carry_bytes h0 bel (fun x hx => hlt x (by simp [hx]))
  exact ⟨_, rfl, _, _, _, [], p0 ++ [], [], hW', trodAll_mk1 (shut_bool Tryd.underlying4 _), (trodAll_cons_mk k0 trodAll_mk0), rfl, bel.frame _, fun h => by cases h⟩

theorem over : Rows.FnTop2Said :=
  OpenClaim.holds_of_wide 3 Tryd.f3 rfl rfl rfl rfl rfl rfl rfl ⟨rfl, rfl, rfl, rfl, rfl⟩ rfl rfl rfl rfl rfl (by kernel_rfl) Tryd.func3 (by kernel_rfl)
    (of_decide_eq_true (by kernel_rfl)) (by unfold Func.isWrapper; first | (rw [if_pos (by decide +kernel)]; kernel_rfl) | (rw [if_neg (by decide +kernel)]; exact ⟨rfl, rfl⟩))
    (fun os started H enc _ => lifted os started H enc)

theorem proved : Rows.FnTop2CardSaid :=
  Claim7.holds_tied_plain_at .later [] [.data, .data, .data, .sentinel, .sentinel] true (true, "6c31ffb8f2e8568310cd197daf1f213ce7d1e5bdba5b3d83b157ab64c3224a9e") true over (fun _ h => by cases h) (by kernel_rfl) (fun _ h => by cases h) fnTop2_row_tie rfl ⟨rfl, rfl⟩ (by kernel_rfl) rfl
    (fun f fn hf hfn => by
      obtain rfl : f = 3 := Option.some.inj ((show Tryd.prog.funcNamed "mvdan.cc/sh/v3/n010_1002.FnTop2" = some 3 by kernel_rfl).symm.trans hf) |>.symm
      obtain rfl : fn = Tryd.f3 := (Option.some.inj (Tryd.func3.symm.trans hfn)).symm
      exact ⟨by kernel_rfl, fun j t ht => by
        rw [Tryd.params3] at ht
        have hm : t ∈ [22] := by simpa using Array.mem_of_getElem? ht
        have hall : ([22].all fun u => !Tryd.prog.wantsStandIn u) = true := by kernel_rfl
        exact (show Tryd.prog.wantsStandIn t = false by simpa using List.all_eq_true.1 hall t hm)⟩)
    (by kernel_rfl)
#print axioms proved
end Go.Proofs.YtmcoifhiiagfpaaDoor.fnTop2

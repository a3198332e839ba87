/-
  A frame of SplitBraces written out, slot by slot; the bodies of its loops. The long line was written by a program of ours (tools/mk_frame.py).
  Regions that draw their order: loads are taken first under a condition on the world, which need not hold behind the operation that comes last. No walk here.
  A box of a number written: what is held stands. No walk here.
  One byte of a literal: what holds at the round's head; the bytes that are no token.
  One byte of a literal: the backslash.
  The memory behind the three statements that open a brace. No walk here.
  One byte of a literal: the opening brace.
  One byte of a literal: a token where no brace is open.
  One byte of a literal: a dot inside a brace that no second one follows.
  One byte of a literal: two dots inside a list.
-/
import Derived.Test.YtmcoifhiiagfpaaDoorGc
import Derived.Laws.EntriesVeiled
import Derived.StillTail
import Derived.Deep.RegionHeld3
namespace Go.Proofs.YtmcoifhiiagfpaaDoor
open Go.RowKit

set_option maxRecDepth 1000000 in
theorem range_lit (f : Nat → Value) : (List.range 469).map f = [f 0, f 1, f 2, f 3, f 4, f 5, f 6, f 7, f 8, f 9, f 10, f 11, f 12, f 13, f 14, f 15, f 16, f 17, f 18, f 19, f 20, f 21, f 22, f 23, f 24, f 25, f 26, f 27, f 28, f 29, f 30, f 31, f 32, f 33, f 34, f 35, f 36, f 37, f 38, f 39, f 40, f 41, f 42, f 43, f 44, f 45, f 46, f 47, f 48, f 49, f 50, f 51, f 52, f 53, f 54, f 55, f 56, f 57, f 58, f 59, f 60, f 61, f 62, f 63, f 64, f 65, f 66, f 67, f 68, f 69, f 70, f 71, f 72, f 73, f 74, f 75, f 76, f 77, f 78, f 79, f 80, f 81, f 82, f 83, f 84, f 85, f 86, f 87, f 88, f 89, f 90, f 91, f 92, f 93, f 94, f 95, f 96, f 97, f 98, f 99, f 100, f 101, f 102, f 103, f 104, f 105, f 106, f 107, f 108, f 109, f 110, f 111, f 112, f 113, f 114, f 115, f 116, f 117, f 118, f 119, f 120, f 121, f 122, f 123, f 124, f 125, f 126, f 127, f 128, f 129, f 130, f 131, f 132, f 133, f 134, f 135, f 136, f 137, f 138, f 139, f 140, f 141, f 142, f 143, f 144, f 145, f 146, f 147, f 148, f 149, f 150, f 151, f 152, f 153, f 154, f 155, f 156, f 157, f 158, f 159, f 160, f 161, f 162, f 163, f 164, f 165, f 166, f 167, f 168, f 169, f 170, f 171, f 172, f 173, f 174, f 175, f 176, f 177, f 178, f 179, f 180, f 181, f 182, f 183, f 184, f 185, f 186, f 187, f 188, f 189, f 190, f 191, f 192, f 193, f 194, f 195, f 196, f 197, f 198, f 199, f 200, f 201, f 202, f 203, f 204, f 205, f 206, f 207, f 208, f 209, f 210, f 211, f 212, f 213, f 214, f 215, f 216, f 217, f 218, f 219, f 220, f 221, f 222, f 223, f 224, f 225, f 226, f 227, f 228, f 229, f 230, f 231, f 232, f 233, f 234, f 235, f 236, f 237, f 238, f 239, f 240, f 241, f 242, f 243, f 244, f 245, f 246, f 247, f 248, f 249, f 250, f 251, f 252, f 253, f 254, f 255, f 256, f 257, f 258, f 259, f 260, f 261, f 262, f 263, f 264, f 265, f 266, f 267, f 268, f 269, f 270, f 271, f 272, f 273, f 274, f 275, f 276, f 277, f 278, f 279, f 280, f 281, f 282, f 283, f 284, f 285, f 286, f 287, f 288, f 289, f 290, f 291, f 292, f 293, f 294, f 295, f 296, f 297, f 298, f 299, f 300, f 301, f 302, f 303, f 304, f 305, f 306, f 307, f 308, f 309, f 310, f 311, f 312, f 313, f 314, f 315, f 316, f 317, f 318, f 319, f 320, f 321, f 322, f 323, f 324, f 325, f 326, f 327, f 328, f 329, f 330, f 331, f 332, f 333, f 334, f 335, f 336, f 337, f 338, f 339, f 340, f 341, f 342, f 343, f 344, f 345, f 346, f 347, f 348, f 349, f 350, f 351, f 352, f 353, f 354, f 355, f 356, f 357, f 358, f 359, f 360, f 361, f 362, f 363, f 364, f 365, f 366, f 367, f 368, f 369, f 370, f 371, f 372, f 373, f 374, f 375, f 376, f 377, f 378, f 379, f 380, f 381, f 382, f 383, f 384, f 385, f 386, f 387, f 388, f 389, f 390, f 391, f 392, f 393, f 394, f 395, f 396, f 397, f 398, f 399, f 400, f 401, f 402, f 403, f 404, f 405, f 406, f 407, f 408, f 409, f 410, f 411, f 412, f 413, f 414, f 415, f 416, f 417, f 418, f 419, f 420, f 421, f 422, f 423, f 424, f 425, f 426, f 427, f 428, f 429, f 430, f 431, f 432, f 433, f 434, f 435, f 436, f 437, f 438, f 439, f 440, f 441, f 442, f 443, f 444, f 445, f 446, f 447, f 448, f 449, f 450, f 451, f 452, f 453, f 454, f 455, f 456, f 457, f 458, f 459, f 460, f 461, f 462, f 463, f 464, f 465, f 466, f 467, f 468] := rfl
set_option maxRecDepth 1000000 in
theorem frame_lit (t : Array Value) (h : t.size = 469) : ∃ f : Nat → Value, (∀ i, f i = t.getD i undef) ∧ t = #[f 0, f 1, f 2, f 3, f 4, f 5, f 6, f 7, f 8, f 9, f 10, f 11, f 12, f 13, f 14, f 15, f 16, f 17, f 18, f 19, f 20, f 21, f 22, f 23, f 24, f 25, f 26, f 27, f 28, f 29, f 30, f 31, f 32, f 33, f 34, f 35, f 36, f 37, f 38, f 39, f 40, f 41, f 42, f 43, f 44, f 45, f 46, f 47, f 48, f 49, f 50, f 51, f 52, f 53, f 54, f 55, f 56, f 57, f 58, f 59, f 60, f 61, f 62, f 63, f 64, f 65, f 66, f 67, f 68, f 69, f 70, f 71, f 72, f 73, f 74, f 75, f 76, f 77, f 78, f 79, f 80, f 81, f 82, f 83, f 84, f 85, f 86, f 87, f 88, f 89, f 90, f 91, f 92, f 93, f 94, f 95, f 96, f 97, f 98, f 99, f 100, f 101, f 102, f 103, f 104, f 105, f 106, f 107, f 108, f 109, f 110, f 111, f 112, f 113, f 114, f 115, f 116, f 117, f 118, f 119, f 120, f 121, f 122, f 123, f 124, f 125, f 126, f 127, f 128, f 129, f 130, f 131, f 132, f 133, f 134, f 135, f 136, f 137, f 138, f 139, f 140, f 141, f 142, f 143, f 144, f 145, f 146, f 147, f 148, f 149, f 150, f 151, f 152, f 153, f 154, f 155, f 156, f 157, f 158, f 159, f 160, f 161, f 162, f 163, f 164, f 165, f 166, f 167, f 168, f 169, f 170, f 171, f 172, f 173, f 174, f 175, f 176, f 177, f 178, f 179, f 180, f 181, f 182, f 183, f 184, f 185, f 186, f 187, f 188, f 189, f 190, f 191, f 192, f 193, f 194, f 195, f 196, f 197, f 198, f 199, f 200, f 201, f 202, f 203, f 204, f 205, f 206, f 207, f 208, f 209, f 210, f 211, f 212, f 213, f 214, f 215, f 216, f 217, f 218, f 219, f 220, f 221, f 222, f 223, f 224, f 225, f 226, f 227, f 228, f 229, f 230, f 231, f 232, f 233, f 234, f 235, f 236, f 237, f 238, f 239, f 240, f 241, f 242, f 243, f 244, f 245, f 246, f 247, f 248, f 249, f 250, f 251, f 252, f 253, f 254, f 255, f 256, f 257, f 258, f 259, f 260, f 261, f 262, f 263, f 264, f 265, f 266, f 267, f 268, f 269, f 270, f 271, f 272, f 273, f 274, f 275, f 276, f 277, f 278, f 279, f 280, f 281, f 282, f 283, f 284, f 285, f 286, f 287, f 288, f 289, f 290, f 291, f 292, f 293, f 294, f 295, f 296, f 297, f 298, f 299, f 300, f 301, f 302, f 303, f 304, f 305, f 306, f 307, f 308, f 309, f 310, f 311, f 312, f 313, f 314, f 315, f 316, f 317, f 318, f 319, f 320, f 321, f 322, f 323, f 324, f 325, f 326, f 327, f 328, f 329, f 330, f 331, f 332, f 333, f 334, f 335, f 336, f 337, f 338, f 339, f 340, f 341, f 342, f 343, f 344, f 345, f 346, f 347, f 348, f 349, f 350, f 351, f 352, f 353, f 354, f 355, f 356, f 357, f 358, f 359, f 360, f 361, f 362, f 363, f 364, f 365, f 366, f 367, f 368, f 369, f 370, f 371, f 372, f 373, f 374, f 375, f 376, f 377, f 378, f 379, f 380, f 381, f 382, f 383, f 384, f 385, f 386, f 387, f 388, f 389, f 390, f 391, f 392, f 393, f 394, f 395, f 396, f 397, f 398, f 399, f 400, f 401, f 402, f 403, f 404, f 405, f 406, f 407, f 408, f 409, f 410, f 411, f 412, f 413, f 414, f 415, f 416, f 417, f 418, f 419, f 420, f 421, f 422, f 423, f 424, f 425, f 426, f 427, f 428, f 429, f 430, f 431, f 432, f 433, f 434, f 435, f 436, f 437, f 438, f 439, f 440, f 441, f 442, f 443, f 444, f 445, f 446, f 447, f 448, f 449, f 450, f 451, f 452, f 453, f 454, f 455, f 456, f 457, f 458, f 459, f 460, f 461, f 462, f 463, f 464, f 465, f 466, f 467, f 468] := by
  refine ⟨fun i => t.getD i undef, fun _ => rfl, ?_⟩
  have e : t = ((List.range 469).map fun i => t.getD i undef).toArray := by
    apply Array.ext
    · simp [h]
    · intro i h1 h2
      simp [h1]
  rw [range_lit] at e
  exact e

/-- The loops of a text, each ahead of those inside it. -/
def loopsOf : Code → List Code
  | .loop c => c :: loopsOf c
  | .seq a b => loopsOf a ++ loopsOf b
  | .block _ c => loopsOf c
  | .scope c => loopsOf c
  | .cond _ a b => loopsOf a ++ loopsOf b
  | _ => []
/-- The body of the n-th loop of SplitBraces. -/
noncomputable def bodyOf (n : Nat) : Code := ((Tryd.f9.body.map fun c => (loopsOf c).getD n .skip).getD .skip)
theorem loops_seven : (Tryd.f9.body.map fun c => (loopsOf c).length) = some 7 := by kernel_rfl
end Go.Proofs.YtmcoifhiiagfpaaDoor

namespace Go.Proofs.YtmcoifhiiagfpaaDoor
open Go

section
variable {P : Program} {ops : Array Oper} {Q : Exit → Act → World → Prop} {md : Region.Mode} {S : World → Prop} {z : Nat}

/-- Whatever order is picked from here on; S holds behind every operation but number z. -/
def AnyE (P : Program) (md : Region.Mode) (ops : Array Oper) (Q : Exit → Act → World → Prop) (S : World → Prop) (z : Nat) : Nat → Array Bool → Act → World → Prop
  | 0, listed, a, w => Region.ready md ops listed = [] ∧ Q .normal a w
  | fuel + 1, listed, a, w =>
    (Region.ready md ops listed = [] → Q .normal a w) ∧
    ∀ i ∈ Region.ready md ops listed, wpOp P ops Q i (fun a' w' => (i ≠ z → S w') ∧ AnyE P md ops Q S z fuel (listed.setIfInBounds i true) a' w') a w

theorem any_of_anyE : ∀ (fuel : Nat) (listed : Array Bool) (a : Act) (w : World), AnyE P md ops Q S z fuel listed a w → wpAny P md ops Q fuel listed a w
  | 0, _, _, _, h => h
  | fuel + 1, _, _, _, h => ⟨h.1, fun i hi => wpOp_mono (fun a' w' h' => any_of_anyE fuel _ a' w' h'.2) (h.2 i hi)⟩

/-- Whatever has come up has come up behind what it waits for. -/
def Closed (md : Region.Mode) (ops : Array Oper) (listed : Array Bool) : Prop := ∀ j oj, ops[j]? = some oj → listed.getD j false = true → ∀ e ∈ oj.after, Region.binds md e = true → listed.getD e.on false = true
theorem closed_zero : Closed md ops (Array.replicate ops.size false) := fun j oj _ hl => (by rw [getD_replicate_false] at hl; cases hl)
theorem Closed.set {listed : Array Bool} {i : Nat} (h : Closed md ops listed) (hi : i ∈ Region.ready md ops listed) : Closed md ops (listed.setIfInBounds i true) := by
  obtain ⟨_, oi, hoi, hall⟩ := mem_ready.1 hi
  intro j oj hj hl e he hb
  have key : listed.getD e.on false = true := by
    by_cases hij : i = j
    · subst hij
      have : oj = oi := Option.some.inj (hj.symm.trans hoi)
      subst this
      exact hall e he hb
    · rw [getD_set_ne false hij] at hl
      exact h j oj hj hl e he hb
  by_cases hie : i = e.on
  · rw [← hie] at key ⊢
    simp at key ⊢
    have hlt : i < listed.size := by
      rcases Nat.lt_or_ge i listed.size with h' | h'
      · exact h'
      · simp [Array.getElem?_eq_none h'] at key
    simp [hlt]
  · rw [getD_set_ne false hie]; exact key

/-- A chain of operations, each waiting for the next. -/
def pathB (md : Region.Mode) (ops : Array Oper) : List Nat → Bool
  | a :: b :: r => Region.waitsFor md ops a b && pathB md ops (b :: r)
  | _ => true
theorem path_listed {listed : Array Bool} (hc : Closed md ops listed) : ∀ (l : List Nat) (b : Nat), listed.getD b false = true → pathB md ops (b :: l) = true → ∀ i ∈ l, listed.getD i false = true
  | [], _, _, _, i, hi => by cases hi
  | c :: r, b, hb, hp, i, hi => by
    simp only [pathB, Bool.and_eq_true] at hp
    obtain ⟨ob, hob, e, he, hbi, hon⟩ := Region.waitsFor_spec hp.1
    have hcl := hc b ob hob hb e he hbi
    rw [hon] at hcl
    rcases List.mem_cons.1 hi with rfl | hi
    · exact hcl
    · exact path_listed hc r c hcl hp.2 i hi
theorem path_ready {listed : Array Bool} (hc : Closed md ops listed) (hz : z ∈ Region.ready md ops listed) (l : List Nat) (hp : pathB md ops (z :: l) = true) : ∀ i ∈ l, listed.getD i false = true := by
  intro i hi
  cases l with
  | nil => cases hi
  | cons c r =>
    simp only [pathB, Bool.and_eq_true] at hp
    obtain ⟨ob, hob, e, he, hbi, hon⟩ := Region.waitsFor_spec hp.1
    obtain ⟨_, oz, hoz, hall⟩ := mem_ready.1 hz
    have : ob = oz := Option.some.inj (hob.symm.trans hoz)
    subst this
    have hcl := hall e he hbi
    rw [hon] at hcl
    rcases List.mem_cons.1 hi with rfl | hi
    · exact hcl
    · exact path_listed hc r c hcl hp.2 i hi

theorem anyE_first {i : Nat} {oi : Oper} {v : Value} (hi : ops[i]? = some oi) (hsel : ∀ (j : Nat) (o : Oper) cs b, ops[j]? = some o → o.op ≠ .select cs b)
    (hQ : ∀ c a w, Q (.panic c) (a.put oi.dst v) w → Q (.panic c) a w) (path : List Nat) (hp : pathB md ops (z :: path) = true) (hip : i ∈ path) (hiz : i ≠ z) :
    ∀ (fuel : Nat) (listed : Array Bool) (a : Act) (w : World),
      (∀ j oj, ops[j]? = some oj → j ≠ i → listed.getD j true = false → (∀ e ∈ oj.after, Region.binds md e = true → e.on ≠ i) → oi.apart ops oj = true) →
      Closed md ops listed → i ∈ Region.ready md ops listed → YieldsIf P ops S oi v a → S w →
      AnyE P md ops Q S z fuel (listed.setIfInBounds i true) (a.put oi.dst v) w → AnyE P md ops Q S z (fuel + 1) listed a w := by
  intro fuel
  induction fuel with
  | zero =>
    intro listed a w _ hc hr hy hS H
    refine ⟨fun h => (by rw [h] at hr; cases hr), fun j hj => ?_⟩
    by_cases hji : j = i
    · subst hji; exact hy.wpOp hi hS ⟨fun _ => hS, H⟩
    · have := ready_mono hj hji
      rw [H.1] at this
      cases this
  | succ fuel ih =>
    intro listed a w hfree hcl hr hy hS H
    refine ⟨fun h => (by rw [h] at hr; cases hr), fun j hj => ?_⟩
    by_cases hji : j = i
    · subst hji; exact hy.wpOp hi hS ⟨fun _ => hS, H⟩
    · have hjz : j ≠ z := fun e => by
        subst e
        have h1 := path_ready hcl hj path hp i hip
        have h0 := (mem_ready.1 hr).1
        rcases Nat.lt_or_ge i listed.size with h' | h'
        · simp [h'] at h0 h1; rw [h0] at h1; cases h1
        · simp [Array.getElem?_eq_none h'] at h1
      have h1 := H.2 j (ready_mono hj hji)
      obtain ⟨hjun, oj, hoj, hall⟩ := mem_ready.1 hj
      have hnot : ∀ e ∈ oj.after, Region.binds md e = true → e.on ≠ i := fun e he hb heq => by
        have h1 := hall e he hb
        have h0 := (mem_ready.1 hr).1
        rw [heq] at h1
        rcases Nat.lt_or_ge i listed.size with h' | h'
        · simp [h'] at h0 h1; rw [h0] at h1; cases h1
        · simp [Array.getElem?_eq_none h'] at h1
      have h2 := wpOp_putIf hoj (hfree j oj hoj hji hjun hnot) (fun cs b => hsel i oi cs b hi) (fun cs b => hsel j oj cs b hoj) hQ hy h1
      have hfree' : ∀ k ok, ops[k]? = some ok → k ≠ i → (listed.setIfInBounds j true).getD k true = false →
          (∀ e ∈ ok.after, Region.binds md e = true → e.on ≠ i) → oi.apart ops ok = true := fun k ok hk hki hun hno => by
        refine hfree k ok hk hki ?_ hno
        by_cases hjk : j = k
        · subst hjk; exact hjun
        · rw [getD_set_ne true hjk] at hun; exact hun
      refine wpOp_mono (fun a' w' h3 => ?_) h2
      obtain ⟨hy3, hS3, hw3⟩ := h3
      refine ⟨hS3, ih (listed.setIfInBounds j true) a' w' hfree' (hcl.set hj) (ready_mono hr (Ne.symm hji)) hy3 (hS3 hjz) ?_⟩
      rw [Array.setIfInBounds_comm _ _ hji]
      exact hw3

theorem get_of_drop {i : Nat} {o : Oper} {r : List Oper} (h : ops.toList.drop i = o :: r) : ops[i]? = some o := by
  have h1 : (ops.toList.drop i)[0]? = some o := by rw [h]; rfl
  rw [List.getElem?_drop] at h1
  simpa using h1

/-- Take number i first. -/
theorem anyE_take {i : Nat} {oi : Oper} {rest : List Oper} {v : Value} {fuel : Nat} {listed : Array Bool} {a : Act} {w : World} (path : List Nat) (hpp : (pathB md ops (z :: path) && path.contains i && !(i == z) && Region.noSelect ops && Region.free md ops listed i && (Region.ready md ops listed).contains i) = true) (hi0 : ops.toList.drop i = oi :: rest)
    (hQ : ∀ c a w, Q (.panic c) (a.put oi.dst v) w → Q (.panic c) a w) (hw : Region.wanted oi (yielded ops a.tmps) = true) (hy : ∀ w, S w → (execOp a.eval oi).run P w = .ok (.value v) w) (hc : Closed md ops listed) (hS : S w)
    (h : Closed md ops (listed.setIfInBounds i true) → AnyE P md ops Q S z fuel (listed.setIfInBounds i true) (a.put oi.dst v) w) : AnyE P md ops Q S z (fuel + 1) listed a w := by
  have hi := get_of_drop hi0
  simp only [Bool.and_eq_true, Bool.not_eq_true', beq_eq_false_iff_ne] at hpp
  obtain ⟨⟨⟨⟨⟨hp, hip⟩, hiz⟩, hs⟩, hf⟩, hr⟩ := hpp
  have hr' : i ∈ Region.ready md ops listed := by simpa using hr
  exact anyE_first hi (Region.noSelect_spec hs) hQ path hp (by simpa using hip) hiz fuel listed a w (Region.free_spec hi hf) hc hr' (Or.inl ⟨hw, hy⟩) hS (h (hc.set hr'))

/-- One alone may come up, and it is not the last. -/
theorem anyE_one {i : Nat} {o : Oper} {rest : List Oper} {fuel : Nat} {listed : Array Bool} {a : Act} {w : World} (hr : Region.ready md ops listed = [i]) (hc : Closed md ops listed) (ho0 : ops.toList.drop i = o :: rest)
    (h : ∀ K' : Act → World → Prop, Shut (∀ a w, S w → (S w → Closed md ops (listed.setIfInBounds i true) → AnyE P md ops Q S z fuel (listed.setIfInBounds i true) a w) → K' a w) → if Region.wanted o (yielded ops a.tmps) = true then Oper.wp P o a w K' Q else K' (a.put o.dst undef) w) :
    AnyE P md ops Q S z (fuel + 1) listed a w := by
  have hmem : i ∈ Region.ready md ops listed := by rw [hr]; simp
  refine ⟨fun h0 => (by rw [h0] at hr; cases hr), fun j hj => ?_⟩
  rw [hr] at hj
  have hji : j = i := by simpa using hj
  subst hji
  exact wpOp_step (get_of_drop ho0) (fun K' hK => h K' (fun a w hS hW => hK a w ⟨fun _ => hS, hW hS (hc.set hmem)⟩))

/-- The last. -/
theorem anyE_last {o : Oper} {rest : List Oper} {fuel : Nat} {listed : Array Bool} {a : Act} {w : World} (hr : Region.ready md ops listed = [z]) (ho0 : ops.toList.drop z = o :: rest) (hr2 : Region.ready md ops (listed.setIfInBounds z true) = [])
    (h : ∀ K' : Act → World → Prop, Shut (∀ a w, Q .normal a w → K' a w) → if Region.wanted o (yielded ops a.tmps) = true then Oper.wp P o a w K' Q else K' (a.put o.dst undef) w) :
    AnyE P md ops Q S z (fuel + 1) listed a w := by
  refine ⟨fun h0 => (by rw [h0] at hr; cases hr), fun j hj => ?_⟩
  rw [hr] at hj
  have hji : j = z := by simpa using hj
  subst hji
  refine wpOp_step (get_of_drop ho0) (fun K' hK => h K' (fun a w hq => hK a w ⟨fun e => absurd rfl e, ?_⟩))
  cases fuel with
  | zero => exact ⟨hr2, hq⟩
  | succ n => exact ⟨fun _ => hq, by rw [hr2]; simp⟩

/-- The beginning. -/
theorem region_anyE (S : World → Prop) (z : Nat) {id : Nat} {a : Act} {w : World} (hm : P.follows .mixedOrders = true) (hS : S w.drew)
    (h : S w.drew → Closed .any ops (Array.replicate ops.size false) → AnyE P .any ops (NoPanic Q) S z ops.size (Array.replicate ops.size false) a w.drew) : (Code.region id ops true).wp P Q a w :=
  wp_region_noPanic (wp_region_any hm (any_of_anyE _ _ _ _ (h hS closed_zero)))
end
end Go.Proofs.YtmcoifhiiagfpaaDoor

namespace Go.Proofs.YtmcoifhiiagfpaaDoor
open Go.RowKit
set_option linter.unusedSectionVars false
variable [Pw]

/-- Nothing but boxes of numbers and of pointers to literals has been turned. -/
def Boxy (w w' : World) : Prop := ∀ (k : Nat) (c : Array Value) (T : TypeId) (fz : Nat × Nat), w.heap[k]? = some (.cells c T fz) → T ≠ 3 → T ≠ 67 → w'.heap[k]? = some (.cells c T fz)

theorem RowAt.boxy {L : Nat → Prop} {w w' : World} {v : Value} {vals : List Value} (h : RowAt w L v vals) (hs : Boxy w w') : RowAt w' L v vals := by
  rcases h with h | ⟨g, cap, cur, hv, hL, hg, ht⟩
  · exact Or.inl h
  · exact Or.inr ⟨g, cap, cur, hv, hL, hs _ _ _ _ hg (by decide) (by decide), ht⟩
theorem PartsAt.boxy {L : Nat → Prop} {w w' : World} {vs : List Value} {ps : List Part} (h : PartsAt w L vs ps) (hs : Boxy w w') : PartsAt w' L vs ps :=
  PartsAt.rec (motive_1 := fun v p _ => PartAt w' L v p) (motive_2 := fun vs ps _ => PartsAt w' L vs ps) (motive_3 := fun ptrs ess _ => WordsAt w' L ptrs ess)
    (fun q s hL ⟨a, b, c, d, hq⟩ => .lit q s hL ⟨a, b, c, d, hs _ _ _ _ hq (by decide) (by decide)⟩)
    (fun b e cap cur seq ptrs ess hb he h1 h2 h3 _ ih => .brace b e cap cur seq ptrs ess hb he (hs _ _ _ _ h1 (by decide) (by decide)) (hs _ _ _ _ h2 (by decide) (by decide)) h3 ih)
    (fun t x ht => .other t x ht) .nil (fun v p vs ps _ _ i1 i2 => .cons v p vs ps i1 i2) .nil (fun p v vals ps ptrs ess hp h1 h2 _ _ i3 i4 => .cons p v vals ps ptrs ess hp (hs _ _ _ _ h1 (by decide) (by decide)) (h2.boxy hs) i3 i4) h

theorem SB.boxy {N : Nat} {hs : HS} {w w' : World} (h : SB N hs w) (hb : Boxy w w') : SB N hs w' := by
  have ow : ∀ {e n v xs}, w.ownsRow (N + 6) e 1 v n xs → e ≠ 3 → e ≠ 67 → w'.ownsRow (N + 6) e 1 v n xs := fun ho h1 h2 => own_kept ho (fun g _ _ ⟨c, hc⟩ => (hb _ _ _ _ hc h1 h2).trans hc.symm)
  exact { topBlk := h.topBlk, pw := ⟨h.pw.1, h.pw.2.elim fun c hc => ⟨c, hb _ _ _ _ hc (by decide) (by decide)⟩⟩, b1 := hb _ _ _ _ h.b1 (by decide) (by decide), b2 := hb _ _ _ _ h.b2 (by decide) (by decide), b3 := hb _ _ _ _ h.b3 (by decide) (by decide), b4 := hb _ _ _ _ h.b4 (by decide) (by decide), b5 := hb _ _ _ _ h.b5 (by decide) (by decide), opens := ow h.opens (by decide) (by decide)
          words := fun x hx => let k := h.words x hx; ⟨hb _ _ _ _ k.blk (by decide) (by decide), ow k.own (by decide) (by decide), k.parts.boxy hb, k.far⟩
          frames := fun f hf => let k := h.frames f hf; ⟨hb _ _ _ _ k.blk (by decide) (by decide), ow k.own (by decide) (by decide), k.far⟩
          dw := h.dw, da := h.da, df := h.df, de := h.de }
theorem Sb.boxy {N : Nat} {st : St} {xs : List Value} {ys : List Part} {w w' : World} (h : Sb N st xs ys w) (hb : Boxy w w') : Sb N st xs ys w' := by
  obtain ⟨hs, h1, h2, h3⟩ := h
  exact ⟨hs, h1.boxy hb, h2, h3.boxy hb⟩

/-- A box of a number written. -/
theorem boxy_set {w : World} {k : Nat} {a b : Value} (h : w.heap[k]? = some (.cells #[a] 3 (0, 0))) : Boxy w (w.setCell ⟨k, 0, none⟩ b) := by
  intro i c T fz hi h1 _
  rw [Below.heap_setCell _ _ _ _ (fun e => ?_)]
  · exact hi
  · subst e
    rw [h] at hi
    simp only [Option.some.injEq, Obj.cells.injEq] at hi
    exact h1 hi.2.1.symm
/-- It leaves what was there before the box was made. -/
theorem still_set {N : Nat} {w0 w : World} {k : Nat} {a b : Value} (h : Still N w0 w) (hk : w0.heap.size ≤ k) (hN : N ≤ w0.heap.size) (_ : w.heap[k]? = some (.cells #[a] 3 (0, 0))) : Still N w0 (w.setCell ⟨k, 0, none⟩ b) := by
  refine ⟨h.bel.setCell (p := ⟨k, 0, none⟩) (by show N ≤ k; omega) _, fun i c T fz hi hT => ?_⟩
  have hl : i < w0.heap.size := (Array.getElem?_eq_some_iff.1 hi).1
  rw [Below.heap_setCell _ _ _ _ (by show i ≠ k; omega)]
  exact h.kin i c T fz hi hT
end Go.Proofs.YtmcoifhiiagfpaaDoor

namespace Go.Proofs.YtmcoifhiiagfpaaDoor
open Go.RowKit
set_option linter.unusedSectionVars false
variable [Pw]

/-- The slots that the loop over the bytes reads and leaves. -/
structure Fr (N p : Nat) (c50 c51 c52 : Value) (lx la jb : Nat) (a : Act) : Prop where
  defers : a.defers = []
  size : a.tmps.size = 469
  s0 : a.tmps.getD 0 undef = ptr p
  s2 : a.tmps.getD 2 undef = .bool false
  s3 : a.tmps.getD 3 undef = ptr (N + 1)
  s4 : a.tmps.getD 4 undef = ptr (N + 2)
  s5 : a.tmps.getD 5 undef = ptr (N + 3)
  s6 : a.tmps.getD 6 undef = ptr (N + 4)
  s7 : a.tmps.getD 7 undef = .func (.func 24) #[] #[ptr (N + 3), ptr (N + 4), ptr (N + 1), ptr (N + 2)]
  s8 : a.tmps.getD 8 undef = ptr (N + 5)
  s11 : a.tmps.getD 11 undef = ptr lx
  s13 : a.tmps.getD 13 undef = ptr la
  s14 : a.tmps.getD 14 undef = ptr jb
  s50 : a.tmps.getD 50 undef = c50
  s51 : a.tmps.getD 51 undef = c51
  s52 : a.tmps.getD 52 undef = c52

/-- The memory at the round's head. -/
structure In (N : Nat) (v : ByteArray) (q lx la jb j last : Nat) (st : St) (xs : List Value) (ys : List Part) (w0 w : World) : Prop where
  sb : Sb N st xs ys w
  lit : LitAt w q v
  bx : w.heap[lx]? = some (.cells #[ptr q] 67 (0, 0))
  bl : w.heap[la]? = some (.cells #[.int .i64 last] 3 (0, 0))
  bj : w.heap[jb]? = some (.cells #[.int .i64 j] 3 (0, 0))
  still : Still N w0 w
  n0 : N ≤ w0.heap.size
  nl : w0.heap.size ≤ la
  nj : w0.heap.size ≤ jb
  ne : la ≠ jb

/-- The next round's memory: the box of j is a new one. -/
theorem In.next {N : Nat} {v : ByteArray} {q lx la jb j last : Nat} {st : St} {xs : List Value} {ys : List Part} {w0 w w2 : World} (m : In N v q lx la jb j last st xs ys w0 w) (hb : Below w.heap.size w w2) (j' : Nat) : In N v q lx la w2.heap.size j' last st xs ys w0 (w2.alloc (.cells #[.int .i64 j'] 3)) := by
  have hb2 : Below w.heap.size w (w2.alloc (.cells #[.int .i64 j'] 3)) := hb.alloc hb.size _
  have at_ : ∀ {k : Nat} {o : Obj}, w.heap[k]? = some o → (w2.alloc (.cells #[.int .i64 j'] 3)).heap[k]? = some o := fun {k o} hk => (hb2.block k (Array.getElem?_eq_some_iff.1 hk).1).trans hk
  have hN := m.sb.lt
  have hs := Still.of_below hb2 (show N ≤ w.heap.size by omega)
  exact { sb := m.sb.below hb2, lit := hs.lit m.lit, bx := at_ m.bx, bl := at_ m.bl, bj := heap_alloc_new w2 _, still := m.still.trans hs, n0 := m.n0, nl := m.nl, nj := by have h1 := m.still.bel.size; have h2 := hb.size; omega
          ne := fun e => by have h1 := (Array.getElem?_eq_some_iff.1 m.bl).1; have h2 := hb.size; omega }

theorem In.grow {N : Nat} {v : ByteArray} {q lx la jb j last : Nat} {st : St} {xs : List Value} {ys : List Part} {w0 w w2 : World} (m : In N v q lx la jb j last st xs ys w0 w) (hb : Below w.heap.size w w2) : In N v q lx la jb j last st xs ys w0 w2 := by
  have at_ : ∀ {k : Nat} {o : Obj}, w.heap[k]? = some o → w2.heap[k]? = some o := fun {k o} hk => (hb.block k (Array.getElem?_eq_some_iff.1 hk).1).trans hk
  have hN := m.sb.lt
  have hs := Still.of_below hb (show N ≤ w.heap.size by omega)
  exact { sb := m.sb.below hb, lit := hs.lit m.lit, bx := at_ m.bx, bl := at_ m.bl, bj := at_ m.bj, still := m.still.trans hs, n0 := m.n0, nl := m.nl, nj := m.nj, ne := m.ne }
theorem In.setj {N : Nat} {v : ByteArray} {q lx la jb j last : Nat} {st : St} {xs : List Value} {ys : List Part} {w0 w : World} (m : In N v q lx la jb j last st xs ys w0 w) (j' : Nat) : In N v q lx la jb j' last st xs ys w0 (w.setCell ⟨jb, 0, none⟩ (.int .i64 j')) := by
  obtain ⟨a, b, c, d, hq⟩ := m.lit
  have hb := boxy_set m.bj (b := .int .i64 j')
  have nx : lx ≠ jb := fun e => by
    have h1 := m.bx
    rw [e, m.bj] at h1
    simp only [Option.some.injEq, Obj.cells.injEq] at h1
    exact absurd h1.2.1 (by decide)
  exact { sb := m.sb.boxy hb, lit := ⟨a, b, c, d, hb _ _ _ _ hq (by decide) (by decide)⟩, bx := by rw [Below.heap_setCell _ _ _ _ nx]; exact m.bx, bl := by rw [Below.heap_setCell _ _ _ _ m.ne]; exact m.bl
          bj := by rw [heap_setCell_same _ _ _ _ _ _ m.bj]; rfl
          still := still_set m.still m.nj m.n0 m.bj, n0 := m.n0, nl := m.nl, nj := m.nj, ne := m.ne }

set_option maxRecDepth 1000000 in
set_option maxHeartbeats 2000000 in
theorem byte_other {N p : Nat} {c50 c51 c52 : Value} {lx la jb : Nat} {a : Act} (fr : Fr N p c50 c51 c52 lx la jb a) {v : ByteArray} {q j last : Nat} {st : St} {xs : List Value} {ys : List Part} {w0 w : World} (m : In N v q lx la jb j last st xs ys w0 w) (hj : j < v.size) (hv : v.size ≤ 100000000)
    (c1 : bt v j ≠ 92) (c2 : bt v j ≠ 123) (c3 : bt v j ≠ 44) (c4 : bt v j ≠ 46) (c5 : bt v j ≠ 125) (Q0 : Exit → Act → World → Prop) :
    Code.wp Tryd.prog (bodyOf 1) (Exit.then (fun a' w' => ∃ jb', Fr N p c50 c51 c52 lx la jb' a' ∧ In N v q lx la jb' (j + 1) last st xs ys w0 w') Q0) a w := by
  obtain ⟨f, hf, ht⟩ := frame_lit a.tmps fr.size
  obtain ⟨t, d⟩ := a
  have hd : d = [] := fr.defers
  subst hd
  have h0 := (hf 0).trans fr.s0
  have h2 := (hf 2).trans fr.s2
  have h3 := (hf 3).trans fr.s3
  have h4 := (hf 4).trans fr.s4
  have h5 := (hf 5).trans fr.s5
  have h6 := (hf 6).trans fr.s6
  have h7 := (hf 7).trans fr.s7
  have h8 := (hf 8).trans fr.s8
  have h11 := (hf 11).trans fr.s11
  have h13 := (hf 13).trans fr.s13
  have h14 := (hf 14).trans fr.s14
  have h50 := (hf 50).trans fr.s50
  have h51 := (hf 51).trans fr.s51
  have h52 := (hf 52).trans fr.s52
  simp only [h0, h2, h3, h4, h5, h6, h7, h8, h11, h13, h14, h50, h51, h52] at ht
  have ht2 : t = _ := ht
  subst ht2
  clear hf ht fr h0 h2 h3 h4 h5 h6 h7 h8 h11 h13 h14 h50 h51 h52
  obtain ⟨x1, x2, x3, x4, hqb⟩ := m.lit
  have bx := m.bx
  have bl := m.bl
  have bj := m.bj
  have cj : w.cell? ⟨jb, 0, none⟩ = some (.int .i64 j) := by rw [Lib.cell_of_heap bj]; rfl
  have cx : w.cell? ⟨lx, 0, none⟩ = some (.pointer (some ⟨q, 0, none⟩)) := by rw [Lib.cell_of_heap bx]; rfl
  have q4 : w.cell? ⟨q, 4, none⟩ = some (.string v) := by rw [Lib.cell_of_heap hqb]; rfl
  have zj : w.frozen? ⟨jb, 0, none⟩ = false := Lib.frozen_of_heap bj 0
  have sj : jb < w.heap.size := (Array.getElem?_eq_some_iff.1 bj).1
  have hz : (j : Int) < (v.size : Int) ∧ (v.size : Int) ≤ 100000000 := by omega
  obtain ⟨x, hx⟩ : ∃ x : Nat, bt v j = x := ⟨_, rfl⟩
  rw [hx] at c1 c2 c3 c4 c5
  have hg : (v[j]'hj).toNat = x := by rw [← bt_get v j hj]; exact hx
  have z1 : ((x : Int) == 92) = false := by simp; omega
  have z2 : ((x : Int) == 123) = false := by simp; omega
  have z3 : ((x : Int) == 44) = false := by simp; omega
  have z4 : ((x : Int) == 46) = false := by simp; omega
  have z5 : ((x : Int) == 125) = false := by simp; omega
  have M := Lib.hid m
  clear hqb bx bl bj m c1 c2 c3 c4 c5 hx
  conv => arg 2; whnf
  unfold ptr
  go_upto_region 17 with fail
  go_quiet (fail)
  have e1 : (w.drewN nq).cell? ⟨jb, 0, none⟩ = some (.int .i64 j) := cj
  have e2 : (w.drewN nq).cell? ⟨lx, 0, none⟩ = some (.pointer (some ⟨q, 0, none⟩)) := cx
  have e3 : (w.drewN nq).cell? ⟨q, 4, none⟩ = some (.string v) := q4
  have e4 : (w.drewN nq).frozen? ⟨jb, 0, none⟩ = false := zj
  have e5 : jb < (w.drewN nq).heap.size := sj
  have HD := Lib.hid (below_drewN (Below.refl w.heap.size w) nq)
  generalize w.drewN nq = w1 at *
  clear cj cx q4 zj sj
  go_upto_region 20 with fail
  go_quiet (fail)
  have g1 : (w1.drewN nq).cell? ⟨jb, 0, none⟩ = some (.int .i64 j) := e1
  have g5 : jb < (w1.drewN nq).heap.size := e5
  have HD2 := Lib.hid (HD.out.trans (below_drewN (Below.refl w.heap.size w1) nq))
  generalize w1.drewN nq = w2 at *
  clear e1 e2 e3 e4 e5
  go_wp2_with fail
  have hn := M.out.next HD2.out (j + 1)
  rw [Int.natCast_add, Int.natCast_one] at hn
  exact ⟨_, ⟨rfl, rfl, rfl, rfl, rfl, rfl, rfl, rfl, rfl, rfl, rfl, rfl, rfl, rfl, rfl, rfl⟩, hn⟩
end Go.Proofs.YtmcoifhiiagfpaaDoor

namespace Go.Proofs.YtmcoifhiiagfpaaDoor
open Go.RowKit
set_option linter.unusedSectionVars false
variable [Pw]

set_option maxRecDepth 1000000 in
set_option maxHeartbeats 2000000 in
theorem byte_escape {N p : Nat} {c50 c51 c52 : Value} {lx la jb : Nat} {a : Act} (fr : Fr N p c50 c51 c52 lx la jb a) {v : ByteArray} {q j last : Nat} {st : St} {xs : List Value} {ys : List Part} {w0 w : World} (m : In N v q lx la jb j last st xs ys w0 w) (hj : j < v.size) (hv : v.size ≤ 100000000)
    (hc : bt v j = 92) (Q0 : Exit → Act → World → Prop) :
    Code.wp Tryd.prog (bodyOf 1) (Exit.then (fun a' w' => ∃ jb', Fr N p c50 c51 c52 lx la jb' a' ∧ In N v q lx la jb' (j + 2) last st xs ys w0 w') Q0) a w := by
  obtain ⟨f, hf, ht⟩ := frame_lit a.tmps fr.size
  obtain ⟨t, d⟩ := a
  have hd : d = [] := fr.defers
  subst hd
  have h0 := (hf 0).trans fr.s0
  have h2 := (hf 2).trans fr.s2
  have h3 := (hf 3).trans fr.s3
  have h4 := (hf 4).trans fr.s4
  have h5 := (hf 5).trans fr.s5
  have h6 := (hf 6).trans fr.s6
  have h7 := (hf 7).trans fr.s7
  have h8 := (hf 8).trans fr.s8
  have h11 := (hf 11).trans fr.s11
  have h13 := (hf 13).trans fr.s13
  have h14 := (hf 14).trans fr.s14
  have h50 := (hf 50).trans fr.s50
  have h51 := (hf 51).trans fr.s51
  have h52 := (hf 52).trans fr.s52
  simp only [h0, h2, h3, h4, h5, h6, h7, h8, h11, h13, h14, h50, h51, h52] at ht
  have ht2 : t = _ := ht
  subst ht2
  clear hf ht fr h0 h2 h3 h4 h5 h6 h7 h8 h11 h13 h14 h50 h51 h52
  obtain ⟨x1, x2, x3, x4, hqb⟩ := m.lit
  have bx := m.bx
  have bl := m.bl
  have bj := m.bj
  have cj : w.cell? ⟨jb, 0, none⟩ = some (.int .i64 j) := by rw [Lib.cell_of_heap bj]; rfl
  have cx : w.cell? ⟨lx, 0, none⟩ = some (.pointer (some ⟨q, 0, none⟩)) := by rw [Lib.cell_of_heap bx]; rfl
  have q4 : w.cell? ⟨q, 4, none⟩ = some (.string v) := by rw [Lib.cell_of_heap hqb]; rfl
  have zj : w.frozen? ⟨jb, 0, none⟩ = false := Lib.frozen_of_heap bj 0
  have sj : jb < w.heap.size := (Array.getElem?_eq_some_iff.1 bj).1
  have hz : (j : Int) < (v.size : Int) ∧ (v.size : Int) ≤ 100000000 := by omega
  have hg : (v[j]'hj).toNat = 92 := by rw [← bt_get v j hj]; exact hc
  have M := Lib.hid m
  clear hqb bx bl bj m hc
  conv => arg 2; whnf
  unfold ptr
  go_upto_region 17 with fail
  go_quiet (fail)
  have e1 : (w.drewN nq).cell? ⟨jb, 0, none⟩ = some (.int .i64 j) := cj
  have e2 : (w.drewN nq).cell? ⟨lx, 0, none⟩ = some (.pointer (some ⟨q, 0, none⟩)) := cx
  have e3 : (w.drewN nq).cell? ⟨q, 4, none⟩ = some (.string v) := q4
  have e4 : (w.drewN nq).frozen? ⟨jb, 0, none⟩ = false := zj
  have e5 : jb < (w.drewN nq).heap.size := sj
  have HD := Lib.hid (below_drewN (Below.refl w.heap.size w) nq)
  generalize w.drewN nq = w1 at *
  clear cj cx q4 zj sj
  go_upto_region 20 with fail
  go_quiet (fail)
  have g1 : (w1.drewN nq).cell? ⟨jb, 0, none⟩ = some (.int .i64 j) := e1
  have g4 : (w1.drewN nq).frozen? ⟨jb, 0, none⟩ = false := e4
  have g5 : jb < (w1.drewN nq).heap.size := e5
  have HD2 := Lib.hid (HD.out.trans (below_drewN (Below.refl w.heap.size w1) nq))
  generalize w1.drewN nq = w2 at *
  clear e1 e2 e3 e4 e5
  have hm := (M.out.grow HD2.out).setj (j + 1)
  rw [Int.natCast_add, Int.natCast_one] at hm
  have HM := Lib.hid hm
  go_upto_region 96 with fail
  have k1 : (w2.setCell ⟨jb, 0, none⟩ (.int .i64 ((j : Int) + 1))).cell? ⟨jb, 0, none⟩ = some (.int .i64 ((j : Int) + 1)) := by have := HM.out.bj; rw [Lib.cell_of_heap this]; rfl
  generalize w2.setCell ⟨jb, 0, none⟩ (.int .i64 ((j : Int) + 1)) = w3 at *
  clear g1 g4 g5 hm
  go_wp2_with fail
  have hn := HM.out.next (Below.refl _ _) (j + 2)
  rw [show (((j + 2 : Nat)) : Int) = (j : Int) + 2 by omega] at hn
  exact ⟨_, ⟨rfl, rfl, rfl, rfl, rfl, rfl, rfl, rfl, rfl, rfl, rfl, rfl, rfl, rfl, rfl, rfl⟩, hn⟩
end Go.Proofs.YtmcoifhiiagfpaaDoor

namespace Go.Proofs.YtmcoifhiiagfpaaDoor
open Go.RowKit
set_option linter.unusedSectionVars false
variable [Pw]

/-- The memory behind the first two statements. -/
def openW0 (N : Nat) (w : World) : World :=
  ((((w.setCell ⟨N + 2, 0, none⟩ (ptr w.heap.size)).setCell ⟨N + 3, 0, none⟩ (ptr (w.heap.size + 2))).alloc (.cells #[.slice none 0 0] 40)).alloc (.cells #[ptr w.heap.size] 38)).alloc (.cells #[.bool false, .slice (some ⟨w.heap.size + 1, 0, none⟩) 1 1] 80)
/-- The memory ahead of the append to the list of open braces. -/
def openW (N : Nat) (w : World) : World := (openW0 N w).alloc (.cells #[ptr (w.heap.size + 2)] 76)

theorem openW0_size (N : Nat) (w : World) : (openW0 N w).heap.size = w.heap.size + 3 := by
  unfold openW0
  simp only [World.size_alloc, World.size_setCell]
theorem openW_size (N : Nat) (w : World) : (openW N w).heap.size = w.heap.size + 4 := by
  unfold openW
  rw [World.size_alloc, openW0_size]

theorem openW0_at {N : Nat} {w : World} (hN : N + 5 < w.heap.size) {c2 c3 : Value} (h2 : w.heap[N + 2]? = some (.cells #[c2] 38 (0, 0))) (h3 : w.heap[N + 3]? = some (.cells #[c3] 76 (0, 0))) :
    (∀ k, k < w.heap.size → k ≠ N + 2 → k ≠ N + 3 → (openW0 N w).heap[k]? = w.heap[k]?) ∧ (openW0 N w).heap[N + 2]? = some (.cells #[ptr w.heap.size] 38 (0, 0)) ∧ (openW0 N w).heap[N + 3]? = some (.cells #[ptr (w.heap.size + 2)] 76 (0, 0)) ∧ (openW0 N w).heap[w.heap.size]? = some (.cells #[.slice none 0 0] 40 (0, 0)) ∧ (openW0 N w).heap[w.heap.size + 1]? = some (.cells #[ptr w.heap.size] 38 (0, 0)) ∧ (openW0 N w).heap[w.heap.size + 2]? = some (.cells #[.bool false, .slice (some ⟨w.heap.size + 1, 0, none⟩) 1 1] 80 (0, 0)) ∧ Below N w (openW0 N w) := by
  have al : ∀ (W : World) (o : Obj) (k : Nat), k < W.heap.size → (W.alloc o).heap[k]? = W.heap[k]? := fun W o k hk => Below.heap_alloc W o k hk
  have nw_ : ∀ (W : World) (o : Obj) (k : Nat), W.heap.size = k → (W.alloc o).heap[k]? = some o := fun W o k e => by subst e; exact heap_alloc_new W o
  have st : ∀ (W : World) (b : Nat) (v : Value) (k : Nat), k ≠ b → (W.setCell ⟨b, 0, none⟩ v).heap[k]? = W.heap[k]? := fun W b v k hk => Below.heap_setCell _ _ _ _ hk
  unfold openW0
  have a3 : ∀ k, k < w.heap.size → (((((w.setCell ⟨N + 2, 0, none⟩ (ptr w.heap.size)).setCell ⟨N + 3, 0, none⟩ (ptr (w.heap.size + 2))).alloc (.cells #[.slice none 0 0] 40)).alloc (.cells #[ptr w.heap.size] 38)).alloc (.cells #[.bool false, .slice (some ⟨w.heap.size + 1, 0, none⟩) 1 1] 80)).heap[k]? = ((w.setCell ⟨N + 2, 0, none⟩ (ptr w.heap.size)).setCell ⟨N + 3, 0, none⟩ (ptr (w.heap.size + 2))).heap[k]? := fun k hk => by
    rw [al _ _ _ (by simp only [World.size_alloc, World.size_setCell]; omega), al _ _ _ (by simp only [World.size_alloc, World.size_setCell]; omega), al _ _ _ (by simp only [World.size_setCell]; omega)]
  refine ⟨fun k hk n2 n3 => ?_, ?_, ?_, ?_, ?_, ?_, ?_⟩
  · rw [a3 k hk, st _ _ _ _ n3, st _ _ _ _ n2]
  · rw [a3 _ (by omega), st _ _ _ _ (by omega)]
    exact setCell_box h2
  · rw [a3 _ (by omega)]
    refine setCell_box (a := c3) ?_
    rw [st _ _ _ _ (by omega)]
    exact h3
  · rw [al _ _ _ (by simp only [World.size_alloc, World.size_setCell]; omega), al _ _ _ (by simp only [World.size_alloc, World.size_setCell]; omega)]
    exact nw_ _ _ _ (by simp only [World.size_setCell])
  · rw [al _ _ _ (by simp only [World.size_alloc, World.size_setCell]; omega)]
    exact nw_ _ _ _ (by simp only [World.size_alloc, World.size_setCell])
  · exact nw_ _ _ _ (by simp only [World.size_alloc, World.size_setCell])
  · refine (((((Below.refl N w).setCell (p := ⟨N + 2, 0, none⟩) (by show N ≤ N + 2; omega) _).setCell (p := ⟨N + 3, 0, none⟩) (by show N ≤ N + 3; omega) _).alloc ?_ _).alloc ?_ _).alloc ?_ _
    all_goals
      simp only [World.size_alloc, World.size_setCell]
      omega
theorem openW_at {N : Nat} {w : World} (hN : N + 5 < w.heap.size) {c2 c3 : Value} (h2 : w.heap[N + 2]? = some (.cells #[c2] 38 (0, 0))) (h3 : w.heap[N + 3]? = some (.cells #[c3] 76 (0, 0))) :
    (∀ k, k < w.heap.size → k ≠ N + 2 → k ≠ N + 3 → (openW N w).heap[k]? = w.heap[k]?) ∧ (openW N w).heap[N + 2]? = some (.cells #[ptr w.heap.size] 38 (0, 0)) ∧ (openW N w).heap[N + 3]? = some (.cells #[ptr (w.heap.size + 2)] 76 (0, 0)) ∧ (openW N w).heap[w.heap.size]? = some (.cells #[.slice none 0 0] 40 (0, 0)) ∧ (openW N w).heap[w.heap.size + 1]? = some (.cells #[ptr w.heap.size] 38 (0, 0)) ∧ (openW N w).heap[w.heap.size + 2]? = some (.cells #[.bool false, .slice (some ⟨w.heap.size + 1, 0, none⟩) 1 1] 80 (0, 0)) ∧ Below N w (openW N w) := by
  obtain ⟨a0, a2, a3, ap, ae, ab, abel⟩ := openW0_at hN h2 h3
  have hz := openW0_size N w
  have up : ∀ {k : Nat} {o : Option Obj}, k < w.heap.size + 3 → (openW0 N w).heap[k]? = o → (openW N w).heap[k]? = o := fun {k o} hk e => (Below.heap_alloc _ _ _ (by omega)).trans e
  exact ⟨fun k hk n2 n3 => up (by omega) (a0 k hk n2 n3), up (by omega) a2, up (by omega) a3, up (by omega) ap, up (by omega) ae, up (by omega) ab, abel.alloc (by omega) _⟩

/-- The state behind the append and the store. -/
theorem open_end {N : Nat} {hs : HS} {w w7 : World} {v' : Value} {xs : List Value} {ys : List Part} (h : SB N hs w) (hx : PartsAt w (hs.live N) xs ys) (hown : w7.ownsRow (N + 6) 76 1 v' (hs.frames.length + 1) ((hs.frames.reverse.map fun f => ptr f.blk) ++ [ptr (w.heap.size + 2)])) (hg : (openW N w).grownBy w7 hs.ov.ownBlock) (hat : v'.ownBlock = hs.ov.ownBlock ∨ v'.ownBlock = some (openW N w).heap.size) :
    Sb N { hs.st with stack := ⟨false, [], []⟩ :: hs.st.stack } xs ys (w7.setCell ⟨N + 4, 0, none⟩ v') ∧ Still N w (w7.setCell ⟨N + 4, 0, none⟩ v') := by
  have hN := h.lt
  obtain ⟨k0, k2, k3, kp, ke, kb, kbel⟩ := openW_at hN h.b2 h.b3
  have hsz := openW_size N w
  have hob : ∀ g, hs.ov.ownBlock = some g → N + 6 ≤ g ∧ g < w.heap.size := fun g e => by
    obtain ⟨h1, c, hc⟩ := own_block h.opens e
    exact ⟨h1, (Array.getElem?_eq_some_iff.1 hc).1⟩
  have up : ∀ {k : Nat} {o : Obj}, (openW N w).heap[k]? = some o → k ≠ N + 4 → hs.ov.ownBlock ≠ some k → (w7.setCell ⟨N + 4, 0, none⟩ v').heap[k]? = some o := fun {k o} hk n4 no => by
    rw [Below.heap_setCell _ _ _ _ n4, hg.block k (Array.getElem?_eq_some_iff.1 hk).1 (fun e => no e.symm)]
    exact hk
  have far : ∀ k, w.heap.size ≤ k → hs.ov.ownBlock ≠ some k := fun k hk e => by have := (hob k e).2; omega
  have near : ∀ k, k < N + 6 → hs.ov.ownBlock ≠ some k := fun k hk e => by have := (hob k e).1; omega
  have K0 : ∀ k, k < w.heap.size → k ≠ N + 2 → k ≠ N + 3 → k ≠ N + 4 → hs.ov.ownBlock ≠ some k → (w7.setCell ⟨N + 4, 0, none⟩ v').heap[k]? = w.heap[k]? := fun k hk n2 n3 n4 no => by
    rw [Below.heap_setCell _ _ _ _ n4, hg.block k (by omega) (fun e => no e.symm)]
    exact k0 k hk n2 n3
  have h4 : w7.heap[N + 4]? = some (.cells #[hs.ov] 77 (0, 0)) := by
    rw [hg.block (N + 4) (by omega) (fun e => near (N + 4) (by omega) e.symm), k0 (N + 4) (by omega) (by omega) (by omega)]
    exact h.b4
  have ho2 : (w7.setCell ⟨N + 4, 0, none⟩ v').ownsRow (N + 6) 76 1 v' (hs.frames.length + 1) ((hs.frames.reverse.map fun f => ptr f.blk) ++ [ptr (w.heap.size + 2)]) := own_kept hown (fun g _ h6 _ => Below.heap_setCell _ _ _ _ (by show g ≠ N + 4; omega))
  obtain ⟨p1, p2⟩ := h.opens_ (p := w.heap.size) (e := w.heap.size + 1) (b := w.heap.size + 2) (Nat.le_refl _) (by omega) (by omega) K0 (up k2 (by omega) (near _ (by omega))) (up k3 (by omega) (near _ (by omega))) (setCell_box h4) (up kp (by omega) (far _ (by omega))) (up ke (by omega) (far _ (by omega))) (up kb (by omega) (far _ (by omega))) ho2 (by
    rcases hat with e | e
    · exact Or.inl e
    · exact Or.inr ⟨_, e, by omega⟩)
  refine ⟨⟨_, p1, rfl, hx.safe p2⟩, ?_, ?_⟩
  · exact (kbel.grown hg (by omega) (fun k hk => by have := (hob k hk).1; omega)).setCell (p := ⟨N + 4, 0, none⟩) (by show N ≤ N + 4; omega) _
  · intro k c T fz hk hT
    have hlt : k < w.heap.size := (Array.getElem?_eq_some_iff.1 hk).1
    have no : ∀ {c' : Array Value} {T' : TypeId}, w.heap[k]? = some (.cells c' T' (0, 0)) → T' ≠ 3 → T' ≠ 67 → T' ≠ 69 → False := fun {c' T'} h a1 a2 a3 => by
      rw [hk] at h
      simp only [Option.some.injEq, Obj.cells.injEq] at h
      rcases hT with e | e | e
      · exact a1 (h.2.1.symm.trans e)
      · exact a2 (h.2.1.symm.trans e)
      · exact a3 (h.2.1.symm.trans e)
    rw [K0 k hlt (fun e => by subst e; exact no h.b2 (by decide) (by decide) (by decide)) (fun e => by subst e; exact no h.b3 (by decide) (by decide) (by decide)) (fun e => by subst e; exact no h.b4 (by decide) (by decide) (by decide)) (fun e => by
      obtain ⟨_, c', hc⟩ := own_block h.opens e
      exact no hc (by decide) (by decide) (by decide))]
    exact hk

/-- A call that moved the state alone. -/
theorem In.state {N : Nat} {v : ByteArray} {q lx la jb j last : Nat} {st st' : St} {xs xs' : List Value} {ys ys' : List Part} {w0 w w2 : World} (m : In N v q lx la jb j last st xs ys w0 w) (h : Sb N st' xs' ys' w2) (hs : Still N w w2) : In N v q lx la jb j last st' xs' ys' w0 w2 where
  sb := h
  lit := hs.lit m.lit
  bx := hs.kin _ _ _ _ m.bx (Or.inr (Or.inl rfl))
  bl := hs.kin _ _ _ _ m.bl (Or.inl rfl)
  bj := hs.kin _ _ _ _ m.bj (Or.inl rfl)
  still := m.still.trans hs
  n0 := m.n0
  nl := m.nl
  nj := m.nj
  ne := m.ne
theorem In.setl {N : Nat} {v : ByteArray} {q lx la jb j last : Nat} {st : St} {xs : List Value} {ys : List Part} {w0 w : World} (m : In N v q lx la jb j last st xs ys w0 w) (l' : Nat) : In N v q lx la jb j l' st xs ys w0 (w.setCell ⟨la, 0, none⟩ (.int .i64 l')) := by
  obtain ⟨a, b, c, d, hq⟩ := m.lit
  have hb := boxy_set m.bl (b := .int .i64 l')
  have nx : lx ≠ la := fun e => by
    have h1 := m.bx
    rw [e, m.bl] at h1
    simp only [Option.some.injEq, Obj.cells.injEq] at h1
    exact absurd h1.2.1 (by decide)
  exact { sb := m.sb.boxy hb, lit := ⟨a, b, c, d, hb _ _ _ _ hq (by decide) (by decide)⟩, bx := by rw [Below.heap_setCell _ _ _ _ nx]; exact m.bx, bj := by rw [Below.heap_setCell _ _ _ _ m.ne.symm]; exact m.bj
          bl := by rw [heap_setCell_same _ _ _ _ _ _ m.bl]; rfl
          still := still_set m.still m.nl m.n0 m.bl, n0 := m.n0, nl := m.nl, nj := m.nj, ne := m.ne }
end Go.Proofs.YtmcoifhiiagfpaaDoor

namespace Go.Proofs.YtmcoifhiiagfpaaDoor
open Go.RowKit
set_option linter.unusedSectionVars false
variable [Pw]

theorem Tryd.info_pbrace : (Tryd.prog.info? 76).map (fun i => (i.zero, i.size, i.bytes)) = some (some (.pointer none), 1, 8) := by kernel_rfl

set_option maxRecDepth 1000000 in
set_option maxHeartbeats 2000000 in
theorem byte_open {N p : Nat} {c50 c51 c52 : Value} {lx la jb : Nat} {a : Act} (fr : Fr N p c50 c51 c52 lx la jb a) {v : ByteArray} {q j last : Nat} {st : St} {xs : List Value} {ys : List Part} {w0 w : World} (m : In N v q lx la jb j last st xs ys w0 w) (hj : j < v.size) (hv : v.size ≤ 100000000)
    (hl : last ≤ j) (hcur : st.cur.length ≤ 100000000) (hstk : st.stack.length ≤ 100000000) (hc : bt v j = 123) (Q0 : Exit → Act → World → Prop) :
    Code.wp Tryd.prog (bodyOf 1) (Exit.then (fun a' w' => ∃ jb', Fr N p c50 c51 c52 lx la jb' a' ∧ In N v q lx la jb' (j + 1) (j + 1) { (st.flush v last j) with stack := ⟨false, [], []⟩ :: (st.flush v last j).stack } xs ys w0 w') Q0) a w := by
  obtain ⟨f, hf, ht⟩ := frame_lit a.tmps fr.size
  obtain ⟨t, d⟩ := a
  have hd : d = [] := fr.defers
  subst hd
  have h0 := (hf 0).trans fr.s0
  have h2 := (hf 2).trans fr.s2
  have h3 := (hf 3).trans fr.s3
  have h4 := (hf 4).trans fr.s4
  have h5 := (hf 5).trans fr.s5
  have h6 := (hf 6).trans fr.s6
  have h7 := (hf 7).trans fr.s7
  have h8 := (hf 8).trans fr.s8
  have h11 := (hf 11).trans fr.s11
  have h13 := (hf 13).trans fr.s13
  have h14 := (hf 14).trans fr.s14
  have h50 := (hf 50).trans fr.s50
  have h51 := (hf 51).trans fr.s51
  have h52 := (hf 52).trans fr.s52
  simp only [h0, h2, h3, h4, h5, h6, h7, h8, h11, h13, h14, h50, h51, h52] at ht
  have ht2 : t = _ := ht
  subst ht2
  clear hf ht fr h0 h2 h3 h4 h5 h6 h7 h8 h11 h13 h14 h50 h51 h52
  obtain ⟨x1, x2, x3, x4, hqb⟩ := m.lit
  have bx := m.bx
  have bl := m.bl
  have bj := m.bj
  have cj : w.cell? ⟨jb, 0, none⟩ = some (.int .i64 j) := by rw [Lib.cell_of_heap bj]; rfl
  have cx : w.cell? ⟨lx, 0, none⟩ = some (.pointer (some ⟨q, 0, none⟩)) := by rw [Lib.cell_of_heap bx]; rfl
  have q4 : w.cell? ⟨q, 4, none⟩ = some (.string v) := by rw [Lib.cell_of_heap hqb]; rfl
  have zj : w.frozen? ⟨jb, 0, none⟩ = false := Lib.frozen_of_heap bj 0
  have sj : jb < w.heap.size := (Array.getElem?_eq_some_iff.1 bj).1
  have hz : (j : Int) < (v.size : Int) ∧ (v.size : Int) ≤ 100000000 := by omega
  have hg : (v[j]'hj).toNat = 123 := by rw [← bt_get v j hj]; exact hc
  have M := Lib.hid m
  clear hqb bx bl bj m hc
  conv => arg 2; whnf
  unfold ptr
  go_upto_region 17 with fail
  go_quiet (fail)
  have e1 : (w.drewN nq).cell? ⟨jb, 0, none⟩ = some (.int .i64 j) := cj
  have e2 : (w.drewN nq).cell? ⟨lx, 0, none⟩ = some (.pointer (some ⟨q, 0, none⟩)) := cx
  have e3 : (w.drewN nq).cell? ⟨q, 4, none⟩ = some (.string v) := q4
  have e4 : (w.drewN nq).frozen? ⟨jb, 0, none⟩ = false := zj
  have e5 : jb < (w.drewN nq).heap.size := sj
  have HD := Lib.hid (below_drewN (Below.refl w.heap.size w) nq)
  generalize w.drewN nq = w1 at *
  clear cj cx q4 zj sj
  go_upto_region 20 with fail
  go_quiet (fail)
  have HD2 := Lib.hid (HD.out.trans (below_drewN (Below.refl w.heap.size w1) nq))
  generalize w1.drewN nq = w2 at *
  clear e1 e2 e3 e4 e5
  have HM2 := Lib.hid (M.out.grow HD2.out)
  have HCALL := Lib.hid (addIdx_any N la jb lx q st xs ys w2 v last j HM2.out.sb HM2.out.bl HM2.out.bj HM2.out.bx HM2.out.lit hl (by omega) hv hcur)
  have HSTK := Lib.hid (show (st.flush v last j).stack.length ≤ 100000000 by rw [flush_stack]; exact hstk)
  clear hl hcur hstk
  go_upto_region 25 with (go_at_call 26; refine (HCALL.out).mono ?_; rintro e w6 ⟨rfl, h6, h6s⟩)
  have HM6 := Lib.hid (HM2.out.state h6 h6s)
  obtain ⟨hs, hsb, hst, hxy⟩ := h6
  have hfl : hs.frames.length = (st.flush v last j).stack.length := by rw [← hst]; simp [HS.st]
  have HFL := Lib.hid hfl
  have HSB := Lib.hid hsb
  have HXY := Lib.hid hxy
  have HST := Lib.hid hst
  have hb2 := hsb.b2
  have hb3 := hsb.b3
  have hb4 := hsb.b4
  have n2 : w6.cell? ⟨N + 2, 0, none⟩ = some (ptr hs.acc.blk) := by rw [Lib.cell_of_heap hb2]; rfl
  have n3 : w6.cell? ⟨N + 3, 0, none⟩ = some hs.curV := by rw [Lib.cell_of_heap hb3]; rfl
  have n4 : w6.cell? ⟨N + 4, 0, none⟩ = some hs.ov := by rw [Lib.cell_of_heap hb4]; rfl
  have f2 : w6.frozen? ⟨N + 2, 0, none⟩ = false := Lib.frozen_of_heap hb2 0
  have f3 : w6.frozen? ⟨N + 3, 0, none⟩ = false := Lib.frozen_of_heap hb3 0
  have f4 : w6.frozen? ⟨N + 4, 0, none⟩ = false := Lib.frozen_of_heap hb4 0
  have hN6 := hsb.lt
  have m2 : N + 2 < w6.heap.size := by omega
  have m3 : N + 3 < w6.heap.size := by omega
  have m4 : N + 4 < w6.heap.size := by omega
  have m21 : N + 2 < w6.heap.size + 1 := by omega
  have m22 : N + 2 < w6.heap.size + 2 := by omega
  have m23 : N + 2 < w6.heap.size + 3 := by omega
  have m24 : N + 2 < w6.heap.size + 4 := by omega
  have m31 : N + 3 < w6.heap.size + 1 := by omega
  have m32 : N + 3 < w6.heap.size + 2 := by omega
  have m33 : N + 3 < w6.heap.size + 3 := by omega
  have m34 : N + 3 < w6.heap.size + 4 := by omega
  have m41 : N + 4 < w6.heap.size + 1 := by omega
  have m42 : N + 4 < w6.heap.size + 2 := by omega
  have m43 : N + 4 < w6.heap.size + 3 := by omega
  have m44 : N + 4 < w6.heap.size + 4 := by omega
  clear hb2 hb3 hb4 hst hxy hsb h6s hfl HCALL
  go_upto_region 27 with fail
  simp only [Nat.add_assoc, Nat.reduceAdd]
  change Code.wp _ _ _ _ (openW0 N w6)
  obtain ⟨a0, a2, a3, ap, ae, ab, abel⟩ := openW0_at HSB.out.lt HSB.out.b2 HSB.out.b3
  have hz0 := openW0_size N w6
  have b4 : (openW0 N w6).heap[N + 4]? = some (.cells #[hs.ov] 77 (0, 0)) := (a0 (N + 4) (by omega) (by omega) (by omega)).trans HSB.out.b4
  have p3 : (openW0 N w6).cell? ⟨N + 3, 0, none⟩ = some (.pointer (some ⟨w6.heap.size + 2, 0, none⟩)) := by rw [Lib.cell_of_heap a3]; rfl
  have p4 : (openW0 N w6).cell? ⟨N + 4, 0, none⟩ = some hs.ov := by rw [Lib.cell_of_heap b4]; rfl
  have q4' : N + 4 < (openW0 N w6).heap.size := by omega
  have HO := Lib.hid (show (openW0 N w6).ownsRow (N + 6) 76 1 hs.ov hs.frames.length (hs.frames.reverse.map fun f => ptr f.blk) from own_kept HSB.out.opens (fun g hg h6 ⟨c, hc⟩ => a0 g (Array.getElem?_eq_some_iff.1 hc).1 (by omega) (by omega)))
  have HB4 := Lib.hid b4
  have HZ0 := Lib.hid hz0
  have HOV := Lib.hid (fun g (e : hs.ov.ownBlock = some g) => (own_block HSB.out.opens e).1)
  obtain ⟨ib, hib, hb0, hb1, hb2⟩ := info_parts Tryd.info_pbrace
  clear n2 n3 n4 f2 f3 f4 m2 m3 m4 a0 a2 a3 ap ae ab abel hz0 b4
  have HLEN := Lib.hid (show hs.frames.length ≤ 100000000 by rw [HFL.out]; exact HSTK.out)
  have HNZ := Lib.hid hN6
  clear hN6 m21 m22 m23 m24 m31 m32 m33 m34 m41 m42 m43 m44
  obtain ⟨W, hW⟩ : ∃ W, openW0 N w6 = W := ⟨_, rfl⟩
  have HW := Lib.hid hW
  rw [hW] at p3 p4 q4' HO HB4 HZ0 ⊢
  clear hW
  go_upto_region 95 with (at_builtin; refine wpList_append_lies _ rfl _ _ 77 rfl (N + 6) 76 ib (.pointer none) 1 8 Tryd.underlying77 hib hb0 hb1 hb2 rfl (by decide) _ _ _ rfl (HO.out.alloc _) ⟨W.heap.size, 0, none⟩ 1 1 [.pointer (some ⟨w6.heap.size + 2, 0, none⟩)] rfl rfl (cell_one_new _ _ _) (by intro u hu; simp at hu; subst hu; rfl) (by decide) (by have := HLEN.out; unfold maxLen; omega) (by have := HLEN.out; omega) (by rw [World.size_alloc]; have := HZ0.out; have := HNZ.out; omega) _ rfl ?_; intro g7 cap7 w7 hown7 hgrow7 hat7 _; have hb7 : w7.heap[N + 4]? = some (.cells #[hs.ov] 77 (0, 0)) := (hgrow7.block (N + 4) (by rw [World.size_alloc]; omega) (fun e => by have := HOV.out _ e.symm; omega)).trans ((Below.heap_alloc _ _ _ q4').trans HB4.out); have c7 : w7.cell? ⟨N + 4, 0, none⟩ = some hs.ov := (Lib.cell_of_heap hb7 0).trans rfl; have z7 : w7.frozen? ⟨N + 4, 0, none⟩ = false := Lib.frozen_of_heap hb7 0; have H7 := Lib.hid (And.intro hown7 (And.intro hgrow7 hat7)); clear hown7 hgrow7 hat7 hb7)
  obtain ⟨e7, s7⟩ := open_end (v' := .slice (some ⟨g7, 0, none⟩) (hs.frames.length + 1) cap7) HSB.out HXY.out H7.out.1 (by unfold openW; rw [HW.out]; exact H7.out.2.1) (by
    unfold openW
    rw [HW.out]
    rcases H7.out.2.2 with e | e
    · exact Or.inl e.symm
    · exact Or.inr (congrArg some e))
  rw [HST.out] at e7
  have hm7 := HM6.out.state e7 s7
  have HM7 := Lib.hid hm7
  clear c7 z7 H7 e7 s7 hm7
  generalize w7.setCell ⟨N + 4, 0, none⟩ (.slice (some ⟨g7, 0, none⟩) (hs.frames.length + 1) cap7) = w8 at *
  have hbj := HM7.out.bj
  have hbl := HM7.out.bl
  have y1 : w8.cell? ⟨jb, 0, none⟩ = some (.int .i64 j) := by rw [Lib.cell_of_heap hbj]; rfl
  have y2 : w8.cell? ⟨la, 0, none⟩ = some (.int .i64 last) := by rw [Lib.cell_of_heap hbl]; rfl
  have y3 : w8.frozen? ⟨la, 0, none⟩ = false := Lib.frozen_of_heap hbl 0
  have y4 : jb < w8.heap.size := (Array.getElem?_eq_some_iff.1 hbj).1
  have y5 : la < w8.heap.size := (Array.getElem?_eq_some_iff.1 hbl).1
  clear hbj hbl p3 p4 q4'
  have hms := HM7.out.setl (j + 1)
  rw [Int.natCast_add, Int.natCast_one] at hms
  have HMS := Lib.hid hms
  clear hms
  go_upto_region 96 with fail
  have k1 : (w8.setCell ⟨la, 0, none⟩ (.int .i64 ((j : Int) + 1))).cell? ⟨jb, 0, none⟩ = some (.int .i64 j) := by have := HMS.out.bj; rw [Lib.cell_of_heap this]; rfl
  generalize w8.setCell ⟨la, 0, none⟩ (.int .i64 ((j : Int) + 1)) = w9 at *
  clear y1 y2 y3 y4 y5
  go_wp2_with fail
  have hn := HMS.out.next (Below.refl _ _) (j + 1)
  rw [Int.natCast_add, Int.natCast_one] at hn
  exact ⟨_, ⟨rfl, rfl, rfl, rfl, rfl, rfl, rfl, rfl, rfl, rfl, rfl, rfl, rfl, rfl, rfl, rfl⟩, hn⟩
end Go.Proofs.YtmcoifhiiagfpaaDoor

namespace Go.Proofs.YtmcoifhiiagfpaaDoor
open Go.RowKit
set_option linter.unusedSectionVars false
variable [Pw]

set_option maxRecDepth 1000000 in
set_option maxHeartbeats 2000000 in
theorem byte_skip {N p : Nat} {c50 c51 c52 : Value} {lx la jb : Nat} {a : Act} (fr : Fr N p c50 c51 c52 lx la jb a) {v : ByteArray} {q j last : Nat} {st : St} {xs : List Value} {ys : List Part} {w0 w : World} (m : In N v q lx la jb j last st xs ys w0 w) (hj : j < v.size) (hv : v.size ≤ 100000000)
    (hc : bt v j = 44 ∨ bt v j = 46 ∨ bt v j = 125) (hst : st.stack = []) (Q0 : Exit → Act → World → Prop) :
    Code.wp Tryd.prog (bodyOf 1) (Exit.then (fun a' w' => ∃ jb', Fr N p c50 c51 c52 lx la jb' a' ∧ In N v q lx la jb' (j + 1) last st xs ys w0 w') Q0) a w := by
  obtain ⟨f, hf, ht⟩ := frame_lit a.tmps fr.size
  obtain ⟨t, d⟩ := a
  have hd : d = [] := fr.defers
  subst hd
  have h0 := (hf 0).trans fr.s0
  have h2 := (hf 2).trans fr.s2
  have h3 := (hf 3).trans fr.s3
  have h4 := (hf 4).trans fr.s4
  have h5 := (hf 5).trans fr.s5
  have h6 := (hf 6).trans fr.s6
  have h7 := (hf 7).trans fr.s7
  have h8 := (hf 8).trans fr.s8
  have h11 := (hf 11).trans fr.s11
  have h13 := (hf 13).trans fr.s13
  have h14 := (hf 14).trans fr.s14
  have h50 := (hf 50).trans fr.s50
  have h51 := (hf 51).trans fr.s51
  have h52 := (hf 52).trans fr.s52
  simp only [h0, h2, h3, h4, h5, h6, h7, h8, h11, h13, h14, h50, h51, h52] at ht
  have ht2 : t = _ := ht
  subst ht2
  clear hf ht fr h0 h2 h3 h4 h5 h6 h7 h8 h11 h13 h14 h50 h51 h52
  obtain ⟨x1, x2, x3, x4, hqb⟩ := m.lit
  have bx := m.bx
  have bl := m.bl
  have bj := m.bj
  have cj : w.cell? ⟨jb, 0, none⟩ = some (.int .i64 j) := by rw [Lib.cell_of_heap bj]; rfl
  have cx : w.cell? ⟨lx, 0, none⟩ = some (.pointer (some ⟨q, 0, none⟩)) := by rw [Lib.cell_of_heap bx]; rfl
  have q4 : w.cell? ⟨q, 4, none⟩ = some (.string v) := by rw [Lib.cell_of_heap hqb]; rfl
  have zj : w.frozen? ⟨jb, 0, none⟩ = false := Lib.frozen_of_heap bj 0
  have sj : jb < w.heap.size := (Array.getElem?_eq_some_iff.1 bj).1
  have hz : (j : Int) < (v.size : Int) ∧ (v.size : Int) ≤ 100000000 := by omega
  have cn : w.cell? ⟨N + 3, 0, none⟩ = some (.pointer none) := by
    obtain ⟨hs, h1, h2, _⟩ := m.sb
    have hf : hs.frames = [] := by
      have : hs.st.stack = [] := by rw [h2]; exact hst
      simpa [HS.st] using this
    rw [Lib.cell_of_heap h1.b3]
    unfold HS.curV
    rw [hf]
    rfl
  have hgv := bt_get v j hj
  have M := Lib.hid m
  clear hqb bx bl bj m hst
  rcases hc with hc | hc | hc
  all_goals
    have hg : (v[j]'hj).toNat = _ := hgv.symm.trans hc
    clear hc hgv
    conv => arg 2; whnf
    unfold ptr
    go_upto_region 17 with fail
    go_quiet (fail)
    have e6 : (w.drewN nq).cell? ⟨N + 3, 0, none⟩ = some (.pointer none) := cn
    have e1 : (w.drewN nq).cell? ⟨jb, 0, none⟩ = some (.int .i64 j) := cj
    have e2 : (w.drewN nq).cell? ⟨lx, 0, none⟩ = some (.pointer (some ⟨q, 0, none⟩)) := cx
    have e3 : (w.drewN nq).cell? ⟨q, 4, none⟩ = some (.string v) := q4
    have e4 : (w.drewN nq).frozen? ⟨jb, 0, none⟩ = false := zj
    have e5 : jb < (w.drewN nq).heap.size := sj
    have HD := Lib.hid (below_drewN (Below.refl w.heap.size w) nq)
    generalize w.drewN nq = w1 at *
    clear cj cx q4 zj sj cn
    go_upto_region 20 with fail
    go_quiet (fail)
    have g6 : (w1.drewN nq).cell? ⟨N + 3, 0, none⟩ = some (.pointer none) := e6
    have g1 : (w1.drewN nq).cell? ⟨jb, 0, none⟩ = some (.int .i64 j) := e1
    have g5 : jb < (w1.drewN nq).heap.size := e5
    have HD2 := Lib.hid (HD.out.trans (below_drewN (Below.refl w.heap.size w1) nq))
    generalize w1.drewN nq = w2 at *
    clear e1 e2 e3 e4 e5 e6
    go_wp2_with fail
    have hn := M.out.next HD2.out (j + 1)
    rw [Int.natCast_add, Int.natCast_one] at hn
    exact ⟨_, ⟨rfl, rfl, rfl, rfl, rfl, rfl, rfl, rfl, rfl, rfl, rfl, rfl, rfl, rfl, rfl, rfl⟩, hn⟩
end Go.Proofs.YtmcoifhiiagfpaaDoor

namespace Go.Proofs.YtmcoifhiiagfpaaDoor
open Go.RowKit
set_option linter.unusedSectionVars false
variable [Pw]

set_option maxRecDepth 1000000 in
set_option maxHeartbeats 2000000 in
theorem byte_dot1 {N p : Nat} {c50 c51 c52 : Value} {lx la jb : Nat} {a : Act} (fr : Fr N p c50 c51 c52 lx la jb a) {v : ByteArray} {q j last : Nat} {st : St} {xs : List Value} {ys : List Part} {w0 w : World} (m : In N v q lx la jb j last st xs ys w0 w) (hj : j < v.size) (hv : v.size ≤ 100000000)
    (hc : bt v j = 46) (hst : st.stack ≠ []) (hnx : v.size ≤ j + 1 ∨ bt v (j + 1) ≠ 46) (Q0 : Exit → Act → World → Prop) :
    Code.wp Tryd.prog (bodyOf 1) (Exit.then (fun a' w' => ∃ jb', Fr N p c50 c51 c52 lx la jb' a' ∧ In N v q lx la jb' (j + 1) last st xs ys w0 w') Q0) a w := by
  obtain ⟨f, hf, ht⟩ := frame_lit a.tmps fr.size
  obtain ⟨t, d⟩ := a
  have hd : d = [] := fr.defers
  subst hd
  have h0 := (hf 0).trans fr.s0
  have h2 := (hf 2).trans fr.s2
  have h3 := (hf 3).trans fr.s3
  have h4 := (hf 4).trans fr.s4
  have h5 := (hf 5).trans fr.s5
  have h6 := (hf 6).trans fr.s6
  have h7 := (hf 7).trans fr.s7
  have h8 := (hf 8).trans fr.s8
  have h11 := (hf 11).trans fr.s11
  have h13 := (hf 13).trans fr.s13
  have h14 := (hf 14).trans fr.s14
  have h50 := (hf 50).trans fr.s50
  have h51 := (hf 51).trans fr.s51
  have h52 := (hf 52).trans fr.s52
  simp only [h0, h2, h3, h4, h5, h6, h7, h8, h11, h13, h14, h50, h51, h52] at ht
  have ht2 : t = _ := ht
  subst ht2
  clear hf ht fr h0 h2 h3 h4 h5 h6 h7 h8 h11 h13 h14 h50 h51 h52
  obtain ⟨x1, x2, x3, x4, hqb⟩ := m.lit
  have bx := m.bx
  have bl := m.bl
  have bj := m.bj
  have cj : w.cell? ⟨jb, 0, none⟩ = some (.int .i64 j) := by rw [Lib.cell_of_heap bj]; rfl
  have cx : w.cell? ⟨lx, 0, none⟩ = some (.pointer (some ⟨q, 0, none⟩)) := by rw [Lib.cell_of_heap bx]; rfl
  have q4 : w.cell? ⟨q, 4, none⟩ = some (.string v) := by rw [Lib.cell_of_heap hqb]; rfl
  have zj : w.frozen? ⟨jb, 0, none⟩ = false := Lib.frozen_of_heap bj 0
  have sj : jb < w.heap.size := (Array.getElem?_eq_some_iff.1 bj).1
  have hz : (j : Int) < (v.size : Int) ∧ (v.size : Int) ≤ 100000000 := by omega
  obtain ⟨bb, cn⟩ : ∃ bb : Nat, w.cell? ⟨N + 3, 0, none⟩ = some (.pointer (some ⟨bb, 0, none⟩)) := by
    obtain ⟨hs, h1, h2, _⟩ := m.sb
    cases hf : hs.frames with
    | nil =>
      exfalso
      apply hst
      rw [← h2]
      simp [HS.st, hf]
    | cons f0 r0 =>
      refine ⟨f0.blk, ?_⟩
      rw [Lib.cell_of_heap h1.b3]
      unfold HS.curV
      rw [hf]
      rfl
  have hg : (v[j]'hj).toNat = 46 := by rw [← bt_get v j hj]; exact hc
  have M := Lib.hid m
  clear hqb bx bl bj m hst hc
  conv => arg 2; whnf
  unfold ptr
  go_upto_region 17 with fail
  go_quiet (fail)
  have e6 : (w.drewN nq).cell? ⟨N + 3, 0, none⟩ = some (.pointer (some ⟨bb, 0, none⟩)) := cn
  have e1 : (w.drewN nq).cell? ⟨jb, 0, none⟩ = some (.int .i64 j) := cj
  have e2 : (w.drewN nq).cell? ⟨lx, 0, none⟩ = some (.pointer (some ⟨q, 0, none⟩)) := cx
  have e3 : (w.drewN nq).cell? ⟨q, 4, none⟩ = some (.string v) := q4
  have e4 : (w.drewN nq).frozen? ⟨jb, 0, none⟩ = false := zj
  have e5 : jb < (w.drewN nq).heap.size := sj
  have HD := Lib.hid (below_drewN (Below.refl w.heap.size w) nq)
  generalize w.drewN nq = w1 at *
  clear cj cx q4 zj sj cn
  go_upto_region 20 with fail
  go_quiet (fail)
  have g1 : (w1.drewN nq).cell? ⟨jb, 0, none⟩ = some (.int .i64 j) := e1
  have g2 : (w1.drewN nq).cell? ⟨lx, 0, none⟩ = some (.pointer (some ⟨q, 0, none⟩)) := e2
  have g3 : (w1.drewN nq).cell? ⟨q, 4, none⟩ = some (.string v) := e3
  have g5 : jb < (w1.drewN nq).heap.size := e5
  have g6 : (w1.drewN nq).cell? ⟨N + 3, 0, none⟩ = some (.pointer (some ⟨bb, 0, none⟩)) := e6
  have HD2 := Lib.hid (HD.out.trans (below_drewN (Below.refl w.heap.size w1) nq))
  generalize w1.drewN nq = w2 at *
  clear e1 e2 e3 e4 e5 e6
  go_upto_region 46 with fail
  have hwr : IntKind.i64.wrap ((j : Int) + 1) = (j : Int) + 1 := by rw [IntKind.wrap_i64]; omega
  by_cases hle : v.size ≤ j + 1
  · have d1 : decide ((v.size : Int) ≤ (j : Int) + 1) = true := decide_eq_true (by omega)
    have d2 : (v.size : Int) ≤ (j : Int) + 1 := by omega
    go_quiet (fail)
    have k1 : (w2.drewN nq).cell? ⟨jb, 0, none⟩ = some (.int .i64 j) := g1
    have HD3 := Lib.hid (HD2.out.trans (below_drewN (Below.refl w.heap.size w2) nq))
    generalize w2.drewN nq = w3 at *
    clear g1 g2 g3 g5 g6 hwr d1 d2 hnx
    go_wp2_with fail
    have hn := M.out.next HD3.out (j + 1)
    rw [Int.natCast_add, Int.natCast_one] at hn
    exact ⟨_, ⟨rfl, rfl, rfl, rfl, rfl, rfl, rfl, rfl, rfl, rfl, rfl, rfl, rfl, rfl, rfl, rfl⟩, hn⟩
  · have hj1 : j + 1 < v.size := by omega
    obtain ⟨x, hx⟩ : ∃ x : Nat, bt v (j + 1) = x := ⟨_, rfl⟩
    have hx46 : x ≠ 46 := by rw [← hx]; exact hnx.resolve_left hle
    have hg2 : (v[j + 1]'hj1).toNat = x := by rw [← bt_get v (j + 1) hj1]; exact hx
    have z2 : ((x : Int) != 46) = true := by simp; omega
    have d2 : (j : Int) + 1 < (v.size : Int) := by omega
    have d1 : decide ((v.size : Int) ≤ (j : Int) + 1) = false := decide_eq_false (by omega)
    clear hx hx46 hnx
    go_quiet (fail)
    have k1 : (w2.drewN nq).cell? ⟨jb, 0, none⟩ = some (.int .i64 j) := g1
    have HD3 := Lib.hid (HD2.out.trans (below_drewN (Below.refl w.heap.size w2) nq))
    generalize w2.drewN nq = w3 at *
    clear g1 g2 g3 g5 g6 hwr d1 d2
    go_wp2_with fail
    have hn := M.out.next HD3.out (j + 1)
    rw [Int.natCast_add, Int.natCast_one] at hn
    exact ⟨_, ⟨rfl, rfl, rfl, rfl, rfl, rfl, rfl, rfl, rfl, rfl, rfl, rfl, rfl, rfl, rfl, rfl⟩, hn⟩
end Go.Proofs.YtmcoifhiiagfpaaDoor

namespace Go.Proofs.YtmcoifhiiagfpaaDoor
open Go.RowKit
set_option linter.unusedSectionVars false
variable [Pw]

set_option maxRecDepth 1000000 in
set_option maxHeartbeats 2000000 in
theorem byte_dot2 {N p : Nat} {c50 c51 c52 : Value} {lx la jb : Nat} {a : Act} (fr : Fr N p c50 c51 c52 lx la jb a) {v : ByteArray} {q j last : Nat} {st : St} {xs : List Value} {ys : List Part} {w0 w : World} (m : In N v q lx la jb j last st xs ys w0 w) (hj : j < v.size) (hv : v.size ≤ 100000000)
    (hc : bt v j = 46) (fr0 : Frame) (r0 : List Frame) (hst : st.stack = fr0 :: r0) (hsq : fr0.seq = false) (hdn : fr0.done ≠ []) (hdl : fr0.done.length ≤ 100000000) (hj1 : j + 1 < v.size) (hnx : bt v (j + 1) = 46) (Q0 : Exit → Act → World → Prop) :
    Code.wp Tryd.prog (bodyOf 1) (Exit.then (fun a' w' => ∃ jb', Fr N p c50 c51 c52 lx la jb' a' ∧ In N v q lx la jb' (j + 1) last st xs ys w0 w') Q0) a w := by
  obtain ⟨f, hf, ht⟩ := frame_lit a.tmps fr.size
  obtain ⟨t, d⟩ := a
  have hd : d = [] := fr.defers
  subst hd
  have h0 := (hf 0).trans fr.s0
  have h2 := (hf 2).trans fr.s2
  have h3 := (hf 3).trans fr.s3
  have h4 := (hf 4).trans fr.s4
  have h5 := (hf 5).trans fr.s5
  have h6 := (hf 6).trans fr.s6
  have h7 := (hf 7).trans fr.s7
  have h8 := (hf 8).trans fr.s8
  have h11 := (hf 11).trans fr.s11
  have h13 := (hf 13).trans fr.s13
  have h14 := (hf 14).trans fr.s14
  have h50 := (hf 50).trans fr.s50
  have h51 := (hf 51).trans fr.s51
  have h52 := (hf 52).trans fr.s52
  simp only [h0, h2, h3, h4, h5, h6, h7, h8, h11, h13, h14, h50, h51, h52] at ht
  have ht2 : t = _ := ht
  subst ht2
  clear hf ht fr h0 h2 h3 h4 h5 h6 h7 h8 h11 h13 h14 h50 h51 h52
  obtain ⟨x1, x2, x3, x4, hqb⟩ := m.lit
  have bx := m.bx
  have bl := m.bl
  have bj := m.bj
  have cj : w.cell? ⟨jb, 0, none⟩ = some (.int .i64 j) := by rw [Lib.cell_of_heap bj]; rfl
  have cx : w.cell? ⟨lx, 0, none⟩ = some (.pointer (some ⟨q, 0, none⟩)) := by rw [Lib.cell_of_heap bx]; rfl
  have q4 : w.cell? ⟨q, 4, none⟩ = some (.string v) := by rw [Lib.cell_of_heap hqb]; rfl
  have zj : w.frozen? ⟨jb, 0, none⟩ = false := Lib.frozen_of_heap bj 0
  have sj : jb < w.heap.size := (Array.getElem?_eq_some_iff.1 bj).1
  have hz : (j : Int) < (v.size : Int) ∧ (v.size : Int) ≤ 100000000 := by omega
  obtain ⟨bb, be, cap, cn, cs, ce⟩ : ∃ bb be cap : Nat, w.cell? ⟨N + 3, 0, none⟩ = some (.pointer (some ⟨bb, 0, none⟩)) ∧ w.cell? ⟨bb, 0, none⟩ = some (.bool false) ∧ w.cell? ⟨bb, 1, none⟩ = some (.slice (some ⟨be, 0, none⟩) (fr0.done.length + 1) cap) := by
    obtain ⟨hs, h1, h2, _⟩ := m.sb
    obtain ⟨top, frames, ov⟩ := hs
    cases frames with
    | nil =>
      rw [← h2] at hst
      simp [HS.st] at hst
    | cons hf hr =>
      rw [← h2] at hst
      simp only [HS.st, List.map_cons, List.cons.injEq] at hst
      have hF := h1.frames hf (List.mem_cons_self ..)
      have hsq2 : hf.seq = false := by rw [← hsq, ← hst.1]; rfl
      have hdl2 : hf.words.length = fr0.done.length + 1 := by rw [← hst.1]; simp [HF.words, HF.fr]
      obtain ⟨e, cap, cur, hev, _⟩ := own_row hF.own (by omega)
      refine ⟨hf.blk, e, cap, ?_, ?_, ?_⟩
      · rw [Lib.cell_of_heap h1.b3]
        rfl
      · rw [Lib.cell_of_heap hF.blk, hsq2]
        rfl
      · rw [Lib.cell_of_heap hF.blk, hev, hdl2]
        rfl
  have hdp : (0 : Int) < (fr0.done.length : Int) ∧ (fr0.done.length : Int) ≤ 100000000 := by
    have : 0 < fr0.done.length := List.length_pos_iff.2 hdn
    omega
  generalize fr0.done.length = D at *
  have hg : (v[j]'hj).toNat = 46 := by rw [← bt_get v j hj]; exact hc
  have M := Lib.hid m
  have hg2 : (v[j + 1]'hj1).toNat = 46 := by rw [← bt_get v (j + 1) hj1]; exact hnx
  clear hqb bx bl bj m hst hc hsq hdn hdl hnx
  conv => arg 2; whnf
  unfold ptr
  go_upto_region 17 with fail
  go_quiet (fail)
  have e7 : (w.drewN nq).cell? ⟨bb, 0, none⟩ = some (.bool false) := cs
  have e8 : (w.drewN nq).cell? ⟨bb, 1, none⟩ = some (.slice (some ⟨be, 0, none⟩) (D + 1) cap) := ce
  have e6 : (w.drewN nq).cell? ⟨N + 3, 0, none⟩ = some (.pointer (some ⟨bb, 0, none⟩)) := cn
  have e1 : (w.drewN nq).cell? ⟨jb, 0, none⟩ = some (.int .i64 j) := cj
  have e2 : (w.drewN nq).cell? ⟨lx, 0, none⟩ = some (.pointer (some ⟨q, 0, none⟩)) := cx
  have e3 : (w.drewN nq).cell? ⟨q, 4, none⟩ = some (.string v) := q4
  have e4 : (w.drewN nq).frozen? ⟨jb, 0, none⟩ = false := zj
  have e5 : jb < (w.drewN nq).heap.size := sj
  have HD := Lib.hid (below_drewN (Below.refl w.heap.size w) nq)
  generalize w.drewN nq = w1 at *
  clear cj cx q4 zj sj cn cs ce
  go_upto_region 20 with fail
  go_quiet (fail)
  have g1 : (w1.drewN nq).cell? ⟨jb, 0, none⟩ = some (.int .i64 j) := e1
  have g2 : (w1.drewN nq).cell? ⟨lx, 0, none⟩ = some (.pointer (some ⟨q, 0, none⟩)) := e2
  have g3 : (w1.drewN nq).cell? ⟨q, 4, none⟩ = some (.string v) := e3
  have g5 : jb < (w1.drewN nq).heap.size := e5
  have g7 : (w1.drewN nq).cell? ⟨bb, 0, none⟩ = some (.bool false) := e7
  have g8 : (w1.drewN nq).cell? ⟨bb, 1, none⟩ = some (.slice (some ⟨be, 0, none⟩) (D + 1) cap) := e8
  have g6 : (w1.drewN nq).cell? ⟨N + 3, 0, none⟩ = some (.pointer (some ⟨bb, 0, none⟩)) := e6
  have HD2 := Lib.hid (HD.out.trans (below_drewN (Below.refl w.heap.size w1) nq))
  generalize w1.drewN nq = w2 at *
  clear e1 e2 e3 e4 e5 e6 e7 e8
  go_upto_region 46 with fail
  have hwr : IntKind.i64.wrap ((j : Int) + 1) = (j : Int) + 1 := by rw [IntKind.wrap_i64]; omega
  have d2 : (j : Int) + 1 < (v.size : Int) := by omega
  have d1 : decide ((v.size : Int) ≤ (j : Int) + 1) = false := decide_eq_false (by omega)
  go_quiet (fail)
  have k1 : (w2.drewN nq).cell? ⟨jb, 0, none⟩ = some (.int .i64 j) := g1
  have k6 : (w2.drewN nq).cell? ⟨N + 3, 0, none⟩ = some (.pointer (some ⟨bb, 0, none⟩)) := g6
  have k7 : (w2.drewN nq).cell? ⟨bb, 0, none⟩ = some (.bool false) := g7
  have k8 : (w2.drewN nq).cell? ⟨bb, 1, none⟩ = some (.slice (some ⟨be, 0, none⟩) (D + 1) cap) := g8
  have HD3 := Lib.hid (HD2.out.trans (below_drewN (Below.refl w.heap.size w2) nq))
  generalize w2.drewN nq = w3 at *
  clear g1 g2 g3 g5 g6 g7 g8 hwr d1 d2
  go_wp2_with fail
  have hn := M.out.next HD3.out (j + 1)
  rw [Int.natCast_add, Int.natCast_one] at hn
  exact ⟨_, ⟨rfl, rfl, rfl, rfl, rfl, rfl, rfl, rfl, rfl, rfl, rfl, rfl, rfl, rfl, rfl, rfl⟩, hn⟩
end Go.Proofs.YtmcoifhiiagfpaaDoor

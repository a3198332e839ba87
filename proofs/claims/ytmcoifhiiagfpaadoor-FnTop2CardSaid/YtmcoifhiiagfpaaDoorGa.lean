/-
  Brace splitting as a plain program over lists of parts. No walk here.
  What finished parts are in memory. No walk here.
  What SplitBraces holds while it runs: the words and braces under construction. No walk here.
  Parts appended to the word in hand. No walk here.
  The state in memory, told by the plain state alone; the closure that appends a literal.
-/
import Derived.WalkKit
import Derived.Shelf.Strconv.ParseInt10At64
import Derived.Test.YtmcoifhiiagfpaaDoorProg
import Derived.WalkSmall
import Derived.OpenShut
import Derived.BigQuiet
import Derived.Deep.QuietTactic
import Derived.Deep.RegionWith
import Derived.Deep.RegionLaw
import Derived.Deep.AppendLies
import Derived.Deep.LoopGhost
import Derived.Deep.CutRange
import Derived.Deep.CutBlock
import Derived.Deep.DeepCutAuto
import Derived.IntWalk
import Derived.Lib.Hide
import Derived.Laws.Rows
import Derived.Outline
namespace Go.Proofs.YtmcoifhiiagfpaaDoor
open Go.RowKit

/-- A part of a word. -/
inductive Part where
  | lit (s : ByteArray)
  | brace (seq : Bool) (elems : List (List Part))
  | other (t : TypeId) (x : Value)

/-- The byte at i. -/
def bt (s : ByteArray) (i : Nat) : Nat := (s.data.toList.getD i 0).toNat

/-- The text of a list of parts, if all of them are literals. -/
def litText : List Part → Option (List UInt8)
  | [] => some []
  | .lit s :: r => (litText r).map (s.data.toList ++ ·)
  | _ :: _ => none
/-- What Word.Lit gives. -/
def litOf (ps : List Part) : ByteArray := ⟨((litText ps).getD []).toArray⟩

/-- An int64 in decimal. -/
def isNum (s : ByteArray) : Bool := match Lib.parseIntB 64 s.data.toList with | .ok _ => true | _ => false
def isLetter (x : Nat) : Bool := (97 ≤ x && x ≤ 122) || (65 ≤ x && x ≤ 90)
/-- A single ASCII letter. -/
def isChar (s : ByteArray) : Bool := s.size == 1 && isLetter (bt s 0)

/-- An open brace: its elements but the last, and the last. -/
structure Frame where
  seq : Bool
  done : List (List Part)
  acc : List Part

def Frame.elems (f : Frame) : List (List Part) := f.done ++ [f.acc]

/-- The state: the outermost list, and the open braces, the innermost first. -/
structure St where
  top : List Part
  stack : List Frame

def St.push (st : St) (ps : List Part) : St :=
  match st.stack with
  | [] => { st with top := st.top ++ ps }
  | f :: r => { st with stack := { f with acc := f.acc ++ ps } :: r }

def lb : ByteArray := ⟨#[123]⟩
def rb : ByteArray := ⟨#[125]⟩
def cm : ByteArray := ⟨#[44]⟩
def dots : ByteArray := ⟨#[46, 46]⟩

/-- Lists of parts with a separator between. -/
def sepBy (sep : ByteArray) : List (List Part) → List Part
  | [] => []
  | [ps] => ps
  | ps :: r => ps ++ .lit sep :: sepBy sep r

/-- Is this sequence broken? -/
def broken (es : List (List Part)) : Bool :=
  let a := litOf (es.getD 0 [])
  let b := litOf (es.getD 1 [])
  let ca := !isNum a && isChar a
  let cb := !isNum b && isChar b
  (!isNum a && !isChar a) || (!isNum b && !isChar b) || (es.length == 3 && !isNum (litOf (es.getD 2 []))) || decide (3 < es.length) || (ca != cb)

/-- The parts that a closed brace of these elements leaves. -/
def closed (f : Frame) : List Part :=
  if f.elems.length = 1 then [.lit lb] ++ f.acc ++ [.lit rb]
  else if f.seq then (if broken f.elems then [.lit lb] ++ sepBy dots f.elems ++ [.lit rb] else [.brace true f.elems])
  else [.brace false f.elems]
/-- The parts that an unclosed brace leaves. -/
def unclosed (f : Frame) : List Part := .lit lb :: sepBy (if f.seq then dots else cm) f.elems

def St.flush (st : St) (v : ByteArray) (last j : Nat) : St := if last = j then st else st.push [.lit (v.extract last j)]

/-- One byte of a literal: the next place, the place behind the last token, the state. -/
def stepB (v : ByteArray) (j last : Nat) (st : St) : Nat × Nat × St :=
  if bt v j = 92 then (j + 2, last, st)
  else if bt v j = 123 then
    let st1 := st.flush v last j
    (j + 1, j + 1, { st1 with stack := ⟨false, [], []⟩ :: st1.stack })
  else if bt v j = 44 then
    match (st.flush v last j).stack with
    | [] => (j + 1, last, st)
    | f :: r => (j + 1, j + 1, { st.flush v last j with stack := (if f.seq then ⟨false, [sepBy dots f.elems], []⟩ else ⟨false, f.elems, []⟩) :: r })
  else if bt v j = 46 then
    match st.stack with
    | [] => (j + 1, last, st)
    | f :: _ =>
      if v.size ≤ j + 1 ∨ bt v (j + 1) ≠ 46 then (j + 1, last, st)
      else if f.seq = false ∧ f.done ≠ [] then (j + 1, last, st)
      else
        match (st.flush v last j).stack with
        | [] => (j + 1, last, st)
        | f :: r => (j + 2, j + 2, { st.flush v last j with stack := ⟨true, f.elems, []⟩ :: r })
  else if bt v j = 125 then
    match (st.flush v last j).stack with
    | [] => (j + 1, last, st)
    | f :: r => (j + 1, j + 1, ({ st.flush v last j with stack := r } : St).push (closed f))
  else (j + 1, last, st)

/-- A literal from place j on, by fuel. -/
def runB (v : ByteArray) : Nat → Nat → Nat → St → Nat × St
  | 0, _, last, st => (last, st)
  | f + 1, j, last, st => if j < v.size then (match stepB v j last st with | (j', last', st') => runB v f j' last' st') else (last, st)

/-- One part of the word. -/
def stepP (st : St) : Part → St
  | .lit v => match runB v (v.size + 1) 0 0 st with
    | (last, st') => if last = 0 then st'.push [.lit v] else st'.push [.lit (v.extract last v.size)]
  | p => st.push [p]

/-- The open braces fall back to text, the innermost first. -/
def unwind : List Frame → List Part → List Part
  | [], top => top
  | [f], top => top ++ unclosed f
  | f :: g :: r, top => unwind ({ g with acc := g.acc ++ unclosed f } :: r) top
termination_by fs => fs.length

/-- What SplitBraces leaves of a word that holds a brace. -/
def split (ps : List Part) : List Part :=
  let st := ps.foldl stepP ⟨[], []⟩
  unwind st.stack st.top

/-- Does some literal hold an opening brace? -/
def hasBrace (ps : List Part) : Bool := ps.any fun | .lit s => s.data.toList.contains 123 | _ => false
end Go.Proofs.YtmcoifhiiagfpaaDoor

namespace Go.Proofs.YtmcoifhiiagfpaaDoor
open Go.RowKit

/-- A literal lies in block q. -/
def LitAt (w : World) (q : Nat) (s : ByteArray) : Prop := ∃ a b c d : Int, w.heap[q]? = some (.cells #[.int .u32 a, .int .u32 b, .int .u32 c, .int .u32 d, .string s] 69 (0, 0))

/-- A slice of parts, finished: its array is not live. -/
def RowAt (w : World) (L : Nat → Prop) (v : Value) (vals : List Value) : Prop :=
  (v = .slice none 0 0 ∧ vals = []) ∨ ∃ g cap cur, v = .slice (some ⟨g, 0, none⟩) vals.length cap ∧ ¬ L g ∧ w.heap[g]? = some (.cells cur 72 (0, 0)) ∧ cur.toList.take vals.length = vals

mutual
inductive PartAt (w : World) (L : Nat → Prop) : Value → Part → Prop
  | lit (q : Nat) (s : ByteArray) (hL : ¬ L q) (hq : LitAt w q s) : PartAt w L (.iface 67 (.pointer (some ⟨q, 0, none⟩))) (.lit s)
  | brace (b e cap : Nat) (cur : Array Value) (seq : Bool) (ptrs : List Nat) (ess : List (List Part)) (hb : ¬ L b) (he : ¬ L e) (h1 : w.heap[b]? = some (.cells #[.bool seq, .slice (some ⟨e, 0, none⟩) ptrs.length cap] 80 (0, 0))) (h2 : w.heap[e]? = some (.cells cur 38 (0, 0))) (h3 : (cur.toList.take ptrs.length = ptrs.map fun p => Value.pointer (some ⟨p, 0, none⟩)) ∧ ptrs.length ≤ cap) (h4 : WordsAt w L ptrs ess) : PartAt w L (.iface 76 (.pointer (some ⟨b, 0, none⟩))) (.brace seq ess)
  | other (t : TypeId) (x : Value) (ht : t ≠ 67) : PartAt w L (.iface t x) (.other t x)
inductive PartsAt (w : World) (L : Nat → Prop) : List Value → List Part → Prop
  | nil : PartsAt w L [] []
  | cons (v : Value) (p : Part) (vs : List Value) (ps : List Part) (h1 : PartAt w L v p) (h2 : PartsAt w L vs ps) : PartsAt w L (v :: vs) (p :: ps)
inductive WordsAt (w : World) (L : Nat → Prop) : List Nat → List (List Part) → Prop
  | nil : WordsAt w L [] []
  | cons (p : Nat) (v : Value) (vals : List Value) (ps : List Part) (ptrs : List Nat) (ess : List (List Part)) (hp : ¬ L p) (h1 : w.heap[p]? = some (.cells #[v] 40 (0, 0))) (h2 : RowAt w L v vals) (h3 : PartsAt w L vals ps) (h4 : WordsAt w L ptrs ess) : WordsAt w L (p :: ptrs) (ps :: ess)
end

/-- Nothing that is not live has been turned, and nothing that was there has become live. -/
structure Safe (L L' : Nat → Prop) (w w' : World) : Prop where
  heap : ∀ k, k < w.heap.size → ¬ L k → w'.heap[k]? = w.heap[k]?
  live : ∀ k, k < w.heap.size → ¬ L k → ¬ L' k

theorem Safe.refl (L : Nat → Prop) (w : World) : Safe L L w w := ⟨fun _ _ _ => rfl, fun _ _ h => h⟩
theorem Safe.at_ {L L' : Nat → Prop} {w w' : World} (h : Safe L L' w w') {k : Nat} {o : Obj} (hL : ¬ L k) (hk : w.heap[k]? = some o) : w'.heap[k]? = some o ∧ ¬ L' k := by
  have hlt : k < w.heap.size := (Array.getElem?_eq_some_iff.1 hk).1
  exact ⟨(h.heap k hlt hL).trans hk, h.live k hlt hL⟩
theorem RowAt.safe {L L' : Nat → Prop} {w w' : World} {v : Value} {vals : List Value} (h : RowAt w L v vals) (hs : Safe L L' w w') : RowAt w' L' v vals := by
  rcases h with h | ⟨g, cap, cur, hv, hL, hg, ht⟩
  · exact Or.inl h
  · obtain ⟨h1, h2⟩ := hs.at_ hL hg
    exact Or.inr ⟨g, cap, cur, hv, h2, h1, ht⟩

section
variable {L L' : Nat → Prop} {w w' : World}
theorem parts_safe_all (hs : Safe L L' w w') :
    (∀ {v p}, PartAt w L v p → PartAt w' L' v p) ∧ (∀ {vs ps}, PartsAt w L vs ps → PartsAt w' L' vs ps) ∧ (∀ {ptrs ess}, WordsAt w L ptrs ess → WordsAt w' L' ptrs ess) := by
  have key : ∀ v p (h : PartAt w L v p), PartAt w' L' v p := fun v p h => PartAt.rec (motive_1 := fun v p _ => PartAt w' L' v p) (motive_2 := fun vs ps _ => PartsAt w' L' vs ps) (motive_3 := fun ptrs ess _ => WordsAt w' L' ptrs ess)
    (fun q s hL ⟨a, b, c, d, hq⟩ => .lit q s (hs.at_ hL hq).2 ⟨a, b, c, d, (hs.at_ hL hq).1⟩)
    (fun b e cap cur seq ptrs ess hb he h1 h2 h3 _ ih => .brace b e cap cur seq ptrs ess (hs.at_ hb h1).2 (hs.at_ he h2).2 (hs.at_ hb h1).1 (hs.at_ he h2).1 h3 ih)
    (fun t x ht => .other t x ht) .nil (fun v p vs ps _ _ i1 i2 => .cons v p vs ps i1 i2) .nil (fun p v vals ps ptrs ess hp h1 h2 _ _ i3 i4 => .cons p v vals ps ptrs ess (hs.at_ hp h1).2 (hs.at_ hp h1).1 (h2.safe hs) i3 i4) h
  have key2 : ∀ vs ps (h : PartsAt w L vs ps), PartsAt w' L' vs ps := fun vs ps h => PartsAt.rec (motive_1 := fun v p _ => PartAt w' L' v p) (motive_2 := fun vs ps _ => PartsAt w' L' vs ps) (motive_3 := fun ptrs ess _ => WordsAt w' L' ptrs ess)
    (fun q s hL ⟨a, b, c, d, hq⟩ => .lit q s (hs.at_ hL hq).2 ⟨a, b, c, d, (hs.at_ hL hq).1⟩)
    (fun b e cap cur seq ptrs ess hb he h1 h2 h3 _ ih => .brace b e cap cur seq ptrs ess (hs.at_ hb h1).2 (hs.at_ he h2).2 (hs.at_ hb h1).1 (hs.at_ he h2).1 h3 ih)
    (fun t x ht => .other t x ht) .nil (fun v p vs ps _ _ i1 i2 => .cons v p vs ps i1 i2) .nil (fun p v vals ps ptrs ess hp h1 h2 _ _ i3 i4 => .cons p v vals ps ptrs ess (hs.at_ hp h1).2 (hs.at_ hp h1).1 (h2.safe hs) i3 i4) h
  have key3 : ∀ ptrs ess (h : WordsAt w L ptrs ess), WordsAt w' L' ptrs ess := fun ptrs ess h => WordsAt.rec (motive_1 := fun v p _ => PartAt w' L' v p) (motive_2 := fun vs ps _ => PartsAt w' L' vs ps) (motive_3 := fun ptrs ess _ => WordsAt w' L' ptrs ess)
    (fun q s hL ⟨a, b, c, d, hq⟩ => .lit q s (hs.at_ hL hq).2 ⟨a, b, c, d, (hs.at_ hL hq).1⟩)
    (fun b e cap cur seq ptrs ess hb he h1 h2 h3 _ ih => .brace b e cap cur seq ptrs ess (hs.at_ hb h1).2 (hs.at_ he h2).2 (hs.at_ hb h1).1 (hs.at_ he h2).1 h3 ih)
    (fun t x ht => .other t x ht) .nil (fun v p vs ps _ _ i1 i2 => .cons v p vs ps i1 i2) .nil (fun p v vals ps ptrs ess hp h1 h2 _ _ i3 i4 => .cons p v vals ps ptrs ess (hs.at_ hp h1).2 (hs.at_ hp h1).1 (h2.safe hs) i3 i4) h
  exact ⟨fun h => key _ _ h, fun h => key2 _ _ h, fun h => key3 _ _ h⟩
theorem PartAt.safe {v : Value} {p : Part} (h : PartAt w L v p) (hs : Safe L L' w w') : PartAt w' L' v p := (parts_safe_all hs).1 h
theorem PartsAt.safe {vs : List Value} {ps : List Part} (h : PartsAt w L vs ps) (hs : Safe L L' w w') : PartsAt w' L' vs ps := (parts_safe_all hs).2.1 h
theorem WordsAt.safe {ptrs : List Nat} {ess : List (List Part)} (h : WordsAt w L ptrs ess) (hs : Safe L L' w w') : WordsAt w' L' ptrs ess := (parts_safe_all hs).2.2 h
end
theorem PartsAt.append {w : World} {L : Nat → Prop} : ∀ {vs : List Value} {ps : List Part} {us : List Value} {qs : List Part}, PartsAt w L vs ps → PartsAt w L us qs → PartsAt w L (vs ++ us) (ps ++ qs)
  | [], _, _, _, .nil, h => h
  | _ :: _, _, _, _, .cons v p vs ps h1 h2, h => .cons v p _ _ h1 (PartsAt.append h2 h)
theorem PartsAt.length {w : World} {L : Nat → Prop} : ∀ {vs : List Value} {ps : List Part}, PartsAt w L vs ps → vs.length = ps.length
  | [], _, .nil => rfl
  | _ :: _, _, .cons _ _ _ _ _ h => by simp [h.length]
theorem PartAt.one {w : World} {L : Nat → Prop} {v : Value} {p : Part} (h : PartAt w L v p) : v.oneCell' = true := by
  cases h <;> rfl
theorem PartsAt.one {w : World} {L : Nat → Prop} : ∀ {vs : List Value} {ps : List Part}, PartsAt w L vs ps → ∀ u ∈ vs, u.oneCell' = true
  | [], _, .nil, _, h => by cases h
  | _ :: _, _, .cons _ _ _ _ h1 h2, u, h => by
    rcases List.mem_cons.1 h with rfl | h
    · exact h1.one
    · exact h2.one u h
end Go.Proofs.YtmcoifhiiagfpaaDoor

namespace Go.Proofs.YtmcoifhiiagfpaaDoor
open Go.RowKit

/-- A word under construction. -/
structure HW where
  blk : Nat
  v : Value
  vals : List Value
  ps : List Part
/-- An open brace. -/
structure HF where
  blk : Nat
  seq : Bool
  ev : Value
  done : List HW
  acc : HW
def HF.words (f : HF) : List HW := f.done ++ [f.acc]
structure HS where
  top : HW
  frames : List HF
  ov : Value
def HS.words (hs : HS) : List HW := hs.top :: hs.frames.flatMap HF.words
def HS.acc (hs : HS) : HW := match hs.frames with | [] => hs.top | f :: _ => f.acc
def HS.setAcc (hs : HS) (a : HW) : HS := match hs.frames with | [] => { hs with top := a } | f :: r => { hs with frames := { f with acc := a } :: r }
def ptr (k : Nat) : Value := .pointer (some ⟨k, 0, none⟩)
def HS.curV (hs : HS) : Value := match hs.frames with | [] => .pointer none | f :: _ => ptr f.blk

/-- The block of the word that is split: no finished part leads to it. -/
class Pw where
  p : Nat

/-- What of the call's own may still be written. -/
def HS.live0 (N : Nat) (hs : HS) (k : Nat) : Prop :=
  (N ≤ k ∧ k < N + 6) ∨ (∃ h ∈ hs.words, k = h.blk ∨ h.v.ownBlock = some k) ∨ (∃ f ∈ hs.frames, k = f.blk ∨ f.ev.ownBlock = some k) ∨ hs.ov.ownBlock = some k

set_option linter.unusedSectionVars false
variable [Pw]
/-- What may still be written. -/
def HS.live (N : Nat) (hs : HS) (k : Nat) : Prop := hs.live0 N k ∨ k = Pw.p
theorem Safe.more {N : Nat} {hs hs' : HS} {w w' : World} (h : Safe (hs.live0 N) (hs'.live0 N) w w') : Safe (hs.live N) (hs'.live N) w w' := by
  refine ⟨fun k hk hn => h.heap k hk (fun e => hn (Or.inl e)), fun k hk hn hl => ?_⟩
  rcases hl with hl | hl
  · exact h.live k hk (fun e => hn (Or.inl e)) hl
  · exact hn (Or.inr hl)

structure WOk (N : Nat) (L : Nat → Prop) (w : World) (h : HW) : Prop where
  blk : w.heap[h.blk]? = some (.cells #[h.v] 40 (0, 0))
  own : w.ownsRow (N + 6) 72 1 h.v h.vals.length h.vals
  parts : PartsAt w L h.vals h.ps
  far : h.blk = N ∨ N + 6 ≤ h.blk
structure FOk (N : Nat) (w : World) (f : HF) : Prop where
  blk : w.heap[f.blk]? = some (.cells #[.bool f.seq, f.ev] 80 (0, 0))
  own : w.ownsRow (N + 6) 38 1 f.ev f.words.length (f.words.map fun h => ptr h.blk)
  far : N + 6 ≤ f.blk

structure SB (N : Nat) (hs : HS) (w : World) : Prop where
  topBlk : hs.top.blk = N
  pw : Pw.p < N ∧ ∃ c, w.heap[Pw.p]? = some (.cells c 40 (0, 0))
  b1 : w.heap[N + 1]? = some (.cells #[ptr N] 38 (0, 0))
  b2 : w.heap[N + 2]? = some (.cells #[ptr hs.acc.blk] 38 (0, 0))
  b3 : w.heap[N + 3]? = some (.cells #[hs.curV] 76 (0, 0))
  b4 : w.heap[N + 4]? = some (.cells #[hs.ov] 77 (0, 0))
  b5 : w.heap[N + 5]? = some (.cells #[.func (.func 25) #[] #[ptr (N + 2)]] 82 (0, 0))
  opens : w.ownsRow (N + 6) 76 1 hs.ov hs.frames.length (hs.frames.reverse.map fun f => ptr f.blk)
  words : ∀ h ∈ hs.words, WOk N (hs.live N) w h
  frames : ∀ f ∈ hs.frames, FOk N w f
  dw : (hs.words.map HW.blk).Nodup
  da : (hs.words.filterMap fun h => h.v.ownBlock).Nodup
  df : (hs.frames.map HF.blk).Nodup
  de : (hs.frames.filterMap fun f => f.ev.ownBlock).Nodup

/-- A row of the call's own, over which nothing of its own has been turned. -/
theorem own_kept {w w' : World} {base n size : Nat} {e : TypeId} {v : Value} {xs : List Value} (h : w.ownsRow base e size v n xs) (hk : ∀ g, v.ownBlock = some g → base ≤ g → (∃ c, w.heap[g]? = some (.cells c e (0, 0))) → w'.heap[g]? = w.heap[g]?) : w'.ownsRow base e size v n xs := by
  refine ⟨h.1, ?_⟩
  rcases h.2 with hn | ⟨g, cap, cur, hv, hbg, hg, rest⟩
  · exact Or.inl hn
  · exact Or.inr ⟨g, cap, cur, hv, hbg, (hk g (by rw [hv]; rfl) hbg ⟨cur, hg⟩).trans hg, rest⟩
theorem own_block {w : World} {base n size : Nat} {e : TypeId} {v : Value} {xs : List Value} (h : w.ownsRow base e size v n xs) {g : Nat} (hg : v.ownBlock = some g) : base ≤ g ∧ ∃ c, w.heap[g]? = some (.cells c e (0, 0)) := by
  rcases h.2 with ⟨rfl, _⟩ | ⟨g', cap, cur, rfl, hb, hg', _⟩
  · cases hg
  · simp only [Value.ownBlock, Option.some.injEq] at hg
    subst hg
    exact ⟨hb, cur, hg'⟩

theorem words_acc (hs : HS) : ∃ A C, hs.words = A ++ hs.acc :: C ∧ ∀ a, (hs.setAcc a).words = A ++ a :: C := by
  obtain ⟨top, frames, ov⟩ := hs
  cases frames with
  | nil => exact ⟨[], [], rfl, fun a => rfl⟩
  | cons f r => exact ⟨top :: f.done, r.flatMap HF.words, by simp [HS.words, HS.acc, HF.words], fun a => by simp [HS.words, HS.setAcc, HF.words]⟩
theorem acc_mem (hs : HS) : hs.acc ∈ hs.words := by
  obtain ⟨A, C, h, _⟩ := words_acc hs
  rw [h]; simp

theorem SB.lt {N : Nat} {hs : HS} {w : World} (h : SB N hs w) : N + 5 < w.heap.size := (Array.getElem?_eq_some_iff.1 h.b5).1

/-- Only new blocks. -/
theorem SB.grow {N : Nat} {hs : HS} {w w' : World} (h : SB N hs w) (hb : ∀ k, k < w.heap.size → w'.heap[k]? = w.heap[k]?) : SB N hs w' := by
  have at_ : ∀ {k : Nat} {o : Obj}, w.heap[k]? = some o → w'.heap[k]? = some o := fun {k o} hk => (hb k (Array.getElem?_eq_some_iff.1 hk).1).trans hk
  have hs_ : Safe (hs.live N) (hs.live N) w w' := ⟨fun k hk _ => hb k hk, fun _ _ h => h⟩
  have ow : ∀ {e n v xs}, w.ownsRow (N + 6) e 1 v n xs → w'.ownsRow (N + 6) e 1 v n xs := fun ho => own_kept ho (fun g _ _ ⟨c, hc⟩ => (at_ hc).trans hc.symm)
  exact { topBlk := h.topBlk, pw := ⟨h.pw.1, h.pw.2.elim fun c hc => ⟨c, at_ hc⟩⟩, b1 := at_ h.b1, b2 := at_ h.b2, b3 := at_ h.b3, b4 := at_ h.b4, b5 := at_ h.b5, opens := ow h.opens
          words := fun x hx => let k := h.words x hx; ⟨at_ k.blk, ow k.own, k.parts.safe hs_, k.far⟩
          frames := fun f hf => let k := h.frames f hf; ⟨at_ k.blk, ow k.own, k.far⟩
          dw := h.dw, da := h.da, df := h.df, de := h.de }
end Go.Proofs.YtmcoifhiiagfpaaDoor

namespace Go.Proofs.YtmcoifhiiagfpaaDoor
open Go.RowKit
set_option linter.unusedSectionVars false
variable [Pw]

def arr (h : HW) : Option Nat := h.v.ownBlock

theorem nodup_split {α : Type} {A C : List α} {a : α} (h : (A ++ a :: C).Nodup) : (A ++ C).Nodup ∧ a ∉ A ++ C := by
  rw [List.nodup_append] at h
  obtain ⟨h1, h2, h3⟩ := h
  rw [List.nodup_cons] at h2
  refine ⟨List.nodup_append.2 ⟨h1, h2.2, fun x hx y hy => h3 x hx y (List.mem_cons_of_mem _ hy)⟩, fun hm => ?_⟩
  rcases List.mem_append.1 hm with hm | hm
  · exact h3 a hm a (List.mem_cons_self ..) rfl
  · exact h2.1 hm
theorem nodup_join {α : Type} {A C : List α} {a : α} (h : (A ++ C).Nodup) (ha : a ∉ A ++ C) : (A ++ a :: C).Nodup := by
  rw [List.nodup_append] at h ⊢
  obtain ⟨h1, h2, h3⟩ := h
  refine ⟨h1, List.nodup_cons.2 ⟨fun hm => ha (List.mem_append.2 (Or.inr hm)), h2⟩, fun x hx y hy => ?_⟩
  rcases List.mem_cons.1 hy with rfl | hy
  · exact fun e => ha (List.mem_append.2 (Or.inl (e ▸ hx)))
  · exact h3 x hx y hy

theorem other_blk {A C : List HW} {a : HW} (h : ((A ++ a :: C).map HW.blk).Nodup) : ∀ x ∈ A ++ C, x.blk ≠ a.blk := by
  rw [List.map_append, List.map_cons] at h
  obtain ⟨_, h2⟩ := nodup_split h
  intro x hx e
  apply h2
  rw [← List.map_append, ← e]
  exact List.mem_map_of_mem hx
theorem other_arr {A C : List HW} {a : HW} (h : ((A ++ a :: C).filterMap arr).Nodup) : ∀ x ∈ A ++ C, ∀ g, arr x = some g → arr a ≠ some g := by
  intro x hx g hg ha
  rw [List.filterMap_append, List.filterMap_cons, ha] at h
  obtain ⟨_, h2⟩ := nodup_split h
  apply h2
  rw [← List.filterMap_append]
  exact List.mem_filterMap.2 ⟨x, hx, hg⟩
theorem swap_arr {A C : List HW} {a a' : HW} (h : ((A ++ a :: C).filterMap arr).Nodup) (h2 : arr a' = arr a ∨ ∃ g, arr a' = some g ∧ ∀ x ∈ A ++ C, arr x ≠ some g) : ((A ++ a' :: C).filterMap arr).Nodup := by
  rcases h2 with e | ⟨g, e, hn⟩
  · rw [List.filterMap_append, List.filterMap_cons, e, ← List.filterMap_cons, ← List.filterMap_append]
    exact h
  · have h3 : ((A ++ C).filterMap arr).Nodup := by
      rw [List.filterMap_append, List.filterMap_cons] at h
      rw [List.filterMap_append]
      cases ha : arr a with
      | none => rw [ha] at h; exact h
      | some k => rw [ha] at h; exact (nodup_split h).1
    rw [List.filterMap_append, List.filterMap_cons, e]
    rw [List.filterMap_append] at h3
    refine nodup_join h3 fun hm => ?_
    rw [← List.filterMap_append] at hm
    obtain ⟨x, hx, hg⟩ := List.mem_filterMap.1 hm
    exact hn x hx hg

theorem mem_acc {A C : List HW} {a x : HW} (h : x ∈ A ++ a :: C) : x = a ∨ x ∈ A ++ C := by
  rcases List.mem_append.1 h with h | h
  · exact Or.inr (List.mem_append.2 (Or.inl h))
  · rcases List.mem_cons.1 h with h | h
    · exact Or.inl h
    · exact Or.inr (List.mem_append.2 (Or.inr h))
theorem mem_back {A C : List HW} {a x : HW} (h : x ∈ A ++ C) : x ∈ A ++ a :: C := by
  rcases List.mem_append.1 h with h | h
  · exact List.mem_append.2 (Or.inl h)
  · exact List.mem_append.2 (Or.inr (List.mem_cons_of_mem _ h))

theorem setAcc_acc (hs : HS) (a : HW) : (hs.setAcc a).acc = a := by
  obtain ⟨top, frames, ov⟩ := hs
  cases frames <;> rfl
theorem setAcc_cur (hs : HS) (a : HW) : (hs.setAcc a).curV = hs.curV ∧ (hs.setAcc a).ov = hs.ov := by
  obtain ⟨top, frames, ov⟩ := hs
  cases frames <;> exact ⟨rfl, rfl⟩

theorem SB.push {N : Nat} {hs : HS} {w w1 : World} (h : SB N hs w) {us : List Value} {qs : List Part} (hq : PartsAt w (hs.live N) us qs) {v' : Value}
    (hown : w1.ownsRow (N + 6) 72 1 v' (hs.acc.vals.length + us.length) (hs.acc.vals ++ us)) (hg : w.grownBy w1 hs.acc.v.ownBlock) (hv : v'.ownBlock = hs.acc.v.ownBlock ∨ ∃ g, v'.ownBlock = some g ∧ w.heap.size ≤ g) :
    SB N (hs.setAcc ⟨hs.acc.blk, v', hs.acc.vals ++ us, hs.acc.ps ++ qs⟩) (w1.setCell ⟨hs.acc.blk, 0, none⟩ v') ∧ Safe (hs.live N) ((hs.setAcc ⟨hs.acc.blk, v', hs.acc.vals ++ us, hs.acc.ps ++ qs⟩).live N) w (w1.setCell ⟨hs.acc.blk, 0, none⟩ v') := by
  obtain ⟨A, C, hw, hset⟩ := words_acc hs
  have hmem := acc_mem hs
  have ha := h.words _ hmem
  have hdw := h.dw
  have hda : (hs.words.filterMap arr).Nodup := h.da
  rw [hw] at hdw hda
  obtain ⟨a, hae⟩ : ∃ a, hs.acc = a := ⟨_, rfl⟩
  rw [hae] at hw hmem ha hdw hda hown hg hv ⊢
  -- what is kept
  have keep : ∀ k, k < w.heap.size → k ≠ a.blk → a.v.ownBlock ≠ some k → (w1.setCell ⟨a.blk, 0, none⟩ v').heap[k]? = w.heap[k]? := by
    intro k hk hne ho
    rw [Below.heap_setCell _ _ _ _ hne]
    exact hg.block k hk (fun e => ho e.symm)
  have lt_ : ∀ {k : Nat} {o : Obj}, w.heap[k]? = some o → k < w.heap.size := fun hk => (Array.getElem?_eq_some_iff.1 hk).1
  have hab : ∀ {k : Nat} {c : Array Value} {T : TypeId}, w.heap[k]? = some (.cells c T (0, 0)) → T ≠ 40 → k ≠ a.blk := fun {k c T} hk hT e => by
    rw [e, ha.blk] at hk
    simp only [Option.some.injEq, Obj.cells.injEq] at hk
    exact hT hk.2.1.symm
  have haa : ∀ {k : Nat} {c : Array Value} {T : TypeId}, w.heap[k]? = some (.cells c T (0, 0)) → T ≠ 72 → a.v.ownBlock ≠ some k := fun {k c T} hk hT e => by
    obtain ⟨_, c', hc'⟩ := own_block ha.own e
    rw [hk] at hc'
    simp only [Option.some.injEq, Obj.cells.injEq] at hc'
    exact hT hc'.2.1
  have by_type : ∀ {k : Nat} {c : Array Value} {T : TypeId}, w.heap[k]? = some (.cells c T (0, 0)) → T ≠ 40 → T ≠ 72 → (w1.setCell ⟨a.blk, 0, none⟩ v').heap[k]? = some (.cells c T (0, 0)) := fun {k c T} hk h1 h2 => (keep k (lt_ hk) (hab hk h1) (haa hk h2)).trans hk
  have own_type : ∀ {e n v xs}, w.ownsRow (N + 6) e 1 v n xs → e ≠ 40 → e ≠ 72 → (w1.setCell ⟨a.blk, 0, none⟩ v').ownsRow (N + 6) e 1 v n xs := fun {e n v xs} ho h1 h2 => own_kept ho (fun g _ _ ⟨c, hc⟩ => keep g (lt_ hc) (hab hc h1) (haa hc h2))
  have hblkw : a.blk < w.heap.size := lt_ ha.blk
  -- the new live set
  have hlive : ∀ k, k < w.heap.size → ¬ hs.live0 N k → ¬ (hs.setAcc ⟨a.blk, v', a.vals ++ us, a.ps ++ qs⟩).live0 N k := by
    intro k hk hn hl
    apply hn
    rcases hl with hl | ⟨x, hx, hl⟩ | ⟨f, hf, hl⟩ | hl
    · exact Or.inl hl
    · rw [hset] at hx
      rcases mem_acc hx with rfl | hx
      · rcases hl with hl | hl
        · exact Or.inr (Or.inl ⟨a, hmem, Or.inl hl⟩)
        · rcases hv with e | ⟨g, e, hge⟩
          · exact Or.inr (Or.inl ⟨a, hmem, Or.inr (e.symm.trans hl)⟩)
          · have : g = k := Option.some.inj (e.symm.trans hl)
            exact absurd hk (by omega)
      · exact Or.inr (Or.inl ⟨x, by rw [hw]; exact mem_back hx, hl⟩)
    · obtain ⟨top, frames, ov⟩ := hs
      cases frames with
      | nil => exact Or.inr (Or.inr (Or.inl ⟨f, hf, hl⟩))
      | cons f0 r =>
        rcases List.mem_cons.1 hf with rfl | hf
        · exact Or.inr (Or.inr (Or.inl ⟨f0, List.mem_cons_self .., hl⟩))
        · exact Or.inr (Or.inr (Or.inl ⟨f, List.mem_cons_of_mem _ hf, hl⟩))
    · rw [(setAcc_cur hs _).2] at hl
      exact Or.inr (Or.inr (Or.inr hl))
  have hsafe0 : Safe (hs.live0 N) ((hs.setAcc ⟨a.blk, v', a.vals ++ us, a.ps ++ qs⟩).live0 N) w (w1.setCell ⟨a.blk, 0, none⟩ v') := by
    refine ⟨fun k hk hn => keep k hk (fun e => hn (Or.inr (Or.inl ⟨a, hmem, Or.inl e⟩))) (fun e => hn (Or.inr (Or.inl ⟨a, hmem, Or.inr e⟩))), hlive⟩
  have hsafe := hsafe0.more
  -- frames
  have hfr : ∀ f ∈ (hs.setAcc ⟨a.blk, v', a.vals ++ us, a.ps ++ qs⟩).frames, FOk N (w1.setCell ⟨a.blk, 0, none⟩ v') f := by
    intro f hf
    obtain ⟨f', hf', e1, e2, e3, e4⟩ : ∃ f' ∈ hs.frames, f.blk = f'.blk ∧ f.seq = f'.seq ∧ f.ev = f'.ev ∧ f.words.map (fun x => ptr x.blk) = f'.words.map (fun x => ptr x.blk) := by
      obtain ⟨top, frames, ov⟩ := hs
      cases frames with
      | nil => exact ⟨f, hf, rfl, rfl, rfl, rfl⟩
      | cons f0 r =>
        have hae' : f0.acc = a := hae
        rcases List.mem_cons.1 hf with rfl | hf
        · exact ⟨f0, List.mem_cons_self .., rfl, rfl, rfl, by simp [HF.words, hae']⟩
        · exact ⟨f, List.mem_cons_of_mem _ hf, rfl, rfl, rfl, rfl⟩
    have hk := h.frames f' hf'
    have hlen : f.words.length = f'.words.length := by
      have := congrArg List.length e4
      simpa using this
    refine ⟨?_, ?_, by rw [e1]; exact hk.far⟩
    · rw [e1, e2, e3]
      exact by_type hk.blk (by decide) (by decide)
    · rw [e3, e4, hlen]
      exact own_type hk.own (by decide) (by decide)
  have hcur := setAcc_cur hs ⟨a.blk, v', a.vals ++ us, a.ps ++ qs⟩
  refine ⟨{
    topBlk := by
      obtain ⟨top, frames, ov⟩ := hs
      cases frames with
      | nil =>
        have hae' : top = a := hae
        subst hae'
        exact h.topBlk
      | cons f r => exact h.topBlk
    pw := ⟨h.pw.1, h.pw.2.elim fun c hc => ⟨c, (keep _ (lt_ hc) (fun e => by have := ha.far; have := h.pw.1; omega) (fun e => by have := (own_block ha.own e).1; have := h.pw.1; omega)).trans hc⟩⟩
    b1 := by_type h.b1 (by decide) (by decide)
    b2 := by
      rw [setAcc_acc]
      have := h.b2
      rw [hae] at this
      exact by_type this (by decide) (by decide)
    b3 := by rw [hcur.1]; exact by_type h.b3 (by decide) (by decide)
    b4 := by rw [hcur.2]; exact by_type h.b4 (by decide) (by decide)
    b5 := by_type h.b5 (by decide) (by decide)
    opens := by
      have e : (hs.setAcc ⟨a.blk, v', a.vals ++ us, a.ps ++ qs⟩).frames.map (fun f => ptr f.blk) = hs.frames.map fun f => ptr f.blk := by
        obtain ⟨top, frames, ov⟩ := hs
        cases frames <;> rfl
      have e2 : (hs.setAcc ⟨a.blk, v', a.vals ++ us, a.ps ++ qs⟩).frames.length = hs.frames.length := by
        have := congrArg List.length e
        simpa using this
      rw [hcur.2, e2, List.map_reverse, e, ← List.map_reverse]
      exact own_type h.opens (by decide) (by decide)
    words := by
      intro x hx
      rw [hset] at hx
      rcases mem_acc hx with rfl | hx
      · have hab1 : w1.heap[a.blk]? = some (.cells #[a.v] 40 (0, 0)) := by
          rw [hg.block a.blk hblkw (fun e => haa ha.blk (by decide) e.symm)]
          exact ha.blk
        refine ⟨?_, ?_, (ha.parts.append hq).safe hsafe, ha.far⟩
        · rw [heap_setCell_same _ _ _ _ _ _ hab1]
          rfl
        · show (w1.setCell ⟨a.blk, 0, none⟩ v').ownsRow (N + 6) 72 1 v' (a.vals ++ us).length (a.vals ++ us)
          rw [List.length_append]
          refine own_kept hown (fun g _ _ ⟨c, hc⟩ => Below.heap_setCell _ _ _ _ (fun e => ?_))
          rw [e, hab1] at hc
          simp only [Option.some.injEq, Obj.cells.injEq] at hc
          exact absurd hc.2.1 (by decide)
      · have hx' : x ∈ hs.words := by rw [hw]; exact mem_back hx
        have hk := h.words x hx'
        refine ⟨?_, ?_, hk.parts.safe hsafe, hk.far⟩
        · rw [keep x.blk (lt_ hk.blk) (other_blk hdw x hx) (haa hk.blk (by decide))]
          exact hk.blk
        · exact own_kept hk.own (fun g hgx _ ⟨c, hc⟩ => keep g (lt_ hc) (hab hc (by decide)) (other_arr hda x hx g hgx))
    frames := hfr
    dw := by rw [hset]; rw [List.map_append, List.map_cons] at hdw ⊢; exact hdw
    da := by
      rw [hset]
      refine swap_arr hda ?_
      rcases hv with e | ⟨g, e, hge⟩
      · exact Or.inl e
      · refine Or.inr ⟨g, e, fun x hx hgx => ?_⟩
        have hk := h.words x (by rw [hw]; exact mem_back hx)
        obtain ⟨_, c, hc⟩ := own_block hk.own hgx
        exact absurd (lt_ hc) (by omega)
    df := by
      have e : (hs.setAcc ⟨a.blk, v', a.vals ++ us, a.ps ++ qs⟩).frames.map HF.blk = hs.frames.map HF.blk := by
        obtain ⟨top, frames, ov⟩ := hs
        cases frames <;> rfl
      rw [e]; exact h.df
    de := by
      have e : (hs.setAcc ⟨a.blk, v', a.vals ++ us, a.ps ++ qs⟩).frames.filterMap (fun f => f.ev.ownBlock) = hs.frames.filterMap fun f => f.ev.ownBlock := by
        obtain ⟨top, frames, ov⟩ := hs
        cases frames <;> rfl
      rw [e]; exact h.de }, hsafe⟩
end Go.Proofs.YtmcoifhiiagfpaaDoor

namespace Go.Proofs.YtmcoifhiiagfpaaDoor
open Go.RowKit
set_option linter.unusedSectionVars false
variable [Pw]

def HF.fr (f : HF) : Frame := ⟨f.seq, f.done.map HW.ps, f.acc.ps⟩
def HS.st (hs : HS) : St := ⟨hs.top.ps, hs.frames.map HF.fr⟩
/-- The state in memory, and finished parts beside it. -/
def Sb (N : Nat) (st : St) (xs : List Value) (ys : List Part) (w : World) : Prop := ∃ hs, SB N hs w ∧ hs.st = st ∧ PartsAt w (hs.live N) xs ys

/-- The list in hand. -/
def St.cur (st : St) : List Part := match st.stack with | [] => st.top | f :: _ => f.acc

theorem st_push (hs : HS) (v : Value) (us : List Value) (qs : List Part) : (hs.setAcc ⟨hs.acc.blk, v, hs.acc.vals ++ us, hs.acc.ps ++ qs⟩).st = hs.st.push qs := by
  obtain ⟨top, frames, ov⟩ := hs
  cases frames <;> rfl
theorem st_cur (hs : HS) : hs.st.cur = hs.acc.ps := by
  obtain ⟨top, frames, ov⟩ := hs
  cases frames <;> rfl

theorem SB.lit_free {N : Nat} {hs : HS} {w : World} (h : SB N hs w) {q : Nat} {s : ByteArray} (hq : LitAt w q s) : ¬ hs.live N q := by
  obtain ⟨a, b, c, d, hq⟩ := hq
  have no : ∀ {c' : Array Value} {T : TypeId}, w.heap[q]? = some (.cells c' T (0, 0)) → T ≠ 69 → False := fun {c' T} hk hT => by
    rw [hq] at hk
    simp only [Option.some.injEq, Obj.cells.injEq] at hk
    exact hT hk.2.1.symm
  have hN := (h.words hs.top (List.mem_cons_self ..)).blk
  rw [h.topBlk] at hN
  rintro ((⟨h1, h2⟩ | ⟨x, hx, e | e⟩ | ⟨f, hf, e | e⟩ | e) | e)
  · have hq6 : q = N ∨ q = N + 1 ∨ q = N + 2 ∨ q = N + 3 ∨ q = N + 4 ∨ q = N + 5 := by omega
    rcases hq6 with rfl | rfl | rfl | rfl | rfl | rfl
    · exact no hN (by decide)
    · exact no h.b1 (by decide)
    · exact no h.b2 (by decide)
    · exact no h.b3 (by decide)
    · exact no h.b4 (by decide)
    · exact no h.b5 (by decide)
  · subst e; exact no (h.words x hx).blk (by decide)
  · obtain ⟨_, c', hc⟩ := own_block (h.words x hx).own e
    exact no hc (by decide)
  · subst e; exact no (h.frames f hf).blk (by decide)
  · obtain ⟨_, c', hc⟩ := own_block (h.frames f hf).own e
    exact no hc (by decide)
  · obtain ⟨_, c', hc⟩ := own_block h.opens e
    exact no hc (by decide)
  · obtain ⟨_, c', hc⟩ := h.pw
    rw [← e] at hc
    exact no hc (by decide)

theorem WOk.ne {N : Nat} {L : Nat → Prop} {w : World} {x : HW} (h : WOk N L w x) : x.v.ownBlock ≠ some x.blk := fun e => by
  obtain ⟨_, c, hc⟩ := own_block h.own e
  rw [h.blk] at hc
  simp only [Option.some.injEq, Obj.cells.injEq] at hc
  exact absurd hc.2.1 (by decide)
/-- The word's cell behind an append to its row. -/
theorem WOk.grown {N : Nat} {L : Nat → Prop} {w w1 : World} {x : HW} (h : WOk N L w x) {W : World} (hW : ∀ k, k < w.heap.size → W.heap[k]? = w.heap[k]?) (hz : w.heap.size ≤ W.heap.size) (hg : W.grownBy w1 x.v.ownBlock) : w1.heap[x.blk]? = some (.cells #[x.v] 40 (0, 0)) := by
  have hlt : x.blk < w.heap.size := (Array.getElem?_eq_some_iff.1 h.blk).1
  rw [hg.block x.blk (by omega) (fun e => h.ne e.symm), hW x.blk hlt]
  exact h.blk
/-- A box behind an append to the word's row. -/
theorem WOk.box {N : Nat} {L : Nat → Prop} {w w1 : World} {x : HW} (h : WOk N L w x) {W : World} (hW : ∀ k, k < w.heap.size → W.heap[k]? = w.heap[k]?) (hz : w.heap.size ≤ W.heap.size) (hg : W.grownBy w1 x.v.ownBlock) {k : Nat} {o : Obj} (hk : k < N + 6) (ho : w.heap[k]? = some o) : w1.heap[k]? = some o := by
  have hlt : k < w.heap.size := (Array.getElem?_eq_some_iff.1 ho).1
  rw [hg.block k (by omega) (fun e => by have := (own_block h.own e.symm).1; omega), hW k hlt]
  exact ho
theorem alloc_kept (w : World) (o : Obj) : ∀ k, k < w.heap.size → (w.alloc o).drew.heap[k]? = w.heap[k]? := fun k hk => Below.heap_alloc w o k hk
theorem alloc_size (w : World) (o : Obj) : (w.alloc o).drew.heap.size = w.heap.size + 1 := World.size_alloc w o

/-- What was there below N is as it was, and so are literals and the boxes of numbers and of pointers to literals. -/
structure Still (N : Nat) (w w' : World) : Prop where
  bel : Below N w w'
  kin : ∀ (k : Nat) (c : Array Value) (T : TypeId) (fz : Nat × Nat), w.heap[k]? = some (.cells c T fz) → (T = 3 ∨ T = 67 ∨ T = 69) → w'.heap[k]? = some (.cells c T fz)
theorem Still.refl (N : Nat) (w : World) : Still N w w := ⟨Below.refl N w, fun _ _ _ _ h _ => h⟩
theorem Still.trans {N : Nat} {w w1 w2 : World} (h : Still N w w1) (k : Still N w1 w2) : Still N w w2 := ⟨h.bel.trans k.bel, fun i c T fz h1 h2 => k.kin i c T fz (h.kin i c T fz h1 h2) h2⟩
theorem Still.of_below {N : Nat} {w w' : World} (h : Below w.heap.size w w') (hN : N ≤ w.heap.size) : Still N w w' := ⟨h.mono hN, fun k _ _ _ hk _ => (h.block k (Array.getElem?_eq_some_iff.1 hk).1).trans hk⟩
theorem Still.lit {N : Nat} {w w' : World} (h : Still N w w') {q : Nat} {s : ByteArray} (hq : LitAt w q s) : LitAt w' q s := by
  obtain ⟨a, b, c, d, hq⟩ := hq
  exact ⟨a, b, c, d, h.kin _ _ _ _ hq (Or.inr (Or.inr rfl))⟩

/-- Nothing but words and rows of parts has been turned. -/
def KeepB (w w' : World) : Prop := ∀ (k : Nat) (c : Array Value) (T : TypeId) (fz : Nat × Nat), w.heap[k]? = some (.cells c T fz) → T ≠ 40 → T ≠ 72 → w'.heap[k]? = some (.cells c T fz)
theorem KeepB.refl (w : World) : KeepB w w := fun _ _ _ _ h _ _ => h
theorem KeepB.trans {w w1 w2 : World} (h : KeepB w w1) (k : KeepB w1 w2) : KeepB w w2 := fun i c T fz hi h1 h2 => k i c T fz (h i c T fz hi h1 h2) h1 h2
theorem KeepB.of_below {w w' : World} (h : Below w.heap.size w w') : KeepB w w' := fun k _ _ _ hk _ _ => (h.block k (Array.getElem?_eq_some_iff.1 hk).1).trans hk

/-- Behind the append and the store. -/
theorem SB.push_end2 {N : Nat} {hs : HS} {w W w1 : World} {a : HW} (h : SB N hs w) (hae : hs.acc = a) {us : List Value} {qs : List Part} (hq : PartsAt w (hs.live N) us qs) {xs : List Value} {ys : List Part} (hx : PartsAt w (hs.live N) xs ys) (hB : Below w.heap.size w W) {g cap : Nat}
    (hown : w1.ownsRow (N + 6) 72 1 (.slice (some ⟨g, 0, none⟩) (a.vals.length + us.length) cap) (a.vals.length + us.length) (a.vals ++ us)) (hg : W.grownBy w1 a.v.ownBlock) (hat : a.v.ownBlock = some g ∨ g = W.heap.size) :
    Sb N (hs.st.push qs) xs ys (w1.setCell ⟨a.blk, 0, none⟩ (.slice (some ⟨g, 0, none⟩) (a.vals.length + us.length) cap)) ∧ Still N w (w1.setCell ⟨a.blk, 0, none⟩ (.slice (some ⟨g, 0, none⟩) (a.vals.length + us.length) cap)) ∧ KeepB w (w1.setCell ⟨a.blk, 0, none⟩ (.slice (some ⟨g, 0, none⟩) (a.vals.length + us.length) cap)) := by
  subst hae
  have hb : ∀ k, k < w.heap.size → W.heap[k]? = w.heap[k]? := fun k hk => hB.block k hk
  have hW := h.grow hb
  have hsf : Safe (hs.live N) (hs.live N) w W := ⟨fun k hk _ => hb k hk, fun _ _ x => x⟩
  have hqW : PartsAt W (hs.live N) us qs := hq.safe hsf
  have hxW : PartsAt W (hs.live N) xs ys := hx.safe hsf
  have hp := hW.push hqW hown hg (by
    rcases hat with e | e
    · exact Or.inl e.symm
    · exact Or.inr ⟨g, rfl, by omega⟩)
  have ha := h.words _ (acc_mem hs)
  have hN := h.lt
  have hfar : N ≤ hs.acc.blk := by have := ha.far; omega
  refine ⟨⟨_, hp.1, st_push hs _ us qs, hxW.safe hp.2⟩, ?_⟩
  have h1 : Below N w w1 := (hB.mono (by omega)).grown hg (by have := hB.size; omega) (fun k hk => by have := (own_block ha.own hk).1; omega)
  have key : ∀ (k : Nat) (c : Array Value) (T : TypeId) (fz : Nat × Nat), w.heap[k]? = some (.cells c T fz) → T ≠ 40 → T ≠ 72 → (w1.setCell ⟨hs.acc.blk, 0, none⟩ (.slice (some ⟨g, 0, none⟩) (hs.acc.vals.length + us.length) cap)).heap[k]? = some (.cells c T fz) := ?_
  · exact ⟨⟨h1.setCell (p := ⟨hs.acc.blk, 0, none⟩) hfar _, fun k c T fz hk hT => key k c T fz hk (by rintro rfl; revert hT; decide) (by rintro rfl; revert hT; decide)⟩, key⟩
  intro k c T fz hk hT1 hT2
  have hlt : k < w.heap.size := (Array.getElem?_eq_some_iff.1 hk).1
  have n1 : k ≠ hs.acc.blk := fun e => by
    rw [e, ha.blk] at hk
    simp only [Option.some.injEq, Obj.cells.injEq] at hk
    exact hT1 hk.2.1.symm
  have n2 : some k ≠ hs.acc.v.ownBlock := fun e => by
    obtain ⟨_, c', hc⟩ := own_block ha.own e.symm
    rw [hk] at hc
    simp only [Option.some.injEq, Obj.cells.injEq] at hc
    exact hT2 hc.2.1
  rw [Below.heap_setCell _ _ _ _ n1, hg.block k (by have := hB.size; omega) n2, hb k hlt]
  exact hk
theorem SB.push_end {N : Nat} {hs : HS} {w W w1 : World} {a : HW} (h : SB N hs w) (hae : hs.acc = a) {us : List Value} {qs : List Part} (hq : PartsAt w (hs.live N) us qs) {xs : List Value} {ys : List Part} (hx : PartsAt w (hs.live N) xs ys) (hB : Below w.heap.size w W) {g cap : Nat}
    (hown : w1.ownsRow (N + 6) 72 1 (.slice (some ⟨g, 0, none⟩) (a.vals.length + us.length) cap) (a.vals.length + us.length) (a.vals ++ us)) (hg : W.grownBy w1 a.v.ownBlock) (hat : a.v.ownBlock = some g ∨ g = W.heap.size) :
    Sb N (hs.st.push qs) xs ys (w1.setCell ⟨a.blk, 0, none⟩ (.slice (some ⟨g, 0, none⟩) (a.vals.length + us.length) cap)) ∧ Still N w (w1.setCell ⟨a.blk, 0, none⟩ (.slice (some ⟨g, 0, none⟩) (a.vals.length + us.length) cap)) :=
  let ⟨a, b, _⟩ := h.push_end2 hae hq hx hB hown hg hat
  ⟨a, b⟩

theorem Tryd.info_part : (Tryd.prog.info? 72).map (fun i => (i.zero, i.size, i.bytes)) = some (some .nilIface, 1, 16) := by kernel_rfl

set_option maxRecDepth 100000 in
set_option maxHeartbeats 2000000 in
theorem addLit_any2 (N : Nat) (st : St) (xs : List Value) (ys : List Part) (w : World) (q : Nat) (s : ByteArray) (h : Sb N st xs ys w) (hq : LitAt w q s) (hl : st.cur.length ≤ 100000000) :
    Calls Tryd.prog 25 #[ptr q, ptr (N + 2)] w fun e w' => e = .returned (.tuple #[]) ∧ Sb N (st.push [.lit s]) xs ys w' ∧ Still N w w' ∧ KeepB w w' := by
  obtain ⟨ib, hib, hb0, hb1, hb2⟩ := info_parts Tryd.info_part
  obtain ⟨hs, hsb, rfl, hxy⟩ := h
  have HXY := Lib.hid hxy
  have ha := hsb.words _ (acc_mem hs)
  have hlen := ha.parts.length
  rw [st_cur, ← hlen] at hl
  have hfree := hsb.lit_free hq
  have HP : Hid (PartsAt w (hs.live N) [.iface 67 (ptr q)] [.lit s]) := Lib.hid (.cons _ _ _ _ (.lit q s hfree hq) .nil)
  have HSB := Lib.hid hsb
  have hcb : w.cell? ⟨N + 2, 0, none⟩ = some (.pointer (some ⟨hs.acc.blk, 0, none⟩)) := by rw [Lib.cell_of_heap hsb.b2]; rfl
  have hcv : w.cell? ⟨hs.acc.blk, 0, none⟩ = some hs.acc.v := by rw [Lib.cell_of_heap ha.blk]; rfl
  have hfz : w.frozen? ⟨hs.acc.blk, 0, none⟩ = false := Lib.frozen_of_heap ha.blk 0
  have HA := Lib.hid ha
  have HB2 := hsb.b2
  have hN := hsb.lt
  have hn2 : N + 2 < w.heap.size := by omega
  have hblk := (show hs.acc.blk < w.heap.size from (Array.getElem?_eq_some_iff.1 ha.blk).1)
  have HL := Lib.hid hl
  obtain ⟨a, hae⟩ : ∃ a, hs.acc = a := ⟨_, rfl⟩
  have HAE := Lib.hid hae
  rw [hae] at hcb hcv hfz HA hblk HL HB2
  have HB2 := Lib.hid HB2
  clear hq hfree hsb ha hlen hl hae hxy
  unfold ptr
  go_enter Tryd.func25, Tryd.ntmps25
  go_region_law (refine step_append_lies _ rfl _ _ 31 rfl (N + 6) 72 ib .nilIface 1 16 Tryd.underlying31 hib hb0 hb1 hb2 rfl (by decide) _ _ _ rfl (HA.out.own.alloc _) ⟨w.heap.size, 0, none⟩ 1 1 [.iface 67 (.pointer (some ⟨q, 0, none⟩))] rfl rfl (cell_one_new w _ _) (by intro u hu; simp at hu; subst hu; rfl) (by decide) (by have := HL.out; unfold maxLen; omega) (by have := HL.out; omega) (by rw [alloc_size]; omega) _ rfl ?_; intro g cap w1 hown1 hgrow1 hat1 hlt1; have hh := HA.out.grown (alloc_kept w _) (by rw [alloc_size]; omega) hgrow1; have hcv1 : w1.cell? ⟨a.blk, 0, none⟩ = some a.v := (Lib.cell_of_heap hh 0).trans rfl; have hfz1 : w1.frozen? ⟨a.blk, 0, none⟩ = false := Lib.frozen_of_heap hh 0; have hcb1 : w1.cell? ⟨N + 2, 0, none⟩ = some (.pointer (some ⟨a.blk, 0, none⟩)) := (Lib.cell_of_heap (HA.out.box (alloc_kept w _) (by rw [alloc_size]; omega) hgrow1 (by omega) HB2.out) 0).trans rfl; have HO := Lib.hid (And.intro hown1 (And.intro hgrow1 hat1)); clear hown1 hgrow1 hat1 hh)
  all_goals
    go_wp2
    refine bodyPost_end (results_none rfl _ _ _) rfl ?_
    exact ⟨rfl, HSB.out.push_end2 HAE.out HP.out HXY.out (((Below.refl _ _).alloc (Nat.le_refl _) _).drew) HO.out.1 HO.out.2.1 HO.out.2.2⟩
theorem addLit_any (N : Nat) (st : St) (xs : List Value) (ys : List Part) (w : World) (q : Nat) (s : ByteArray) (h : Sb N st xs ys w) (hq : LitAt w q s) (hl : st.cur.length ≤ 100000000) :
    Calls Tryd.prog 25 #[ptr q, ptr (N + 2)] w fun e w' => e = .returned (.tuple #[]) ∧ Sb N (st.push [.lit s]) xs ys w' ∧ Still N w w' :=
  (addLit_any2 N st xs ys w q s h hq hl).mono fun _ _ ⟨a, b, c, _⟩ => ⟨a, b, c⟩
end Go.Proofs.YtmcoifhiiagfpaaDoor

/-
  What prepareConfig makes of a Config with an environment of pairs.
-/
import Derived.Test.YthcminjdkgmeoaaGreatDoorGet
namespace Go.Proofs.YthcminjdkgmeoaaGreatDoor
open Go.RowKit
set_option linter.unusedVariables false

/-- The pairs lie elsewhere than in block b. -/
def EnvP (R : List (List UInt8)) (v : Value) (b : Nat) (w : World) : Prop := ∃ ao c, v = .slice ao R.length c ∧ (R ≠ [] → ∃ P, P ≠ b ∧ ao = some ⟨P, 0, none⟩ ∧ ∀ (k : Nat) x, R[k]? = some x → w.cell? ⟨P, k, none⟩ = some (strL x))
section
variable {R : List (List UInt8)} {v : Value} {b : Nat} {w w' : World}
theorem EnvP.at (h : EnvP R v b w) : EnvAt R v w := by
  obtain ⟨ao, c, h1, h2⟩ := h
  exact ⟨ao, c, h1, fun hne => (h2 hne).imp fun P h => h.2⟩
theorem EnvAt.apart (h : EnvAt R v w) {u : TypeId} {x : Value} (hb : w.cell? ⟨b, 0, none⟩ = some (.iface u x)) : EnvP R v b w := by
  obtain ⟨ao, c, h1, h2⟩ := h
  refine ⟨ao, c, h1, fun hne => ?_⟩
  obtain ⟨P, h3, h4⟩ := h2 hne
  refine ⟨P, ?_, h3, h4⟩
  rintro rfl
  obtain ⟨y, r, rfl⟩ := List.exists_cons_of_ne_nil hne
  have := h4 0 y rfl
  rw [hb] at this
  cases this
theorem EnvP.below (h : EnvP R v b w) (hb : Below w.heap.size w w') : EnvP R v b w' := by
  obtain ⟨ao, c, h1, h2⟩ := h
  refine ⟨ao, c, h1, fun hne => ?_⟩
  obtain ⟨P, h0, h3, h4⟩ := h2 hne
  exact ⟨P, h0, h3, fun k x hx => (hb.cell (p := ⟨P, k, none⟩) (World.block_lt_of_cell? w _ (h4 k x hx))).trans (h4 k x hx)⟩
theorem EnvP.set (h : EnvP R v b w) (k : Nat) (x : Value) : EnvP R v b (w.setCell ⟨b, k, none⟩ x) := by
  obtain ⟨ao, c, h1, h2⟩ := h
  refine ⟨ao, c, h1, fun hne => ?_⟩
  obtain ⟨P, h0, h3, h4⟩ := h2 hne
  exact ⟨P, h0, h3, fun j y hy => by rw [World.cell?_setCell_other _ _ _ _ (by intro e; cases e; exact h0 rfl)]; exact h4 j y hy⟩
end

/-- The first of two environments that is none. -/
theorem or_first (g c : Nat) (u : TypeId) (x : Value) (w : World) (h0 : w.cell? ⟨g, 0, none⟩ = some (.iface u x)) :
    Calls Tryz.prog 20 #[.slice (some ⟨g, 0, none⟩) 2 c] w fun e w' => e = .returned (.iface u x) ∧ w = w' := by
  go_enter Tryz.func20, Tryz.ntmps20
  go_wp2
  refine wp_loop_rounds 1 ?_
  rw [rounds_succ]
  go_wp2
  go_ret
  exact ⟨rfl, rfl⟩

/-- A Config in block b: its environment, its IFS text, no ReadDir. -/
structure IsCfg (w : World) (b : Nat) (env : Value) (ifs : ByteArray) : Prop where
  c0 : w.cell? ⟨b, 0, none⟩ = some env
  c3 : w.cell? ⟨b, 3, none⟩ = some .nilFunc
  c25 : w.cell? ⟨b, 25, none⟩ = some (.string ifs)
  f0 : w.frozen? ⟨b, 0, none⟩ = false
  f25 : w.frozen? ⟨b, 25, none⟩ = false

/-- What prepareConfig leaves: the same Config, its IFS text set; nothing else is turned. -/
def PrepOut (R : List (List UInt8)) (v : Value) (b : Nat) (ifs : ByteArray) (w : World) (e : Ending) (w' : World) : Prop :=
  e = .returned (.pointer (some ⟨b, 0, none⟩)) ∧ IsCfg w' b (.iface 53 (.agg #[.bool false, v])) ifs ∧ EnvAt R v w' ∧ w.grownBy w' (some b)

/-- What stays while the call works: the Config's other cells, the pair, all that is not the Config. -/
structure Keep (w : World) (b : Nat) (R : List (List UInt8)) (v : Value) (old : ByteArray) (w' : World) : Prop where
  c3 : w'.cell? ⟨b, 3, none⟩ = some .nilFunc
  c25 : w'.cell? ⟨b, 25, none⟩ = some (.string old)
  f25 : w'.frozen? ⟨b, 25, none⟩ = false
  pair : EnvP R v b w'
  grown : w.grownBy w' (some b)

theorem Keep.alloc {w w' : World} {b : Nat} {R : List (List UInt8)} {v : Value} {old : ByteArray} (h : Keep w b R v old w') (o : Obj) : Keep w b R v old (w'.alloc o) where
  c3 := by rw [World.cell?_alloc_past _ _ _ (World.block_lt_of_cell? w' _ h.c3)]; exact h.c3
  c25 := by rw [World.cell?_alloc_past _ _ _ (World.block_lt_of_cell? w' _ h.c25)]; exact h.c25
  f25 := by rw [World.frozen?_of_block (w := w') (Below.heap_alloc _ _ _ (World.block_lt_of_cell? w' _ h.c25))]; exact h.f25
  pair := h.pair.below ((Below.refl _ _).alloc (Nat.le_refl _) _)
  grown := ⟨h.grown.os, h.grown.tape, h.grown.output, by have := h.grown.size; simp; omega, fun k hk hne => (Below.heap_alloc _ _ _ (Nat.lt_of_lt_of_le hk h.grown.size)).trans (h.grown.block k hk hne)⟩

theorem Keep.store {w w' : World} {b : Nat} {R : List (List UInt8)} {v : Value} {old : ByteArray} (h : Keep w b R v old w') (x : Value) : Keep w b R v old (w'.setCell ⟨b, 0, none⟩ x) where
  c3 := by rw [World.cell?_setCell_other _ _ _ _ (by intro e; cases e)]; exact h.c3
  c25 := by rw [World.cell?_setCell_other _ _ _ _ (by intro e; cases e)]; exact h.c25
  f25 := by rw [World.frozen?_setCell]; exact h.f25
  pair := h.pair.set 0 x
  grown := ⟨h.grown.os, h.grown.tape, h.grown.output, by have := h.grown.size; simpa [World.setCell] using this, fun k hk hn => (Below.heap_setCell _ _ _ _ (fun e => hn (by rw [e]))).trans (h.grown.block k hk hn)⟩

/-- A Config's environment stands in its cell, the pointer to it in another; both may be written. -/
def Two (P b : Nat) (V : Value) (w' : World) : Prop := w'.cell? ⟨P, 0, none⟩ = some (.pointer (some ⟨b, 0, none⟩)) ∧ w'.cell? ⟨b, 0, none⟩ = some V ∧ w'.frozen? ⟨b, 0, none⟩ = false

theorem two_alloc {P b : Nat} {V : Value} {w' : World} {K : World → Prop} (hK : ∀ w o, K w → K (w.alloc o)) (h : w'.cell? ⟨P, 0, none⟩ = some (.pointer (some ⟨b, 0, none⟩)) ∧ w'.cell? ⟨b, 0, none⟩ = some V ∧ w'.frozen? ⟨b, 0, none⟩ = false ∧ K w') (o : Obj) :
    (w'.alloc o).cell? ⟨P, 0, none⟩ = some (.pointer (some ⟨b, 0, none⟩)) ∧ (w'.alloc o).cell? ⟨b, 0, none⟩ = some V ∧ (w'.alloc o).frozen? ⟨b, 0, none⟩ = false ∧ K (w'.alloc o) := by
  obtain ⟨h1, h2, h3, h4⟩ := h
  refine ⟨?_, ?_, ?_, hK _ _ h4⟩
  · rw [World.cell?_alloc_past _ _ _ (World.block_lt_of_cell? w' _ h1)]; exact h1
  · rw [World.cell?_alloc_past _ _ _ (World.block_lt_of_cell? w' _ h2)]; exact h2
  · rw [World.frozen?_of_block (w := w') (Below.heap_alloc _ _ _ (World.block_lt_of_cell? w' _ h2))]; exact h3

theorem two_store {P b : Nat} {V : Value} {w' : World} {K : World → Prop} (hPb : P ≠ b) (hK : ∀ w, K w → K (w.setCell ⟨b, 0, none⟩ V)) (h : w'.cell? ⟨P, 0, none⟩ = some (.pointer (some ⟨b, 0, none⟩)) ∧ w'.cell? ⟨b, 0, none⟩ = some V ∧ w'.frozen? ⟨b, 0, none⟩ = false ∧ K w') :
    (w'.setCell ⟨b, 0, none⟩ V).cell? ⟨P, 0, none⟩ = some (.pointer (some ⟨b, 0, none⟩)) ∧ (w'.setCell ⟨b, 0, none⟩ V).cell? ⟨b, 0, none⟩ = some V ∧ (w'.setCell ⟨b, 0, none⟩ V).frozen? ⟨b, 0, none⟩ = false ∧ K (w'.setCell ⟨b, 0, none⟩ V) := by
  obtain ⟨h1, h2, h3, h4⟩ := h
  refine ⟨?_, ?_, ?_, hK _ h4⟩
  · rw [World.cell?_setCell_other _ _ _ _ (by intro e; cases e; exact hPb rfl)]; exact h1
  · exact World.cell?_setCell_same _ _ _ h2
  · rw [World.frozen?_setCell]; exact h3

theorem two_drew {P b : Nat} {V : Value} {w' : World} {K : World → Prop} (hK : ∀ w, K w → K w.drew) (h : w'.cell? ⟨P, 0, none⟩ = some (.pointer (some ⟨b, 0, none⟩)) ∧ w'.cell? ⟨b, 0, none⟩ = some V ∧ w'.frozen? ⟨b, 0, none⟩ = false ∧ K w') :
    w'.drew.cell? ⟨P, 0, none⟩ = some (.pointer (some ⟨b, 0, none⟩)) ∧ w'.drew.cell? ⟨b, 0, none⟩ = some V ∧ w'.drew.frozen? ⟨b, 0, none⟩ = false ∧ K w'.drew := ⟨h.1, h.2.1, h.2.2.1, hK _ h.2.2.2⟩
theorem Keep.drew {w w' : World} {b : Nat} {R : List (List UInt8)} {v : Value} {old : ByteArray} (h : Keep w b R v old w') : Keep w b R v old w'.drew :=
  ⟨h.c3, h.c25, h.f25, h.pair, ⟨h.grown.os, h.grown.tape, h.grown.output, h.grown.size, h.grown.block⟩⟩

theorem funcEnv_any (f : Value) (w : World) : Calls Tryz.prog 21 #[f] w fun e w' => e = .returned (.iface 83 f) ∧ w = w' := by
  go_enter Tryz.func21, Tryz.ntmps21
  go_wp2
  go_ret
  exact ⟨rfl, rfl⟩

/-- The same with the two cells of before beside it, the IFS text by name. -/
structure Full (w : World) (b P : Nat) (V : Value) (R : List (List UInt8)) (v : Value) (ifs : ByteArray) (w' : World) : Prop where
  cP : w'.cell? ⟨P, 0, none⟩ = some (.pointer (some ⟨b, 0, none⟩))
  c0 : w'.cell? ⟨b, 0, none⟩ = some V
  f0 : w'.frozen? ⟨b, 0, none⟩ = false
  keep : Keep w b R v ifs w'

theorem Full.below {w w' w2 : World} {b P : Nat} {V : Value} {R : List (List UInt8)} {v : Value} {ifs : ByteArray} (h : Full w b P V R v ifs w') (hb : Below w'.heap.size w' w2) : Full w b P V R v ifs w2 where
  cP := (hb.cell (p := ⟨P, 0, none⟩) (World.block_lt_of_cell? w' _ h.cP)).trans h.cP
  c0 := (hb.cell (p := ⟨b, 0, none⟩) (World.block_lt_of_cell? w' _ h.c0)).trans h.c0
  f0 := (hb.frozen (p := ⟨b, 0, none⟩) (World.block_lt_of_cell? w' _ h.c0)).trans h.f0
  keep := {
    c3 := (hb.cell (p := ⟨b, 3, none⟩) (World.block_lt_of_cell? w' _ h.keep.c3)).trans h.keep.c3
    c25 := (hb.cell (p := ⟨b, 25, none⟩) (World.block_lt_of_cell? w' _ h.keep.c25)).trans h.keep.c25
    f25 := (hb.frozen (p := ⟨b, 25, none⟩) (World.block_lt_of_cell? w' _ h.keep.c25)).trans h.keep.f25
    pair := h.keep.pair.below hb
    grown := ⟨hb.os.trans h.keep.grown.os, hb.tape.trans h.keep.grown.tape, hb.output.trans h.keep.grown.output, Nat.le_trans h.keep.grown.size hb.size, fun k hk hn => (hb.block k (Nat.lt_of_lt_of_le hk h.keep.grown.size)).trans (h.keep.grown.block k hk hn)⟩ }

theorem Full.alloc {w w' : World} {b P : Nat} {V : Value} {R : List (List UInt8)} {v : Value} {ifs : ByteArray} (h : Full w b P V R v ifs w') (o : Obj) : Full w b P V R v ifs (w'.alloc o) := h.below ((Below.refl _ _).alloc (Nat.le_refl _) _)
theorem Full.drew {w w' : World} {b P : Nat} {V : Value} {R : List (List UInt8)} {v : Value} {ifs : ByteArray} (h : Full w b P V R v ifs w') : Full w b P V R v ifs w'.drew := h.below (Below.refl _ _).drew

theorem Full.setIfs {w w' : World} {b P : Nat} {V : Value} {R : List (List UInt8)} {v : Value} {ifs : ByteArray} (h : Full w b P V R v ifs w') (hP : P ≠ b) (new : ByteArray) : Full w b P V R v new (w'.setCell ⟨b, 25, none⟩ (.string new)) where
  cP := by rw [World.cell?_setCell_other _ _ _ _ (by intro e; cases e)]; exact h.cP
  c0 := by rw [World.cell?_setCell_other _ _ _ _ (by intro e; cases e)]; exact h.c0
  f0 := by rw [World.frozen?_setCell]; exact h.f0
  keep := {
    c3 := by rw [World.cell?_setCell_other _ _ _ _ (by intro e; cases e)]; exact h.keep.c3
    c25 := World.cell?_setCell_same _ _ _ h.keep.c25
    f25 := by rw [World.frozen?_setCell]; exact h.keep.f25
    pair := h.keep.pair.set 25 _
    grown := ⟨h.keep.grown.os, h.keep.grown.tape, h.keep.grown.output, by have := h.keep.grown.size; simpa [World.setCell] using this, fun k hk hn => (Below.heap_setCell _ _ _ _ (fun e => hn (by rw [e]))).trans (h.keep.grown.block k hk hn)⟩ }

/-- A variable that is not set, as a block. -/
def noneBlock : Obj := .cells #[.bool false, .bool false, .bool false, .bool false, .int .u8 0, .string ⟨#[]⟩, .slice none 0 0, .map none, .slice none 0 0] 67
theorem isSet_none (w : World) : Calls Tryz.prog 23 #[varNone] w fun e w' => e = .returned (.bool false) ∧ w.alloc noneBlock = w' := by
  unfold varNone noneBlock
  go_enter Tryz.func23, Tryz.ntmps23
  go_wp2
  go_ret
  exact ⟨rfl, rfl⟩
/-- The variable's nine cells as a block. -/
def varBlock (ifs : ByteArray) : Obj := .cells #[.bool true, .bool false, .bool true, .bool false, .int .u8 1, .string ifs, .slice none 0 0, .map none, .slice none 0 0] 67

theorem isSet_any (ifs : ByteArray) (w : World) : Calls Tryz.prog 23 #[varOf ifs] w fun e w' => e = .returned (.bool true) ∧ w.alloc (varBlock ifs) = w' := by
  unfold varOf varBlock
  go_enter Tryz.func23, Tryz.ntmps23
  go_wp2
  go_ret
  exact ⟨rfl, rfl⟩

theorem varString_any (ifs : ByteArray) (w : World) : Calls Tryz.prog 24 #[varOf ifs] w fun e w' => e = .returned (.string ifs) ∧ w.alloc (varBlock ifs) = w' := by
  unfold varOf varBlock
  go_enter Tryz.func24, Tryz.ntmps24
  go_wp2
  go_ret
  exact ⟨rfl, rfl⟩

/-- What IFS reads as for a Config. -/
def ifsOf : Option (List UInt8) → ByteArray
  | some s => ⟨(s.drop 4).toArray⟩
  | none => ⟨#[32, 9, 10]⟩
set_option maxRecDepth 100000 in
set_option maxHeartbeats 2000000 in
theorem prep_list (L R : List (List UInt8)) (hR : ResOk L R) (hn : R.length ≤ 4194304) (hs : ∀ x ∈ R, x.length ≤ 4194304) (v : Value) (old : ByteArray) (b : Nat) (w : World) (hE : EnvAt R v w)
    (hC : IsCfg w b (.iface 53 (.agg #[.bool false, v])) old) :
    Calls Tryz.prog 12 #[.pointer (some ⟨b, 0, none⟩)] w (PrepOut R v b (ifsOf (Stb.fnd (ifsL ++ [61]) R)) w) := by
  obtain ⟨c0, c3, c25, f0, f25⟩ := hC
  have lb : b < w.heap.size := World.block_lt_of_cell? w _ c0
  have hg : EnvP R v b w := hE.apart c0
  have HGET := Lib.hid (fun (w' : World) (h : EnvAt R v w') => get_any L R hR hn hs v w' h)
  obtain ⟨fo, hfo⟩ : ∃ fo, Stb.fnd (ifsL ++ [61]) R = fo := ⟨_, rfl⟩
  unfold GetOut at HGET
  rw [hfo] at HGET ⊢
  have hK0 : Keep w b R v old w := ⟨c3, c25, f25, hg, ⟨rfl, rfl, rfl, Nat.le_refl _, fun _ _ _ => rfl⟩⟩
  have hKs : ∀ w2, Keep w b R v old w2 → Keep w b R v old (w2.setCell ⟨b, 0, none⟩ (.iface 53 (.agg #[.bool false, v]))) := fun w2 h => h.store _
  have hKa : ∀ w2 o, Keep w b R v old w2 → Keep w b R v old (w2.alloc o) := fun w2 o h => h.alloc o
  have HKS := Lib.hid hKs
  have HKA := Lib.hid hKa
  have hPb : w.heap.size ≠ b := by omega
  have hKd : ∀ w2, Keep w b R v old w2 → Keep w b R v old w2.drew := fun w2 h => h.drew
  have HKD := Lib.hid hKd
  have hS0 : (w.alloc (.cells #[.pointer (some ⟨b, 0, none⟩)] 27)).cell? ⟨w.heap.size, 0, none⟩ = some (.pointer (some ⟨b, 0, none⟩)) ∧ (w.alloc (.cells #[.pointer (some ⟨b, 0, none⟩)] 27)).cell? ⟨b, 0, none⟩ = some (.iface 53 (.agg #[.bool false, v])) ∧
      (w.alloc (.cells #[.pointer (some ⟨b, 0, none⟩)] 27)).frozen? ⟨b, 0, none⟩ = false ∧ Keep w b R v old (w.alloc (.cells #[.pointer (some ⟨b, 0, none⟩)] 27)) := by
    refine ⟨by simp [go_sem], ?_, ?_, hK0.alloc _⟩
    · rw [World.cell?_alloc_past _ _ _ lb]; exact c0
    · rw [World.frozen?_of_block (w := w) (Below.heap_alloc _ _ _ lb)]; exact f0
  have HS0 := Lib.hid hS0
  clear hKs hKa hKd hS0 hK0 c3 c25 f25 hg c0 f0 hE hR hn hs hfo
  go_enter Tryz.func12, Tryz.ntmps12
  go_wp2_with fail
  generalize w.alloc (.cells #[.pointer (some ⟨b, 0, none⟩)] 27) = W0 at *
  go_region_held3 (fun w' => w'.cell? ⟨w.heap.size, 0, none⟩ = some (.pointer (some ⟨b, 0, none⟩)) ∧ w'.cell? ⟨b, 0, none⟩ = some (.iface 53 (.agg #[.bool false, v])) ∧ w'.frozen? ⟨b, 0, none⟩ = false ∧ Keep w b R v old w')
    (first
      | exact two_drew HKD.out HS0.out
      | assumption
      | exact two_drew HKD.out (two_alloc HKA.out HS0.out _)
      | exact two_drew HKD.out (two_store hPb HKS.out (two_alloc HKA.out HS0.out _)))
    (first | (go_at_call 21; refine (funcEnv_any _ _).mono ?_; rintro e w' ⟨rfl, rfl⟩) | (go_at_call 20; refine (or_first _ _ 53 (.agg #[.bool false, v]) _ ?_).mono ?_; (simp [go_sem]); rintro e w' ⟨rfl, rfl⟩))
  have hF : Full w b w.heap.size (.iface 53 (.agg #[.bool false, v])) R v old (((W0.alloc (.cells #[.iface 53 (.agg #[.bool false, v]), .iface 83 (.func (.func 22) #[] #[])] 32)).setCell ⟨b, 0, none⟩ (.iface 53 (.agg #[.bool false, v]))).drew) := by
    have hh : (fun w' : World => w'.cell? ⟨w.heap.size, 0, none⟩ = some (.pointer (some ⟨b, 0, none⟩)) ∧ w'.cell? ⟨b, 0, none⟩ = some (.iface 53 (.agg #[.bool false, v])) ∧ w'.frozen? ⟨b, 0, none⟩ = false ∧ Keep w b R v old w') (((W0.alloc (.cells #[.iface 53 (.agg #[.bool false, v]), .iface 83 (.func (.func 22) #[] #[])] 32)).setCell ⟨b, 0, none⟩ (.iface 53 (.agg #[.bool false, v]))).drew) := by assumption
    exact ⟨hh.1, hh.2.1, hh.2.2.1, hh.2.2.2⟩
  generalize ((W0.alloc (.cells #[.iface 53 (.agg #[.bool false, v]), .iface 83 (.func (.func 22) #[] #[])] 32)).setCell ⟨b, 0, none⟩ (.iface 53 (.agg #[.bool false, v]))).drew = W1 at *
  have hF2 := hF.setIfs hPb ⟨#[32, 9, 10]⟩
  have h1 := hF.cP
  have h2 := hF.c0
  have k25 := hF.keep.c25
  have kf := hF.keep.f25
  clear hF HS0 HKS HKA HKD
  go_wp2_with fail
  refine (HGET.out _ hF2.keep.pair.at).mono ?_
  rintro e W3 ⟨rfl, hb3⟩
  cases fo with
  | none =>
    rw [show ifsOf none = ⟨#[32, 9, 10]⟩ from rfl, show varV none = varNone from rfl]
    have hF3 := (hF2.below hb3).alloc noneBlock
    have p1 := hF3.cP
    have p2 := hF3.keep.c25
    have p3 := hF3.keep.f25
    have p4 := hF3.keep.c3
    unfold noneBlock at p1 p2 p3 p4
    unfold varNone
    go_wp2_with fail
    refine (isSet_none _).mono ?_
    rintro e W5 ⟨rfl, hw5⟩
    have hF6 : Full w b w.heap.size (.iface 53 (.agg #[.bool false, v])) R v ⟨#[32, 9, 10]⟩ W5 := by rw [← hw5]; exact hF3.alloc _
    clear hw5 hF3 p1 p2 p3 p4 h1 h2 k25 kf hF2 hb3
    have q1 := hF6.cP
    have q3 := hF6.keep.c3
    have HF6 := Lib.hid hF6
    clear hF6
    have hnf : ∀ w : World, (binOp .neq 36 .nilFunc .nilFunc).run Tryz.prog w = .ok (.bool false) w := fun _ => by kernel_rfl
    go_wp2_with fail
    go_ret
    exact ⟨rfl, ⟨HF6.out.c0, HF6.out.keep.c3, HF6.out.keep.c25, HF6.out.f0, HF6.out.keep.f25⟩, HF6.out.keep.pair.at, HF6.out.keep.grown⟩
  | some s =>
    obtain ⟨ifs, hifs⟩ : ∃ ifs : ByteArray, (⟨(s.drop 4).toArray⟩ : ByteArray) = ifs := ⟨_, rfl⟩
    rw [show varV (some s) = varOf ifs from congrArg varOf hifs]
    have HI : Hid (ifsOf (some s) = ifs) := Lib.hid hifs
    clear hifs
    have hF3 := (hF2.below hb3).alloc (varBlock ifs)
    have p1 := hF3.cP
    have p2 := hF3.keep.c25
    have p3 := hF3.keep.f25
    have p4 := hF3.keep.c3
    unfold varBlock at p1 p2 p3 p4
    unfold varOf
    go_wp2_with fail
    refine (isSet_any ifs _).mono ?_
    rintro e W5 ⟨rfl, hw5⟩
    have V0 : W5.cell? ⟨W3.heap.size, 0, none⟩ = some (.bool true) := by rw [← hw5, World.cell?_alloc_past _ _ _ (by simp)]; simp [go_sem]
    have V1 : W5.cell? ⟨W3.heap.size, 1, none⟩ = some (.bool false) := by rw [← hw5, World.cell?_alloc_past _ _ _ (by simp)]; simp [go_sem]
    have V2 : W5.cell? ⟨W3.heap.size, 2, none⟩ = some (.bool true) := by rw [← hw5, World.cell?_alloc_past _ _ _ (by simp)]; simp [go_sem]
    have V3 : W5.cell? ⟨W3.heap.size, 3, none⟩ = some (.bool false) := by rw [← hw5, World.cell?_alloc_past _ _ _ (by simp)]; simp [go_sem]
    have V4 : W5.cell? ⟨W3.heap.size, 4, none⟩ = some (.int .u8 1) := by rw [← hw5, World.cell?_alloc_past _ _ _ (by simp)]; simp [go_sem]
    have V5 : W5.cell? ⟨W3.heap.size, 5, none⟩ = some (.string ifs) := by rw [← hw5, World.cell?_alloc_past _ _ _ (by simp)]; simp [go_sem]
    have V6 : W5.cell? ⟨W3.heap.size, 6, none⟩ = some (.slice none 0 0) := by rw [← hw5, World.cell?_alloc_past _ _ _ (by simp)]; simp [go_sem]
    have V7 : W5.cell? ⟨W3.heap.size, 7, none⟩ = some (.map none) := by rw [← hw5, World.cell?_alloc_past _ _ _ (by simp)]; simp [go_sem]
    have V8 : W5.cell? ⟨W3.heap.size, 8, none⟩ = some (.slice none 0 0) := by rw [← hw5, World.cell?_alloc_past _ _ _ (by simp)]; simp [go_sem]
    have hF5 : Full w b w.heap.size (.iface 53 (.agg #[.bool false, v])) R v ⟨#[32, 9, 10]⟩ W5 := by rw [← hw5]; exact hF3.alloc _
    clear hw5 hF3 p1 p2 p3 p4 h1 h2 k25 kf hF2 hb3
    have p1 := hF5.cP
    have p2 := hF5.keep.c25
    have p3 := hF5.keep.f25
    have p4 := hF5.keep.c3
    have l0 := World.block_lt_of_cell? _ _ V0
    have l1 : b < W5.heap.size := World.block_lt_of_cell? _ _ p2
    have l2 : w.heap.size < W5.heap.size := World.block_lt_of_cell? _ _ p1
    have l3 : W3.heap.size < W5.heap.size := l0
    go_wp2_with fail
    go_region_with (go_at_call 24; refine (varString_any ifs _).mono ?_; rintro e w' ⟨rfl, rfl⟩)
    all_goals
      have hF6 := ((hF5.setIfs hPb ifs).alloc (varBlock ifs)).drew
      clear hF5 V0 V1 V2 V3 V4 V5 V6 V7 V8 p1 p2 p3 p4 l0 l1 l2 l3
      have q1 := hF6.cP
      have q3 := hF6.keep.c3
      have HF6 := Lib.hid hF6
      clear hF6
      generalize ((W5.setCell ⟨b, 25, none⟩ (.string ifs)).alloc (varBlock ifs)).drew = W6 at *
      have hnf : ∀ w : World, (binOp .neq 36 .nilFunc .nilFunc).run Tryz.prog w = .ok (.bool false) w := fun _ => by kernel_rfl
      go_wp2_with fail
      go_ret
      exact ⟨rfl, ⟨HF6.out.c0, HF6.out.keep.c3, (by rw [HI.out]; exact HF6.out.keep.c25), HF6.out.f0, HF6.out.keep.f25⟩, HF6.out.keep.pair.at, HF6.out.keep.grown⟩
end Go.Proofs.YthcminjdkgmeoaaGreatDoor

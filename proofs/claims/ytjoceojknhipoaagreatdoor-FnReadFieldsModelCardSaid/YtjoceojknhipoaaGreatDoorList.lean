/-
  The walks: the environment of one pair 'IFS=..': how it is made, and what IFS reads as in it.
-/
import Derived.Test.YtjoceojknhipoaaGreatDoorEnv
namespace Go.Proofs.YtjoceojknhipoaaGreatDoor
open Go.RowKit Rf

theorem own_shape {w : World} {base : Nat} {e : TypeId} {size : Nat} {v : Value} {n : Nat} {xs : List Value} (h : w.ownsRow base e size v n xs) (hn : 0 < n) : ∃ g cap, v = .slice (some ⟨g, 0, none⟩) n cap := by
  rcases h.2 with ⟨_, h0⟩ | ⟨g, cap, cur, hv, _⟩
  · omega
  · exact ⟨g, cap, hv⟩
theorem row_lt {w : World} {base e size g n cap : Nat} {xs : List Value} (h : w.ownsRow base e size (.slice (some ⟨g, 0, none⟩) n cap) n xs) : base ≤ g ∧ g < w.heap.size := h.lt g rfl

theorem stable_one (g c : Nat) (f : Value) (w : World) : Calls Tryz.prog 37 #[.slice (some ⟨g, 0, none⟩) 1 c, f] w fun e w' => e = .returned (.tuple #[]) ∧ w = w' := by
  go_enter Tryz.func37, Tryz.ntmps37
  go_wp2
  refine wp_loop_rounds 1 ?_
  rw [rounds_succ]
  go_wp2
  refine wp_loop_rounds 1 ?_
  rw [rounds_succ]
  go_wp2
  refine wp_loop_rounds 1 ?_
  rw [rounds_succ]
  go_wp2
  go_returns
  exact ⟨rfl, rfl⟩

/-- The pair that the law makes: 'IFS=' and the text. -/
def pairOf (ifs : ByteArray) : ByteArray := ⟨#[73, 70, 83, 61]⟩ ++ ifs
theorem pair_size (ifs : ByteArray) : (pairOf ifs).size = 4 + ifs.size := by simp [pairOf, ByteArray.size_append]; rfl
theorem pair_list (ifs : ByteArray) : (pairOf ifs).data.toList = 73 :: 70 :: 83 :: 61 :: ifs.data.toList := by simp [pairOf, ByteArray.data_append]
theorem pair_eq (ifs : ByteArray) : eqPos (pairOf ifs) = 3 := by
  unfold eqPos
  rw [pair_list]
  simp
theorem pair_name (ifs : ByteArray) : (pairOf ifs).extract 0 3 = ⟨#[73, 70, 83]⟩ := by
  apply ByteArray.ext
  apply Array.ext'
  rw [Lib.extract_data, pair_list]
  rfl
theorem pair_rest (ifs : ByteArray) : (pairOf ifs).extract 4 (pairOf ifs).size = ifs := by
  apply ByteArray.ext
  apply Array.ext'
  rw [Lib.extract_data, pair_list, pair_size]
  simp
  rw [List.take_of_length_le (by simp)]

/-- What the environment of one pair is: a value that holds a slice over the pair. -/
def IsEnv (p : ByteArray) (w : World) (v : Value) (w' : World) : Prop :=
  ∃ g cap, v = .iface 97 (.agg #[.bool false, .slice (some ⟨g, 0, none⟩) 1 cap]) ∧ w'.cell? ⟨g, 0, none⟩ = some (.string p) ∧ w.heap.size ≤ g ∧ g < w'.heap.size ∧ Below w.heap.size w w'

def EnvOut (p : ByteArray) (w : World) (e : Ending) (w' : World) : Prop := ∃ v, e = .returned v ∧ IsEnv p w v w'

/-- The copy of one pair. -/
def Copied (p : ByteArray) (w : World) (e : Ending) (w' : World) : Prop :=
  ∃ g cap, e = .returned (.slice (some ⟨g, 0, none⟩) 1 cap) ∧ w'.cell? ⟨g, 0, none⟩ = some (.string p) ∧ w.heap.size ≤ g ∧ g < w'.heap.size ∧ Below w.heap.size w w'
theorem clone_one (p : ByteArray) (a c : Nat) (w : World) (hc : w.cell? ⟨a, 0, none⟩ = some (.string p)) :
    Calls Tryz.prog 36 #[.slice (some ⟨a, 0, none⟩) 1 c] w (Copied p w) :=
  (Tryz.slices_Clone_string a 0 1 c [p] w (by simp) (by omega) (fun j hj => by
    obtain rfl : j = 0 := by simpa using hj
    simpa using hc)).mono fun e w' ⟨v', he, hown, _, hb⟩ => by
      obtain ⟨g, cap, rfl⟩ := own_shape hown (by omega)
      have hl := row_lt hown
      exact ⟨g, cap, he, by rw [hown.cellAt 0 (by omega)]; rfl, hl.1, hl.2, hb⟩

set_option maxHeartbeats 1000000 in
theorem listEnv_one (ifs : ByteArray) (a : Nat) (c : Nat) (w : World) (hs : ifs.size ≤ 4096) (hc : w.cell? ⟨a, 0, none⟩ = some (.string (pairOf ifs))) :
    Calls Tryz.prog 19 #[.slice (some ⟨a, 0, none⟩) 1 c] w (EnvOut (pairOf ifs) w) := by
  have hps := pair_size ifs
  have hpe := pair_eq ifs
  have hcl := clone_one (pairOf ifs) a c w hc
  have hcut : ∀ w, Calls Tryz.prog 41 #[.string (pairOf ifs), .string ⟨#[61]⟩] w fun e w' => e = .returned (.tuple #[.string ⟨#[73, 70, 83]⟩, .string ifs, .bool true]) ∧ ∃ n, w' = w.drewN n := fun w => by
    have h := cut_hit (pairOf ifs) w (by omega) (by omega)
    rw [hpe, pair_name, pair_rest] at h
    exact h
  have hmf : ∀ (fn : Fn) (first cap : Array Value) (w : World), (Instr.makeFunc fn first cap).run Tryz.prog w = .ok (.func fn first cap) w := fun _ _ _ _ => rfl
  generalize pairOf ifs = p at *
  have HCL := Lib.hid hcl
  have HCUT := Lib.hid hcut
  clear hcl hcut hps hpe
  go_enter Tryz.func19, Tryz.ntmps19
  go_wp2_with (first | (go_at_call 36; refine (HCL.out).mono ?_; rintro e w1 ⟨g, cap, rfl, hcell, hg0, hg1, hb1⟩) | (go_at_call 32; go_in))
  refine (stable_one g cap _ _).mono ?_
  rintro e w2 ⟨rfl, rfl⟩
  go_wp2_with fail
  refine wp_loop_rounds 2 ?_
  rw [rounds_succ]
  go_wp2_with (first | (go_at_call 41; refine (HCUT.out _).mono ?_; rintro e w3 ⟨rfl, n, hw3⟩; subst w3) | (go_at_call 40; refine (compare_any _ _ _ _).mono ?_; rintro e w4 ⟨rfl, hb4⟩))
  have z4 := hb4.size
  have E0 : w4.cell? ⟨w1.heap.size, 0, none⟩ = some (.bool false) := by rw [hb4.cell (p := ⟨w1.heap.size, 0, none⟩) (by simp)]; simp [go_sem]
  have E1 : w4.cell? ⟨w1.heap.size, 1, none⟩ = some (.slice none 0 0) := by rw [hb4.cell (p := ⟨w1.heap.size, 1, none⟩) (by simp)]; simp [go_sem]
  have E2 : w4.frozen? ⟨w1.heap.size, 1, none⟩ = false := by rw [hb4.frozen (p := ⟨w1.heap.size, 1, none⟩) (by simp)]; simp [go_sem]
  have G4 : w4.cell? ⟨g, 0, none⟩ = some (.string p) := by rw [hb4.cell (p := ⟨g, 0, none⟩) (by simp; omega)]; simpa [go_sem, hg1] using hcell
  rw [rounds_succ]
  go_wp2
  go_ret
  refine ⟨_, rfl, g, cap, rfl, ?_, hg0, by simp only [World.size_alloc, World.heap_drewN] at z4; simp; omega, ?_⟩
  · rw [World.cell?_setCell_other _ _ _ _ (by intro h; cases h)]
    exact G4
  · exact (((hb1.alloc hb1.size _).trans (below_drewN (Below.refl _ _) n)).trans (hb4.mono (by simp; have := hb1.size; omega))).setCell (by have := hb1.size; exact this) _

theorem pair_byte (ifs : ByteArray) (h : 3 < (pairOf ifs).size) : ((pairOf ifs)[3]'h).toNat = 61 := by
  have := eqPos_at (pairOf ifs) (by rw [pair_eq]; exact h)
  simpa [pair_eq] using this

set_option maxHeartbeats 1000000 in
/-- The search's own test, at that pair: they are one. -/
theorem get1_one (p : ByteArray) (h : 3 < p.size) (hb3 : (p[3]'h).toNat = 61) (hx : p.extract 0 3 = ⟨#[73, 70, 83]⟩) (v : Value) (a b c : Nat) (w : World)
    (ha : w.cell? ⟨a, 0, none⟩ = some (.int .i64 4)) (hb0 : w.cell? ⟨b, 0, none⟩ = some (.bool false)) (hb1 : w.cell? ⟨b, 1, none⟩ = some v) (hc : w.cell? ⟨c, 0, none⟩ = some (.int .i64 3)) :
    Calls Tryz.prog 110 #[.string p, .string ⟨#[73, 70, 83]⟩, .pointer (some ⟨a, 0, none⟩), .pointer (some ⟨b, 0, none⟩), .pointer (some ⟨c, 0, none⟩)] w fun e w' => e = .returned (.int .i64 0) ∧ Below w.heap.size w w' := by
  have h4 : ¬ ((p.size : Int) < 4) := by omega
  have h3' : (3 : Int) ≤ (p.size : Int) := by omega
  have h3n : (3 : Int) < (p.size : Int) := by omega
  have h00 : Lib.compareBytes [73, 70, 83] [73, 70, 83] = 0 := by decide
  have q1 : decide (((p[3]'h).toNat : Int) < 61) = false := by simp; omega
  have q2 : decide ((61 : Int) < ((p[3]'h).toNat : Int)) = false := by simp; omega
  clear hb3
  go_enter Tryz.func110, Tryz.ntmps110
  go_wp2_with fail
  go_region_held3 (fun w' => w'.cell? ⟨b, 0, none⟩ = some (.bool false) ∧ w'.cell? ⟨b, 1, none⟩ = some v ∧ w'.cell? ⟨c, 0, none⟩ = some (.int .i64 3) ∧ Below w.heap.size w w')
    (first
      | (go_keep; done)
      | ((try dsimp only); exact ⟨by simpa using hb0, by simpa using hb1, by simpa using hc, (Below.refl _ _).drew⟩)
      | (go_split_ands
         refine ⟨?_, ?_, ?_, ?_⟩
         · exact (hq.cell (p := ⟨b, 0, none⟩) (World.block_lt_of_cell? _ _ (by assumption))).trans (by assumption)
         · exact (hq.cell (p := ⟨b, 1, none⟩) (World.block_lt_of_cell? _ _ (by assumption))).trans (by assumption)
         · exact (hq.cell (p := ⟨c, 0, none⟩) (World.block_lt_of_cell? _ _ (by assumption))).trans (by assumption)
         · exact Below.trans (by assumption) (hq.mono (Below.size (by assumption)))))
    (first | (go_at_call 40; refine (compare_any v _ _ _).mono ?_; rintro e w1 ⟨rfl, hq⟩))
  go_wp2
  go_ret
  have hh : w1.cell? ⟨b, 0, none⟩ = some (.bool false) ∧ w1.cell? ⟨b, 1, none⟩ = some v ∧ w1.cell? ⟨c, 0, none⟩ = some (.int .i64 3) ∧ Below w.heap.size w w1 := by assumption
  exact ⟨rfl, hh.2.2.2⟩

/-- The search for a name's place, in a list of that one pair. -/
theorem search_one (p : ByteArray) (h : 3 < p.size) (hb3 : (p[3]'h).toNat = 61) (hx : p.extract 0 3 = ⟨#[73, 70, 83]⟩) (v : Value) (a b c g cap : Nat) (w : World) (hg : w.cell? ⟨g, 0, none⟩ = some (.string p))
    (ha : w.cell? ⟨a, 0, none⟩ = some (.int .i64 4)) (hb0 : w.cell? ⟨b, 0, none⟩ = some (.bool false)) (hb1 : w.cell? ⟨b, 1, none⟩ = some v) (hc : w.cell? ⟨c, 0, none⟩ = some (.int .i64 3)) :
    Calls Tryz.prog 109 #[.slice (some ⟨g, 0, none⟩) 1 cap, .string ⟨#[73, 70, 83]⟩, .func (.func 110) #[] #[.pointer (some ⟨a, 0, none⟩), .pointer (some ⟨b, 0, none⟩), .pointer (some ⟨c, 0, none⟩)]] w
      fun e w' => e = .returned (.tuple #[.int .i64 0, .bool true]) ∧ Below w.heap.size w w' := by
  have hget : ∀ w2, Below w.heap.size w w2 → Calls Tryz.prog 110 #[.string p, .string ⟨#[73, 70, 83]⟩, .pointer (some ⟨a, 0, none⟩), .pointer (some ⟨b, 0, none⟩), .pointer (some ⟨c, 0, none⟩)] w2 fun e w' => e = .returned (.int .i64 0) ∧ Below w2.heap.size w2 w' := fun w2 hb =>
    get1_one p h hb3 hx v a b c w2 ((hb.cell (p := ⟨a, 0, none⟩) (World.block_lt_of_cell? w _ ha)).trans ha) ((hb.cell (p := ⟨b, 0, none⟩) (World.block_lt_of_cell? w _ hb0)).trans hb0)
      ((hb.cell (p := ⟨b, 1, none⟩) (World.block_lt_of_cell? w _ hb1)).trans hb1) ((hb.cell (p := ⟨c, 0, none⟩) (World.block_lt_of_cell? w _ hc)).trans hc)
  have lg := World.block_lt_of_cell? w _ hg
  have HG := Lib.hid hget
  clear hget hb3 hx ha hb0 hb1 hc
  go_enter Tryz.func109, Tryz.ntmps109
  go_wp2_with fail
  refine wp_loop_rounds 2 ?_
  rw [rounds_succ]
  go_wp2_with (go_at_call 110; refine (HG.out _ (Below.refl _ _)).mono ?_; rintro e w1 ⟨rfl, q1⟩)
  have hg1 : w1.cell? ⟨g, 0, none⟩ = some (.string p) := (q1.cell (p := ⟨g, 0, none⟩) lg).trans hg
  rw [rounds_succ]
  go_wp2_with (go_at_call 110; refine (HG.out _ q1).mono ?_; rintro e w2 ⟨rfl, q2⟩)
  go_ret2
  exact ⟨rfl, q1.trans (q2.mono q1.size)⟩

end Go.Proofs.YtjoceojknhipoaaGreatDoor

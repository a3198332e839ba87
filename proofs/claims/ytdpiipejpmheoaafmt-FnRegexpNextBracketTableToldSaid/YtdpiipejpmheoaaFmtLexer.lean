/-
  The lexer's steps at ASCII, quoteMeta, and the closure that takes a bracket for a letter.
-/
import Derived.Test.YtdpiipejpmheoaaFmtBuild
import Derived.Test.YtdpiipejpmheoaaFmtDec
namespace Go.Proofs.YtdpiipejpmheoaaFmt
open Go.RowKit

/-- The byte at i. -/
def bt (s : ByteArray) (i : Nat) : Nat := (s.data.toList.getD i 0).toNat
theorem bt_lt (s : ByteArray) (i : Nat) : bt s i < 256 := (s.data.toList.getD i 0).toNat_lt
theorem bt_get (s : ByteArray) (i : Nat) (h : i < s.size) : bt s i = (s[i]'h).toNat := by
  unfold bt
  congr 1
  have h2 : i < s.data.toList.length := by simpa using h
  rw [List.getD, List.getElem?_eq_getElem h2]
  simp
  rfl

theorem dec_ascii (s : ByteArray) (w : World) (h0 : 0 < s.size) (ha : bt s 0 < 128) :
    Calls Tryf.prog 23 #[.string s] w fun e w' => e = .returned (.tuple #[.int .i32 (bt s 0), .int .i64 1]) ∧ w' = w := by
  have h2 : 0 < s.data.toList.length := by simpa using h0
  exact Any.utf8_DecodeRuneInString_ascii Tryf.dec_decode s (s.data.toList.getD 0 0) w (by rw [List.getD, List.getElem?_eq_getElem h2]; rfl) ha

theorem bt_drop (s : ByteArray) (i : Nat) : bt (s.extract i s.size) 0 = bt s i ∧ (s.extract i s.size).size = s.size - i := by
  constructor
  · unfold bt
    congr 1
    rw [ByteArray.data_extract, Array.toList_extract]
    simp only [List.extract, List.getD, List.getElem?_take, List.getElem?_drop]
    have e : s.size - i = s.data.toList.length - i := by simp
    rw [e, Nat.add_zero]
    split
    · rfl
    · rw [List.getElem?_eq_none (by omega)]
  · simp [ByteArray.size_extract]

theorem next_ascii (l : Nat) (s : ByteArray) (i : Nat) (w : World) (h : Lex l s i w) (hi : i < s.size) (hs : s.size ≤ 100000000) (ha : bt s i < 128) :
    Calls Tryf.prog 11 #[.pointer (some ⟨l, 0, none⟩)] w fun e w' => e = .returned (.int .i32 (bt s i)) ∧ Moved l s (i + 1) w w' := by
  have c0 := h.c0
  have c1 := h.c1
  have f1 := h.f1
  have hz : (i : Int) < (s.size : Int) ∧ (s.size : Int) ≤ 100000000 := by omega
  obtain ⟨x1, x2⟩ := bt_drop s i
  have H := Lib.hid h
  have hle : i ≤ s.size := by omega
  clear h
  go_enter Tryf.func11, Tryf.ntmps11
  go_upto_region 1 with fail
  go_quiet (fail)
  have d0 : (w.drewN nq).cell? ⟨l, 0, none⟩ = some (.string s) := c0
  have d1 : (w.drewN nq).cell? ⟨l, 1, none⟩ = some (.int .i64 i) := c1
  have g1 : (w.drewN nq).frozen? ⟨l, 1, none⟩ = false := f1
  have hl1 : Lex l s i (w.drewN nq) := H.out
  have hk1 : Hid (∀ k : Nat, (w.drewN nq).heap[k]? = w.heap[k]?) := Lib.hid fun k => rfl
  have hb1 : Hid (Below l w (w.drewN nq)) := Lib.hid (below_drewN (Below.refl l w) nq)
  have hz1 : Hid ((w.drewN nq).heap.size = w.heap.size) := Lib.hid rfl
  generalize w.drewN nq = w1 at *
  have H1 := Lib.hid hl1
  clear hl1 c0 c1 f1
  go_upto_region 3 with fail
  go_quiet ((go_at_call 23; exact Calls.quiet_of_same (dec_ascii (s.extract i s.size) _ (by omega) (by omega))))
  have d2 : (w1.drewN nq).cell? ⟨l, 1, none⟩ = some (.int .i64 i) := d1
  have g2 : (w1.drewN nq).frozen? ⟨l, 1, none⟩ = false := g1
  go_wp2
  go_ret
  refine ⟨rfl, ?_⟩
  have hm := Moved.of H1.out nq (i + 1)
  have e : (((i + 1 : Nat)) : Int) = (i : Int) + 1 := by omega
  rw [e] at hm
  exact ⟨hb1.out.trans hm.bel, hm.lex, fun k hk => (hm.oth k hk).trans (hk1.out k), hm.size.trans hz1.out⟩

/-- Nothing but the tape has been turned. -/
def Quietly (w w' : World) : Prop := ∃ q, w' = w.drewN q

theorem next_end (l : Nat) (s : ByteArray) (i : Nat) (w : World) (h : Lex l s i w) (hi : s.size ≤ i) (hs : i ≤ 100000000) :
    Calls Tryf.prog 11 #[.pointer (some ⟨l, 0, none⟩)] w fun e w' => e = .returned (.int .i32 0) ∧ Quietly w w' := by
  have c0 := h.c0
  have c1 := h.c1
  have hz : (s.size : Int) ≤ (i : Int) ∧ (i : Int) ≤ 100000000 := by omega
  clear h
  go_enter Tryf.func11, Tryf.ntmps11
  go_upto_region 1 with fail
  go_quiet (fail)
  go_wp2
  go_ret
  exact ⟨rfl, _, rfl⟩

/-- What quoteMeta makes of an ASCII byte. -/
def isMeta (c : Nat) : Bool := c == 92 || c == 46 || c == 43 || c == 42 || c == 63 || c == 40 || c == 41 || c == 124 || c == 91 || c == 93 || c == 123 || c == 125 || c == 94 || c == 36
def quoted (c : UInt8) : List UInt8 := if isMeta c.toNat then [92, c] else [c]

theorem Tryf.info_byte : (Tryf.prog.info? 5).map (fun i => (i.zero, i.size, i.bytes)) = some (some (.int .u8 0), 1, 1) := by kernel_rfl

end Go.Proofs.YtdpiipejpmheoaaFmt

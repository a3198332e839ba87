/-
  The lexer's looks back and ahead, at ASCII.
-/
import Derived.Test.YtdpiipejpmheoaaFmtLexer
namespace Go.Proofs.YtdpiipejpmheoaaFmt
open Go.RowKit

set_option maxHeartbeats 1000000 in
theorem decLast_ascii (t : ByteArray) (n x : Nat) (w : World) (hsz : t.size = n + 1) (hn : n ≤ 100000000) (hb : bt t n = x) (ha : x < 128) :
    Calls Tryf.prog 25 #[.string t] w fun e w' => e = .returned (.tuple #[.int .i32 x, .int .i64 1]) ∧ w' = w := by
  have hlt : n < t.size := by omega
  have hg := bt_get t n hlt
  rw [hb] at hg
  have hgx : (t[n]'hlt).toNat = x := hg.symm
  have hz : (x : Int) < 128 := by omega
  have hnz : (0 : Int) ≤ (n : Int) ∧ (n : Int) ≤ 100000000 := by omega
  have he : ((n : Int) + 1 == 0) = false := by simp; omega
  clear hg hb ha
  go_enter Tryf.func25, Tryf.ntmps25
  go_wp2
  go_ret2
  exact ⟨rfl, rfl⟩

theorem bt_take (s : ByteArray) (k n : Nat) (h : k < n) (hn : n ≤ s.size) : bt (s.extract 0 n) k = bt s k ∧ (s.extract 0 n).size = n := by
  constructor
  · unfold bt
    congr 1
    rw [ByteArray.data_extract, Array.toList_extract]
    simp only [List.extract, List.getD, List.drop_zero, Nat.sub_zero]
    rw [List.getElem?_take_of_lt h]
  · rw [ByteArray.size_extract]; omega

theorem last_ascii (l : Nat) (s : ByteArray) (k : Nat) (w : World) (h : Lex l s (k + 2) w) (hi : k + 2 ≤ s.size) (hs : s.size ≤ 100000000) (x : Nat) (hx : bt s k = x) (ha : x < 128) :
    Calls Tryf.prog 14 #[.pointer (some ⟨l, 0, none⟩)] w fun e w' => e = .returned (.int .i32 x) ∧ Quietly w w' := by
  have c0 := h.c0
  have c1 := h.c1
  obtain ⟨x1, x2⟩ := bt_take s k (k + 1) (by omega) (by omega)
  have HD := Lib.hid (fun W => decLast_ascii (s.extract 0 (k + 1)) k x W x2 (by omega) (x1.trans hx) ha)
  have hz : ((k : Int) + 2) ≤ (s.size : Int) ∧ (s.size : Int) ≤ 100000000 := by omega
  have hle : k + 1 ≤ s.size := by omega
  have hlz : (k : Int) + 1 ≤ (s.size : Int) := by omega
  clear h x1 x2 hx ha hi hs
  go_enter Tryf.func14, Tryf.ntmps14
  go_upto_region 3 with fail
  go_quiet ((go_at_call 25; exact Calls.quiet_of_same (HD.out _)))
  go_wp2
  go_ret
  exact ⟨rfl, _, rfl⟩

theorem peek_ascii (l : Nat) (s : ByteArray) (i : Nat) (w : World) (h : Lex l s i w) (hi : i < s.size) (hs : s.size ≤ 100000000) (x : Nat) (hx : bt s i = x) (ha : x < 128) :
    Calls Tryf.prog 12 #[.pointer (some ⟨l, 0, none⟩)] w fun e w' => e = .returned (.int .i32 x) ∧ Quietly w w' := by
  have c0 := h.c0
  have c1 := h.c1
  have hz : (i : Int) < (s.size : Int) ∧ (s.size : Int) ≤ 100000000 := by omega
  obtain ⟨x1, x2⟩ := bt_drop s i
  have hd := dec_ascii (s.extract i s.size)
  rw [x1, hx] at hd
  have HD := Lib.hid (fun W => hd W (by omega) ha)
  have hle : i ≤ s.size := by omega
  clear h x1 x2 hd hx ha
  go_enter Tryf.func12, Tryf.ntmps12
  go_upto_region 1 with fail
  go_quiet (fail)
  have d0 : (w.drewN nq).cell? ⟨l, 0, none⟩ = some (.string s) := c0
  have d1 : (w.drewN nq).cell? ⟨l, 1, none⟩ = some (.int .i64 i) := c1
  have hw1 : Hid (Quietly w (w.drewN nq)) := Lib.hid ⟨nq, rfl⟩
  generalize w.drewN nq = w1 at *
  clear c0 c1
  go_upto_region 3 with fail
  go_quiet ((go_at_call 23; exact Calls.quiet_of_same (HD.out _)))
  go_wp2
  go_ret
  obtain ⟨q, rfl⟩ := hw1.out
  exact ⟨rfl, q + nq, by rw [World.drewN_drewN]⟩
end Go.Proofs.YtdpiipejpmheoaaFmt

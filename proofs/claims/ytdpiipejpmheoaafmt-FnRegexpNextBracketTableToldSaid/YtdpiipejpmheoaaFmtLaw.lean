/-
  FnRegexpNextBracketTable answers true at every input.
-/
import Derived.Test.YtdpiipejpmheoaaFmtFree
import Derived.Test.YtdpiipejpmheoaaFmtShut
import Derived.Test.YtdpiipejpmheoaaFmtWrap
import Derived.Test.YtdpiipejpmheoaaFmtTiny
namespace Go.Proofs.YtdpiipejpmheoaaFmt
open Go.RowKit Go.Extern.Stop Go.Stop Go.Extern

def Good (w : World) (e : Ending) (w' : World) : Prop := e = .returned (.bool true) ∧ Below w.heap.size w w'

/-- What has been read up to k: the first ']' and whether a '[' has come. -/
def Seen (s : ByteArray) (n k : Nat) (C : Int) (o : Bool) : Prop :=
  ((C = -1 ∧ ∀ j, n + 1 ≤ j → j < k → bt s j ≠ 93) ∨ ∃ c : Nat, C = c ∧ n + 1 ≤ c ∧ c < k ∧ bt s c = 93) ∧ (o = false → ∀ j, n + 1 ≤ j → j < k → bt s j ≠ 91)

theorem Seen.neg {s : ByteArray} {n k : Nat} {C : Int} {o : Bool} (h : Seen s n k C o) : C = -1 ∨ ∃ c : Nat, C = c ∧ n + 1 ≤ c ∧ c < k ∧ bt s c = 93 := by
  rcases h.1 with h | h
  · exact Or.inl h.1
  · exact Or.inr h

theorem Seen.same {s : ByteArray} {n k : Nat} {C : Int} {o : Bool} (h : Seen s n k C o) (h1 : bt s k ≠ 91) (h2 : bt s k = 93 → C ≠ -1) : Seen s n (k + 1) C o := by
  refine ⟨?_, fun ho j j1 j2 => ?_⟩
  · rcases h.1 with ⟨e, g⟩ | ⟨c, e, c1, c2, c3⟩
    · refine Or.inl ⟨e, fun j j1 j2 => ?_⟩
      by_cases hj : j = k
      · subst hj
        exact fun hb => h2 hb e
      · exact g j j1 (by omega)
    · exact Or.inr ⟨c, e, c1, by omega, c3⟩
  · by_cases hj : j = k
    · subst hj; exact h1
    · exact h.2 ho j j1 (by omega)
theorem Seen.opens {s : ByteArray} {n k : Nat} {C : Int} {o : Bool} (h : Seen s n k C o) (h1 : bt s k = 91) : Seen s n (k + 1) C true := by
  refine ⟨?_, fun ho => by cases ho⟩
  rcases h.1 with ⟨e, g⟩ | ⟨c, e, c1, c2, c3⟩
  · refine Or.inl ⟨e, fun j j1 j2 => ?_⟩
    by_cases hj : j = k
    · subst hj; omega
    · exact g j j1 (by omega)
  · exact Or.inr ⟨c, e, c1, by omega, c3⟩
theorem Seen.closes {s : ByteArray} {n k : Nat} {C : Int} {o : Bool} (h : Seen s n k C o) (hk : n + 1 ≤ k) (h1 : bt s k = 93) : Seen s n (k + 1) (k : Int) o := by
  refine ⟨Or.inr ⟨k, rfl, hk, by omega, h1⟩, fun ho j j1 j2 => ?_⟩
  by_cases hj : j = k
  · subst hj; omega
  · exact h.2 ho j j1 (by omega)

theorem ext_left (a b : List UInt8) (o : ByteArray) (ho : o.data.toList = a) : (⟨(a ++ b).toArray⟩ : ByteArray).extract 0 o.size = o := by
  have hs : o.size = a.length := by rw [← ho, Array.length_toList]; rfl
  apply ByteArray.ext
  apply Array.toList_inj.1
  rw [ByteArray.data_extract, Array.toList_extract, ho, hs]
  simp [List.extract]
theorem ext_right (a b : List UInt8) (n m : Nat) (hn : n = a.length) (hm : m = (a ++ b).length) : (⟨(a ++ b).toArray⟩ : ByteArray).extract n m = ⟨b.toArray⟩ := by
  subst hn hm
  apply ByteArray.ext
  apply Array.toList_inj.1
  rw [ByteArray.data_extract, Array.toList_extract]
  simp [List.extract]
theorem ext_part (s : ByteArray) (i j : Nat) : s.extract i j = ⟨(part s i (j - i)).toArray⟩ := by
  apply ByteArray.ext
  apply Array.toList_inj.1
  rw [ByteArray.data_extract, Array.toList_extract]
  rfl

theorem bl_len (o : ByteArray) : o.data.toList.length = o.size := by
  rw [Array.length_toList]
  rfl
theorem cat_size (o : ByteArray) (b : List UInt8) : (⟨(o.data.toList ++ b).toArray⟩ : ByteArray).size = o.size + b.length := by
  rw [list_size, List.length_append, bl_len]

theorem conv_two (W : World) : (convert 29 9 (.slice (some ⟨W.heap.size, 0, none⟩) 2 2)).run Tryf.prog (W.alloc (.cells #[.int .u8 92, .int .u8 91] 5)).drew = .ok (.string ⟨#[92, 91]⟩) (W.alloc (.cells #[.int .u8 92, .int .u8 91] 5)).drew :=
  run_convert_bytes_back _ 29 9 5 ⟨W.heap.size, 0, none⟩ 2 [92, 91] Tryf.underlying29 Tryf.underlying5 Tryf.underlying9 (Lib.bytes_of_row (heap_alloc_new W (.cells #[.int .u8 92, .int .u8 91] 5)) (by simp [Lib.byteCells]))

theorem slice_hi (s : ByteArray) (b : Nat) (h2 : b ≤ s.size) (W : World) : (Instr.slice 9 (.string s) none (some (.int .i64 (b : Int))) none).run Tryf.prog W = .ok (.string (s.extract 0 b)) W := by
  have := run_slice_string_h (P := Tryf.prog) W 9 s Tryf.underlying9 .i64 (b : Int) (by omega) (by omega)
  simpa using this
theorem slice_lo (s : ByteArray) (b : Nat) (h2 : b ≤ s.size) (W : World) : (Instr.slice 9 (.string s) (some (.int .i64 (b : Int))) none none).run Tryf.prog W = .ok (.string (s.extract b s.size)) W := by
  have := run_slice_string_l (P := Tryf.prog) W 9 s Tryf.underlying9 .i64 (b : Int) (by omega) (by omega)
  simpa using this
theorem slice_at (s : ByteArray) (a b : Nat) (h1 : a ≤ b) (h2 : b ≤ s.size) (W : World) : (Instr.slice 9 (.string s) (some (.int .i64 (a : Int))) (some (.int .i64 (b : Int))) none).run Tryf.prog W = .ok (.string (s.extract a b)) W := by
  have := run_slice_string (P := Tryf.prog) W 9 s .i64 .i64 (a : Int) (b : Int) Tryf.underlying9 (by omega) (by omega) (by omega)
  simpa using this

set_option maxRecDepth 100000 in
set_option maxHeartbeats 16000000 in
theorem law_main (F : Interp) (o s : ByteArray) (n : Nat) (mode : Int) (w : World) (ho : o.size ≤ 65536) (hs : s.size ≤ 65536) (hn : n < s.size) (ha : bt s n = 91) (hT : Tabs w.heap.size w) (hF : F.answers w.tape) :
    Calls Tryf.prog 3 #[.string o, .string s, .int .i64 n, .int .u64 mode] w (Good w) := by
  have hnz : (n : Int) < (s.size : Int) ∧ (s.size : Int) ≤ 65536 ∧ (o.size : Int) ≤ 65536 := by omega
  have hg : (s[n]'hn).toNat = 91 := by rw [← bt_get s n hn]; exact ha
  have hol : o.data.toList.length ≤ 10000000 := by
    have e : o.data.toList.length = o.size := by simp
    omega
  have HBY := Lib.hid (fun W => bytesL_yes o s n mode W ho hs)
  have HFREE := Lib.hid (fun (hno : ∀ k, n + 1 ≤ k → k < s.size → bt s k ≠ 91 ∧ bt s k ≠ 93) => rnx_any o s n mode [92, 91] (n + 1) w ho (fun b l W hb hl hne hBl hW => rn_free F w.heap.size b l s n o.data.toList mode W hb hl hne hBl (by omega) hol ha hn hno (hT.below hW (Nat.le_refl _)) (by rw [hW.tape]; exact hF)))
  have HSHUT := Lib.hid (fun (m : Nat) (hm : 1 ≤ m) (him : n + 1 + m < s.size) (hall : ∀ k, k < m → isAl (bt s (n + 1 + k)) = true) (hend : bt s (n + 1 + m) = 93) => rnx_any o s n mode (part s n (m + 2)) (n + m + 2) w ho (fun b l W hb hl hne hBl hW => rn_shut w.heap.size b l s n m o.data.toList mode W hb hl hne hBl (by omega) hol ha hm him hall hend))
  have hns : ¬ s.size ≤ n := by omega
  clear hT hF ha
  go_enter Tryf.func3, Tryf.ntmps3
  go_upto_region 7 with (go_at_call 4; refine (HBY.out _).mono ?_; rintro e w' ⟨rfl, rfl⟩)
  clear hg
  go_wp2_with fail
  go_loopg [9, 10, 11] (s.size - (n + 1)) (fun gk s9 s10 s11 wr => ∃ (k : Nat) (C : Int) (op : Bool), gk = s.size - k ∧ n + 1 ≤ k ∧ k ≤ s.size ∧ s9 = .int .i64 C ∧ s10 = .bool op ∧ s11 = .int .i64 k ∧ Seen s n k C op ∧ w = wr)
  case atStart => exact ⟨n + 1, -1, false, rfl, Nat.le_refl _, hn, rfl, rfl, by go_num, ⟨Or.inl ⟨rfl, fun j h1 h2 => by omega⟩, fun _ j h1 h2 => by omega⟩, rfl⟩
  case round =>
    obtain ⟨k, C, op, rfl, hk1, hk2, rfl, rfl, rfl, hseen, rfl⟩ := hrel
    have HSEEN := Lib.hid hseen
    clear hseen
    by_cases hlt : k < s.size
    · have hkz : (k : Int) < (s.size : Int) := by omega
      obtain ⟨x, hx⟩ : ∃ x : Nat, bt s k = x := ⟨_, rfl⟩
      have hgk : (s[k]'hlt).toNat = x := by rw [← bt_get s k hlt]; exact hx
      have HX := Lib.hid hx
      clear hx
      rcases HSEEN.out.neg with hC | ⟨c, hC, c1, c2, c3⟩
      · subst hC
        by_cases h93 : x = 93
        · subst h93
          go_wp2_with fail
          go_roundg (s.size - (k + 1))
          case measure => omega
          case rel => exact ⟨k + 1, _, _, rfl, by omega, by omega, rfl, rfl, by go_num, HSEEN.out.closes hk1 HX.out, rfl⟩
        · by_cases h91 : x = 91
          · subst h91
            go_wp2_with fail
            go_roundg (s.size - (k + 1))
            case measure => omega
            case rel => exact ⟨k + 1, _, _, rfl, by omega, by omega, rfl, rfl, by go_num, HSEEN.out.opens HX.out, rfl⟩
          · have z1 : ((x : Int) == 93) = false := by simp; omega
            have z2 : ((x : Int) == 91) = false := by simp; omega
            have HN := Lib.hid (And.intro h91 h93)
            clear h91 h93
            go_wp2_with fail
            go_roundg (s.size - (k + 1))
            case measure => omega
            case rel => exact ⟨k + 1, _, _, rfl, by omega, by omega, rfl, rfl, by go_num, HSEEN.out.same (by rw [HX.out]; exact HN.out.1) (fun h => absurd (HX.out.symm.trans h) HN.out.2), rfl⟩
      · subst hC
        have hcz : (0 : Int) ≤ (c : Int) := by omega
        by_cases h93 : x = 93
        · subst h93
          go_wp2_with fail
          go_roundg (s.size - (k + 1))
          case measure => omega
          case rel => exact ⟨k + 1, _, _, rfl, by omega, by omega, rfl, rfl, by go_num, HSEEN.out.same (by rw [HX.out]; omega) (fun _ => by omega), rfl⟩
        · by_cases h91 : x = 91
          · subst h91
            go_wp2_with fail
            go_roundg (s.size - (k + 1))
            case measure => omega
            case rel => exact ⟨k + 1, _, _, rfl, by omega, by omega, rfl, rfl, by go_num, HSEEN.out.opens HX.out, rfl⟩
          · have z1 : ((x : Int) == 93) = false := by simp; omega
            have z2 : ((x : Int) == 91) = false := by simp; omega
            have HN := Lib.hid (And.intro h91 h93)
            clear h91 h93
            go_wp2_with fail
            go_roundg (s.size - (k + 1))
            case measure => omega
            case rel => exact ⟨k + 1, _, _, rfl, by omega, by omega, rfl, rfl, by go_num, HSEEN.out.same (by rw [HX.out]; exact HN.out.1) (fun h => absurd (HX.out.symm.trans h) HN.out.2), rfl⟩
    · obtain rfl : k = s.size := by omega
      rcases HSEEN.out.1 with ⟨hC, hno⟩ | ⟨c, hC, c1, c2, c3⟩
      · subst hC
        cases op
        · have HR := Lib.hid (HFREE.out (fun k k1 k2 => ⟨HSEEN.out.2 rfl k k1 k2, hno k k1 k2⟩))
          clear hno
          obtain ⟨G, hG⟩ : ∃ G : ByteArray, ⟨(o.data.toList ++ [92, 91]).toArray⟩ = G := ⟨_, rfl⟩
          have hGs : G.size = o.size + 2 := by rw [← hG]; exact cat_size o _
          have e1 : G.extract 0 o.size = o := by rw [← hG]; exact ext_left _ _ o rfl
          have e2 : G.extract o.size G.size = ⟨#[92, 91]⟩ := by
            rw [hGs, ← hG]
            exact ext_right _ _ _ _ (bl_len o).symm (by rw [List.length_append, bl_len]; rfl)
          have hs1 := fun W => slice_hi G o.size (by omega) W
          have hs2 := fun W => slice_lo G o.size (by omega) W
          rw [e1] at hs1
          rw [e2] at hs2
          have HG := Lib.hid hG
          have hgz : (o.size : Int) + 2 = (G.size : Int) := by omega
          have hgz2 : (o.size : Int) ≤ (G.size : Int) := by omega
          clear hG hGs e1 e2 hgz
          go_upto_region 20 with (go_at_call 5; refine (HR.out).mono ?_; rintro e w5 ⟨rfl, hb5⟩; rw [HG.out]; have HB5 := Lib.hid hb5; clear hb5)
          go_upto_region 22 with fail
          have hcv := conv_two
          have hwn : IntKind.i64.wrap ((n : Int) + 1) = (n : Int) + 1 := by rw [IntKind.wrap_i64]; omega
          go_region_with fail
          all_goals
            go_wp2
            go_ret
            go_simp
            exact ⟨rfl, (HB5.out.alloc HB5.out.size _).drew⟩
        · go_wp2_with fail
          go_ret
          exact ⟨rfl, Below.refl _ _⟩
      · subst hC
        have hcz : (0 : Int) ≤ (c : Int) ∧ (c : Int) < (s.size : Int) := by omega
        clear HFREE
        by_cases hcn : c = n + 1
        · subst hcn
          go_wp2_with fail
          go_ret
          exact ⟨rfl, Below.refl _ _⟩
        have hq1 : ((c : Int) == (n : Int) + 1) = false := by simp; omega
        have HC3 := Lib.hid c3
        have HCN := Lib.hid hcn
        have HC12 := Lib.hid (And.intro c1 c2)
        clear c3 hcn HSEEN
        go_wp2_with fail
        go_loopg [15] (c - (n + 1)) (fun gk s15 wr => ∃ k : Nat, gk = c - k ∧ n + 1 ≤ k ∧ k ≤ c ∧ s15 = .int .i64 k ∧ Hid (∀ j, n + 1 ≤ j → j < k → isAl (bt s j) = true) ∧ w = wr)
        case atStart => exact ⟨n + 1, rfl, Nat.le_refl _, HC12.out.1, by go_num, Lib.hid (fun j h1 h2 => by omega), rfl⟩
        case round =>
          obtain ⟨k, rfl, hk1, hk2, rfl, hal, rfl⟩ := hrel
          by_cases hlt : k < c
          · have hkz : (k : Int) < (c : Int) := by omega
            have hks : k < s.size := by have := HC12.out; omega
            obtain ⟨x, hx⟩ : ∃ x : Nat, bt s k = x := ⟨_, rfl⟩
            have hgk : (s[k]'hks).toNat = x := by rw [← bt_get s k hks]; exact hx
            have HX := Lib.hid hx
            clear hx
            obtain ⟨a, hav⟩ : ∃ a, isAl x = a := ⟨_, rfl⟩
            have HAL := Lib.hid (fun W => alnum_any x W)
            rw [hav] at HAL
            have HAV := Lib.hid hav
            clear hav
            cases a
            · go_wp2_with (go_at_call 6; refine (HAL.out _).mono ?_; rintro e w6 ⟨rfl, rfl⟩)
              go_ret
              exact ⟨rfl, Below.refl _ _⟩
            · go_wp2_with (go_at_call 6; refine (HAL.out _).mono ?_; rintro e w6 ⟨rfl, rfl⟩)
              go_roundg (c - (k + 1))
              case measure => omega
              case rel => exact ⟨k + 1, rfl, by omega, by omega, by go_num, Lib.hid (fun j j1 j2 => by
                by_cases hj : j = k
                · subst hj; rw [HX.out]; exact HAV.out
                · exact hal.out j j1 (by omega)), rfl⟩
          · obtain rfl : k = c := by omega
            have hkn : k = n + 1 + (k - n - 1) := by have := HC12.out; omega
            have hm1 : 1 ≤ k - n - 1 := by have := HC12.out; have := HCN.out; omega
            have HR := HSHUT.out (k - n - 1) hm1 (by have := HC12.out; omega) (fun j hj => hal.out (n + 1 + j) (by omega) (by omega)) (by rw [← hkn]; exact HC3.out)
            rw [show n + (k - n - 1) + 2 = k + 1 by omega, show k - n - 1 + 2 = k + 1 - n by omega, Int.natCast_add, Int.natCast_one] at HR
            have HR := Lib.hid HR
            obtain ⟨G, hG⟩ : ∃ G : ByteArray, ⟨(o.data.toList ++ part s n (k + 1 - n)).toArray⟩ = G := ⟨_, rfl⟩
            have hGs : G.size = o.size + (part s n (k + 1 - n)).length := by rw [← hG]; exact cat_size o _
            have e1 : G.extract 0 o.size = o := by rw [← hG]; exact ext_left _ _ o rfl
            have e2 : G.extract o.size G.size = s.extract n (k + 1) := by
              rw [hGs, ← hG, ext_part s n (k + 1)]
              exact ext_right _ _ _ _ (bl_len o).symm (by rw [List.length_append, bl_len])
            have hs1 := fun W => slice_hi G o.size (by omega) W
            have hs2 := fun W => slice_lo G o.size (by omega) W
            rw [e1] at hs1
            rw [e2] at hs2
            have hs3 := fun W => slice_at s n (k + 1) (by omega) (by have := HC12.out; omega) W
            rw [Int.natCast_add, Int.natCast_one] at hs3
            have HG := Lib.hid hG
            have hgz2 : (o.size : Int) ≤ (G.size : Int) := by omega
            clear hG hGs e1 e2 hkn hm1 hal
            go_upto_region 31 with (go_at_call 5; refine (HR.out).mono ?_; rintro e w5 ⟨rfl, hb5⟩; rw [HG.out]; have HB5 := Lib.hid hb5; clear hb5)
            go_upto_region 33 with fail
            have hwk : IntKind.i64.wrap ((k : Int) + 1) = (k : Int) + 1 := by rw [IntKind.wrap_i64]; omega
            go_quiet (fail)
            go_wp2
            go_ret
            exact ⟨ret_bool (by simp), below_drewN HB5.out _⟩
end Go.Proofs.YtdpiipejpmheoaaFmt

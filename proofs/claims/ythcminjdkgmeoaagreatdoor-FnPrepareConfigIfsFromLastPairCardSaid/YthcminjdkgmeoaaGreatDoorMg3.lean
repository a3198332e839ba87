/-
  The stable sort: the symmetric merge, both ranges of more than one element.
-/
import Derived.Test.YthcminjdkgmeoaaGreatDoorMg2
namespace Go.Proofs.YthcminjdkgmeoaaGreatDoor
open Go.RowKit
set_option linter.unusedVariables false

/-- What the search has found so far. -/
structure SrI (S : Nat → List UInt8) (p : Nat → Nat) (a m b N s0 r0 s r : Nat) : Prop where
  la : a ≤ s0
  rm : r0 ≤ m
  s0s : s0 ≤ s
  sr : s ≤ r
  rr : r ≤ r0
  nb : (s0 = a ∧ m + m ≤ N) ∨ s0 + b = N
  nm : (r0 = m ∧ m + m ≤ N) ∨ r0 + m = N
  lo : s = s0 ∨ ltS S (p (s - 1)) (p (N - s)) = true
  hi : r = r0 ∨ ltS S (p (N - 1 - r)) (p r) = true
theorem merge_parts {lt : Nat → Nat → Bool} {a m b s e mid : Nat} {p q : Nat → Nat} (hs1 : Stb.Sorted lt a m p) (hs2 : Stb.Sorted lt m b p) (hbef : Stb.Before a m b p) (has : a ≤ s) (hsm : s ≤ m) (hme : m ≤ e) (heb : e ≤ b) (hmid : s + (e - m) = mid) (hrot : Stb.Rot s m e p q) :
    Stb.Sorted lt a s q ∧ Stb.Sorted lt s mid q ∧ Stb.Before a s mid q ∧ Stb.Sorted lt mid e q ∧ Stb.Sorted lt e b q ∧ Stb.Before mid e b q := by
  have hout : ∀ k, ¬ (s ≤ k ∧ k < e) → q k = p k := hrot.shuf.out
  have hlo : ∀ k, s ≤ k → k < mid → q k = p (k + (m - s)) := fun k k1 k2 => by
    have := hrot.lo (k - s) (by omega)
    rw [show s + (k - s) = k from by omega, show m + (k - s) = k + (m - s) from by omega] at this
    exact this
  have hhi : ∀ k, mid ≤ k → k < e → q k = p (k - (e - m)) := fun k k1 k2 => by
    have := hrot.hi (k - mid) (by omega)
    rw [show s + (e - m) + (k - mid) = k from by omega, show s + (k - mid) = k - (e - m) from by omega] at this
    exact this
  refine ⟨(hs1.sub (Nat.le_refl _) hsm).congr (fun k k1 k2 => hout k (by omega)), fun i j i1 i2 i3 => ?_, fun i j i1 i2 i3 i4 => ?_, fun i j i1 i2 i3 => ?_, (hs2.sub hme (Nat.le_refl _)).congr (fun k k1 k2 => hout k (by omega)), fun i j i1 i2 i3 i4 => ?_⟩
  · rw [hlo i i1 (by omega), hlo j (by omega) i3]
    exact hs2 _ _ (by omega) (by omega) (by omega)
  · rw [hout i (by omega), hlo j i3 i4]
    exact hbef _ _ i1 (by omega) (by omega) (by omega)
  · rw [hhi i i1 (by omega), hhi j (by omega) i3]
    exact hs1 _ _ (by omega) (by omega) (by omega)
  · rw [hhi i i1 i2, hout j (by omega)]
    exact hbef _ _ (by omega) (by omega) (by omega) (by omega)
set_option maxRecDepth 100000 in
set_option maxHeartbeats 8000000 in
theorem merge_big (w0 : World) (P n eb c : Nat) (S : Nat → List UInt8) (hn : n ≤ 100000000) (hC : CmpOk w0 P eb S) (d : Nat) (hrec : MergeC w0 P n eb c S d) (w : World) (p : Nat → Nat) (a m b : Nat) (hd : b - a ≤ d + 1) (h : SA w0 P n S p w) (ham : a + 1 < m) (hmb : m + 1 < b) (hb : b ≤ n) (hs1 : Stb.Sorted (ltS S) a m p) (hs2 : Stb.Sorted (ltS S) m b p) (hbef : Stb.Before a m b p) :
    Calls Tryz.prog 34 #[.slice (some ⟨P, 0, none⟩) n c, .int .i64 (a : Int), .int .i64 (m : Int), .int .i64 (b : Int), cmpV eb] w fun e w' => e = .returned (.tuple #[]) ∧ ∃ q, SA w0 P n S q w' ∧ Stb.Shuf a b p q ∧ Stb.Sorted (ltS S) a b q := by
  obtain ⟨mid, hmid⟩ : ∃ mid, (a + b) / 2 = mid := ⟨_, rfl⟩
  obtain ⟨N, hN⟩ : ∃ N, mid + m = N := ⟨_, rfl⟩
  have HMID := Lib.hid hmid
  have HN := Lib.hid hN
  have HC := Lib.hid hC
  have HREC := Lib.hid hrec
  have HD := Lib.hid hd
  have H0 := Lib.hid h
  have HS1 := Lib.hid hs1
  have HS2 := Lib.hid hs2
  have HBEF := Lib.hid hbef
  have HO := Lib.hid (Stb.ord_of (Stb.wk_kltS S))
  have HROT := Lib.hid (fun (w1 : World) (s e : Nat) (h : SA w0 P n S p w1) (h1 : s < m) (h2 : m < e) (h3 : e ≤ n) => rot_any w0 w1 P n S p s m e c (cmpV eb) h h1 h2 h3 hn)
  obtain ⟨hz1, hz2, hz3, hz4, hz5, hz6⟩ : ¬ (b : Int) - (m : Int) = 1 ∧ (a : Int) + 1 < (m : Int) ∧ (b : Int) ≤ (n : Int) ∧ (n : Int) ≤ 100000000 ∧ ¬ (m : Int) - (a : Int) = 1 ∧ (m : Int) + 1 < (b : Int) := by omega
  have hb1 : ((m : Int) - (a : Int) == 1) = false := by simp; omega
  have hb2 : ((b : Int) - (m : Int) == 1) = false := by simp; omega
  have hwm : ((a : Int) + (b : Int)) / 2 = (mid : Int) := by omega
  have hwN : (mid : Int) + (m : Int) = (N : Int) := by omega
  obtain ⟨hm1, hm2⟩ : (a : Int) < (mid : Int) ∧ (mid : Int) < (b : Int) := by omega
  clear h hC hs1 hs2 hbef hrec
  go_enter Tryz.func34, Tryz.ntmps34
  go_upto_if 140 with fail
  go_cut [20, 21] from 138 to 146 (fun s20 s21 wx => ∃ s0 r0 : Nat, s20 = .int .i64 (s0 : Int) ∧ s21 = .int .i64 (r0 : Int) ∧ Hid (SrI S p a m b N s0 r0 s0 r0) ∧ Hid (SA w0 P n S p wx))
  case first =>
    by_cases hc : mid < m
    · have hcz : (mid : Int) < (m : Int) := by omega
      go_wp2_with fail
      go_meet
      exact ⟨N - b, mid, by go_num, rfl, Lib.hid ⟨by omega, by omega, by omega, by omega, by omega, by omega, by omega, Or.inl rfl, Or.inl rfl⟩, H0⟩
    · have hcz : ¬ (mid : Int) < (m : Int) := by omega
      go_wp2_with fail
      go_meet
      exact ⟨a, m, rfl, rfl, Lib.hid ⟨by omega, by omega, by omega, by omega, by omega, by omega, by omega, Or.inl rfl, Or.inl rfl⟩, H0⟩
  case rest =>
    obtain ⟨s0, r0, rfl, rfl, HF, H1⟩ := hcut
    go_wp2_with fail
    go_loopg [20, 21] (r0 - s0) (fun gk s20 s21 wr => ∃ s r : Nat, s20 = .int .i64 (s : Int) ∧ s21 = .int .i64 (r : Int) ∧ gk = r - s ∧ Hid (SrI S p a m b N s0 r0 s r) ∧ Hid (SA w0 P n S p wr))
    case atStart => exact ⟨s0, r0, rfl, rfl, rfl, HF, H1⟩
    case round =>
      obtain ⟨s, r, rfl, rfl, rfl, HX, HSA⟩ := hrel
      have x1 := HX.out.la
      have x2 := HX.out.rm
      have x3 := HX.out.s0s
      have x4 := HX.out.sr
      have x5 := HX.out.rr
      have x6 := HX.out.nb
      have x7 := HX.out.nm
      by_cases hsr : s < r
      · have hsrz : (s : Int) < (r : Int) := by omega
        obtain ⟨hs3, hs4⟩ : (0 : Int) ≤ (s : Int) ∧ (r : Int) ≤ (n : Int) := by omega
        obtain ⟨h, hh0⟩ : ∃ h, (s + r) / 2 = h := ⟨_, rfl⟩
        have hwh : ((s : Int) + (r : Int)) / 2 = (h : Int) := by omega
        obtain ⟨y, hy⟩ : ∃ y, N - 1 - h = y := ⟨_, rfl⟩
        have hwy : IntKind.i64.wrap ((N : Int) - 1 - (h : Int)) = (y : Int) := by rw [wrap_small (by omega) (by omega)]; omega
        have hwy2 : (N : Int) - 1 - (h : Int) = (y : Int) := by omega
        have hwy3 : IntKind.i64.wrap (y : Int) = (y : Int) := wrap_small (by omega) (by omega)
        have hyr : m ≤ y ∧ y < b ∧ a ≤ h ∧ h < m := by omega
        obtain ⟨hy1, hy2, hy3, hy4⟩ := hyr
        obtain ⟨hhn1, hhn2⟩ : (h : Int) < (n : Int) ∧ (y : Int) < (n : Int) := by omega
        have cx := HSA.out.cell (show y < n by omega)
        have cy := HSA.out.cell (show h < n by omega)
        have HB := Lib.hid (And.intro (show y < n by omega) (show h < n by omega))
        have HC2 := Lib.hid (fun (w1 : World) (k : SA w0 P n S p w1) => HC.out w1 (p y) (p h) k.kept)
        obtain ⟨v, hv⟩ : ∃ v, Lib.compareBytes (Stb.key (S (p y))) (Stb.key (S (p h))) = v := ⟨_, rfl⟩
        have hk : Stb.kltS S (p y) (p h) = decide (v < 0) := by rw [← hv]; rfl
        rw [hv] at HC2
        have HK := Lib.hid hk
        clear hv hk
        have htag := HBEF.out h y hy3 hy4 hy1 hy2
        have HLT : Hid (ltS S (p y) (p h) = decide (v < 0)) := Lib.hid (by
          unfold ltS
          rw [Stb.ltT_hi (by omega), HK.out])
        have HGT : Hid (ltS S (p h) (p y) = !decide (v < 0)) := Lib.hid (by
          unfold ltS
          rw [Stb.ltT_lo (by omega), HK.out])
        have HYY := Lib.hid hy
        clear htag
        by_cases hv0 : v < 0
        · have hvd : decide (v < 0) = true := by simp [hv0]
          have HNX : Hid (SrI S p a m b N s0 r0 s h) := Lib.hid ⟨x1, x2, x3, by omega, by omega, x6, x7, HX.out.lo, Or.inr (by rw [HYY.out, HLT.out]; simp [hv0])⟩
          clear x1 x2 x3 x4 x5 x6 x7 hy1 hy2 hy3 hy4 hy hs3 hs4
          go_upto_region 35 with fail
          go_region_held3 (fun w' => w'.cell? ⟨P, y, none⟩ = some (strL (S (p y))) ∧ w'.cell? ⟨P, h, none⟩ = some (strL (S (p h))) ∧ SA w0 P n S p w')
            (first
              | (go_keep; done)
              | exact ⟨cx, cy, HSA.out.drew⟩
              | (go_split_ands
                 have hh := SA.below (by assumption) hq
                 exact ⟨hh.cell HB.out.1, hh.cell HB.out.2, hh⟩))
            (first | (go_at_call 15; go_split_ands; rename_i hsa; refine (HC2.out _ hsa).mono ?_; rintro e w2 ⟨rfl, hq⟩))
          have hh : w2.cell? ⟨P, y, none⟩ = some (strL (S (p y))) ∧ w2.cell? ⟨P, h, none⟩ = some (strL (S (p h))) ∧ SA w0 P n S p w2 := by assumption
          have H2 := Lib.hid hh.2.2
          clear hh hq
          go_wp2_with fail
          go_roundg (h - s)
          case measure => omega
          case rel => exact ⟨s, h, rfl, rfl, rfl, HNX, H2⟩
        · have hvd : decide (v < 0) = false := by simp [hv0]
          have HNX : Hid (SrI S p a m b N s0 r0 (h + 1) r) := Lib.hid ⟨x1, x2, by omega, by omega, x5, x6, x7, Or.inr (by rw [Nat.add_sub_cancel, show N - (h + 1) = y by omega, HGT.out]; simp [hv0]), HX.out.hi⟩
          clear x1 x2 x3 x4 x5 x6 x7 hy1 hy2 hy3 hy4 hy hs3 hs4
          go_upto_region 35 with fail
          go_region_held3 (fun w' => w'.cell? ⟨P, y, none⟩ = some (strL (S (p y))) ∧ w'.cell? ⟨P, h, none⟩ = some (strL (S (p h))) ∧ SA w0 P n S p w')
            (first
              | (go_keep; done)
              | exact ⟨cx, cy, HSA.out.drew⟩
              | (go_split_ands
                 have hh := SA.below (by assumption) hq
                 exact ⟨hh.cell HB.out.1, hh.cell HB.out.2, hh⟩))
            (first | (go_at_call 15; go_split_ands; rename_i hsa; refine (HC2.out _ hsa).mono ?_; rintro e w2 ⟨rfl, hq⟩))
          have hh : w2.cell? ⟨P, y, none⟩ = some (strL (S (p y))) ∧ w2.cell? ⟨P, h, none⟩ = some (strL (S (p h))) ∧ SA w0 P n S p w2 := by assumption
          have H2 := Lib.hid hh.2.2
          clear hh hq
          go_wp2_with fail
          go_roundg (r - (h + 1))
          case measure => omega
          case rel => exact ⟨h + 1, r, by go_num, rfl, rfl, HNX, H2⟩
      · have hsrz : ¬ (s : Int) < (r : Int) := by omega
        have hre : r = s := by omega
        subst hre
        obtain ⟨e, he⟩ : ∃ e, N - r = e := ⟨_, rfl⟩
        have hwe : (N : Int) - (r : Int) = (e : Int) := by omega
        have hes : a ≤ r ∧ r ≤ m ∧ m ≤ e ∧ e ≤ b ∧ r + (e - m) = mid := by omega
        have HES := Lib.hid hes
        have HLOW : Hid (a < r → e < b → ltS S (p (r - 1)) (p e) = true) := Lib.hid (fun h1 h2 => by
          rcases HX.out.lo with h | h
          · omega
          · rw [he] at h
            exact h)
        have HHIGH : Hid (r < m → m < e → ltS S (p (e - 1)) (p r) = true) := Lib.hid (fun h1 h2 => by
          rcases HX.out.hi with h | h
          · omega
          · rw [show N - 1 - r = e - 1 by omega] at h
            exact h)
        clear x1 x2 x3 x4 x5 x6 x7 hes
        go_upto_region 39 with fail
        go_cut [185] from 178 to 184 (fun s185 wx => wr = wx ∧ s185 = .bool (decide (r < m ∧ m < e)))
        case first =>
          by_cases c1 : r < m
          · have c1z : (r : Int) < (m : Int) := by omega
            by_cases c2 : m < e
            · have c2z : (m : Int) < (e : Int) := by omega
              go_wp2_with fail
              go_meet
              exact ⟨rfl, by simp [c1, c2]⟩
            · have c2z : ¬ (m : Int) < (e : Int) := by omega
              go_wp2_with fail
              go_meet
              exact ⟨rfl, by simp [c1, c2]⟩
          · have c1z : ¬ (r : Int) < (m : Int) := by omega
            go_wp2_with fail
            go_meet
            exact ⟨rfl, by simp [c1]⟩
        case rest =>
          obtain ⟨rfl, rfl⟩ := hcut
          go_upto_if 185 with fail
          go_cut [20] from 178 to 191 (fun s20 wx => s20 = .int .i64 (r : Int) ∧ ∃ q, Hid (Stb.Rot r m e p q ∧ SA w0 P n S q wx))
          case first =>
            by_cases hc : r < m ∧ m < e
            · have hdc : decide (r < m ∧ m < e) = true := decide_eq_true hc
              rw [hdc]
              have HCALL := Lib.hid (HROT.out wr r e HSA.out hc.1 hc.2 (by have := HES.out; omega))
              have HRR := Lib.hid (Stb.rot_Rot (a := r) (m := m) (b := e) p (by omega) (by omega))
              clear hc
              go_wp2_with (go_at_call 44; refine HCALL.out.mono ?_; rintro e2 w3 ⟨rfl, a1⟩; have H3 := Lib.hid (And.intro HRR.out a1); clear a1)
              go_meet
              exact ⟨rfl, _, H3⟩
            · have hdc : decide (r < m ∧ m < e) = false := decide_eq_false hc
              rw [hdc]
              have HRR : Hid (Stb.Rot r m e p p) := Lib.hid (by
                obtain ⟨e1, e2, e3, e4, e5⟩ := HES.out
                by_cases c1 : r = m
                · rw [c1]
                  exact Stb.rot_left p
                · have c2 : e = m := by omega
                  rw [c2]
                  exact Stb.rot_right p)
              clear hc
              go_wp2_with fail
              go_meet
              exact ⟨rfl, p, Lib.hid (And.intro HRR.out HSA.out)⟩
          case rest =>
            obtain ⟨rfl, q, HQ⟩ := hcut
            have HPT := Lib.hid (merge_parts HS1.out HS2.out HBEF.out HES.out.1 HES.out.2.1 HES.out.2.2.1 HES.out.2.2.2.1 HES.out.2.2.2.2 HQ.out.1)
            go_upto_region 41 with fail
            go_cut [199] from 192 to 198 (fun s199 wx => wc = wx ∧ s199 = .bool (decide (a < r ∧ r < mid)))
            case first =>
              by_cases c1 : a < r
              · have c1z : (a : Int) < (r : Int) := by omega
                by_cases c2 : r < mid
                · have c2z : (r : Int) < (mid : Int) := by omega
                  go_wp2_with fail
                  go_meet
                  exact ⟨rfl, by simp [c1, c2]⟩
                · have c2z : ¬ (r : Int) < (mid : Int) := by omega
                  go_wp2_with fail
                  go_meet
                  exact ⟨rfl, by simp [c1, c2]⟩
              · have c1z : ¬ (a : Int) < (r : Int) := by omega
                go_wp2_with fail
                go_meet
                exact ⟨rfl, by simp [c1]⟩
            case rest =>
              obtain ⟨rfl, rfl⟩ := hcut
              go_upto_if 199 with fail
              go_cut [20] from 192 to 205 (fun s20 wx => s20 = .int .i64 (r : Int) ∧ ∃ q1, Hid (Stb.Shuf a mid q q1 ∧ Stb.Sorted (ltS S) a mid q1 ∧ SA w0 P n S q1 wx))
              case first =>
                by_cases hc : a < r ∧ r < mid
                · have hdc : decide (a < r ∧ r < mid) = true := decide_eq_true hc
                  rw [hdc]
                  have HCALL := Lib.hid (HREC.out wc q a r mid (by have := HD.out; omega) HQ.out.2 hc.1 hc.2 (by omega) HPT.out.1 HPT.out.2.1 HPT.out.2.2.1)
                  clear hc
                  go_wp2_with (go_at_call 34; refine HCALL.out.mono ?_; rintro e2 w3 ⟨rfl, q1, a1, a2, a3⟩; have H3 := Lib.hid (And.intro a2 (And.intro a3 a1)); clear a1 a2 a3)
                  go_meet
                  exact ⟨rfl, _, H3⟩
                · have hdc : decide (a < r ∧ r < mid) = false := decide_eq_false hc
                  rw [hdc]
                  have HSS : Hid (Stb.Sorted (ltS S) a mid q) := Lib.hid (by
                    obtain ⟨e1, e2, e3, e4, e5⟩ := HES.out
                    by_cases c1 : a = r
                    · rw [c1]
                      exact HPT.out.2.1
                    · have c2 : r = mid := by omega
                      rw [← c2]
                      exact HPT.out.1)
                  clear hc
                  go_wp2_with fail
                  go_meet
                  exact ⟨rfl, q, Lib.hid (And.intro (Stb.Shuf.refl _ _ _) (And.intro HSS.out HQ.out.2))⟩
              case rest =>
                obtain ⟨rfl, q1, HQ1⟩ := hcut
                have HSM : Hid (Stb.Sorted (ltS S) mid e q1 ∧ Stb.Sorted (ltS S) e b q1 ∧ Stb.Before mid e b q1) := Lib.hid (by
                  obtain ⟨e1, e2, e3, e4, e5⟩ := HES.out
                  have hq1 : ∀ k, mid ≤ k → q1 k = q k := fun k hk => HQ1.out.1.out k (by omega)
                  exact ⟨HPT.out.2.2.2.1.congr fun k k1 _ => hq1 k k1, HPT.out.2.2.2.2.1.congr fun k k1 _ => hq1 k (by omega), fun i j i1 i2 i3 i4 => by rw [hq1 i i1, hq1 j (by omega)]; exact HPT.out.2.2.2.2.2 i j i1 i2 i3 i4⟩)
                have HFIN : Hid (∀ q2, Stb.Shuf mid b q1 q2 → Stb.Sorted (ltS S) mid b q2 → Stb.Shuf a b p q2 ∧ Stb.Sorted (ltS S) a b q2) := Lib.hid (fun q2 k1 k2 =>
                  Stb.merge_step HO.out HS1.out HS2.out HBEF.out (by omega) (by omega) HES.out.1 HES.out.2.1 HES.out.2.2.1 HES.out.2.2.2.1 HES.out.2.2.2.2 HLOW.out HHIGH.out HQ.out.1 HQ1.out.1 (fun _ _ _ => HQ1.out.2.1) k1 (fun _ _ _ => k2))
                go_upto_region 43 with fail
                go_cut [213] from 206 to 212 (fun s213 wx => wc = wx ∧ s213 = .bool (decide (mid < e ∧ e < b)))
                case first =>
                  by_cases c1 : mid < e
                  · have c1z : (mid : Int) < (e : Int) := by omega
                    by_cases c2 : e < b
                    · have c2z : (e : Int) < (b : Int) := by omega
                      go_wp2_with fail
                      go_meet
                      exact ⟨rfl, by simp [c1, c2]⟩
                    · have c2z : ¬ (e : Int) < (b : Int) := by omega
                      go_wp2_with fail
                      go_meet
                      exact ⟨rfl, by simp [c1, c2]⟩
                  · have c1z : ¬ (mid : Int) < (e : Int) := by omega
                    go_wp2_with fail
                    go_meet
                    exact ⟨rfl, by simp [c1]⟩
                case rest =>
                  obtain ⟨rfl, rfl⟩ := hcut
                  go_upto_if 213 with fail
                  by_cases hc : mid < e ∧ e < b
                  · have hdc : decide (mid < e ∧ e < b) = true := decide_eq_true hc
                    rw [hdc]
                    have HCALL := Lib.hid (HREC.out wc q1 mid e b (by have := HD.out; omega) HQ1.out.2.2 hc.1 hc.2 hb HSM.out.1 HSM.out.2.1 HSM.out.2.2)
                    clear hc
                    go_wp2_with (go_at_call 34; refine HCALL.out.mono ?_; rintro e2 w3 ⟨rfl, q2, a1, a2, a3⟩; have H3 := Lib.hid (And.intro a1 (HFIN.out q2 a2 a3)); clear a1 a2 a3)
                    go_end0
                    exact ⟨rfl, _, H3.out⟩
                  · have hdc : decide (mid < e ∧ e < b) = false := decide_eq_false hc
                    rw [hdc]
                    have HSS : Hid (Stb.Sorted (ltS S) mid b q1) := Lib.hid (by
                      obtain ⟨e1, e2, e3, e4, e5⟩ := HES.out
                      by_cases c1 : mid = e
                      · rw [c1]
                        exact HSM.out.2.1
                      · have c2 : e = b := by omega
                        rw [← c2]
                        exact HSM.out.1)
                    have H3 := Lib.hid (And.intro HQ1.out.2.2 (HFIN.out q1 (Stb.Shuf.refl _ _ _) HSS.out))
                    clear hc
                    go_wp2_with fail
                    go_end0
                    exact ⟨rfl, _, H3.out⟩
/-- The merge, whatever the ranges. -/
theorem merge_any (w0 : World) (P n eb c : Nat) (S : Nat → List UInt8) (hn : n ≤ 100000000) (hC : CmpOk w0 P eb S) : ∀ d, MergeC w0 P n eb c S d := by
  intro d
  induction d with
  | zero =>
    intro w p a m b hd h ham hmb hb hs1 hs2 hbef
    omega
  | succ d ih =>
    intro w p a m b hd h ham hmb hb hs1 hs2 hbef
    by_cases h1 : m = a + 1
    · subst h1
      exact merge_one w0 P n eb c S hn hC w p a b h hmb hb hs2 hbef
    · by_cases h2 : b = m + 1
      · subst h2
        exact merge_two w0 P n eb c S hn hC w p a m h (by omega) hb hs1 hbef
      · exact merge_big w0 P n eb c S hn hC d ih w p a m b hd h (by omega) (by omega) hb hs1 hs2 hbef
end Go.Proofs.YthcminjdkgmeoaaGreatDoor

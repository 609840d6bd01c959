/- FnParseRangeMediaFeatureMirrorsAroundTheName, walked. -/
import Derived.Test.YtceafaddhbabhaaHd
namespace Go.Proofs.Ytceafaddhbabhaa.ZT
open Go.RowKit Go.Proofs.Ytceafaddhbabhaa.TB
set_option linter.unusedVariables false
theorem vlen_cases {n i : Nat} {K : Nat → Int} (h : vlen n i K ≠ 0) : (vlen n i K = 1 ∧ (K i = 26 ∨ K i = 29 ∨ K i = 30)) ∨ (vlen n i K = 3 ∧ K i = 30 ∧ K (i + 1) = 24 ∧ K (i + 2) = 30) := by
  unfold vlen at h ⊢
  split
  · rename_i a; rw [if_pos a] at h; exact absurd rfl h
  · rename_i a; rw [if_neg a] at h
    split
    · rename_i b; exact .inl ⟨rfl, .inl b⟩
    · rename_i b; rw [if_neg b] at h
      split
      · rename_i d; exact .inl ⟨rfl, .inr (.inl d)⟩
      · rename_i d; rw [if_neg d] at h
        split
        · rename_i x
          split
          · rename_i y; exact .inr ⟨rfl, x, y.2.1, y.2.2⟩
          · exact .inl ⟨rfl, .inr (.inr x)⟩
        · rename_i x; rw [if_neg x] at h; exact absurd rfl h
set_option maxRecDepth 100000 in
theorem parse24 (g n c N : Nat) (K : Nat → Int) (T : Nat → ByteArray) (W L : Nat → Int) (w : World) (hN : n ≤ N) (h : Tap w g 34 7 N (tc K T W L)) (hn : 1 ≤ n) (hc : n ≤ c) (hM : c ≤ 9223372036854775807) (hn6 : n ≤ 16384) :
    Calls Try.prog 24 #[.slice (some ⟨g, 0, none⟩) n c] w (PP g n N K T W L w) := by
  have P := Lib.hid (parse30 g n c N K T W L w hN h hn hc hM hn6)
  clear h
  go_enter Try.func24, Try.ntmps24
  go_wp2_with fail
  refine P.out.mono ?_
  rintro e w1 ⟨W1, Wf, hz, ht, hb, hq⟩
  have HP := Lib.hid (fun (e : Ending) (he : PQ g n K T L (cmpOf (n - vlen n 0 K) (sh (vlen n 0 K) K) (sh (vlen n 0 K) W1)) w e w1) => show PP g n N K T W L w e w1 from ⟨W1, Wf, hz, ht, hb, he⟩)
  clear hz ht hb
  have hq2 := id hq
  unfold PQ at hq2
  rcases hq2 with ⟨he, -⟩ | ⟨r, he, -⟩
  · subst he
    have HQ := Lib.hid hq
    clear hq
    go_wp2_with fail
    go_ret2
    exact HP.out _ HQ.out
  · subst he
    have HQ := Lib.hid hq
    clear hq
    go_wp2_with fail
    go_ret2
    exact HP.out _ HQ.out
set_option maxRecDepth 100000 in
theorem parse24n (w : World) (A : Option Addr) (c : Nat) (hM : c ≤ 9223372036854775807) : Calls Try.prog 24 #[.slice A 0 c] w fun e w' => e = .returned (.tuple #[.pointer none, .bool false]) ∧ Below w.heap.size w w' := by
  go_enter Try.func24, Try.ntmps24
  go_wp2_with fail
  refine (parse30n w A c hM).mono ?_
  rintro e w1 ⟨rfl, hb⟩
  have B := Lib.hid hb
  clear hb
  go_wp2_with fail
  go_ret2
  exact ⟨rfl, B.out⟩
theorem drewN_add (w : World) (a b : Nat) : (w.drewN a).drewN b = w.drewN (a + b) := by
  unfold World.drewN
  simp [Nat.add_assoc]
def Tr (w : World) (e : Ending) (w' : World) : Prop := e = .returned (.bool true) ∧ Below w.heap.size w w'
set_option maxRecDepth 100000 in
set_option maxHeartbeats 8000000 in
theorem law6 (A : Option Addr) (n c : Nat) (K : Nat → Int) (T : Nat → ByteArray) (W L : Nat → Int) (w : World) (r : ZR w A n K T W L) (hA : A = none → n = 0) (hn : n ≤ 16384) :
    Calls Try.prog 6 #[.slice A n c] w (Tr w) := by
  have R := Lib.hid r
  have HA := Lib.hid hA
  clear r hA
  go_enter Try.func6, Try.ntmps6
  go_wp2_with fail
  refine (bytes23 A n c K T W L _ R.out (by omega)).mono ?_
  rintro e w' ⟨bb, rfl, rfl⟩
  cases bb
  · go_wp2_with fail
    go_ret
    exact ⟨rfl, Below.refl _ _⟩
  go_wp2_with fail
  refine (size_any A n c K T W L _ R.out hn).mono ?_
  rintro e w' ⟨N, ⟨hN0, hN1⟩, rfl, rfl⟩
  by_cases hN : 1048576 < N
  · go_wp2_with fail
    go_ret
    exact ⟨rfl, Below.refl _ _⟩
  go_wp2_with fail
  refine (clone_any A n c K T W L _ R.out HA.out hn).mono ?_
  rintro e w1 ⟨A1, c1, rfl, hc1, hz1, ha1, hb1⟩
  have Z1 := Lib.hid hz1
  have HA1 := Lib.hid ha1
  have B1 := Lib.hid hb1
  clear hz1 ha1 hb1 R HA
  go_wp2_with fail
  refine (toksq_any A1 n c1 K T W L _ Z1.out HA1.out hn).mono ?_
  rintro e w2 ⟨A2, c2, rfl, hc2, hc2', hx, hb2⟩
  have B2 := Lib.hid (B1.out.trans (hb2.mono B1.out.size))
  clear hb2 Z1 HA1
  by_cases hn0 : n = 0
  · subst hn0
    go_wp2_with fail
    refine (parse24n _ A2 c2 (by omega)).mono ?_
    rintro e w3 ⟨rfl, hb3⟩
    have B3 := Lib.hid (B2.out.trans (hb3.mono B2.out.size))
    clear hx hb3
    go_wp2_with fail
    go_ret
    exact ⟨rfl, B3.out⟩
  obtain ⟨g, rfl, ht2, hge⟩ : ∃ g, A2 = some ⟨g, 0, none⟩ ∧ Tab w2 g 34 7 n (tc K T W L) ∧ w1.heap.size ≤ g := by
    rcases hx with ⟨-, h⟩ | h
    · exact absurd h hn0
    · exact h
  have T2 := Lib.hid (Tap.of ht2)
  have HGE := Lib.hid (Nat.le_trans B1.out.size hge)
  clear hx ht2 hge B1
  go_wp2_with fail
  refine (parse24 g n c2 n K T W L _ (Nat.le_refl _) T2.out (by omega) hc2 (by omega) hn).mono ?_
  rintro e w3 ⟨W1, Wf, -, ht3, hb3, hq⟩
  have T3 := Lib.hid ht3
  have B3 := Lib.hid (B2.out.trans (hb3.mono HGE.out))
  clear ht3 hb3
  unfold PQ at hq
  generalize hmm : cmpOf (n - vlen n 0 K) (sh (vlen n 0 K) K) (sh (vlen n 0 K) W1) = m1 at hq
  have hm5 : m1 ≤ 5 := by rw [← hmm]; exact cmpOf_le _ _ _
  clear hmm
  rcases hq with ⟨rfl, -⟩ | ⟨r, rfl, hr, hm0, hv0, hq⟩
  · go_wp2_with fail
    go_ret
    exact ⟨rfl, B3.out⟩
  have HR := Lib.hid (Nat.le_trans B2.out.size hr)
  clear hr T2 B2
  rcases hq with ⟨h1, h2, h3, h4, ca, hbk, hca⟩ | ⟨-, -, -, -, cb, hbk, -⟩ | ⟨-, cb, nm, X, nx, cx, lo, ac, hbk⟩
  · rw [h1] at h3 h4 hbk hca
    clear h1 hv0
    obtain ⟨j, hj⟩ : ∃ j, 1 + wid m1 = j := ⟨_, rfl⟩
    rw [hj] at h3 h4 hbk hca
    obtain ⟨v, hv⟩ : ∃ v, vlen (n - j) j K = v := ⟨_, rfl⟩
    have hc := vlen_cases h3
    rw [hv] at h3 h4 hbk hca hc
    clear hv hj
    have HC := Lib.hid hc
    have RB := Lib.hid hbk
    have hv13 : v = 1 ∨ v = 3 := by omega
    clear hc hbk
    have y0 : w3.cell? ⟨r, 0, none⟩ = some (.slice none 0 0) := RB.out.cell 0
    have y2 : w3.cell? ⟨r, 2, none⟩ = some (.slice (some ⟨g, 7 * j, none⟩) v ca) := RB.out.cell 2
    have y5 : w3.cell? ⟨r, 5, none⟩ = some (.int .u8 (m1 : Nat)) := RB.out.cell 5
    have hjn : j + v = n := h4
    have HH2 := Lib.hid h2
    have x5 : w3.cell? ⟨g, 7 * j + 5, none⟩ = some (.int .u8 (K j)) := by rw [show 7 * j + 5 = j * 7 + 5 by omega]; exact T3.out.cell (i := j) (j := 5) (by omega) (by omega)
    have e0 : ((v : Int) == 0) = false := by rw [beq_eq_false_iff_ne]; omega
    have e3 : ¬ (3 : Int) < (v : Int) := by omega
    have qv0 : (0 : Int) < (v : Int) := by omega
    by_cases hv1 : v = 1
    case' pos =>
      have e1 : ((v : Int) == 1) = true := by rw [beq_iff_eq]; omega
      by_cases hk : K j = 29
      case pos =>
        have e2 : (K j == 29) = true := beqT hk
        clear hk hv1
        go_wp2_with fail
        go_ret
        exact ⟨rfl, B3.out⟩
      have e2 : (K j == 29) = false := beqF hk
      have HV := Lib.hid (show (v = 1 ∧ (K j = 26 ∨ K j = 30)) ∨ (v = 3 ∧ K j = 30 ∧ K (j + 1) = 24 ∧ K (j + 2) = 30) from by have := HC.out; omega)
      clear hk hv1
    case' neg =>
      have e1 : ((v : Int) == 1) = false := by rw [beq_eq_false_iff_ne]; omega
      have HV := Lib.hid (show (v = 1 ∧ (K j = 26 ∨ K j = 30)) ∨ (v = 3 ∧ K j = 30 ∧ K (j + 1) = 24 ∧ K (j + 2) = 30) from by have := HC.out; omega)
      clear hv1
    all_goals
      go_wp2_with fail
      refine (flip25 m1 _ hm5).mono ?_
      rintro e w' ⟨rfl, rfl⟩
      have hf : 1 ≤ fl m1 ∧ fl m1 ≤ 5 := by
        rcases (by omega : m1 = 1 ∨ m1 = 2 ∨ m1 = 3 ∨ m1 = 4 ∨ m1 = 5) with rfl | rfl | rfl | rfl | rfl <;> simp [fl]
      generalize fl m1 = f at *
      obtain ⟨i0, hi, hz0, hz1, hz2⟩ := info_parts info34
      have hmk := run_make (P := Try.prog) w3 38 34 i0 _ Try.underlying38 hi hz0 .i64 .i64 0 ((v + 3 : Nat) : Int) (by omega) (by omega) (by rw [hz2]; omega) (by omega)
      simp only [Int.toNat_natCast, hz1] at hmk
      rw [show ((v + 3 : Nat) : Int) = (v : Int) + 3 from by omega] at hmk
      have L0 := Lib.hid (show LA w3 (mK v f K j) (mT v f T j) (mL v f L j) 0 (.slice (some ⟨w3.heap.size, 0, none⟩) 0 (v + 3)) (w3.alloc (.cells (madeCells #[.pointer none, .string ByteArray.empty, .int .i32 0, .int .u32 0, .int .u16 0, .int .u8 0, .int .u8 0] ((v + 3) * 7)) 34)) from
        ⟨World.ownsRow_made w3 _ (v + 3) (Nat.le_refl _) (by unfold maxLen; omega) (size_madeCells _ _), (Below.refl _ _).alloc (Nat.le_refl _) _⟩)
      go_wp2_with fail
      clear hmk e1 x5 y0 y5
      have Y := Lib.hid (show w3.cell? ⟨r, 2, none⟩ = some (.slice (some ⟨g, 7 * j, none⟩) v ca) ∧ w3.cell? ⟨r, 1, none⟩ = some (.string (T 0)) ∧ w3.cell? ⟨r, 3, none⟩ = some (.int .i32 (L 0)) ∧ r < w3.heap.size ∧ g < w3.heap.size from ⟨y2, RB.out.cell 1, RB.out.cell 3, RB.out.lt, T3.out.lt⟩)
      clear y2
      generalize w3.alloc (.cells (madeCells #[.pointer none, .string ByteArray.empty, .int .i32 0, .int .u32 0, .int .u16 0, .int .u8 0, .int .u8 0] ((v + 3) * 7)) 34) = W0 at *
      obtain ⟨wo, hwo⟩ : ∃ wo : World, wo = w3 := ⟨_, rfl⟩
      rw [← hwo] at L0 Y T3 B3 RB
      go_loopw [6, 7] (fun u i wr => ∃ (k : Nat), k ≤ v ∧ i = .int .i64 k ∧ Hid (LA wo (mK v f K j) (mT v f T j) (mL v f L j) k u wr)) (fun _ i _ => v - (intOf i).toNat)
      case atStart => exact ⟨0, Nat.zero_le _, rfl, hwo ▸ L0⟩
      case round =>
        obtain ⟨k, hk, rfl, LL⟩ := hrel
        clear L0
        have BX := Lib.hid LL.out.2
        have y2 : wr.cell? ⟨r, 2, none⟩ = some (.slice (some ⟨g, 7 * j, none⟩) v ca) := by rw [BX.out.cell Y.out.2.2.2.1]; exact Y.out.1
        have hrl : r < wr.heap.size := Nat.lt_of_lt_of_le Y.out.2.2.2.1 BX.out.size
        have hgl : g < wr.heap.size := Nat.lt_of_lt_of_le Y.out.2.2.2.2 BX.out.size
        have nr : ¬ r = wr.heap.size := by omega
        have ng : ¬ g = wr.heap.size := by omega
        have nr2 : ¬ wr.heap.size = r := by omega
        have ng2 : ¬ wr.heap.size = g := by omega
        by_cases hlt : k < v
        · have T4 := Lib.hid (T3.out.below BX.out Y.out.2.2.2.2)
          have x5 : wr.cell? ⟨g, 7 * j + k * 7 + 5, none⟩ = some (.int .u8 (K (j + k))) := by rw [show 7 * j + k * 7 + 5 = (j + k) * 7 + 5 by omega]; exact T4.out.cell (i := j + k) (j := 5) (by omega) (by omega)
          have x1 : wr.cell? ⟨g, 7 * j + k * 7 + 1, none⟩ = some (.string (T (j + k))) := by rw [show 7 * j + k * 7 + 1 = (j + k) * 7 + 1 by omega]; exact T4.out.cell (i := j + k) (j := 1) (by omega) (by omega)
          have x2 : wr.cell? ⟨g, 7 * j + k * 7 + 2, none⟩ = some (.int .i32 (L (j + k))) := by rw [show 7 * j + k * 7 + 2 = (j + k) * 7 + 2 by omega]; exact T4.out.cell (i := j + k) (j := 2) (by omega) (by omega)
          have ek := Lib.hid (show mK v f K j k = K (j + k) from if_pos hlt)
          have et := Lib.hid (show mT v f T j k = T (j + k) from if_pos hlt)
          have el := Lib.hid (show mL v f L j k = L (j + k) from if_pos hlt)
          generalize K (j + k) = kk at *
          generalize T (j + k) = tk at *
          generalize L (j + k) = lk at *
          have q1 : (0 : Int) ≤ (k : Int) := by omega
          have q2 : (k : Int) < (v : Int) := by omega
          have HSW := Lib.hid (show wo.heap.size ≤ wr.heap.size + 1 + 1 from by have := BX.out.size; omega)
          clear T4
          go_wp2_with (at_builtin; refine wpList_append_lies _ rfl _ _ _ rfl wo.heap.size 34 i0 _ 7 40 Try.underlying38 hi hz0 hz1 hz2 rfl (by omega) u6 k (mls (mK v f K j) (mT v f T j) (mL v f L j) k) rfl ((own_below LL.out.1 ((Below.refl _ _).alloc (Nat.le_refl _) (.cells #[.pointer none, .string tk, .int .i32 lk, .int .u32 0, .int .u16 0, .int .u8 kk, .int .u8 0] 34))).alloc _) ⟨wr.heap.size + 1, 0, none⟩ 1 1 [.pointer none, .string tk, .int .i32 lk, .int .u32 0, .int .u16 0, .int .u8 kk, .int .u8 0] rfl rfl (World.news_of_block (by simpa using heap_alloc_new (wr.alloc (.cells #[.pointer none, .string tk, .int .i32 lk, .int .u32 0, .int .u16 0, .int .u8 kk, .int .u8 0] 34)) (.cells #[.pointer none, .string tk, .int .i32 lk, .int .u32 0, .int .u16 0, .int .u8 kk, .int .u8 0] 34))) (by simp [Value.oneCell']) (by omega) (by unfold maxLen; omega) (by omega) (by simpa using HSW.out) (wr.heap.size + 1 + 1) (by simp) ?_; intro gg cap w10 hown1 hgrow hat hlt9; have LN := Lib.hid (LA.next LL.out ((Below.refl _ _).alloc (Nat.le_refl _) (.cells #[.pointer none, .string tk, .int .i32 lk, .int .u32 0, .int .u16 0, .int .u8 kk, .int .u8 0] 34)) (own_below LL.out.1 ((Below.refl _ _).alloc (Nat.le_refl _) _)) (by rw [ek.out, et.out, el.out]; exact hown1) hgrow); clear hown1 hgrow hat hlt9)
          go_roundw
          case rel => exact ⟨k + 1, by omega, by go_num, LN⟩
          case measure => simp [intOf]; omega
        · obtain rfl : v = k := by omega
          have hwf : wid f = 1 ∨ wid f = 2 := by
            rcases (by omega : f = 1 ∨ f = 2 ∨ f = 3 ∨ f = 4 ∨ f = 5) with rfl | rfl | rfl | rfl | rfl <;> simp [wid]
          have ek := Lib.hid (show mK v f K j v = (ck f : Nat) from by unfold mK; rw [if_neg (by omega), if_pos rfl])
          have et := Lib.hid (show mT v f T j v = ⟨#[]⟩ from by unfold mT; rw [if_neg (by omega), if_neg (by omega)])
          have el := Lib.hid (show mL v f L j v = 0 from by unfold mL; rw [if_neg (by omega), if_neg (by omega)])
          have HSW := Lib.hid (show wo.heap.size ≤ wr.heap.size + 1 + 1 from by have := BX.out.size; omega)
          have HWF := Lib.hid hwf
          clear hwf
          go_wp2_with fail
          refine (kind26 f _ hf.2).mono ?_
          rintro e w' ⟨rfl, rfl⟩
          go_upto_region 26 with (at_builtin; refine wpList_append_lies _ rfl _ _ _ rfl wo.heap.size 34 i0 _ 7 40 Try.underlying38 hi hz0 hz1 hz2 rfl (by omega) u6 v (mls (mK v f K j) (mT v f T j) (mL v f L j) v) rfl ((own_below LL.out.1 ((Below.refl _ _).alloc (Nat.le_refl _) (.cells #[.pointer none, .string ⟨#[]⟩, .int .i32 0, .int .u32 0, .int .u16 0, .int .u8 (ck f : Nat), .int .u8 0] 34))).alloc _) ⟨wr.heap.size + 1, 0, none⟩ 1 1 [.pointer none, .string ⟨#[]⟩, .int .i32 0, .int .u32 0, .int .u16 0, .int .u8 (ck f : Nat), .int .u8 0] rfl rfl (World.news_of_block (by simpa using heap_alloc_new (wr.alloc (.cells #[.pointer none, .string ⟨#[]⟩, .int .i32 0, .int .u32 0, .int .u16 0, .int .u8 (ck f : Nat), .int .u8 0] 34)) (.cells #[.pointer none, .string ⟨#[]⟩, .int .i32 0, .int .u32 0, .int .u16 0, .int .u8 (ck f : Nat), .int .u8 0] 34))) (by simp [Value.oneCell']) (by omega) (by unfold maxLen; omega) (by omega) (by simpa using HSW.out) (wr.heap.size + 1 + 1) (by simp) ?_; intro gg cap w10 hown1 hgrow hat hlt9; have LN := Lib.hid (LA.next LL.out ((Below.refl _ _).alloc (Nat.le_refl _) (.cells #[.pointer none, .string ⟨#[]⟩, .int .i32 0, .int .u32 0, .int .u16 0, .int .u8 (ck f : Nat), .int .u8 0] 34)) (own_below LL.out.1 ((Below.refl _ _).alloc (Nat.le_refl _) _)) (by rw [ek.out, et.out, el.out]; exact hown1) hgrow); clear hown1 hgrow hat hlt9)
          have BN := Lib.hid LN.out.2
          clear y2 ek et el HSW LL BX hrl hgl nr ng nr2 ng2
          go_wp2_with fail
          refine (width16 f _ hf.2).mono ?_
          rintro e w' ⟨rfl, rfl⟩
          rcases HWF.out with hw | hw
          case' inl =>
            have e2w : (((wid f : Nat) : Int) == 2) = false := by rw [hw]; rfl
            have HW := Lib.hid hw
            clear hw
            go_upto_region 30 with fail
            obtain ⟨q, hq⟩ : ∃ q, v + 1 = q := ⟨_, rfl⟩
            have HQ := Lib.hid (show q = v + wid f by rw [HW.out]; exact hq.symm)
            rw [hq] at LN ⊢
          case' inr =>
            have e2w : (((wid f : Nat) : Int) == 2) = true := by rw [hw]; rfl
            have ek := Lib.hid (show mK v f K j (v + 1) = 18 from by unfold mK; rw [if_neg (by omega), if_neg (by omega), if_pos ⟨hw, rfl⟩])
            have et := Lib.hid (show mT v f T j (v + 1) = ⟨#[]⟩ from by unfold mT; rw [if_neg (by omega), if_neg (by omega)])
            have el := Lib.hid (show mL v f L j (v + 1) = 0 from by unfold mL; rw [if_neg (by omega), if_neg (by omega)])
            have HSW := Lib.hid (show wo.heap.size ≤ w10.heap.size + 1 + 1 from by have := BN.out.size; omega)
            have HW := Lib.hid hw
            obtain ⟨wp, hwp⟩ : ∃ wp, w10 = wp := ⟨_, rfl⟩
            obtain ⟨gp, hgp⟩ : ∃ gp, gg = gp := ⟨_, rfl⟩
            obtain ⟨cp, hcp⟩ : ∃ cp, cap = cp := ⟨_, rfl⟩
            subst hwp hgp hcp
            have LP := LN
            clear hw LN
            go_upto_region 30 with (at_builtin; refine wpList_append_lies _ rfl _ _ _ rfl wo.heap.size 34 i0 _ 7 40 Try.underlying38 hi hz0 hz1 hz2 rfl (by omega) (.slice (some ⟨gg, 0, none⟩) (v + 1) cap) (v + 1) (mls (mK v f K j) (mT v f T j) (mL v f L j) (v + 1)) rfl ((own_below LP.out.1 ((Below.refl _ _).alloc (Nat.le_refl _) (.cells #[.pointer none, .string ⟨#[]⟩, .int .i32 0, .int .u32 0, .int .u16 0, .int .u8 18, .int .u8 0] 34))).alloc _) ⟨w10.heap.size + 1, 0, none⟩ 1 1 [.pointer none, .string ⟨#[]⟩, .int .i32 0, .int .u32 0, .int .u16 0, .int .u8 18, .int .u8 0] rfl rfl (World.news_of_block (by simpa using heap_alloc_new (w10.alloc (.cells #[.pointer none, .string ⟨#[]⟩, .int .i32 0, .int .u32 0, .int .u16 0, .int .u8 18, .int .u8 0] 34)) (.cells #[.pointer none, .string ⟨#[]⟩, .int .i32 0, .int .u32 0, .int .u16 0, .int .u8 18, .int .u8 0] 34))) (by simp [Value.oneCell']) (by omega) (by unfold maxLen; omega) (by omega) (by simpa using HSW.out) (w10.heap.size + 1 + 1) (by simp) ?_; intro gg cap w10 hown1 hgrow hat hlt9; have LN := Lib.hid (LA.next LP.out ((Below.refl _ _).alloc (Nat.le_refl _) (.cells #[.pointer none, .string ⟨#[]⟩, .int .i32 0, .int .u32 0, .int .u16 0, .int .u8 18, .int .u8 0] 34)) (own_below LP.out.1 ((Below.refl _ _).alloc (Nat.le_refl _) _)) (by rw [ek.out, et.out, el.out]; exact hown1) hgrow); clear hown1 hgrow hat hlt9)
            obtain ⟨q, hq⟩ : ∃ q, v + 1 + 1 = q := ⟨_, rfl⟩
            have HQ := Lib.hid (show q = v + wid f by rw [HW.out]; exact hq.symm)
            rw [hq] at LN ⊢
            clear ek et el HSW LP BN
            have BN := Lib.hid LN.out.2
          all_goals
            have hqv : q ≤ v + 2 := by have h1 := HQ.out; have := HWF.out; omega
            have hqv1 : v + 1 ≤ q := by have h1 := HQ.out; have := HWF.out; omega
            have ek := Lib.hid (show mK v f K j q = 29 from by rw [HQ.out]; unfold mK; have := HWF.out; rw [if_neg (by omega), if_neg (by omega), if_neg (by omega)])
            have et := Lib.hid (show mT v f T j q = T 0 from by rw [HQ.out]; unfold mT; rw [if_neg (by omega), if_pos rfl])
            have el := Lib.hid (show mL v f L j q = L 0 from by rw [HQ.out]; unfold mL; rw [if_neg (by omega), if_pos rfl])
            have HSW := Lib.hid (show wo.heap.size ≤ w10.heap.size + 1 + 1 from by have := BN.out.size; omega)
            have y1 : w10.cell? ⟨r, 1, none⟩ = some (.string (T 0)) := by rw [BN.out.cell Y.out.2.2.2.1]; exact Y.out.2.1
            have y3 : w10.cell? ⟨r, 3, none⟩ = some (.int .i32 (L 0)) := by rw [BN.out.cell Y.out.2.2.2.1]; exact Y.out.2.2.1
            have hrl : r < w10.heap.size := Nat.lt_of_lt_of_le Y.out.2.2.2.1 BN.out.size
            have nr : ¬ r = w10.heap.size := by omega
            have nr2 : ¬ w10.heap.size = r := by omega
            have LP := LN
            clear LN hq e2w
            generalize hT0 : T 0 = t0 at et y1 ⊢
            generalize hL0 : L 0 = l0 at el y3 ⊢
            have HT0 := Lib.hid hT0
            have HL0 := Lib.hid hL0
            clear hT0 hL0
            go_upto_region 35 with (at_builtin; refine wpList_append_lies _ rfl _ _ _ rfl wo.heap.size 34 i0 _ 7 40 Try.underlying38 hi hz0 hz1 hz2 rfl (by omega) (.slice (some ⟨gg, 0, none⟩) q cap) q (mls (mK v f K j) (mT v f T j) (mL v f L j) q) rfl ((own_below LP.out.1 ((Below.refl _ _).alloc (Nat.le_refl _) (.cells #[.pointer none, .string t0, .int .i32 l0, .int .u32 0, .int .u16 0, .int .u8 29, .int .u8 0] 34))).alloc _) ⟨w10.heap.size + 1, 0, none⟩ 1 1 [.pointer none, .string t0, .int .i32 l0, .int .u32 0, .int .u16 0, .int .u8 29, .int .u8 0] rfl rfl (World.news_of_block (by simpa using heap_alloc_new (w10.alloc (.cells #[.pointer none, .string t0, .int .i32 l0, .int .u32 0, .int .u16 0, .int .u8 29, .int .u8 0] 34)) (.cells #[.pointer none, .string t0, .int .i32 l0, .int .u32 0, .int .u16 0, .int .u8 29, .int .u8 0] 34))) (by simp [Value.oneCell']) (by omega) (by unfold maxLen; omega) (by omega) (by simpa using HSW.out) (w10.heap.size + 1 + 1) (by simp) ?_; intro gg cap w10 hown1 hgrow hat hlt9; have LN := Lib.hid (LA.next LP.out ((Below.refl _ _).alloc (Nat.le_refl _) (.cells #[.pointer none, .string t0, .int .i32 l0, .int .u32 0, .int .u16 0, .int .u8 29, .int .u8 0] 34)) (own_below LP.out.1 ((Below.refl _ _).alloc (Nat.le_refl _) _)) (by rw [ek.out, et.out, el.out]; exact hown1) hgrow); clear hown1 hgrow hat hlt9)
            clear ek et el HSW y1 y3 hrl nr nr2 LP BN
            have BN := Lib.hid LN.out.2
            obtain ⟨g2, cg, hsl, hcq, hcm, TP, hg2⟩ := LN.out.tap (by omega)
            simp only [Value.slice.injEq, Option.some.injEq, Addr.mk.injEq, true_and, and_true] at hsl
            obtain ⟨rfl, rfl⟩ := hsl
            have HTP := Lib.hid TP
            have HG2 := Lib.hid hg2
            unfold maxLen at hcm
            clear TP hg2
            go_wp2_with fail
            refine (parse24 gg (q + 1) cap (q + 1) (mK v f K j) (mT v f T j) (fun _ => 0) (mL v f L j) _ (Nat.le_refl _) HTP.out (by omega) hcq (by omega) (by omega)).mono ?_
            rintro e w7 hpp
            obtain ⟨r2, cb, Wg, rfl, hr2, htp, hb7, hbk, hcb⟩ := mirror hf HV.out (by rw [HQ.out]) hpp
            have RB2 := Lib.hid hbk
            have T7 := Lib.hid htp
            have B7 := Lib.hid (BN.out.trans (hb7.mono HG2.out))
            have T7r := Lib.hid (T3.out.below B7.out Y.out.2.2.2.2)
            have hcv : (v : Int) ≤ (cb : Int) := by omega
            have hvc : (v : Int) ≤ (ca : Int) := by omega
            clear hpp hbk htp hb7
            have z0 : w7.cell? ⟨r2, 0, none⟩ = some (.slice (some ⟨gg, 0, none⟩) v cb) := RB2.out.cell 0
            have z1 : w7.cell? ⟨r2, 1, none⟩ = some (.string t0) := by rw [← HT0.out]; exact RB2.out.cell 1
            have z2 : w7.cell? ⟨r2, 2, none⟩ = some (.slice none 0 0) := RB2.out.cell 2
            have z3 : w7.cell? ⟨r2, 3, none⟩ = some (.int .i32 l0) := by rw [← HL0.out]; exact RB2.out.cell 3
            have z4 : w7.cell? ⟨r2, 4, none⟩ = some (.int .u8 (f : Nat)) := RB2.out.cell 4
            have z5 : w7.cell? ⟨r2, 5, none⟩ = some (.int .u8 0) := RB2.out.cell 5
            have x1 : w7.cell? ⟨r, 1, none⟩ = some (.string t0) := by rw [B7.out.cell Y.out.2.2.2.1, ← HT0.out]; exact Y.out.2.1
            have x2 : w7.cell? ⟨r, 2, none⟩ = some (.slice (some ⟨g, 7 * j, none⟩) v ca) := by rw [B7.out.cell Y.out.2.2.2.1]; exact Y.out.1
            have x3 : w7.cell? ⟨r, 3, none⟩ = some (.int .i32 l0) := by rw [B7.out.cell Y.out.2.2.2.1, ← HL0.out]; exact Y.out.2.2.1
            go_wp2_with fail
            go_quiet (fail)
            go_wp2_with fail
            generalize hW8 : w7.drewN _ = W8
            have z0 : W8.cell? ⟨r2, 0, none⟩ = some (.slice (some ⟨gg, 0, none⟩) v cb) := by rw [← hW8]; exact z0
            have x2 : W8.cell? ⟨r, 2, none⟩ = some (.slice (some ⟨g, 7 * j, none⟩) v ca) := by rw [← hW8]; exact x2
            have B8 : Hid (Below wo.heap.size wo W8) := by rw [← hW8]; exact Lib.hid (below_drewN B7.out _)
            have T8 : Hid (Tap W8 gg 34 7 (q + 1) (tc (mK v f K j) (mT v f T j) Wg (mL v f L j))) := by rw [← hW8]; exact Lib.hid (T7.out.drewN _)
            have T8r : Hid (Tap W8 g 34 7 n (tc K T Wf L)) := by rw [← hW8]; exact Lib.hid (T7r.out.drewN _)
            clear z1 z2 z3 z4 z5 x1 x3 hW8 T7 T7r B7 RB2
            go_loopw [14] (fun i wr => ∃ (k m : Nat), k ≤ v ∧ i = .int .i64 k ∧ wr = W8.drewN m) (fun i _ => v - (intOf i).toNat)
            case atStart => exact ⟨0, 0, Nat.zero_le _, rfl, rfl⟩
            case round =>
              obtain ⟨k, m, hk, rfl, rfl⟩ := hrel
              have z0' : (W8.drewN m).cell? ⟨r2, 0, none⟩ = some (.slice (some ⟨gg, 0, none⟩) v cb) := z0
              have x2' : (W8.drewN m).cell? ⟨r, 2, none⟩ = some (.slice (some ⟨g, 7 * j, none⟩) v ca) := x2
              have B9 := Lib.hid (below_drewN B8.out m)
              generalize hWm : W8.drewN m = Wm at *
              by_cases hlt : k < v
              · have u5 : Wm.cell? ⟨gg, k * 7 + 5, none⟩ = some (.int .u8 (K (j + k))) := by rw [← hWm, show K (j + k) = mK v f K j k from (if_pos hlt).symm]; exact T8.out.cell (i := k) (j := 5) (by omega) (by omega)
                have u1 : Wm.cell? ⟨gg, k * 7 + 1, none⟩ = some (.string (T (j + k))) := by rw [← hWm, show T (j + k) = mT v f T j k from (if_pos hlt).symm]; exact T8.out.cell (i := k) (j := 1) (by omega) (by omega)
                have v5 : Wm.cell? ⟨g, 7 * j + k * 7 + 5, none⟩ = some (.int .u8 (K (j + k))) := by rw [← hWm, show 7 * j + k * 7 + 5 = (j + k) * 7 + 5 by omega]; exact T8r.out.cell (i := j + k) (j := 5) (by omega) (by omega)
                have v1 : Wm.cell? ⟨g, 7 * j + k * 7 + 1, none⟩ = some (.string (T (j + k))) := by rw [← hWm, show 7 * j + k * 7 + 1 = (j + k) * 7 + 1 by omega]; exact T8r.out.cell (i := j + k) (j := 1) (by omega) (by omega)
                generalize K (j + k) = kk at *
                generalize T (j + k) = tk at *
                have q1 : (0 : Int) ≤ (k : Int) := by omega
                have q2 : (k : Int) < (v : Int) := by omega
                go_wp2_with fail
                go_quiet (fail)
                go_wp2_with fail
                go_roundw
                case rel =>
                  refine ⟨k + 1, ?_, by omega, by go_num, ?_⟩
                  rotate_left
                  · rw [← hWm, drewN_add]
                case measure => simp [intOf]; omega
              · obtain rfl : v = k := by omega
                go_wp2_with fail
                go_ret
                exact ⟨rfl, B3.out.trans (B9.out.mono B3.out.size)⟩
  · have y0 := hbk.cell 0
    have RB := Lib.hid hbk
    have q0 : (0 : Int) < ((vlen n 0 K : Nat) : Int) := by omega
    have q1 : (((vlen n 0 K : Nat) : Int) != 0) = true := by simp; omega
    generalize vlen n 0 K = v at *
    have y0 : w3.cell? ⟨r, 0, none⟩ = some (.slice (some ⟨g, 0, none⟩) v cb) := RB.out.cell 0
    clear hbk
    go_wp2_with fail
    go_ret
    exact ⟨rfl, B3.out⟩
  · have RB := Lib.hid hbk
    have q0 : (0 : Int) < ((vlen n 0 K : Nat) : Int) := by omega
    have q1 : (((vlen n 0 K : Nat) : Int) != 0) = true := by simp; omega
    generalize vlen n 0 K = v at *
    have y0 : w3.cell? ⟨r, 0, none⟩ = some (.slice (some ⟨g, 0, none⟩) v cb) := RB.out.cell 0
    clear hbk
    go_wp2_with fail
    go_ret
    exact ⟨rfl, B3.out⟩
end Go.Proofs.Ytceafaddhbabhaa.ZT

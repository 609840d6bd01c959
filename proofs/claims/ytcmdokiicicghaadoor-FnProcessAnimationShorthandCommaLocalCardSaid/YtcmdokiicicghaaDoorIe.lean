/- FnProcessAnimationShorthandCommaLocal: the walk. -/
import Derived.Test.YtcmdokiicicghaaDoorId
import Derived.Test.YtcmdokiicicghaaDoorHf
namespace Go.Proofs.YtcmdokiicicghaaDoor.WA
open Go Go.RowKit Go.Lib Go.Proofs.YtcmdokiicicghaaDoor.MP Go.Proofs.YtcmdokiicicghaaDoor.SY Go.Proofs.YtcmdokiicicghaaDoor.LO Go.Proofs.YtcmdokiicicghaaDoor.TB Go.Proofs.YtcmdokiicicghaaDoor.OW
set_option linter.unusedVariables false
set_option maxRecDepth 100000 in
set_option maxHeartbeats 1000000 in
theorem bytesS (A B : Option Addr) (n c m d : Nat) (ml : Bool) (T : Nat → ByteArray) (w : World) (r2 : SR w B m T) (hn : n ≤ 9223372036854775807) (hm : m ≤ 9223372036854775807) :
    Calls Tryd.prog 19 #[.slice A n c, .slice B m d, .bool ml] w (BytesP n m T w) := by
  have R := Lib.hid r2
  clear r2
  by_cases h1 : n ≤ 1048576
  · by_cases h2 : m ≤ 1048576
    · by_cases h3 : n + m ≤ 1048576
      · go_enter Tryd.func19, Tryd.ntmps19
        go_wp2
        go_loop [7, 8] (fun s i => ∃ (k : Nat) (N : Int), k ≤ m ∧ 0 ≤ N ∧ N ≤ 1048576 ∧ i = .int .i64 k ∧ s = .int .i64 N ∧ Hid (∀ i, i < k → (T i).size ≤ 1048576)) (fun _ i => m - (intOf i).toNat)
        case atStart => exact ⟨0, (n : Int) + m, Nat.zero_le _, by omega, by omega, rfl, rfl, Lib.hid (fun i h => absurd h (by omega))⟩
        case round =>
          obtain ⟨k, N, hk, h0, h1', rfl, rfl, HZ⟩ := hrel
          by_cases hlt : k < m
          · obtain ⟨b, o, rfl, hb, hc⟩ := R.out (by omega)
            have x1 := hc k hlt
            clear hc
            have q1 : (0 : Int) ≤ (k : Int) := by omega
            have q2 : (k : Int) < (m : Int) := by omega
            by_cases hs : (T k).size ≤ 1048576
            · by_cases hbig : N + (T k).size ≤ 1048576
              · go_wp2
                go_round
                case rel => exact ⟨k + 1, N + (T k).size, by omega, by omega, by omega, by go_num, rfl, Lib.hid (fun i hi => by
                    by_cases e : i < k
                    · exact HZ.out i e
                    · obtain rfl : i = k := by omega
                      exact hs)⟩
                case measure => simp [intOf]; omega
              · go_wp2
                go_ret
                exact ⟨false, rfl, rfl, fun h => by cases h⟩
            · go_wp2
              go_ret
              exact ⟨false, rfl, rfl, fun h => by cases h⟩
          · obtain rfl : k = m := by omega
            go_wp2
            go_ret
            exact ⟨true, rfl, rfl, fun _ => ⟨h1, h2, HZ.out⟩⟩
      · go_enter Tryd.func19, Tryd.ntmps19
        go_wp2
        go_ret
        exact ⟨false, rfl, rfl, fun h => by cases h⟩
    · go_enter Tryd.func19, Tryd.ntmps19
      go_wp2
      go_ret
      exact ⟨false, rfl, rfl, fun h => by cases h⟩
  · go_enter Tryd.func19, Tryd.ntmps19
    go_wp2
    go_ret
    exact ⟨false, rfl, rfl, fun h => by cases h⟩
theorem BR.drew {w : World} {A : Option Addr} {n : Nat} {z : Nat → Int} (h : BR w A n z) : BR w.drew A n z := h
theorem SR.drew {w : World} {A : Option Addr} {n : Nat} {z : Nat → ByteArray} (h : SR w A n z) : SR w.drew A n z := h
theorem below_drewl {B : Nat} {a w : World} (h : Below B a.drew w) : Below B a w := ⟨h.os, h.tape, h.output, h.size, h.block⟩
/-- The state ahead of a segment: the whole list is as the pass has left it. -/
structure OI (w wr : World) (g n : Nat) (ml : Bool) (K : Nat → Int) (T : Nat → ByteArray) : Prop where
  tab : Tab wr g TT 7 n (tkp (hit ml K T) K T n)
  bel : Below w.heap.size w wr
theorem OI.below {w wr w' : World} {g n : Nat} {ml : Bool} {K : Nat → Int} {T : Nat → ByteArray} (h : OI w wr g n ml K T) (hb : Below wr.heap.size wr w') : OI w w' g n ml K T :=
  ⟨h.tab.below hb h.tab.lt, h.bel.trans (hb.mono h.bel.size)⟩
theorem OI.drewN {w wr : World} {g n : Nat} {ml : Bool} {K : Nat → Int} {T : Nat → ByteArray} (h : OI w wr g n ml K T) (k : Nat) : OI w (wr.drewN k) g n ml K T :=
  ⟨h.tab.drewN k, below_drewN h.bel k⟩
theorem OI.kind {w wr : World} {g n : Nat} {ml : Bool} {K : Nat → Int} {T : Nat → ByteArray} (h : OI w wr g n ml K T) {i : Nat} (hi : i < n) : wr.cell? ⟨g, i * 7 + 5, none⟩ = some (.int .u8 (Kt (hit ml K T) K i)) := by
  rw [h.tab.cell hi (j := 5) (by omega)]; simp [tkp, hi, tkc]
theorem Kt_shift (ml : Bool) (K : Nat → Int) (T : Nat → ByteArray) (s j : Nat) (h : flg K T s = Fl.z) : Kt (hit ml (fun j => K (s + j)) (fun j => T (s + j))) (fun j => K (s + j)) j = Kt (hit ml K T) K (s + j) := by
  unfold Kt; rw [hit_shift ml K T s h j]
theorem Kt_comma (ml : Bool) (K : Nat → Int) (T : Nat → ByteArray) (i : Nat) (h : K i = 10) : Kt (hit ml K T) K i = 10 := by
  unfold Kt; rw [hit_comma ml K T i h, h]; rfl
theorem FullTabs.below {w w' : World} (h : Tabs w ∧ GR w) (hb : Below w.heap.size w w') : Tabs w' ∧ GR w' :=
  ⟨⟨CaseVar_below h.1.1 hb, Utf8Tabs_below h.1.2.1 hb, h.1.2.2.below hb⟩, h.2.below (Nat.le_refl _) hb⟩
set_option maxRecDepth 100000 in
set_option maxHeartbeats 4000000 in
theorem lawS (A : Option Addr) (n c : Nat) (z : Nat → Int) (B : Option Addr) (m d : Nat) (T : Nat → ByteArray) (ml : Bool) (w : World) (r : BR w A n z) (hnc : n ≤ c) (hn : n ≤ maxLen) (wz : ∀ i, i < n → (Lit.int .u8 (z i)).wf = true)
    (r2 : SR w B m T) (hmd : m ≤ d) (hm : m ≤ maxLen) (wT : ∀ i, i < m → (T i).size ≤ maxLen) (hT : FullTabs w) :
    Calls Tryd.prog 6 #[.slice A n c, .slice B m d, .bool ml] w (Yes w) := by
  have HB1 := Lib.hid (bytesS A B n c m d ml T w r2 (by unfold maxLen at hn; omega) (by unfold maxLen at hm; omega))
  have R := Lib.hid r
  have R2 := Lib.hid r2
  have HZ := Lib.hid (fun i hi => (show 0 ≤ z i ∧ z i ≤ 255 by have := wz i hi; simp [Lit.wf, IntKind.min, IntKind.max, IntKind.signed, IntKind.bits] at this; omega))
  have HT := Lib.hid hT
  have HNC := Lib.hid hnc
  have HMD := Lib.hid hmd
  clear r hnc hn wz r2 hmd hm wT hT
  go_enter Tryd.func6, Tryd.ntmps6
  go_wp2_with fail
  refine HB1.out.mono ?_
  rintro e w' ⟨b1, rfl, rfl, hb1⟩
  cases b1
  · clear hb1
    go_wp2_with fail
    go_ret
    exact ⟨rfl, Below.refl _ _⟩
  obtain ⟨hn1, hm1, hts⟩ := hb1 rfl
  have HTS := Lib.hid hts
  clear hb1 hts HB1
  go_wp2_with fail
  refine (bigF A B n c m d T w R2.out hn1 hm1 HTS.out).mono ?_
  rintro e w' ⟨b2, rfl, rfl, hb2⟩
  cases b2
  · obtain ⟨hn2, hm2⟩ := hb2 rfl
    clear hb2
    obtain ⟨p, hp⟩ : ∃ p, min n m = p := ⟨_, rfl⟩
    have hpp : p ≤ n ∧ p ≤ m ∧ p ≤ 4096 := by omega
    obtain ⟨hpn, hpm, hp4⟩ := hpp
    have HM := Lib.hid (minF n m w)
    rw [hp] at HM
    have HP := Lib.hid hp
    clear hp
    go_wp2_with fail
    refine HM.out.mono ?_
    rintro e w1 ⟨rfl, rfl⟩
    go_wp2_with fail
    refine (buildF A B n c m d p z T w R.out R2.out HZ.out HP.out hp4).mono ?_
    rintro e w1 ⟨g, rfl, hg, hgs, hb⟩
    have B1 := Lib.hid hb
    have G1 := Lib.hid hg
    clear hb hg
    go_wp2_with fail
    refine (new_st ml HT.out.2 B1.out).mono ?_
    rintro e w2 ⟨pb, mb, rfl, hS, hb2, -⟩
    have S2 := Lib.hid hS
    have G2 := Lib.hid (G1.out.below hb2 G1.out.lt)
    clear hS hb2 B1 G1
    go_wp2_with fail
    refine (zzPassS HT.out.1 S2.out G2.out hgs (fun i hi => HTS.out i (by omega)) hp4).mono ?_
    rintro e w3 ⟨rfl, hS, hG, -⟩
    have O3 : Hid (OI w w3 g p ml (kz z) T) := Lib.hid ⟨hG, hS.bel⟩
    clear hS hG S2 G2 HM
    go_wp2_with fail
    go_loopg [10] (p + 1) (fun gk v wr => ∃ s : Nat, v = .int .i64 s ∧ s ≤ p + 1 ∧ p + 1 ≤ s + gk ∧ Hid (s ≤ p → flg (kz z) T s = Fl.z) ∧ Hid (OI w wr g p ml (kz z) T))
    case atStart => exact ⟨0, rfl, Nat.zero_le _, by omega, Lib.hid (fun _ => rfl), O3⟩
    case round =>
      obtain ⟨s, rfl, hs, hgk, FZ, OO⟩ := hrel
      clear O3
      have q1 : (0 : Int) ≤ (s : Int) := by omega
      by_cases hlt : s ≤ p
      · obtain ⟨g', rfl⟩ : ∃ g', gk = g' + 1 := ⟨gk - 1, by omega⟩
        have q2 : (s : Int) ≤ (p : Int) := by omega
        have FL := Lib.hid (FZ.out hlt)
        clear FZ
        go_wp2_with fail
        go_loopg [11] p (fun gj v wx => ∃ e : Nat, v = .int .i64 e ∧ s ≤ e ∧ e ≤ p ∧ p ≤ e + gj ∧ Hid (OI w wx g p ml (kz z) T))
        case atStart => exact ⟨s, rfl, Nat.le_refl _, hlt, by omega, OO⟩
        case round =>
          obtain ⟨e, rfl, hse, hep, hgj, OX⟩ := hrel
          clear OO
          have q3 : (0 : Int) ≤ (e : Int) := by omega
          by_cases hgo : e < p ∧ ¬ z e % 5 = 3
          · obtain ⟨hel, h3⟩ := hgo
            obtain ⟨gj', rfl⟩ : ∃ gj', gk = gj' + 1 := ⟨gk - 1, by omega⟩
            have q4 : (e : Int) < (p : Int) := by omega
            have q5 : (e : Int) < (n : Int) := by omega
            obtain ⟨b, o, rfl, hb, hc⟩ := R.out (by omega)
            have z0 : wr.cell? ⟨b, o + e, none⟩ = some (.int .u8 (z e)) := by rw [OX.out.bel.cell hb]; exact hc e (by omega)
            have hk0 := (HZ.out e (by omega)).1
            have hk1 := (HZ.out e (by omega)).2
            have C1 := Lib.hid (fun w => codeF (z e) w hk0 hk1)
            have h3' : (z e % 5 == 3) = false := beq_eq_false_iff_ne.2 h3
            clear hc h3
            go_wp2_with (go_at_call 22; refine (C1.out _).mono ?_; rintro e w' ⟨rfl, rfl⟩)
            go_roundg gj'
            case rel => exact ⟨e + 1, by go_num, by omega, by omega, by omega, OX⟩
            case measure => exact Nat.lt_succ_self _
          · have hx : e = p ∨ (e < p ∧ z e % 5 = 3) := by omega
            clear hgo hgj
            rcases hx with hx | ⟨hx, h3⟩
            · have FIN : Hid (e = p ∨ (e < p ∧ kz z e = 10)) := Lib.hid (.inl hx)
              have q4 : ¬ (e : Int) < (p : Int) := by omega
              clear hx
              go_wp2_with fail
              clear q4
              obtain ⟨SA, ha, hra⟩ := seg8 (R.out.below OX.out.bel) hse (show e ≤ n by omega) HNC.out
              obtain ⟨SB, hbs, hrb⟩ := segS (R2.out.below OX.out.bel) hse (show e ≤ m by omega) HMD.out
              have RA := Lib.hid hra
              have RB := Lib.hid hrb
              have HTX := Lib.hid (FullTabs.below HT.out (OX.out.bel))
              have HZ2 := Lib.hid (fun i (hi : i < e - s) => HZ.out (s + i) (by omega))
              have q6 : (s : Int) ≤ (e : Int) := by omega
              have q7 : e - s ≤ 4096 := by omega
              clear hra hrb
              go_region_with (
                go_at_call 14
                refine (buildF SA SB (e - s) (c - s) (e - s) (d - s) (e - s) (fun j => z (s + j)) (fun j => T (s + j)) _ RA.out.drew RB.out.drew HZ2.out (Nat.min_self _) q7).mono ?_
                rintro e1 w1 ⟨g2, rfl, hg2, hgs2, hb2⟩
                have B1 : Hid (Below wr.heap.size wr w1) := Lib.hid (below_drewl hb2)
                have G1 := Lib.hid hg2
                have hgs : wr.heap.size ≤ g2 := hgs2
                clear hg2 hb2 hgs2)
              all_goals
                go_wp2_with fail
                refine (new_st ml HTX.out.2 B1.out).mono ?_
                rintro e2 w2 ⟨pb2, mb2, rfl, hS, hb2, -⟩
                have S2 := Lib.hid hS
                have G2 := Lib.hid (G1.out.below hb2 G1.out.lt)
                clear hS hb2 B1 G1 RA RB ha hbs
                go_wp2_with fail
                refine (zzPassS HTX.out.1 S2.out G2.out hgs (fun i hi => HTS.out (s + i) (by omega)) q7).mono ?_
                rintro e3 w3 ⟨rfl, hS, hG, -⟩
                have O4 : Hid (OI w w3 g p ml (kz z) T) := Lib.hid (OX.out.below hS.bel)
                have G4 : Hid (Tab w3 g2 TT 7 (e - s) (tkp (hit ml (fun j => kz z (s + j)) (fun j => T (s + j))) (fun j => kz z (s + j)) (fun j => T (s + j)) (e - s))) := Lib.hid hG
                clear hS hG S2 G2 OX
                go_wp2_with fail
                go_loopg [14] (e - s) (fun gj v wy => ∃ j : Nat, v = .int .i64 j ∧ j ≤ e - s ∧ e - s ≤ j + gj ∧ Hid (OI w wy g p ml (kz z) T) ∧ Hid (Tab wy g2 TT 7 (e - s) (tkp (hit ml (fun j => kz z (s + j)) (fun j => T (s + j))) (fun j => kz z (s + j)) (fun j => T (s + j)) (e - s))))
                case atStart => exact ⟨0, rfl, Nat.zero_le _, by omega, O4, G4⟩
                case round =>
                  obtain ⟨j, rfl, hj, hgj, O5, G5⟩ := hrel
                  clear O4 G4
                  have q8 : (0 : Int) ≤ (j : Int) := by omega
                  by_cases hjl : j < e - s
                  · obtain ⟨gj', rfl⟩ : ∃ gj', gk = gj' + 1 := ⟨gk - 1, by omega⟩
                    have q9 : (j : Int) < ((e - s : Nat) : Int) := by omega
                    have q10 : (s : Int) + (j : Int) < (p : Int) := by omega
                    have q11 : (0 : Int) ≤ (s : Int) + (j : Int) := by omega
                    have x1 := O5.out.kind (i := s + j) (by omega)
                    have x2 : wr.cell? ⟨g2, j * 7 + 5, none⟩ = some (.int .u8 (Kt (hit ml (fun j => kz z (s + j)) (fun j => T (s + j))) (fun j => kz z (s + j)) j)) := by rw [G5.out.cell hjl (j := 5) (by omega)]; simp [tkp, hjl, tkc]
                    rw [Kt_shift ml (kz z) T s j FL.out] at x2
                    generalize Kt (hit ml (kz z) T) (kz z) (s + j) = kk at *
                    go_wp2_with fail
                    go_quiet (fail)
                    go_wp2_with fail
                    go_roundg gj'
                    case rel => exact ⟨j + 1, by go_num, by omega, by omega, Lib.hid (O5.out.drewN _), Lib.hid (G5.out.drewN _)⟩
                    case measure => exact Nat.lt_succ_self _
                  · have q9 : ¬ (j : Int) < ((e - s : Nat) : Int) := by omega
                    clear G5
                    rcases FIN.out with hx | ⟨hx, h10⟩
                    · have q4 : ¬ (e : Int) < (p : Int) := by omega
                      go_wp2_with fail
                      go_roundg g'
                      case rel => exact ⟨e + 1, by go_num, by omega, by omega, Lib.hid (fun h => absurd h (by omega)), O5⟩
                      case measure => exact Nat.lt_succ_self _
                    · have q4 : (e : Int) < (p : Int) := by omega
                      have x1 := O5.out.kind hx
                      rw [Kt_comma ml (kz z) T e h10] at x1
                      have HF := Lib.hid (flg_comma (kz z) T e h10)
                      clear h10
                      go_wp2_with fail
                      go_roundg g'
                      case rel => exact ⟨e + 1, by go_num, by omega, by omega, Lib.hid (fun _ => HF.out), O5⟩
                      case measure => exact Nat.lt_succ_self _
            · have FIN : Hid (e = p ∨ (e < p ∧ kz z e = 10)) := Lib.hid (.inr ⟨hx, by unfold kz; rw [h3]; rfl⟩)
              have q4 : (e : Int) < (p : Int) := by omega
              have q5 : (e : Int) < (n : Int) := by omega
              obtain ⟨b, o, rfl, hb, hc⟩ := R.out (by omega)
              have z0 : wr.cell? ⟨b, o + e, none⟩ = some (.int .u8 (z e)) := by rw [OX.out.bel.cell hb]; exact hc e (by omega)
              have hk0 := (HZ.out e (by omega)).1
              have hk1 := (HZ.out e (by omega)).2
              have C1 := Lib.hid (fun w => codeF (z e) w hk0 hk1)
              rw [h3] at C1
              clear h3 hc hx
              go_wp2_with (go_at_call 22; refine (C1.out _).mono ?_; rintro e w' ⟨rfl, rfl⟩)
              clear z0 C1 q4 q5 hk0 hk1 hb
              obtain ⟨SA, ha, hra⟩ := seg8 (R.out.below OX.out.bel) hse (show e ≤ n by omega) HNC.out
              obtain ⟨SB, hbs, hrb⟩ := segS (R2.out.below OX.out.bel) hse (show e ≤ m by omega) HMD.out
              have RA := Lib.hid hra
              have RB := Lib.hid hrb
              have HTX := Lib.hid (FullTabs.below HT.out (OX.out.bel))
              have HZ2 := Lib.hid (fun i (hi : i < e - s) => HZ.out (s + i) (by omega))
              have q6 : (s : Int) ≤ (e : Int) := by omega
              have q7 : e - s ≤ 4096 := by omega
              clear hra hrb
              go_region_with (
                go_at_call 14
                refine (buildF SA SB (e - s) (c - s) (e - s) (d - s) (e - s) (fun j => z (s + j)) (fun j => T (s + j)) _ RA.out.drew RB.out.drew HZ2.out (Nat.min_self _) q7).mono ?_
                rintro e1 w1 ⟨g2, rfl, hg2, hgs2, hb2⟩
                have B1 : Hid (Below wr.heap.size wr w1) := Lib.hid (below_drewl hb2)
                have G1 := Lib.hid hg2
                have hgs : wr.heap.size ≤ g2 := hgs2
                clear hg2 hb2 hgs2)
              all_goals
                go_wp2_with fail
                refine (new_st ml HTX.out.2 B1.out).mono ?_
                rintro e2 w2 ⟨pb2, mb2, rfl, hS, hb2, -⟩
                have S2 := Lib.hid hS
                have G2 := Lib.hid (G1.out.below hb2 G1.out.lt)
                clear hS hb2 B1 G1 RA RB ha hbs
                go_wp2_with fail
                refine (zzPassS HTX.out.1 S2.out G2.out hgs (fun i hi => HTS.out (s + i) (by omega)) q7).mono ?_
                rintro e3 w3 ⟨rfl, hS, hG, -⟩
                have O4 : Hid (OI w w3 g p ml (kz z) T) := Lib.hid (OX.out.below hS.bel)
                have G4 : Hid (Tab w3 g2 TT 7 (e - s) (tkp (hit ml (fun j => kz z (s + j)) (fun j => T (s + j))) (fun j => kz z (s + j)) (fun j => T (s + j)) (e - s))) := Lib.hid hG
                clear hS hG S2 G2 OX
                go_wp2_with fail
                go_loopg [14] (e - s) (fun gj v wy => ∃ j : Nat, v = .int .i64 j ∧ j ≤ e - s ∧ e - s ≤ j + gj ∧ Hid (OI w wy g p ml (kz z) T) ∧ Hid (Tab wy g2 TT 7 (e - s) (tkp (hit ml (fun j => kz z (s + j)) (fun j => T (s + j))) (fun j => kz z (s + j)) (fun j => T (s + j)) (e - s))))
                case atStart => exact ⟨0, rfl, Nat.zero_le _, by omega, O4, G4⟩
                case round =>
                  obtain ⟨j, rfl, hj, hgj, O5, G5⟩ := hrel
                  clear O4 G4
                  have q8 : (0 : Int) ≤ (j : Int) := by omega
                  by_cases hjl : j < e - s
                  · obtain ⟨gj', rfl⟩ : ∃ gj', gk = gj' + 1 := ⟨gk - 1, by omega⟩
                    have q9 : (j : Int) < ((e - s : Nat) : Int) := by omega
                    have q10 : (s : Int) + (j : Int) < (p : Int) := by omega
                    have q11 : (0 : Int) ≤ (s : Int) + (j : Int) := by omega
                    have x1 := O5.out.kind (i := s + j) (by omega)
                    have x2 : wr.cell? ⟨g2, j * 7 + 5, none⟩ = some (.int .u8 (Kt (hit ml (fun j => kz z (s + j)) (fun j => T (s + j))) (fun j => kz z (s + j)) j)) := by rw [G5.out.cell hjl (j := 5) (by omega)]; simp [tkp, hjl, tkc]
                    rw [Kt_shift ml (kz z) T s j FL.out] at x2
                    generalize Kt (hit ml (kz z) T) (kz z) (s + j) = kk at *
                    go_wp2_with fail
                    go_quiet (fail)
                    go_wp2_with fail
                    go_roundg gj'
                    case rel => exact ⟨j + 1, by go_num, by omega, by omega, Lib.hid (O5.out.drewN _), Lib.hid (G5.out.drewN _)⟩
                    case measure => exact Nat.lt_succ_self _
                  · have q9 : ¬ (j : Int) < ((e - s : Nat) : Int) := by omega
                    clear G5
                    rcases FIN.out with hx | ⟨hx, h10⟩
                    · have q4 : ¬ (e : Int) < (p : Int) := by omega
                      go_wp2_with fail
                      go_roundg g'
                      case rel => exact ⟨e + 1, by go_num, by omega, by omega, Lib.hid (fun h => absurd h (by omega)), O5⟩
                      case measure => exact Nat.lt_succ_self _
                    · have q4 : (e : Int) < (p : Int) := by omega
                      have x1 := O5.out.kind hx
                      rw [Kt_comma ml (kz z) T e h10] at x1
                      have HF := Lib.hid (flg_comma (kz z) T e h10)
                      clear h10
                      go_wp2_with fail
                      go_roundg g'
                      case rel => exact ⟨e + 1, by go_num, by omega, by omega, Lib.hid (fun _ => HF.out), O5⟩
                      case measure => exact Nat.lt_succ_self _
      · have hs' : s = p + 1 := by omega
        have q2 : ¬ (s : Int) ≤ (p : Int) := by omega
        go_wp2_with fail
        go_ret
        exact ⟨rfl, OO.out.bel⟩
  · clear hb2
    go_wp2_with fail
    go_ret
    exact ⟨rfl, Below.refl _ _⟩
theorem lawS' (A : Option Addr) (n c : Nat) (z : Nat → Int) (B : Option Addr) (m d : Nat) (T : Nat → ByteArray) (ml : Bool) (w : World) (r : BR w A n z) (hA : A = none → n = 0) (hn : n ≤ maxLen) (hnc : n ≤ c) (wz : ∀ i, i < n → (Lit.int .u8 (z i)).wf = true)
    (r2 : SR w B m T) (hB : B = none → m = 0) (hm : m ≤ maxLen) (hmd : m ≤ d) (wT : ∀ i, i < m → (T i).size ≤ maxLen) (hT : Flat w) :
    Calls Tryd.prog 6 #[.slice A n c, .slice B m d, .bool ml] w (Yes w) :=
  lawS A n c z B m d T ml w r hnc hn wz r2 hmd hm wT ⟨⟨hT.1, hT.2.1, hT.2.2.1⟩, hT.2.2.2⟩
end Go.Proofs.YtcmdokiicicghaaDoor.WA

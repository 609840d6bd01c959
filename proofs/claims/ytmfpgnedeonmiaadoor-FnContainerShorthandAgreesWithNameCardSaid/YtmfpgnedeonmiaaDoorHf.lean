/- FnContainerShorthandExact: the walk. -/
import Derived.Test.YtmfpgnedeonmiaaDoorHe
namespace Go.Proofs.YtmfpgnedeonmiaaDoor.WA
open Go Go.RowKit Go.Lib Go.Proofs.YtmfpgnedeonmiaaDoor.MP Go.Proofs.YtmfpgnedeonmiaaDoor.SY Go.Proofs.YtmfpgnedeonmiaaDoor.LO Go.Proofs.YtmfpgnedeonmiaaDoor.TB Go.Proofs.YtmfpgnedeonmiaaDoor.OW
set_option linter.unusedVariables false
theorem lead (K : Nat → Int) (n : Nat) : ∃ j, j ≤ n ∧ (∀ i, i < j → K i = 29) ∧ (j < n → K j ≠ 29) := by
  induction n with
  | zero => exact ⟨0, Nat.le_refl _, fun i h => by omega, fun h => by omega⟩
  | succ n ih =>
    obtain ⟨j, h1, h2, h3⟩ := ih
    by_cases hj : j < n
    · exact ⟨j, by omega, h2, fun _ => h3 hj⟩
    · obtain rfl : j = n := by omega
      by_cases h : K j = 29
      · exact ⟨j + 1, Nat.le_refl _, fun i hi => by
          by_cases e : i < j
          · exact h2 i e
          · obtain rfl : i = j := by omega
            exact h, fun h => by omega⟩
      · exact ⟨j, by omega, h2, fun _ => h⟩
section
variable {X : Nat → Prop} {W0 w : World} {tb n N cp j pb mb : Nat} {ml acc : Bool} {K : Nat → Int} {T : Nat → ByteArray}
set_option maxRecDepth 100000 in
theorem zzPassH (hT : Tabs W0) (hS : St X W0 w pb mb ml []) (hB : Tab w tb TT 7 N (tkc K T (fun _ => 0))) (htb : W0.heap.size ≤ tb) (hx : X tb) (hs : ∀ i, i < n → (T i).size ≤ 1048576) (hn : n ≤ 1048578) (hnN : n ≤ N)
    (hj : j ≤ n) (hid : ∀ i, i < j → K i = 29) (hend : j < n → K j ≠ 29) (hacc : acc = true ↔ (j = n ∨ (j + 2 = n ∧ K j = 24 ∧ K (j + 1) = 29))) :
    Calls Tryd.prog 10 #[.pointer (some ⟨pb, 0, none⟩), .slice (some ⟨tb, 0, none⟩) n cp] w (PassP X W0 w tb N pb mb ml (cvt acc j T) K T) := by
  have H := Lib.hid (passH (cp := cp) hT hS hB htb hx hs hn hnN hj hid hend hacc)
  clear hT hS hB hs hx hid hend hacc
  go_enter Tryd.func10, Tryd.ntmps10
  go_wp2_with (
    go_at_call 22
    refine H.out.mono ?_
    rintro e w1 ⟨rfl, h1, h2, h3⟩
    have H1 := Lib.hid h1
    have H2 := Lib.hid h2
    have H3 := Lib.hid h3
    clear h1 h2 h3)
  go_end0
  exact ⟨rfl, H1.out, H2.out, H3.out⟩
end
def cvz (c : Nat → Bool) (k : Nat) : Nat → Nat → Value := fun i _ => .bool (if i < k then c i else false)
theorem cvz_yes {w : World} {g n k : Nat} {c : Nat → Bool} (h : Tab w g BT 1 n (cvz c k)) (hk : k < n) {b : Bool} (hb : c k = b) : Tab (w.setCell ⟨g, k, none⟩ (.bool b)) g BT 1 n (cvz c (k + 1)) := by
  have h1 := h.set hk (j := 0) (by omega) (.bool b)
  rw [show k * 1 + 0 = k by omega] at h1
  refine h1.ext fun i j hi hj => ?_
  obtain rfl : j = 0 := by omega
  by_cases e : i = k
  · subst e; simp [upd, cvz, hb]
  · have e1 : (i < k + 1) = (i < k) := by simp; omega
    simp [upd, cvz, e, e1]
theorem cvz_new (w : World) (n : Nat) (c : Nat → Bool) : Tab (w.alloc (.cells (madeCells #[.bool false] n) BT)) w.heap.size BT 1 n (cvz c 0) := by
  have h := Tab.new w BT #[.bool false] n 1 rfl (cvz c 0) (fun a b _ hb => by
    obtain rfl : b = 0 := by omega
    simp [cvz])
  rw [Nat.mul_one] at h
  exact h
theorem infoB : (Tryd.prog.info? BT).map (fun i => (i.zero, i.size, i.bytes)) = some (some (.bool false), 1, 1) := by kernel_rfl
theorem ZR.oth {X : Nat → Prop} {w1 w3 w4 : World} {A : Option Addr} {n : Nat} {K : Nat → Int} {T : Nat → ByteArray} (h1 : ZR w1 A n K T) (h : ZR w3 A n K T) (ho : Oth X w3 w4) (hx : ∀ q, q < w1.heap.size → ¬ X q) : ZR w4 A n K T := by
  intro hn
  obtain ⟨b, o, e, hl, hc⟩ := h hn
  obtain ⟨b', o', e', hl', -⟩ := h1 hn
  obtain ⟨rfl, rfl⟩ : b = b' ∧ o = o' := by rw [e] at e'; simpa using e'
  have hb := ho b (hx b hl')
  refine ⟨b, o, e, lt_some (hb.trans (Array.getElem?_eq_getElem hl)), fun i hi => ?_⟩
  obtain ⟨x0, x1⟩ := hc i hi
  exact ⟨(World.cell?_of_block (w := w3) hb).trans x0, (World.cell?_of_block (w := w3) hb).trans x1⟩
def FullTabs (w : World) : Prop := Tabs w ∧ GR w
def Yes (w : World) (e : Ending) (w' : World) : Prop := e = .returned (.bool true) ∧ Below w.heap.size w w'
set_option maxRecDepth 100000 in
set_option maxHeartbeats 4000000 in
theorem lawE (A : Option Addr) (n c : Nat) (K : Nat → Int) (T : Nat → ByteArray) (ml : Bool) (w : World) (r : ZR w A n K T) (hA : A = none → n = 0) (hn : n ≤ maxLen) (hT : FullTabs w) :
    Calls Tryd.prog 3 #[.slice A n c, .bool ml] w (Yes w) := by
  have HB1 := Lib.hid (bytesE A n c ml K T w r (by unfold maxLen at hn; omega))
  have R := Lib.hid r
  have HT := Lib.hid hT
  have HA := Lib.hid hA
  obtain ⟨iB, hiB, hzB0, hzB1, hzB2⟩ := info_parts infoB
  have hmk := fun (h1 : n ≤ 1048576) (W : World) => run_make (P := Tryd.prog) W 33 BT iB _ Tryd.underlying33 hiB hzB0 .i64 .i64 n n (by omega) (by omega) (by rw [hzB2]; omega) (by omega)
  simp only [hzB1, Int.toNat_natCast, Nat.mul_one] at hmk
  have HMK := Lib.hid hmk
  clear r hn hT hA hmk
  go_enter Tryd.func3, Tryd.ntmps3
  go_wp2_with fail
  refine HB1.out.mono ?_
  rintro e w' ⟨b1, rfl, rfl, hb1⟩
  cases b1
  · clear hb1
    go_wp2_with fail
    go_ret
    exact ⟨rfl, Below.refl _ _⟩
  obtain ⟨hn1, hts⟩ := hb1 rfl
  have HTS := Lib.hid hts
  clear hb1 hts HB1
  go_wp2_with fail
  refine (tokBytes A n c K T w R.out hn1 HTS.out).mono ?_
  rintro e w' ⟨N, hN0, hN1, rfl, rfl⟩
  by_cases hNb : N ≤ 1048576
  · go_wp2_with fail
    refine (cloneF A n c K T w R.out HA.out hn1).mono ?_
    rintro e w1 ⟨A1, c1, rfl, hc1, hR1, hb⟩
    have B1 := Lib.hid hb
    have R1 := Lib.hid hR1
    clear hb hR1 R
    go_wp2_with fail
    refine (new_st ml HT.out.2 B1.out).mono ?_
    rintro e w2 ⟨pb, mb, f, rfl, hP, hb2, hp1, hp2⟩
    have P2 := Lib.hid hP
    have R2 := Lib.hid (R1.out.below hb2)
    have B2 := Lib.hid (B1.out.trans (hb2.mono B1.out.size))
    have hs12 := hb2.size
    clear hP hb2 B1
    go_wp2_with fail
    refine (buildF A1 n c1 K T w2 R2.out hn1).mono ?_
    rintro e w3 ⟨g, rfl, hg, hgs, hb⟩
    have P3 := Lib.hid (P2.out.below hb)
    have R3 := Lib.hid (R2.out.below hb)
    have G3 := Lib.hid hg
    have B3 := Lib.hid (B2.out.trans (hb.mono B2.out.size))
    have hwg : w.heap.size ≤ g := Nat.le_trans B2.out.size hgs
    have hs23 := hb.size
    clear hb hg B2 R2 P2
    obtain ⟨j, hj, hid, hend⟩ := lead K n
    obtain ⟨acc, hacc⟩ : ∃ acc : Bool, acc = true ↔ (j = n ∨ (j + 2 = n ∧ K j = 24 ∧ K (j + 1) = 29)) := ⟨decide _, decide_eq_true_iff⟩
    have HI := Lib.hid hid
    have HE := Lib.hid hend
    have HAC := Lib.hid hacc
    have S3 : Hid (St (fun q => q = pb ∨ q = mb ∨ q = g ∨ w3.heap.size ≤ q) w w3 pb mb ml []) := Lib.hid (NewS.st P3.out B3.out (.inl rfl) (.inr (.inl rfl)) (fun q hq => .inr (.inr (.inr hq))))
    clear hid hend hacc P3
    go_wp2_with fail
    refine (zzPassH HT.out.1 S3.out G3.out hwg (.inr (.inr (.inl rfl))) HTS.out (by omega) (Nat.le_refl _) hj HI.out HE.out HAC.out).mono ?_
    rintro e w4 ⟨rfl, hS, hG, hO⟩
    have S4 := Lib.hid hS
    have G4 := Lib.hid hG
    have R4 := Lib.hid (ZR.oth R1.out R3.out hO (fun q hq h => by
      rcases h with h | h | h | h <;> omega))
    clear hS hG hO S3 G3 R3 R1
    go_wp2_with fail
    go_loop [8] (fun v => ∃ i : Nat, v = .int .i64 i ∧ i ≤ j) (fun v => n - (intOf v).toNat)
    case atStart => exact ⟨0, rfl, Nat.zero_le _⟩
    case round =>
      obtain ⟨i, rfl, hi⟩ := hrel
      have q1 : (0 : Int) ≤ (i : Int) := by omega
      by_cases hij : i < j
      · obtain ⟨b, o, rfl, hb, hc⟩ := R4.out (by omega)
        have z0 := (hc i (by omega)).1
        rw [HI.out i hij] at z0
        have q2 : (i : Int) < (n : Int) := by omega
        clear hc
        go_wp2_with fail
        go_round
        case rel => exact ⟨i + 1, by go_num, by omega⟩
        case measure => simp [intOf]; omega
      · obtain rfl : i = j := by omega
        have hmk := HMK.out hn1
        by_cases hin : i < n
        · obtain ⟨b, o, rfl, hb, hc⟩ := R4.out (by omega)
          have z0 := (hc i hin).1
          have y0 := (hc (n - 1) (by omega)).1
          have hne : (K i == 29) = false := beq_eq_false_iff_ne.2 (HE.out hin)
          have q2 : (i : Int) < (n : Int) := by omega
          have q3 : ((i : Int) == (n : Int)) = false := by rw [beq_eq_false_iff_ne]; omega
          have q4 : ((n : Int) - 1).toNat = n - 1 := by omega
          have q5 : (0 : Int) ≤ (n : Int) - 1 := by omega
          have q6 : (n : Int) - 1 < (n : Int) := by omega
          clear hc
          cases acc with
          | true =>
            obtain ⟨h2, h24, h29⟩ : i + 2 = n ∧ K i = 24 ∧ K (i + 1) = 29 := (HAC.out.1 rfl).resolve_left (by omega)
            have g2 : ((i : Int) == (n : Int) - 2) = true := by rw [beq_iff_eq]; omega
            have g24 : (K i == 24) = true := beq_iff_eq.2 h24
            have g29 : (K (n - 1) == 29) = true := by rw [show n - 1 = i + 1 by omega]; exact beq_iff_eq.2 h29
            clear h2 h24 h29
            have C0 := Lib.hid (cvz_new w4 n (cvt true i T))
            have B0 := Lib.hid (show Below w4.heap.size w4 (w4.alloc (.cells (madeCells #[.bool false] n) BT)) from (Below.refl _ _).alloc (Nat.le_refl _) _)
            go_wp2_with fail
            generalize w4.alloc (.cells (madeCells #[.bool false] n) BT) = W5 at *
            clear hmk z0 y0
            go_loopw [11] (fun v wr => ∃ q : Nat, q ≤ n ∧ v = .int .i64 q ∧ Hid (Tab wr w4.heap.size BT 1 n (cvz (cvt true i T) q)) ∧ Hid (Below w4.heap.size w4 wr)) (fun v _ => n - (intOf v).toNat)
            case atStart => exact ⟨0, Nat.zero_le _, rfl, C0, B0⟩
            case round =>
              obtain ⟨q, hq, rfl, CC, BB⟩ := hrel
              clear C0 B0
              have p1 : (0 : Int) ≤ (q : Int) := by omega
              by_cases hqn : q < n
              · have p2 : (q : Int) < (n : Int) := by omega
                by_cases hqi : q < i
                · have p3 : (q : Int) < (i : Int) := by omega
                  obtain ⟨b5, o5, e5, hb5, hc5⟩ := (R4.out.below BB.out) (by omega)
                  obtain ⟨rfl, rfl⟩ : b = b5 ∧ o = o5 := by simpa using e5
                  have z1 := (hc5 q hqn).2
                  clear hc5 e5
                  have hsq := HTS.out q hqn
                  have RS := Lib.hid (reserved (T q) wr hsq)
                  obtain ⟨D, hD⟩ : ∃ D, resB (T q).data.toList = D := ⟨_, rfl⟩
                  rw [hD] at RS
                  have HD := Lib.hid hD
                  clear hD
                  go_wp2_with (
                    go_at_call 11
                    refine RS.out.mono ?_
                    rintro e w6 ⟨rfl, hb⟩
                    have C6 := Lib.hid (CC.out.below hb CC.out.lt)
                    have B6 := Lib.hid (BB.out.trans (hb.mono BB.out.size))
                    have f0 : w6.cell? ⟨w4.heap.size, q, none⟩ = some (.bool false) := by rw [tab1 C6.out hqn]; simp [cvz]
                    have ff := C6.out.frozen q
                    clear hb)
                  go_roundw
                  case rel => exact ⟨q + 1, by omega, by go_num, Lib.hid (cvz_yes C6.out hqn (by rw [cvt_in hqi, HD.out])), Lib.hid (B6.out.setCell (Nat.le_refl _) _)⟩
                  case measure => simp [intOf]; omega
                · have p3 : ¬ (q : Int) < (i : Int) := by omega
                  have f0 : wr.cell? ⟨w4.heap.size, q, none⟩ = some (.bool false) := by rw [tab1 CC.out hqn]; simp [cvz]
                  have ff := CC.out.frozen q
                  go_wp2_with fail
                  go_roundw
                  case rel => exact ⟨q + 1, by omega, by go_num, Lib.hid (cvz_yes CC.out hqn (cvt_off true (by omega))), Lib.hid (BB.out.setCell (Nat.le_refl _) _)⟩
                  case measure => simp [intOf]; omega
              · obtain rfl : q = n := by omega
                have HCC := CC.out.ext (f' := fun i' _ => .bool (cvt true i T i')) (fun a b ha _ => by unfold cvz; rw [if_pos ha])
                have HPT : PT wr w.heap.size pb mb ml (Lt (cvt true i T) T q) := by
                  obtain ⟨f, sv, lv, P⟩ := S4.out.tab
                  exact PT.below ⟨_, f, sv, lv, P⟩ BB.out
                have CM := Lib.hid (checkModel wr w.heap.size g w4.heap.size pb mb q c1 _ ml K T (cvt true i T) HPT (G4.out.below BB.out G4.out.lt) HCC (R4.out.below BB.out) hn1)
                clear HCC HPT
                go_wp2_with (go_at_call 12; refine CM.out.mono ?_; rintro e w6 ⟨rfl, hb⟩; have B6 := Lib.hid hb; clear hb)
                go_ret
                exact ⟨rfl, (S4.out.bel.trans (BB.out.mono S4.out.bel.size)).trans (B6.out.mono (Nat.le_trans S4.out.bel.size BB.out.size))⟩
          | false =>
            have hno : ¬ (i + 2 = n ∧ K i = 24 ∧ K (i + 1) = 29) := fun h => by have := HAC.out.2 (.inr h); cases this
            by_cases h2 : i + 2 = n
            · have g2 : ((i : Int) == (n : Int) - 2) = true := by rw [beq_iff_eq]; omega
              by_cases h24 : K i = 24
              · have g24 : (K i == 24) = true := beq_iff_eq.2 h24
                have g29 : (K (n - 1) == 29) = false := by rw [show n - 1 = i + 1 by omega]; exact beq_eq_false_iff_ne.2 (fun h => hno ⟨h2, h24, h⟩)
                clear hno h2 h24
                have C0 := Lib.hid (cvz_new w4 n (cvt false i T))
                have B0 := Lib.hid (show Below w4.heap.size w4 (w4.alloc (.cells (madeCells #[.bool false] n) BT)) from (Below.refl _ _).alloc (Nat.le_refl _) _)
                go_wp2_with fail
                generalize w4.alloc (.cells (madeCells #[.bool false] n) BT) = W5 at *
                clear hmk z0 y0
                go_loopw [11] (fun v wr => ∃ q : Nat, q ≤ n ∧ v = .int .i64 q ∧ Hid (Tab wr w4.heap.size BT 1 n (cvz (cvt false i T) q)) ∧ Hid (Below w4.heap.size w4 wr)) (fun v _ => n - (intOf v).toNat)
                case atStart => exact ⟨0, Nat.zero_le _, rfl, C0, B0⟩
                case round =>
                  obtain ⟨q, hq, rfl, CC, BB⟩ := hrel
                  clear C0 B0
                  have p1 : (0 : Int) ≤ (q : Int) := by omega
                  by_cases hqn : q < n
                  · have p2 : (q : Int) < (n : Int) := by omega
                    have f0 : wr.cell? ⟨w4.heap.size, q, none⟩ = some (.bool false) := by rw [tab1 CC.out hqn]; simp [cvz]
                    have ff := CC.out.frozen q
                    go_wp2_with fail
                    go_roundw
                    case rel => exact ⟨q + 1, by omega, by go_num, Lib.hid (cvz_yes CC.out hqn (cvt_no i T q)), Lib.hid (BB.out.setCell (Nat.le_refl _) _)⟩
                    case measure => simp [intOf]; omega
                  · obtain rfl : q = n := by omega
                    have HCC := CC.out.ext (f' := fun i' _ => .bool (cvt false i T i')) (fun a b ha _ => by unfold cvz; rw [if_pos ha])
                    have HPT : PT wr w.heap.size pb mb ml (Lt (cvt false i T) T q) := by
                      obtain ⟨f, sv, lv, P⟩ := S4.out.tab
                      exact PT.below ⟨_, f, sv, lv, P⟩ BB.out
                    have CM := Lib.hid (checkModel wr w.heap.size g w4.heap.size pb mb q c1 _ ml K T (cvt false i T) HPT (G4.out.below BB.out G4.out.lt) HCC (R4.out.below BB.out) hn1)
                    clear HCC HPT
                    go_wp2_with (go_at_call 12; refine CM.out.mono ?_; rintro e w6 ⟨rfl, hb⟩; have B6 := Lib.hid hb; clear hb)
                    go_ret
                    exact ⟨rfl, (S4.out.bel.trans (BB.out.mono S4.out.bel.size)).trans (B6.out.mono (Nat.le_trans S4.out.bel.size BB.out.size))⟩
              · have g24 : (K i == 24) = false := beq_eq_false_iff_ne.2 h24
                clear hno h2 h24
                have C0 := Lib.hid (cvz_new w4 n (cvt false i T))
                have B0 := Lib.hid (show Below w4.heap.size w4 (w4.alloc (.cells (madeCells #[.bool false] n) BT)) from (Below.refl _ _).alloc (Nat.le_refl _) _)
                go_wp2_with fail
                generalize w4.alloc (.cells (madeCells #[.bool false] n) BT) = W5 at *
                clear hmk z0 y0
                go_loopw [11] (fun v wr => ∃ q : Nat, q ≤ n ∧ v = .int .i64 q ∧ Hid (Tab wr w4.heap.size BT 1 n (cvz (cvt false i T) q)) ∧ Hid (Below w4.heap.size w4 wr)) (fun v _ => n - (intOf v).toNat)
                case atStart => exact ⟨0, Nat.zero_le _, rfl, C0, B0⟩
                case round =>
                  obtain ⟨q, hq, rfl, CC, BB⟩ := hrel
                  clear C0 B0
                  have p1 : (0 : Int) ≤ (q : Int) := by omega
                  by_cases hqn : q < n
                  · have p2 : (q : Int) < (n : Int) := by omega
                    have f0 : wr.cell? ⟨w4.heap.size, q, none⟩ = some (.bool false) := by rw [tab1 CC.out hqn]; simp [cvz]
                    have ff := CC.out.frozen q
                    go_wp2_with fail
                    go_roundw
                    case rel => exact ⟨q + 1, by omega, by go_num, Lib.hid (cvz_yes CC.out hqn (cvt_no i T q)), Lib.hid (BB.out.setCell (Nat.le_refl _) _)⟩
                    case measure => simp [intOf]; omega
                  · obtain rfl : q = n := by omega
                    have HCC := CC.out.ext (f' := fun i' _ => .bool (cvt false i T i')) (fun a b ha _ => by unfold cvz; rw [if_pos ha])
                    have HPT : PT wr w.heap.size pb mb ml (Lt (cvt false i T) T q) := by
                      obtain ⟨f, sv, lv, P⟩ := S4.out.tab
                      exact PT.below ⟨_, f, sv, lv, P⟩ BB.out
                    have CM := Lib.hid (checkModel wr w.heap.size g w4.heap.size pb mb q c1 _ ml K T (cvt false i T) HPT (G4.out.below BB.out G4.out.lt) HCC (R4.out.below BB.out) hn1)
                    clear HCC HPT
                    go_wp2_with (go_at_call 12; refine CM.out.mono ?_; rintro e w6 ⟨rfl, hb⟩; have B6 := Lib.hid hb; clear hb)
                    go_ret
                    exact ⟨rfl, (S4.out.bel.trans (BB.out.mono S4.out.bel.size)).trans (B6.out.mono (Nat.le_trans S4.out.bel.size BB.out.size))⟩
            · have g2 : ((i : Int) == (n : Int) - 2) = false := by rw [beq_eq_false_iff_ne]; omega
              clear hno h2
              have C0 := Lib.hid (cvz_new w4 n (cvt false i T))
              have B0 := Lib.hid (show Below w4.heap.size w4 (w4.alloc (.cells (madeCells #[.bool false] n) BT)) from (Below.refl _ _).alloc (Nat.le_refl _) _)
              go_wp2_with fail
              generalize w4.alloc (.cells (madeCells #[.bool false] n) BT) = W5 at *
              clear hmk z0 y0
              go_loopw [11] (fun v wr => ∃ q : Nat, q ≤ n ∧ v = .int .i64 q ∧ Hid (Tab wr w4.heap.size BT 1 n (cvz (cvt false i T) q)) ∧ Hid (Below w4.heap.size w4 wr)) (fun v _ => n - (intOf v).toNat)
              case atStart => exact ⟨0, Nat.zero_le _, rfl, C0, B0⟩
              case round =>
                obtain ⟨q, hq, rfl, CC, BB⟩ := hrel
                clear C0 B0
                have p1 : (0 : Int) ≤ (q : Int) := by omega
                by_cases hqn : q < n
                · have p2 : (q : Int) < (n : Int) := by omega
                  have f0 : wr.cell? ⟨w4.heap.size, q, none⟩ = some (.bool false) := by rw [tab1 CC.out hqn]; simp [cvz]
                  have ff := CC.out.frozen q
                  go_wp2_with fail
                  go_roundw
                  case rel => exact ⟨q + 1, by omega, by go_num, Lib.hid (cvz_yes CC.out hqn (cvt_no i T q)), Lib.hid (BB.out.setCell (Nat.le_refl _) _)⟩
                  case measure => simp [intOf]; omega
                · obtain rfl : q = n := by omega
                  have HCC := CC.out.ext (f' := fun i' _ => .bool (cvt false i T i')) (fun a b ha _ => by unfold cvz; rw [if_pos ha])
                  have HPT : PT wr w.heap.size pb mb ml (Lt (cvt false i T) T q) := by
                    obtain ⟨f, sv, lv, P⟩ := S4.out.tab
                    exact PT.below ⟨_, f, sv, lv, P⟩ BB.out
                  have CM := Lib.hid (checkModel wr w.heap.size g w4.heap.size pb mb q c1 _ ml K T (cvt false i T) HPT (G4.out.below BB.out G4.out.lt) HCC (R4.out.below BB.out) hn1)
                  clear HCC HPT
                  go_wp2_with (go_at_call 12; refine CM.out.mono ?_; rintro e w6 ⟨rfl, hb⟩; have B6 := Lib.hid hb; clear hb)
                  go_ret
                  exact ⟨rfl, (S4.out.bel.trans (BB.out.mono S4.out.bel.size)).trans (B6.out.mono (Nat.le_trans S4.out.bel.size BB.out.size))⟩
        · have hin' : i = n := by omega
          obtain rfl : acc = true := HAC.out.2 (.inl hin')
          have q2 : ¬ (i : Int) < (n : Int) := by omega
          have q3 : ((i : Int) == (n : Int)) = true := by rw [beq_iff_eq]; omega
          clear hin'
          have C0 := Lib.hid (cvz_new w4 n (cvt true i T))
          have B0 := Lib.hid (show Below w4.heap.size w4 (w4.alloc (.cells (madeCells #[.bool false] n) BT)) from (Below.refl _ _).alloc (Nat.le_refl _) _)
          go_wp2_with fail
          generalize w4.alloc (.cells (madeCells #[.bool false] n) BT) = W5 at *
          clear hmk
          go_loopw [11] (fun v wr => ∃ q : Nat, q ≤ n ∧ v = .int .i64 q ∧ Hid (Tab wr w4.heap.size BT 1 n (cvz (cvt true i T) q)) ∧ Hid (Below w4.heap.size w4 wr)) (fun v _ => n - (intOf v).toNat)
          case atStart => exact ⟨0, Nat.zero_le _, rfl, C0, B0⟩
          case round =>
            obtain ⟨q, hq, rfl, CC, BB⟩ := hrel
            clear C0 B0
            have p1 : (0 : Int) ≤ (q : Int) := by omega
            by_cases hqn : q < n
            · have p2 : (q : Int) < (n : Int) := by omega
              by_cases hqi : q < i
              · have p3 : (q : Int) < (i : Int) := by omega
                obtain ⟨b, o, rfl, hb5, hc5⟩ := (R4.out.below BB.out) (by omega)
                have z1 := (hc5 q hqn).2
                clear hc5
                have hsq := HTS.out q hqn
                have RS := Lib.hid (reserved (T q) wr hsq)
                obtain ⟨D, hD⟩ : ∃ D, resB (T q).data.toList = D := ⟨_, rfl⟩
                rw [hD] at RS
                have HD := Lib.hid hD
                clear hD
                go_wp2_with (
                  go_at_call 11
                  refine RS.out.mono ?_
                  rintro e w6 ⟨rfl, hb⟩
                  have C6 := Lib.hid (CC.out.below hb CC.out.lt)
                  have B6 := Lib.hid (BB.out.trans (hb.mono BB.out.size))
                  have f0 : w6.cell? ⟨w4.heap.size, q, none⟩ = some (.bool false) := by rw [tab1 C6.out hqn]; simp [cvz]
                  have ff := C6.out.frozen q
                  clear hb)
                go_roundw
                case rel => exact ⟨q + 1, by omega, by go_num, Lib.hid (cvz_yes C6.out hqn (by rw [cvt_in hqi, HD.out])), Lib.hid (B6.out.setCell (Nat.le_refl _) _)⟩
                case measure => simp [intOf]; omega
              · exact absurd (beq_iff_eq.1 q3) (by omega)
            · obtain rfl : q = n := by omega
              have HCC := CC.out.ext (f' := fun i' _ => .bool (cvt true i T i')) (fun a b ha _ => by unfold cvz; rw [if_pos ha])
              have HPT : PT wr w.heap.size pb mb ml (Lt (cvt true i T) T q) := by
                obtain ⟨f, sv, lv, P⟩ := S4.out.tab
                exact PT.below ⟨_, f, sv, lv, P⟩ BB.out
              have CM := Lib.hid (checkModel wr w.heap.size g w4.heap.size pb mb q c1 _ ml K T (cvt true i T) HPT (G4.out.below BB.out G4.out.lt) HCC (R4.out.below BB.out) hn1)
              clear HCC HPT
              go_wp2_with (go_at_call 12; refine CM.out.mono ?_; rintro e w6 ⟨rfl, hb⟩; have B6 := Lib.hid hb; clear hb)
              go_ret
              exact ⟨rfl, (S4.out.bel.trans (BB.out.mono S4.out.bel.size)).trans (B6.out.mono (Nat.le_trans S4.out.bel.size BB.out.size))⟩
  · go_wp2_with fail
    go_ret
    exact ⟨rfl, Below.refl _ _⟩
/-- What the variables read as, in one row. -/
def Flat (w : World) : Prop := CaseVar 2 caseA w ∧ Utf8Tabs 4 5 w ∧ KW w ∧ GR w
theorem lawE' (A : Option Addr) (n c : Nat) (K : Nat → Int) (T : Nat → ByteArray) (ml : Bool) (w : World) (r : ZR w A n K T) (hA : A = none → n = 0) (hn : n ≤ maxLen) (hT : Flat w) :
    Calls Tryd.prog 3 #[.slice A n c, .bool ml] w (Yes w) :=
  lawE A n c K T ml w r hA hn ⟨⟨hT.1, hT.2.1, hT.2.2.1⟩, hT.2.2.2⟩
end Go.Proofs.YtmfpgnedeonmiaaDoor.WA

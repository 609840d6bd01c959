/- hslToRgb, for any operands. -/
import Derived.Test.YtcaiehnihgcegaaHslInv
namespace Go.Proofs.Ytcaiehnihgcegaa.F64
open Go.RowKit
def leB (x y : Nat) : Bool := (FloatKind.f64.format.order x y == some .lt || FloatKind.f64.format.order x y == some .eq)
def T2R (s l t : Nat) : Prop :=
  if leB l 4602678819172646912 then ∃ q, Res .add s 4607182418800017408 q ∧ Res .mul q l t
  else ∃ a m, Res .add l s a ∧ Res .mul l s m ∧ Res .sub a m t
def HslR (h s l r g b : Nat) : Prop := ∃ d t d2 u hp hm, Res .quo h 4645040803167600640 d ∧ T2R s l t ∧ Res .mul l 4611686018427387904 d2 ∧ Res .sub d2 t u ∧
  Res .add d 4599676419421066581 hp ∧ HueR u t hp r ∧ HueR u t d g ∧ Res .sub d 4599676419421066581 hm ∧ HueR u t hm b

set_option maxRecDepth 100000 in
set_option maxHeartbeats 4000000 in
theorem hsl (h s l : Nat) (w : World) :
    Calls Try.prog 22 #[.agg #[.float .f64 h], .agg #[.float .f64 s], .agg #[.float .f64 l]] w fun e w' => ∃ r g b, HslR h s l r g b ∧ e = .returned (.tuple #[.agg #[.float .f64 r], .agg #[.float .f64 g], .agg #[.float .f64 b]]) ∧ Below w.heap.size w w' := by
  have D0 := Lib.hid (HA.start w h s l)
  go_enter Try.func22, Try.ntmps22
  go_wp2_with fail
  refine (divConstA h 4645040803167600640 _).mono ?_
  rintro e w1 ⟨d, hd, rfl, hb1⟩
  have HDD := Lib.hid hd
  have D1 := D0.out.step hb1
  clear hb1 D0 hd
  have x1 := D1.2.1
  have x4 := D1.2.2.2.2.2.2.2.1
  have HD1 := Lib.hid (D1.put0 d)
  clear D1
  go_upto_region 2 with fail
  clear x1 x4
  generalize w1.setCell ⟨w.heap.size, 0, none⟩ (.float .f64 d) = W1 at *
  have B0 := Lib.hid (HB.start HD1.out)
  clear HD1
  go_upto_region 3 with fail
  generalize W1.alloc (.cells #[.float .f64 0] 43) = W2 at *
  generalize W1.heap.size = K at *
  have x2 := B0.out.2.2.2.1
  go_wp2_with fail
  refine (value l _).mono ?_
  rintro e w2 ⟨rfl, hb2⟩
  have B1 := Lib.hid (B0.out.step hb2)
  clear hb2 B0 x2
  obtain ⟨bb, hbb⟩ : ∃ bb, leB l 4602678819172646912 = bb := ⟨_, rfl⟩
  have p1 : (FloatKind.f64.format.order l 4602678819172646912 == some .lt || FloatKind.f64.format.order l 4602678819172646912 == some .eq) = bb := hbb
  have HO := Lib.hid hbb
  clear hbb
  go_upto_if 15 with fail
  clear p1
  go_cut [19] (fun _ wx => ∃ t, Hid (T2R s l t) ∧ Hid (HBv w K d s l t wx))
  case first =>
    have START := Lib.hid (show HB w K d s l w2.drew from B1.out.step (Below.refl _ _).drew)
    have STEP := Lib.hid (fun w1 w2 (hc : HB w K d s l w1) (hb : Below w1.heap.size w1 w2) => hc.step hb)
    clear B1
    cases bb
    case true =>
      go_upto_region 4 with fail
      go_region_held3 (fun w' => Below w.heap.size w w' ∧ w'.cell? ⟨w.heap.size, 0, none⟩ = some (.float .f64 d) ∧ w'.cell? ⟨w.heap.size + 1, 0, none⟩ = some (.float .f64 s) ∧ w'.cell? ⟨w.heap.size + 1 + 1, 0, none⟩ = some (.float .f64 l) ∧ (w'.cell? ⟨w.heap.size + 1 + 1 + 1, 0, none⟩).isSome = true ∧ (w'.cell? ⟨w.heap.size + 1 + 1 + 1 + 1, 0, none⟩).isSome = true ∧ (w'.cell? ⟨w.heap.size + 1 + 1 + 1 + 1 + 1, 0, none⟩).isSome = true ∧ (w'.cell? ⟨K, 0, none⟩).isSome = true ∧ w'.frozen? ⟨w.heap.size, 0, none⟩ = false ∧ w'.frozen? ⟨w.heap.size + 1, 0, none⟩ = false ∧ w'.frozen? ⟨w.heap.size + 1 + 1, 0, none⟩ = false ∧ w'.frozen? ⟨w.heap.size + 1 + 1 + 1, 0, none⟩ = false ∧ w'.frozen? ⟨w.heap.size + 1 + 1 + 1 + 1, 0, none⟩ = false ∧ w'.frozen? ⟨w.heap.size + 1 + 1 + 1 + 1 + 1, 0, none⟩ = false ∧ w'.frozen? ⟨K, 0, none⟩ = false ∧ w.heap.size + 1 + 1 + 1 + 1 + 1 < K ∧ K < w'.heap.size)
        (first | assumption | exact START.out | exact HB.put6 (by assumption) _)
        (first
          | (go_at_call 34; refine (addConstA _ _ _).mono ?_; rintro e w7 ⟨q, hq, rfl, hb⟩; have HQ := Lib.hid hq; have hI := STEP.out _ _ (by assumption) hb; unfold HB at hI; clear hb hq)
          | (go_at_call 35; refine (mulA _ _ _).mono ?_; rintro e w7 ⟨t, ht, rfl, hb⟩; have HT := Lib.hid ht; have hI := STEP.out _ _ (by assumption) hb; have HI := Lib.hid hI; obtain ⟨v, hv⟩ := hI.ex6; unfold HB at hI; clear hb ht))
      go_wp2_with fail
      go_meet
      exact ⟨t, Lib.hid (by unfold T2R; rw [if_pos HO.out]; exact ⟨q, HQ.out, HT.out⟩), Lib.hid (HBv.of HI.out t)⟩
    case false =>
      go_upto_region 5 with fail
      go_region_held3 (fun w' => Below w.heap.size w w' ∧ w'.cell? ⟨w.heap.size, 0, none⟩ = some (.float .f64 d) ∧ w'.cell? ⟨w.heap.size + 1, 0, none⟩ = some (.float .f64 s) ∧ w'.cell? ⟨w.heap.size + 1 + 1, 0, none⟩ = some (.float .f64 l) ∧ (w'.cell? ⟨w.heap.size + 1 + 1 + 1, 0, none⟩).isSome = true ∧ (w'.cell? ⟨w.heap.size + 1 + 1 + 1 + 1, 0, none⟩).isSome = true ∧ (w'.cell? ⟨w.heap.size + 1 + 1 + 1 + 1 + 1, 0, none⟩).isSome = true ∧ (w'.cell? ⟨K, 0, none⟩).isSome = true ∧ w'.frozen? ⟨w.heap.size, 0, none⟩ = false ∧ w'.frozen? ⟨w.heap.size + 1, 0, none⟩ = false ∧ w'.frozen? ⟨w.heap.size + 1 + 1, 0, none⟩ = false ∧ w'.frozen? ⟨w.heap.size + 1 + 1 + 1, 0, none⟩ = false ∧ w'.frozen? ⟨w.heap.size + 1 + 1 + 1 + 1, 0, none⟩ = false ∧ w'.frozen? ⟨w.heap.size + 1 + 1 + 1 + 1 + 1, 0, none⟩ = false ∧ w'.frozen? ⟨K, 0, none⟩ = false ∧ w.heap.size + 1 + 1 + 1 + 1 + 1 < K ∧ K < w'.heap.size)
        (first | assumption | exact START.out | exact HB.put6 (by assumption) _)
        (first
          | (go_at_call 36; refine (addA _ _ _).mono ?_; rintro e w7 ⟨q, hq, rfl, hb⟩; have HQ := Lib.hid hq; have hI := STEP.out _ _ (by assumption) hb; unfold HB at hI; clear hb hq)
          | (go_at_call 35; refine (mulA _ _ _).mono ?_; rintro e w7 ⟨m, hm, rfl, hb⟩; have HM := Lib.hid hm; have hI := STEP.out _ _ (by assumption) hb; unfold HB at hI; clear hb hm)
          | (go_at_call 37; refine (subA _ _ _).mono ?_; rintro e w7 ⟨t, ht, rfl, hb⟩; have HT := Lib.hid ht; have hI := STEP.out _ _ (by assumption) hb; have HI := Lib.hid hI; obtain ⟨v, hv⟩ := hI.ex6; unfold HB at hI; clear hb ht))
      go_wp2_with fail
      go_meet
      exact ⟨t, Lib.hid (by unfold T2R; rw [if_neg (by rw [HO.out]; decide)]; exact ⟨q, m, HQ.out, HM.out, HT.out⟩), Lib.hid (HBv.of HI.out t)⟩
  case rest =>
    obtain ⟨t, HT, HBV⟩ := hcut
    clear B1
    go_upto_region 6 with fail
    go_cut [10] (fun s10 wx => ∃ M d2 u, s10 = .pointer (some ⟨M, 0, none⟩) ∧ Hid (Res .mul l 4611686018427387904 d2) ∧ Hid (Res .sub d2 t u) ∧ Hid (HC w K M d s l t u wx))
    case first =>
      have START := Lib.hid (show HBv w K d s l t wc.drew from HBV.out.step (Below.refl _ _).drew)
      have STEP := Lib.hid (fun w1 w2 (hc : HBv w K d s l t w1) (hb : Below w1.heap.size w1 w2) => hc.step hb)
      have KS := Lib.hid (fun w1 (hc : HBv w K d s l t w1) => hc.2.2.2.2.2.2.2.2.2.2.2.2.2.2.2.2)
      have KW := Lib.hid (show K < wc.heap.size from HBV.out.2.2.2.2.2.2.2.2.2.2.2.2.2.2.2.2)
      clear HBV
      go_region_held3 (fun w' => Below w.heap.size w w' ∧ w'.cell? ⟨w.heap.size, 0, none⟩ = some (.float .f64 d) ∧ w'.cell? ⟨w.heap.size + 1, 0, none⟩ = some (.float .f64 s) ∧ w'.cell? ⟨w.heap.size + 1 + 1, 0, none⟩ = some (.float .f64 l) ∧ (w'.cell? ⟨w.heap.size + 1 + 1 + 1, 0, none⟩).isSome = true ∧ (w'.cell? ⟨w.heap.size + 1 + 1 + 1 + 1, 0, none⟩).isSome = true ∧ (w'.cell? ⟨w.heap.size + 1 + 1 + 1 + 1 + 1, 0, none⟩).isSome = true ∧ w'.cell? ⟨K, 0, none⟩ = some (.float .f64 t) ∧ w'.frozen? ⟨w.heap.size, 0, none⟩ = false ∧ w'.frozen? ⟨w.heap.size + 1, 0, none⟩ = false ∧ w'.frozen? ⟨w.heap.size + 1 + 1, 0, none⟩ = false ∧ w'.frozen? ⟨w.heap.size + 1 + 1 + 1, 0, none⟩ = false ∧ w'.frozen? ⟨w.heap.size + 1 + 1 + 1 + 1, 0, none⟩ = false ∧ w'.frozen? ⟨w.heap.size + 1 + 1 + 1 + 1 + 1, 0, none⟩ = false ∧ w'.frozen? ⟨K, 0, none⟩ = false ∧ w.heap.size + 1 + 1 + 1 + 1 + 1 < K ∧ K < w'.heap.size)
        (first | assumption | exact START.out | exact HBv.alloc (by assumption) | exact HBv.above (by assumption) (by first | exact KS.out _ (by assumption) | (exact And.right (And.right (And.right (by assumption : MI K _ _))))) _)
        (first
          | (go_at_call 38; refine (mulConstA _ _ _).mono ?_; rintro e w7 ⟨d2, hd2, rfl, hb⟩; have HD2 := Lib.hid hd2; clear hd2; have hI := STEP.out _ _ (by assumption) hb; (try have hm := MI.ofAlloc hb (KS.out _ (by assumption))); (try have hm := MI.ofAllocD hb KW.out); (try have hm := MI.step (by assumption) hb); clear hb; unfold HBv at hI)
          | (go_at_call 37; refine (subA _ _ _).mono ?_; rintro e w7 ⟨u, hu, rfl, hb⟩; have HU := Lib.hid hu; clear hu; have hI := STEP.out _ _ (by assumption) hb; (try have hm := MI.ofAlloc hb (KS.out _ (by assumption))); (try have hm := MI.ofAllocD hb KW.out); (try have hm := MI.step (by assumption) hb); clear hb; unfold HBv at hI; try unfold MI at hm))
      all_goals
        go_wp2_with fail
        go_meet
        first
          | exact ⟨_, d2, u, rfl, HD2, HU, Lib.hid (HC.of (HBv.alloc (by assumption)) (by simp [go_sem]) (by simp [go_sem]) (KS.out _ (by assumption)) (by simp))⟩
          | exact ⟨_, d2, u, rfl, HD2, HU, Lib.hid (HC.of (HBv.above (by assumption) hm.2.2.2 _) (by simp [go_sem, hm.1]) (by simp [go_sem, hm.2.1]) hm.2.2.2 (by simpa using hm.2.2.1))⟩
    case rest =>
      obtain ⟨M, d2, u, rfl, HD2, HU, HCC⟩ := hcut
      clear HBV
      have START := Lib.hid (show HC w K M d s l t u wc.drew from HCC.out.step (Below.refl _ _).drew)
      have STEP := Lib.hid (fun w1 w2 (hc : HC w K M d s l t u w1) (hb : Below w1.heap.size w1 w2) => hc.step hb)
      go_upto_region 7 with fail
      go_cut [35] (fun _ wx => ∃ hp r, Hid (Res .add d 4599676419421066581 hp) ∧ Hid (HueR u t hp r) ∧ Hid (HD w K M d s l r t u wx))
      case first =>
        go_region_held3 (fun w' => Below w.heap.size w w' ∧ w'.cell? ⟨w.heap.size, 0, none⟩ = some (.float .f64 d) ∧ w'.cell? ⟨w.heap.size + 1, 0, none⟩ = some (.float .f64 s) ∧ w'.cell? ⟨w.heap.size + 1 + 1, 0, none⟩ = some (.float .f64 l) ∧ (w'.cell? ⟨w.heap.size + 1 + 1 + 1, 0, none⟩).isSome = true ∧ (w'.cell? ⟨w.heap.size + 1 + 1 + 1 + 1, 0, none⟩).isSome = true ∧ (w'.cell? ⟨w.heap.size + 1 + 1 + 1 + 1 + 1, 0, none⟩).isSome = true ∧ w'.cell? ⟨K, 0, none⟩ = some (.float .f64 t) ∧ w'.cell? ⟨M, 0, none⟩ = some (.float .f64 u) ∧ w'.frozen? ⟨w.heap.size, 0, none⟩ = false ∧ w'.frozen? ⟨w.heap.size + 1, 0, none⟩ = false ∧ w'.frozen? ⟨w.heap.size + 1 + 1, 0, none⟩ = false ∧ w'.frozen? ⟨w.heap.size + 1 + 1 + 1, 0, none⟩ = false ∧ w'.frozen? ⟨w.heap.size + 1 + 1 + 1 + 1, 0, none⟩ = false ∧ w'.frozen? ⟨w.heap.size + 1 + 1 + 1 + 1 + 1, 0, none⟩ = false ∧ w'.frozen? ⟨K, 0, none⟩ = false ∧ w'.frozen? ⟨M, 0, none⟩ = false ∧ w.heap.size + 1 + 1 + 1 + 1 + 1 < K ∧ K < M ∧ M < w'.heap.size)
          (first | assumption | exact START.out | exact HC.put3 (by assumption) _)
          (first
            | (go_at_call 34; refine (addConstA _ _ _).mono ?_; rintro e w7 ⟨q, hq, rfl, hb⟩; have HQ := Lib.hid hq; have hI := STEP.out _ _ (by assumption) hb; unfold HC at hI; clear hb hq)
            | (go_at_call 39; refine (hue _ _ _ _).mono ?_; rintro e w7 ⟨r, hr, rfl, hb⟩; have HR := Lib.hid hr; have hI := STEP.out _ _ (by assumption) hb; have HI := Lib.hid hI; obtain ⟨v, hv⟩ := hI.ex3; unfold HC at hI; clear hb hr))
        go_wp2_with fail
        go_meet
        exact ⟨q, r, HQ, HR, Lib.hid (HD.of HI.out r)⟩
      case rest =>
        obtain ⟨hp, r, HHP, HR, HX⟩ := hcut
        clear HCC START
        have x0 := HX.out.2.2.2.2.2.2.2.2.1
        have x1 := HX.out.2.2.2.2.2.2.2.1
        have x2 := HX.out.2.1
        go_wp2_with fail
        refine (hue _ _ _ _).mono ?_
        rintro e w3 ⟨g, hg, rfl, hb3⟩
        have HG := Lib.hid hg
        have X3 := Lib.hid (HX.out.step hb3)
        clear hg hb3 HX x0 x1 x2
        obtain ⟨v4, hv4⟩ := X3.out.ex4
        have f4 := X3.out.2.2.2.2.2.2.2.2.2.2.2.2.2.1
        have HY := Lib.hid (HE.of X3.out g)
        clear X3
        go_upto_region 9 with fail
        clear hv4 f4
        generalize w3.setCell ⟨w.heap.size + 1 + 1 + 1 + 1, 0, none⟩ (.float .f64 g) = W3 at *
        have START := Lib.hid (show HE w K M d s l r g t u W3.drew from HY.out.step (Below.refl _ _).drew)
        have STEP := Lib.hid (fun w1 w2 (hc : HE w K M d s l r g t u w1) (hb : Below w1.heap.size w1 w2) => hc.step hb)
        clear HY
        go_region_held3 (fun w' => Below w.heap.size w w' ∧ w'.cell? ⟨w.heap.size, 0, none⟩ = some (.float .f64 d) ∧ w'.cell? ⟨w.heap.size + 1, 0, none⟩ = some (.float .f64 s) ∧ w'.cell? ⟨w.heap.size + 1 + 1, 0, none⟩ = some (.float .f64 l) ∧ w'.cell? ⟨w.heap.size + 1 + 1 + 1, 0, none⟩ = some (.float .f64 r) ∧ w'.cell? ⟨w.heap.size + 1 + 1 + 1 + 1, 0, none⟩ = some (.float .f64 g) ∧ (w'.cell? ⟨w.heap.size + 1 + 1 + 1 + 1 + 1, 0, none⟩).isSome = true ∧ w'.cell? ⟨K, 0, none⟩ = some (.float .f64 t) ∧ w'.cell? ⟨M, 0, none⟩ = some (.float .f64 u) ∧ w'.frozen? ⟨w.heap.size, 0, none⟩ = false ∧ w'.frozen? ⟨w.heap.size + 1, 0, none⟩ = false ∧ w'.frozen? ⟨w.heap.size + 1 + 1, 0, none⟩ = false ∧ w'.frozen? ⟨w.heap.size + 1 + 1 + 1, 0, none⟩ = false ∧ w'.frozen? ⟨w.heap.size + 1 + 1 + 1 + 1, 0, none⟩ = false ∧ w'.frozen? ⟨w.heap.size + 1 + 1 + 1 + 1 + 1, 0, none⟩ = false ∧ w'.frozen? ⟨K, 0, none⟩ = false ∧ w'.frozen? ⟨M, 0, none⟩ = false ∧ w.heap.size + 1 + 1 + 1 + 1 + 1 < K ∧ K < M ∧ M < w'.heap.size)
          (first | assumption | exact START.out | exact HE.put5 (by assumption) _)
          (first
            | (go_at_call 40; refine (subConstA _ _ _).mono ?_; rintro e w7 ⟨q, hq, rfl, hb⟩; have HQ := Lib.hid hq; have hI := STEP.out _ _ (by assumption) hb; unfold HE at hI; clear hb hq)
            | (go_at_call 39; refine (hue _ _ _ _).mono ?_; rintro e w7 ⟨b, hb', rfl, hb⟩; have HB' := Lib.hid hb'; have hI := STEP.out _ _ (by assumption) hb; have HI := Lib.hid hI; obtain ⟨v, hv⟩ := hI.ex5; unfold HE at hI; clear hb hb'))
        have cr := HI.out.2.2.2.2.1
        have cg := HI.out.2.2.2.2.2.1
        go_wp2
        exact bodyPost_ret (v := .tuple #[.agg #[.float .f64 r], .agg #[.float .f64 g], .agg #[.float .f64 b]]) (by simp [results, Try.results22, go_sem, hv, cr, cg]) rfl ⟨r, g, b, ⟨d, t, d2, u, hp, q, HDD.out, HT.out, HD2.out, HU.out, HHP.out, HR.out, HG.out, HQ.out, HB'.out⟩, rfl, (HI.out.put5 _).1⟩
end Go.Proofs.Ytcaiehnihgcegaa.F64

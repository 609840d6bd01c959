/- hwbToRgb, for any operands. Printed by gen_hwb.py. -/
import Derived.Test.YtcaiehnihgcegaaHwbInv
namespace Go.Proofs.Ytcaiehnihgcegaa.F64
open Go.RowKit
def geB (x y : Nat) : Bool := (FloatKind.f64.format.order x y == some .gt || FloatKind.f64.format.order x y == some .eq)
def HwbR (h wt bk r g b : Nat) : Prop := ∃ s, Res .add wt bk s ∧ (if geB s 4607182418800017408 then ∃ s' q, Res .add wt bk s' ∧ Res .quo wt s' q ∧ r = q ∧ g = q ∧ b = q
  else ∃ s' d r0 g0 b0 pr pg pb, Res .add wt bk s' ∧ Res .add (Op.negFloat .f64 s') 4607182418800017408 d ∧ HslR h 4607182418800017408 4602678819172646912 r0 g0 b0 ∧
    (Res .mul d r0 pr ∧ Res .add pr wt r) ∧ (Res .mul d g0 pg ∧ Res .add pg wt g) ∧ (Res .mul d b0 pb ∧ Res .add pb wt b))

set_option maxRecDepth 100000 in
set_option maxHeartbeats 8000000 in
theorem hwb (h wt bk : Nat) (w : World) :
    Calls Try.prog 25 #[.agg #[.float .f64 h], .agg #[.float .f64 wt], .agg #[.float .f64 bk]] w fun e w' => ∃ r g b, HwbR h wt bk r g b ∧ e = .returned (.tuple #[.agg #[.float .f64 r], .agg #[.float .f64 g], .agg #[.float .f64 b]]) ∧ Below w.heap.size w w' := by
  have D0 := Lib.hid (WA.start w h wt bk)
  go_enter Try.func25, Try.ntmps25
  go_upto_region 1 with fail
  generalize ((((((w.alloc (.cells #[.float .f64 h] 43)).alloc (.cells #[.float .f64 wt] 43)).alloc (.cells #[.float .f64 bk] 43)).alloc (.cells #[.float .f64 0] 43)).alloc (.cells #[.float .f64 0] 43)).alloc (.cells #[.float .f64 0] 43)) = W0 at *
  have x1 := D0.out.2.2.1
  have x2 := D0.out.2.2.2.1
  go_wp2_with fail
  refine (addA wt bk _).mono ?_
  rintro e w1 ⟨s, hs, rfl, hb1⟩
  have HS := Lib.hid hs
  clear hs x1 x2
  go_wp2_with fail
  refine (value s _).mono ?_
  rintro e w2 ⟨rfl, hb2⟩
  have D1 := Lib.hid ((D0.out.step hb1).step hb2)
  clear hb1 hb2 D0
  cases hbb : geB s 4607182418800017408
  case true =>
    have p1 : (FloatKind.f64.format.order s 4607182418800017408 == some .gt || FloatKind.f64.format.order s 4607182418800017408 == some .eq) = true := hbb
    have HO := Lib.hid hbb
    clear hbb
    go_upto_region 2 with fail
    clear p1
    go_cut [9] (fun s9 wx => ∃ K s' q, s9 = .pointer (some ⟨K, 0, none⟩) ∧ Hid (Res .add wt bk s') ∧ Hid (Res .quo wt s' q) ∧ Hid (WB w K h wt bk q wx))
    case first =>
      have START := Lib.hid (show WA w h wt bk w2.drew from D1.out.step (Below.refl _ _).drew)
      have STEP := Lib.hid (fun w1 w2 (hc : WA w h wt bk w1) (hb : Below w1.heap.size w1 w2) => hc.step hb)
      have KS := Lib.hid (fun w1 (hc : WA w h wt bk w1) => hc.2.2.2.2.2.2.2.2.2.2.2.2.2)
      have KW := Lib.hid (show w.heap.size + 1 + 1 + 1 + 1 + 1 < w2.heap.size from D1.out.2.2.2.2.2.2.2.2.2.2.2.2.2)
      clear D1
      go_region_held3 (fun w' => Below w.heap.size w w' ∧ w'.cell? ⟨w.heap.size, 0, none⟩ = some (.float .f64 h) ∧ w'.cell? ⟨w.heap.size + 1, 0, none⟩ = some (.float .f64 wt) ∧ w'.cell? ⟨w.heap.size + 1 + 1, 0, none⟩ = some (.float .f64 bk) ∧ (w'.cell? ⟨w.heap.size + 1 + 1 + 1, 0, none⟩).isSome = true ∧ (w'.cell? ⟨w.heap.size + 1 + 1 + 1 + 1, 0, none⟩).isSome = true ∧ (w'.cell? ⟨w.heap.size + 1 + 1 + 1 + 1 + 1, 0, none⟩).isSome = true ∧ w'.frozen? ⟨w.heap.size, 0, none⟩ = false ∧ w'.frozen? ⟨w.heap.size + 1, 0, none⟩ = false ∧ w'.frozen? ⟨w.heap.size + 1 + 1, 0, none⟩ = false ∧ w'.frozen? ⟨w.heap.size + 1 + 1 + 1, 0, none⟩ = false ∧ w'.frozen? ⟨w.heap.size + 1 + 1 + 1 + 1, 0, none⟩ = false ∧ w'.frozen? ⟨w.heap.size + 1 + 1 + 1 + 1 + 1, 0, none⟩ = false ∧ w.heap.size + 1 + 1 + 1 + 1 + 1 < w'.heap.size)
        (first | assumption | exact START.out | exact WA.alloc (by assumption) | exact WA.above (by assumption) (by first | exact KS.out _ (by assumption) | (exact And.right (And.right (And.right (by assumption : MI _ _ _))))) _)
        (first
          | (go_at_call 36; refine (addA _ _ _).mono ?_; rintro e w7 ⟨p, hp, rfl, hb⟩; have Hp := Lib.hid hp; clear hp; have hI := STEP.out _ _ (by assumption) hb; (try have hm := MI.ofAlloc hb (KS.out _ (by assumption))); (try have hm := MI.ofAllocD hb KW.out); (try have hm := MI.step (by assumption) hb); clear hb; unfold WA at hI)
          | (go_at_call 41; refine (divA _ _ _).mono ?_; rintro e w7 ⟨q, hq, rfl, hb⟩; have Hq := Lib.hid hq; clear hq; have hI := STEP.out _ _ (by assumption) hb; (try have hm := MI.ofAlloc hb (KS.out _ (by assumption))); (try have hm := MI.ofAllocD hb KW.out); (try have hm := MI.step (by assumption) hb); clear hb; unfold WA at hI; try unfold MI at hm))
      all_goals
        go_wp2_with fail
        go_meet
        first
          | exact ⟨_, p, q, rfl, Hp, Hq, Lib.hid (WB.new (by assumption) _ _)⟩
          | exact ⟨_, p, q, rfl, Hp, Hq, Lib.hid (WB.of (WA.above (by assumption) hm.2.2.2 _) (by simp [go_sem, hm.1]) (by simp [go_sem, hm.2.1]) hm.2.2.2 (by simpa using hm.2.2.1))⟩
    case rest =>
      obtain ⟨K, s', q, rfl, Hs', Hq, HB⟩ := hcut
      clear D1
      go_upto_region 3 with fail
      obtain ⟨v3, c3⟩ := HB.out.ex3
      obtain ⟨v4, c4⟩ := HB.out.ex4
      obtain ⟨v5, c5⟩ := HB.out.ex5
      have cK := HB.out.2.2.2.2.2.2.2.1
      have g3 := HB.out.2.2.2.2.2.2.2.2.2.2.2.1
      have g4 := HB.out.2.2.2.2.2.2.2.2.2.2.2.2.1
      have g5 := HB.out.2.2.2.2.2.2.2.2.2.2.2.2.2.1
      have HBL := Lib.hid HB.out.1
      have HKK := Lib.hid HB.out.2.2.2.2.2.2.2.2.2.2.2.2.2.2.2.1
      have HSZ := Lib.hid HB.out.2.2.2.2.2.2.2.2.2.2.2.2.2.2.2.2
      have e3 : ¬ w.heap.size + 1 + 1 + 1 = K := by have := HKK.out; omega
      have e4 : ¬ w.heap.size + 1 + 1 + 1 + 1 = K := by have := HKK.out; omega
      have e5 : ¬ w.heap.size + 1 + 1 + 1 + 1 + 1 = K := by have := HKK.out; omega
      have f3 : ¬ K = w.heap.size + 1 + 1 + 1 := by have := HKK.out; omega
      have f4 : ¬ K = w.heap.size + 1 + 1 + 1 + 1 := by have := HKK.out; omega
      have f5 : ¬ K = w.heap.size + 1 + 1 + 1 + 1 + 1 := by have := HKK.out; omega
      clear HB
      go_region
      all_goals
        go_wp2_with fail
        refine bodyPost_ret (v := .tuple #[.agg #[.float .f64 q], .agg #[.float .f64 q], .agg #[.float .f64 q]]) (by simp [results, Try.results25, go_sem, c3, c4, c5]) rfl ⟨q, q, q, ⟨s, HS.out, ?_⟩, rfl, ?_⟩
        · rw [if_pos HO.out]; exact ⟨s', q, Hs'.out, Hq.out, rfl, rfl, rfl⟩
        · exact (((HBL.out.setCell (by simp; omega) _).setCell (by simp; omega) _).setCell (by simp; omega) _).drew
  case false =>
    have p1 : (FloatKind.f64.format.order s 4607182418800017408 == some .gt || FloatKind.f64.format.order s 4607182418800017408 == some .eq) = false := hbb
    have HO := Lib.hid hbb
    clear hbb
    go_upto_region 4 with fail
    clear p1
    have x1 := D1.out.2.2.1
    have x2 := D1.out.2.2.2.1
    go_wp2_with fail
    refine (addA wt bk _).mono ?_
    rintro e w3 ⟨s', hs', rfl, hb3⟩
    have HS' := Lib.hid hs'
    clear hs' x1 x2
    go_wp2_with fail
    refine (neg s' _).mono ?_
    rintro e w4 ⟨rfl, hb4⟩
    go_wp2_with fail
    refine (addConstA _ 4607182418800017408 _).mono ?_
    rintro e w5 ⟨d, hd, rfl, hb5⟩
    have HDD := Lib.hid hd
    have D2 := Lib.hid (((D1.out.step hb3).step hb4).step hb5)
    clear hd hb3 hb4 hb5 D1
    go_upto_region 5 with fail
    have E0 := Lib.hid (WB.new D2.out 43 d)
    clear D2
    generalize w5.alloc (.cells #[.float .f64 d] 43) = W5 at *
    generalize w5.heap.size = K at *
    go_cut [29] (fun _ wx => ∃ r0 g0 b0, Hid (HslR h 4607182418800017408 4602678819172646912 r0 g0 b0) ∧ Hid (WE w K h wt bk r0 g0 b0 d wx))
    case first =>
      have START := Lib.hid (show WB w K h wt bk d W5.drew from E0.out.step (Below.refl _ _).drew)
      have STEP := Lib.hid (fun w1 w2 (hc : WB w K h wt bk d w1) (hb : Below w1.heap.size w1 w2) => hc.step hb)
      clear E0
      go_region_held3 (fun w' => Below w.heap.size w w' ∧ w'.cell? ⟨w.heap.size, 0, none⟩ = some (.float .f64 h) ∧ w'.cell? ⟨w.heap.size + 1, 0, none⟩ = some (.float .f64 wt) ∧ w'.cell? ⟨w.heap.size + 1 + 1, 0, none⟩ = some (.float .f64 bk) ∧ (w'.cell? ⟨w.heap.size + 1 + 1 + 1, 0, none⟩).isSome = true ∧ (w'.cell? ⟨w.heap.size + 1 + 1 + 1 + 1, 0, none⟩).isSome = true ∧ (w'.cell? ⟨w.heap.size + 1 + 1 + 1 + 1 + 1, 0, none⟩).isSome = true ∧ w'.cell? ⟨K, 0, none⟩ = some (.float .f64 d) ∧ w'.frozen? ⟨w.heap.size, 0, none⟩ = false ∧ w'.frozen? ⟨w.heap.size + 1, 0, none⟩ = false ∧ w'.frozen? ⟨w.heap.size + 1 + 1, 0, none⟩ = false ∧ w'.frozen? ⟨w.heap.size + 1 + 1 + 1, 0, none⟩ = false ∧ w'.frozen? ⟨w.heap.size + 1 + 1 + 1 + 1, 0, none⟩ = false ∧ w'.frozen? ⟨w.heap.size + 1 + 1 + 1 + 1 + 1, 0, none⟩ = false ∧ w'.frozen? ⟨K, 0, none⟩ = false ∧ w.heap.size + 1 + 1 + 1 + 1 + 1 < K ∧ K < w'.heap.size)
        (first | assumption | exact START.out | exact WB.put3 (by assumption) _ | exact WB.put4 (by assumption) _ | exact WB.put5 (by assumption) _)
        (first
          | (go_at_call 23; refine (newF64 _ _).mono ?_; rintro e w7 ⟨rfl, hb⟩; have hI := STEP.out _ _ (by assumption) hb; unfold WB at hI; clear hb)
          | (go_at_call 22; refine (hsl _ _ _ _).mono ?_; rintro e w7 ⟨r0, g0, b0, hr, rfl, hb⟩; have HR := Lib.hid hr; have hI := STEP.out _ _ (by assumption) hb; have HI := Lib.hid hI; obtain ⟨v3, c3⟩ := hI.ex3; obtain ⟨v4, c4⟩ := hI.ex4; obtain ⟨v5, c5⟩ := hI.ex5; unfold WB at hI; clear hb hr))
      all_goals
        go_wp2_with fail
        go_meet
        refine ⟨r0, g0, b0, HR, Lib.hid (WE.put HI.out (((HI.out.1.setCell (by simp; omega) _).setCell (by simp; omega) _).setCell (by simp; omega) _) (by simp) ?_ (fun a => by simp [go_sem]) (by simp [go_sem, c3]) (by simp [go_sem, c4]) (by simp [go_sem, c5]))⟩
        intro a h1 h2 h3
        rw [World.cell?_setCell_other _ _ _ _ (fun e => by first | exact h1 e.symm | exact h2 e.symm | exact h3 e.symm), World.cell?_setCell_other _ _ _ _ (fun e => by first | exact h1 e.symm | exact h2 e.symm | exact h3 e.symm), World.cell?_setCell_other _ _ _ _ (fun e => by first | exact h1 e.symm | exact h2 e.symm | exact h3 e.symm)]
    case rest =>
      obtain ⟨r0, g0, b0, HR, HEE⟩ := hcut
      clear E0
      have START6 := Lib.hid (show WE w K h wt bk r0 g0 b0 d wc.drew from HEE.out.step (Below.refl _ _).drew)
      have STEP6 := Lib.hid (fun w1 w2 (hc : WE w K h wt bk r0 g0 b0 d w1) (hb : Below w1.heap.size w1 w2) => hc.step hb)
      clear HEE
      go_upto_region 6 with fail
      go_cut [41] (fun _ wx => ∃ pr r, Hid (Res .mul d r0 pr) ∧ Hid (Res .add pr wt r) ∧ Hid (WE w K h wt bk r g0 b0 d wx))
      case first =>
        have y0 := START6.out.2.2.2.2.2.2.2.1
        have y1 := START6.out.2.2.2.2.1
        have y2 := START6.out.2.2.1
        have y3 := START6.out.2.2.2.2.2.2.2.2.2.2.2.1
        go_region_with (first
            | (go_at_call 35; refine (mulA _ _ _).mono ?_; rintro e w7 ⟨p, hp, rfl, hb⟩; have HP := Lib.hid hp; have hI := STEP6.out _ _ (by first | exact START6.out | assumption) hb; have z2 := hI.2.2.1; clear hb hp)
            | (go_at_call 36; refine (addA _ _ _).mono ?_; rintro e w7 ⟨v, hv, rfl, hb⟩; have HV := Lib.hid hv; have hI := STEP6.out _ _ (by assumption) hb; have HI := Lib.hid hI; have z1 := hI.2.2.2.2.1; have z3 := hI.2.2.2.2.2.2.2.2.2.2.2.1; clear hb hv hI))
        all_goals
          go_wp2_with fail
          go_meet
          exact ⟨p, v, HP, HV, Lib.hid (HI.out.put3 v)⟩

      case rest =>
        obtain ⟨pr, r, HP1, HV1, HEE⟩ := hcut
        have START7 := Lib.hid (show WE w K h wt bk r g0 b0 d wc.drew from HEE.out.step (Below.refl _ _).drew)
        have STEP7 := Lib.hid (fun w1 w2 (hc : WE w K h wt bk r g0 b0 d w1) (hb : Below w1.heap.size w1 w2) => hc.step hb)
        clear HEE
        go_upto_region 7 with fail
        go_cut [46] (fun _ wx => ∃ pg g, Hid (Res .mul d g0 pg) ∧ Hid (Res .add pg wt g) ∧ Hid (WE w K h wt bk r g b0 d wx))
        case first =>
          have y0 := START7.out.2.2.2.2.2.2.2.1
          have y1 := START7.out.2.2.2.2.2.1
          have y2 := START7.out.2.2.1
          have y3 := START7.out.2.2.2.2.2.2.2.2.2.2.2.2.1
          go_region_with (first
              | (go_at_call 35; refine (mulA _ _ _).mono ?_; rintro e w7 ⟨p, hp, rfl, hb⟩; have HP := Lib.hid hp; have hI := STEP7.out _ _ (by first | exact START7.out | assumption) hb; have z2 := hI.2.2.1; clear hb hp)
              | (go_at_call 36; refine (addA _ _ _).mono ?_; rintro e w7 ⟨v, hv, rfl, hb⟩; have HV := Lib.hid hv; have hI := STEP7.out _ _ (by assumption) hb; have HI := Lib.hid hI; have z1 := hI.2.2.2.2.2.1; have z3 := hI.2.2.2.2.2.2.2.2.2.2.2.2.1; clear hb hv hI))
          all_goals
            go_wp2_with fail
            go_meet
            exact ⟨p, v, HP, HV, Lib.hid (HI.out.put4 v)⟩

        case rest =>
          obtain ⟨pg, g, HP2, HV2, HEE⟩ := hcut
          have START8 := Lib.hid (show WE w K h wt bk r g b0 d wc.drew from HEE.out.step (Below.refl _ _).drew)
          have STEP8 := Lib.hid (fun w1 w2 (hc : WE w K h wt bk r g b0 d w1) (hb : Below w1.heap.size w1 w2) => hc.step hb)
          clear HEE
          go_upto_region 8 with fail
          go_cut [51] (fun _ wx => ∃ pb b, Hid (Res .mul d b0 pb) ∧ Hid (Res .add pb wt b) ∧ Hid (WE w K h wt bk r g b d wx))
          case first =>
            have y0 := START8.out.2.2.2.2.2.2.2.1
            have y1 := START8.out.2.2.2.2.2.2.1
            have y2 := START8.out.2.2.1
            have y3 := START8.out.2.2.2.2.2.2.2.2.2.2.2.2.2.1
            go_region_with (first
                | (go_at_call 35; refine (mulA _ _ _).mono ?_; rintro e w7 ⟨p, hp, rfl, hb⟩; have HP := Lib.hid hp; have hI := STEP8.out _ _ (by first | exact START8.out | assumption) hb; have z2 := hI.2.2.1; clear hb hp)
                | (go_at_call 36; refine (addA _ _ _).mono ?_; rintro e w7 ⟨v, hv, rfl, hb⟩; have HV := Lib.hid hv; have hI := STEP8.out _ _ (by assumption) hb; have HI := Lib.hid hI; have z1 := hI.2.2.2.2.2.2.1; have z3 := hI.2.2.2.2.2.2.2.2.2.2.2.2.2.1; clear hb hv hI))
            all_goals
              go_wp2_with fail
              go_meet
              exact ⟨p, v, HP, HV, Lib.hid (HI.out.put5 v)⟩

          case rest =>
            obtain ⟨pb, b, HP3, HV3, HEE⟩ := hcut
            have c3 := HEE.out.2.2.2.2.1
            have c4 := HEE.out.2.2.2.2.2.1
            have c5 := HEE.out.2.2.2.2.2.2.1
            go_wp2_with fail
            refine bodyPost_ret (v := .tuple #[.agg #[.float .f64 r], .agg #[.float .f64 g], .agg #[.float .f64 b]]) (by simp [results, Try.results25, go_sem, c3, c4, c5]) rfl ⟨r, g, b, ⟨s, HS.out, ?_⟩, rfl, HEE.out.1⟩
            rw [if_neg (by rw [HO.out]; decide)]
            exact ⟨s', d, r0, g0, b0, pr, pg, pb, HS'.out, HDD.out, HR.out, ⟨HP1.out, HV1.out⟩, ⟨HP2.out, HV2.out⟩, ⟨HP3.out, HV3.out⟩⟩
end Go.Proofs.Ytcaiehnihgcegaa.F64

/- lab_to_xyz, for any operands. Printed by gen_lab.py. -/
import Derived.Test.YtkeagmiolapgpaaLabInv
namespace Go.Proofs.Ytkeagmiolapgpaa.F64
open Go.RowKit
def gtB (x y : Nat) : Bool := FloatKind.f64.format.order x y == some .gt
def LabF (l f : Nat) : Prop := ∃ q, Res .add l 4625196817309499392 q ∧ Res .quo q 4637863191261478912 f
def F0R (a f g : Nat) : Prop := ∃ q, Res .quo a 4647503709213818880 q ∧ Res .add q f g
def F2R (b f k : Nat) : Prop := ∃ q, Res .quo b 4641240890982006784 q ∧ Res .sub f q k
def LinR (f x : Nat) : Prop := ∃ p q, Res .mul f 4637863191261478912 p ∧ Res .sub p 4625196817309499392 q ∧ Res .quo q 4651156694067819558 x
def BrR (f c x : Nat) : Prop := if gtB c 4576259018578689238 then x = c else LinR f x
def YR (l y : Nat) : Prop := if gtB l 4620693217682128896 then ∃ q, LabF l q ∧ CubR q y else Res .quo l 4651156694067819558 y
def LabR (l a b X Y Z : Nat) : Prop := ∃ f g k c e x z, LabF l f ∧ F0R a f g ∧ F2R b f k ∧ CubR g c ∧ CubR k e ∧ BrR g c x ∧ YR l Y ∧ BrR k e z ∧ Res .mul x 4606860822843362778 X ∧ Res .mul z 4605607101106091996 Z

set_option maxRecDepth 100000 in
set_option maxHeartbeats 8000000 in
theorem lab (l a b : Nat) (w : World) :
    Calls Try.prog 15 #[.agg #[.float .f64 l], .agg #[.float .f64 a], .agg #[.float .f64 b]] w fun e w' => ∃ X Y Z, LabR l a b X Y Z ∧ e = .returned (.tuple #[.agg #[.float .f64 X], .agg #[.float .f64 Y], .agg #[.float .f64 Z]]) ∧ Below w.heap.size w w' := by
  have D0 := Lib.hid (LA.start w l a b)
  go_enter Try.func15, Try.ntmps15
  go_upto_region 1 with fail
  generalize ((((((w.alloc (.cells #[.float .f64 l] 29)).alloc (.cells #[.float .f64 a] 29)).alloc (.cells #[.float .f64 b] 29)).alloc (.cells #[.float .f64 0] 29)).alloc (.cells #[.float .f64 0] 29)).alloc (.cells #[.float .f64 0] 29)) = W0 at *
  have x0 := D0.out.2.1
  go_wp2_with fail
  refine (addConstA l 4625196817309499392 _).mono ?_
  rintro e w1 ⟨q, hq, rfl, hb1⟩
  have HQ := Lib.hid hq
  clear x0 hq
  go_wp2_with fail
  refine (divConstA q 4637863191261478912 _).mono ?_
  rintro e w2 ⟨f, hf, rfl, hb2⟩
  have Hf := Lib.hid (show LabF l f from ⟨q, HQ.out, hf⟩)
  have D1 := Lib.hid ((D0.out.step hb1).step hb2)
  clear hf HQ hb1 hb2 D0
  go_upto_region 2 with fail
  have HI := Lib.hid (LB.new D1.out 29 f)
  clear D1
  generalize w2.alloc (.cells #[.float .f64 f] 29) = WW at *
  generalize w2.heap.size = A at *
  go_cut [10] (fun s10 wx => ∃ B g, s10 = .pointer (some ⟨B, 0, none⟩) ∧ Hid (F0R a f g) ∧ Hid (LC w A B l a b f g wx))
  case first =>
    have START := Lib.hid (show LB w A l a b f WW.drew from HI.out.step (Below.refl _ _).drew)
    have STEP := Lib.hid (fun w1 w2 (hc : LB w A l a b f w1) (hb : Below w1.heap.size w1 w2) => hc.step hb)
    have KS := Lib.hid (fun w1 (hc : LB w A l a b f w1) => hc.2.2.2.2.2.2.2.2.2.2.2.2.2.2.2.2)
    have KW := Lib.hid (show A < WW.heap.size from HI.out.2.2.2.2.2.2.2.2.2.2.2.2.2.2.2.2)
    clear HI
    go_region_held3 (fun w' => Below w.heap.size w w' ∧ w'.cell? ⟨w.heap.size, 0, none⟩ = some (.float .f64 l) ∧ w'.cell? ⟨w.heap.size + 1, 0, none⟩ = some (.float .f64 a) ∧ w'.cell? ⟨w.heap.size + 1 + 1, 0, none⟩ = some (.float .f64 b) ∧ (w'.cell? ⟨w.heap.size + 1 + 1 + 1, 0, none⟩).isSome = true ∧ (w'.cell? ⟨w.heap.size + 1 + 1 + 1 + 1, 0, none⟩).isSome = true ∧ (w'.cell? ⟨w.heap.size + 1 + 1 + 1 + 1 + 1, 0, none⟩).isSome = true ∧ w'.cell? ⟨A, 0, none⟩ = some (.float .f64 f) ∧ w'.frozen? ⟨w.heap.size, 0, none⟩ = false ∧ w'.frozen? ⟨w.heap.size + 1, 0, none⟩ = false ∧ w'.frozen? ⟨w.heap.size + 1 + 1, 0, none⟩ = false ∧ w'.frozen? ⟨w.heap.size + 1 + 1 + 1, 0, none⟩ = false ∧ w'.frozen? ⟨w.heap.size + 1 + 1 + 1 + 1, 0, none⟩ = false ∧ w'.frozen? ⟨w.heap.size + 1 + 1 + 1 + 1 + 1, 0, none⟩ = false ∧ w'.frozen? ⟨A, 0, none⟩ = false ∧ w.heap.size + 1 + 1 + 1 + 1 + 1 < A ∧ A < w'.heap.size)
      (first | assumption | exact START.out | exact LB.alloc (by assumption) | exact LB.above (by assumption) (by first | exact KS.out _ (by assumption) | (exact And.right (And.right (And.right (by assumption : MI A _ _))))) _)
      (first
        | (go_at_call 20; refine (divConstA _ _ _).mono ?_; rintro e w7 ⟨p, hp, rfl, hb⟩; have Hp := Lib.hid hp; clear hp; have hI := STEP.out _ _ (by assumption) hb; (try have hm := MI.ofAlloc hb (KS.out _ (by assumption))); (try have hm := MI.ofAllocD hb KW.out); (try have hm := MI.step (by assumption) hb); clear hb; unfold LB at hI)
        | (go_at_call 21; refine (addA _ _ _).mono ?_; rintro e w7 ⟨g, hg, rfl, hb⟩; have Hg := Lib.hid hg; clear hg; have hI := STEP.out _ _ (by assumption) hb; (try have hm := MI.ofAlloc hb (KS.out _ (by assumption))); (try have hm := MI.ofAllocD hb KW.out); (try have hm := MI.step (by assumption) hb); clear hb; unfold LB at hI; try unfold MI at hm))
    all_goals
      go_wp2_with fail
      go_meet
      first
        | exact ⟨_, g, rfl, Lib.hid ⟨p, Hp.out, Hg.out⟩, Lib.hid (LC.new (by assumption) _ _)⟩
        | exact ⟨_, g, rfl, Lib.hid ⟨p, Hp.out, Hg.out⟩, Lib.hid (LC.of (LB.above (by assumption) hm.2.2.2 _) (by simp [go_sem, hm.1]) (by simp [go_sem, hm.2.1]) hm.2.2.2 (by simpa using hm.2.2.1))⟩
  case rest =>
    obtain ⟨B, g, rfl, Hg, HJ⟩ := hcut
    clear HI
    have HI := HJ
    clear HJ
    go_upto_region 3 with fail
    generalize hWW : wc = WW at *
    clear hWW
    go_cut [11] (fun s11 wx => ∃ C k, s11 = .pointer (some ⟨C, 0, none⟩) ∧ Hid (F2R b f k) ∧ Hid (LD w A B C l a b f g k wx))
    case first =>
      have START := Lib.hid (show LC w A B l a b f g WW.drew from HI.out.step (Below.refl _ _).drew)
      have STEP := Lib.hid (fun w1 w2 (hc : LC w A B l a b f g w1) (hb : Below w1.heap.size w1 w2) => hc.step hb)
      have KS := Lib.hid (fun w1 (hc : LC w A B l a b f g w1) => hc.2.2.2.2.2.2.2.2.2.2.2.2.2.2.2.2.2.2.2)
      have KW := Lib.hid (show B < WW.heap.size from HI.out.2.2.2.2.2.2.2.2.2.2.2.2.2.2.2.2.2.2.2)
      clear HI
      go_region_held3 (fun w' => Below w.heap.size w w' ∧ w'.cell? ⟨w.heap.size, 0, none⟩ = some (.float .f64 l) ∧ w'.cell? ⟨w.heap.size + 1, 0, none⟩ = some (.float .f64 a) ∧ w'.cell? ⟨w.heap.size + 1 + 1, 0, none⟩ = some (.float .f64 b) ∧ (w'.cell? ⟨w.heap.size + 1 + 1 + 1, 0, none⟩).isSome = true ∧ (w'.cell? ⟨w.heap.size + 1 + 1 + 1 + 1, 0, none⟩).isSome = true ∧ (w'.cell? ⟨w.heap.size + 1 + 1 + 1 + 1 + 1, 0, none⟩).isSome = true ∧ w'.cell? ⟨A, 0, none⟩ = some (.float .f64 f) ∧ w'.cell? ⟨B, 0, none⟩ = some (.float .f64 g) ∧ w'.frozen? ⟨w.heap.size, 0, none⟩ = false ∧ w'.frozen? ⟨w.heap.size + 1, 0, none⟩ = false ∧ w'.frozen? ⟨w.heap.size + 1 + 1, 0, none⟩ = false ∧ w'.frozen? ⟨w.heap.size + 1 + 1 + 1, 0, none⟩ = false ∧ w'.frozen? ⟨w.heap.size + 1 + 1 + 1 + 1, 0, none⟩ = false ∧ w'.frozen? ⟨w.heap.size + 1 + 1 + 1 + 1 + 1, 0, none⟩ = false ∧ w'.frozen? ⟨A, 0, none⟩ = false ∧ w'.frozen? ⟨B, 0, none⟩ = false ∧ w.heap.size + 1 + 1 + 1 + 1 + 1 < A ∧ A < B ∧ B < w'.heap.size)
        (first | assumption | exact START.out | exact LC.alloc (by assumption) | exact LC.above (by assumption) (by first | exact KS.out _ (by assumption) | (exact And.right (And.right (And.right (by assumption : MI B _ _))))) _)
        (first
          | (go_at_call 20; refine (divConstA _ _ _).mono ?_; rintro e w7 ⟨p, hp, rfl, hb⟩; have Hp := Lib.hid hp; clear hp; have hI := STEP.out _ _ (by assumption) hb; (try have hm := MI.ofAlloc hb (KS.out _ (by assumption))); (try have hm := MI.ofAllocD hb KW.out); (try have hm := MI.step (by assumption) hb); clear hb; unfold LC at hI)
          | (go_at_call 22; refine (subA _ _ _).mono ?_; rintro e w7 ⟨k, hk, rfl, hb⟩; have Hk := Lib.hid hk; clear hk; have hI := STEP.out _ _ (by assumption) hb; (try have hm := MI.ofAlloc hb (KS.out _ (by assumption))); (try have hm := MI.ofAllocD hb KW.out); (try have hm := MI.step (by assumption) hb); clear hb; unfold LC at hI; try unfold MI at hm))
      all_goals
        go_wp2_with fail
        go_meet
        first
          | exact ⟨_, k, rfl, Lib.hid ⟨p, Hp.out, Hk.out⟩, Lib.hid (LD.new (by assumption) _ _)⟩
          | exact ⟨_, k, rfl, Lib.hid ⟨p, Hp.out, Hk.out⟩, Lib.hid (LD.of (LC.above (by assumption) hm.2.2.2 _) (by simp [go_sem, hm.1]) (by simp [go_sem, hm.2.1]) hm.2.2.2 (by simpa using hm.2.2.1))⟩
    case rest =>
      obtain ⟨C, k, rfl, Hk, HJ⟩ := hcut
      clear HI
      have x1 := HJ.out.2.2.2.2.2.2.2.2.1
      go_wp2_with fail
      refine (cubed g _).mono ?_
      rintro e w4 ⟨c, hc, rfl, hb4⟩
      have Hc := Lib.hid hc
      have HJ2 := Lib.hid (HJ.out.step hb4)
      clear hc hb4 HJ x1
      go_upto_region 5 with fail
      have HE := Lib.hid (LE.new HJ2.out 29 c)
      clear HJ2
      generalize w4.alloc (.cells #[.float .f64 c] 29) = W4 at *
      generalize w4.heap.size = D at *
      have x1 := HE.out.2.2.2.2.2.2.2.2.2.1
      go_wp2_with fail
      refine (cubed k _).mono ?_
      rintro e_ w5 ⟨e, he, rfl, hb5⟩
      have He := Lib.hid he
      have HE2 := Lib.hid (HE.out.step hb5)
      clear he hb5 HE x1
      go_upto_region 6 with fail
      have HF := Lib.hid (LF.new HE2.out 29 e)
      clear HE2
      generalize w5.alloc (.cells #[.float .f64 e] 29) = W5 at *
      generalize w5.heap.size = E at *
      have x1 := HF.out.2.2.2.2.2.2.2.2.2.2.1
      go_wp2_with fail
      refine (value c _).mono ?_
      rintro e_ w6 ⟨rfl, hb6⟩
      have HF1 := Lib.hid (HF.out.step hb6)
      clear hb6 HF x1
      obtain ⟨bb, hbb⟩ : ∃ bb, gtB c 4576259018578689238 = bb := ⟨_, rfl⟩
      have p1 : (FloatKind.f64.format.order c 4576259018578689238 == some .gt) = bb := hbb
      have HO := Lib.hid hbb
      clear hbb
      go_upto_if 31 with fail
      clear p1
      go_cut [36] (fun _ wx => ∃ x, Hid (BrR g c x) ∧ Hid (LG w A B C D E l a b x f g k c e wx))
      case first =>
        cases bb
        case true =>
          have x1 := HF1.out.2.2.2.2.2.2.2.2.2.2.1
          obtain ⟨v3, hv3⟩ := HF1.out.ex3
          have f3 := HF1.out.2.2.2.2.2.2.2.2.2.2.2.2.2.2.2.1
          go_wp2_with fail
          go_meet
          exact ⟨c, Lib.hid (by unfold BrR; rw [if_pos HO.out]), Lib.hid (LG.fill HF1.out c)⟩
        case false =>
          have x1 := HF1.out.2.2.2.2.2.2.2.2.1
          go_wp2_with fail
          refine (mulConstA g _ _).mono ?_
          rintro e_ w7 ⟨p, hp, rfl, hb7⟩
          clear x1
          go_wp2_with fail
          refine (subConstA p _ _).mono ?_
          rintro e_ w8 ⟨q, hq, rfl, hb8⟩
          go_wp2_with fail
          refine (divConstA q _ _).mono ?_
          rintro e_ w9 ⟨x, hx, rfl, hb9⟩
          have HX := Lib.hid (show BrR g c x by unfold BrR; rw [if_neg (by rw [HO.out]; decide)]; exact ⟨p, q, hp, hq, hx⟩)
          have HF2 := Lib.hid (((HF1.out.step hb7).step hb8).step hb9)
          clear hp hq hx hb7 hb8 hb9 HF1
          obtain ⟨v3, hv3⟩ := HF2.out.ex3
          have f3 := HF2.out.2.2.2.2.2.2.2.2.2.2.2.2.2.2.2.1
          go_wp2_with fail
          go_meet
          exact ⟨x, HX, Lib.hid (LG.fill HF2.out x)⟩
      case rest =>
        obtain ⟨x, HX, HG⟩ := hcut
        clear HF1 HO
        have x1 := HG.out.2.1
        go_wp2_with fail
        refine (value l _).mono ?_
        rintro e_ w6 ⟨rfl, hb6⟩
        have HG1 := Lib.hid (HG.out.step hb6)
        clear hb6 HG x1
        obtain ⟨b2, hbb⟩ : ∃ b2, gtB l 4620693217682128896 = b2 := ⟨_, rfl⟩
        have p1 : (FloatKind.f64.format.order l 4620693217682128896 == some .gt) = b2 := hbb
        have HO := Lib.hid hbb
        clear hbb
        go_upto_if 39 with fail
        clear p1
        go_cut [46] (fun _ wx => ∃ y, Hid (YR l y) ∧ Hid (LH w A B C D E l a b x y f g k c e wx))
        case first =>
          cases b2
          case true =>
            have x1 := HG1.out.2.1
            go_wp2_with fail
            refine (addConstA l _ _).mono ?_
            rintro e_ w7 ⟨p, hp, rfl, hb7⟩
            clear x1
            go_wp2_with fail
            refine (divConstA p _ _).mono ?_
            rintro e_ w8 ⟨q, hq, rfl, hb8⟩
            have HQ := Lib.hid (show LabF l q from ⟨p, hp, hq⟩)
            have HG2 := Lib.hid ((HG1.out.step hb7).step hb8)
            clear hp hq hb7 hb8 HG1
            obtain ⟨v4, hv4⟩ := HG2.out.ex4
            have f4 := HG2.out.2.2.2.2.2.2.2.2.2.2.2.2.2.2.2.2.1
            have HH := Lib.hid (LH.fill HG2.out q)
            clear HG2
            go_upto_region 11 with fail
            clear hv4 f4
            generalize w8.setCell ⟨w.heap.size + 1 + 1 + 1 + 1, 0, none⟩ (.float .f64 q) = W8 at *
            have x1 := HH.out.2.2.2.2.2.1
            go_wp2_with fail
            refine (cubed q _).mono ?_
            rintro e_ w9 ⟨y, hy, rfl, hb9⟩
            have HY := Lib.hid hy
            have HH2 := Lib.hid (HH.out.step hb9)
            clear hy hb9 HH x1
            have x4 := HH2.out.2.2.2.2.2.1
            have f4 := HH2.out.2.2.2.2.2.2.2.2.2.2.2.2.2.2.2.2.1
            go_wp2_with fail
            go_meet
            exact ⟨y, Lib.hid (by unfold YR; rw [if_pos HO.out]; exact ⟨q, HQ.out, HY.out⟩), Lib.hid (HH2.out.put4 y)⟩
          case false =>
            have x1 := HG1.out.2.1
            go_wp2_with fail
            refine (divConstA l _ _).mono ?_
            rintro e_ w7 ⟨y, hy, rfl, hb7⟩
            have HY := Lib.hid hy
            have HG2 := Lib.hid (HG1.out.step hb7)
            clear x1 hy hb7 HG1
            obtain ⟨v4, hv4⟩ := HG2.out.ex4
            have f4 := HG2.out.2.2.2.2.2.2.2.2.2.2.2.2.2.2.2.2.1
            go_wp2_with fail
            go_meet
            exact ⟨y, Lib.hid (by unfold YR; rw [if_neg (by rw [HO.out]; decide)]; exact HY.out), Lib.hid (LH.fill HG2.out y)⟩
        case rest =>
          obtain ⟨y, HY, HH⟩ := hcut
          clear HG1 HO
          have x1 := HH.out.2.2.2.2.2.2.2.2.2.2.2.1
          go_wp2_with fail
          refine (value e _).mono ?_
          rintro e_ w6 ⟨rfl, hb6⟩
          have HH1 := Lib.hid (HH.out.step hb6)
          clear hb6 HH x1
          obtain ⟨b3, hbb⟩ : ∃ b3, gtB e 4576259018578689238 = b3 := ⟨_, rfl⟩
          have p1 : (FloatKind.f64.format.order e 4576259018578689238 == some .gt) = b3 := hbb
          have HO := Lib.hid hbb
          clear hbb
          go_upto_if 49 with fail
          clear p1
          go_cut [54] (fun _ wx => ∃ z, Hid (BrR k e z) ∧ Hid (LI w A B C D E l a b x y z f g k c e wx))
          case first =>
            cases b3
            case true =>
              have x1 := HH1.out.2.2.2.2.2.2.2.2.2.2.2.1
              obtain ⟨v3, hv3⟩ := HH1.out.ex5
              have f3 := HH1.out.2.2.2.2.2.2.2.2.2.2.2.2.2.2.2.2.2.1
              go_wp2_with fail
              go_meet
              exact ⟨e, Lib.hid (by unfold BrR; rw [if_pos HO.out]), Lib.hid (LI.fill HH1.out e)⟩
            case false =>
              have x1 := HH1.out.2.2.2.2.2.2.2.2.2.1
              go_wp2_with fail
              refine (mulConstA k _ _).mono ?_
              rintro e_ w7 ⟨p, hp, rfl, hb7⟩
              clear x1
              go_wp2_with fail
              refine (subConstA p _ _).mono ?_
              rintro e_ w8 ⟨q, hq, rfl, hb8⟩
              go_wp2_with fail
              refine (divConstA q _ _).mono ?_
              rintro e_ w9 ⟨z, hz, rfl, hb9⟩
              have HZ := Lib.hid (show BrR k e z by unfold BrR; rw [if_neg (by rw [HO.out]; decide)]; exact ⟨p, q, hp, hq, hz⟩)
              have HH2 := Lib.hid (((HH1.out.step hb7).step hb8).step hb9)
              clear hp hq hz hb7 hb8 hb9 HH1
              obtain ⟨v3, hv3⟩ := HH2.out.ex5
              have f3 := HH2.out.2.2.2.2.2.2.2.2.2.2.2.2.2.2.2.2.2.1
              go_wp2_with fail
              go_meet
              exact ⟨z, HZ, Lib.hid (LI.fill HH2.out z)⟩
          case rest =>
            obtain ⟨z, HZ, HL⟩ := hcut
            clear HH1 HO
            go_upto_region 16 with fail
            have I0 := HL.out.step (Below.refl _ _).drew
            have ST := Lib.hid (fun w1 w2 (hc : LI w A B C D E l a b x y z f g k c e w1) (hb : Below w1.heap.size w1 w2) => hc.step hb)
            have y3 := I0.2.2.2.2.1
            have y4 := I0.2.2.2.2.2.1
            have y5 := I0.2.2.2.2.2.2.1
            clear HL
            have tok1 : True := trivial
            go_region_with (first
              | (go_at_call 23; have _t := tok1; refine (mulConstA x _ _).mono ?_; rintro e_ w4 ⟨X, hX, rfl, hb4⟩; have HXX := Lib.hid hX; have C4 := ST.out _ _ (by assumption) hb4; clear hb4 hX tok1; have z3 := C4.2.2.2.2.1; have z4 := C4.2.2.2.2.2.1; have z5 := C4.2.2.2.2.2.2.1; have f3 := C4.2.2.2.2.2.2.2.2.2.2.2.2.2.2.2.1; have f4 := C4.2.2.2.2.2.2.2.2.2.2.2.2.2.2.2.2.1; have f5 := C4.2.2.2.2.2.2.2.2.2.2.2.2.2.2.2.2.2.1)
              | (go_at_call 23; refine (mulConstA z _ _).mono ?_; rintro e_ w5 ⟨Z, hZ, rfl, hb5⟩; have HZZ := Lib.hid hZ; have C5 := ST.out _ _ (by assumption) hb5; have HC5 := Lib.hid C5; clear hb5 hZ; have t3 := C5.2.2.2.2.1; have t4 := C5.2.2.2.2.2.1; have t5 := C5.2.2.2.2.2.2.1; have g3 := C5.2.2.2.2.2.2.2.2.2.2.2.2.2.2.2.1; have g4 := C5.2.2.2.2.2.2.2.2.2.2.2.2.2.2.2.2.1; have g5 := C5.2.2.2.2.2.2.2.2.2.2.2.2.2.2.2.2.2.1))
            all_goals
              go_wp2
              exact bodyPost_ret (v := .tuple #[.agg #[.float .f64 X], .agg #[.float .f64 y], .agg #[.float .f64 Z]]) (by simp [results, Try.results15, go_sem, t3, t4, t5]) rfl ⟨X, y, Z, ⟨f, g, k, c, e, x, z, Hf.out, Hg.out, Hk.out, Hc.out, He.out, HX.out, HY.out, HZ.out, HXX.out, HZZ.out⟩, rfl, (((HC5.out.put3 _).put4 _).put5 _).1⟩
end Go.Proofs.Ytkeagmiolapgpaa.F64

/- Linear rec2020 to XYZ and back: each channel comes back to within the tolerance. Plain Lean. -/
import Derived.Test.YtlonknbmhbepnaaWhite
namespace Go.Proofs.Ytlonknbmhbepnaa.F64
open Go.Proofs.Ytlonknbmhbepnaa.FL
theorem eta_tiny : eta ≤ 1 / (10 : Rat) ^ 320 := by unfold eta p2; decide +kernel
theorem t320 : (0 : Rat) < 1 / (10 : Rat) ^ 320 := by decide +kernel
theorem f118622047889322841 : FL.Fin 118622047889322841 := by unfold FL.Fin; decide
theorem v118622047889322841 : 1000000000000 * (1 / (10 : Rat) ^ 320) ≤ rv 118622047889322841 ∧ rv 118622047889322841 ≤ 1 := by decide +kernel
theorem f6850974717710472879 : FL.Fin 6850974717710472879 := by unfold FL.Fin; decide
theorem v6850974717710472879 : rv 6850974717710472879 ≤ (10 : Rat) ^ 151 := by decide +kernel
theorem t151 : (10 : Rat) ^ 151 * 1000000 + 1000000 ≤ p2 1023 := by
  have h : (10 : Rat) ^ 151 * 1000000 + 1000000 ≤ p2 1022 := Rat.le_trans (by decide +kernel : (10 : Rat) ^ 151 * 1000000 + 1000000 ≤ (10 : Rat) ^ 300) huge_le
  have := p2_1023
  have := p2_pos 1022
  grind

/-- One row with numerals, and a bound 'm' on its vector: within 100 units in the last place of m. -/
theorem row_m {a b c x y z : Nat} {m : Rat} (ha : FL.Fin a) (hb : FL.Fin b) (hc : FL.Fin c) (hx : FL.Fin x) (hy : FL.Fin y) (hz : FL.Fin z)
    (a0 : -2 ≤ rv a ∧ rv a ≤ 2) (b0 : -2 ≤ rv b ∧ rv b ≤ 2) (c0 : -2 ≤ rv c ∧ rv c ≤ 2)
    (x1 : -m ≤ rv x) (x2 : rv x ≤ m) (y1 : -m ≤ rv y) (y2 : rv y ≤ m) (z1 : -m ≤ rv z) (z2 : rv z ≤ m) (hm : 12 * m + 1 ≤ p2 1023) :
    rowOK a b c x y z ∧ FL.Fin (row a b c x y z) ∧
    rv x * rv a + rv y * rv b + rv z * rv c - (36 * m * (1 / 9007199254740992) + 8 * eta) ≤ rv (row a b c x y z) ∧
    rv (row a b c x y z) ≤ rv x * rv a + rv y * rv b + rv z * rv c + (36 * m * (1 / 9007199254740992) + 8 * eta) ∧
    -(7 * m + 8 * eta) ≤ rv (row a b c x y z) ∧ rv (row a b c x y z) ≤ 7 * m + 8 * eta := by
  have hu := u53_eq
  have hep := eta_pos
  have ma := mul_abs x1 x2 a0.1 a0.2
  have mb := mul_abs y1 y2 b0.1 b0.2
  have mc := mul_abs z1 z2 c0.1 c0.2
  obtain ⟨o1, f1, l1, u1⟩ := row_err (T := 6 * m) ha hb hc hx hy hz ma.1 ma.2 mb.1 mb.2 mc.1 mc.2 (by grind) (by grind)
  rw [hu] at l1 u1
  generalize rv x * rv a = p at *
  generalize rv y * rv b = q at *
  generalize rv z * rv c = r at *
  refine ⟨o1, f1, ?_, ?_, ?_, ?_⟩ <;> grind

def tolm (m : Nat) : Nat := fo .add (fo .mul 4517329193108106637 m) 118622047889322841
theorem tolm_ok {m : Nat} (hm : FL.Fin m) (m0 : 0 ≤ rv m) (m1 : rv m ≤ (10 : Rat) ^ 151) : ok .mul 4517329193108106637 m ∧ ok .add (fo .mul 4517329193108106637 m) 118622047889322841 ∧ FL.Fin (tolm m) ∧
    rv m * (1 / 10000000) + 1000000 * (1 / (10 : Rat) ^ 320) ≤ rv (tolm m) := by
  have hu := u53_eq
  have hep := eta_pos
  have hel := eta_tiny
  have h3 := t320
  have h4 : 1 / (10 : Rat) ^ 320 ≤ 1 := by decide +kernel
  have hbig := t151
  have v1 := v118622047889322841
  have v9 := v4517329193108106637
  generalize (10 : Rat) ^ 151 = U at *
  generalize 1 / (10 : Rat) ^ 320 = L at *
  unfold tolm
  obtain ⟨o1, r1, -, -⟩ := fo_mul f4517329193108106637 hm (by rw [v9]; grind) (by rw [v9]; grind)
  have e1 := r1.err (rv m) (by rw [v9]; grind) (by rw [v9]; grind)
  have ab := r1.above 0 fin_zero (by rw [rv_zero, v9]; grind)
  rw [rv_zero] at ab
  generalize fo .mul 4517329193108106637 m = s at *
  rw [hu, v9] at e1
  have hs := r1.fin
  obtain ⟨o2, r2, -⟩ := fo_add hs f118622047889322841 (by grind) (by grind)
  have e2 := r2.err (rv s + rv 118622047889322841) (by grind) (by grind)
  rw [hu] at e2
  refine ⟨o1, o2, r2.fin, ?_⟩
  grind


theorem back0 {r g b m : Nat} (hr : FL.Fin r) (hg : FL.Fin g) (hb : FL.Fin b) (m0 : 0 ≤ rv m) (m1 : rv m ≤ (10 : Rat) ^ 151)
    (r1 : -rv m ≤ rv r) (r2 : rv r ≤ rv m) (g1 : -rv m ≤ rv g) (g2 : rv g ≤ rv m) (b1 : -rv m ≤ rv b) (b2 : rv b ≤ rv m) :
    rowOK 4610409928823119432 13823450852009809460 13821607897934212378 (row 4603912427603237084 4594378393355354008 4595252598665090074 r g b) (row 4598404006225602290 4604282083269777021 4588707099058069666 r g b) (row 0 4583748624285553972 4607457071083198894 r g b) ∧ ok .sub (row 4610409928823119432 13823450852009809460 13821607897934212378 (row 4603912427603237084 4594378393355354008 4595252598665090074 r g b) (row 4598404006225602290 4604282083269777021 4588707099058069666 r g b) (row 0 4583748624285553972 4607457071083198894 r g b)) r ∧ FL.Fin (fo .sub (row 4610409928823119432 13823450852009809460 13821607897934212378 (row 4603912427603237084 4594378393355354008 4595252598665090074 r g b) (row 4598404006225602290 4604282083269777021 4588707099058069666 r g b) (row 0 4583748624285553972 4607457071083198894 r g b)) r) ∧
    rv (fo .sub (row 4610409928823119432 13823450852009809460 13821607897934212378 (row 4603912427603237084 4594378393355354008 4595252598665090074 r g b) (row 4598404006225602290 4604282083269777021 4588707099058069666 r g b) (row 0 4583748624285553972 4607457071083198894 r g b)) r) ≤ rv m * (1 / 10000000) + 1000000 * (1 / (10 : Rat) ^ 320) ∧ - rv (fo .sub (row 4610409928823119432 13823450852009809460 13821607897934212378 (row 4603912427603237084 4594378393355354008 4595252598665090074 r g b) (row 4598404006225602290 4604282083269777021 4588707099058069666 r g b) (row 0 4583748624285553972 4607457071083198894 r g b)) r) ≤ rv m * (1 / 10000000) + 1000000 * (1 / (10 : Rat) ^ 320) := by
  have hu := u53_eq
  have hep := eta_pos
  have hel := eta_tiny
  have h3 := t320
  have h4 : 1 / (10 : Rat) ^ 320 ≤ 1 := by decide +kernel
  have hbig := t151
  generalize (10 : Rat) ^ 151 = U at *
  generalize 1 / (10 : Rat) ^ 320 = L at *
  obtain ⟨-, fa0, la0, ua0, ba0, ca0⟩ := row_m (m := rv m) f4603912427603237084 f4594378393355354008 f4595252598665090074 hr hg hb (by rw [v4603912427603237084]; decide +kernel) (by rw [v4594378393355354008]; decide +kernel) (by rw [v4595252598665090074]; decide +kernel) r1 r2 g1 g2 b1 b2 (by grind)
  obtain ⟨-, fa1, la1, ua1, ba1, ca1⟩ := row_m (m := rv m) f4598404006225602290 f4604282083269777021 f4588707099058069666 hr hg hb (by rw [v4598404006225602290]; decide +kernel) (by rw [v4604282083269777021]; decide +kernel) (by rw [v4588707099058069666]; decide +kernel) r1 r2 g1 g2 b1 b2 (by grind)
  obtain ⟨-, fa2, la2, ua2, ba2, ca2⟩ := row_m (m := rv m) f0 f4583748624285553972 f4607457071083198894 hr hg hb (by rw [v0]; decide +kernel) (by rw [v4583748624285553972]; decide +kernel) (by rw [v4607457071083198894]; decide +kernel) r1 r2 g1 g2 b1 b2 (by grind)
  generalize row 4603912427603237084 4594378393355354008 4595252598665090074 r g b = x0 at *
  generalize row 4598404006225602290 4604282083269777021 4588707099058069666 r g b = x1 at *
  generalize row 0 4583748624285553972 4607457071083198894 r g b = x2 at *
  obtain ⟨ob, fb, lb, ub, -, -⟩ := row_m (m := 7 * rv m + 8 * eta) f4610409928823119432 f13823450852009809460 f13821607897934212378 fa0 fa1 fa2 (by rw [v4610409928823119432]; decide +kernel) (by rw [v13823450852009809460]; decide +kernel) (by rw [v13821607897934212378]; decide +kernel) ba0 ca0 ba1 ca1 ba2 ca2 (by grind)
  refine ⟨ob, ?_⟩
  generalize row 4610409928823119432 13823450852009809460 13821607897934212378 x0 x1 x2 = y at *
  rw [v4603912427603237084, v4594378393355354008, v4595252598665090074] at la0 ua0
  rw [v4598404006225602290, v4604282083269777021, v4588707099058069666] at la1 ua1
  rw [v0, v4583748624285553972, v4607457071083198894] at la2 ua2
  rw [v4610409928823119432, v13823450852009809460, v13821607897934212378] at lb ub
  have hd : -(rv m * (1 / 100000000) + 100 * L) ≤ rv y - rv r ∧ rv y - rv r ≤ rv m * (1 / 100000000) + 100 * L := by
    clear ba0 ca0 ba1 ca1 ba2 ca2 ob fb fa0 fa1 fa2 hr hg hb hbig hu
    constructor <;> grind
  obtain ⟨o3, r3, -⟩ := fo_sub fb hr (by grind) (by grind)
  have e3 := r3.err _ hd.1 hd.2
  rw [hu] at e3
  refine ⟨o3, r3.fin, ?_, ?_⟩ <;> grind

theorem back1 {r g b m : Nat} (hr : FL.Fin r) (hg : FL.Fin g) (hb : FL.Fin b) (m0 : 0 ≤ rv m) (m1 : rv m ≤ (10 : Rat) ^ 151)
    (r1 : -rv m ≤ rv r) (r2 : rv r ≤ rv m) (g1 : -rv m ≤ rv g) (g2 : rv g ≤ rv m) (b1 : -rv m ≤ rv b) (b2 : rv b ≤ rv m) :
    rowOK 13827552215197025300 4609958803467607422 4580202195299733041 (row 4603912427603237084 4594378393355354008 4595252598665090074 r g b) (row 4598404006225602290 4604282083269777021 4588707099058069666 r g b) (row 0 4583748624285553972 4607457071083198894 r g b) ∧ ok .sub (row 13827552215197025300 4609958803467607422 4580202195299733041 (row 4603912427603237084 4594378393355354008 4595252598665090074 r g b) (row 4598404006225602290 4604282083269777021 4588707099058069666 r g b) (row 0 4583748624285553972 4607457071083198894 r g b)) g ∧ FL.Fin (fo .sub (row 13827552215197025300 4609958803467607422 4580202195299733041 (row 4603912427603237084 4594378393355354008 4595252598665090074 r g b) (row 4598404006225602290 4604282083269777021 4588707099058069666 r g b) (row 0 4583748624285553972 4607457071083198894 r g b)) g) ∧
    rv (fo .sub (row 13827552215197025300 4609958803467607422 4580202195299733041 (row 4603912427603237084 4594378393355354008 4595252598665090074 r g b) (row 4598404006225602290 4604282083269777021 4588707099058069666 r g b) (row 0 4583748624285553972 4607457071083198894 r g b)) g) ≤ rv m * (1 / 10000000) + 1000000 * (1 / (10 : Rat) ^ 320) ∧ - rv (fo .sub (row 13827552215197025300 4609958803467607422 4580202195299733041 (row 4603912427603237084 4594378393355354008 4595252598665090074 r g b) (row 4598404006225602290 4604282083269777021 4588707099058069666 r g b) (row 0 4583748624285553972 4607457071083198894 r g b)) g) ≤ rv m * (1 / 10000000) + 1000000 * (1 / (10 : Rat) ^ 320) := by
  have hu := u53_eq
  have hep := eta_pos
  have hel := eta_tiny
  have h3 := t320
  have h4 : 1 / (10 : Rat) ^ 320 ≤ 1 := by decide +kernel
  have hbig := t151
  generalize (10 : Rat) ^ 151 = U at *
  generalize 1 / (10 : Rat) ^ 320 = L at *
  obtain ⟨-, fa0, la0, ua0, ba0, ca0⟩ := row_m (m := rv m) f4603912427603237084 f4594378393355354008 f4595252598665090074 hr hg hb (by rw [v4603912427603237084]; decide +kernel) (by rw [v4594378393355354008]; decide +kernel) (by rw [v4595252598665090074]; decide +kernel) r1 r2 g1 g2 b1 b2 (by grind)
  obtain ⟨-, fa1, la1, ua1, ba1, ca1⟩ := row_m (m := rv m) f4598404006225602290 f4604282083269777021 f4588707099058069666 hr hg hb (by rw [v4598404006225602290]; decide +kernel) (by rw [v4604282083269777021]; decide +kernel) (by rw [v4588707099058069666]; decide +kernel) r1 r2 g1 g2 b1 b2 (by grind)
  obtain ⟨-, fa2, la2, ua2, ba2, ca2⟩ := row_m (m := rv m) f0 f4583748624285553972 f4607457071083198894 hr hg hb (by rw [v0]; decide +kernel) (by rw [v4583748624285553972]; decide +kernel) (by rw [v4607457071083198894]; decide +kernel) r1 r2 g1 g2 b1 b2 (by grind)
  generalize row 4603912427603237084 4594378393355354008 4595252598665090074 r g b = x0 at *
  generalize row 4598404006225602290 4604282083269777021 4588707099058069666 r g b = x1 at *
  generalize row 0 4583748624285553972 4607457071083198894 r g b = x2 at *
  obtain ⟨ob, fb, lb, ub, -, -⟩ := row_m (m := 7 * rv m + 8 * eta) f13827552215197025300 f4609958803467607422 f4580202195299733041 fa0 fa1 fa2 (by rw [v13827552215197025300]; decide +kernel) (by rw [v4609958803467607422]; decide +kernel) (by rw [v4580202195299733041]; decide +kernel) ba0 ca0 ba1 ca1 ba2 ca2 (by grind)
  refine ⟨ob, ?_⟩
  generalize row 13827552215197025300 4609958803467607422 4580202195299733041 x0 x1 x2 = y at *
  rw [v4603912427603237084, v4594378393355354008, v4595252598665090074] at la0 ua0
  rw [v4598404006225602290, v4604282083269777021, v4588707099058069666] at la1 ua1
  rw [v0, v4583748624285553972, v4607457071083198894] at la2 ua2
  rw [v13827552215197025300, v4609958803467607422, v4580202195299733041] at lb ub
  have hd : -(rv m * (1 / 100000000) + 100 * L) ≤ rv y - rv g ∧ rv y - rv g ≤ rv m * (1 / 100000000) + 100 * L := by
    clear ba0 ca0 ba1 ca1 ba2 ca2 ob fb fa0 fa1 fa2 hr hg hb hbig hu
    constructor <;> grind
  obtain ⟨o3, r3, -⟩ := fo_sub fb hg (by grind) (by grind)
  have e3 := r3.err _ hd.1 hd.2
  rw [hu] at e3
  refine ⟨o3, r3.fin, ?_, ?_⟩ <;> grind

theorem back2 {r g b m : Nat} (hr : FL.Fin r) (hg : FL.Fin g) (hb : FL.Fin b) (m0 : 0 ≤ rv m) (m1 : rv m ≤ (10 : Rat) ^ 151)
    (r1 : -rv m ≤ rv r) (r2 : rv r ≤ rv m) (g1 : -rv m ≤ rv g) (g2 : rv g ≤ rv m) (b1 : -rv m ≤ rv b) (b2 : rv b ≤ rv m) :
    rowOK 4580741564155148474 13809696752864339029 4606660930076757740 (row 4603912427603237084 4594378393355354008 4595252598665090074 r g b) (row 4598404006225602290 4604282083269777021 4588707099058069666 r g b) (row 0 4583748624285553972 4607457071083198894 r g b) ∧ ok .sub (row 4580741564155148474 13809696752864339029 4606660930076757740 (row 4603912427603237084 4594378393355354008 4595252598665090074 r g b) (row 4598404006225602290 4604282083269777021 4588707099058069666 r g b) (row 0 4583748624285553972 4607457071083198894 r g b)) b ∧ FL.Fin (fo .sub (row 4580741564155148474 13809696752864339029 4606660930076757740 (row 4603912427603237084 4594378393355354008 4595252598665090074 r g b) (row 4598404006225602290 4604282083269777021 4588707099058069666 r g b) (row 0 4583748624285553972 4607457071083198894 r g b)) b) ∧
    rv (fo .sub (row 4580741564155148474 13809696752864339029 4606660930076757740 (row 4603912427603237084 4594378393355354008 4595252598665090074 r g b) (row 4598404006225602290 4604282083269777021 4588707099058069666 r g b) (row 0 4583748624285553972 4607457071083198894 r g b)) b) ≤ rv m * (1 / 10000000) + 1000000 * (1 / (10 : Rat) ^ 320) ∧ - rv (fo .sub (row 4580741564155148474 13809696752864339029 4606660930076757740 (row 4603912427603237084 4594378393355354008 4595252598665090074 r g b) (row 4598404006225602290 4604282083269777021 4588707099058069666 r g b) (row 0 4583748624285553972 4607457071083198894 r g b)) b) ≤ rv m * (1 / 10000000) + 1000000 * (1 / (10 : Rat) ^ 320) := by
  have hu := u53_eq
  have hep := eta_pos
  have hel := eta_tiny
  have h3 := t320
  have h4 : 1 / (10 : Rat) ^ 320 ≤ 1 := by decide +kernel
  have hbig := t151
  generalize (10 : Rat) ^ 151 = U at *
  generalize 1 / (10 : Rat) ^ 320 = L at *
  obtain ⟨-, fa0, la0, ua0, ba0, ca0⟩ := row_m (m := rv m) f4603912427603237084 f4594378393355354008 f4595252598665090074 hr hg hb (by rw [v4603912427603237084]; decide +kernel) (by rw [v4594378393355354008]; decide +kernel) (by rw [v4595252598665090074]; decide +kernel) r1 r2 g1 g2 b1 b2 (by grind)
  obtain ⟨-, fa1, la1, ua1, ba1, ca1⟩ := row_m (m := rv m) f4598404006225602290 f4604282083269777021 f4588707099058069666 hr hg hb (by rw [v4598404006225602290]; decide +kernel) (by rw [v4604282083269777021]; decide +kernel) (by rw [v4588707099058069666]; decide +kernel) r1 r2 g1 g2 b1 b2 (by grind)
  obtain ⟨-, fa2, la2, ua2, ba2, ca2⟩ := row_m (m := rv m) f0 f4583748624285553972 f4607457071083198894 hr hg hb (by rw [v0]; decide +kernel) (by rw [v4583748624285553972]; decide +kernel) (by rw [v4607457071083198894]; decide +kernel) r1 r2 g1 g2 b1 b2 (by grind)
  generalize row 4603912427603237084 4594378393355354008 4595252598665090074 r g b = x0 at *
  generalize row 4598404006225602290 4604282083269777021 4588707099058069666 r g b = x1 at *
  generalize row 0 4583748624285553972 4607457071083198894 r g b = x2 at *
  obtain ⟨ob, fb, lb, ub, -, -⟩ := row_m (m := 7 * rv m + 8 * eta) f4580741564155148474 f13809696752864339029 f4606660930076757740 fa0 fa1 fa2 (by rw [v4580741564155148474]; decide +kernel) (by rw [v13809696752864339029]; decide +kernel) (by rw [v4606660930076757740]; decide +kernel) ba0 ca0 ba1 ca1 ba2 ca2 (by grind)
  refine ⟨ob, ?_⟩
  generalize row 4580741564155148474 13809696752864339029 4606660930076757740 x0 x1 x2 = y at *
  rw [v4603912427603237084, v4594378393355354008, v4595252598665090074] at la0 ua0
  rw [v4598404006225602290, v4604282083269777021, v4588707099058069666] at la1 ua1
  rw [v0, v4583748624285553972, v4607457071083198894] at la2 ua2
  rw [v4580741564155148474, v13809696752864339029, v4606660930076757740] at lb ub
  have hd : -(rv m * (1 / 100000000) + 100 * L) ≤ rv y - rv b ∧ rv y - rv b ≤ rv m * (1 / 100000000) + 100 * L := by
    clear ba0 ca0 ba1 ca1 ba2 ca2 ob fb fa0 fa1 fa2 hr hg hb hbig hu
    constructor <;> grind
  obtain ⟨o3, r3, -⟩ := fo_sub fb hb (by grind) (by grind)
  have e3 := r3.err _ hd.1 hd.2
  rw [hu] at e3
  refine ⟨o3, r3.fin, ?_, ?_⟩ <;> grind
end Go.Proofs.Ytlonknbmhbepnaa.F64

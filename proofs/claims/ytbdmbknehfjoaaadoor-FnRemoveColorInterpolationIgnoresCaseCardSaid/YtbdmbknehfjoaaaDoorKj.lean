/- FnRemoveColorInterpolationIgnoresCase: the law, walked. -/
import Derived.Test.YtbdmbknehfjoaaaDoorKi
import Derived.Test.YtbdmbknehfjoaaaDoorKh
namespace Go.Proofs.YtbdmbknehfjoaaaDoor.ZT
open Go.RowKit Go.Proofs.YtbdmbknehfjoaaaDoor.TB
set_option linter.unusedVariables false
theorem RcP.no {n : Nat} {K : Nat → Int} {T : Nat → ByteArray} {Wf : Nat → Int} {w w' : World} {e : Ending} (h : RcP n K T Wf w e w') (hr : rc n K T = none) : e = .returned (.tuple #[.slice none 0 0, .int .u8 0, .int .u8 0, .bool false]) ∧ Below w.heap.size w w' := by
  obtain ⟨hb, ⟨_, he⟩ | ⟨i, d, c, m, A', cp, hx, _⟩⟩ := h
  · exact ⟨he, hb⟩
  · rw [hr] at hx
    simp at hx
theorem RcP.yes {n i d : Nat} {c m : Int} {K : Nat → Int} {T : Nat → ByteArray} {Wf : Nat → Int} {w w' : World} {e : Ending} (h : RcP n K T Wf w e w') (hr : rc n K T = some (i, d, c, m)) :
    ∃ A' cp, e = .returned (.tuple #[.slice (some A') (n - d) cp, .int .u8 c, .int .u8 m, .bool true]) ∧ i + d ≤ n ∧ TR w' (some A') (n - d) (tc (fun j => K (skp i d j)) (fun j => T (skp i d j)) (wsR Wf i d (n - d)) (fun _ => 0)) ∧ Below w.heap.size w w' := by
  obtain ⟨hb, ⟨hx, _⟩ | ⟨i', d', c', m', A', cp, hx, hid, he, ht⟩⟩ := h
  · rw [hr] at hx
    simp at hx
  · rw [hr] at hx
    simp only [Option.some.injEq, Prod.mk.injEq] at hx
    obtain ⟨rfl, rfl, rfl, rfl⟩ := hx
    exact ⟨A', cp, he, hid, ht, hb⟩
/-- What a comparison of two tokens needs of memory. -/
def MJ (wr : World) (ba oa bb ob k : Nat) (ta tb : ByteArray) (kk ww : Int) (w' : World) : Prop :=
  Below wr.heap.size wr w' ∧ ba < wr.heap.size ∧ bb < wr.heap.size ∧ w'.cell? ⟨ba, oa + k * 7 + 1, none⟩ = some (.string ta) ∧ w'.cell? ⟨ba, oa + k * 7 + 5, none⟩ = some (.int .u8 kk) ∧ w'.cell? ⟨ba, oa + k * 7 + 6, none⟩ = some (.int .u8 ww) ∧ w'.cell? ⟨bb, ob + k * 7 + 1, none⟩ = some (.string tb) ∧ w'.cell? ⟨bb, ob + k * 7 + 5, none⟩ = some (.int .u8 kk) ∧ w'.cell? ⟨bb, ob + k * 7 + 6, none⟩ = some (.int .u8 ww)
theorem MJ.step {wr : World} {ba oa bb ob k : Nat} {ta tb : ByteArray} {kk ww : Int} {w1 w2 : World} (h : MJ wr ba oa bb ob k ta tb kk ww w1) (hb : Below w1.heap.size w1 w2) : MJ wr ba oa bb ob k ta tb kk ww w2 := by
  obtain ⟨h0, h1, h2, x1, x2, x3, y1, y2, y3⟩ := h
  have e1 : ba < w1.heap.size := Nat.lt_of_lt_of_le h1 h0.size
  have e2 : bb < w1.heap.size := Nat.lt_of_lt_of_le h2 h0.size
  exact ⟨h0.trans (hb.mono h0.size), h1, h2, (hb.cell e1).trans x1, (hb.cell e1).trans x2, (hb.cell e1).trans x3, (hb.cell e2).trans y1, (hb.cell e2).trans y2, (hb.cell e2).trans y3⟩
set_option maxRecDepth 100000 in
set_option maxHeartbeats 16000000 in
theorem law3 (A1 A2 A3 : Option Addr) (n1 n2 n3 c1 c2 c3 : Nat) (z1 z3 : Nat → Int) (T : Nat → ByteArray) (w : World) (r1 : BR w A1 n1 z1) (r2 : SR w A2 n2 T) (r3 : BR w A3 n3 z3)
    (h1 : n1 ≤ maxLen) (h2 : n2 ≤ maxLen) (h3 : n3 ≤ maxLen) (hA1 : A1 = none → n1 = 0) (hA2 : A2 = none → n2 = 0) (hA3 : A3 = none → n3 = 0)
    (hz1 : ∀ i, i < n1 → 0 ≤ z1 i ∧ z1 i ≤ 255) (hz3 : ∀ i, i < n3 → 0 ≤ z3 i ∧ z3 i ≤ 255) :
    Calls Tryd.prog 3 #[.slice A1 n1 c1, .slice A2 n2 c2, .slice A3 n3 c3] w fun e w' => e = .returned (.bool true) ∧ Below w.heap.size w w' := by
  obtain ⟨PP, hPP⟩ : ∃ PP : Ending → World → Prop, (fun e w' => e = .returned (.bool true) ∧ Below w.heap.size w w') = PP := ⟨_, rfl⟩
  have HPP := Lib.hid (show ∀ w', Below w.heap.size w w' → PP (.returned (.bool true)) w' from fun w' hb => by rw [← hPP]; exact ⟨rfl, hb⟩)
  rw [hPP]
  clear hPP
  have C4 := Lib.hid (bytes4 A1 A2 A3 n1 n2 n3 c1 c2 c3 T w r2 h1 h2 h3)
  have R1 := Lib.hid r1
  have R2 := Lib.hid r2
  have R3 := Lib.hid r3
  have Z1 := Lib.hid hz1
  have Z3 := Lib.hid hz3
  have N1 := Lib.hid hA1
  have N2 := Lib.hid hA2
  have N3 := Lib.hid hA3
  clear r1 r2 r3 hz1 hz3 hA1 hA2 hA3
  go_enter Tryd.func3, Tryd.ntmps3
  go_wp2_with fail
  refine C4.out.mono ?_
  rintro e w' ⟨⟨bb, rfl, hbb⟩, rfl⟩
  have HB := Lib.hid hbb
  clear hbb C4
  cases bb
  case false =>
    go_wp2_with fail
    exact HPP.out _ (Below.refl _ _)
  case true =>
    by_cases q1 : 65536 < n1
    · have q1' : (65536 : Int) < (n1 : Int) := by omega
      go_wp2_with fail
      exact HPP.out _ (Below.refl _ _)
    by_cases q2 : 65536 < n2
    · have q1' : ¬ (65536 : Int) < (n1 : Int) := by omega
      have q2' : (65536 : Int) < (n2 : Int) := by omega
      go_wp2_with fail
      exact HPP.out _ (Below.refl _ _)
    by_cases q3 : 65536 < n3
    · have q1' : ¬ (65536 : Int) < (n1 : Int) := by omega
      have q2' : ¬ (65536 : Int) < (n2 : Int) := by omega
      have q3' : (65536 : Int) < (n3 : Int) := by omega
      go_wp2_with fail
      exact HPP.out _ (Below.refl _ _)
    have q1' : ¬ (65536 : Int) < (n1 : Int) := by omega
    have q2' : ¬ (65536 : Int) < (n2 : Int) := by omega
    have q3' : ¬ (65536 : Int) < (n3 : Int) := by omega
    have C5 := Lib.hid (str5 A2 n2 c2 T w R2.out (by omega))
    go_wp2_with fail
    refine C5.out.mono ?_
    rintro e w' ⟨⟨t, rfl⟩, rfl⟩
    obtain ⟨qq, HQ⟩ : ∃ qq : Prop, (1048576 < wrap64 (wrap64 (t + n1) + n3)) = qq := ⟨_, rfl⟩
    have hq : qq = True ∨ qq = False := by by_cases q : qq; exact .inl (eq_true q); exact .inr (eq_false q)
    rcases hq with rfl | rfl
    · go_wp2_with fail
      exact HPP.out _ (Below.refl _ _)
    have C6a := Lib.hid (fun W => min6 n2 n3 W)
    have C6b := Lib.hid (fun W => min6 n1 (min n2 n3) W)
    go_wp2_with (first | (refine (C6a.out _).mono ?_; rintro e_ w9 ⟨rfl, rfl⟩) | (refine (C6b.out _).mono ?_; rintro e_ w9 ⟨rfl, rfl⟩))
    obtain ⟨n, HN⟩ : ∃ n, Hid (min n1 (min n2 n3) = n) := ⟨_, Lib.hid rfl⟩
    rw [HN.out]
    have hn1 : n ≤ n1 := by have := HN.out; omega
    have hn2 : n ≤ n2 := by have := HN.out; omega
    have hn3 : n ≤ n3 := by have := HN.out; omega
    clear C5 C6a C6b
    go_loopw [8] (fun i wr => ∃ k : Nat, k ≤ n ∧ i = .int .i64 k ∧ wr = w ∧ Hid (∀ j, j < k → asc (T j) = true)) (fun i _ => n - (intOf i).toNat)
    case atStart => exact ⟨0, Nat.zero_le _, rfl, rfl, Lib.hid (fun j hj => absurd hj (by omega))⟩
    case round =>
      obtain ⟨k, hk, rfl, hwr, AL⟩ := hrel
      have hwr' := hwr.symm
      clear hwr
      subst hwr'
      by_cases hlt : k < n
      · obtain ⟨b2, o2, e2, hb2, hc2⟩ := R2.out (by omega)
        have z2 : w.cell? ⟨b2, o2 + k, none⟩ = some (.string (T k)) := hc2 k (by omega)
        subst e2
        have C7 := Lib.hid (fun W => ascii7 (T k) W (HB.out trivial k (by omega)))
        clear hc2
        have p1 : (0 : Int) ≤ (k : Int) := by omega
        have p2 : (k : Int) < (n : Int) := by omega
        have p4 : (k : Int) < (n2 : Int) := by omega
        obtain ⟨av, hav⟩ : ∃ av, asc (T k) = av := ⟨_, rfl⟩
        rw [hav] at C7
        go_wp2_with fail
        refine (C7.out _).mono ?_
        rintro e w' ⟨rfl, rfl⟩
        cases av
        · go_wp2_with fail
          exact HPP.out _ (Below.refl _ _)
        · have AL2 := Lib.hid (show ∀ j, j < k + 1 → asc (T j) = true from fun j hj => by
            rcases Nat.lt_succ_iff_lt_or_eq.1 hj with h | rfl
            · exact AL.out j h
            · exact hav)
          go_wp2_with fail
          go_roundw
          case rel => exact ⟨k + 1, by omega, by go_num, trivial, AL2⟩
          case measure => simp [intOf]; omega
      · have hkn : Hid (k = n) := Lib.hid (by omega)
        have p2 : ¬ (k : Int) < (n : Int) := by omega
        have AS := Lib.hid (show ∀ j, j < n → (T j).size ≤ 1048576 ∧ asc (T j) = true from fun j hj => ⟨HB.out trivial j (by omega), AL.out j (by have := hkn.out; omega)⟩)
        have HW0 := Lib.hid (Nat.le_refl w.heap.size)
        have C1 := Lib.hid (clone8 A1 n1 c1 z1 w R1.out N1.out (by omega))
        clear HB AL HN HQ
        go_wp2_with fail
        refine C1.out.mono ?_
        rintro e w1 ⟨D1, d1, rfl, r1, b1⟩
        have X1 := Lib.hid r1
        have X2 := Lib.hid (R2.out.below b1)
        have X3 := Lib.hid (R3.out.below b1)
        have B1 := Lib.hid b1
        clear r1 b1 C1 R1 R2 R3
        have C2 := Lib.hid (clone9 A2 n2 c2 T w1 X2.out N2.out (by omega))
        go_wp2_with fail
        refine C2.out.mono ?_
        rintro e w2 ⟨D2, d2, rfl, r2, b2⟩
        have Y1 := Lib.hid (X1.out.below b2)
        have Y2 := Lib.hid r2
        have Y3 := Lib.hid (X3.out.below b2)
        have B2 := Lib.hid (B1.out.trans (b2.mono B1.out.size))
        clear r2 b2 C2 X1 X2 X3 B1
        have C3 := Lib.hid (clone8 A3 n3 c3 z3 w2 Y3.out N3.out (by omega))
        go_wp2_with fail
        refine C3.out.mono ?_
        rintro e w3 ⟨D3, d3, rfl, r3, b3⟩
        have X1 := Lib.hid (Y1.out.below b3)
        have X2 := Lib.hid (Y2.out.below b3)
        have X3 := Lib.hid r3
        have B3 := Lib.hid (B2.out.trans (b3.mono B2.out.size))
        clear r3 b3 C3 Y1 Y2 Y3 B2
        have C4 := Lib.hid (build11 D1 D2 D3 n1 n2 n3 d1 d2 d3 n z1 z3 T false w3 X1.out X2.out X3.out hn1 hn2 hn3 (by omega) (fun i hi => Z1.out i (by omega)) (fun i hi => Z3.out i (by omega)) (fun i hi => (AS.out i hi).1))
        go_wp2_with fail
        refine C4.out.mono ?_
        rintro e w4 ⟨ga, rfl, ta, b4, hga⟩
        have Y1 := Lib.hid (X1.out.below b4)
        have Y2 := Lib.hid (X2.out.below b4)
        have Y3 := Lib.hid (X3.out.below b4)
        have B4 := Lib.hid (B3.out.trans (b4.mono B3.out.size))
        have TA := Lib.hid (TR.of_tab ta)
        clear ta b4 hga C4 X1 X2 X3 B3
        obtain ⟨K, hK⟩ : ∃ K : Nat → Int, (fun i => kO (z1 i)) = K := ⟨_, rfl⟩
        obtain ⟨Wf, hWf⟩ : ∃ Wf : Nat → Int, (fun i => wO (z3 i)) = Wf := ⟨_, rfl⟩
        rw [hK, hWf, show upT false T = T from rfl] at TA
        have C5 := Lib.hid (rem10 (some ⟨ga, 0, none⟩) n n K Wf T w4 TA.out (by omega) (Nat.le_refl _) AS.out)
        clear TA
        go_wp2_with fail
        refine C5.out.mono ?_
        have eq1 := fun (w : World) (a : Option Addr) (n c n' c' : Nat) => Lib.run_eql_slice_nil (P := Tryd.prog) w 30 42 a n c n' c' Tryd.underlying30
        intro e w5 hp
        rcases hrc : rc n K T with _ | ⟨i, d, cc, m⟩
        · obtain ⟨rfl, b5⟩ := hp.no hrc
          have X1 := Lib.hid (Y1.out.below b5)
          have X2 := Lib.hid (Y2.out.below b5)
          have X3 := Lib.hid (Y3.out.below b5)
          have B5 := Lib.hid (B4.out.trans (b5.mono B4.out.size))
          clear Y1 Y2 Y3 B4 C5 b5
          have C6 := Lib.hid (build11 D1 D2 D3 n1 n2 n3 d1 d2 d3 n z1 z3 T true w5 X1.out X2.out X3.out hn1 hn2 hn3 (by omega) (fun i hi => Z1.out i (by omega)) (fun i hi => Z3.out i (by omega)) (fun i hi => (AS.out i hi).1))
          have RU := Lib.hid (show rc n K (upT true T) = none from (rc_up n K T).trans hrc)
          clear hp hrc
          go_wp2_with fail
          refine C6.out.mono ?_
          rintro e w6 ⟨gb, rfl, tb, b6, hgb⟩
          have TB := Lib.hid (TR.of_tab tb)
          have B6 := Lib.hid (B5.out.trans (b6.mono B5.out.size))
          have B56 := Lib.hid b6
          clear tb b6 hgb C6 X1 X2 X3 B5
          rw [hK, hWf] at TB
          have C7 := Lib.hid (rem10 (some ⟨gb, 0, none⟩) n n K Wf (upT true T) w6 TB.out (by omega) (Nat.le_refl _) (fun i hi => ⟨Nat.le_trans (Nat.le_of_eq (size_up (T i))) (AS.out i hi).1, asc_up (T i) (AS.out i hi).2⟩))
          clear TB
          go_wp2_with fail
          refine C7.out.mono ?_
          intro e w7 hp2
          obtain ⟨rfl, b7⟩ := hp2.no RU.out
          have B7 := Lib.hid (B6.out.trans (b7.mono B6.out.size))
          clear hp2 b7 B6 B56
          go_wp2_with fail
          clear AS C7
          go_loopw [17] (fun i wr => i = .int .i64 0 ∧ wr = w7) (fun i _ => 0)
          case atStart => exact ⟨rfl, rfl⟩
          case round =>
            obtain ⟨rfl, rfl⟩ := hrel
            go_wp2_with fail
            exact HPP.out _ B7.out
        · obtain ⟨E1, e1, rfl, hid, t5, b5⟩ := hp.yes hrc
          have T5 := Lib.hid t5
          have X1 := Lib.hid (Y1.out.below b5)
          have X2 := Lib.hid (Y2.out.below b5)
          have X3 := Lib.hid (Y3.out.below b5)
          have B5 := Lib.hid (B4.out.trans (b5.mono B4.out.size))
          clear Y1 Y2 Y3 B4 C5 b5
          have C6 := Lib.hid (build11 D1 D2 D3 n1 n2 n3 d1 d2 d3 n z1 z3 T true w5 X1.out X2.out X3.out hn1 hn2 hn3 (by omega) (fun i hi => Z1.out i (by omega)) (fun i hi => Z3.out i (by omega)) (fun i hi => (AS.out i hi).1))
          have RU := Lib.hid (show rc n K (upT true T) = some (i, d, cc, m) from (rc_up n K T).trans hrc)
          clear hp hrc t5
          go_wp2_with fail
          refine C6.out.mono ?_
          rintro e w6 ⟨gb, rfl, tb, b6, hgb⟩
          have TB := Lib.hid (TR.of_tab tb)
          have B6 := Lib.hid (B5.out.trans (b6.mono B5.out.size))
          have B56 := Lib.hid b6
          clear tb b6 hgb C6 X1 X2 X3 B5
          rw [hK, hWf] at TB
          have C7 := Lib.hid (rem10 (some ⟨gb, 0, none⟩) n n K Wf (upT true T) w6 TB.out (by omega) (Nat.le_refl _) (fun i hi => ⟨Nat.le_trans (Nat.le_of_eq (size_up (T i))) (AS.out i hi).1, asc_up (T i) (AS.out i hi).2⟩))
          clear TB
          go_wp2_with fail
          refine C7.out.mono ?_
          intro e w7 hp2
          obtain ⟨E2, e2, rfl, hid2, t7, b7⟩ := hp2.yes RU.out
          have B7 := Lib.hid (B6.out.trans (b7.mono B6.out.size))
          have TA := Lib.hid ((T5.out.below B56.out).below b7)
          have TB := Lib.hid t7
          clear hp2 t7 b7 B6 B56 T5
          go_wp2_with fail
          clear C7
          obtain ⟨sz, hsz⟩ : ∃ sz, n - d = sz := ⟨_, rfl⟩
          have hszn : sz ≤ n := by omega
          rw [hsz] at TA TB
          have SZ := Lib.hid (show ∀ j, j < sz → skp i d j < n from fun j hj => by unfold skp; split <;> omega)
          obtain ⟨Ka, hKa⟩ : ∃ Ka : Nat → Int, (fun j => K (skp i d j)) = Ka := ⟨_, rfl⟩
          obtain ⟨Ta, hTa⟩ : ∃ Ta : Nat → ByteArray, (fun j => T (skp i d j)) = Ta := ⟨_, rfl⟩
          obtain ⟨Tb, hTb⟩ : ∃ Tb : Nat → ByteArray, (fun j => upT true T (skp i d j)) = Tb := ⟨_, rfl⟩
          obtain ⟨Wa, hWa⟩ : ∃ Wa : Nat → Int, wsR Wf i d sz = Wa := ⟨_, rfl⟩
          have UP := Lib.hid (show ∀ j, j < sz → (Ta j).size ≤ 1048576 ∧ upS (Ta j) = Tb j from fun j hj => by
            rw [← hTa, ← hTb]
            exact ⟨(AS.out _ (SZ.out j hj)).1, rfl⟩)
          rw [hKa, hTa, hWa] at TA
          rw [hKa, hTb, hWa] at TB
          clear AS SZ hKa hTa hTb hWa
          simp only [hsz]
          clear hsz
          go_loopw [17] (fun i wr => ∃ k : Nat, k ≤ sz ∧ i = .int .i64 k ∧ Hid (TR wr (some E1) sz (tc Ka Ta Wa fun _ => 0)) ∧ Hid (TR wr (some E2) sz (tc Ka Tb Wa fun _ => 0)) ∧ Hid (Below w.heap.size w wr)) (fun i _ => sz - (intOf i).toNat)
          case atStart => exact ⟨0, Nat.zero_le _, rfl, TA, TB, B7⟩
          case round =>
            obtain ⟨k2, hk2, rfl, RA, RB, BB⟩ := hrel
            clear TA TB B7
            by_cases hlt2 : k2 < sz
            · obtain ⟨ba, oa, ea, hba, hca⟩ := RA.out (by omega)
              obtain ⟨bb, ob, eb, hbb, hcb⟩ := RB.out (by omega)
              injection ea with ea
              injection eb with eb
              subst ea eb
              have p5 : (0 : Int) ≤ (k2 : Int) := by omega
              have p6 : (k2 : Int) < (sz : Int) := by omega
              have xa1 : wr.cell? ⟨ba, oa + k2 * 7 + 1, none⟩ = some (.string (Ta k2)) := hca k2 1 hlt2 (by omega)
              have xa5 : wr.cell? ⟨ba, oa + k2 * 7 + 5, none⟩ = some (.int .u8 (Ka k2)) := hca k2 5 hlt2 (by omega)
              have xa6 : wr.cell? ⟨ba, oa + k2 * 7 + 6, none⟩ = some (.int .u8 (Wa k2)) := hca k2 6 hlt2 (by omega)
              have xb1 : wr.cell? ⟨bb, ob + k2 * 7 + 1, none⟩ = some (.string (Tb k2)) := hcb k2 1 hlt2 (by omega)
              have xb5 : wr.cell? ⟨bb, ob + k2 * 7 + 5, none⟩ = some (.int .u8 (Ka k2)) := hcb k2 5 hlt2 (by omega)
              have xb6 : wr.cell? ⟨bb, ob + k2 * 7 + 6, none⟩ = some (.int .u8 (Wa k2)) := hcb k2 6 hlt2 (by omega)
              clear hca hcb
              have C12 := Lib.hid (fun W => upper12 (Ta k2) W (UP.out k2 hlt2).1)
              rw [(UP.out k2 hlt2).2] at C12
              generalize Ta k2 = ta at *
              generalize Tb k2 = tb at *
              generalize Ka k2 = kk at *
              generalize Wa k2 = ww at *
              have START := Lib.hid (show MJ wr ba oa bb ob k2 ta tb kk ww wr.drew from ⟨(Below.refl _ _).drew, hba, hbb, xa1, xa5, xa6, xb1, xb5, xb6⟩)
              have STEP := Lib.hid (fun w1 w2 (h : MJ wr ba oa bb ob k2 ta tb kk ww w1) (hb : Below w1.heap.size w1 w2) => h.step hb)
              have LAST := Lib.hid (show ∀ w2, MJ wr ba oa bb ob k2 ta tb kk ww w2 → Hid (TR w2 (some ⟨ba, oa, none⟩) sz (tc Ka Ta Wa fun _ => 0)) ∧ Hid (TR w2 (some ⟨bb, ob, none⟩) sz (tc Ka Tb Wa fun _ => 0)) ∧ Hid (Below w.heap.size w w2) from fun w2 h => ⟨Lib.hid (RA.out.below h.1), Lib.hid (RB.out.below h.1), Lib.hid (BB.out.trans (h.1.mono BB.out.size))⟩)
              clear RA RB BB xa1 xa5 xa6 xb1 xb5 xb6
              go_upto_region 23 with fail
              go_region_held3 (fun w' => Below wr.heap.size wr w' ∧ ba < wr.heap.size ∧ bb < wr.heap.size ∧ w'.cell? ⟨ba, oa + k2 * 7 + 1, none⟩ = some (.string ta) ∧ w'.cell? ⟨ba, oa + k2 * 7 + 5, none⟩ = some (.int .u8 kk) ∧ w'.cell? ⟨ba, oa + k2 * 7 + 6, none⟩ = some (.int .u8 ww) ∧ w'.cell? ⟨bb, ob + k2 * 7 + 1, none⟩ = some (.string tb) ∧ w'.cell? ⟨bb, ob + k2 * 7 + 5, none⟩ = some (.int .u8 kk) ∧ w'.cell? ⟨bb, ob + k2 * 7 + 6, none⟩ = some (.int .u8 ww))
                (first | assumption | exact START.out)
                (first | (go_at_call 12; refine (C12.out _).mono ?_; rintro e_ w9 ⟨rfl, hb9⟩; have hI := STEP.out _ _ (by assumption) hb9; clear hb9; unfold MJ at hI))
              all_goals
                go_wp2_with fail
                have HL := LAST.out w9 (by assumption)
                go_roundw
                case rel => exact ⟨k2 + 1, by omega, by go_num, HL.1, HL.2.1, HL.2.2⟩
                case measure => simp [intOf]; omega
            · have p6 : ¬ (k2 : Int) < (sz : Int) := by omega
              go_wp2_with fail
              exact HPP.out _ BB.out
end Go.Proofs.YtbdmbknehfjoaaaDoor.ZT

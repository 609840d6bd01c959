/- containsLocalOrGlobalSelector of n011_210, walked. -/
import Derived.Test.YtdonfahjcejhpaaNe
namespace Go.Proofs.Ytdonfahjcejhpaa.MG
open Go.RowKit Go.Proofs.Ytdonfahjcejhpaa.TB
set_option linter.unusedVariables false
def glob : ByteArray := ⟨#[103, 108, 111, 98, 97, 108]⟩
def locl : ByteArray := ⟨#[108, 111, 99, 97, 108]⟩
theorem tl_eq (l : List UInt8) : (ByteArray.mk l.toArray).toList = l := ByteArray.toList_mk l
theorem tl_yes {k : ByteArray} {l : List UInt8} (h : k = ⟨l.toArray⟩) : (k.toList == l) = true := by rw [h, tl_eq]; simp
theorem tl_no {k : ByteArray} {l : List UInt8} (h : ¬ k = ⟨l.toArray⟩) : (k.toList == l) = false := by
  rw [beq_eq_false_iff_ne]
  intro e
  apply h
  rw [ByteArray.toList_eq] at e
  obtain ⟨d⟩ := k
  simp only at e
  rw [← e]
/-- Is this a local or a global one? -/
def Fl (z : ZS) : Prop := if z.wr = true then kd z.k = 0 ∨ kd z.k = 3 else z.nm = glob ∨ z.nm = locl
/-- Is there one? -/
def Has (n : Nat) (C : Nat → ZC) : Prop := ∃ i, i < n ∧ ∃ j, j < (C i).n ∧ Fl ((C i).s j)
def CTR (w : World) (n : Nat) (C : Nat → ZC) (e : Ending) (w' : World) : Prop := ∃ b, e = .returned (.bool b) ∧ (b = true ↔ Has n C) ∧ Below w.heap.size w w'
theorem as_wrap1 (W : World) (v : Value) : (Instr.typeAssert (.iface 82 v) 64 78 true).run Try.prog W = .ok (.tuple #[.pointer none, .bool false]) W := by kernel_rfl
theorem as_wrap2 (W : World) (v : Value) : (Instr.typeAssert (.iface 82 v) 64 82 true).run Try.prog W = .ok (.tuple #[v, .bool true]) W := by kernel_rfl
theorem SList.cells {w : World} {v : Value} {n : Nat} {Z : Nat → ZS} (h : SList w v n Z) : ∃ a c, v = .slice a n c ∧ (0 < n → ∃ (g : Nat) (P : Nat → Value), a = some ⟨g, 0, none⟩ ∧ g < w.heap.size ∧ n ≤ c ∧ ∀ i, i < n → w.cell? ⟨g, i * 3, none⟩ = some (P i) ∧ w.cell? ⟨g, i * 3 + 1, none⟩ = some (.int .i32 0) ∧ w.cell? ⟨g, i * 3 + 2, none⟩ = some (.int .i32 0) ∧ SubAt w (P i) (Z i)) := by
  obtain ⟨P, ⟨b, h1⟩, h2⟩ := h
  by_cases hn : 0 < n
  · obtain ⟨gs, cap, rfl, -, hlt⟩ := h1.form hn
    refine ⟨_, _, rfl, fun _ => ⟨gs, P, rfl, hlt, ?_, fun i hi => ?_⟩⟩
    · rcases h1.2 with ⟨h, -⟩ | ⟨g, c, cur, h, -, -, hc, -⟩
      · cases h
      · simp only [Value.slice.injEq] at h; omega
    · obtain ⟨e0, e1, e2⟩ := ezs_get P hi
      refine ⟨?_, ?_, ?_, h2 i hi⟩
      · rw [h1.cellAt _ (by omega), e0]
      · rw [h1.cellAt _ (by omega), e1]
      · rw [h1.cellAt _ (by omega), e2]
  · obtain rfl : n = 0 := by omega
    rcases h1.2 with ⟨rfl, -⟩ | ⟨g, cap, cur, rfl, -⟩
    · exact ⟨_, _, rfl, fun h => absurd h hn⟩
    · exact ⟨_, _, rfl, fun h => absurd h hn⟩
theorem CList.cells {w : World} {base : Nat} {v : Value} {n : Nat} {C : Nat → ZC} (h : CList w base v n C) : ∃ a c, v = .slice a n c ∧ (0 < n → ∃ (g : Nat) (R : Nat → RW), a = some ⟨g, 0, none⟩ ∧ g < w.heap.size ∧ n ≤ c ∧ ∀ i, i < n → w.cell? ⟨g, i * 6, none⟩ = some (.pointer (RW.tp (R i))) ∧ w.cell? ⟨g, i * 6 + 1, none⟩ = some (R i).v ∧
    w.cell? ⟨g, i * 6 + 2, none⟩ = some (.slice (R i).na (R i).m (R i).nc) ∧ w.cell? ⟨g, i * 6 + 3, none⟩ = some (.int .i32 0) ∧ w.cell? ⟨g, i * 6 + 4, none⟩ = some (.int .u8 (R i).c) ∧ w.cell? ⟨g, i * 6 + 5, none⟩ = some (.bool false) ∧ SList w (R i).v (C i).n (C i).s) := by
  obtain ⟨R, h1, h2⟩ := h
  by_cases hn : 0 < n
  · obtain ⟨gs, cap, rfl, -, hlt⟩ := h1.form hn
    refine ⟨_, _, rfl, fun _ => ⟨gs, R, rfl, hlt, ?_, fun i hi => ?_⟩⟩
    · rcases h1.2 with ⟨h, -⟩ | ⟨g, c, cur, h, -, -, hc, -⟩
      · cases h
      · simp only [Value.slice.injEq] at h; omega
    · obtain ⟨e0, e1, e2, e3, e4, e5⟩ := rws_get R hi
      refine ⟨?_, ?_, ?_, ?_, ?_, ?_, h2 i hi⟩
      · rw [h1.cellAt _ (by omega), e0]
      · rw [h1.cellAt _ (by omega), e1]
      · rw [h1.cellAt _ (by omega), e2]
      · rw [h1.cellAt _ (by omega), e3]
      · rw [h1.cellAt _ (by omega), e4]
      · rw [h1.cellAt _ (by omega), e5]
  · obtain rfl : n = 0 := by omega
    rcases h1.2 with ⟨rfl, -⟩ | ⟨g, cap, cur, rfl, -⟩
    · exact ⟨_, _, rfl, fun h => absurd h hn⟩
    · exact ⟨_, _, rfl, fun h => absurd h hn⟩
/-- What is known after k compound selectors. -/
def CG (w : World) (n : Nat) (C : Nat → ZC) (k : Nat) (wr : World) : Prop := Below w.heap.size w wr ∧ ∀ i, i < k → ∀ j, j < (C i).n → ¬ Fl ((C i).s j)
set_option maxRecDepth 100000 in
set_option maxHeartbeats 8000000 in
theorem contains16 (v : Value) (base n : Nat) (C : Nat → ZC) (w : World) (hn : n ≤ 2097152) (hC : CList w base v n C) (hB : ∀ k, k < n → BC (C k)) :
    Calls Try.prog 16 #[.agg #[v]] w (CTR w n C) := by
  obtain ⟨A, c, rfl, hC2⟩ := hC.cells
  have HC := Lib.hid hC2
  have HB := Lib.hid hB
  have a1 := as_bare
  have a2 := as_wrap1
  have a3 := as_wrap2
  have YES := Lib.hid (fun (wr : World) (hb : Below w.heap.size w wr) (i : Nat) (hi : i < n) (j : Nat) (hj : j < (C i).n) (hf : Fl ((C i).s j)) => show CTR w n C (.returned (.bool true)) wr from ⟨true, rfl, ⟨fun _ => ⟨i, hi, j, hj, hf⟩, fun _ => rfl⟩, hb⟩)
  have NO := Lib.hid (fun (wr : World) (h : CG w n C n wr) => show CTR w n C (.returned (.bool false)) wr from ⟨false, rfl, ⟨(fun h => by cases h), (fun ⟨i, hi, j, hj, hf⟩ => absurd hf (h.2 i hi j hj))⟩, h.1⟩)
  have G0 := Lib.hid (show CG w n C 0 (w.alloc (.cells #[.slice A n c] 31)) from ⟨(Below.refl _ _).alloc (Nat.le_refl _) _, fun i hi => absurd hi (by omega)⟩)
  clear hC hC2 hB
  go_enter Try.func16, Try.ntmps16
  go_wp2_with fail
  generalize w.alloc (.cells #[.slice A n c] 31) = W0 at *
  go_loopw [12] (fun i wr => ∃ (k : Nat), k ≤ n ∧ i = .int .i64 k ∧ Hid (CG w n C k wr)) (fun i _ => n - (intOf i).toNat)
  case atStart => exact ⟨0, Nat.zero_le _, rfl, G0⟩
  case round =>
    obtain ⟨k, hk, rfl, GG⟩ := hrel
    clear G0
    by_cases hlt : k < n
    · obtain ⟨g, R, hAe, hlg, hnc, hcl⟩ := HC.out (by omega)
      subst hAe
      have hg2 := (GG.out.1.mono (Nat.zero_le _)).size
      obtain ⟨e0, e1, e2, e3, e4, e5, hsl⟩ := hcl k hlt
      obtain ⟨sa, sc, hv, hS2⟩ := hsl.cells
      obtain ⟨rt, rv, rna, rm, rnc, rc, hR⟩ : ∃ rt rv rna rm rnc rc, R k = RW.mk rt rv rna rm rnc rc := ⟨_, _, _, _, _, _, rfl⟩
      rw [hR] at e0 e1 e2 e4 hv
      simp only at e0 e1 e2 e4 hv
      subst hv
      obtain ⟨mk, hmk⟩ : ∃ mk, (C k).n = mk := ⟨_, rfl⟩
      have HMK := Lib.hid hmk
      have HMB := Lib.hid (show mk ≤ 1048576 by have := (HB.out k hlt).1; omega)
      rw [hmk] at e1 hS2
      have HS := Lib.hid hS2
      have f0 : wr.cell? ⟨g, k * 6, none⟩ = some (.pointer rt) := by rw [GG.out.1.cell hlg]; exact e0
      have f1 : wr.cell? ⟨g, k * 6 + 1, none⟩ = some (.slice sa mk sc) := by rw [GG.out.1.cell hlg]; exact e1
      have f2 : wr.cell? ⟨g, k * 6 + 2, none⟩ = some (.slice rna rm rnc) := by rw [GG.out.1.cell hlg]; exact e2
      have f3 : wr.cell? ⟨g, k * 6 + 3, none⟩ = some (.int .i32 0) := by rw [GG.out.1.cell hlg]; exact e3
      have f4 : wr.cell? ⟨g, k * 6 + 4, none⟩ = some (.int .u8 rc) := by rw [GG.out.1.cell hlg]; exact e4
      have f5 : wr.cell? ⟨g, k * 6 + 5, none⟩ = some (.bool false) := by rw [GG.out.1.cell hlg]; exact e5
      clear hcl e0 e1 e2 e3 e4 e5 hsl hS2 hR hmk hg2
      have q1 : (0 : Int) ≤ (k : Int) := by omega
      have q2 : (k : Int) < (n : Int) := by omega
      have G1 := Lib.hid (show CG w n C k (wr.alloc (.cells #[.pointer rt, .slice sa mk sc, .slice rna rm rnc, .int .i32 0, .int .u8 rc, .bool false] 46)) from ⟨GG.out.1.alloc GG.out.1.size _, GG.out.2⟩)
      clear GG
      go_wp2_with fail
      clear f0 f1 f2 f3 f4 f5
      generalize wr.alloc (.cells #[.pointer rt, .slice sa mk sc, .slice rna rm rnc, .int .i32 0, .int .u8 rc, .bool false] 46) = W1 at *
      go_loopw [19] (fun i wr => ∃ (j : Nat), j ≤ mk ∧ i = .int .i64 j ∧ Hid (CG w n C k wr) ∧ Hid (∀ i, i < j → ¬ Fl ((C k).s i))) (fun i _ => mk - (intOf i).toNat)
      case atStart => exact ⟨0, Nat.zero_le _, rfl, G1, Lib.hid (fun i hi => absurd hi (by omega))⟩
      case round =>
        obtain ⟨j, hj, rfl, GG, NF⟩ := hrel
        clear G1
        by_cases hlt2 : j < mk
        · obtain ⟨gs, P, hAe2, hlg2, hnc2, hcl⟩ := HS.out (by omega)
          subst hAe2
          obtain ⟨e0, e1, e2, hsub⟩ := hcl j hlt2
          have f0 : wr.cell? ⟨gs, j * 3, none⟩ = some (P j) := by rw [GG.out.1.cell hlg2]; exact e0
          have f1 : wr.cell? ⟨gs, j * 3 + 1, none⟩ = some (.int .i32 0) := by rw [GG.out.1.cell hlg2]; exact e1
          have f2 : wr.cell? ⟨gs, j * 3 + 2, none⟩ = some (.int .i32 0) := by rw [GG.out.1.cell hlg2]; exact e2
          have HJ := Lib.hid (show j < (C k).n by rw [HMK.out]; exact hlt2)
          obtain ⟨zz, hzz⟩ : ∃ zz, (C k).s j = zz := ⟨_, rfl⟩
          have HZZ := Lib.hid hzz
          rw [hzz] at hsub
          have q3 : (0 : Int) ≤ (j : Int) := by omega
          have q4 : (j : Int) < (mk : Int) := by omega
          have HP := Lib.hid (show (mk : Int) ≤ 1048576 by have := HMB.out; omega)
          have q5 := HP.out
          have G1 := Lib.hid (fun o => show CG w n C k (wr.alloc o) from ⟨GG.out.1.alloc GG.out.1.size _, GG.out.2⟩)
          have NX := Lib.hid (fun (h : ¬ Fl zz) => show ∀ i, i < j + 1 → ¬ Fl ((C k).s i) from fun i hi => by
            by_cases e : i = j
            · subst e; rw [HZZ.out]; exact h
            · exact NF.out i (by omega))
          clear hcl e0 e1 e2 hzz
          unfold SubAt at hsub
          by_cases hw : zz.wr = true
          · rw [if_pos hw] at hsub
            obtain ⟨g9, a9, n9, c9, hx, hb9⟩ := hsub
            rw [hx] at f0
            have HF := Lib.hid (show Fl zz ↔ (kd zz.k = 0 ∨ kd zz.k = 3) by unfold Fl; rw [if_pos hw])
            have y3 : wr.cell? ⟨g9, 3, none⟩ = some (.int .u8 (kd zz.k)) := by rw [GG.out.1.cell hb9.lt]; exact hb9.cell 3
            have hl9 := Nat.lt_of_lt_of_le hb9.lt GG.out.1.size
            have ne9 : ¬ g9 = wr.heap.size := by omega
            generalize kd zz.k = kk at *
            clear hw hx hb9 NF
            by_cases k0 : kk = 0
            · subst k0
              go_wp2_with fail
              go_ret
              exact YES.out _ (G1.out _).1 _ hlt _ HJ.out (by rw [HZZ.out, HF.out]; simp)
            · have k0' : (kk == 0) = false := by simp [k0]
              by_cases k3 : kk = 3
              · subst k3
                go_wp2_with fail
                go_ret
                exact YES.out _ (G1.out _).1 _ hlt _ HJ.out (by rw [HZZ.out, HF.out]; simp)
              · have k3' : (kk == 3) = false := by simp [k3]
                have N1 := Lib.hid (NX.out (by rw [HF.out]; simp [k0, k3]))
                clear k0 k3
                go_wp2_with fail
                go_roundw
                case rel => exact ⟨j + 1, by omega, by go_num, Lib.hid (G1.out _), N1⟩
                case measure => simp [intOf]; omega
          · rw [if_neg hw] at hsub
            obtain ⟨g9, hx, hb9⟩ := hsub
            rw [hx] at f0
            have HF := Lib.hid (show Fl zz ↔ (zz.nm = glob ∨ zz.nm = locl) by unfold Fl; rw [if_neg hw])
            have y3 : wr.cell? ⟨g9, 0, none⟩ = some (.string zz.nm) := by rw [GG.out.1.cell hb9.lt]; exact hb9.cell 0
            have hl9 := Nat.lt_of_lt_of_le hb9.lt GG.out.1.size
            have ne9 : ¬ g9 = wr.heap.size := by omega
            generalize zz.nm = kk at *
            clear hw hx hb9 NF
            by_cases k0 : kk = glob
            · have k0' : (kk.toList == [103, 108, 111, 98, 97, 108]) = true := tl_yes k0
              have K0 := Lib.hid k0
              clear k0
              go_wp2_with fail
              go_ret
              exact YES.out _ (G1.out _).1 _ hlt _ HJ.out (by rw [HZZ.out, HF.out]; simp [K0.out])
            · have k0' : (kk.toList == [103, 108, 111, 98, 97, 108]) = false := tl_no k0
              by_cases k3 : kk = locl
              · have k3' : (kk.toList == [108, 111, 99, 97, 108]) = true := tl_yes k3
                have K3 := Lib.hid k3
                clear k3
                go_wp2_with fail
                go_ret
                exact YES.out _ (G1.out _).1 _ hlt _ HJ.out (by rw [HZZ.out, HF.out]; simp [K3.out])
              · have k3' : (kk.toList == [108, 111, 99, 97, 108]) = false := tl_no k3
                have N1 := Lib.hid (NX.out (by rw [HF.out]; simp [k0, k3]))
                clear k0 k3
                go_wp2_with fail
                go_roundw
                case rel => exact ⟨j + 1, by omega, by go_num, Lib.hid (G1.out _), N1⟩
                case measure => simp [intOf]; omega
        · obtain rfl : j = mk := by omega
          have G2 := Lib.hid (show CG w n C (k + 1) wr from ⟨GG.out.1, fun i hi => by
            by_cases e : i = k
            · subst e; rw [HMK.out]; exact NF.out
            · exact GG.out.2 i (by omega)⟩)
          go_wp2_with fail
          go_roundw
          case rel => exact ⟨k + 1, by omega, by go_num, G2⟩
          case measure => simp [intOf]; omega
    · obtain rfl : k = n := by omega
      go_wp2_with fail
      go_ret
      exact NO.out _ GG.out
set_option maxRecDepth 100000 in
theorem contains7 (v : Value) (base n : Nat) (C : Nat → ZC) (w : World) (hn : n ≤ 2097152) (hC : CList w base v n C) (hB : ∀ k, k < n → BC (C k)) :
    Calls Try.prog 7 #[.agg #[v]] w (CTR w n C) := by
  obtain ⟨A, c, rfl, -⟩ := hC.cells
  have HC := Lib.hid (fun o => hC.below ((Below.refl w.heap.size w).alloc (Nat.le_refl _) o))
  have HB := Lib.hid hB
  have B0 := Lib.hid (fun o => show Below w.heap.size w (w.alloc o) from (Below.refl _ _).alloc (Nat.le_refl _) _)
  clear hC hB
  go_enter Try.func7, Try.ntmps7
  go_wp2_with (go_at_call 16; refine (contains16 _ base n C _ hn (HC.out _) HB.out).mono ?_; rintro e w1 ⟨b, rfl, hb, hb1⟩)
  go_ret
  exact ⟨b, rfl, hb, (B0.out _).trans (hb1.mono (by simp))⟩
end Go.Proofs.Ytdonfahjcejhpaa.MG

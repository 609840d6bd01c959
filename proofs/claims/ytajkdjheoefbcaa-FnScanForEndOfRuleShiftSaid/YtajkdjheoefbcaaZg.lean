/- scanForEndOfRule walked. -/
import Derived.Test.YtajkdjheoefbcaaZf
import Derived.Deep.LoopGhost
namespace Go.Proofs.Ytajkdjheoefbcaa.ZA
open Go.RowKit Go.Proofs.Ytajkdjheoefbcaa.TB Go.Proofs.Ytajkdjheoefbcaa.OW Go.Proofs.Ytajkdjheoefbcaa.PL
set_option linter.unusedVariables false
/-- The stack's cells, the deepest first. -/
def sv (st : List Nat) : List Value := st.reverse.map fun x => .int .u8 (kd x)
theorem sv_push (st : List Nat) (x : Nat) : sv st ++ [Value.int .u8 (kd x)] = sv (x :: st) := by simp [sv]
theorem sv_len (st : List Nat) : (sv st).length = st.length := by simp [sv]
theorem own_nil {w : World} {base : Nat} {v : Value} (h : Own w base v (sv [])) : ∃ gs cap, v = .slice (some ⟨gs, 0, none⟩) 0 cap := by
  obtain ⟨g, cap, hv, _⟩ := h.cells
  exact ⟨g, cap, hv⟩
theorem all_cons {x : Nat} {st : List Nat} (hx : x = 7 ∨ x = 9 ∨ x = 11) (h : ∀ y ∈ st, y = 7 ∨ y = 9 ∨ y = 11) : ∀ y ∈ x :: st, y = 7 ∨ y = 9 ∨ y = 11 := by
  intro y hy
  rcases List.mem_cons.1 hy with e | e
  · rw [e]; exact hx
  · exact h y e
theorem info39 : (Try.prog.info? 39).map (fun i => (i.zero, i.size, i.bytes)) = some (some (.int .u8 0), 1, 1) := by kernel_rfl
theorem info94 : (Try.prog.info? 94).map (fun i => (i.zero, i.size, i.bytes)) = some (some (.agg #[.int .u8 0, .int .u8 0, .int .u8 0, .int .u8 0]), 4, 4) := by kernel_rfl
theorem below_drewN {B : Nat} {a w : World} (h : Below B a w) (n : Nat) : Below B a (w.drewN n) := ⟨h.os, h.tape, h.output, h.size, h.block⟩
def ScanP (r : Int × Int) (w : World) (e : Ending) (w' : World) : Prop := e = .returned (.tuple #[.int .u8 r.1, .int .i64 r.2]) ∧ Below w.heap.size w w'
theorem kd29 {c : Nat} (h : c < 15) (hc : c = 1 ∨ c = 2 ∨ c = 13) : kd c = 29 := by rcases hc with rfl | rfl | rfl <;> rfl
theorem kd_ne29 {c : Nat} (h : c < 15) (hc : ¬ (c = 1 ∨ c = 2 ∨ c = 13)) : kd c ≠ 29 := by
  rcases fifteen h with rfl | rfl | rfl | rfl | rfl | rfl | rfl | rfl | rfl | rfl | rfl | rfl | rfl | rfl | rfl <;> revert hc <;> decide
theorem kd_ne38 {c : Nat} (h : c < 15) (hc : c ≠ 0) : kd c ≠ 38 := by
  rcases fifteen h with rfl | rfl | rfl | rfl | rfl | rfl | rfl | rfl | rfl | rfl | rfl | rfl | rfl | rfl | rfl <;> revert hc <;> decide
theorem kd_ne9 {c : Nat} (h : c < 15) (hc : c ≠ 3) : kd c ≠ 9 := by
  rcases fifteen h with rfl | rfl | rfl | rfl | rfl | rfl | rfl | rfl | rfl | rfl | rfl | rfl | rfl | rfl | rfl <;> revert hc <;> decide
/-- What holds at the head of the scanner's loop. -/
def Inv (w : World) (z : Nat → Int) (n ix : Nat) (wx : World) (v : Value) (sn : Nat) (st : List Nat) (k : Nat) : Prop :=
  Own wx w.heap.size v (sv st) ∧ Below w.heap.size w wx ∧ SC (kl z) n 0 [] ix = SC (kl z) n sn st (ix + k) ∧ (∀ x ∈ st, x = 7 ∨ x = 9 ∨ x = 11) ∧ st.length ≤ k
theorem Inv.drewN {w : World} {z : Nat → Int} {n ix : Nat} {wx : World} {v : Value} {sn : Nat} {st : List Nat} {k : Nat} (h : Inv w z n ix wx v sn st k) (m : Nat) : Inv w z n ix (wx.drewN m) v sn st k :=
  ⟨h.1.drewN m, below_drewN h.2.1 m, h.2.2⟩
theorem nx_le {s : Nat} (hs : s ≤ 3) (c : Nat) : nx s c ≤ 3 := by unfold nx; repeat' split
                                                                  all_goals omega
set_option maxRecDepth 100000 in
set_option maxHeartbeats 8000000 in
theorem scanW (gp g n ix : Nat) (z : Nat → Int) (w : World) (hP : Par w gp g n ⟨(allT z n).toArray⟩ ix (tk z)) (hn : n ≤ 1048576) (hi : ix < n) :
    Calls Try.prog 16 #[.pointer (some ⟨gp, 0, none⟩)] w (ScanP (SC (kl z) n 0 [] ix) w) := by
  obtain ⟨i39, hi39, hz390, hz391, hz392⟩ := info_parts info39
  have q1 : (ix : Int) ≤ (n : Int) := by omega
  have q2 : (ix : Int) < (n : Int) := by omega
  have q3 : (0 : Int) ≤ (ix : Int) := by omega
  have O0 := Lib.hid (Own.made (base := w.heap.size) w #[.int .u8 0, .int .u8 0, .int .u8 0, .int .u8 0] 94 (Nat.le_refl _) (by unfold maxLen; decide))
  have B0 := Lib.hid (show Below w.heap.size w (w.alloc (.cells #[.int .u8 0, .int .u8 0, .int .u8 0, .int .u8 0] 94)) from (Below.refl _ _).alloc (Nat.le_refl _) _)
  have PP := hP.below B0.out hP.2.2.2
  have HPP := Lib.hid hP
  have HP := Lib.hid PP
  have c1 := PP.1.1
  have c2 := PP.1.2.1
  have c3 := PP.1.2.2.1
  clear hP PP
  go_enter Try.func16, Try.ntmps16
  go_wp2_with fail
  generalize w.alloc (.cells #[.int .u8 0, .int .u8 0, .int .u8 0, .int .u8 0] 94) = W0 at *
  go_quiet (fail)
  go_wp2_with fail
  have I0 : Hid (Inv w z n ix (W0.drewN nq) (.slice (some ⟨w.heap.size, 0, none⟩) 0 4) 0 [] 0) :=
    Lib.hid ⟨O0.out.drewN _, below_drewN B0.out _, rfl, by simp, Nat.le_refl _⟩
  clear O0 B0 c1 c2 c3
  go_loopg [5, 6, 22] (n - ix) (fun gk v s i wx => ∃ (k sn : Nat) (st : List Nat), s = .int .i64 sn ∧ i = .int .i64 k ∧ k ≤ n - ix ∧ n - ix ≤ k + gk ∧ sn ≤ 3 ∧ Hid (Inv w z n ix wx v sn st k))
  case atStart => exact ⟨0, 0, [], rfl, rfl, Nat.zero_le _, by omega, by omega, I0⟩
  case round =>
    obtain ⟨k, sn, st, rfl, rfl, hk, hgk, hsn, II⟩ := hrel
    clear I0 HP
    by_cases hlt : k < n - ix
    · obtain ⟨g', rfl⟩ : ∃ g', gk = g' + 1 := ⟨gk - 1, by omega⟩
      have q4 : (k : Int) < ((n - ix : Nat) : Int) := by omega
      have q5 : (0 : Int) ≤ (k : Int) := by omega
      have hin : ix + k < n := by omega
      have PX := Lib.hid (HPP.out.below II.out.2.1 HPP.out.2.2.2)
      have t0 : wr.cell? ⟨g, ix * 5 + k * 5, none⟩ = some (.int .i32 ((allT z (ix + k)).length : Nat)) := by
        have h := PX.out.2.1.cell hin (j := 0) (by omega); rw [show (ix + k) * 5 + 0 = ix * 5 + k * 5 by omega] at h; exact h
      have t1 : wr.cell? ⟨g, ix * 5 + k * 5 + 1, none⟩ = some (.int .i32 ((txtL (kl z (ix + k))).length : Nat)) := by
        have h := PX.out.2.1.cell hin (j := 1) (by omega); rw [show (ix + k) * 5 + 1 = ix * 5 + k * 5 + 1 by omega] at h; exact h
      have t2 : wr.cell? ⟨g, ix * 5 + k * 5 + 2, none⟩ = some (.int .u16 0) := by
        have h := PX.out.2.1.cell hin (j := 2) (by omega); rw [show (ix + k) * 5 + 2 = ix * 5 + k * 5 + 2 by omega] at h; exact h
      have t3 : wr.cell? ⟨g, ix * 5 + k * 5 + 3, none⟩ = some (.int .u8 (kd (kl z (ix + k)))) := by
        have h := PX.out.2.1.cell hin (j := 3) (by omega); rw [show (ix + k) * 5 + 3 = ix * 5 + k * 5 + 3 by omega] at h; exact h
      have t4 : wr.cell? ⟨g, ix * 5 + k * 5 + 4, none⟩ = some (.int .u8 0) := by
        have h := PX.out.2.1.cell hin (j := 4) (by omega); rw [show (ix + k) * 5 + 4 = ix * 5 + k * 5 + 4 by omega] at h; exact h
      have OB := Lib.hid (show Below wr.heap.size wr (wr.alloc (.cells #[.int .i32 ((allT z (ix + k)).length : Nat), .int .i32 ((txtL (kl z (ix + k))).length : Nat), .int .u16 0, .int .u8 (kd (kl z (ix + k))), .int .u8 0] 44)) from (Below.refl _ _).alloc (Nat.le_refl _) _)
      have PX1 := PX.out.below OB.out PX.out.2.2.2
      have II1 : Hid (Inv w z n ix (wr.alloc (.cells #[.int .i32 ((allT z (ix + k)).length : Nat), .int .i32 ((txtL (kl z (ix + k))).length : Nat), .int .u16 0, .int .u8 (kd (kl z (ix + k))), .int .u8 0] 44)) u5 sn st k) :=
        Lib.hid ⟨II.out.1.below OB.out, II.out.2.1.trans (OB.out.mono II.out.2.1.size), II.out.2.2⟩
      have d3 : (wr.alloc (.cells #[.int .i32 ((allT z (ix + k)).length : Nat), .int .i32 ((txtL (kl z (ix + k))).length : Nat), .int .u16 0, .int .u8 (kd (kl z (ix + k))), .int .u8 0] 44)).cell? ⟨wr.heap.size, 3, none⟩ = some (.int .u8 (kd (kl z (ix + k)))) := by simp [go_sem]
      have d0 : (wr.alloc (.cells #[.int .i32 ((allT z (ix + k)).length : Nat), .int .i32 ((txtL (kl z (ix + k))).length : Nat), .int .u16 0, .int .u8 (kd (kl z (ix + k))), .int .u8 0] 44)).cell? ⟨wr.heap.size, 0, none⟩ = some (.int .i32 ((allT z (ix + k)).length : Nat)) := by simp [go_sem]
      have c2 := PX1.1.2.1
      have c3 := PX1.1.2.2.1
      have HPX := Lib.hid PX1
      clear PX1 PX II OB
      go_upto_if 28 with (fail)
      generalize wr.alloc (.cells #[.int .i32 ((allT z (ix + k)).length : Nat), .int .i32 ((txtL (kl z (ix + k))).length : Nat), .int .u16 0, .int .u8 (kd (kl z (ix + k))), .int .u8 0] 44) = W1 at *
      clear t0 t1 t2 t3 t4
      generalize wr.heap.size = gt at *
      go_cut [6] (fun s w' => s = .int .i64 (nx sn (kl z (ix + k)) : Nat) ∧ ∃ m, w' = W1.drewN m)
      case first =>
        have hc15 := kl_lt z (ix + k)
        have hisp := isP_at z (ix + k) n hin
        have hal := allT_len z (ix + k)
        have han := allT_len z n
        have hle : (allT z (ix + k)).length ≤ (⟨(allT z n).toArray⟩ : ByteArray).size := by
          obtain ⟨r, hr⟩ := allT_at z (ix + k) n hin
          simp [ByteArray.size, hr]
        have hsz : (⟨(allT z n).toArray⟩ : ByteArray).size ≤ 9437184 := by simp [ByteArray.size]; omega
        generalize (⟨(allT z n).toArray⟩ : ByteArray) = S at *
        generalize (allT z (ix + k)).length = off at *
        generalize kl z (ix + k) = c at *
        clear han II1 HPX
        rcases (by omega : sn = 0 ∨ sn = 1 ∨ 2 ≤ sn) with rfl | rfl | hs2
        · by_cases hA : c = 1 ∨ c = 2 ∨ c = 13
          · rw [kd29 hc15 hA] at d3
            have hq := hisp hA
            clear hisp
            have hex : (S.extract off S.size).size ≤ 1099511627776 := by simp; omega
            by_cases h2 : c = 2
            · subst h2
              simp only [decide_true] at hq
              go_wp2_with fail
              go_quiet ((go_at_call 20; exact Calls.quiet_of_same ((hasPrefix _ _ hex).mono (fun _ _ h => ⟨h.1, h.2.symm⟩))))
              rw [hq]
              go_wp2_with fail
              go_meet
              case rel => exact ⟨rfl, _, rfl⟩
            · simp only [h2, decide_false] at hq
              have en : nx 0 c = 3 := by unfold nx; rw [if_pos rfl, if_neg h2, if_neg (by omega)]
              clear h2 hA
              go_wp2_with fail
              go_quiet ((go_at_call 20; exact Calls.quiet_of_same ((hasPrefix _ _ hex).mono (fun _ _ h => ⟨h.1, h.2.symm⟩))))
              rw [hq]
              go_wp2_with fail
              go_meet
              case rel => exact ⟨by rw [en]; rfl, _, rfl⟩
          · have b29 : (kd c == 29) = false := by rw [beq_eq_false_iff_ne]; exact kd_ne29 hc15 hA
            by_cases h0 : c = 0
            · subst h0
              have b38 : (kd 0 != 38) = false := by decide
              clear hisp hA
              go_wp2_with fail
              go_quiet (fail)
              go_wp2_with fail
              go_meet
              case rel => exact ⟨rfl, _, rfl⟩
            · have b38 : (kd c != 38) = true := by rw [bne_iff_ne]; exact kd_ne38 hc15 h0
              have en : nx 0 c = 3 := by unfold nx; rw [if_pos rfl, if_neg (by omega), if_neg h0]
              clear hisp hA h0
              go_wp2_with fail
              go_quiet (fail)
              go_wp2_with fail
              go_meet
              case rel => exact ⟨by rw [en]; rfl, _, rfl⟩
        · clear hisp
          by_cases h3 : c = 3
          · subst h3
            have b9 : (kd 3 == 9) = true := by decide
            go_wp2_with fail
            go_meet
            case rel => exact ⟨rfl, 0, rfl⟩
          · have b9 : (kd c == 9) = false := by rw [beq_eq_false_iff_ne]; exact kd_ne9 hc15 h3
            by_cases h0 : c = 0
            · subst h0
              have b38 : (kd 0 != 38) = false := by decide
              clear h3
              go_wp2_with fail
              go_meet
              case rel => exact ⟨rfl, 0, rfl⟩
            · have b38 : (kd c != 38) = true := by rw [bne_iff_ne]; exact kd_ne38 hc15 h0
              have en : nx 1 c = 3 := by unfold nx; rw [if_neg (by omega), if_pos rfl, if_neg h3, if_neg h0]
              clear h3 h0
              go_wp2_with fail
              go_meet
              case rel => exact ⟨by rw [en]; rfl, 0, rfl⟩
        · have en : nx sn c = sn := nx_fix (by omega) c
          have q6 : ¬ (sn : Int) < 2 := by omega
          have q7 : decide ((sn : Int) < 2) = false := by simp; omega
          clear hisp
          go_wp2_with fail
          go_meet
          case rel => exact ⟨by rw [en], 0, rfl⟩
      case rest =>
        obtain ⟨rfl, m, rfl⟩ := hcut
        have hc15 := kl_lt z (ix + k)
        have HSC := Lib.hid (II1.out.2.2.1.trans (SC_eq (kl z) n sn st (ix + k)))
        have I2 := Lib.hid (II1.out.drewN m)
        have c2 : (W1.drewN m).cell? ⟨gp, 42, none⟩ = some (.int .i64 ix) := c2
        have d3 : (W1.drewN m).cell? ⟨gt, 3, none⟩ = some (.int .u8 (kd (kl z (ix + k)))) := d3
        have hs3 : nx sn (kl z (ix + k)) ≤ 3 := nx_le hsn _
        clear II1 HPX d0 c3 HPP
        generalize W1.drewN m = W2 at *
        generalize nx sn (kl z (ix + k)) = s' at *
        cases st with
        | nil =>
          rcases fifteen hc15 with hc | hc | hc | hc | hc | hc | hc | hc | hc | hc | hc | hc | hc | hc | hc
          · as_aux_lemma =>
              have hkd : kd (kl z (ix + k)) = 38 := by rw [hc]; rfl
              rw [hkd] at d3
              rw [hc] at HSC
              clear hc hkd
              have EN : Hid (SC (kl z) n 0 [] ix = SC (kl z) n s' ([]) (ix + (k + 1))) := by
                apply Lib.hid
                have x1 : ¬ (0 = 4 ∧ ([] : List Nat) = []) := by simp
                have x2 : ¬ (0 = 10 ∧ ([] : List Nat) = [] ∧ s' ≠ 2) := by simp
                have x3 : ¬ (0 = 11 ∧ ([] : List Nat).head? ≠ some 11) := by simp
                have x4 : stk ([]) 0 = [] := by simp [stk, cl]
                rw [HSC.out, if_pos hin, if_neg x1, if_neg x2, if_neg x3, x4]
                rfl
              have I3 : Hid (Inv w z n ix W2 u5 s' ([]) (k + 1)) := Lib.hid ⟨I2.out.1, I2.out.2.1, EN.out, I2.out.2.2.2.1, Nat.le_succ_of_le I2.out.2.2.2.2⟩
              have HO := Lib.hid I2.out.1
              obtain ⟨gs, cap, rfl⟩ := own_nil HO.out
              clear HO
              go_wp2_with fail
              go_roundg g'
              case measure => omega
              case rel => exact ⟨k + 1, s', [], rfl, by go_num, by omega, by omega, hs3, I3⟩
          · as_aux_lemma =>
              have hkd : kd (kl z (ix + k)) = 29 := by rw [hc]; rfl
              rw [hkd] at d3
              rw [hc] at HSC
              clear hc hkd
              have EN : Hid (SC (kl z) n 0 [] ix = SC (kl z) n s' ([]) (ix + (k + 1))) := by
                apply Lib.hid
                have x1 : ¬ (1 = 4 ∧ ([] : List Nat) = []) := by simp
                have x2 : ¬ (1 = 10 ∧ ([] : List Nat) = [] ∧ s' ≠ 2) := by simp
                have x3 : ¬ (1 = 11 ∧ ([] : List Nat).head? ≠ some 11) := by simp
                have x4 : stk ([]) 1 = [] := by simp [stk, cl]
                rw [HSC.out, if_pos hin, if_neg x1, if_neg x2, if_neg x3, x4]
                rfl
              have I3 : Hid (Inv w z n ix W2 u5 s' ([]) (k + 1)) := Lib.hid ⟨I2.out.1, I2.out.2.1, EN.out, I2.out.2.2.2.1, Nat.le_succ_of_le I2.out.2.2.2.2⟩
              have HO := Lib.hid I2.out.1
              obtain ⟨gs, cap, rfl⟩ := own_nil HO.out
              clear HO
              go_wp2_with fail
              go_roundg g'
              case measure => omega
              case rel => exact ⟨k + 1, s', [], rfl, by go_num, by omega, by omega, hs3, I3⟩
          · as_aux_lemma =>
              have hkd : kd (kl z (ix + k)) = 29 := by rw [hc]; rfl
              rw [hkd] at d3
              rw [hc] at HSC
              clear hc hkd
              have EN : Hid (SC (kl z) n 0 [] ix = SC (kl z) n s' ([]) (ix + (k + 1))) := by
                apply Lib.hid
                have x1 : ¬ (2 = 4 ∧ ([] : List Nat) = []) := by simp
                have x2 : ¬ (2 = 10 ∧ ([] : List Nat) = [] ∧ s' ≠ 2) := by simp
                have x3 : ¬ (2 = 11 ∧ ([] : List Nat).head? ≠ some 11) := by simp
                have x4 : stk ([]) 2 = [] := by simp [stk, cl]
                rw [HSC.out, if_pos hin, if_neg x1, if_neg x2, if_neg x3, x4]
                rfl
              have I3 : Hid (Inv w z n ix W2 u5 s' ([]) (k + 1)) := Lib.hid ⟨I2.out.1, I2.out.2.1, EN.out, I2.out.2.2.2.1, Nat.le_succ_of_le I2.out.2.2.2.2⟩
              have HO := Lib.hid I2.out.1
              obtain ⟨gs, cap, rfl⟩ := own_nil HO.out
              clear HO
              go_wp2_with fail
              go_roundg g'
              case measure => omega
              case rel => exact ⟨k + 1, s', [], rfl, by go_num, by omega, by omega, hs3, I3⟩
          · as_aux_lemma =>
              have hkd : kd (kl z (ix + k)) = 9 := by rw [hc]; rfl
              rw [hkd] at d3
              rw [hc] at HSC
              clear hc hkd
              have EN : Hid (SC (kl z) n 0 [] ix = SC (kl z) n s' ([]) (ix + (k + 1))) := by
                apply Lib.hid
                have x1 : ¬ (3 = 4 ∧ ([] : List Nat) = []) := by simp
                have x2 : ¬ (3 = 10 ∧ ([] : List Nat) = [] ∧ s' ≠ 2) := by simp
                have x3 : ¬ (3 = 11 ∧ ([] : List Nat).head? ≠ some 11) := by simp
                have x4 : stk ([]) 3 = [] := by simp [stk, cl]
                rw [HSC.out, if_pos hin, if_neg x1, if_neg x2, if_neg x3, x4]
                rfl
              have I3 : Hid (Inv w z n ix W2 u5 s' ([]) (k + 1)) := Lib.hid ⟨I2.out.1, I2.out.2.1, EN.out, I2.out.2.2.2.1, Nat.le_succ_of_le I2.out.2.2.2.2⟩
              have HO := Lib.hid I2.out.1
              obtain ⟨gs, cap, rfl⟩ := own_nil HO.out
              clear HO
              go_wp2_with fail
              go_roundg g'
              case measure => omega
              case rel => exact ⟨k + 1, s', [], rfl, by go_num, by omega, by omega, hs3, I3⟩
          · as_aux_lemma =>
              have hkd : kd (kl z (ix + k)) = 35 := by rw [hc]; rfl
              rw [hkd] at d3
              rw [hc] at HSC
              clear hc hkd
              have EE : Hid (SC (kl z) n 0 [] ix = (1, ((ix + k : Nat) : Int))) := by
                apply Lib.hid
                rw [HSC.out, if_pos hin, if_pos (by simp)]
              have HO := Lib.hid I2.out.1
              obtain ⟨gs, cap, rfl⟩ := own_nil HO.out
              clear HO
              have BB := Lib.hid I2.out.2.1
              go_wp2_with fail
              go_quiet (fail)
              go_wp2_with fail
              go_ret2
              exact ⟨by rw [EE.out]; rfl, below_drewN BB.out _⟩
          · as_aux_lemma =>
              have hkd : kd (kl z (ix + k)) = 27 := by rw [hc]; rfl
              rw [hkd] at d3
              rw [hc] at HSC
              clear hc hkd
              have EN : Hid (SC (kl z) n 0 [] ix = SC (kl z) n s' (7 :: []) (ix + (k + 1))) := by
                apply Lib.hid
                have x1 : ¬ (5 = 4 ∧ ([] : List Nat) = []) := by simp
                have x2 : ¬ (5 = 10 ∧ ([] : List Nat) = [] ∧ s' ≠ 2) := by simp
                have x3 : ¬ (5 = 11 ∧ ([] : List Nat).head? ≠ some 11) := by simp
                have x4 : stk ([]) 5 = 7 :: [] := by simp [stk, cl]
                rw [HSC.out, if_pos hin, if_neg x1, if_neg x2, if_neg x3, x4]
                rfl
              have HO := Lib.hid I2.out.1
              have hlen : (sv ([])).length ≤ 1099511627776 := by rw [sv_len]; have := I2.out.2.2.2.2; omega
              obtain ⟨gs, cap, rfl⟩ := own_nil HO.out
              go_wp2_with (at_builtin; refine wpList_own _ rfl (.tmp 75) (.tmp 76) 73 rfl w.heap.size 39 i39 (.int .u8 0) Try.underlying73 hi39 hz390 hz391 (by rw [hz392]; decide) rfl _ _ rfl (HO.out.alloc _) ⟨W2.heap.size, 0, none⟩ 1 (.int .u8 8) rfl (by simp [go_sem]) rfl hlen ?_)
              · intro v' w' hO hG hB
                have hO' : Own w' w.heap.size v' (sv (7 :: [])) := by rw [← sv_push]; exact hO
                have H4 := below_grown (I2.out.2.1.alloc I2.out.2.1.size _) hG (fun q hq => (HO.out.lt q hq).1) (by have := I2.out.2.1.size; simp; omega)
                have I3 : Hid (Inv w z n ix w' v' s' (7 :: []) (k + 1)) := Lib.hid ⟨hO', H4, EN.out, (all_cons (by omega) I2.out.2.2.2.1), Nat.succ_le_succ I2.out.2.2.2.2⟩
                clear hO hG hB hO' H4 HO
                go_wp2_with fail
                go_roundg g'
                case measure => omega
                case rel => exact ⟨k + 1, s', 7 :: [], rfl, by go_num, by omega, by omega, hs3, I3⟩
          · as_aux_lemma =>
              have hkd : kd (kl z (ix + k)) = 33 := by rw [hc]; rfl
              rw [hkd] at d3
              rw [hc] at HSC
              clear hc hkd
              have EN : Hid (SC (kl z) n 0 [] ix = SC (kl z) n s' (7 :: []) (ix + (k + 1))) := by
                apply Lib.hid
                have x1 : ¬ (6 = 4 ∧ ([] : List Nat) = []) := by simp
                have x2 : ¬ (6 = 10 ∧ ([] : List Nat) = [] ∧ s' ≠ 2) := by simp
                have x3 : ¬ (6 = 11 ∧ ([] : List Nat).head? ≠ some 11) := by simp
                have x4 : stk ([]) 6 = 7 :: [] := by simp [stk, cl]
                rw [HSC.out, if_pos hin, if_neg x1, if_neg x2, if_neg x3, x4]
                rfl
              have HO := Lib.hid I2.out.1
              have hlen : (sv ([])).length ≤ 1099511627776 := by rw [sv_len]; have := I2.out.2.2.2.2; omega
              obtain ⟨gs, cap, rfl⟩ := own_nil HO.out
              go_wp2_with (at_builtin; refine wpList_own _ rfl (.tmp 75) (.tmp 76) 73 rfl w.heap.size 39 i39 (.int .u8 0) Try.underlying73 hi39 hz390 hz391 (by rw [hz392]; decide) rfl _ _ rfl (HO.out.alloc _) ⟨W2.heap.size, 0, none⟩ 1 (.int .u8 8) rfl (by simp [go_sem]) rfl hlen ?_)
              · intro v' w' hO hG hB
                have hO' : Own w' w.heap.size v' (sv (7 :: [])) := by rw [← sv_push]; exact hO
                have H4 := below_grown (I2.out.2.1.alloc I2.out.2.1.size _) hG (fun q hq => (HO.out.lt q hq).1) (by have := I2.out.2.1.size; simp; omega)
                have I3 : Hid (Inv w z n ix w' v' s' (7 :: []) (k + 1)) := Lib.hid ⟨hO', H4, EN.out, (all_cons (by omega) I2.out.2.2.2.1), Nat.succ_le_succ I2.out.2.2.2.2⟩
                clear hO hG hB hO' H4 HO
                go_wp2_with fail
                go_roundg g'
                case measure => omega
                case rel => exact ⟨k + 1, s', 7 :: [], rfl, by go_num, by omega, by omega, hs3, I3⟩
          · as_aux_lemma =>
              have hkd : kd (kl z (ix + k)) = 8 := by rw [hc]; rfl
              rw [hkd] at d3
              rw [hc] at HSC
              clear hc hkd
              have EN : Hid (SC (kl z) n 0 [] ix = SC (kl z) n s' ([]) (ix + (k + 1))) := by
                apply Lib.hid
                have x1 : ¬ (7 = 4 ∧ ([] : List Nat) = []) := by simp
                have x2 : ¬ (7 = 10 ∧ ([] : List Nat) = [] ∧ s' ≠ 2) := by simp
                have x3 : ¬ (7 = 11 ∧ ([] : List Nat).head? ≠ some 11) := by simp
                have x4 : stk ([]) 7 = [] := by simp [stk, cl]
                rw [HSC.out, if_pos hin, if_neg x1, if_neg x2, if_neg x3, x4]
                rfl
              have I3 : Hid (Inv w z n ix W2 u5 s' ([]) (k + 1)) := Lib.hid ⟨I2.out.1, I2.out.2.1, EN.out, I2.out.2.2.2.1, Nat.le_succ_of_le I2.out.2.2.2.2⟩
              have HO := Lib.hid I2.out.1
              obtain ⟨gs, cap, rfl⟩ := own_nil HO.out
              clear HO
              go_wp2_with fail
              go_quiet (fail)
              go_wp2_with fail
              go_roundg g'
              case measure => omega
              case rel => exact ⟨k + 1, s', [], rfl, by go_num, by omega, by omega, hs3, Lib.hid (I3.out.drewN _)⟩
          · as_aux_lemma =>
              have hkd : kd (kl z (ix + k)) = 32 := by rw [hc]; rfl
              rw [hkd] at d3
              rw [hc] at HSC
              clear hc hkd
              have EN : Hid (SC (kl z) n 0 [] ix = SC (kl z) n s' (9 :: []) (ix + (k + 1))) := by
                apply Lib.hid
                have x1 : ¬ (8 = 4 ∧ ([] : List Nat) = []) := by simp
                have x2 : ¬ (8 = 10 ∧ ([] : List Nat) = [] ∧ s' ≠ 2) := by simp
                have x3 : ¬ (8 = 11 ∧ ([] : List Nat).head? ≠ some 11) := by simp
                have x4 : stk ([]) 8 = 9 :: [] := by simp [stk, cl]
                rw [HSC.out, if_pos hin, if_neg x1, if_neg x2, if_neg x3, x4]
                rfl
              have HO := Lib.hid I2.out.1
              have hlen : (sv ([])).length ≤ 1099511627776 := by rw [sv_len]; have := I2.out.2.2.2.2; omega
              obtain ⟨gs, cap, rfl⟩ := own_nil HO.out
              go_wp2_with (at_builtin; refine wpList_own _ rfl (.tmp 80) (.tmp 81) 73 rfl w.heap.size 39 i39 (.int .u8 0) Try.underlying73 hi39 hz390 hz391 (by rw [hz392]; decide) rfl _ _ rfl (HO.out.alloc _) ⟨W2.heap.size, 0, none⟩ 1 (.int .u8 7) rfl (by simp [go_sem]) rfl hlen ?_)
              · intro v' w' hO hG hB
                have hO' : Own w' w.heap.size v' (sv (9 :: [])) := by rw [← sv_push]; exact hO
                have H4 := below_grown (I2.out.2.1.alloc I2.out.2.1.size _) hG (fun q hq => (HO.out.lt q hq).1) (by have := I2.out.2.1.size; simp; omega)
                have I3 : Hid (Inv w z n ix w' v' s' (9 :: []) (k + 1)) := Lib.hid ⟨hO', H4, EN.out, (all_cons (by omega) I2.out.2.2.2.1), Nat.succ_le_succ I2.out.2.2.2.2⟩
                clear hO hG hB hO' H4 HO
                go_wp2_with fail
                go_roundg g'
                case measure => omega
                case rel => exact ⟨k + 1, s', 9 :: [], rfl, by go_num, by omega, by omega, hs3, I3⟩
          · as_aux_lemma =>
              have hkd : kd (kl z (ix + k)) = 7 := by rw [hc]; rfl
              rw [hkd] at d3
              rw [hc] at HSC
              clear hc hkd
              have EN : Hid (SC (kl z) n 0 [] ix = SC (kl z) n s' ([]) (ix + (k + 1))) := by
                apply Lib.hid
                have x1 : ¬ (9 = 4 ∧ ([] : List Nat) = []) := by simp
                have x2 : ¬ (9 = 10 ∧ ([] : List Nat) = [] ∧ s' ≠ 2) := by simp
                have x3 : ¬ (9 = 11 ∧ ([] : List Nat).head? ≠ some 11) := by simp
                have x4 : stk ([]) 9 = [] := by simp [stk, cl]
                rw [HSC.out, if_pos hin, if_neg x1, if_neg x2, if_neg x3, x4]
                rfl
              have I3 : Hid (Inv w z n ix W2 u5 s' ([]) (k + 1)) := Lib.hid ⟨I2.out.1, I2.out.2.1, EN.out, I2.out.2.2.2.1, Nat.le_succ_of_le I2.out.2.2.2.2⟩
              have HO := Lib.hid I2.out.1
              obtain ⟨gs, cap, rfl⟩ := own_nil HO.out
              clear HO
              go_wp2_with fail
              go_quiet (fail)
              go_wp2_with fail
              go_roundg g'
              case measure => omega
              case rel => exact ⟨k + 1, s', [], rfl, by go_num, by omega, by omega, hs3, Lib.hid (I3.out.drewN _)⟩
          · as_aux_lemma =>
              by_cases hs2 : s' = 2
              · have hkd : kd (kl z (ix + k)) = 31 := by rw [hc]; rfl
                rw [hkd] at d3
                rw [hc] at HSC
                clear hc hkd
                have EN : Hid (SC (kl z) n 0 [] ix = SC (kl z) n s' (11 :: []) (ix + (k + 1))) := by
                  apply Lib.hid
                  have x1 : ¬ (10 = 4 ∧ ([] : List Nat) = []) := by simp
                  have x2 : ¬ (10 = 10 ∧ ([] : List Nat) = [] ∧ s' ≠ 2) := by rintro ⟨-, -, h⟩; exact h hs2
                  have x3 : ¬ (10 = 11 ∧ ([] : List Nat).head? ≠ some 11) := by simp
                  have x4 : stk ([]) 10 = 11 :: [] := by simp [stk, cl]
                  rw [HSC.out, if_pos hin, if_neg x1, if_neg x2, if_neg x3, x4]
                  rfl
                have HO := Lib.hid I2.out.1
                have hlen : (sv ([])).length ≤ 1099511627776 := by rw [sv_len]; have := I2.out.2.2.2.2; omega
                obtain ⟨gs, cap, rfl⟩ := own_nil HO.out
                have g5 : (((s' : Nat) : Int) != 2) = false := by rw [bne_eq_false_iff_eq]; omega
                clear hs2
                go_wp2_with (at_builtin; refine wpList_own _ rfl (.tmp 98) (.tmp 99) 73 rfl w.heap.size 39 i39 (.int .u8 0) Try.underlying73 hi39 hz390 hz391 (by rw [hz392]; decide) rfl _ _ rfl (HO.out.alloc _) ⟨W2.heap.size, 0, none⟩ 1 (.int .u8 6) rfl (by simp [go_sem]) rfl hlen ?_)
                · intro v' w' hO hG hB
                  have hO' : Own w' w.heap.size v' (sv (11 :: [])) := by rw [← sv_push]; exact hO
                  have H4 := below_grown (I2.out.2.1.alloc I2.out.2.1.size _) hG (fun q hq => (HO.out.lt q hq).1) (by have := I2.out.2.1.size; simp; omega)
                  have I3 : Hid (Inv w z n ix w' v' s' (11 :: []) (k + 1)) := Lib.hid ⟨hO', H4, EN.out, (all_cons (by omega) I2.out.2.2.2.1), Nat.succ_le_succ I2.out.2.2.2.2⟩
                  clear hO hG hB hO' H4 HO
                  go_wp2_with fail
                  go_roundg g'
                  case measure => omega
                  case rel => exact ⟨k + 1, s', 11 :: [], rfl, by go_num, by omega, by omega, hs3, I3⟩
              · have hkd : kd (kl z (ix + k)) = 31 := by rw [hc]; rfl
                rw [hkd] at d3
                rw [hc] at HSC
                clear hc hkd
                have EE : Hid (SC (kl z) n 0 [] ix = (2, ((ix + k : Nat) : Int))) := by
                  apply Lib.hid
                  rw [HSC.out, if_pos hin, if_neg (by simp), if_pos ⟨rfl, rfl, hs2⟩]
                have HO := Lib.hid I2.out.1
                obtain ⟨gs, cap, rfl⟩ := own_nil HO.out
                clear HO
                have BB := Lib.hid I2.out.2.1
                have g5 : (((s' : Nat) : Int) != 2) = true := by rw [bne_iff_ne]; omega
                clear hs2
                go_wp2_with fail
                go_quiet (fail)
                go_wp2_with fail
                go_ret2
                exact ⟨by rw [EE.out]; rfl, below_drewN BB.out _⟩
          · as_aux_lemma =>
              have hkd : kd (kl z (ix + k)) = 6 := by rw [hc]; rfl
              rw [hkd] at d3
              rw [hc] at HSC
              clear hc hkd
              have EE : Hid (SC (kl z) n 0 [] ix = (0, -1)) := by
                apply Lib.hid
                rw [HSC.out, if_pos hin, if_neg (by simp), if_neg (by simp), if_pos (by simp)]
              have HO := Lib.hid I2.out.1
              obtain ⟨gs, cap, rfl⟩ := own_nil HO.out
              clear HO
              have BB := Lib.hid I2.out.2.1
              go_wp2_with fail
              go_quiet (fail)
              go_wp2_with fail
              go_ret2
              exact ⟨by rw [EE.out]; rfl, below_drewN BB.out _⟩
          · as_aux_lemma =>
              have hkd : kd (kl z (ix + k)) = 10 := by rw [hc]; rfl
              rw [hkd] at d3
              rw [hc] at HSC
              clear hc hkd
              have EN : Hid (SC (kl z) n 0 [] ix = SC (kl z) n s' ([]) (ix + (k + 1))) := by
                apply Lib.hid
                have x1 : ¬ (12 = 4 ∧ ([] : List Nat) = []) := by simp
                have x2 : ¬ (12 = 10 ∧ ([] : List Nat) = [] ∧ s' ≠ 2) := by simp
                have x3 : ¬ (12 = 11 ∧ ([] : List Nat).head? ≠ some 11) := by simp
                have x4 : stk ([]) 12 = [] := by simp [stk, cl]
                rw [HSC.out, if_pos hin, if_neg x1, if_neg x2, if_neg x3, x4]
                rfl
              have I3 : Hid (Inv w z n ix W2 u5 s' ([]) (k + 1)) := Lib.hid ⟨I2.out.1, I2.out.2.1, EN.out, I2.out.2.2.2.1, Nat.le_succ_of_le I2.out.2.2.2.2⟩
              have HO := Lib.hid I2.out.1
              obtain ⟨gs, cap, rfl⟩ := own_nil HO.out
              clear HO
              go_wp2_with fail
              go_roundg g'
              case measure => omega
              case rel => exact ⟨k + 1, s', [], rfl, by go_num, by omega, by omega, hs3, I3⟩
          · as_aux_lemma =>
              have hkd : kd (kl z (ix + k)) = 29 := by rw [hc]; rfl
              rw [hkd] at d3
              rw [hc] at HSC
              clear hc hkd
              have EN : Hid (SC (kl z) n 0 [] ix = SC (kl z) n s' ([]) (ix + (k + 1))) := by
                apply Lib.hid
                have x1 : ¬ (13 = 4 ∧ ([] : List Nat) = []) := by simp
                have x2 : ¬ (13 = 10 ∧ ([] : List Nat) = [] ∧ s' ≠ 2) := by simp
                have x3 : ¬ (13 = 11 ∧ ([] : List Nat).head? ≠ some 11) := by simp
                have x4 : stk ([]) 13 = [] := by simp [stk, cl]
                rw [HSC.out, if_pos hin, if_neg x1, if_neg x2, if_neg x3, x4]
                rfl
              have I3 : Hid (Inv w z n ix W2 u5 s' ([]) (k + 1)) := Lib.hid ⟨I2.out.1, I2.out.2.1, EN.out, I2.out.2.2.2.1, Nat.le_succ_of_le I2.out.2.2.2.2⟩
              have HO := Lib.hid I2.out.1
              obtain ⟨gs, cap, rfl⟩ := own_nil HO.out
              clear HO
              go_wp2_with fail
              go_roundg g'
              case measure => omega
              case rel => exact ⟨k + 1, s', [], rfl, by go_num, by omega, by omega, hs3, I3⟩
          · as_aux_lemma =>
              have hkd : kd (kl z (ix + k)) = 19 := by rw [hc]; rfl
              rw [hkd] at d3
              rw [hc] at HSC
              clear hc hkd
              have EN : Hid (SC (kl z) n 0 [] ix = SC (kl z) n s' ([]) (ix + (k + 1))) := by
                apply Lib.hid
                have x1 : ¬ (14 = 4 ∧ ([] : List Nat) = []) := by simp
                have x2 : ¬ (14 = 10 ∧ ([] : List Nat) = [] ∧ s' ≠ 2) := by simp
                have x3 : ¬ (14 = 11 ∧ ([] : List Nat).head? ≠ some 11) := by simp
                have x4 : stk ([]) 14 = [] := by simp [stk, cl]
                rw [HSC.out, if_pos hin, if_neg x1, if_neg x2, if_neg x3, x4]
                rfl
              have I3 : Hid (Inv w z n ix W2 u5 s' ([]) (k + 1)) := Lib.hid ⟨I2.out.1, I2.out.2.1, EN.out, I2.out.2.2.2.1, Nat.le_succ_of_le I2.out.2.2.2.2⟩
              have HO := Lib.hid I2.out.1
              obtain ⟨gs, cap, rfl⟩ := own_nil HO.out
              clear HO
              go_wp2_with fail
              go_roundg g'
              case measure => omega
              case rel => exact ⟨k + 1, s', [], rfl, by go_num, by omega, by omega, hs3, I3⟩
        | cons x st1 =>
          have hx := I2.out.2.2.2.1 x (List.mem_cons_self ..)
          rcases fifteen hc15 with hc | hc | hc | hc | hc | hc | hc | hc | hc | hc | hc | hc | hc | hc | hc
          · as_aux_lemma =>
              have hkd : kd (kl z (ix + k)) = 38 := by rw [hc]; rfl
              rw [hkd] at d3
              rw [hc] at HSC
              clear hc hkd
              have EN : Hid (SC (kl z) n 0 [] ix = SC (kl z) n s' (x :: st1) (ix + (k + 1))) := by
                apply Lib.hid
                have x1 : ¬ (0 = 4 ∧ (x :: st1 : List Nat) = []) := by simp
                have x2 : ¬ (0 = 10 ∧ (x :: st1 : List Nat) = [] ∧ s' ≠ 2) := by simp
                have x3 : ¬ (0 = 11 ∧ (x :: st1 : List Nat).head? ≠ some 11) := by simp
                have x4 : stk (x :: st1) 0 = x :: st1 := by simp [stk, cl]
                rw [HSC.out, if_pos hin, if_neg x1, if_neg x2, if_neg x3, x4]
                rfl
              have I3 : Hid (Inv w z n ix W2 u5 s' (x :: st1) (k + 1)) := Lib.hid ⟨I2.out.1, I2.out.2.1, EN.out, I2.out.2.2.2.1, Nat.le_succ_of_le I2.out.2.2.2.2⟩
              have HO := Lib.hid I2.out.1
              obtain ⟨gs, cap, rfl, hgs, -, hcap, hcm, hcc⟩ := HO.out.cells
              clear HO
              clear hcc
              go_wp2_with fail
              go_roundg g'
              case measure => omega
              case rel => exact ⟨k + 1, s', x :: st1, rfl, by go_num, by omega, by omega, hs3, I3⟩
          · as_aux_lemma =>
              have hkd : kd (kl z (ix + k)) = 29 := by rw [hc]; rfl
              rw [hkd] at d3
              rw [hc] at HSC
              clear hc hkd
              have EN : Hid (SC (kl z) n 0 [] ix = SC (kl z) n s' (x :: st1) (ix + (k + 1))) := by
                apply Lib.hid
                have x1 : ¬ (1 = 4 ∧ (x :: st1 : List Nat) = []) := by simp
                have x2 : ¬ (1 = 10 ∧ (x :: st1 : List Nat) = [] ∧ s' ≠ 2) := by simp
                have x3 : ¬ (1 = 11 ∧ (x :: st1 : List Nat).head? ≠ some 11) := by simp
                have x4 : stk (x :: st1) 1 = x :: st1 := by simp [stk, cl]
                rw [HSC.out, if_pos hin, if_neg x1, if_neg x2, if_neg x3, x4]
                rfl
              have I3 : Hid (Inv w z n ix W2 u5 s' (x :: st1) (k + 1)) := Lib.hid ⟨I2.out.1, I2.out.2.1, EN.out, I2.out.2.2.2.1, Nat.le_succ_of_le I2.out.2.2.2.2⟩
              have HO := Lib.hid I2.out.1
              obtain ⟨gs, cap, rfl, hgs, -, hcap, hcm, hcc⟩ := HO.out.cells
              clear HO
              clear hcc
              go_wp2_with fail
              go_roundg g'
              case measure => omega
              case rel => exact ⟨k + 1, s', x :: st1, rfl, by go_num, by omega, by omega, hs3, I3⟩
          · as_aux_lemma =>
              have hkd : kd (kl z (ix + k)) = 29 := by rw [hc]; rfl
              rw [hkd] at d3
              rw [hc] at HSC
              clear hc hkd
              have EN : Hid (SC (kl z) n 0 [] ix = SC (kl z) n s' (x :: st1) (ix + (k + 1))) := by
                apply Lib.hid
                have x1 : ¬ (2 = 4 ∧ (x :: st1 : List Nat) = []) := by simp
                have x2 : ¬ (2 = 10 ∧ (x :: st1 : List Nat) = [] ∧ s' ≠ 2) := by simp
                have x3 : ¬ (2 = 11 ∧ (x :: st1 : List Nat).head? ≠ some 11) := by simp
                have x4 : stk (x :: st1) 2 = x :: st1 := by simp [stk, cl]
                rw [HSC.out, if_pos hin, if_neg x1, if_neg x2, if_neg x3, x4]
                rfl
              have I3 : Hid (Inv w z n ix W2 u5 s' (x :: st1) (k + 1)) := Lib.hid ⟨I2.out.1, I2.out.2.1, EN.out, I2.out.2.2.2.1, Nat.le_succ_of_le I2.out.2.2.2.2⟩
              have HO := Lib.hid I2.out.1
              obtain ⟨gs, cap, rfl, hgs, -, hcap, hcm, hcc⟩ := HO.out.cells
              clear HO
              clear hcc
              go_wp2_with fail
              go_roundg g'
              case measure => omega
              case rel => exact ⟨k + 1, s', x :: st1, rfl, by go_num, by omega, by omega, hs3, I3⟩
          · as_aux_lemma =>
              have hkd : kd (kl z (ix + k)) = 9 := by rw [hc]; rfl
              rw [hkd] at d3
              rw [hc] at HSC
              clear hc hkd
              have EN : Hid (SC (kl z) n 0 [] ix = SC (kl z) n s' (x :: st1) (ix + (k + 1))) := by
                apply Lib.hid
                have x1 : ¬ (3 = 4 ∧ (x :: st1 : List Nat) = []) := by simp
                have x2 : ¬ (3 = 10 ∧ (x :: st1 : List Nat) = [] ∧ s' ≠ 2) := by simp
                have x3 : ¬ (3 = 11 ∧ (x :: st1 : List Nat).head? ≠ some 11) := by simp
                have x4 : stk (x :: st1) 3 = x :: st1 := by simp [stk, cl]
                rw [HSC.out, if_pos hin, if_neg x1, if_neg x2, if_neg x3, x4]
                rfl
              have I3 : Hid (Inv w z n ix W2 u5 s' (x :: st1) (k + 1)) := Lib.hid ⟨I2.out.1, I2.out.2.1, EN.out, I2.out.2.2.2.1, Nat.le_succ_of_le I2.out.2.2.2.2⟩
              have HO := Lib.hid I2.out.1
              obtain ⟨gs, cap, rfl, hgs, -, hcap, hcm, hcc⟩ := HO.out.cells
              clear HO
              clear hcc
              go_wp2_with fail
              go_roundg g'
              case measure => omega
              case rel => exact ⟨k + 1, s', x :: st1, rfl, by go_num, by omega, by omega, hs3, I3⟩
          · as_aux_lemma =>
              have hkd : kd (kl z (ix + k)) = 35 := by rw [hc]; rfl
              rw [hkd] at d3
              rw [hc] at HSC
              clear hc hkd
              have EN : Hid (SC (kl z) n 0 [] ix = SC (kl z) n s' (x :: st1) (ix + (k + 1))) := by
                apply Lib.hid
                have x1 : ¬ (4 = 4 ∧ (x :: st1 : List Nat) = []) := by simp
                have x2 : ¬ (4 = 10 ∧ (x :: st1 : List Nat) = [] ∧ s' ≠ 2) := by simp
                have x3 : ¬ (4 = 11 ∧ (x :: st1 : List Nat).head? ≠ some 11) := by simp
                have x4 : stk (x :: st1) 4 = x :: st1 := by simp [stk, cl]
                rw [HSC.out, if_pos hin, if_neg x1, if_neg x2, if_neg x3, x4]
                rfl
              have I3 : Hid (Inv w z n ix W2 u5 s' (x :: st1) (k + 1)) := Lib.hid ⟨I2.out.1, I2.out.2.1, EN.out, I2.out.2.2.2.1, Nat.le_succ_of_le I2.out.2.2.2.2⟩
              have HO := Lib.hid I2.out.1
              obtain ⟨gs, cap, rfl, hgs, -, hcap, hcm, hcc⟩ := HO.out.cells
              clear HO
              rw [show (sv (x :: st1)).length = (sv st1).length + 1 by rw [sv_len, sv_len]; rfl] at *
              generalize (sv st1).length = L at *
              have g3 : (((L + 1 : Nat) : Int) == 0) = false := by rw [beq_eq_false_iff_ne]; omega
              have g4 : ((L : Int) + 1 == 0) = false := by rw [beq_eq_false_iff_ne]; omega
              clear hcc
              go_wp2_with fail
              go_roundg g'
              case measure => omega
              case rel => exact ⟨k + 1, s', x :: st1, rfl, by go_num, by omega, by omega, hs3, I3⟩
          · as_aux_lemma =>
              have hkd : kd (kl z (ix + k)) = 27 := by rw [hc]; rfl
              rw [hkd] at d3
              rw [hc] at HSC
              clear hc hkd
              have EN : Hid (SC (kl z) n 0 [] ix = SC (kl z) n s' (7 :: x :: st1) (ix + (k + 1))) := by
                apply Lib.hid
                have x1 : ¬ (5 = 4 ∧ (x :: st1 : List Nat) = []) := by simp
                have x2 : ¬ (5 = 10 ∧ (x :: st1 : List Nat) = [] ∧ s' ≠ 2) := by simp
                have x3 : ¬ (5 = 11 ∧ (x :: st1 : List Nat).head? ≠ some 11) := by simp
                have x4 : stk (x :: st1) 5 = 7 :: x :: st1 := by simp [stk, cl]
                rw [HSC.out, if_pos hin, if_neg x1, if_neg x2, if_neg x3, x4]
                rfl
              have HO := Lib.hid I2.out.1
              have hlen : (sv (x :: st1)).length ≤ 1099511627776 := by rw [sv_len]; have := I2.out.2.2.2.2; omega
              obtain ⟨gs, cap, rfl, hgs, -, hcap, hcm, -⟩ := HO.out.cells
              go_wp2_with (at_builtin; refine wpList_own _ rfl (.tmp 75) (.tmp 76) 73 rfl w.heap.size 39 i39 (.int .u8 0) Try.underlying73 hi39 hz390 hz391 (by rw [hz392]; decide) rfl _ _ rfl (HO.out.alloc _) ⟨W2.heap.size, 0, none⟩ 1 (.int .u8 8) rfl (by simp [go_sem]) rfl hlen ?_)
              · intro v' w' hO hG hB
                have hO' : Own w' w.heap.size v' (sv (7 :: x :: st1)) := by rw [← sv_push]; exact hO
                have H4 := below_grown (I2.out.2.1.alloc I2.out.2.1.size _) hG (fun q hq => (HO.out.lt q hq).1) (by have := I2.out.2.1.size; simp; omega)
                have I3 : Hid (Inv w z n ix w' v' s' (7 :: x :: st1) (k + 1)) := Lib.hid ⟨hO', H4, EN.out, (all_cons (by omega) I2.out.2.2.2.1), Nat.succ_le_succ I2.out.2.2.2.2⟩
                clear hO hG hB hO' H4 HO
                go_wp2_with fail
                go_roundg g'
                case measure => omega
                case rel => exact ⟨k + 1, s', 7 :: x :: st1, rfl, by go_num, by omega, by omega, hs3, I3⟩
          · as_aux_lemma =>
              have hkd : kd (kl z (ix + k)) = 33 := by rw [hc]; rfl
              rw [hkd] at d3
              rw [hc] at HSC
              clear hc hkd
              have EN : Hid (SC (kl z) n 0 [] ix = SC (kl z) n s' (7 :: x :: st1) (ix + (k + 1))) := by
                apply Lib.hid
                have x1 : ¬ (6 = 4 ∧ (x :: st1 : List Nat) = []) := by simp
                have x2 : ¬ (6 = 10 ∧ (x :: st1 : List Nat) = [] ∧ s' ≠ 2) := by simp
                have x3 : ¬ (6 = 11 ∧ (x :: st1 : List Nat).head? ≠ some 11) := by simp
                have x4 : stk (x :: st1) 6 = 7 :: x :: st1 := by simp [stk, cl]
                rw [HSC.out, if_pos hin, if_neg x1, if_neg x2, if_neg x3, x4]
                rfl
              have HO := Lib.hid I2.out.1
              have hlen : (sv (x :: st1)).length ≤ 1099511627776 := by rw [sv_len]; have := I2.out.2.2.2.2; omega
              obtain ⟨gs, cap, rfl, hgs, -, hcap, hcm, -⟩ := HO.out.cells
              go_wp2_with (at_builtin; refine wpList_own _ rfl (.tmp 75) (.tmp 76) 73 rfl w.heap.size 39 i39 (.int .u8 0) Try.underlying73 hi39 hz390 hz391 (by rw [hz392]; decide) rfl _ _ rfl (HO.out.alloc _) ⟨W2.heap.size, 0, none⟩ 1 (.int .u8 8) rfl (by simp [go_sem]) rfl hlen ?_)
              · intro v' w' hO hG hB
                have hO' : Own w' w.heap.size v' (sv (7 :: x :: st1)) := by rw [← sv_push]; exact hO
                have H4 := below_grown (I2.out.2.1.alloc I2.out.2.1.size _) hG (fun q hq => (HO.out.lt q hq).1) (by have := I2.out.2.1.size; simp; omega)
                have I3 : Hid (Inv w z n ix w' v' s' (7 :: x :: st1) (k + 1)) := Lib.hid ⟨hO', H4, EN.out, (all_cons (by omega) I2.out.2.2.2.1), Nat.succ_le_succ I2.out.2.2.2.2⟩
                clear hO hG hB hO' H4 HO
                go_wp2_with fail
                go_roundg g'
                case measure => omega
                case rel => exact ⟨k + 1, s', 7 :: x :: st1, rfl, by go_num, by omega, by omega, hs3, I3⟩
          · as_aux_lemma =>
              by_cases hxc : x = 7
              · subst hxc
                have hkd : kd (kl z (ix + k)) = 8 := by rw [hc]; rfl
                rw [hkd] at d3
                rw [hc] at HSC
                clear hc hkd
                have EN : Hid (SC (kl z) n 0 [] ix = SC (kl z) n s' (st1) (ix + (k + 1))) := by
                  apply Lib.hid
                  have x1 : ¬ (7 = 4 ∧ (7 :: st1 : List Nat) = []) := by simp
                  have x2 : ¬ (7 = 10 ∧ (7 :: st1 : List Nat) = [] ∧ s' ≠ 2) := by simp
                  have x3 : ¬ (7 = 11 ∧ (7 :: st1 : List Nat).head? ≠ some 11) := by simp
                  have x4 : stk (7 :: st1) 7 = st1 := by simp [stk, cl]
                  rw [HSC.out, if_pos hin, if_neg x1, if_neg x2, if_neg x3, x4]
                  rfl
                have HO : Own W2 w.heap.size u5 (sv st1 ++ [Value.int .u8 (kd 7)]) := by rw [sv_push]; exact I2.out.1
                obtain ⟨gs, cap, rfl, hcap, hcm, htop, hpop⟩ := HO.pop
                have htop : W2.cell? ⟨gs, (sv st1).length, none⟩ = some (.int .u8 8) := htop
                have I3 : Hid (Inv w z n ix W2 (.slice (some ⟨gs, 0, none⟩) (sv st1).length cap) s' st1 (k + 1)) := Lib.hid ⟨hpop, I2.out.2.1, EN.out, (fun y hy => I2.out.2.2.2.1 y (List.mem_cons_of_mem _ hy)), by have := I2.out.2.2.2.2; simp at this; omega⟩
                clear HO hpop
                have hL : (sv st1).length ≤ 1048576 := by have h9 := I2.out.2.2.2.2; rw [sv_len]; simp at h9; omega
                generalize (sv st1).length = L at *
                have g1 : decide ((0 : Int) < (L : Int) + 1) = true := by rw [decide_eq_true_eq]; omega
                have g2 : (0 : Int) < (L : Int) + 1 := by omega
                go_wp2_with fail
                go_quiet (fail)
                go_wp2_with fail
                go_roundg g'
                case measure => omega
                case rel => exact ⟨k + 1, s', st1, rfl, by go_num, by omega, by omega, hs3, Lib.hid (I3.out.drewN _)⟩
              · have hkd : kd (kl z (ix + k)) = 8 := by rw [hc]; rfl
                rw [hkd] at d3
                rw [hc] at HSC
                clear hc hkd
                have EN : Hid (SC (kl z) n 0 [] ix = SC (kl z) n s' (x :: st1) (ix + (k + 1))) := by
                  apply Lib.hid
                  have x1 : ¬ (7 = 4 ∧ (x :: st1 : List Nat) = []) := by simp
                  have x2 : ¬ (7 = 10 ∧ (x :: st1 : List Nat) = [] ∧ s' ≠ 2) := by simp
                  have x3 : ¬ (7 = 11 ∧ (x :: st1 : List Nat).head? ≠ some 11) := by simp
                  have x4 : stk (x :: st1) 7 = x :: st1 := by simp [stk, cl]; intro h; exact absurd h hxc
                  rw [HSC.out, if_pos hin, if_neg x1, if_neg x2, if_neg x3, x4]
                  rfl
                have I3 : Hid (Inv w z n ix W2 u5 s' (x :: st1) (k + 1)) := Lib.hid ⟨I2.out.1, I2.out.2.1, EN.out, I2.out.2.2.2.1, Nat.le_succ_of_le I2.out.2.2.2.2⟩
                have HO := Lib.hid I2.out.1
                obtain ⟨gs, cap, rfl, hgs, -, hcap, hcm, hcc⟩ := HO.out.cells
                clear HO
                have hkx : ∃ kx : Int, kd x = kx ∧ ((8 : Int) == kx) = false := ⟨kd x, rfl, by rcases hx with rfl | rfl | rfl <;> first | rfl | exact absurd rfl hxc⟩
                obtain ⟨kx, ekx, hkx⟩ := hkx
                have hlast : W2.cell? ⟨gs, (sv st1).length, none⟩ = some (.int .u8 kx) := hcc _ _ (by rw [← ekx, ← sv_push]; simp)
                rw [show (sv (x :: st1)).length = (sv st1).length + 1 by rw [sv_len, sv_len]; rfl] at *
                have hL : (sv st1).length ≤ 1048576 := by have h9 := I2.out.2.2.2.2; rw [sv_len]; simp at h9; omega
                generalize (sv st1).length = L at *
                have g1 : decide ((0 : Int) < (L : Int) + 1) = true := by rw [decide_eq_true_eq]; omega
                have g2 : (0 : Int) < (L : Int) + 1 := by omega
                clear hcc
                go_wp2_with fail
                go_quiet (fail)
                go_wp2_with fail
                go_roundg g'
                case measure => omega
                case rel => exact ⟨k + 1, s', x :: st1, rfl, by go_num, by omega, by omega, hs3, Lib.hid (I3.out.drewN _)⟩
          · as_aux_lemma =>
              have hkd : kd (kl z (ix + k)) = 32 := by rw [hc]; rfl
              rw [hkd] at d3
              rw [hc] at HSC
              clear hc hkd
              have EN : Hid (SC (kl z) n 0 [] ix = SC (kl z) n s' (9 :: x :: st1) (ix + (k + 1))) := by
                apply Lib.hid
                have x1 : ¬ (8 = 4 ∧ (x :: st1 : List Nat) = []) := by simp
                have x2 : ¬ (8 = 10 ∧ (x :: st1 : List Nat) = [] ∧ s' ≠ 2) := by simp
                have x3 : ¬ (8 = 11 ∧ (x :: st1 : List Nat).head? ≠ some 11) := by simp
                have x4 : stk (x :: st1) 8 = 9 :: x :: st1 := by simp [stk, cl]
                rw [HSC.out, if_pos hin, if_neg x1, if_neg x2, if_neg x3, x4]
                rfl
              have HO := Lib.hid I2.out.1
              have hlen : (sv (x :: st1)).length ≤ 1099511627776 := by rw [sv_len]; have := I2.out.2.2.2.2; omega
              obtain ⟨gs, cap, rfl, hgs, -, hcap, hcm, -⟩ := HO.out.cells
              go_wp2_with (at_builtin; refine wpList_own _ rfl (.tmp 80) (.tmp 81) 73 rfl w.heap.size 39 i39 (.int .u8 0) Try.underlying73 hi39 hz390 hz391 (by rw [hz392]; decide) rfl _ _ rfl (HO.out.alloc _) ⟨W2.heap.size, 0, none⟩ 1 (.int .u8 7) rfl (by simp [go_sem]) rfl hlen ?_)
              · intro v' w' hO hG hB
                have hO' : Own w' w.heap.size v' (sv (9 :: x :: st1)) := by rw [← sv_push]; exact hO
                have H4 := below_grown (I2.out.2.1.alloc I2.out.2.1.size _) hG (fun q hq => (HO.out.lt q hq).1) (by have := I2.out.2.1.size; simp; omega)
                have I3 : Hid (Inv w z n ix w' v' s' (9 :: x :: st1) (k + 1)) := Lib.hid ⟨hO', H4, EN.out, (all_cons (by omega) I2.out.2.2.2.1), Nat.succ_le_succ I2.out.2.2.2.2⟩
                clear hO hG hB hO' H4 HO
                go_wp2_with fail
                go_roundg g'
                case measure => omega
                case rel => exact ⟨k + 1, s', 9 :: x :: st1, rfl, by go_num, by omega, by omega, hs3, I3⟩
          · as_aux_lemma =>
              by_cases hxc : x = 9
              · subst hxc
                have hkd : kd (kl z (ix + k)) = 7 := by rw [hc]; rfl
                rw [hkd] at d3
                rw [hc] at HSC
                clear hc hkd
                have EN : Hid (SC (kl z) n 0 [] ix = SC (kl z) n s' (st1) (ix + (k + 1))) := by
                  apply Lib.hid
                  have x1 : ¬ (9 = 4 ∧ (9 :: st1 : List Nat) = []) := by simp
                  have x2 : ¬ (9 = 10 ∧ (9 :: st1 : List Nat) = [] ∧ s' ≠ 2) := by simp
                  have x3 : ¬ (9 = 11 ∧ (9 :: st1 : List Nat).head? ≠ some 11) := by simp
                  have x4 : stk (9 :: st1) 9 = st1 := by simp [stk, cl]
                  rw [HSC.out, if_pos hin, if_neg x1, if_neg x2, if_neg x3, x4]
                  rfl
                have HO : Own W2 w.heap.size u5 (sv st1 ++ [Value.int .u8 (kd 9)]) := by rw [sv_push]; exact I2.out.1
                obtain ⟨gs, cap, rfl, hcap, hcm, htop, hpop⟩ := HO.pop
                have htop : W2.cell? ⟨gs, (sv st1).length, none⟩ = some (.int .u8 7) := htop
                have I3 : Hid (Inv w z n ix W2 (.slice (some ⟨gs, 0, none⟩) (sv st1).length cap) s' st1 (k + 1)) := Lib.hid ⟨hpop, I2.out.2.1, EN.out, (fun y hy => I2.out.2.2.2.1 y (List.mem_cons_of_mem _ hy)), by have := I2.out.2.2.2.2; simp at this; omega⟩
                clear HO hpop
                have hL : (sv st1).length ≤ 1048576 := by have h9 := I2.out.2.2.2.2; rw [sv_len]; simp at h9; omega
                generalize (sv st1).length = L at *
                have g1 : decide ((0 : Int) < (L : Int) + 1) = true := by rw [decide_eq_true_eq]; omega
                have g2 : (0 : Int) < (L : Int) + 1 := by omega
                go_wp2_with fail
                go_quiet (fail)
                go_wp2_with fail
                go_roundg g'
                case measure => omega
                case rel => exact ⟨k + 1, s', st1, rfl, by go_num, by omega, by omega, hs3, Lib.hid (I3.out.drewN _)⟩
              · have hkd : kd (kl z (ix + k)) = 7 := by rw [hc]; rfl
                rw [hkd] at d3
                rw [hc] at HSC
                clear hc hkd
                have EN : Hid (SC (kl z) n 0 [] ix = SC (kl z) n s' (x :: st1) (ix + (k + 1))) := by
                  apply Lib.hid
                  have x1 : ¬ (9 = 4 ∧ (x :: st1 : List Nat) = []) := by simp
                  have x2 : ¬ (9 = 10 ∧ (x :: st1 : List Nat) = [] ∧ s' ≠ 2) := by simp
                  have x3 : ¬ (9 = 11 ∧ (x :: st1 : List Nat).head? ≠ some 11) := by simp
                  have x4 : stk (x :: st1) 9 = x :: st1 := by simp [stk, cl]; intro h; exact absurd h hxc
                  rw [HSC.out, if_pos hin, if_neg x1, if_neg x2, if_neg x3, x4]
                  rfl
                have I3 : Hid (Inv w z n ix W2 u5 s' (x :: st1) (k + 1)) := Lib.hid ⟨I2.out.1, I2.out.2.1, EN.out, I2.out.2.2.2.1, Nat.le_succ_of_le I2.out.2.2.2.2⟩
                have HO := Lib.hid I2.out.1
                obtain ⟨gs, cap, rfl, hgs, -, hcap, hcm, hcc⟩ := HO.out.cells
                clear HO
                have hkx : ∃ kx : Int, kd x = kx ∧ ((7 : Int) == kx) = false := ⟨kd x, rfl, by rcases hx with rfl | rfl | rfl <;> first | rfl | exact absurd rfl hxc⟩
                obtain ⟨kx, ekx, hkx⟩ := hkx
                have hlast : W2.cell? ⟨gs, (sv st1).length, none⟩ = some (.int .u8 kx) := hcc _ _ (by rw [← ekx, ← sv_push]; simp)
                rw [show (sv (x :: st1)).length = (sv st1).length + 1 by rw [sv_len, sv_len]; rfl] at *
                have hL : (sv st1).length ≤ 1048576 := by have h9 := I2.out.2.2.2.2; rw [sv_len]; simp at h9; omega
                generalize (sv st1).length = L at *
                have g1 : decide ((0 : Int) < (L : Int) + 1) = true := by rw [decide_eq_true_eq]; omega
                have g2 : (0 : Int) < (L : Int) + 1 := by omega
                clear hcc
                go_wp2_with fail
                go_quiet (fail)
                go_wp2_with fail
                go_roundg g'
                case measure => omega
                case rel => exact ⟨k + 1, s', x :: st1, rfl, by go_num, by omega, by omega, hs3, Lib.hid (I3.out.drewN _)⟩
          · as_aux_lemma =>
              have hkd : kd (kl z (ix + k)) = 31 := by rw [hc]; rfl
              rw [hkd] at d3
              rw [hc] at HSC
              clear hc hkd
              have EN : Hid (SC (kl z) n 0 [] ix = SC (kl z) n s' (11 :: x :: st1) (ix + (k + 1))) := by
                apply Lib.hid
                have x1 : ¬ (10 = 4 ∧ (x :: st1 : List Nat) = []) := by simp
                have x2 : ¬ (10 = 10 ∧ (x :: st1 : List Nat) = [] ∧ s' ≠ 2) := by simp
                have x3 : ¬ (10 = 11 ∧ (x :: st1 : List Nat).head? ≠ some 11) := by simp
                have x4 : stk (x :: st1) 10 = 11 :: x :: st1 := by simp [stk, cl]
                rw [HSC.out, if_pos hin, if_neg x1, if_neg x2, if_neg x3, x4]
                rfl
              have HO := Lib.hid I2.out.1
              have hlen : (sv (x :: st1)).length ≤ 1099511627776 := by rw [sv_len]; have := I2.out.2.2.2.2; omega
              obtain ⟨gs, cap, rfl, hgs, -, hcap, hcm, -⟩ := HO.out.cells
              have g3 : (((sv (x :: st1)).length : Int) == 0) = false := by rw [beq_eq_false_iff_ne, sv_len]; simp; omega
              go_wp2_with (at_builtin; refine wpList_own _ rfl (.tmp 98) (.tmp 99) 73 rfl w.heap.size 39 i39 (.int .u8 0) Try.underlying73 hi39 hz390 hz391 (by rw [hz392]; decide) rfl _ _ rfl (HO.out.alloc _) ⟨W2.heap.size, 0, none⟩ 1 (.int .u8 6) rfl (by simp [go_sem]) rfl hlen ?_)
              · intro v' w' hO hG hB
                have hO' : Own w' w.heap.size v' (sv (11 :: x :: st1)) := by rw [← sv_push]; exact hO
                have H4 := below_grown (I2.out.2.1.alloc I2.out.2.1.size _) hG (fun q hq => (HO.out.lt q hq).1) (by have := I2.out.2.1.size; simp; omega)
                have I3 : Hid (Inv w z n ix w' v' s' (11 :: x :: st1) (k + 1)) := Lib.hid ⟨hO', H4, EN.out, (all_cons (by omega) I2.out.2.2.2.1), Nat.succ_le_succ I2.out.2.2.2.2⟩
                clear hO hG hB hO' H4 HO
                go_wp2_with fail
                go_roundg g'
                case measure => omega
                case rel => exact ⟨k + 1, s', 11 :: x :: st1, rfl, by go_num, by omega, by omega, hs3, I3⟩
          · as_aux_lemma =>
              by_cases hxc : x = 11
              · subst hxc
                have hkd : kd (kl z (ix + k)) = 6 := by rw [hc]; rfl
                rw [hkd] at d3
                rw [hc] at HSC
                clear hc hkd
                have EN : Hid (SC (kl z) n 0 [] ix = SC (kl z) n s' (st1) (ix + (k + 1))) := by
                  apply Lib.hid
                  have x1 : ¬ (11 = 4 ∧ (11 :: st1 : List Nat) = []) := by simp
                  have x2 : ¬ (11 = 10 ∧ (11 :: st1 : List Nat) = [] ∧ s' ≠ 2) := by simp
                  have x3 : ¬ (11 = 11 ∧ (11 :: st1 : List Nat).head? ≠ some 11) := by simp
                  have x4 : stk (11 :: st1) 11 = st1 := by simp [stk, cl]
                  rw [HSC.out, if_pos hin, if_neg x1, if_neg x2, if_neg x3, x4]
                  rfl
                have HO : Own W2 w.heap.size u5 (sv st1 ++ [Value.int .u8 (kd 11)]) := by rw [sv_push]; exact I2.out.1
                obtain ⟨gs, cap, rfl, hcap, hcm, htop, hpop⟩ := HO.pop
                have htop : W2.cell? ⟨gs, (sv st1).length, none⟩ = some (.int .u8 6) := htop
                have I3 : Hid (Inv w z n ix W2 (.slice (some ⟨gs, 0, none⟩) (sv st1).length cap) s' st1 (k + 1)) := Lib.hid ⟨hpop, I2.out.2.1, EN.out, (fun y hy => I2.out.2.2.2.1 y (List.mem_cons_of_mem _ hy)), by have := I2.out.2.2.2.2; simp at this; omega⟩
                clear HO hpop
                have hL : (sv st1).length ≤ 1048576 := by have h9 := I2.out.2.2.2.2; rw [sv_len]; simp at h9; omega
                generalize (sv st1).length = L at *
                have g1 : decide ((0 : Int) < (L : Int) + 1) = true := by rw [decide_eq_true_eq]; omega
                have g2 : (0 : Int) < (L : Int) + 1 := by omega
                go_wp2_with fail
                go_quiet (fail)
                go_wp2_with fail
                go_roundg g'
                case measure => omega
                case rel => exact ⟨k + 1, s', st1, rfl, by go_num, by omega, by omega, hs3, Lib.hid (I3.out.drewN _)⟩
              · have hkd : kd (kl z (ix + k)) = 6 := by rw [hc]; rfl
                rw [hkd] at d3
                rw [hc] at HSC
                clear hc hkd
                have EE : Hid (SC (kl z) n 0 [] ix = (0, -1)) := by
                  apply Lib.hid
                  rw [HSC.out, if_pos hin, if_neg (by simp), if_neg (by simp), if_pos (by simp; exact hxc)]
                have HO := Lib.hid I2.out.1
                obtain ⟨gs, cap, rfl, hgs, -, hcap, hcm, hcc⟩ := HO.out.cells
                clear HO
                have BB := Lib.hid I2.out.2.1
                have hkx : ∃ kx : Int, kd x = kx ∧ ((6 : Int) == kx) = false := ⟨kd x, rfl, by rcases hx with rfl | rfl | rfl <;> first | rfl | exact absurd rfl hxc⟩
                obtain ⟨kx, ekx, hkx⟩ := hkx
                have hlast : W2.cell? ⟨gs, (sv st1).length, none⟩ = some (.int .u8 kx) := hcc _ _ (by rw [← ekx, ← sv_push]; simp)
                rw [show (sv (x :: st1)).length = (sv st1).length + 1 by rw [sv_len, sv_len]; rfl] at *
                have hL : (sv st1).length ≤ 1048576 := by have h9 := I2.out.2.2.2.2; rw [sv_len]; simp at h9; omega
                generalize (sv st1).length = L at *
                have g1 : decide ((0 : Int) < (L : Int) + 1) = true := by rw [decide_eq_true_eq]; omega
                have g2 : (0 : Int) < (L : Int) + 1 := by omega
                clear hcc
                go_wp2_with fail
                go_quiet (fail)
                go_wp2_with fail
                go_ret2
                exact ⟨by rw [EE.out]; rfl, below_drewN BB.out _⟩
          · as_aux_lemma =>
              have hkd : kd (kl z (ix + k)) = 10 := by rw [hc]; rfl
              rw [hkd] at d3
              rw [hc] at HSC
              clear hc hkd
              have EN : Hid (SC (kl z) n 0 [] ix = SC (kl z) n s' (x :: st1) (ix + (k + 1))) := by
                apply Lib.hid
                have x1 : ¬ (12 = 4 ∧ (x :: st1 : List Nat) = []) := by simp
                have x2 : ¬ (12 = 10 ∧ (x :: st1 : List Nat) = [] ∧ s' ≠ 2) := by simp
                have x3 : ¬ (12 = 11 ∧ (x :: st1 : List Nat).head? ≠ some 11) := by simp
                have x4 : stk (x :: st1) 12 = x :: st1 := by simp [stk, cl]
                rw [HSC.out, if_pos hin, if_neg x1, if_neg x2, if_neg x3, x4]
                rfl
              have I3 : Hid (Inv w z n ix W2 u5 s' (x :: st1) (k + 1)) := Lib.hid ⟨I2.out.1, I2.out.2.1, EN.out, I2.out.2.2.2.1, Nat.le_succ_of_le I2.out.2.2.2.2⟩
              have HO := Lib.hid I2.out.1
              obtain ⟨gs, cap, rfl, hgs, -, hcap, hcm, hcc⟩ := HO.out.cells
              clear HO
              clear hcc
              go_wp2_with fail
              go_roundg g'
              case measure => omega
              case rel => exact ⟨k + 1, s', x :: st1, rfl, by go_num, by omega, by omega, hs3, I3⟩
          · as_aux_lemma =>
              have hkd : kd (kl z (ix + k)) = 29 := by rw [hc]; rfl
              rw [hkd] at d3
              rw [hc] at HSC
              clear hc hkd
              have EN : Hid (SC (kl z) n 0 [] ix = SC (kl z) n s' (x :: st1) (ix + (k + 1))) := by
                apply Lib.hid
                have x1 : ¬ (13 = 4 ∧ (x :: st1 : List Nat) = []) := by simp
                have x2 : ¬ (13 = 10 ∧ (x :: st1 : List Nat) = [] ∧ s' ≠ 2) := by simp
                have x3 : ¬ (13 = 11 ∧ (x :: st1 : List Nat).head? ≠ some 11) := by simp
                have x4 : stk (x :: st1) 13 = x :: st1 := by simp [stk, cl]
                rw [HSC.out, if_pos hin, if_neg x1, if_neg x2, if_neg x3, x4]
                rfl
              have I3 : Hid (Inv w z n ix W2 u5 s' (x :: st1) (k + 1)) := Lib.hid ⟨I2.out.1, I2.out.2.1, EN.out, I2.out.2.2.2.1, Nat.le_succ_of_le I2.out.2.2.2.2⟩
              have HO := Lib.hid I2.out.1
              obtain ⟨gs, cap, rfl, hgs, -, hcap, hcm, hcc⟩ := HO.out.cells
              clear HO
              clear hcc
              go_wp2_with fail
              go_roundg g'
              case measure => omega
              case rel => exact ⟨k + 1, s', x :: st1, rfl, by go_num, by omega, by omega, hs3, I3⟩
          · as_aux_lemma =>
              have hkd : kd (kl z (ix + k)) = 19 := by rw [hc]; rfl
              rw [hkd] at d3
              rw [hc] at HSC
              clear hc hkd
              have EN : Hid (SC (kl z) n 0 [] ix = SC (kl z) n s' (x :: st1) (ix + (k + 1))) := by
                apply Lib.hid
                have x1 : ¬ (14 = 4 ∧ (x :: st1 : List Nat) = []) := by simp
                have x2 : ¬ (14 = 10 ∧ (x :: st1 : List Nat) = [] ∧ s' ≠ 2) := by simp
                have x3 : ¬ (14 = 11 ∧ (x :: st1 : List Nat).head? ≠ some 11) := by simp
                have x4 : stk (x :: st1) 14 = x :: st1 := by simp [stk, cl]
                rw [HSC.out, if_pos hin, if_neg x1, if_neg x2, if_neg x3, x4]
                rfl
              have I3 : Hid (Inv w z n ix W2 u5 s' (x :: st1) (k + 1)) := Lib.hid ⟨I2.out.1, I2.out.2.1, EN.out, I2.out.2.2.2.1, Nat.le_succ_of_le I2.out.2.2.2.2⟩
              have HO := Lib.hid I2.out.1
              obtain ⟨gs, cap, rfl, hgs, -, hcap, hcm, hcc⟩ := HO.out.cells
              clear HO
              clear hcc
              go_wp2_with fail
              go_roundg g'
              case measure => omega
              case rel => exact ⟨k + 1, s', x :: st1, rfl, by go_num, by omega, by omega, hs3, I3⟩
    · have EE : Hid (SC (kl z) n 0 [] ix = (0, -1)) := by
        apply Lib.hid; rw [II.out.2.2.1, SC_eq, if_neg (by omega)]
      have BB := Lib.hid II.out.2.1
      go_wp2_with fail
      go_ret2
      exact ⟨by rw [EE.out]; rfl, BB.out⟩
end Go.Proofs.Ytajkdjheoefbcaa.ZA

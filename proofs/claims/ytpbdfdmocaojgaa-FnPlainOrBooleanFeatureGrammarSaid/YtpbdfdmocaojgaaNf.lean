/- FnPlainOrBooleanFeatureGrammar: the walk, by what is accepted. -/
import Derived.Test.YtpbdfdmocaojgaaNe
import Derived.DataShut
namespace Go.Proofs.Ytpbdfdmocaojgaa.MA
open Go.RowKit Go.Proofs.Ytpbdfdmocaojgaa.TB
set_option linter.unusedVariables false
theorem textAt2 (B : Option Addr) (m d : Nat) (T : Nat → ByteArray) (k : Nat) (w : World) (r : SR w B m T) (hm : m ≤ 131072) (hi : k + 2 ≤ 1048576) :
    Calls Try.prog 14 #[.slice B m d, .int .i64 ((k : Int) + 2)] w fun e w' => e = .returned (.string (txa m T (k + 2))) ∧ w = w' := by
  have h := textAt B m d T (k + 2) w r hm hi
  rwa [show ((k + 2 : Nat) : Int) = (k : Int) + 2 by omega] at h
theorem byteAt2 (D : Option Addr) (p c : Nat) (z : Nat → Int) (k : Nat) (w : World) (r : BR w D p z) (hp : p ≤ 1048576) (hi : k + 2 ≤ 1048576) :
    Calls Try.prog 17 #[.slice D p c, .int .i64 ((k : Int) + 2)] w fun e w' => e = .returned (.int .u8 (bya p z (k + 2))) ∧ w = w' := by
  have h := byteAt D p c z (k + 2) w r hp hi
  rwa [show ((k + 2 : Nat) : Int) = (k : Int) + 2 by omega] at h
def Ok (w : World) (e : Ending) (w' : World) : Prop := e = .returned (.bool true) ∧ Below w.heap.size w w'
/-- What stands ahead of the parse. -/
structure In (A B D : Option Addr) (n m p : Nat) (z : Nat → Int) (T : Nat → ByteArray) (y : Nat → Int) (w : World) : Prop where
  r : BR w A n z
  hA : A = none → n = 0
  r2 : SR w B m T
  r3 : BR w D p y
  hz : ∀ i, i < n → 0 ≤ z i ∧ z i ≤ 255
  hT : ∀ i, i < m → (T i).size ≤ maxLen
  hn : n ≤ maxLen
  hm : m ≤ maxLen
  hp : p ≤ maxLen
abbrev F0 (m p : Nat) (z : Nat → Int) (T : Nat → ByteArray) (y : Nat → Int) : Nat → Nat → Value := tc (fun i => kdf (z i)) (txa m T) (fun i => flg (bya p y i))
set_option maxRecDepth 100000 in
set_option maxHeartbeats 4000000 in
theorem lawNo (A B D : Option Addr) (n c m d p q : Nat) (z : Nat → Int) (T : Nat → ByteArray) (y : Nat → Int) (w : World) (I : In A B D n m p z T y w) (M : Int) (hP0 : n = 0 → ∀ W A' c' g, Calls Try.prog 12 #[.slice A' 0 c'] W (NoP g W)) (hP : 0 < n → ∀ W g, Tab W g 53 7 n (F0 m p z T y) → Calls Try.prog 12 #[.slice (some ⟨g, 0, none⟩) n n] W (NoP g W)) (hS : ∀ W, BR W A n z → Calls Try.prog 13 #[.slice A n c] W (ShP false M W)) :
    Calls Try.prog 4 #[.slice A n c, .slice B m d, .slice D p q] w (Ok w) := by
  have hP0 := Lib.hid hP0
  have HP := Lib.hid hP
  have HS := Lib.hid hS
  clear hP hS
  have H10 := Lib.hid (bytes10 A B D n c m d p q T w I.r2 I.hn I.hm I.hp I.hT)
  have HI := Lib.hid I
  have hn := I.hn
  have hm := I.hm
  have hp := I.hp
  unfold maxLen at hn hm hp
  clear I
  go_enter Try.func4, Try.ntmps4
  go_wp2_with fail
  refine H10.out.mono ?_
  rintro e w' ⟨b1, hb1, rfl, rfl⟩
  clear H10
  cases b1
  · clear hb1
    go_wp2_with fail
    go_ret
    exact ⟨rfl, Below.refl _ _⟩
  have HT := Lib.hid (hb1 rfl)
  clear hb1
  by_cases h1 : n ≤ 1048576
  · by_cases h2 : p ≤ 1048576
    · by_cases h3 : m ≤ 131072
      · have g1 : decide ((1048576 : Int) < (n : Int)) = false := by rw [decide_eq_false_iff_not]; omega
        have g2 : decide ((1048576 : Int) < (p : Int)) = false := by rw [decide_eq_false_iff_not]; omega
        have g3 : decide ((131072 : Int) < (m : Int)) = false := by rw [decide_eq_false_iff_not]; omega
        have g1' : decide (1048576 < n) = false := by rw [decide_eq_false_iff_not]; omega
        have g2' : decide (1048576 < p) = false := by rw [decide_eq_false_iff_not]; omega
        have g3' : decide (131072 < m) = false := by rw [decide_eq_false_iff_not]; omega
        go_wp2_with fail
        refine (textBytes B m d T w HI.out.r2 h3 HT.out).mono ?_
        rintro e w' ⟨N, ⟨hN0, hN1⟩, rfl, rfl⟩
        by_cases hN : 1048576 < (n : Int) + (p : Int) + N
        · go_wp2_with fail
          go_ret
          exact ⟨rfl, Below.refl _ _⟩
        go_wp2_with fail
        refine (feats A B D n c m d p q z T y w HI.out.r HI.out.hA HI.out.r2 HI.out.r3 HI.out.hz h1 h3 h2).mono ?_
        rintro e w1 (⟨rfl, rfl, rfl⟩ | ⟨g, rfl, ht, hg, hb1⟩)
        · go_wp2_with fail
          refine (hP0.out (by first | rfl | trivial) _ _ _ w.heap.size).mono ?_
          rintro e v1 ⟨rfl, hb⟩
          have B2 := Lib.hid hb
          clear hb
          go_wp2_with fail
          refine (HS.out v1 (HI.out.r.below B2.out)).mono ?_
          rintro e w' ⟨rfl, rfl⟩
          go_wp2_with fail
          go_ret
          exact ⟨rfl, B2.out⟩
        · have T1 := Lib.hid ht
          have B1 := Lib.hid hb1
          clear ht hb1
          by_cases h0 : 0 < n
          · go_wp2_with fail
            refine (HP.out h0 _ g T1.out).mono ?_
            rintro e v1 ⟨rfl, hb⟩
            have B2 := Lib.hid (B1.out.trans (hb.mono hg))
            clear hb
            go_wp2_with fail
            refine (HS.out v1 (HI.out.r.below B2.out)).mono ?_
            rintro e w' ⟨rfl, rfl⟩
            go_wp2_with fail
            go_ret
            exact ⟨rfl, B2.out⟩
          · obtain rfl : n = 0 := by omega
            go_wp2_with fail
            refine (hP0.out (by first | rfl | trivial) _ _ _ w.heap.size).mono ?_
            rintro e v1 ⟨rfl, hb⟩
            have B2 := Lib.hid (B1.out.trans hb)
            clear hb
            go_wp2_with fail
            refine (HS.out v1 (HI.out.r.below B2.out)).mono ?_
            rintro e w' ⟨rfl, rfl⟩
            go_wp2_with fail
            go_ret
            exact ⟨rfl, B2.out⟩
      · have g1' : decide ((131072 : Int) < (m : Int)) = true := by rw [decide_eq_true_eq]; omega
        go_wp2_with fail
        go_ret
        exact ⟨rfl, Below.refl _ _⟩
    · have g1' : decide ((1048576 : Int) < (p : Int)) = true := by rw [decide_eq_true_eq]; omega
      go_wp2_with fail
      go_ret
      exact ⟨rfl, Below.refl _ _⟩
  · have g1' : decide ((1048576 : Int) < (n : Int)) = true := by rw [decide_eq_true_eq]; omega
    go_wp2_with fail
    go_ret
    exact ⟨rfl, Below.refl _ _⟩
set_option maxRecDepth 100000 in
set_option maxHeartbeats 4000000 in
theorem lawYes0 (A B D : Option Addr) (n c m d p q : Nat) (z : Nat → Int) (T : Nat → ByteArray) (y : Nat → Int) (w : World) (I : In A B D n m p z T y w) (h0 : 0 < n) (hP : ∀ W g, Tab W g 53 7 n (F0 m p z T y) → Calls Try.prog 12 #[.slice (some ⟨g, 0, none⟩) n n] W (YesP g n (txa m T 0) (.slice none 0 0) (F0 m p z T y) W)) (hS : ∀ W, BR W A n z → Calls Try.prog 13 #[.slice A n c] W (ShP true 0 W)) :
    Calls Try.prog 4 #[.slice A n c, .slice B m d, .slice D p q] w (Ok w) := by
  have HP := Lib.hid hP
  have HS := Lib.hid hS
  have eq1 := fun (w : World) (a : Option Addr) (n c n' c' : Nat) => Lib.run_eql_slice_nil (P := Try.prog) w 25 53 a n c n' c' Try.underlying25
  clear hP hS
  have H10 := Lib.hid (bytes10 A B D n c m d p q T w I.r2 I.hn I.hm I.hp I.hT)
  have HI := Lib.hid I
  have hn := I.hn
  have hm := I.hm
  have hp := I.hp
  unfold maxLen at hn hm hp
  clear I
  go_enter Try.func4, Try.ntmps4
  go_wp2_with fail
  refine H10.out.mono ?_
  rintro e w' ⟨b1, hb1, rfl, rfl⟩
  clear H10
  cases b1
  · clear hb1
    go_wp2_with fail
    go_ret
    exact ⟨rfl, Below.refl _ _⟩
  have HT := Lib.hid (hb1 rfl)
  clear hb1
  by_cases h1 : n ≤ 1048576
  · by_cases h2 : p ≤ 1048576
    · by_cases h3 : m ≤ 131072
      · have g1 : decide ((1048576 : Int) < (n : Int)) = false := by rw [decide_eq_false_iff_not]; omega
        have g2 : decide ((1048576 : Int) < (p : Int)) = false := by rw [decide_eq_false_iff_not]; omega
        have g3 : decide ((131072 : Int) < (m : Int)) = false := by rw [decide_eq_false_iff_not]; omega
        have g1' : decide (1048576 < n) = false := by rw [decide_eq_false_iff_not]; omega
        have g2' : decide (1048576 < p) = false := by rw [decide_eq_false_iff_not]; omega
        have g3' : decide (131072 < m) = false := by rw [decide_eq_false_iff_not]; omega
        go_wp2_with fail
        refine (textBytes B m d T w HI.out.r2 h3 HT.out).mono ?_
        rintro e w' ⟨N, ⟨hN0, hN1⟩, rfl, rfl⟩
        by_cases hN : 1048576 < (n : Int) + (p : Int) + N
        · go_wp2_with fail
          go_ret
          exact ⟨rfl, Below.refl _ _⟩
        go_wp2_with fail
        refine (feats A B D n c m d p q z T y w HI.out.r HI.out.hA HI.out.r2 HI.out.r3 HI.out.hz h1 h3 h2).mono ?_
        rintro e w1 (⟨h0, -, -⟩ | ⟨g, rfl, ht, hg, hb1⟩)
        · omega
        have T1 := Lib.hid ht
        have B1 := Lib.hid hb1
        clear ht hb1
        go_wp2_with fail
        refine (HP.out _ g T1.out).mono ?_
        rintro e v1 ⟨gp, rfl, hk, ht, hb⟩
        have B2 := Lib.hid (B1.out.trans (hb.mono hg))
        have HK := Lib.hid hk
        have T2 := Lib.hid ht
        clear hb hk ht T1 B1
        go_wp2_with fail
        refine (HS.out v1 (HI.out.r.below B2.out)).mono ?_
        rintro e w' ⟨rfl, rfl⟩
        have k0 := HK.out.cell 0
        have k1 := HK.out.cell 1
        simp only [List.getElem?_toArray, List.getElem?_cons_zero, List.getElem?_cons_succ] at k0 k1
        have RB := Lib.hid (HI.out.r2.below B2.out)
        have RD := Lib.hid (HI.out.r3.below B2.out)
        have RA := Lib.hid (HI.out.r.below B2.out)
        have hzero : decide (n = 0) = false := by simp; omega
        go_wp2_with fail
        go_quiet ((go_at_call 14; exact Calls.quiet_of_same ((textAt B m d T 0 _ (by exact RB.out) h3 (by omega)).mono (fun _ _ h => ⟨h.1, h.2.symm⟩))))
        go_wp2_with fail
        go_ret
        exact ⟨rfl, below_drewN B2.out _⟩
      · have g1' : decide ((131072 : Int) < (m : Int)) = true := by rw [decide_eq_true_eq]; omega
        go_wp2_with fail
        go_ret
        exact ⟨rfl, Below.refl _ _⟩
    · have g1' : decide ((1048576 : Int) < (p : Int)) = true := by rw [decide_eq_true_eq]; omega
      go_wp2_with fail
      go_ret
      exact ⟨rfl, Below.refl _ _⟩
  · have g1' : decide ((1048576 : Int) < (n : Int)) = true := by rw [decide_eq_true_eq]; omega
    go_wp2_with fail
    go_ret
    exact ⟨rfl, Below.refl _ _⟩
set_option maxRecDepth 100000 in
set_option maxHeartbeats 4000000 in
theorem lawYes (A B D : Option Addr) (n c m d p q : Nat) (z : Nat → Int) (T : Nat → ByteArray) (y : Nat → Int) (w : World) (I : In A B D n m p z T y w) (M : Nat) (hM : 1 ≤ M) (hM3 : M ≤ 3) (hnM : n = M + 2) (W' : Nat → Int) (hP : ∀ W g, Tab W g 53 7 n (F0 m p z T y) → Calls Try.prog 12 #[.slice (some ⟨g, 0, none⟩) n n] W (YesP g n (txa m T 0) (.slice (some ⟨g, 14, none⟩) M M) (tc (fun i => kdf (z i)) (txa m T) W') W)) (hS : ∀ W, BR W A n z → Calls Try.prog 13 #[.slice A n c] W (ShP true M W)) (hW : ∀ i, i < M → (i = 0 → i + 1 = M → W' (i + 2) = bits .andNot .u8 (bits .andNot .u8 (flg (bya p y (i + 2))) 1) 2) ∧ (i = 0 → i + 1 ≠ M → W' (i + 2) = bits .andNot .u8 (flg (bya p y (i + 2))) 1) ∧ (i ≠ 0 → i + 1 = M → W' (i + 2) = bits .andNot .u8 (flg (bya p y (i + 2))) 2) ∧ (i ≠ 0 → i + 1 ≠ M → W' (i + 2) = flg (bya p y (i + 2)))) :
    Calls Try.prog 4 #[.slice A n c, .slice B m d, .slice D p q] w (Ok w) := by
  have HP := Lib.hid hP
  have HS := Lib.hid hS
  have HW := Lib.hid hW
  have HNM := Lib.hid hnM
  have hn3 : 3 ≤ n := by omega
  clear hP hS hW hnM
  have H10 := Lib.hid (bytes10 A B D n c m d p q T w I.r2 I.hn I.hm I.hp I.hT)
  have HI := Lib.hid I
  have hn := I.hn
  have hm := I.hm
  have hp := I.hp
  unfold maxLen at hn hm hp
  clear I
  go_enter Try.func4, Try.ntmps4
  go_wp2_with fail
  refine H10.out.mono ?_
  rintro e w' ⟨b1, hb1, rfl, rfl⟩
  clear H10
  cases b1
  · clear hb1
    go_wp2_with fail
    go_ret
    exact ⟨rfl, Below.refl _ _⟩
  have HT := Lib.hid (hb1 rfl)
  clear hb1
  by_cases h1 : n ≤ 1048576
  · by_cases h2 : p ≤ 1048576
    · by_cases h3 : m ≤ 131072
      · have g1 : decide ((1048576 : Int) < (n : Int)) = false := by rw [decide_eq_false_iff_not]; omega
        have g2 : decide ((1048576 : Int) < (p : Int)) = false := by rw [decide_eq_false_iff_not]; omega
        have g3 : decide ((131072 : Int) < (m : Int)) = false := by rw [decide_eq_false_iff_not]; omega
        have g1' : decide (1048576 < n) = false := by rw [decide_eq_false_iff_not]; omega
        have g2' : decide (1048576 < p) = false := by rw [decide_eq_false_iff_not]; omega
        have g3' : decide (131072 < m) = false := by rw [decide_eq_false_iff_not]; omega
        go_wp2_with fail
        refine (textBytes B m d T w HI.out.r2 h3 HT.out).mono ?_
        rintro e w' ⟨N, ⟨hN0, hN1⟩, rfl, rfl⟩
        by_cases hN : 1048576 < (n : Int) + (p : Int) + N
        · go_wp2_with fail
          go_ret
          exact ⟨rfl, Below.refl _ _⟩
        go_wp2_with fail
        refine (feats A B D n c m d p q z T y w HI.out.r HI.out.hA HI.out.r2 HI.out.r3 HI.out.hz h1 h3 h2).mono ?_
        rintro e w1 (⟨h0, -, -⟩ | ⟨g, rfl, ht, hg, hb1⟩)
        · omega
        have T1 := Lib.hid ht
        have B1 := Lib.hid hb1
        clear ht hb1
        go_wp2_with fail
        refine (HP.out _ g T1.out).mono ?_
        rintro e v1 ⟨gp, rfl, hk, ht, hb⟩
        have B2 := Lib.hid (B1.out.trans (hb.mono hg))
        have HK := Lib.hid hk
        have T2 := Lib.hid ht
        clear hb hk ht T1 B1
        go_wp2_with fail
        refine (HS.out v1 (HI.out.r.below B2.out)).mono ?_
        rintro e w' ⟨rfl, rfl⟩
        have k0 := HK.out.cell 0
        have k1 := HK.out.cell 1
        simp only [List.getElem?_toArray, List.getElem?_cons_zero, List.getElem?_cons_succ] at k0 k1
        have RB := Lib.hid (HI.out.r2.below B2.out)
        have RD := Lib.hid (HI.out.r3.below B2.out)
        have RA := Lib.hid (HI.out.r.below B2.out)
        have hzero0 : ((M : Int) == 0) = false := by rw [beq_eq_false_iff_ne]; omega
        go_wp2_with fail
        go_quiet ((go_at_call 14; exact Calls.quiet_of_same ((textAt B m d T 0 _ (by exact RB.out) h3 (by omega)).mono (fun _ _ h => ⟨h.1, h.2.symm⟩))))
        go_wp2_with fail
        clear k0 k1 hzero0
        go_loopw [12] (fun i wr => ∃ k : Nat, k ≤ M ∧ i = .int .i64 k ∧ Hid (Below v1.heap.size v1 wr)) (fun i _ => M - (intOf i).toNat)
        case atStart => exact ⟨0, Nat.zero_le _, rfl, Lib.hid (below_drewN (Below.refl _ _) _)⟩
        case round =>
          obtain ⟨k, hk, rfl, BB⟩ := hrel
          by_cases hlt : k < M
          · have KB := HK.out.below BB.out HK.out.lt
            have TB3 := Lib.hid (T2.out.below BB.out T2.out.lt)
            have k1 := KB.cell 1
            simp only [List.getElem?_toArray, List.getElem?_cons_zero, List.getElem?_cons_succ] at k1
            have hrow : k + 2 < n := by rw [HNM.out]; omega
            have t0 : wr.cell? ⟨g, 14 + k * 7, none⟩ = some (.pointer none) := by
              have h := TB3.out.cell hrow (j := 0) (by omega); rw [show (k + 2) * 7 + 0 = 14 + k * 7 by omega] at h; exact h
            have t1 : wr.cell? ⟨g, 14 + k * 7 + 1, none⟩ = some (.string (txa m T (k + 2))) := by
              have h := TB3.out.cell hrow (j := 1) (by omega); rw [show (k + 2) * 7 + 1 = 14 + k * 7 + 1 by omega] at h; exact h
            have t2 : wr.cell? ⟨g, 14 + k * 7 + 2, none⟩ = some (.int .i32 0) := by
              have h := TB3.out.cell hrow (j := 2) (by omega); rw [show (k + 2) * 7 + 2 = 14 + k * 7 + 2 by omega] at h; exact h
            have t3 : wr.cell? ⟨g, 14 + k * 7 + 3, none⟩ = some (.int .u32 0) := by
              have h := TB3.out.cell hrow (j := 3) (by omega); rw [show (k + 2) * 7 + 3 = 14 + k * 7 + 3 by omega] at h; exact h
            have t4 : wr.cell? ⟨g, 14 + k * 7 + 4, none⟩ = some (.int .u16 0) := by
              have h := TB3.out.cell hrow (j := 4) (by omega); rw [show (k + 2) * 7 + 4 = 14 + k * 7 + 4 by omega] at h; exact h
            have t5 : wr.cell? ⟨g, 14 + k * 7 + 5, none⟩ = some (.int .u8 (kdf (z (k + 2)))) := by
              have h := TB3.out.cell hrow (j := 5) (by omega); rw [show (k + 2) * 7 + 5 = 14 + k * 7 + 5 by omega] at h; exact h
            have t6 : wr.cell? ⟨g, 14 + k * 7 + 6, none⟩ = some (.int .u8 (W' (k + 2))) := by
              have h := TB3.out.cell hrow (j := 6) (by omega); rw [show (k + 2) * 7 + 6 = 14 + k * 7 + 6 by omega] at h; exact h
            have q1 : (0 : Int) ≤ (k : Int) := by omega
            have q2 : (k : Int) < (M : Int) := by omega
            have OB := (Below.refl wr.heap.size wr).alloc (Nat.le_refl _) (.cells #[.pointer none, .string (txa m T (k + 2)), .int .i32 0, .int .u32 0, .int .u16 0, .int .u8 (kdf (z (k + 2))), .int .u8 (W' (k + 2))] 53)
            have BB1 := Lib.hid (BB.out.alloc BB.out.size (.cells #[.pointer none, .string (txa m T (k + 2)), .int .i32 0, .int .u32 0, .int .u16 0, .int .u8 (kdf (z (k + 2))), .int .u8 (W' (k + 2))] 53))
            have RA1 := Lib.hid (RA.out.below BB1.out)
            have RB1 := Lib.hid (RB.out.below BB1.out)
            have RD1 := Lib.hid (RD.out.below BB1.out)
            have d1 : (wr.alloc (.cells #[.pointer none, .string (txa m T (k + 2)), .int .i32 0, .int .u32 0, .int .u16 0, .int .u8 (kdf (z (k + 2))), .int .u8 (W' (k + 2))] 53)).cell? ⟨wr.heap.size, 1, none⟩ = some (.string (txa m T (k + 2))) := by simp [go_sem]
            have d5 : (wr.alloc (.cells #[.pointer none, .string (txa m T (k + 2)), .int .i32 0, .int .u32 0, .int .u16 0, .int .u8 (kdf (z (k + 2))), .int .u8 (W' (k + 2))] 53)).cell? ⟨wr.heap.size, 5, none⟩ = some (.int .u8 (kdf (z (k + 2)))) := by simp [go_sem]
            have d6 : (wr.alloc (.cells #[.pointer none, .string (txa m T (k + 2)), .int .i32 0, .int .u32 0, .int .u16 0, .int .u8 (kdf (z (k + 2))), .int .u8 (W' (k + 2))] 53)).cell? ⟨wr.heap.size, 6, none⟩ = some (.int .u8 (W' (k + 2))) := by simp [go_sem]
            clear KB OB TB3
            go_upto_region 24 with (fail)
            generalize wr.alloc (.cells #[.pointer none, .string (txa m T (k + 2)), .int .i32 0, .int .u32 0, .int .u16 0, .int .u8 (kdf (z (k + 2))), .int .u8 (W' (k + 2))] 53) = W1 at *
            clear t0 t1 t2 t3 t4 t5 t6 k1
            generalize wr.heap.size = gt at *
            obtain ⟨b, o, ea, hbb, hc⟩ := RA1.out (by omega)
            have x1 : W1.cell? ⟨b, o + (k + 2), none⟩ = some (.int .u8 (z (k + 2))) := hc (k + 2) hrow
            have hz1 := (HI.out.hz (k + 2) hrow).1
            have hz2 := (HI.out.hz (k + 2) hrow).2
            have hk2 : k + 2 ≤ 1048576 := by omega
            have q3 : (k : Int) + 2 < (n : Int) := by omega
            have q4 : (0 : Int) ≤ (k : Int) + 2 := by omega
            have q5 : ((k : Int) + 2).toNat = k + 2 := by omega
            have HWk := Lib.hid (HW.out k hlt)
            have CB := Lib.hid (fun W (r : BR W D p y) => byteAt2 D p q y k W r h2 hk2)
            subst ea
            clear hc
            go_quiet (first | (go_at_call 15; exact Calls.quiet_of_same ((kindOf _ _ hz1 hz2).mono (fun _ _ h => ⟨h.1, h.2.symm⟩))) | (go_at_call 14; exact Calls.quiet_of_same ((textAt2 B m d T k _ (by exact RB1.out) h3 hk2).mono (fun _ _ h => ⟨h.1, h.2.symm⟩))))
            have d6' : (W1.drewN nq).cell? ⟨gt, 6, none⟩ = some (.int .u8 (W' (k + 2))) := d6
            have BB2 := Lib.hid (below_drewN BB1.out nq)
            have CBd := Lib.hid (CB.out (W1.drewN nq) (by exact RD1.out))
            clear d1 d5 d6 x1 q5 CB
            generalize W1.drewN nq = W2 at *
            by_cases e0 : k = 0
            · by_cases e1 : k + 1 = M
              · have hw := HWk.out.1 e0 e1
                have f0 : ((k : Int) == 0) = true := by rw [beq_iff_eq]; omega
                have f1 : ((k : Int) == (M : Int) - 1) = true := by rw [beq_iff_eq]; omega
                rw [hw] at d6'
                clear hw e0 e1 HWk
                go_wp2_with (first | (go_at_call 17; refine CBd.out.mono ?_; rintro e w' ⟨rfl, rfl⟩) | (go_at_call 16; refine (flagsOf _ _).mono ?_; rintro e w' ⟨rfl, rfl⟩))
                go_roundw
                case rel => exact ⟨k + 1, by omega, by go_num, BB2⟩
                case measure => simp [intOf]; omega
              · have hw := HWk.out.2.1 e0 e1
                have f0 : ((k : Int) == 0) = true := by rw [beq_iff_eq]; omega
                have f1 : ((k : Int) == (M : Int) - 1) = false := by rw [beq_eq_false_iff_ne]; omega
                rw [hw] at d6'
                clear hw e0 e1 HWk
                go_wp2_with (first | (go_at_call 17; refine CBd.out.mono ?_; rintro e w' ⟨rfl, rfl⟩) | (go_at_call 16; refine (flagsOf _ _).mono ?_; rintro e w' ⟨rfl, rfl⟩))
                go_roundw
                case rel => exact ⟨k + 1, by omega, by go_num, BB2⟩
                case measure => simp [intOf]; omega
            · by_cases e1 : k + 1 = M
              · have hw := HWk.out.2.2.1 e0 e1
                have f0 : ((k : Int) == 0) = false := by rw [beq_eq_false_iff_ne]; omega
                have f1 : ((k : Int) == (M : Int) - 1) = true := by rw [beq_iff_eq]; omega
                rw [hw] at d6'
                clear hw e0 e1 HWk
                go_wp2_with (first | (go_at_call 17; refine CBd.out.mono ?_; rintro e w' ⟨rfl, rfl⟩) | (go_at_call 16; refine (flagsOf _ _).mono ?_; rintro e w' ⟨rfl, rfl⟩))
                go_roundw
                case rel => exact ⟨k + 1, by omega, by go_num, BB2⟩
                case measure => simp [intOf]; omega
              · have hw := HWk.out.2.2.2 e0 e1
                have f0 : ((k : Int) == 0) = false := by rw [beq_eq_false_iff_ne]; omega
                have f1 : ((k : Int) == (M : Int) - 1) = false := by rw [beq_eq_false_iff_ne]; omega
                rw [hw] at d6'
                clear hw e0 e1 HWk
                go_wp2_with (first | (go_at_call 17; refine CBd.out.mono ?_; rintro e w' ⟨rfl, rfl⟩) | (go_at_call 16; refine (flagsOf _ _).mono ?_; rintro e w' ⟨rfl, rfl⟩))
                go_roundw
                case rel => exact ⟨k + 1, by omega, by go_num, BB2⟩
                case measure => simp [intOf]; omega
          · go_wp2_with fail
            go_ret
            exact ⟨rfl, B2.out.trans (BB.out.mono B2.out.size)⟩
      · have g1' : decide ((131072 : Int) < (m : Int)) = true := by rw [decide_eq_true_eq]; omega
        go_wp2_with fail
        go_ret
        exact ⟨rfl, Below.refl _ _⟩
    · have g1' : decide ((1048576 : Int) < (p : Int)) = true := by rw [decide_eq_true_eq]; omega
      go_wp2_with fail
      go_ret
      exact ⟨rfl, Below.refl _ _⟩
  · have g1' : decide ((1048576 : Int) < (n : Int)) = true := by rw [decide_eq_true_eq]; omega
    go_wp2_with fail
    go_ret
    exact ⟨rfl, Below.refl _ _⟩
set_option maxRecDepth 100000 in
set_option maxHeartbeats 1000000 in
theorem lawBig (A B D : Option Addr) (n c m d p q : Nat) (z : Nat → Int) (T : Nat → ByteArray) (y : Nat → Int) (w : World) (I : In A B D n m p z T y w) (h : 1048576 < n) :
    Calls Try.prog 4 #[.slice A n c, .slice B m d, .slice D p q] w (Ok w) := by
  have H10 := Lib.hid (bytes10 A B D n c m d p q T w I.r2 I.hn I.hm I.hp I.hT)
  have hn := I.hn
  unfold maxLen at hn
  clear I
  have g1' : decide ((1048576 : Int) < (n : Int)) = true := by rw [decide_eq_true_eq]; omega
  go_enter Try.func4, Try.ntmps4
  go_wp2_with fail
  refine H10.out.mono ?_
  rintro e w' ⟨b1, hb1, rfl, rfl⟩
  clear H10 hb1
  cases b1
  all_goals
    go_wp2_with fail
    go_ret
    exact ⟨rfl, Below.refl _ _⟩
end Go.Proofs.Ytpbdfdmocaojgaa.MA

/- FnTurnPercentIntoNumberIfShorterRefuses: the walk. -/
import Derived.Test.YtpbmjomfapnpnaaFmtPb
namespace Go.Proofs.YtpbmjomfapnpnaaFmt.PA
open Go Go.RowKit
set_option linter.unusedVariables false
/-- An e or an E stands in the text. -/
def HasE (s : ByteArray) : Prop := ∃ (p : Nat) (hp : p < s.size), (s[p]'hp).toNat = 101 ∨ (s[p]'hp).toNat = 69
def ExpP (s : ByteArray) (w : World) (e : Ending) (w' : World) : Prop := ∃ b : Bool, e = .returned (.bool b) ∧ (b = true → HasE s) ∧ w = w'
set_option maxRecDepth 100000 in
set_option maxHeartbeats 1000000 in
theorem hasExp (s : ByteArray) (w : World) (hs : s.size ≤ 1048576) : Calls Tryf.prog 5 #[.string s] w (ExpP s w) := by
  go_enter Tryf.func5, Tryf.ntmps5
  go_wp2_with fail
  go_loop [3] (fun v => ∃ i : Nat, i ≤ s.size ∧ v = .int .i64 i) (fun v => s.size - (intOf v).toNat)
  case atStart => exact ⟨0, Nat.zero_le _, rfl⟩
  case round =>
    obtain ⟨i, hi, rfl⟩ := hrel
    by_cases hlt : i < s.size
    · have q1 : (0 : Int) ≤ (i : Int) := by omega
      have q2 : (i : Int) < (s.size : Int) := by omega
      by_cases h1 : (s[i]'hlt).toNat = 101
      · have e1 : ((((s[i]'hlt).toNat : Nat) : Int) == 101) = true := by rw [beq_iff_eq]; omega
        have HE := Lib.hid (show HasE s from ⟨i, hlt, .inl h1⟩)
        clear h1
        go_wp2_with fail
        go_ret
        exact ⟨_, rfl, fun _ => HE.out, rfl⟩
      · have e1 : ((((s[i]'hlt).toNat : Nat) : Int) == 101) = false := by rw [beq_eq_false_iff_ne]; omega
        by_cases h2 : (s[i]'hlt).toNat = 69
        · have e2 : ((((s[i]'hlt).toNat : Nat) : Int) == 69) = true := by rw [beq_iff_eq]; omega
          have HE := Lib.hid (show HasE s from ⟨i, hlt, .inr h2⟩)
          clear h1 h2
          go_wp2_with fail
          go_ret
          exact ⟨_, rfl, fun _ => HE.out, rfl⟩
        · have e2 : ((((s[i]'hlt).toNat : Nat) : Int) == 69) = false := by rw [beq_eq_false_iff_ne]; omega
          clear h1 h2
          go_wp2_with fail
          go_round
          case rel => exact ⟨i + 1, by omega, by go_num⟩
          case measure => simp [intOf]; omega
    · go_wp2_with fail
      go_ret
      exact ⟨_, rfl, fun h => (by cases h), rfl⟩
set_option maxRecDepth 100000 in
theorem shiftNo (s : ByteArray) (w : World) (hs : s.size ≤ 1048576) (h : HasE s) :
    Calls Tryf.prog 8 #[.string s, .int .i64 (-2)] w fun e w' => e = .returned (.tuple #[.string ⟨#[]⟩, .bool false]) ∧ Below w.heap.size w w' := by
  obtain ⟨p, hp, hb⟩ := h
  have H := Lib.hid (cont s p hp hs hb w)
  clear hb
  go_enter Tryf.func8, Tryf.ntmps8
  go_wp2_with fail
  refine H.out.mono ?_
  rintro e w1 ⟨rfl, hb⟩
  have HB := Lib.hid hb
  clear hb
  go_wp2
  go_ret2
  exact ⟨rfl, HB.out⟩
def tkn (k : Int) (s : ByteArray) : Value := .agg #[.pointer none, .string s, .int .i32 0, .int .u32 0, .int .u16 0, .int .u8 k, .int .u8 1]
set_option maxRecDepth 100000 in
theorem pval (k : Int) (s : ByteArray) (w : World) (hs : s.size ≤ 1048576) (h : 0 < s.size) :
    Calls Tryf.prog 9 #[tkn k s] w fun e w' => e = .returned (.string (s.extract 0 (s.size - 1))) ∧ Below w.heap.size w w' := by
  unfold tkn
  have q1 : (0 : Int) ≤ (s.size : Int) - 1 := by omega
  have q2 : (s.size : Int) - 1 ≤ (s.size : Int) := by omega
  have q3 : ((s.size : Int) - 1).toNat = s.size - 1 := by omega
  go_enter Tryf.func9, Tryf.ntmps9
  go_wp2
  go_ret
  exact ⟨rfl, (Below.refl _ _).alloc (Nat.le_refl _) _⟩
/-- A token's cells in memory. -/
def At (w : World) (b : Nat) (k : Int) (s : ByteArray) : Prop :=
  w.cell? ⟨b, 0, none⟩ = some (.pointer none) ∧ w.cell? ⟨b, 1, none⟩ = some (.string s) ∧ w.cell? ⟨b, 2, none⟩ = some (.int .i32 0) ∧ w.cell? ⟨b, 3, none⟩ = some (.int .u32 0) ∧ w.cell? ⟨b, 4, none⟩ = some (.int .u16 0) ∧ w.cell? ⟨b, 5, none⟩ = some (.int .u8 k) ∧ w.cell? ⟨b, 6, none⟩ = some (.int .u8 1) ∧ b < w.heap.size
theorem At.below {w w' : World} {b : Nat} {k : Int} {s : ByteArray} (h : At w b k s) (hb : Below w.heap.size w w') : At w' b k s := by
  obtain ⟨h0, h1, h2, h3, h4, h5, h6, h7⟩ := h
  exact ⟨by rw [hb.cell h7]; exact h0, by rw [hb.cell h7]; exact h1, by rw [hb.cell h7]; exact h2, by rw [hb.cell h7]; exact h3, by rw [hb.cell h7]; exact h4, by rw [hb.cell h7]; exact h5, by rw [hb.cell h7]; exact h6, Nat.lt_of_lt_of_le h7 hb.size⟩
set_option maxRecDepth 100000 in
set_option maxHeartbeats 1000000 in
theorem turn (b : Nat) (k : Int) (s : ByteArray) (w : World) (hA : At w b k s) (hs : s.size ≤ 1048576) (h : k = 34 → 0 < s.size ∧ HasE (s.extract 0 (s.size - 1))) :
    Calls Tryf.prog 7 #[.pointer (some ⟨b, 0, none⟩)] w fun e w' => e = .returned (.tuple #[]) ∧ Below w.heap.size w w' := by
  obtain ⟨h0, h1, h2, h3, h4, h5, h6, h7⟩ := hA
  by_cases hk : k = 34
  · obtain ⟨hp, hE⟩ := h hk
    subst hk
    have PV := Lib.hid (pval 34 s w hs hp)
    have hsz : (s.extract 0 (s.size - 1)).size ≤ 1048576 := by rw [ByteArray.size_extract]; omega
    have SN := Lib.hid (fun W => shiftNo (s.extract 0 (s.size - 1)) W hsz hE)
    clear h hE
    unfold tkn at PV
    generalize s.extract 0 (s.size - 1) = x at *
    go_enter Tryf.func7, Tryf.ntmps7
    go_wp2_with fail
    refine PV.out.mono ?_
    rintro e w1 ⟨rfl, hb⟩
    have B1 := Lib.hid hb
    clear hb
    go_wp2_with fail
    refine (SN.out _).mono ?_
    rintro e w2 ⟨rfl, hb⟩
    have B2 := Lib.hid (B1.out.trans (hb.mono B1.out.size))
    clear hb
    go_wp2_with fail
    go_end0
    exact ⟨rfl, B2.out⟩
  · have e1 : (k == 34) = false := by rw [beq_eq_false_iff_ne]; exact hk
    clear h hk
    go_enter Tryf.func7, Tryf.ntmps7
    go_wp2_with fail
    go_end0
    exact ⟨rfl, Below.refl _ _⟩
set_option maxRecDepth 100000 in
theorem turnZ (b : Nat) (k : Int) (s : ByteArray) (w : World) (hA : At w b k s) (hs : s.size ≤ 1048576) (h : k = 34 → 0 < s.size ∧ HasE (s.extract 0 (s.size - 1))) :
    Calls Tryf.prog 6 #[.pointer (some ⟨b, 0, none⟩)] w fun e w' => e = .returned (.tuple #[]) ∧ Below w.heap.size w w' := by
  have H := Lib.hid (turn b k s w hA hs h)
  clear hA h
  go_enter Tryf.func6, Tryf.ntmps6
  go_wp2_with fail
  refine H.out.mono ?_
  rintro e w1 ⟨rfl, hb⟩
  have B1 := Lib.hid hb
  clear hb
  go_wp2_with fail
  go_end0
  exact ⟨rfl, B1.out⟩
def SomeBool (w : World) (e : Ending) (w' : World) : Prop := ∃ b : Bool, e = .returned (.bool b) ∧ w = w'
set_option maxRecDepth 100000 in
theorem bytes4 (k : Int) (s : ByteArray) (w : World) (hs : s.size ≤ maxLen) : Calls Tryf.prog 4 #[.int .u8 k, .string s] w (SomeBool w) := by
  unfold maxLen at hs
  by_cases h : s.size ≤ 1048576
  all_goals
    go_enter Tryf.func4, Tryf.ntmps4
    go_wp2
    go_ret
    exact ⟨_, rfl, rfl⟩
set_option maxRecDepth 100000 in
set_option maxHeartbeats 2000000 in
theorem law3 (k : Int) (s : ByteArray) (w : World) (_hk : (Lit.int .u8 k).wf = true) (hs : s.size ≤ maxLen) :
    Calls Tryf.prog 3 #[.int .u8 k, .string s] w fun e w' => e = .returned (.bool true) ∧ Below w.heap.size w w' := by
  have H4 := Lib.hid (bytes4 k s w hs)
  unfold maxLen at hs
  have bld := fun w => (show (Instr.build 32 #[(5, .int .u8 k), (1, .string s), (6, .int .u8 1)]).run Tryf.prog w = .ok (.agg #[.pointer none, .string s, .int .i32 0, .int .u32 0, .int .u16 0, .int .u8 k, .int .u8 1]) w from run_build w 32 _ _ (by kernel_rfl))
  go_enter Tryf.func3, Tryf.ntmps3
  go_wp2_with fail
  refine H4.out.mono ?_
  rintro e w' ⟨b1, rfl, rfl⟩
  clear H4
  cases b1
  · go_wp2_with fail
    go_ret
    exact ⟨rfl, Below.refl _ _⟩
  by_cases hn : s.size ≤ 65536
  · have TZ := Lib.hid (fun (W : World) (b : Nat) (hA : At W b k s) (h : k = 34 → 0 < s.size ∧ HasE (s.extract 0 (s.size - 1))) => turnZ b k s W hA (by omega) h)
    have AT := Lib.hid (show At (w.alloc (.cells #[.pointer none, .string s, .int .i32 0, .int .u32 0, .int .u16 0, .int .u8 k, .int .u8 1] 32)) w.heap.size k s from ⟨by simp [go_sem], by simp [go_sem], by simp [go_sem], by simp [go_sem], by simp [go_sem], by simp [go_sem], by simp [go_sem], by simp⟩)
    have B0 := Lib.hid (show Below w.heap.size w (w.alloc (.cells #[.pointer none, .string s, .int .i32 0, .int .u32 0, .int .u16 0, .int .u8 k, .int .u8 1] 32)) from (Below.refl _ _).alloc (Nat.le_refl _) _)
    by_cases hk : k = 34
    · subst hk
      by_cases h0 : s.size = 0
      · have e0 : ((s.size : Int) == 0) = true := by rw [beq_iff_eq]; omega
        go_wp2_with fail
        go_ret
        exact ⟨rfl, Below.refl _ _⟩
      · have e0 : ((s.size : Int) == 0) = false := by rw [beq_eq_false_iff_ne]; omega
        have q1 : (0 : Int) ≤ (s.size : Int) - 1 := by omega
        have q2 : (s.size : Int) - 1 ≤ (s.size : Int) := by omega
        have q3 : ((s.size : Int) - 1).toNat = s.size - 1 := by omega
        have hsz : (s.extract 0 (s.size - 1)).size ≤ 1048576 := by rw [ByteArray.size_extract]; omega
        have HX := Lib.hid (hasExp (s.extract 0 (s.size - 1)) w hsz)
        go_wp2_with fail
        refine HX.out.mono ?_
        rintro e w1 ⟨bx, rfl, hbx, rfl⟩
        have HB := Lib.hid hbx
        clear hbx HX
        cases bx
        · go_wp2_with fail
          go_ret
          exact ⟨rfl, Below.refl _ _⟩
        · go_wp2_with fail
          refine (TZ.out _ _ AT.out (fun _ => ⟨by omega, HB.out (by simp)⟩)).mono ?_
          rintro e w2 ⟨rfl, hb2⟩
          obtain ⟨y0, y1, y2, y3, y4, y5, y6, y7⟩ := AT.out.below hb2
          have B2 := Lib.hid (B0.out.trans (hb2.mono B0.out.size))
          clear hb2 TZ AT B0
          go_wp2_with fail
          go_ret
          exact ⟨by first | rfl | simp, B2.out⟩
    · have e1 : (k == 34) = false := by rw [beq_eq_false_iff_ne]; exact hk
      have HK := Lib.hid hk
      clear hk
      go_wp2_with fail
      refine (TZ.out _ _ AT.out (fun h => absurd h HK.out)).mono ?_
      rintro e w2 ⟨rfl, hb2⟩
      obtain ⟨y0, y1, y2, y3, y4, y5, y6, y7⟩ := AT.out.below hb2
      have B2 := Lib.hid (B0.out.trans (hb2.mono B0.out.size))
      clear hb2 TZ AT B0
      go_wp2_with fail
      go_ret
      exact ⟨by first | rfl | simp, B2.out⟩
  · go_wp2_with fail
    go_ret
    exact ⟨rfl, Below.refl _ _⟩
end Go.Proofs.YtpbmjomfapnpnaaFmt.PA

/- isSafeWith and TokensEqualIgnoringWhitespace. Printed by gen_co.py. -/
import Derived.Test.YtnolnlekdlfeaaaDoorCr
namespace Go.Proofs.YtnolnlekdlfeaaaDoor.ZT
open Go.RowKit Go.Proofs.YtnolnlekdlfeaaaDoor.TB
set_option linter.unusedVariables false
set_option linter.unusedSimpArgs false
set_option maxRecDepth 100000 in
set_option maxHeartbeats 2000000 in
theorem safe17 (U U' : ByteArray) (s s' : Int) (w : World) : Calls Tryd.prog 35 #[.agg #[.string U, .int .u8 s], .agg #[.string U', .int .u8 s']] w fun e w' => e = .returned (.bool (safe U s U' s')) ∧ Below w.heap.size w w' := by
  have B0 := Lib.hid (fun (o o' : Obj) => show Below w.heap.size w ((w.alloc o).alloc o') from ((Below.refl _ _).alloc (Nat.le_refl _) _).alloc (by simp) _)
  unfold safe
  cases h1 : (s == s') <;> cases h4 : (U.toList == U'.toList)
  all_goals
    go_enter Tryd.func35, Tryd.ntmps35
    go_wp2
  all_goals
    go_ret
    exact ⟨by simp_all [bne], B0.out _ _⟩
theorem sizeSC (w : World) (b : Nat) (vs : List Value) : ∀ o, (w.setCells b o vs).heap.size = w.heap.size := by
  induction vs generalizing w with
  | nil => intro o; rfl
  | cons v r ih => intro o; rw [World.setCells, ih]; simp
/-- Two lists of tokens agree in kinds and texts. -/
def eqS (n m : Nat) (K : Nat → Int) (T : Nat → ByteArray) (K' : Nat → Int) (T' : Nat → ByteArray) : Bool := n == m && (List.range n).all fun i => eqT (K i) (K' i) (T i) (T' i)
theorem eqS_no {n m : Nat} {K K' : Nat → Int} {T T' : Nat → ByteArray} {i : Nat} (hi : i < n) (h : eqT (K i) (K' i) (T i) (T' i) = false) : eqS n m K T K' T' = false := by
  unfold eqS
  rw [Bool.and_eq_false_iff]
  refine .inr ?_
  rw [List.all_eq_false]
  exact ⟨i, List.mem_range.2 hi, by simp [h]⟩
theorem eqS_yes {n : Nat} {K K' : Nat → Int} {T T' : Nat → ByteArray} (h : ∀ i, i < n → eqT (K i) (K' i) (T i) (T' i) = true) : eqS n n K T K' T' = true := by
  unfold eqS
  rw [Bool.and_eq_true, List.all_eq_true]
  exact ⟨by simp, fun i hi => h i (List.mem_range.1 hi)⟩
theorem eqS_ne {n m : Nat} {K K' : Nat → Int} {T T' : Nat → ByteArray} (h : ((n : Int) != (m : Int)) = true) : eqS n m K T K' T' = false := by
  unfold eqS
  have : (n == m) = false := by
    rw [beq_eq_false_iff_ne]
    intro e
    subst e
    simp at h
  rw [this]; rfl
set_option maxRecDepth 100000 in
set_option maxHeartbeats 4000000 in
theorem same19 (A B : Option Addr) (n m ca cb : Nat) (K K' : Nat → Int) (T T' : Nat → ByteArray) (Wa Wb L L' : Nat → Int) (w : World) (hn : n ≤ 100000) (hA : TR w A n (tc K T Wa L)) (hB : TR w B m (tc K' T' Wb L')) :
    Calls Tryd.prog 34 #[.slice A n ca, .slice B m cb] w fun e w' => e = .returned (.bool (eqS n m K T K' T')) ∧ Below w.heap.size w w' := by
  have HA := Lib.hid hA
  have HB := Lib.hid hB
  clear hA hB
  cases hnm : ((n : Int) != (m : Int))
  case true =>
    have E0 := Lib.hid (eqS_ne (K := K) (K' := K') (T := T) (T' := T') hnm)
    have B0 := Lib.hid (Below.refl w.heap.size w)
    go_enter Tryd.func34, Tryd.ntmps34
    go_wp2
    go_ret
    exact ⟨by rw [E0.out]; rfl, B0.out⟩
  case false =>
    have e : n = m := by
      simp at hnm
      omega
    subst e
    clear hnm
    have hnn : ((n : Int) != (n : Int)) = false := by simp
    have START := Lib.hid (Below.refl w.heap.size w)
    go_enter Tryd.func34, Tryd.ntmps34
    go_wp2
    go_loopw [14] (fun i wr => ∃ k : Nat, k ≤ n ∧ i = .int .i64 k ∧ Hid (Below w.heap.size w wr) ∧ Hid (∀ i, i < k → eqT (K i) (K' i) (T i) (T' i) = true)) (fun i _ => n - (intOf i).toNat)
    case atStart => exact ⟨0, Nat.zero_le _, rfl, START, Lib.hid (fun i h => absurd h (by omega))⟩
    case round =>
      obtain ⟨k, hk, rfl, BB, AL⟩ := hrel
      by_cases hlt : k < n
      · obtain ⟨b, o, eA, hbl, hcA⟩ := (HA.out.below BB.out) (by omega)
        subst eA
        have q0 : (0 : Int) ≤ (k : Int) := by omega
        have q1 : (k : Int) < (n : Int) := by omega
        have x0 : wr.cell? ⟨b, o + k * 7, none⟩ = some (.pointer none) := hcA k 0 hlt (by omega)
        have x1 : wr.cell? ⟨b, o + k * 7 + 1, none⟩ = some (.string (T k)) := hcA k 1 hlt (by omega)
        have x2 : wr.cell? ⟨b, o + k * 7 + 2, none⟩ = some (.int .i32 (L k)) := hcA k 2 hlt (by omega)
        have x3 : wr.cell? ⟨b, o + k * 7 + 3, none⟩ = some (.int .u32 0) := hcA k 3 hlt (by omega)
        have x4 : wr.cell? ⟨b, o + k * 7 + 4, none⟩ = some (.int .u16 0) := hcA k 4 hlt (by omega)
        have x5 : wr.cell? ⟨b, o + k * 7 + 5, none⟩ = some (.int .u8 (K k)) := hcA k 5 hlt (by omega)
        have x6 : wr.cell? ⟨b, o + k * 7 + 6, none⟩ = some (.int .u8 (Wa k)) := hcA k 6 hlt (by omega)
        clear hcA
        have hbl2 : ¬ b = wr.heap.size := by omega
        have hbl3 : ¬ wr.heap.size = b := by omega
        go_upto_region 6 with fail
        have CB := Lib.hid (show Blk (wr.alloc (.cells #[.pointer none, .string (T k), .int .i32 (L k), .int .u32 0, .int .u16 0, .int .u8 (K k), .int .u8 (Wa k)] 47)) wr.heap.size 47 #[.pointer none, .string (T k), .int .i32 (L k), .int .u32 0, .int .u16 0, .int .u8 (K k), .int .u8 (Wa k)] from Blk.new wr 47 _)
        have RB := Lib.hid (show Below w.heap.size w (wr.alloc (.cells #[.pointer none, .string (T k), .int .i32 (L k), .int .u32 0, .int .u16 0, .int .u8 (K k), .int .u8 (Wa k)] 47)) from BB.out.alloc BB.out.size _)
        have hcb : wr.heap.size < (wr.alloc (.cells #[.pointer none, .string (T k), .int .i32 (L k), .int .u32 0, .int .u16 0, .int .u8 (K k), .int .u8 (Wa k)] 47)).heap.size := by simp
        clear x0 x1 x2 x3 x4 x5 x6 BB hbl hbl2 hbl3
        generalize wr.alloc (.cells #[.pointer none, .string (T k), .int .i32 (L k), .int .u32 0, .int .u16 0, .int .u8 (K k), .int .u8 (Wa k)] 47) = W1 at *
        generalize wr.heap.size = gb at *
        obtain ⟨b', o', eB, hbl', hcB⟩ := (HB.out.below RB.out) (by omega)
        subst eB
        have HCB := Lib.hid hcB
        clear hcB
        go_cut [25] (fun s wx => s = .bool (!eqT (K k) (K' k) (T k) (T' k)) ∧ Hid (Below W1.heap.size W1 wx))
        case first =>
          have START := Lib.hid (show SJ W1 gb 0 b' (o' + k * 7) (T k) (L k) (K k) (Wa k) (T' k) (L' k) (K' k) (Wb k) W1.drew from ⟨(Below.refl _ _).drew, hcb, hbl', CB.out.cell 0, CB.out.cell 1, CB.out.cell 2, CB.out.cell 3, CB.out.cell 4, CB.out.cell 5, CB.out.cell 6, HCB.out k 0 hlt (by omega), HCB.out k 1 hlt (by omega), HCB.out k 2 hlt (by omega), HCB.out k 3 hlt (by omega), HCB.out k 4 hlt (by omega), HCB.out k 5 hlt (by omega), HCB.out k 6 hlt (by omega)⟩)
          have STEP := Lib.hid (fun w1 w2 (h : SJ W1 gb 0 b' (o' + k * 7) (T k) (L k) (K k) (Wa k) (T' k) (L' k) (K' k) (Wb k) w1) (hb : Below w1.heap.size w1 w2) => h.step hb)
          go_region_held3 (fun w' => Below W1.heap.size W1 w' ∧ gb < W1.heap.size ∧ b' < W1.heap.size ∧ w'.cell? ⟨gb, 0, none⟩ = some (.pointer none) ∧ w'.cell? ⟨gb, 1, none⟩ = some (.string (T k)) ∧ w'.cell? ⟨gb, 2, none⟩ = some (.int .i32 (L k)) ∧ w'.cell? ⟨gb, 3, none⟩ = some (.int .u32 0) ∧ w'.cell? ⟨gb, 4, none⟩ = some (.int .u16 0) ∧ w'.cell? ⟨gb, 5, none⟩ = some (.int .u8 (K k)) ∧ w'.cell? ⟨gb, 6, none⟩ = some (.int .u8 (Wa k)) ∧ w'.cell? ⟨b', o' + k * 7, none⟩ = some (.pointer none) ∧ w'.cell? ⟨b', o' + k * 7 + 1, none⟩ = some (.string (T' k)) ∧ w'.cell? ⟨b', o' + k * 7 + 2, none⟩ = some (.int .i32 (L' k)) ∧ w'.cell? ⟨b', o' + k * 7 + 3, none⟩ = some (.int .u32 0) ∧ w'.cell? ⟨b', o' + k * 7 + 4, none⟩ = some (.int .u16 0) ∧ w'.cell? ⟨b', o' + k * 7 + 5, none⟩ = some (.int .u8 (K' k)) ∧ w'.cell? ⟨b', o' + k * 7 + 6, none⟩ = some (.int .u8 (Wb k)))
            (first | assumption | exact START.out)
            (first | (go_at_call 27; refine (equal32 _ _ _ _ _ _ _ _ _).mono ?_; rintro e_ w9 ⟨rfl, hb9⟩; have hI := STEP.out _ _ (by assumption) hb9; clear hb9; unfold SJ at hI))
          all_goals
            go_wp2_with fail
            go_meet
            exact ⟨rfl, Lib.hid (And.left (show SJ W1 gb 0 b' (o' + k * 7) (T k) (L k) (K k) (Wa k) (T' k) (L' k) (K' k) (Wb k) w9 by assumption))⟩
        case rest =>
          obtain ⟨rfl, hbc⟩ := hcut
          have RB2 := Lib.hid (RB.out.trans (hbc.out.mono RB.out.size))
          clear hbc CB RB hcb hbl' HCB
          cases he : eqT (K k) (K' k) (T k) (T' k)
          case true =>
            have AL2 := Lib.hid (show ∀ i, i < k + 1 → eqT (K i) (K' i) (T i) (T' i) = true from fun i hi => by
              rcases Nat.lt_or_eq_of_le (Nat.le_of_lt_succ hi) with h1 | h1
              · exact AL.out i h1
              · rw [h1]; exact he)
            clear he AL
            go_wp2_with fail
            go_roundw
            case rel => exact ⟨k + 1, by omega, by go_num, RB2, AL2⟩
            case measure => simp [intOf]; omega
          case false =>
            have NO := Lib.hid (eqS_no (m := n) hlt he)
            clear he
            go_wp2_with fail
            go_ret
            exact ⟨by rw [NO.out]; rfl, RB2.out⟩
      · obtain rfl : n = k := by omega
        have YES := Lib.hid (eqS_yes AL.out)
        have hnk : ¬ (n : Int) < (n : Int) := by omega
        go_wp2_with fail
        go_ret
        exact ⟨by rw [YES.out]; rfl, BB.out⟩
end Go.Proofs.YtnolnlekdlfeaaaDoor.ZT

/- processAnimationName and the small functions of n011_154, walked. -/
import Derived.Test.YtcmdokiicicghaaDoorHa
namespace Go.Proofs.YtcmdokiicicghaaDoor.WA
open Go Go.RowKit Go.Lib Go.Proofs.YtcmdokiicicghaaDoor.MP Go.Proofs.YtcmdokiicicghaaDoor.SY Go.Proofs.YtcmdokiicicghaaDoor.LO Go.Proofs.YtcmdokiicicghaaDoor.TB Go.Proofs.YtcmdokiicicghaaDoor.OW
set_option linter.unusedVariables false
def cnv (ml : Bool) (K : Nat → Int) (T : Nat → ByteArray) (i : Nat) : Bool := (decide (K i = 29) || decide (K i = 36)) && cv ml (K i) (T i)
/-- A pass over the tokens of a table. -/
def PassP (W0 w : World) (tb n pb mb : Nat) (ml : Bool) (c : Nat → Bool) (K : Nat → Int) (T : Nat → ByteArray) (e : Ending) (w' : World) : Prop :=
  e = .returned (.tuple #[]) ∧ St W0 w' pb mb ml (Lt c T n) ∧ Tab w' tb TT 7 n (tkp c K T n) ∧ Oth tb w w'
section
variable {W0 w : World} {tb n pb mb : Nat} {ml : Bool} {K : Nat → Int} {T : Nat → ByteArray}
theorem row_facts {c : Nat → Bool} {k : Nat} (h : Tab w tb TT 7 n (tkp c K T k)) (hk : k < n) :
    w.cell? ⟨tb, k * 7, none⟩ = some (.pointer none) ∧ w.cell? ⟨tb, k * 7 + 1, none⟩ = some (.string (T k)) ∧ w.cell? ⟨tb, k * 7 + 2, none⟩ = some (.int .i32 0) ∧ w.cell? ⟨tb, k * 7 + 3, none⟩ = some (.int .u32 0) ∧
    w.cell? ⟨tb, k * 7 + 4, none⟩ = some (.int .u16 0) ∧ w.cell? ⟨tb, k * 7 + 5, none⟩ = some (.int .u8 (K k)) ∧ w.cell? ⟨tb, k * 7 + 6, none⟩ = some (.int .u8 0) := by
  have e : ∀ j, tkp c K T k k j = tkc K T (fun _ => 0) k j := fun j => by unfold tkp; rw [if_neg (by omega)]
  have g := fun j (hj : j < 7) => (h.cell hk hj).trans (congrArg some (e j))
  exact ⟨g 0 (by omega), g 1 (by omega), g 2 (by omega), g 3 (by omega), g 4 (by omega), g 5 (by omega), g 6 (by omega)⟩
set_option maxRecDepth 100000 in
set_option maxHeartbeats 4000000 in
theorem passN (hT : Tabs W0) (hS : St W0 w pb mb ml []) (hB : Tab w tb TT 7 n (tkc K T (fun _ => 0))) (htb : W0.heap.size ≤ tb) (hs : ∀ i, i < n → (T i).size ≤ 1048576) (hn : n ≤ 4096) :
    Calls Tryd.prog 27 #[.pointer (some ⟨pb, 0, none⟩), .slice (some ⟨tb, 0, none⟩) n n] w (PassP W0 w tb n pb mb ml (cnv ml K T) K T) := by
  have HT := Lib.hid hT
  have HZ := Lib.hid hs
  have S0 := Lib.hid hS
  have B0 : Hid (Tab w tb TT 7 n (tkp (cnv ml K T) K T 0)) := by rw [tkp_zero]; exact Lib.hid hB
  clear hT hS hB hs
  go_enter Tryd.func27, Tryd.ntmps27
  go_wp2_with fail
  go_loopw [8] (fun i wr => ∃ k : Nat, k ≤ n ∧ i = .int .i64 k ∧ Hid (Tab wr tb TT 7 n (tkp (cnv ml K T) K T k)) ∧ Hid (St W0 wr pb mb ml (Lt (cnv ml K T) T k)) ∧ Hid (Oth tb w wr)) (fun i _ => n - (intOf i).toNat)
  case atStart => exact ⟨0, Nat.zero_le _, rfl, B0, S0, Lib.hid (Oth.refl _ _)⟩
  case round =>
    obtain ⟨k, hk, rfl, BB, SS, OO⟩ := hrel
    clear B0 S0
    by_cases hlt : k < n
    · obtain ⟨y0, y1, y2, y3, y4, y5, y6⟩ := row_facts BB.out hlt
      have hsk := HZ.out k hlt
      have q1 : (0 : Int) ≤ (k : Int) := by omega
      have q2 : (k : Int) < (n : Int) := by omega
      have htl := BB.out.lt
      have r1 : tb ≠ wr.heap.size := by omega
      have SA := Lib.hid (SS.out.alloc (.cells #[.pointer none, .string (T k), .int .i32 0, .int .u32 0, .int .u16 0, .int .u8 (K k), .int .u8 0] TT))
      have BA := Lib.hid (BB.out.alloc (.cells #[.pointer none, .string (T k), .int .i32 0, .int .u32 0, .int .u16 0, .int .u8 (K k), .int .u8 0] TT))
      have OA := Lib.hid (OO.out.trans (Oth.below (tb := tb) ((Below.refl wr.heap.size wr).alloc (Nat.le_refl _) (.cells #[.pointer none, .string (T k), .int .i32 0, .int .u32 0, .int .u16 0, .int .u8 (K k), .int .u8 0] TT))))
      have HL := Lib.hid (Lt_small (cnv ml K T) T k)
      have e1 : Hid (tkp (cnv ml K T) K T k k 1 = .string (T k)) := Lib.hid (by unfold tkp; rw [if_neg (by omega)]; rfl)
      have e2 : Hid (tkp (cnv ml K T) K T k k 2 = .int .i32 0) := Lib.hid (by unfold tkp; rw [if_neg (by omega)]; rfl)
      have e3 : Hid (∃ p : Int, tkp (cnv ml K T) K T k k 3 = .int .u32 p) := Lib.hid ⟨0, by unfold tkp; rw [if_neg (by omega)]; rfl⟩
      have e5 : Hid (tkp (cnv ml K T) K T k k 5 = .int .u8 (K k)) := Lib.hid (by unfold tkp; rw [if_neg (by omega)]; rfl)
      by_cases hkk : K k = 29 ∨ K k = 36
      · cases hc : cv ml (K k) (T k)
        · have hcn : Hid (cnv ml K T k = false) := Lib.hid (by unfold cnv; rw [hc]; simp)
          have hkk' : K k = 29 ∨ (K k = 36 ∧ ml = false) := by
            unfold cv at hc
            by_cases h : K k = 29 ∨ (K k = 36 ∧ ml = false)
            · exact h
            · rw [if_neg h] at hc; cases hc
          have hr : resB (T k).data.toList = true := by
            unfold cv at hc
            rw [if_pos hkk'] at hc
            simpa using hc
          have HX := Lib.hid (fun (w1 : World) (hS : St W0 w1 pb mb ml (Lt (cnv ml K T) T k)) (hB : Tab w1 tb TT 7 n (tkp (cnv ml K T) K T k)) => hs_no HT.out hS hB hlt e1.out e5.out hsk hkk' hr)
          clear hc hkk' hr
          have c29 : ((K k == 29) = true) ∨ ((K k == 29) = false ∧ (K k == 36) = true) := by
            rcases hkk with h | h
            · left; simp [h]
            · right; simp [h]
          clear hkk
          rcases c29 with c29 | ⟨c29, c36⟩
          all_goals
            go_wp2_with (
              go_at_call 36
              refine (HX.out _ SA.out BA.out).mono ?_
              rintro e w2 ⟨rfl, hS2, hB2, hO2⟩
              have S2 := Lib.hid hS2
              have B2 := Lib.hid hB2
              have O2 := Lib.hid (OA.out.trans hO2)
              clear hS2 hB2 hO2 SA BA OA y0 y1 y2 y3 y4 y5 y6)
            go_roundw
            case rel => exact ⟨k + 1, by omega, by go_num, Lib.hid (tkp_no B2.out hcn.out), by rw [Lt_no hcn.out]; exact S2, O2⟩
            case measure => simp [intOf]; omega
        · have hcn : Hid (cnv ml K T k = true) := Lib.hid (by unfold cnv; rw [hc]; simpa using hkk)
          have HX := Lib.hid (fun (w1 : World) (hS : St W0 w1 pb mb ml (Lt (cnv ml K T) T k)) (hB : Tab w1 tb TT 7 n (tkp (cnv ml K T) K T k)) => hs_yes k HT.out hS hB hlt e1.out e2.out e3.out e5.out hsk hkk hc htb HL.out (by omega))
          clear hc
          have c29 : ((K k == 29) = true) ∨ ((K k == 29) = false ∧ (K k == 36) = true) := by
            rcases hkk with h | h
            · left; simp [h]
            · right; simp [h]
          clear hkk
          rcases c29 with c29 | ⟨c29, c36⟩
          all_goals
            go_wp2_with (
              go_at_call 36
              refine (HX.out _ SA.out BA.out).mono ?_
              rintro e w2 ⟨rfl, hS2, hB2, hO2⟩
              have S2 := Lib.hid hS2
              have B2 := Lib.hid hB2
              have O2 := Lib.hid (OA.out.trans hO2)
              clear hS2 hB2 hO2 SA BA OA y0 y1 y2 y3 y4 y5 y6)
            go_roundw
            case rel => exact ⟨k + 1, by omega, by go_num, Lib.hid (tkp_yes B2.out hcn.out), by rw [Lt_yes hcn.out]; exact S2, O2⟩
            case measure => simp [intOf]; omega
      · have hcn : Hid (cnv ml K T k = false) := Lib.hid (by unfold cnv; simp only [not_or] at hkk; simp [hkk.1, hkk.2])
        have c29 : (K k == 29) = false := beq_eq_false_iff_ne.2 (fun h => hkk (.inl h))
        have c36 : (K k == 36) = false := beq_eq_false_iff_ne.2 (fun h => hkk (.inr h))
        clear hkk
        go_wp2_with fail
        go_roundw
        case rel => exact ⟨k + 1, by omega, by go_num, Lib.hid (tkp_no BA.out hcn.out), by rw [Lt_no hcn.out]; exact SA, OA⟩
        case measure => simp [intOf]; omega
    · obtain rfl : k = n := by omega
      go_wp2_with fail
      go_end0
      exact ⟨rfl, SS.out, BB.out, OO.out⟩
end
end Go.Proofs.YtcmdokiicicghaaDoor.WA

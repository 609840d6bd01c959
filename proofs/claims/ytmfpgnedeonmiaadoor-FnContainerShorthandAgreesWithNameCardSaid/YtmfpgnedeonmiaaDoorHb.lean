/- processContainerShorthand and processContainerName, walked. -/
import Derived.Test.YtmfpgnedeonmiaaDoorHa
namespace Go.Proofs.YtmfpgnedeonmiaaDoor.WA
open Go Go.RowKit Go.Lib Go.Proofs.YtmfpgnedeonmiaaDoor.MP Go.Proofs.YtmfpgnedeonmiaaDoor.SY Go.Proofs.YtmfpgnedeonmiaaDoor.LO Go.Proofs.YtmfpgnedeonmiaaDoor.TB Go.Proofs.YtmfpgnedeonmiaaDoor.OW
set_option linter.unusedVariables false
/-- Which tokens become symbols: the names that are not reserved, among the first j. -/
def cvt (acc : Bool) (j : Nat) (T : Nat → ByteArray) (i : Nat) : Bool := acc && decide (i < j) && !resB (T i).data.toList
theorem cvt_in {j : Nat} {T : Nat → ByteArray} {i : Nat} (h : i < j) : cvt true j T i = !resB (T i).data.toList := by simp [cvt, h]
theorem cvt_off (acc : Bool) {j : Nat} {T : Nat → ByteArray} {i : Nat} (h : j ≤ i) : cvt acc j T i = false := by
  have : ¬ i < j := by omega
  simp [cvt, this]
theorem cvt_no (j : Nat) (T : Nat → ByteArray) (i : Nat) : cvt false j T i = false := rfl
theorem Lt_stay {c : Nat → Bool} {T : Nat → ByteArray} (a : Nat) : ∀ b, a ≤ b → (∀ i, a ≤ i → i < b → c i = false) → Lt c T b = Lt c T a
  | 0, h, _ => by obtain rfl : a = 0 := by omega
                  rfl
  | b + 1, h, hc => by
    by_cases e : a = b + 1
    · rw [e]
    · rw [Lt_no (hc b (by omega) (by omega)), Lt_stay a b (by omega) (fun i h1 h2 => hc i h1 (by omega))]
theorem tkp_stay {c : Nat → Bool} {K : Nat → Int} {T : Nat → ByteArray} {w : World} {g n a b : Nat} (h : Tab w g TT 7 n (tkp c K T a)) (hab : a ≤ b) (hc : ∀ i, a ≤ i → i < b → c i = false) : Tab w g TT 7 n (tkp c K T b) := by
  refine h.ext fun i j hi hj => ?_
  unfold tkp
  by_cases e1 : i < a
  · rw [if_pos e1, if_pos (by omega)]
  · rw [if_neg e1]
    by_cases e2 : i < b
    · rw [if_pos e2]
      have := hc i (by omega) e2
      simp [tkc, Kt, Pt, this]
    · rw [if_neg e2]
/-- A pass over the tokens of a table of N rows. -/
def PassP (X : Nat → Prop) (W0 w : World) (tb N pb mb : Nat) (ml : Bool) (c : Nat → Bool) (K : Nat → Int) (T : Nat → ByteArray) (e : Ending) (w' : World) : Prop :=
  e = .returned (.tuple #[]) ∧ St X W0 w' pb mb ml (Lt c T N) ∧ Tab w' tb TT 7 N (tkp c K T N) ∧ Oth X w w'
section
variable {X : Nat → Prop} {W0 w : World} {tb n N cp j pb mb : Nat} {ml acc : Bool} {K : Nat → Int} {T : Nat → ByteArray}
theorem row_facts {c : Nat → Bool} {k : Nat} (h : Tab w tb TT 7 N (tkp c K T k)) (hk : k < N) :
    w.cell? ⟨tb, k * 7, none⟩ = some (.pointer none) ∧ w.cell? ⟨tb, k * 7 + 1, none⟩ = some (.string (T k)) ∧ w.cell? ⟨tb, k * 7 + 2, none⟩ = some (.int .i32 0) ∧ w.cell? ⟨tb, k * 7 + 3, none⟩ = some (.int .u32 0) ∧
    w.cell? ⟨tb, k * 7 + 4, none⟩ = some (.int .u16 0) ∧ w.cell? ⟨tb, k * 7 + 5, none⟩ = some (.int .u8 (K k)) ∧ w.cell? ⟨tb, k * 7 + 6, none⟩ = some (.int .u8 0) := by
  have e : ∀ j, tkp c K T k k j = tkc K T (fun _ => 0) k j := fun j => by unfold tkp; rw [if_neg (by omega)]
  have g := fun j (hj : j < 7) => (h.cell hk hj).trans (congrArg some (e j))
  exact ⟨g 0 (by omega), g 1 (by omega), g 2 (by omega), g 3 (by omega), g 4 (by omega), g 5 (by omega), g 6 (by omega)⟩
theorem row_facts0 {k : Nat} (h : Tab w tb TT 7 N (tkc K T (fun _ => 0))) (hk : k < N) :
    w.cell? ⟨tb, k * 7, none⟩ = some (.pointer none) ∧ w.cell? ⟨tb, k * 7 + 1, none⟩ = some (.string (T k)) ∧ w.cell? ⟨tb, k * 7 + 2, none⟩ = some (.int .i32 0) ∧ w.cell? ⟨tb, k * 7 + 3, none⟩ = some (.int .u32 0) ∧
    w.cell? ⟨tb, k * 7 + 4, none⟩ = some (.int .u16 0) ∧ w.cell? ⟨tb, k * 7 + 5, none⟩ = some (.int .u8 (K k)) ∧ w.cell? ⟨tb, k * 7 + 6, none⟩ = some (.int .u8 0) := by
  have g := fun j (hj : j < 7) => h.cell hk hj
  exact ⟨g 0 (by omega), g 1 (by omega), g 2 (by omega), g 3 (by omega), g 4 (by omega), g 5 (by omega), g 6 (by omega)⟩
theorem tab_zero {c : Nat → Bool} (h : Tab w tb TT 7 N (tkc K T (fun _ => 0))) : Tab w tb TT 7 N (tkp c K T 0) := by rw [tkp_zero]; exact h
theorem pass_refused (hS : St X W0 w pb mb ml []) (hB : Tab w tb TT 7 N (tkc K T (fun _ => 0))) {w' : World} (hb : Below w.heap.size w w') : PassP X W0 w tb N pb mb ml (cvt false j T) K T (.returned (.tuple #[])) w' := by
  have e : Lt (cvt false j T) T N = [] := Lt_stay 0 N (Nat.zero_le _) (fun i _ _ => rfl)
  refine ⟨rfl, by rw [e]; exact hS.below hb, ?_, Oth.below hS.top hb⟩
  exact tkp_stay (a := 0) (by rw [tkp_zero]; exact hB.below hb hB.lt) (Nat.zero_le _) (fun i _ _ => rfl)
theorem pass_done {w' : World} (hj : j ≤ N) (hS : St X W0 w' pb mb ml (Lt (cvt true j T) T j)) (hB : Tab w' tb TT 7 N (tkp (cvt true j T) K T j)) (hO : Oth X w w') : PassP X W0 w tb N pb mb ml (cvt true j T) K T (.returned (.tuple #[])) w' := by
  refine ⟨rfl, ?_, tkp_stay hB hj (fun i h _ => cvt_off true h), hO⟩
  rw [Lt_stay j N hj (fun i h _ => cvt_off true h)]
  exact hS
set_option maxRecDepth 100000 in
set_option maxHeartbeats 4000000 in
theorem passH (hT : Tabs W0) (hS : St X W0 w pb mb ml []) (hB : Tab w tb TT 7 N (tkc K T (fun _ => 0))) (htb : W0.heap.size ≤ tb) (hx : X tb) (hs : ∀ i, i < n → (T i).size ≤ 1048576) (hn : n ≤ 1048578) (hnN : n ≤ N)
    (hj : j ≤ n) (hid : ∀ i, i < j → K i = 29) (hend : j < n → K j ≠ 29) (hacc : acc = true ↔ (j = n ∨ (j + 2 = n ∧ K j = 24 ∧ K (j + 1) = 29))) :
    Calls Tryd.prog 22 #[.pointer (some ⟨pb, 0, none⟩), .slice (some ⟨tb, 0, none⟩) n cp] w (PassP X W0 w tb N pb mb ml (cvt acc j T) K T) := by
  have HT := Lib.hid hT
  have HZ := Lib.hid hs
  have S0 := Lib.hid hS
  have B0 := Lib.hid hB
  have HX := Lib.hid hx
  have HI := Lib.hid hid
  have HE := Lib.hid hend
  have HA := Lib.hid hacc
  clear hT hS hB hs hx hid hend hacc
  go_enter Tryd.func22, Tryd.ntmps22
  go_wp2_with fail
  go_loopw [10] (fun i wr => ∃ k : Nat, k ≤ j ∧ i = .int .i64 k ∧ Hid (Below w.heap.size w wr)) (fun i _ => n - (intOf i).toNat)
  case atStart => exact ⟨0, Nat.zero_le _, rfl, Lib.hid (Below.refl _ _)⟩
  case round =>
    obtain ⟨k, hk, rfl, BW⟩ := hrel
    have q1 : (0 : Int) ≤ (k : Int) := by omega
    by_cases hkj : k < j
    · obtain ⟨y0, y1, y2, y3, y4, y5, y6⟩ := row_facts0 (B0.out.below BW.out B0.out.lt) (show k < N by omega)
      have h29 := HI.out k hkj
      rw [h29] at y5
      have q2 : (k : Int) < (n : Int) := by omega
      have htl := (B0.out.below BW.out B0.out.lt).lt
      have r1 : tb ≠ wr.heap.size := by omega
      go_wp2_with fail
      go_roundw
      case rel => exact ⟨k + 1, by omega, by go_num, Lib.hid (BW.out.alloc BW.out.size _)⟩
      case measure => simp [intOf]; omega
    · obtain rfl : k = j := by omega
      by_cases hkn : k < n
      · obtain ⟨y0, y1, y2, y3, y4, y5, y6⟩ := row_facts0 (B0.out.below BW.out B0.out.lt) (show k < N by omega)
        have hne : (K k == 29) = false := beq_eq_false_iff_ne.2 (HE.out hkn)
        have q2 : (k : Int) < (n : Int) := by omega
        have htl := (B0.out.below BW.out B0.out.lt).lt
        have r1 : tb ≠ wr.heap.size := by omega
        have BA := Lib.hid (BW.out.alloc BW.out.size (.cells #[.pointer none, .string (T k), .int .i32 0, .int .u32 0, .int .u16 0, .int .u8 (K k), .int .u8 0] TT))
        cases acc with
        | false =>
          have hno : ¬ (k + 2 = n ∧ K k = 24 ∧ K (k + 1) = 29) := fun h => by have := HA.out.2 (.inr h); cases this
          by_cases h24 : K k = 24
          · have g24 : (K k == 24) = true := beq_iff_eq.2 h24
            by_cases h2 : k + 2 = n
            · have g2 : ((k : Int) + 2 == (n : Int)) = true := by rw [beq_iff_eq]; omega
              have h29' : (K (k + 1) == 29) = false := beq_eq_false_iff_ne.2 (fun h => hno ⟨h2, h24, h⟩)
              obtain ⟨-, -, -, -, -, v5, -⟩ := row_facts0 (B0.out.below BW.out B0.out.lt) (show k + 1 < N by omega)
              have q3 : (k : Int) + 1 < (n : Int) := by omega
              have q4 : (0 : Int) ≤ (k : Int) + 1 := by omega
              clear hno h24 h2
              go_wp2_with fail
              go_end0
              exact pass_refused S0.out B0.out BA.out
            · have g2 : ((k : Int) + 2 == (n : Int)) = false := by rw [beq_eq_false_iff_ne]; omega
              clear hno h24 h2
              go_wp2_with fail
              go_end0
              exact pass_refused S0.out B0.out BA.out
          · have g24 : (K k == 24) = false := beq_eq_false_iff_ne.2 h24
            clear hno h24
            go_wp2_with fail
            go_end0
            exact pass_refused S0.out B0.out BA.out
        | true =>
          obtain ⟨h2, h24, h29'⟩ : k + 2 = n ∧ K k = 24 ∧ K (k + 1) = 29 := (HA.out.1 rfl).resolve_left (by omega)
          have g24 : (K k == 24) = true := beq_iff_eq.2 h24
          have g29' : (K (k + 1) == 29) = true := beq_iff_eq.2 h29'
          have g2 : ((k : Int) + 2 == (n : Int)) = true := by rw [beq_iff_eq]; omega
          obtain ⟨-, -, -, -, -, v5, -⟩ := row_facts0 (B0.out.below BW.out B0.out.lt) (show k + 1 < N by omega)
          have q3 : (k : Int) + 1 < (n : Int) := by omega
          have q4 : (0 : Int) ≤ (k : Int) + 1 := by omega
          clear h24 h29'
          go_wp2_with fail
          have SA := Lib.hid (S0.out.below BA.out)
          have TA := Lib.hid (tab_zero (c := cvt true k T) (B0.out.below BA.out B0.out.lt))
          have OA := Lib.hid (Oth.below S0.out.top BA.out)
          clear BA BW S0 B0
          go_loopw [40] (fun i wr => ∃ q : Nat, q ≤ k ∧ i = .int .i64 q ∧ Hid (Tab wr tb TT 7 N (tkp (cvt true k T) K T q)) ∧ Hid (St X W0 wr pb mb ml (Lt (cvt true k T) T q)) ∧ Hid (Oth X w wr)) (fun i _ => n - (intOf i).toNat)
          case atStart => exact ⟨0, Nat.zero_le _, rfl, TA, SA, OA⟩
          case round =>
            obtain ⟨q, hq, rfl, BB, SS, OO⟩ := hrel
            clear SA TA OA
            have p1 : (0 : Int) ≤ (q : Int) := by omega
            by_cases hqk : q < k
            · obtain ⟨z0, z1, z2, z3, z4, z5, z6⟩ := row_facts BB.out (show q < N by omega)
              have g29 := HI.out q hqk
              have G29 := Lib.hid g29
              rw [g29] at z5
              clear g29
              have p2 : (q : Int) < (n : Int) := by omega
              have htl := BB.out.lt
              have r9 : tb ≠ wr.heap.size := by omega
              have SA := Lib.hid (SS.out.alloc (.cells #[.pointer none, .string (T q), .int .i32 0, .int .u32 0, .int .u16 0, .int .u8 29, .int .u8 0] TT))
              have TA := Lib.hid (BB.out.alloc (.cells #[.pointer none, .string (T q), .int .i32 0, .int .u32 0, .int .u16 0, .int .u8 29, .int .u8 0] TT))
              have OA := Lib.hid (OO.out.trans (Oth.below SS.out.top ((Below.refl wr.heap.size wr).alloc (Nat.le_refl _) (.cells #[.pointer none, .string (T q), .int .i32 0, .int .u32 0, .int .u16 0, .int .u8 29, .int .u8 0] TT))))
              have HL := Lib.hid (Lt_small (cvt true k T) T q)
              have e1 : Hid (tkp (cvt true k T) K T q q 1 = .string (T q)) := Lib.hid (by unfold tkp; rw [if_neg (by omega)]; rfl)
              have e2 : Hid (tkp (cvt true k T) K T q q 2 = .int .i32 0) := Lib.hid (by unfold tkp; rw [if_neg (by omega)]; rfl)
              have e3 : Hid (∃ p : Int, tkp (cvt true k T) K T q q 3 = .int .u32 p) := Lib.hid ⟨0, by unfold tkp; rw [if_neg (by omega)]; rfl⟩
              have e5 : Hid (tkp (cvt true k T) K T q q 5 = .int .u8 29) := Lib.hid (by unfold tkp; rw [if_neg (by omega), ← G29.out]; rfl)
              cases hr : resB (T q).data.toList
              · have hcn : Hid (cvt true k T q = true) := Lib.hid (by rw [cvt_in hqk, hr]; rfl)
                have HXX := Lib.hid (fun (w1 : World) (hS : St X W0 w1 pb mb ml (Lt (cvt true k T) T q)) (hB : Tab w1 tb TT 7 N (tkp (cvt true k T) K T q)) => hs_yes q HT.out hS hB (show q < N by omega) e1.out e2.out e3.out e5.out (HZ.out q (by omega)) hr htb HX.out HL.out (by omega))
                clear hr
                go_wp2_with (
                  go_at_call 26
                  refine (HXX.out _ SA.out TA.out).mono ?_
                  rintro e w2 ⟨rfl, hS2, hB2, hO2⟩
                  have S2 := Lib.hid hS2
                  have B2 := Lib.hid hB2
                  have O2 := Lib.hid (OA.out.trans hO2)
                  clear hS2 hB2 hO2 SA TA OA z0 z1 z2 z3 z4 z5 z6)
                go_roundw
                case rel => exact ⟨q + 1, by omega, by go_num, Lib.hid (tkp_yes B2.out hcn.out), by rw [Lt_yes hcn.out]; exact S2, O2⟩
                case measure => simp [intOf]; omega
              · have hcn : Hid (cvt true k T q = false) := Lib.hid (by rw [cvt_in hqk, hr]; rfl)
                have HXX := Lib.hid (fun (w1 : World) (hS : St X W0 w1 pb mb ml (Lt (cvt true k T) T q)) (hB : Tab w1 tb TT 7 N (tkp (cvt true k T) K T q)) => hs_no HT.out hS hB (show q < N by omega) e1.out (HZ.out q (by omega)) hr)
                clear hr
                go_wp2_with (
                  go_at_call 26
                  refine (HXX.out _ SA.out TA.out).mono ?_
                  rintro e w2 ⟨rfl, hS2, hB2, hO2⟩
                  have S2 := Lib.hid hS2
                  have B2 := Lib.hid hB2
                  have O2 := Lib.hid (OA.out.trans hO2)
                  clear hS2 hB2 hO2 SA TA OA z0 z1 z2 z3 z4 z5 z6)
                go_roundw
                case rel => exact ⟨q + 1, by omega, by go_num, Lib.hid (tkp_no B2.out hcn.out), by rw [Lt_no hcn.out]; exact S2, O2⟩
                case measure => simp [intOf]; omega
            · have hqe : q = k := by omega
              rw [hqe] at BB SS
              have hqn : k < n := by omega
              have TK := BB.out
              obtain ⟨z0, z1, z2, z3, z4, z5, z6⟩ := row_facts TK (show k < N by omega)
              have hne' : (K k == 29) = false := beq_eq_false_iff_ne.2 (HE.out hqn)
              have p2 : (k : Int) < (n : Int) := by omega
              have htl := TK.lt
              have r9 : tb ≠ wr.heap.size := by omega
              subst hqe
              clear TK
              go_wp2_with fail
              go_end0
              exact pass_done (by omega) (SS.out.alloc _) (BB.out.alloc _) (OO.out.trans (Oth.below SS.out.top ((Below.refl wr.heap.size wr).alloc (Nat.le_refl _) _)))
      · have hkn' : k = n := by omega
        obtain rfl : acc = true := HA.out.2 (.inl hkn')
        have q2 : ¬ (k : Int) < (n : Int) := by omega
        clear hkn'
        have BA := BW
        go_wp2_with fail
        have SA := Lib.hid (S0.out.below BA.out)
        have TA := Lib.hid (tab_zero (c := cvt true k T) (B0.out.below BA.out B0.out.lt))
        have OA := Lib.hid (Oth.below S0.out.top BA.out)
        clear BA BW S0 B0
        go_loopw [40] (fun i wr => ∃ q : Nat, q ≤ k ∧ i = .int .i64 q ∧ Hid (Tab wr tb TT 7 N (tkp (cvt true k T) K T q)) ∧ Hid (St X W0 wr pb mb ml (Lt (cvt true k T) T q)) ∧ Hid (Oth X w wr)) (fun i _ => n - (intOf i).toNat)
        case atStart => exact ⟨0, Nat.zero_le _, rfl, TA, SA, OA⟩
        case round =>
          obtain ⟨q, hq, rfl, BB, SS, OO⟩ := hrel
          clear SA TA OA
          have p1 : (0 : Int) ≤ (q : Int) := by omega
          by_cases hqk : q < k
          · obtain ⟨z0, z1, z2, z3, z4, z5, z6⟩ := row_facts BB.out (show q < N by omega)
            have g29 := HI.out q hqk
            have G29 := Lib.hid g29
            rw [g29] at z5
            clear g29
            have p2 : (q : Int) < (n : Int) := by omega
            have htl := BB.out.lt
            have r9 : tb ≠ wr.heap.size := by omega
            have SA := Lib.hid (SS.out.alloc (.cells #[.pointer none, .string (T q), .int .i32 0, .int .u32 0, .int .u16 0, .int .u8 29, .int .u8 0] TT))
            have TA := Lib.hid (BB.out.alloc (.cells #[.pointer none, .string (T q), .int .i32 0, .int .u32 0, .int .u16 0, .int .u8 29, .int .u8 0] TT))
            have OA := Lib.hid (OO.out.trans (Oth.below SS.out.top ((Below.refl wr.heap.size wr).alloc (Nat.le_refl _) (.cells #[.pointer none, .string (T q), .int .i32 0, .int .u32 0, .int .u16 0, .int .u8 29, .int .u8 0] TT))))
            have HL := Lib.hid (Lt_small (cvt true k T) T q)
            have e1 : Hid (tkp (cvt true k T) K T q q 1 = .string (T q)) := Lib.hid (by unfold tkp; rw [if_neg (by omega)]; rfl)
            have e2 : Hid (tkp (cvt true k T) K T q q 2 = .int .i32 0) := Lib.hid (by unfold tkp; rw [if_neg (by omega)]; rfl)
            have e3 : Hid (∃ p : Int, tkp (cvt true k T) K T q q 3 = .int .u32 p) := Lib.hid ⟨0, by unfold tkp; rw [if_neg (by omega)]; rfl⟩
            have e5 : Hid (tkp (cvt true k T) K T q q 5 = .int .u8 29) := Lib.hid (by unfold tkp; rw [if_neg (by omega), ← G29.out]; rfl)
            cases hr : resB (T q).data.toList
            · have hcn : Hid (cvt true k T q = true) := Lib.hid (by rw [cvt_in hqk, hr]; rfl)
              have HXX := Lib.hid (fun (w1 : World) (hS : St X W0 w1 pb mb ml (Lt (cvt true k T) T q)) (hB : Tab w1 tb TT 7 N (tkp (cvt true k T) K T q)) => hs_yes q HT.out hS hB (show q < N by omega) e1.out e2.out e3.out e5.out (HZ.out q (by omega)) hr htb HX.out HL.out (by omega))
              clear hr
              go_wp2_with (
                go_at_call 26
                refine (HXX.out _ SA.out TA.out).mono ?_
                rintro e w2 ⟨rfl, hS2, hB2, hO2⟩
                have S2 := Lib.hid hS2
                have B2 := Lib.hid hB2
                have O2 := Lib.hid (OA.out.trans hO2)
                clear hS2 hB2 hO2 SA TA OA z0 z1 z2 z3 z4 z5 z6)
              go_roundw
              case rel => exact ⟨q + 1, by omega, by go_num, Lib.hid (tkp_yes B2.out hcn.out), by rw [Lt_yes hcn.out]; exact S2, O2⟩
              case measure => simp [intOf]; omega
            · have hcn : Hid (cvt true k T q = false) := Lib.hid (by rw [cvt_in hqk, hr]; rfl)
              have HXX := Lib.hid (fun (w1 : World) (hS : St X W0 w1 pb mb ml (Lt (cvt true k T) T q)) (hB : Tab w1 tb TT 7 N (tkp (cvt true k T) K T q)) => hs_no HT.out hS hB (show q < N by omega) e1.out (HZ.out q (by omega)) hr)
              clear hr
              go_wp2_with (
                go_at_call 26
                refine (HXX.out _ SA.out TA.out).mono ?_
                rintro e w2 ⟨rfl, hS2, hB2, hO2⟩
                have S2 := Lib.hid hS2
                have B2 := Lib.hid hB2
                have O2 := Lib.hid (OA.out.trans hO2)
                clear hS2 hB2 hO2 SA TA OA z0 z1 z2 z3 z4 z5 z6)
              go_roundw
              case rel => exact ⟨q + 1, by omega, by go_num, Lib.hid (tkp_no B2.out hcn.out), by rw [Lt_no hcn.out]; exact S2, O2⟩
              case measure => simp [intOf]; omega
          · have hqe : q = k := by omega
            rw [hqe] at BB SS
            have p2 : ¬ (q : Int) < (n : Int) := by omega
            go_wp2_with fail
            go_end0
            exact pass_done (by omega) SS.out BB.out OO.out
end
end Go.Proofs.YtmfpgnedeonmiaaDoor.WA

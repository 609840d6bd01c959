/- zzFlipASCIICase and FnIsInvalidAnimationNameIgnoresASCIICase, walked. -/
import Derived.Test.YtgojffmfadnojaaDoorXc
namespace Go.Proofs.YtgojffmfadnojaaDoor.WA
open Go.RowKit Go.Lib Go.Proofs.YtgojffmfadnojaaDoor.LO Go.Proofs.YtgojffmfadnojaaDoor.TB Go.Proofs.YtgojffmfadnojaaDoor.OW
set_option linter.unusedVariables false
def flipB (b : UInt8) : UInt8 := if isLowerB b then b - 32 else if isUpperB b then b + 32 else b
theorem flip_table : ∀ i : Fin 256, (let b := UInt8.ofNat i.val; (if b.toNat < 128 then (flipB b).toNat < 128 ∧ lowerB (flipB b) = lowerB b else flipB b = b) ∧ ((flipB b).toNat = if 97 ≤ b.toNat ∧ b.toNat ≤ 122 then b.toNat - 32 else if 65 ≤ b.toNat ∧ b.toNat ≤ 90 then b.toNat + 32 else b.toNat)) := by decide +kernel
theorem flip_at (b : UInt8) : (if b.toNat < 128 then (flipB b).toNat < 128 ∧ lowerB (flipB b) = lowerB b else flipB b = b) ∧ ((flipB b).toNat = if 97 ≤ b.toNat ∧ b.toNat ≤ 122 then b.toNat - 32 else if 65 ≤ b.toNat ∧ b.toNat ≤ 90 then b.toNat + 32 else b.toNat) := by
  have h := flip_table ⟨b.toNat, b.toNat_lt⟩
  simpa using h
theorem head_flip (l : List UInt8) (c : UInt8) (hc : 128 ≤ c.toNat) : (l.map flipB).head? = some c ↔ l.head? = some c := by
  cases l with
  | nil => simp
  | cons b l =>
    simp only [List.map_cons, List.head?_cons, Option.some.injEq]
    have h := (flip_at b).1
    by_cases hb : b.toNat < 128
    · rw [if_pos hb] at h
      constructor
      · intro e; rw [e] at h; omega
      · intro e; rw [e] at hb; omega
    · rw [if_neg hb] at h; rw [h]
theorem FM_flip : ∀ (n : Nat) (l : List UInt8), l.length ≤ n → FM (l.map flipB) = FM l := by
  intro n
  induction n with
  | zero =>
    intro l h
    have : l = [] := List.eq_nil_of_length_eq_zero (by omega)
    subst this
    rfl
  | succ n ih =>
    intro l h
    cases l with
    | nil => rfl
    | cons b l =>
      simp only [List.length_cons] at h
      have t1 : l.tail.length ≤ l.length := by simp
      have t2 : l.tail.tail.length ≤ l.length := by simp; omega
      have hb := (flip_at b).1
      rw [List.map_cons, FM_cons, FM_cons, ← List.map_tail, ← List.map_tail, ih l (by omega), ih l.tail (by omega), ih l.tail.tail (by omega)]
      by_cases h128 : b.toNat < 128
      · rw [if_pos h128] at hb
        rw [if_pos hb.1, if_pos h128, hb.2]
      · rw [if_neg h128] at hb
        rw [hb, if_neg h128, if_neg h128]
        simp only [head_flip l 176 (by decide), head_flip l 132 (by decide), head_flip l.tail 170 (by decide)]
theorem resB_flip (l : List UInt8) : resB (l.map flipB) = resB l := by unfold resB; rw [FM_flip l.length l (Nat.le_refl _)]
/-- A block of bytes: those below k are the string's, flipped; the others 0. -/
def fz (s : ByteArray) (k : Nat) : Nat → Nat → Value := fun i _ => .int .u8 (if i < k then ((flipB (s.data.toList.getD i 0)).toNat : Int) else 0)
theorem fz_step {w : World} {g n k : Nat} {s : ByteArray} (h : Tab w g 5 1 n (fz s k)) (hk : k < n) : Tab (w.setCell ⟨g, k, none⟩ (.int .u8 ((flipB (s.data.toList.getD k 0)).toNat : Int))) g 5 1 n (fz s (k + 1)) := by
  have h1 := h.set hk (j := 0) (by omega) (.int .u8 ((flipB (s.data.toList.getD k 0)).toNat : Int))
  rw [Nat.mul_one, Nat.add_zero] at h1
  refine h1.ext fun i j hi hj => ?_
  obtain rfl : j = 0 := by omega
  unfold upd fz
  by_cases e : i = k
  · subst e; simp
  · rw [if_neg (by rintro ⟨h, -⟩; exact e h)]
    by_cases h2 : i < k
    · rw [if_pos h2, if_pos (by omega)]
    · rw [if_neg h2, if_neg (by omega)]
theorem tab1 {w : World} {g t n : Nat} {f : Nat → Nat → Value} (h : Tab w g t 1 n f) {i : Nat} (hi : i < n) : w.cell? ⟨g, i, none⟩ = some (f i 0) := by
  have := h.cell hi (j := 0) (by omega)
  rwa [Nat.mul_one, Nat.add_zero] at this
def FlipP (s : ByteArray) (w : World) (e : Ending) (w' : World) : Prop := e = .returned (.string ⟨(s.data.toList.map flipB).toArray⟩) ∧ Below w.heap.size w w'
theorem getD_at (s : ByteArray) (k : Nat) (h : k < s.size) : s.data.toList.getD k 0 = s[k] := by
  rw [List.getD_eq_getElem?_getD, List.getElem?_eq_getElem (by rw [← Lib.size_eq]; exact h)]; rfl
set_option maxRecDepth 100000 in
set_option maxHeartbeats 2000000 in
theorem flip (s : ByteArray) (w : World) (hs : s.size ≤ 1048576) : Calls Tryd.prog 9 #[.string s] w (FlipP s w) := by
  obtain ⟨i0, hi, hz0, hz1, hz2⟩ := info_parts info5
  have hmk := fun (W : World) => run_make (P := Tryd.prog) W 26 5 i0 _ Tryd.underlying26 hi hz0 .i64 .i64 (s.size : Int) (s.size : Int) (by omega) (by omega) (by rw [hz2]; omega) (by omega)
  simp only [hz1, Int.toNat_natCast] at hmk
  have T0 := Lib.hid (Tab.new w 5 #[.int .u8 0] s.size 1 rfl (fz s 0) (fun i j _ hj => by (have h0 : j = 0 := by omega); subst h0; unfold fz; simp))
  have B0 := Lib.hid (show Below w.heap.size w (w.alloc (.cells (madeCells #[.int .u8 0] (s.size * 1)) 5)) from (Below.refl _ _).alloc (Nat.le_refl _) _)
  rw [Nat.mul_one] at T0 B0
  go_enter Tryd.func9, Tryd.ntmps9
  go_wp2_with fail
  generalize w.alloc (.cells (madeCells #[.int .u8 0] s.size) 5) = W0 at *
  clear hmk
  go_loopw [4] (fun i wr => ∃ k : Nat, k ≤ s.size ∧ i = .int .i64 k ∧ Hid (Tab wr w.heap.size 5 1 s.size (fz s k)) ∧ Hid (Below w.heap.size w wr)) (fun i _ => s.size - (intOf i).toNat)
  case atStart => exact ⟨0, Nat.zero_le _, rfl, T0, B0⟩
  case round =>
    obtain ⟨k, hk, rfl, TT, BB⟩ := hrel
    clear T0 B0
    by_cases hlt : k < s.size
    · have hx := s[k].toNat_lt
      have q1 : (0 : Int) ≤ (k : Int) := by omega
      have q2 : (k : Int) < (s.size : Int) := by omega
      have y0 := tab1 TT.out hlt
      have u0 := TT.out.frozen k
      have TS := fz_step TT.out hlt
      have hf := (flip_at s[k]).2
      rw [getD_at s k hlt] at TS
      by_cases hl : 97 ≤ s[k].toNat ∧ s[k].toNat ≤ 122
      · have ev : ((flipB s[k]).toNat : Int) = (s[k].toNat : Int) - 32 := by rw [hf, if_pos hl]; omega
        rw [ev] at TS
        have TT2 := Lib.hid TS
        have d1 : decide ((97 : Int) ≤ (s[k].toNat : Int)) = true := by rw [decide_eq_true_eq]; omega
        have d2 : decide ((s[k].toNat : Int) ≤ 122) = true := by rw [decide_eq_true_eq]; omega
        obtain ⟨l1, l2⟩ := hl
        clear hf ev TS
        go_wp2_with fail
        go_roundw
        case rel => exact ⟨k + 1, by omega, by go_num, TT2, Lib.hid (BB.out.setCell (Nat.le_refl _) _)⟩
        case measure => simp [intOf]; omega
      · by_cases hu : 65 ≤ s[k].toNat ∧ s[k].toNat ≤ 90
        · have ev : ((flipB s[k]).toNat : Int) = (s[k].toNat : Int) + 32 := by rw [hf, if_neg hl, if_pos hu]; omega
          rw [ev] at TS
          have TT2 := Lib.hid TS
          have d1 : decide ((97 : Int) ≤ (s[k].toNat : Int)) = false := by rw [decide_eq_false_iff_not]; omega
          have d3 : decide ((65 : Int) ≤ (s[k].toNat : Int)) = true := by rw [decide_eq_true_eq]; omega
          have d4 : decide ((s[k].toNat : Int) ≤ 90) = true := by rw [decide_eq_true_eq]; omega
          obtain ⟨l1, l2⟩ := hu
          clear hf ev TS hl
          go_wp2_with fail
          go_roundw
          case rel => exact ⟨k + 1, by omega, by go_num, TT2, Lib.hid (BB.out.setCell (Nat.le_refl _) _)⟩
          case measure => simp [intOf]; omega
        · have ev : ((flipB s[k]).toNat : Int) = (s[k].toNat : Int) := by rw [hf, if_neg hl, if_neg hu]
          rw [ev] at TS
          have TT2 := Lib.hid TS
          clear hf ev TS
          by_cases c1 : 97 ≤ s[k].toNat
          · have d1 : decide ((97 : Int) ≤ (s[k].toNat : Int)) = true := by rw [decide_eq_true_eq]; omega
            have d2 : decide ((s[k].toNat : Int) ≤ 122) = false := by rw [decide_eq_false_iff_not]; omega
            have d3 : decide ((65 : Int) ≤ (s[k].toNat : Int)) = true := by rw [decide_eq_true_eq]; omega
            have d4 : decide ((s[k].toNat : Int) ≤ 90) = false := by rw [decide_eq_false_iff_not]; omega
            clear hl hu
            go_wp2_with fail
            go_roundw
            case rel => exact ⟨k + 1, by omega, by go_num, TT2, Lib.hid (BB.out.setCell (Nat.le_refl _) _)⟩
            case measure => simp [intOf]; omega
          · have d1 : decide ((97 : Int) ≤ (s[k].toNat : Int)) = false := by rw [decide_eq_false_iff_not]; omega
            by_cases c2 : 65 ≤ s[k].toNat
            · have d3 : decide ((65 : Int) ≤ (s[k].toNat : Int)) = true := by rw [decide_eq_true_eq]; omega
              have d4 : decide ((s[k].toNat : Int) ≤ 90) = false := by rw [decide_eq_false_iff_not]; omega
              clear hl hu
              go_wp2_with fail
              go_roundw
              case rel => exact ⟨k + 1, by omega, by go_num, TT2, Lib.hid (BB.out.setCell (Nat.le_refl _) _)⟩
              case measure => simp [intOf]; omega
            · have d3 : decide ((65 : Int) ≤ (s[k].toNat : Int)) = false := by rw [decide_eq_false_iff_not]; omega
              clear hl hu
              go_wp2_with fail
              go_roundw
              case rel => exact ⟨k + 1, by omega, by go_num, TT2, Lib.hid (BB.out.setCell (Nat.le_refl _) _)⟩
              case measure => simp [intOf]; omega
    · obtain rfl : k = s.size := by omega
      have hl : (s.data.toList.map flipB).length = s.size := by rw [List.length_map, ← Lib.size_eq]
      have hcv : (convert 26 9 (.slice (some ⟨w.heap.size, 0, none⟩) s.size s.size)).run Tryd.prog wr = .ok (.string ⟨(s.data.toList.map flipB).toArray⟩) wr := by
        have h := run_convert_bytes_back (P := Tryd.prog) wr 26 9 5 ⟨w.heap.size, 0, none⟩ s.size (s.data.toList.map flipB) Tryd.underlying26 Tryd.underlying5 Tryd.underlying9 (fun j hj => by
          have hadd : (⟨w.heap.size, 0, none⟩ : Addr).add j = ⟨w.heap.size, j, none⟩ := by unfold Addr.add; split <;> simp_all
          rw [hl] at hj
          rw [hadd, tab1 TT.out hj]
          unfold fz
          rw [if_pos hj, getD_at s j hj, List.getElem_map]
          rfl)
        rw [hl] at h
        exact h
      clear hl
      go_wp2_with fail
      go_ret
      exact ⟨rfl, BB.out⟩
set_option maxRecDepth 100000 in
theorem bytes4 (s : ByteArray) (w : World) (hs : s.size ≤ maxLen) : Calls Tryd.prog 8 #[.string s] w (SomeBool w) := by
  unfold maxLen at hs
  by_cases h : s.size ≤ 1048576
  all_goals
    go_enter Tryd.func8, Tryd.ntmps8
    go_wp2
    go_ret
    exact ⟨_, rfl, rfl⟩
set_option maxRecDepth 100000 in
set_option maxHeartbeats 2000000 in
theorem law4 (s : ByteArray) (w : World) (hs : s.size ≤ maxLen) (hT : Tabs w) :
    Calls Tryd.prog 4 #[.string s] w fun e w' => e = .returned (.bool true) ∧ Below w.heap.size w w' := by
  have H4 := Lib.hid (bytes4 s w hs)
  have HT := Lib.hid hT
  unfold maxLen at hs
  clear hT
  by_cases hbig : 1048576 < s.size
  · go_enter Tryd.func4, Tryd.ntmps4
    go_wp2_with fail
    refine H4.out.mono ?_
    rintro e w' ⟨b1, rfl, rfl⟩
    cases b1
    all_goals
      go_wp2_with fail
      go_ret
      exact ⟨rfl, Below.refl _ _⟩
  have hs2 : s.size ≤ 1048576 := by omega
  have Z := Lib.hid (zz s w hs2 HT.out)
  have FL := Lib.hid (fun W => flip s W hs2)
  have hsz : (⟨(s.data.toList.map flipB).toArray⟩ : ByteArray).size ≤ 1048576 := by
    have e : (⟨(s.data.toList.map flipB).toArray⟩ : ByteArray).size = (s.data.toList.map flipB).length := Lib.size_eq _
    rw [e, List.length_map, ← Lib.size_eq]; exact hs2
  have Z2 := Lib.hid (fun W hW => zz ⟨(s.data.toList.map flipB).toArray⟩ W hsz hW)
  have er : resB (⟨(s.data.toList.map flipB).toArray⟩ : ByteArray).data.toList = resB s.data.toList := by
    have : (⟨(s.data.toList.map flipB).toArray⟩ : ByteArray).data.toList = s.data.toList.map flipB := by simp
    rw [this, resB_flip]
  rw [er] at Z2
  unfold FlipP at FL
  generalize resB s.data.toList = D at *
  generalize (⟨(s.data.toList.map flipB).toArray⟩ : ByteArray) = S at *
  clear er hsz
  go_enter Tryd.func4, Tryd.ntmps4
  go_wp2_with fail
  refine H4.out.mono ?_
  rintro e w' ⟨b1, rfl, rfl⟩
  cases b1
  · go_wp2_with fail
    go_ret
    exact ⟨rfl, Below.refl _ _⟩
  go_wp2_with fail
  refine Z.out.mono ?_
  rintro e w1 ⟨rfl, hb⟩
  have BB := Lib.hid hb
  clear hb
  go_wp2_with fail
  refine (FL.out w1).mono ?_
  rintro e w2 ⟨rfl, hb⟩
  have B2 := Lib.hid (BB.out.trans (hb.mono BB.out.size))
  clear hb
  go_wp2_with fail
  refine (Z2.out w2 (HT.out.below B2.out)).mono ?_
  rintro e w3 ⟨rfl, hb⟩
  have B3 := Lib.hid (B2.out.trans (hb.mono B2.out.size))
  clear hb
  go_wp2_with fail
  go_ret
  exact ⟨by cases D <;> rfl, B3.out⟩
end Go.Proofs.YtgojffmfadnojaaDoor.WA

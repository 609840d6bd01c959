/- zzFoldKeyword of n011_185. -/
import Derived.Test.YtmfpgnedeonmiaaDoorXa
import Derived.DataShut
namespace Go.Proofs.YtmfpgnedeonmiaaDoor.WA
open Go.RowKit Go.Lib Go.Proofs.YtmfpgnedeonmiaaDoor.LO Go.Proofs.YtmfpgnedeonmiaaDoor.TB Go.Proofs.YtmfpgnedeonmiaaDoor.OW
set_option linter.unusedVariables false
theorem info5 : (Tryd.prog.info? 5).map (fun i => (i.zero, i.size, i.bytes)) = some (some (.int .u8 0), 1, 1) := by kernel_rfl
theorem lowerB_nat (b : UInt8) : ((lowerB b).toNat : Int) = if 65 ≤ (b.toNat : Int) ∧ (b.toNat : Int) ≤ 90 then (b.toNat : Int) + 32 else b.toNat := by
  unfold lowerB isUpperB
  by_cases h : 65 ≤ b ∧ b ≤ 90
  · have h1 : 65 ≤ b.toNat := UInt8.le_iff_toNat_le.1 h.1
    have h2 : b.toNat ≤ 90 := UInt8.le_iff_toNat_le.1 h.2
    rw [if_pos (by simp [h]), if_pos (by omega), UInt8.toNat_add]
    have : (32 : UInt8).toNat = 32 := rfl
    omega
  · have h' : ¬ (65 ≤ b.toNat ∧ b.toNat ≤ 90) := fun hh => h ⟨UInt8.le_iff_toNat_le.2 hh.1, UInt8.le_iff_toNat_le.2 hh.2⟩
    rw [if_neg (by simpa using h), if_neg (by omega)]
def bv (l : List UInt8) : List Value := l.map fun b => .int .u8 (b.toNat : Int)
theorem bv_len (l : List UInt8) : (bv l).length = l.length := by simp [bv]
theorem bv_snoc (l : List UInt8) (b : UInt8) : bv l ++ [Value.int .u8 (b.toNat : Int)] = bv (l ++ [b]) := by simp [bv]
theorem drop_at (s : ByteArray) (k : Nat) (h : k < s.size) : s.data.toList.drop k = s[k] :: s.data.toList.drop (k + 1) := by
  rw [List.drop_eq_getElem_cons (by rw [← Lib.size_eq]; exact h)]; rfl
theorem drop_end (s : ByteArray) (k : Nat) (h : ¬ k < s.size) : s.data.toList.drop k = [] := List.drop_eq_nil_of_le (by rw [← Lib.size_eq]; omega)
/-- How far the fold has come. -/
def Inv (w : World) (s : ByteArray) (wr : World) (v : Value) (k : Nat) (acc : List UInt8) : Prop :=
  Own wr w.heap.size v (bv acc) ∧ Below w.heap.size w wr ∧ acc.length ≤ k ∧ FM s.data.toList = (FM (s.data.toList.drop k)).map (acc ++ ·)
theorem map_step {f : Option (List UInt8)} {acc : List UInt8} {c : UInt8} : (f.map (c :: ·)).map (acc ++ ·) = f.map ((acc ++ [c]) ++ ·) := by
  cases f <;> simp
def FoldP (s : ByteArray) (w : World) (e : Ending) (w' : World) : Prop :=
  e = .returned (match FM s.data.toList with
    | some f => .tuple #[.string ⟨f.toArray⟩, .bool true]
    | none => .tuple #[.string ⟨#[]⟩, .bool false]) ∧ Below w.heap.size w w'
set_option maxRecDepth 100000 in
set_option maxHeartbeats 4000000 in
theorem fold (s : ByteArray) (w : World) (hs : s.size ≤ 1048576) : Calls Tryd.prog 23 #[.string s] w (FoldP s w) := by
  obtain ⟨i5, hi5, hz50, hz51, hz52⟩ := info_parts info5
  have hmk := fun (W : World) => run_make (P := Tryd.prog) W 112 5 i5 _ Tryd.underlying112 hi5 hz50 .i64 .i64 0 (s.size : Int) (by omega) (by omega) (by rw [hz52]; omega) (by omega)
  simp only [hz51, Int.toNat_natCast, Int.toNat_zero] at hmk
  have O0 := Own.made (base := w.heap.size) w (madeCells #[.int .u8 0] (s.size * 1)) 5 (Nat.le_refl _) (by rw [size_madeCells]; unfold maxLen; omega)
  rw [size_madeCells, Nat.mul_one] at O0
  have I0 : Hid (Inv w s (w.alloc (.cells (madeCells #[.int .u8 0] s.size) 5)) (.slice (some ⟨w.heap.size, 0, none⟩) 0 s.size) 0 []) :=
    Lib.hid ⟨O0, (Below.refl _ _).alloc (Nat.le_refl _) _, Nat.le_refl _, by rw [List.drop_zero]; cases FM s.data.toList <;> simp⟩
  clear O0
  go_enter Tryd.func23, Tryd.ntmps23
  go_wp2_with fail
  generalize w.alloc (.cells (madeCells #[.int .u8 0] s.size) 5) = W0 at *
  clear hmk
  go_loopw [4, 5] (fun v i wr => ∃ (k : Nat) (acc : List UInt8), k ≤ s.size ∧ i = .int .i64 k ∧ Hid (Inv w s wr v k acc)) (fun _ i _ => s.size - (intOf i).toNat)
  case atStart => exact ⟨0, [], Nat.zero_le _, rfl, I0⟩
  case round =>
    obtain ⟨k, acc, hk, rfl, II⟩ := hrel
    clear I0
    by_cases hlt : k < s.size
    · have hx := s[k].toNat_lt
      have q1 : (0 : Int) ≤ (k : Int) := by omega
      have q2 : (k : Int) < (s.size : Int) := by omega
      have hdr := Lib.hid (drop_at s k hlt)
      by_cases h128 : s[k].toNat < 128
      · have q3 : (s[k].toNat : Int) < 128 := by omega
        have hb := lowerB_nat s[k]
        by_cases hu : 65 ≤ (s[k].toNat : Int) ∧ (s[k].toNat : Int) ≤ 90
        · rw [if_pos hu] at hb
          have HB := Lib.hid hb
          obtain ⟨u1, u2⟩ := hu
          have d1 : decide ((65 : Int) ≤ (s[k].toNat : Int)) = true := by rw [decide_eq_true_eq]; omega
          have d2 : decide ((s[k].toNat : Int) ≤ 90) = true := by rw [decide_eq_true_eq]; omega
          clear hb
          have EN : Hid (FM s.data.toList = (FM (s.data.toList.drop (k + 1))).map ((acc ++ [lowerB s[k]]) ++ ·)) := by
            apply Lib.hid
            rw [II.out.2.2.2]
            have hf : FM (s.data.toList.drop k) = (FM (s.data.toList.drop (k + 1))).map (lowerB s[k] :: ·) := by
              rw [hdr.out, FM_cons, if_pos h128]
            rw [hf, map_step]
          have HO := Lib.hid II.out.1
          have hlen : (bv acc).length ≤ 1099511627776 := by rw [bv_len]; have := II.out.2.2.1; omega
          go_wp2_with (at_builtin; refine wpList_own _ rfl (.tmp 27) (.tmp 29) 112 rfl w.heap.size 5 i5 (.int .u8 0) Tryd.underlying112 hi5 hz50 hz51 (by rw [hz52]; decide) rfl _ _ rfl (HO.out.alloc _) ⟨wr.heap.size, 0, none⟩ 1 (.int .u8 ((s[k].toNat : Int) + 32)) rfl (by simp [go_sem]) rfl hlen ?_)
          intro v' w' hO hG hB
          have hO' : Own w' w.heap.size v' (bv (acc ++ [lowerB s[k]])) := by rw [← bv_snoc]; first | exact hO | (rw [HB.out]; exact hO)
          have H4 := Go.Proofs.YtmfpgnedeonmiaaDoor.OW.below_grown (II.out.2.1.alloc II.out.2.1.size _) hG (fun q hq => (HO.out.lt q hq).1) (by have := II.out.2.1.size; simp; omega)
          have I3 : Hid (Inv w s w' v' (k + 1) (acc ++ [lowerB s[k]])) := Lib.hid ⟨hO', H4, by have := II.out.2.2.1; simp; omega, EN.out⟩
          clear hO hG hB hO' H4 HO EN
          go_wp2_with fail
          go_roundw
          case rel => exact ⟨k + 1, _, by omega, by go_num, I3⟩
          case measure => simp [intOf]; omega
        · rw [if_neg hu] at hb
          have HB := Lib.hid hb
          clear hb
          by_cases u1 : 65 ≤ (s[k].toNat : Int)
          · have d1 : decide ((65 : Int) ≤ (s[k].toNat : Int)) = true := by rw [decide_eq_true_eq]; omega
            have d2 : decide ((s[k].toNat : Int) ≤ 90) = false := by rw [decide_eq_false_iff_not]; omega
            clear hu
            have EN : Hid (FM s.data.toList = (FM (s.data.toList.drop (k + 1))).map ((acc ++ [lowerB s[k]]) ++ ·)) := by
              apply Lib.hid
              rw [II.out.2.2.2]
              have hf : FM (s.data.toList.drop k) = (FM (s.data.toList.drop (k + 1))).map (lowerB s[k] :: ·) := by
                rw [hdr.out, FM_cons, if_pos h128]
              rw [hf, map_step]
            have HO := Lib.hid II.out.1
            have hlen : (bv acc).length ≤ 1099511627776 := by rw [bv_len]; have := II.out.2.2.1; omega
            go_wp2_with (at_builtin; refine wpList_own _ rfl (.tmp 27) (.tmp 29) 112 rfl w.heap.size 5 i5 (.int .u8 0) Tryd.underlying112 hi5 hz50 hz51 (by rw [hz52]; decide) rfl _ _ rfl (HO.out.alloc _) ⟨wr.heap.size, 0, none⟩ 1 (.int .u8 ((s[k].toNat : Int))) rfl (by simp [go_sem]) rfl hlen ?_)
            intro v' w' hO hG hB
            have hO' : Own w' w.heap.size v' (bv (acc ++ [lowerB s[k]])) := by rw [← bv_snoc]; first | exact hO | (rw [HB.out]; exact hO)
            have H4 := Go.Proofs.YtmfpgnedeonmiaaDoor.OW.below_grown (II.out.2.1.alloc II.out.2.1.size _) hG (fun q hq => (HO.out.lt q hq).1) (by have := II.out.2.1.size; simp; omega)
            have I3 : Hid (Inv w s w' v' (k + 1) (acc ++ [lowerB s[k]])) := Lib.hid ⟨hO', H4, by have := II.out.2.2.1; simp; omega, EN.out⟩
            clear hO hG hB hO' H4 HO EN
            go_wp2_with fail
            go_roundw
            case rel => exact ⟨k + 1, _, by omega, by go_num, I3⟩
            case measure => simp [intOf]; omega
          · have d1 : decide ((65 : Int) ≤ (s[k].toNat : Int)) = false := by rw [decide_eq_false_iff_not]; omega
            clear hu
            have EN : Hid (FM s.data.toList = (FM (s.data.toList.drop (k + 1))).map ((acc ++ [lowerB s[k]]) ++ ·)) := by
              apply Lib.hid
              rw [II.out.2.2.2]
              have hf : FM (s.data.toList.drop k) = (FM (s.data.toList.drop (k + 1))).map (lowerB s[k] :: ·) := by
                rw [hdr.out, FM_cons, if_pos h128]
              rw [hf, map_step]
            have HO := Lib.hid II.out.1
            have hlen : (bv acc).length ≤ 1099511627776 := by rw [bv_len]; have := II.out.2.2.1; omega
            go_wp2_with (at_builtin; refine wpList_own _ rfl (.tmp 27) (.tmp 29) 112 rfl w.heap.size 5 i5 (.int .u8 0) Tryd.underlying112 hi5 hz50 hz51 (by rw [hz52]; decide) rfl _ _ rfl (HO.out.alloc _) ⟨wr.heap.size, 0, none⟩ 1 (.int .u8 ((s[k].toNat : Int))) rfl (by simp [go_sem]) rfl hlen ?_)
            intro v' w' hO hG hB
            have hO' : Own w' w.heap.size v' (bv (acc ++ [lowerB s[k]])) := by rw [← bv_snoc]; first | exact hO | (rw [HB.out]; exact hO)
            have H4 := Go.Proofs.YtmfpgnedeonmiaaDoor.OW.below_grown (II.out.2.1.alloc II.out.2.1.size _) hG (fun q hq => (HO.out.lt q hq).1) (by have := II.out.2.1.size; simp; omega)
            have I3 : Hid (Inv w s w' v' (k + 1) (acc ++ [lowerB s[k]])) := Lib.hid ⟨hO', H4, by have := II.out.2.2.1; simp; omega, EN.out⟩
            clear hO hG hB hO' H4 HO EN
            go_wp2_with fail
            go_roundw
            case rel => exact ⟨k + 1, _, by omega, by go_num, I3⟩
            case measure => simp [intOf]; omega
      · have q3 : ¬ (s[k].toNat : Int) < 128 := by omega
        have q3' : decide ((s[k].toNat : Int) < 128) = false := by rw [decide_eq_false_iff_not]; omega
        by_cases h196 : s[k] = 196
        · have n196 : s[k].toNat = 196 := by rw [h196]; rfl
          have e1 : ((s[k].toNat : Int) == 196) = true := by rw [beq_iff_eq]; omega
          have e2 : ((s[k].toNat : Int) == 226) = false := by rw [beq_eq_false_iff_ne]; omega
          by_cases h1 : k + 1 < s.size
          · have g1 : decide ((k : Int) + 1 < (s.size : Int)) = true := by rw [decide_eq_true_eq]; omega
            have g2 : (k : Int) + 1 < (s.size : Int) := by omega
            have g3 : (0 : Int) ≤ (k : Int) + 1 := by omega
            have g4 : ((k : Int) + 1).toNat = k + 1 := by omega
            have hdr1 := Lib.hid (drop_at s (k + 1) h1)
            by_cases h176 : s[k + 1] = 176
            · have e3 : ((s[k + 1].toNat : Int) == 176) = true := by rw [h176]; rfl
              have NN := Lib.hid n196
              clear n196
              have EN : Hid (FM s.data.toList = (FM (s.data.toList.drop (k + 2))).map ((acc ++ [(105 : UInt8)]) ++ ·)) := by
                apply Lib.hid
                rw [II.out.2.2.2]
                have hf : FM (s.data.toList.drop k) = (FM (s.data.toList.drop (k + 2))).map ((105 : UInt8) :: ·) := by
                  rw [hdr.out, FM_cons, if_neg h128, hdr1.out, if_pos ⟨h196, by simp [h176]⟩]; rfl
                rw [hf, map_step]
              have HO := Lib.hid II.out.1
              have hlen : (bv acc).length ≤ 1099511627776 := by rw [bv_len]; have := II.out.2.2.1; omega
              go_wp2_with (at_builtin; refine wpList_own _ rfl (.tmp 49) (.tmp 50) 112 rfl w.heap.size 5 i5 (.int .u8 0) Tryd.underlying112 hi5 hz50 hz51 (by rw [hz52]; decide) rfl _ _ rfl (HO.out.alloc _) ⟨wr.heap.size, 0, none⟩ 1 (.int .u8 (105)) rfl (by simp [go_sem]) rfl hlen ?_)
              intro v' w' hO hG hB
              have hO' : Own w' w.heap.size v' (bv (acc ++ [(105 : UInt8)])) := by rw [← bv_snoc]; first | exact hO | (rw [HB.out]; exact hO)
              have H4 := Go.Proofs.YtmfpgnedeonmiaaDoor.OW.below_grown (II.out.2.1.alloc II.out.2.1.size _) hG (fun q hq => (HO.out.lt q hq).1) (by have := II.out.2.1.size; simp; omega)
              have I3 : Hid (Inv w s w' v' (k + 2) (acc ++ [(105 : UInt8)])) := Lib.hid ⟨hO', H4, by have := II.out.2.2.1; simp; omega, EN.out⟩
              clear hO hG hB hO' H4 HO EN
              go_wp2_with fail
              go_roundw
              case rel => exact ⟨k + 2, _, by omega, by go_num, I3⟩
              case measure => simp [intOf]; omega
            · have e3 : ((s[k + 1].toNat : Int) == 176) = false := by
                rw [beq_eq_false_iff_ne]; intro h; exact h176 (UInt8.toNat_inj.1 (by have : (176 : UInt8).toNat = 176 := rfl; omega))
              have NN := Lib.hid n196
              clear n196
              have EN : Hid (FM s.data.toList = none) := by
                apply Lib.hid
                rw [II.out.2.2.2]
                have hf : FM (s.data.toList.drop k) = none := by
                  rw [hdr.out, FM_cons, if_neg h128, if_neg (by rw [hdr1.out]; simp [h176]), if_neg (fun h => by rw [h196] at h; exact absurd h.1 (by decide))]
                rw [hf]; rfl
              have BB := Lib.hid II.out.2.1
              go_wp2_with fail
              go_ret2
              exact ⟨by rw [EN.out]; rfl, BB.out⟩
          · have g1 : decide ((k : Int) + 1 < (s.size : Int)) = false := by rw [decide_eq_false_iff_not]; omega
            have hde := Lib.hid (drop_end s (k + 1) h1)
            have NN := Lib.hid n196
            clear n196
            have EN : Hid (FM s.data.toList = none) := by
              apply Lib.hid
              rw [II.out.2.2.2]
              have hf : FM (s.data.toList.drop k) = none := by
                rw [hdr.out, FM_cons, if_neg h128, if_neg (by rw [hde.out]; simp), if_neg (fun h => by rw [h196] at h; exact absurd h.1 (by decide))]
              rw [hf]; rfl
            have BB := Lib.hid II.out.2.1
            go_wp2_with fail
            go_ret2
            exact ⟨by rw [EN.out]; rfl, BB.out⟩
        · have e1 : ((s[k].toNat : Int) == 196) = false := by
            rw [beq_eq_false_iff_ne]; intro h; exact h196 (UInt8.toNat_inj.1 (by have : (196 : UInt8).toNat = 196 := rfl; omega))
          by_cases h226 : s[k] = 226
          · have n226 : s[k].toNat = 226 := by rw [h226]; rfl
            have e2 : ((s[k].toNat : Int) == 226) = true := by rw [beq_iff_eq]; omega
            have NN := Lib.hid n226
            clear n226
            by_cases h2 : k + 2 < s.size
            · have g1 : decide ((k : Int) + 2 < (s.size : Int)) = true := by rw [decide_eq_true_eq]; omega
              have g2 : (k : Int) + 2 < (s.size : Int) := by omega
              have g3 : (0 : Int) ≤ (k : Int) + 2 := by omega
              have g4 : ((k : Int) + 2).toNat = k + 2 := by omega
              have g5 : (k : Int) + 1 < (s.size : Int) := by omega
              have g6 : (0 : Int) ≤ (k : Int) + 1 := by omega
              have g7 : ((k : Int) + 1).toNat = k + 1 := by omega
              have hdr1 := Lib.hid (drop_at s (k + 1) (by omega))
              have hdr2 := Lib.hid (drop_at s (k + 2) h2)
              by_cases h132 : s[k + 1] = 132
              · have e3 : ((s[k + 1].toNat : Int) == 132) = true := by rw [h132]; rfl
                by_cases h170 : s[k + 2] = 170
                · have e4 : ((s[k + 2].toNat : Int) == 170) = true := by rw [h170]; rfl
                  have EN : Hid (FM s.data.toList = (FM (s.data.toList.drop (k + 3))).map ((acc ++ [(107 : UInt8)]) ++ ·)) := by
                    apply Lib.hid
                    rw [II.out.2.2.2]
                    have hf : FM (s.data.toList.drop k) = (FM (s.data.toList.drop (k + 3))).map ((107 : UInt8) :: ·) := by
                      rw [hdr.out, FM_cons, if_neg h128, if_neg (fun h => h196 h.1), hdr1.out, if_pos ⟨h226, by simp [h132], by rw [List.tail_cons, hdr2.out]; simp [h170]⟩, List.tail_cons, hdr2.out]; rfl
                    rw [hf, map_step]
                  have HO := Lib.hid II.out.1
                  have hlen : (bv acc).length ≤ 1099511627776 := by rw [bv_len]; have := II.out.2.2.1; omega
                  go_wp2_with (at_builtin; refine wpList_own _ rfl (.tmp 77) (.tmp 78) 112 rfl w.heap.size 5 i5 (.int .u8 0) Tryd.underlying112 hi5 hz50 hz51 (by rw [hz52]; decide) rfl _ _ rfl (HO.out.alloc _) ⟨wr.heap.size, 0, none⟩ 1 (.int .u8 (107)) rfl (by simp [go_sem]) rfl hlen ?_)
                  intro v' w' hO hG hB
                  have hO' : Own w' w.heap.size v' (bv (acc ++ [(107 : UInt8)])) := by rw [← bv_snoc]; first | exact hO | (rw [HB.out]; exact hO)
                  have H4 := Go.Proofs.YtmfpgnedeonmiaaDoor.OW.below_grown (II.out.2.1.alloc II.out.2.1.size _) hG (fun q hq => (HO.out.lt q hq).1) (by have := II.out.2.1.size; simp; omega)
                  have I3 : Hid (Inv w s w' v' (k + 3) (acc ++ [(107 : UInt8)])) := Lib.hid ⟨hO', H4, by have := II.out.2.2.1; simp; omega, EN.out⟩
                  clear hO hG hB hO' H4 HO EN
                  go_wp2_with fail
                  go_roundw
                  case rel => exact ⟨k + 3, _, by omega, by go_num, I3⟩
                  case measure => simp [intOf]; omega
                · have e4 : ((s[k + 2].toNat : Int) == 170) = false := by
                    rw [beq_eq_false_iff_ne]; intro h; exact h170 (UInt8.toNat_inj.1 (by have : (170 : UInt8).toNat = 170 := rfl; omega))
                  have EN : Hid (FM s.data.toList = none) := by
                    apply Lib.hid
                    rw [II.out.2.2.2]
                    have hf : FM (s.data.toList.drop k) = none := by
                      rw [hdr.out, FM_cons, if_neg h128, if_neg (fun h => h196 h.1), if_neg (by rw [hdr1.out, List.tail_cons, hdr2.out]; simp [h170])]
                    rw [hf]; rfl
                  have BB := Lib.hid II.out.2.1
                  go_wp2_with fail
                  go_ret2
                  exact ⟨by rw [EN.out]; rfl, BB.out⟩
              · have e3 : ((s[k + 1].toNat : Int) == 132) = false := by
                  rw [beq_eq_false_iff_ne]; intro h; exact h132 (UInt8.toNat_inj.1 (by have : (132 : UInt8).toNat = 132 := rfl; omega))
                have EN : Hid (FM s.data.toList = none) := by
                  apply Lib.hid
                  rw [II.out.2.2.2]
                  have hf : FM (s.data.toList.drop k) = none := by
                    rw [hdr.out, FM_cons, if_neg h128, if_neg (fun h => h196 h.1), if_neg (by rw [hdr1.out]; simp [h132])]
                  rw [hf]; rfl
                have BB := Lib.hid II.out.2.1
                go_wp2_with fail
                go_ret2
                exact ⟨by rw [EN.out]; rfl, BB.out⟩
            · have g1 : decide ((k : Int) + 2 < (s.size : Int)) = false := by rw [decide_eq_false_iff_not]; omega
              have EN : Hid (FM s.data.toList = none) := by
                apply Lib.hid
                rw [II.out.2.2.2]
                have hf : FM (s.data.toList.drop k) = none := by
                  rw [hdr.out, FM_cons, if_neg h128, if_neg (fun h => h196 h.1), if_neg (fun h => by have h9 := h.2.2; rw [List.tail_drop, drop_end s (k + 1 + 1) h2] at h9; simp at h9)]
                rw [hf]; rfl
              have BB := Lib.hid II.out.2.1
              go_wp2_with fail
              go_ret2
              exact ⟨by rw [EN.out]; rfl, BB.out⟩
          · have e2 : ((s[k].toNat : Int) == 226) = false := by
              rw [beq_eq_false_iff_ne]; intro h; exact h226 (UInt8.toNat_inj.1 (by have : (226 : UInt8).toNat = 226 := rfl; omega))
            have EN : Hid (FM s.data.toList = none) := by
              apply Lib.hid
              rw [II.out.2.2.2]
              have hf : FM (s.data.toList.drop k) = none := by
                rw [hdr.out, FM_cons, if_neg h128, if_neg (fun h => h196 h.1), if_neg (fun h => h226 h.1)]
              rw [hf]; rfl
            have BB := Lib.hid II.out.2.1
            go_wp2_with fail
            go_ret2
            exact ⟨by rw [EN.out]; rfl, BB.out⟩
    · obtain rfl : k = s.size := by omega
      have EN : Hid (FM s.data.toList = some acc) := by
        apply Lib.hid
        rw [II.out.2.2.2, drop_end s s.size hlt, FM_nil]; simp
      have BB := Lib.hid II.out.2.1
      obtain ⟨g1, cap1, rfl, hg1, -, -, hcm, hcc⟩ := II.out.1.cells
      have hcv : (convert 112 9 (.slice (some ⟨g1, 0, none⟩) acc.length cap1)).run Tryd.prog wr = .ok (.string ⟨acc.toArray⟩) wr :=
        run_convert_bytes_back wr 112 9 5 ⟨g1, 0, none⟩ cap1 acc Tryd.underlying112 Tryd.underlying5 Tryd.underlying9 (fun j hj => by
          have hadd : (⟨g1, 0, none⟩ : Addr).add j = ⟨g1, j, none⟩ := by unfold Addr.add; split <;> simp_all
          rw [hadd]; exact hcc j _ (by simp [bv, hj]))
      simp only [bv_len]
      clear hcc
      go_wp2_with fail
      go_ret2
      exact ⟨by rw [EN.out]; rfl, BB.out⟩
end Go.Proofs.YtmfpgnedeonmiaaDoor.WA

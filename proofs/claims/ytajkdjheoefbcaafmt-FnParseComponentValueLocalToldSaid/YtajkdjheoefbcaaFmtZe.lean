/- zzB1Build: the tokens and their text. -/
import Derived.Test.YtajkdjheoefbcaaFmtZd
namespace Go.Proofs.YtajkdjheoefbcaaFmt.ZA
open Go.RowKit Go.Proofs.YtajkdjheoefbcaaFmt.TB Go.Proofs.YtajkdjheoefbcaaFmt.OW Go.Proofs.YtajkdjheoefbcaaFmt.PL
set_option linter.unusedVariables false
def BuildP (n : Nat) (z : Nat → Int) (w : World) (e : Ending) (w' : World) : Prop :=
  ∃ g, e = .returned (.tuple #[.string ⟨(allT z n).toArray⟩, .slice (some ⟨g, 0, none⟩) n n]) ∧ w.heap.size ≤ g ∧ Tab w' g 48 5 n (tk z) ∧ Below w.heap.size w w'
theorem Tab.grown {w w' : World} {g t S n : Nat} {f : Nat → Nat → Value} {row : Option Nat} (h : Tab w g t S n f) (hb : w.grownBy w' row) (hg : row ≠ some g) : Tab w' g t S n f :=
  h.kept (hb.block g h.lt (fun e => hg e.symm))
theorem take_next (k j : Nat) (h : j < (txt k).size) : (txtL k).take (j + 1) = (txtL k).take j ++ [(txt k)[j]] := by
  rw [List.take_succ_eq_append_getElem (by rw [txt_size] at h; exact h)]; rfl
set_option maxRecDepth 100000 in
set_option maxHeartbeats 2000000 in
theorem build (A : Option Addr) (n c : Nat) (z : Nat → Int) (hz : ∀ i, i < n → 0 ≤ z i ∧ z i ≤ 255) (w : World) (r : BR w A n z) (hn : n ≤ 1048576) :
    Calls Tryf.prog 9 #[.slice A n c] w (BuildP n z w) := by
  have HZ := Lib.hid hz
  have R := Lib.hid r
  clear r hz
  obtain ⟨i5, hi5, hz50, hz51, hz52⟩ := info_parts info5
  obtain ⟨i44, hi44, hz440, hz441, hz442⟩ := info_parts info44
  have hmk5 := fun (W : World) => run_make (P := Tryf.prog) W 22 5 i5 _ Tryf.underlying22 hi5 hz50 .i64 .i64 0 (4 * (n : Int) + 1) (by omega) (by omega) (by rw [hz52]; omega) (by omega)
  have hmk44 := fun (W : World) => run_make (P := Tryf.prog) W 28 48 i44 _ Tryf.underlying28 hi44 hz440 .i64 .i64 n n (by omega) (by omega) (by rw [hz442]; omega) (by omega)
  have e4 : (4 * (n : Int) + 1).toNat = 4 * n + 1 := by omega
  simp only [hz51, hz441, Int.toNat_natCast, e4, Int.toNat_zero] at hmk5 hmk44
  clear e4
  have O0 := Lib.hid (Own.made (base := w.heap.size) w (madeCells #[.int .u8 0] ((4 * n + 1) * 1)) 5 (Nat.le_refl _) (by rw [size_madeCells]; unfold maxLen; omega))
  rw [size_madeCells, Nat.mul_one] at O0
  have T0 := Lib.hid (Tab.new (w.alloc (.cells (madeCells #[.int .u8 0] (4 * n + 1)) 5)) 48 #[.int .i32 0, .int .i32 0, .int .u16 0, .int .u8 0, .int .u8 0] n 5 rfl (tkp z 0) (fun i j _ _ => by unfold tkp; simp))
  have B0 := Lib.hid (show Below w.heap.size w (((w.alloc (.cells (madeCells #[.int .u8 0] (4 * n + 1)) 5))).alloc (.cells (madeCells #[.int .i32 0, .int .i32 0, .int .u16 0, .int .u8 0, .int .u8 0] (n * 5)) 48)) from ((Below.refl _ _).alloc (Nat.le_refl _) _).alloc (by simp) _)
  have O1 := Lib.hid (O0.out.alloc (.cells (madeCells #[.int .i32 0, .int .i32 0, .int .u16 0, .int .u8 0, .int .u8 0] (n * 5)) 48))
  rw [show (w.alloc (.cells (madeCells #[.int .u8 0] (4 * n + 1)) 5)).heap.size = w.heap.size + 1 by simp] at T0
  go_enter Tryf.func9, Tryf.ntmps9
  go_wp2
  generalize (w.alloc (.cells (madeCells #[.int .u8 0] (4 * n + 1)) 5)).alloc (.cells (madeCells #[.int .i32 0, .int .i32 0, .int .u16 0, .int .u8 0, .int .u8 0] (n * 5)) 48) = W0 at *
  clear hmk5 hmk44 O0
  go_loopw [4, 6] (fun s i wr => ∃ k : Nat, k ≤ n ∧ i = .int .i64 k ∧ Hid (Own wr w.heap.size s (bv (allT z k))) ∧ Hid (s.ownBlock ≠ some (w.heap.size + 1)) ∧ Hid (Tab wr (w.heap.size + 1) 48 5 n (tkp z k)) ∧ Hid (Below w.heap.size w wr)) (fun _ i _ => n - (intOf i).toNat)
  case atStart => exact ⟨0, Nat.zero_le _, rfl, O1, Lib.hid (by simp [Value.ownBlock]), T0, B0⟩
  case round =>
    obtain ⟨k, hk, rfl, OO, HN, TT, BB⟩ := hrel
    clear T0 B0 O1
    by_cases hlt : k < n
    · obtain ⟨b, o, rfl, hb, hc⟩ := R.out (by omega)
      have x1 : wr.cell? ⟨b, o + k, none⟩ = some (.int .u8 (z k)) := by rw [BB.out.cell hb]; exact hc k hlt
      have h0 := (HZ.out k hlt).1
      have h1 := (HZ.out k hlt).2
      have k15 := kl_lt z k
      have hts := txt_size (kl z k)
      have htl := txt_len (kl z k)
      have hal := allT_len z k
      clear hc
      have q1 : (0 : Int) ≤ (k : Int) := by omega
      have q2 : (k : Int) < (n : Int) := by omega
      obtain ⟨g1, cap1, rfl, hg1, -, -, hcm, -⟩ := OO.out.cells
      rw [bv_len] at OO HN
      have HS := Lib.hid hts
      have hts9 : (txt (kl z k)).size ≤ 9 := by rw [hts]; omega
      clear hts
      simp only [bv_len]
      go_wp2_with (first
        | (go_at_call 7; refine (cls z k _ h0 h1).mono ?_; rintro e w' ⟨rfl, rfl⟩)
        | (go_at_call 18; refine (text _ _ k15).mono ?_; rintro e w' ⟨rfl, rfl⟩))
      go_loopw [4, 10] (fun s i wr => ∃ j : Nat, j ≤ (txt (kl z k)).size ∧ i = .int .i64 j ∧ Hid (Own wr w.heap.size s (bv (allT z k ++ (txtL (kl z k)).take j))) ∧ Hid (s.ownBlock ≠ some (w.heap.size + 1)) ∧ Hid (Tab wr (w.heap.size + 1) 48 5 n (tkp z k)) ∧ Hid (Below w.heap.size w wr)) (fun _ i _ => (txt (kl z k)).size - (intOf i).toNat)
      case atStart => exact ⟨0, Nat.zero_le _, rfl, Lib.hid (by rw [List.take_zero, List.append_nil]; exact OO.out), HN, TT, BB⟩
      case round =>
        obtain ⟨j, hj, rfl, OJ, HJ, TJ, BJ⟩ := hrel
        clear TT BB OO
        by_cases hjt : j < (txt (kl z k)).size
        · have q1 : (0 : Int) ≤ (j : Int) := by omega
          have q2 : (j : Int) < ((txt (kl z k)).size : Int) := by omega
          have ONEXT : ∀ v' w', Own w' w.heap.size v' (bv (allT z k ++ (txtL (kl z k)).take j) ++ [Value.int .u8 ((txt (kl z k))[j].toNat : Int)]) → Own w' w.heap.size v' (bv (allT z k ++ (txtL (kl z k)).take (j + 1))) := by
            intro v' w' h
            rw [bv_snoc, List.append_assoc, ← take_next _ _ hjt] at h
            exact h
          have HNX := Lib.hid ONEXT
          clear ONEXT
          have hbig : (bv (allT z k ++ (txtL (kl z k)).take j)).length ≤ 1099511627776 := by
            rw [bv_len, List.length_append, List.length_take]; omega
          go_wp2_with (at_builtin; refine wpList_own _ rfl (.tmp 40) (.tmp 44) 22 rfl w.heap.size 5 i5 (.int .u8 0) Tryf.underlying22 hi5 hz50 hz51 (by rw [hz52]; decide) rfl _ _ rfl (OJ.out.alloc _) ⟨wr.heap.size, 0, none⟩ 1 (.int .u8 ((txt (kl z k))[j].toNat : Int)) rfl ?qc1 rfl hbig ?qnext)
          case qc1 => simp [go_sem]
          case qnext =>
            intro v' w' hO hG hB
            have hTl := TJ.out.lt
            have H1 := Lib.hid (HNX.out _ _ hO)
            have H2 : Hid (v'.ownBlock ≠ some (w.heap.size + 1)) := by
              apply Lib.hid
              rcases hB with h | h
              · rw [h]; exact HJ.out
              · rw [h]; simp; omega
            have H3 := Lib.hid (Tab.grown (TJ.out.alloc _) hG HJ.out)
            have H4 := Lib.hid (below_grown (BJ.out.alloc BJ.out.size _) hG (fun q hq => (OJ.out.lt q hq).1) (by have := BJ.out.size; simp; omega))
            clear hO hG hB HNX
            go_wp2_with fail
            go_roundw
            case rel => exact ⟨j + 1, by omega, by go_num, H1, H2, H3, H4⟩
            case measure => simp [intOf]; omega
        · obtain rfl : j = (txt (kl z k)).size := by omega
          rw [HS.out, List.take_length, ← allT_succ] at OJ
          have qq : ((allT z k).length : Int) ≤ 9437184 := by omega
          have qt : (((txt (kl z k)).size : Nat) : Int) = ((txtL (kl z k)).length : Nat) := by rw [HS.out]
          have QT := Lib.hid qt
          clear qt
          have y0 := TJ.out.cell hlt (j := 0) (by omega)
          have y1 := TJ.out.cell hlt (j := 1) (by omega)
          have y2 := TJ.out.cell hlt (j := 2) (by omega)
          have y3 := TJ.out.cell hlt (j := 3) (by omega)
          have y4 := TJ.out.cell hlt (j := 4) (by omega)
          have u0 := TJ.out.frozen (k * 5 + 0)
          have u1 := TJ.out.frozen (k * 5 + 1)
          have u2 := TJ.out.frozen (k * 5 + 2)
          have u3 := TJ.out.frozen (k * 5 + 3)
          have u4 := TJ.out.frozen (k * 5 + 4)
          rw [show k * 5 + 0 = k * 5 from rfl] at y0 u0
          have B36 := @bld36
          have B38 := @bld38
          have B44 := @bld44
          go_wp2_with (first
            | (go_at_call 11; refine (kind _ _ k15).mono ?_; rintro e w' ⟨rfl, rfl⟩))
          have TS := Lib.hid (tk_step TJ.out hlt)
          rw [← QT.out] at TS
          clear y0 y1 y2 y3 y4 u0 u1 u2 u3 u4 B36 B38 B44
          go_roundw
          case rel => exact ⟨k + 1, by omega, by go_num, Lib.hid (((((OJ.out.away HJ.out _).away HJ.out _).away HJ.out _).away HJ.out _).away HJ.out _), HJ, TS, Lib.hid (((((BJ.out.setCell (by simp) _).setCell (by simp) _).setCell (by simp) _).setCell (by simp) _).setCell (by simp) _)⟩
          case measure => simp [intOf]; omega
    · obtain rfl : k = n := by omega
      have HT := Lib.hid (TT.out.ext (f' := tk z) (fun i j hi _ => by unfold tkp; rw [if_pos hi]))
      obtain ⟨g1, cap1, rfl, hg1, -, -, hcm, hcc⟩ := OO.out.cells
      have hcv : (convert 22 9 (.slice (some ⟨g1, 0, none⟩) (allT z k).length cap1)).run Tryf.prog wr = .ok (.string ⟨(allT z k).toArray⟩) wr :=
        run_convert_bytes_back wr 22 9 5 ⟨g1, 0, none⟩ cap1 (allT z k) Tryf.underlying22 Tryf.underlying5 Tryf.underlying9 (fun j hj => by
          have hadd : (⟨g1, 0, none⟩ : Addr).add j = ⟨g1, j, none⟩ := by unfold Addr.add; split <;> simp_all
          rw [hadd]; exact hcc j _ (by simp [bv, hj]))
      simp only [bv_len]
      clear hcc
      go_wp2_with fail
      go_ret2
      exact ⟨w.heap.size + 1, rfl, by omega, HT.out, BB.out⟩
end Go.Proofs.YtajkdjheoefbcaaFmt.ZA

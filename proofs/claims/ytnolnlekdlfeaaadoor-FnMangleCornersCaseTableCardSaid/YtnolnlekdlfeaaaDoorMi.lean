/- FnMangleCornersCaseTable: zzCheckList. -/
import Derived.Test.YtnolnlekdlfeaaaDoorMh
namespace Go.Proofs.YtnolnlekdlfeaaaDoor.ZT
open Go.RowKit Go.Proofs.YtnolnlekdlfeaaaDoor.TB
set_option linter.unusedVariables false
/-- A token's box and a code's cell. -/
def ZJ (wr : World) (cb gb k : Nat) (tk : ByteArray) (kk ws y : Int) (w' : World) : Prop :=
  Below wr.heap.size wr w' ∧ cb < wr.heap.size ∧ gb < wr.heap.size ∧ w'.cell? ⟨cb, 0, none⟩ = some (.pointer none) ∧ w'.cell? ⟨cb, 1, none⟩ = some (.string tk) ∧ w'.cell? ⟨cb, 2, none⟩ = some (.int .i32 0) ∧ w'.cell? ⟨cb, 3, none⟩ = some (.int .u32 0) ∧ w'.cell? ⟨cb, 4, none⟩ = some (.int .u16 0) ∧ w'.cell? ⟨cb, 5, none⟩ = some (.int .u8 kk) ∧ w'.cell? ⟨cb, 6, none⟩ = some (.int .u8 ws) ∧ w'.cell? ⟨gb, k, none⟩ = some (.int .u8 y)
theorem ZJ.step {wr : World} {cb gb k : Nat} {tk : ByteArray} {kk ws y : Int} {w1 w2 : World} (h : ZJ wr cb gb k tk kk ws y w1) (hb : Below w1.heap.size w1 w2) : ZJ wr cb gb k tk kk ws y w2 := by
  obtain ⟨h0, h1, h2, x0, x1, x2, x3, x4, x5, x6, x7⟩ := h
  have e1 : cb < w1.heap.size := Nat.lt_of_lt_of_le h1 h0.size
  have e2 : gb < w1.heap.size := Nat.lt_of_lt_of_le h2 h0.size
  exact ⟨h0.trans (hb.mono h0.size), h1, h2, (hb.cell e1).trans x0, (hb.cell e1).trans x1, (hb.cell e1).trans x2, (hb.cell e1).trans x3, (hb.cell e1).trans x4, (hb.cell e1).trans x5, (hb.cell e1).trans x6, (hb.cell e2).trans x7⟩
set_option maxRecDepth 100000 in
set_option maxHeartbeats 4000000 in
theorem check21 (b o n c off m : Nat) (mw : Bool) (y : Nat → Int) (q : Nat → Nat) (K : Nat → Int) (T : Nat → ByteArray) (W : Nat → Int) (w : World) (r : TR w (some ⟨b, o, none⟩) n (tc K T W (fun _ => 0))) (hm : m ≤ 4) (hn : off + m ≤ n) (hn2 : n ≤ 100)
    (hy : ∀ i, i < 4 → 0 ≤ y i ∧ y i < 8 ∧ y i % 8 = (q i : Int) ∧ q i < 8) (hk : ∀ i, i < m → K (off + i) = kq (q i) ∧ T (off + i) = tq (q i) ∧ W (off + i) = wsv m mw i) :
    Calls Tryd.prog 21 #[.slice (some ⟨b, o, none⟩) n c, .int .i64 off, .agg #[.int .u8 (y 0), .int .u8 (y 1), .int .u8 (y 2), .int .u8 (y 3)], .int .i64 m, .bool mw] w fun e w' => e = .returned (.bool true) ∧ Below w.heap.size w w' := by
  have R := Lib.hid r
  have HY := Lib.hid hy
  have HK := Lib.hid hk
  clear r hy hk
  have B0 := Lib.hid (show Below w.heap.size w (w.alloc (.cells #[.int .u8 (y 0), .int .u8 (y 1), .int .u8 (y 2), .int .u8 (y 3)] 48)) from (Below.refl _ _).alloc (Nat.le_refl _) _)
  have K0 := Lib.hid (Blk.new w 48 #[.int .u8 (y 0), .int .u8 (y 1), .int .u8 (y 2), .int .u8 (y 3)])
  go_enter Tryd.func21, Tryd.ntmps21
  go_wp2_with fail
  generalize w.alloc (.cells #[.int .u8 (y 0), .int .u8 (y 1), .int .u8 (y 2), .int .u8 (y 3)] 48) = W0 at *
  obtain ⟨gb, hgb⟩ : ∃ gb, w.heap.size = gb := ⟨_, rfl⟩
  rw [hgb] at K0
  have HG := Lib.hid hgb
  simp only [hgb]
  clear hgb
  go_loopw [11] (fun i wr => ∃ k : Nat, k ≤ m ∧ i = .int .i64 k ∧ Hid (Blk wr gb 48 #[.int .u8 (y 0), .int .u8 (y 1), .int .u8 (y 2), .int .u8 (y 3)]) ∧ Hid (Below w.heap.size w wr)) (fun i _ => m - (intOf i).toNat)
  case atStart => exact ⟨0, Nat.zero_le _, rfl, K0, B0⟩
  case round =>
    obtain ⟨k, hk, rfl, KB, BB⟩ := hrel
    clear K0 B0
    by_cases hlt : k < m
    · have p0 : (0 : Int) ≤ (k : Int) := by omega
      have p1 : (k : Int) < (m : Int) := by omega
      have p2 : (k : Int) < 4 := by omega
      obtain ⟨p, hp⟩ : ∃ p : Nat, (off : Int) + (k : Int) = (p : Int) := ⟨off + k, by omega⟩
      have hpp : p = off + k := by omega
      have p3 : (0 : Int) ≤ (p : Int) := by omega
      have p4 : (p : Int) < (n : Int) := by omega
      have hw1 : wrap64 ((off : Int) + (k : Int)) = (p : Int) := by rw [hp]; unfold wrap64; omega
      have hw2 : IntKind.i64.wrap ((off : Int) + (k : Int)) = (p : Int) := by rw [IntKind.wrap_i64, hp]; omega
      clear hp
      have HPP := Lib.hid hpp
      obtain ⟨b', o', eA, hbl, hc⟩ := (R.out.below BB.out) (by omega)
      injection eA with eA
      injection eA with e1 e2
      subst e1 e2
      obtain ⟨tk, HTK⟩ : ∃ tk, Hid (tq (q k) = tk) := ⟨_, Lib.hid rfl⟩
      obtain ⟨kk, HKK⟩ : ∃ kk, Hid (kq (q k) = kk) := ⟨_, Lib.hid rfl⟩
      obtain ⟨ws, HWS⟩ : ∃ ws, Hid (wsv m mw k = ws) := ⟨_, Lib.hid rfl⟩
      have a1 := (HK.out k hlt).1
      have a2 := (HK.out k hlt).2.1
      have a3 := (HK.out k hlt).2.2
      rw [← hpp, HKK.out] at a1
      rw [← hpp, HTK.out] at a2
      rw [← hpp, HWS.out] at a3
      have x0 : wr.cell? ⟨b, o + p * 7, none⟩ = some (.pointer none) := by have h := hc p 0 (by omega) (by omega); rw [Nat.add_zero] at h; rw [h]; unfold tc; skip; rfl
      have x1 : wr.cell? ⟨b, o + p * 7 + 1, none⟩ = some (.string tk) := by have h := hc p 1 (by omega) (by omega); rw [h]; unfold tc; rw [a2]; rfl
      have x2 : wr.cell? ⟨b, o + p * 7 + 2, none⟩ = some (.int .i32 0) := by have h := hc p 2 (by omega) (by omega); rw [h]; unfold tc; skip; rfl
      have x3 : wr.cell? ⟨b, o + p * 7 + 3, none⟩ = some (.int .u32 0) := by have h := hc p 3 (by omega) (by omega); rw [h]; unfold tc; skip; rfl
      have x4 : wr.cell? ⟨b, o + p * 7 + 4, none⟩ = some (.int .u16 0) := by have h := hc p 4 (by omega) (by omega); rw [h]; unfold tc; skip; rfl
      have x5 : wr.cell? ⟨b, o + p * 7 + 5, none⟩ = some (.int .u8 kk) := by have h := hc p 5 (by omega) (by omega); rw [h]; unfold tc; rw [a1]; rfl
      have x6 : wr.cell? ⟨b, o + p * 7 + 6, none⟩ = some (.int .u8 ws) := by have h := hc p 6 (by omega) (by omega); rw [h]; unfold tc; rw [a3]; rfl
      clear hc a1 a2 a3 hpp
      have S9 := Lib.hid (fun W => same9q (y k) ws (q k) W (HY.out k (by omega)).2.2.2 (HY.out k (by omega)).2.2.1 (HY.out k (by omega)).1 (by have := (HY.out k (by omega)).2.1; omega))
      rw [HTK.out, HKK.out] at S9
      have gk : wr.cell? ⟨gb, k, none⟩ = some (.int .u8 (y k)) := by
        rcases (by omega : k = 0 ∨ k = 1 ∨ k = 2 ∨ k = 3) with h | h | h | h <;> rw [h]
        · exact KB.out.cell 0
        · exact KB.out.cell 1
        · exact KB.out.cell 2
        · exact KB.out.cell 3
      generalize y k = yk at *
      have ne : ¬ b = wr.heap.size := by omega
      have ne2 : ¬ wr.heap.size = b := by omega
      have hgl := KB.out.lt
      have CB := Lib.hid (Blk.new wr 47 #[.pointer none, .string tk, .int .i32 0, .int .u32 0, .int .u16 0, .int .u8 kk, .int .u8 ws])
      have BA := Lib.hid (show Below wr.heap.size wr (wr.alloc (.cells #[.pointer none, .string tk, .int .i32 0, .int .u32 0, .int .u16 0, .int .u8 kk, .int .u8 ws] 47)) from (Below.refl _ _).alloc (Nat.le_refl _) _)
      go_upto_region 5 with fail
      clear x0 x1 x2 x3 x4 x5 x6
      have gk2 : (wr.alloc (.cells #[.pointer none, .string tk, .int .i32 0, .int .u32 0, .int .u16 0, .int .u8 kk, .int .u8 ws] 47)).cell? ⟨gb, k, none⟩ = some (.int .u8 yk) := by rw [BA.out.cell hgl]; exact gk
      have hgl2 : gb < (wr.alloc (.cells #[.pointer none, .string tk, .int .i32 0, .int .u32 0, .int .u16 0, .int .u8 kk, .int .u8 ws] 47)).heap.size := by have := BA.out.size; omega
      have K1 := Lib.hid (KB.out.below BA.out KB.out.lt)
      have B1 := Lib.hid (BB.out.trans (BA.out.mono BB.out.size))
      clear BA KB BB gk
      generalize wr.alloc (.cells #[.pointer none, .string tk, .int .i32 0, .int .u32 0, .int .u16 0, .int .u8 kk, .int .u8 ws] 47) = W1 at *
      generalize wr.heap.size = cb at *
      go_cut [30] from 25 to 30 (fun s wx => s = .bool false ∧ Hid (ZJ W1 cb gb k tk kk ws yk wx))
      case first =>
        have START := Lib.hid (show ZJ W1 cb gb k tk kk ws yk W1.drew from ⟨(Below.refl _ _).drew, CB.out.lt, hgl2, CB.out.cell 0, CB.out.cell 1, CB.out.cell 2, CB.out.cell 3, CB.out.cell 4, CB.out.cell 5, CB.out.cell 6, gk2⟩)
        have STEP := Lib.hid (fun w1 w2 (h : ZJ W1 cb gb k tk kk ws yk w1) (hb : Below w1.heap.size w1 w2) => h.step hb)
        go_region_held3 (fun w' => Below W1.heap.size W1 w' ∧ cb < W1.heap.size ∧ gb < W1.heap.size ∧ w'.cell? ⟨cb, 0, none⟩ = some (.pointer none) ∧ w'.cell? ⟨cb, 1, none⟩ = some (.string tk) ∧ w'.cell? ⟨cb, 2, none⟩ = some (.int .i32 0) ∧ w'.cell? ⟨cb, 3, none⟩ = some (.int .u32 0) ∧ w'.cell? ⟨cb, 4, none⟩ = some (.int .u16 0) ∧ w'.cell? ⟨cb, 5, none⟩ = some (.int .u8 kk) ∧ w'.cell? ⟨cb, 6, none⟩ = some (.int .u8 ws) ∧ w'.cell? ⟨gb, k, none⟩ = some (.int .u8 yk))
          (first | assumption | exact START.out)
          (first | (go_at_call 9; refine (S9.out _).mono ?_; rintro e_ w9 ⟨rfl, hb9⟩; have hI := STEP.out _ _ (by assumption) hb9; clear hb9; unfold ZJ at hI))
        all_goals
          go_wp2_with fail
          go_meet
          exact ⟨rfl, Lib.hid (show ZJ W1 cb gb k tk kk ws yk w9 by assumption)⟩
      case rest =>
        obtain ⟨rfl, hz⟩ := hcut
        have K2 := Lib.hid (K1.out.below hz.out.1 K1.out.lt)
        have B2 := Lib.hid (B1.out.trans (hz.out.1.mono B1.out.size))
        have z6 : wc.cell? ⟨cb, 6, none⟩ = some (.int .u8 ws) := hz.out.2.2.2.2.2.2.2.2.2.1
        clear hz K1 B1 CB
        have HW := HWS.out
        clear HWS
        unfold wsv at HW
        have b1 := bt1
        have b2 := bt2
        have b3 := bt3
        by_cases h0 : (0 : Int) < (k : Int)
        · by_cases h1 : (k : Int) + 1 < (m : Int)
          · cases mw
            · obtain rfl : ws = 3 := by
                rw [← HW, if_neg (by simp), if_pos (by omega)]
                rfl
              clear HW
              go_wp2_with fail
              go_roundw
              case rel => exact ⟨k + 1, by omega, by go_num, K2, B2⟩
              case measure => simp [intOf]; omega
            · obtain rfl : ws = 3 := by
                rw [← HW, if_neg (by rintro ⟨-, h⟩; omega), if_pos (by omega)]
                rfl
              clear HW
              go_wp2_with fail
              go_roundw
              case rel => exact ⟨k + 1, by omega, by go_num, K2, B2⟩
              case measure => simp [intOf]; omega
          · cases mw
            · obtain rfl : ws = 1 := by
                rw [← HW, if_neg (by simp), if_neg (by omega)]
                rfl
              clear HW
              go_wp2_with fail
              go_roundw
              case rel => exact ⟨k + 1, by omega, by go_num, K2, B2⟩
              case measure => simp [intOf]; omega
            · obtain rfl : ws = 1 := by
                rw [← HW, if_neg (by rintro ⟨-, h⟩; omega), if_neg (by omega)]
                rfl
              clear HW
              go_wp2_with fail
              go_roundw
              case rel => exact ⟨k + 1, by omega, by go_num, K2, B2⟩
              case measure => simp [intOf]; omega
        · by_cases h1 : (k : Int) + 1 < (m : Int)
          · cases mw
            · obtain rfl : ws = 3 := by
                rw [← HW, if_neg (by simp), if_pos (by omega)]
                rfl
              clear HW
              go_wp2_with fail
              go_roundw
              case rel => exact ⟨k + 1, by omega, by go_num, K2, B2⟩
              case measure => simp [intOf]; omega
            · obtain rfl : ws = 2 := by
                rw [← HW, if_pos ⟨rfl, by omega⟩, if_pos (by omega)]
                rfl
              clear HW
              go_wp2_with fail
              go_roundw
              case rel => exact ⟨k + 1, by omega, by go_num, K2, B2⟩
              case measure => simp [intOf]; omega
          · cases mw
            · obtain rfl : ws = 1 := by
                rw [← HW, if_neg (by simp), if_neg (by omega)]
                rfl
              clear HW
              go_wp2_with fail
              go_roundw
              case rel => exact ⟨k + 1, by omega, by go_num, K2, B2⟩
              case measure => simp [intOf]; omega
            · obtain rfl : ws = 0 := by
                rw [← HW, if_pos ⟨rfl, by omega⟩, if_neg (by omega)]
                rfl
              clear HW
              go_wp2_with fail
              go_roundw
              case rel => exact ⟨k + 1, by omega, by go_num, K2, B2⟩
              case measure => simp [intOf]; omega
    · have p1 : ¬ (k : Int) < (m : Int) := by omega
      go_wp2_with fail
      go_ret
      exact ⟨by simp, BB.out⟩
end Go.Proofs.YtnolnlekdlfeaaaDoor.ZT

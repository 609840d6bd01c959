/- The walk of FnCompactRulesExactOutcome. Written by gen_boxi.py. -/
import Derived.Test.YtioilpdjfplffaaRo
namespace Go.Proofs.Ytioilpdjfplffaa.ZT
open Go.RowKit Go.Proofs.Ytioilpdjfplffaa.TB
set_option linter.unusedVariables false
set_option linter.unusedSimpArgs false
theorem bs1 (T : ByteArray) (L K W : Int) (W' : World) : (Instr.buildSlice 40 1 #[(0, .agg #[.pointer none, .string T, .int .i32 L, .int .u32 0, .int .u16 0, .int .u8 K, .int .u8 W])]).run Try.prog W' = .ok (.slice (some ⟨W'.heap.size, 0, none⟩) 1 1) (W'.alloc (.cells #[.pointer none, .string T, .int .i32 L, .int .u32 0, .int .u16 0, .int .u8 K, .int .u8 W] 38)) := by kernel_rfl
def mgn : ByteArray := { data := #[109, 97, 114, 103, 105, 110] }
set_option maxRecDepth 100000 in
set_option maxHeartbeats 8000000 in
theorem law3 (kk mw im : Bool) (n : Nat) (ls idx toks taint ks : Int) (w : World) (h0 : ¬ n = 0) (h1 : ¬ 4096 < n) :
    Calls Try.prog 3 #[.bool kk, .int .u16 n, .int .i32 ls, .int .u64 idx, .int .u16 toks, .int .u8 taint, .bool mw, .bool im, .int .i32 ks] w fun e w' => e = .returned (.bool true) ∧ Below w.heap.size w w' := by
  have h0' : ¬ ((n : Nat) : Int) = 0 := by omega
  have h1' : ¬ (4096 : Int) < (n : Int) := by omega
  obtain ⟨i0, hi, hz0, hz1, hz2⟩ := info_parts info48
  have hmk1 := fun (W : World) => run_make (P := Try.prog) W 27 48 i0 _ Try.underlying27 hi hz0 .i64 .i64 n n (by omega) (by omega) (by rw [hz2]; omega) (by omega)
  simp only [hz1, Int.toNat_natCast] at hmk1
  clear hi hz0 hz1 hz2
  obtain ⟨i1, hi, hz0, hz1, hz2⟩ := info_parts info30
  have hmk2 := fun (W : World) => run_make (P := Try.prog) W 28 30 i1 _ Try.underlying28 hi hz0 .i64 .i64 n n (by omega) (by omega) (by rw [hz2]; omega) (by omega)
  simp only [hz1, Int.toNat_natCast] at hmk2
  clear hi hz0 hz1 hz2
  obtain ⟨i2, hi, hz0, hz1, hz2⟩ := info_parts info21
  have hmk3 := fun (W : World) => run_make (P := Try.prog) W 29 21 i2 _ Try.underlying29 hi hz0 .i64 .i64 n n (by omega) (by omega) (by rw [hz2]; omega) (by omega)
  simp only [hz1, Int.toNat_natCast] at hmk3
  clear hi hz0 hz1 hz2
  obtain ⟨key, hkey'⟩ : ∃ key : Int, key = if kk = true then 189 else 0 := ⟨_, rfl⟩
  have hkey := Lib.hid hkey'
  clear hkey'
  go_enter Try.func3, Try.ntmps3
  go_upto_if 56 with fail
  go_cut [20] from 48 to 56 (fun s wx => s = .int .u16 key ∧ wx = w)
  case first =>
    cases kk
    all_goals
      go_wp2_with fail
      go_meet
      exact ⟨by rw [hkey.out]; rfl, rfl⟩
  case rest =>
    obtain ⟨rfl, rfl⟩ := hcut
    go_wp2_with fail
    refine (newBox5 _ _ _ _ _).mono ?_
    rintro e w1 ⟨g, rfl, hx, hb, hg⟩
    have L0 := Lib.hid (fun (d : Nat → Nat) (L : Nat → Int) => LS.start wc w1 g n { data := #[109, 97, 114, 103, 105, 110] } im key d L hb hx hg)
    clear hx hb hg
    go_upto_region 11 with fail
    clear hmk1 hmk2 hmk3
    have L1 := Lib.hid (fun (d : Nat → Nat) (L : Nat → Int) => (L0.out d L))
    clear L0
    generalize (((w1.alloc (.cells (madeCells #[.nilIface, .int .i32 0] (n * 2)) 48)).alloc (.cells (madeCells #[.pointer none] n) 30)).alloc (.cells (madeCells #[.int .i32 0] n) 21)) = W1 at *
    generalize w1.heap.size = rg at *
    go_wp2_with fail
    go_loopw [25, 26, 27] (fun i _ _ wr => ∃ (k : Nat) (d : Nat → Nat) (L : Nat → Int), k ≤ n ∧ i = .int .i64 k ∧ Hid (LS wc g rg (rg + 1) (rg + 1 + 1) n { data := #[109, 97, 114, 103, 105, 110] } im key k k k d L wr)) (fun i _ _ _ => n - (intOf i).toNat)
    case atStart => exact ⟨0, (fun _ => 0), (fun _ => 0), by omega, rfl, Lib.hid (L1.out _ _)⟩
    case round =>
      obtain ⟨k, d, L, hk, rfl, LJ⟩ := hrel
      clear L1
      by_cases hlt : k < n
      · have q1 : (0 : Int) ≤ (k : Int) := by omega
        have q2 : (k : Int) < (n : Int) := by omega
        have q3 : (k : Int) < 4096 := by omega
        go_upto_region 15 with fail
        have o0 : wr.cell? ⟨rg + 1 + 1, k, none⟩ = some (ogp L k k 0) := tcell1 LJ.out.2.2.2.2.1 hlt
        have o1 : wr.frozen? ⟨rg + 1 + 1, k, none⟩ = false := LJ.out.2.2.2.2.1.frozen _
        generalize wrap32 (wrap32 (ls + ↑k * 7919 % 4093) - 2046) = l at *
        have LO := Lib.hid (LJ.out.putO hlt l (Nat.le_refl _))
        clear LJ
        go_upto_region 16 with fail
        clear o0 o1
        generalize wr.setCell ⟨rg + 1 + 1, k, none⟩ (.int .i32 l) = Wa at *
        go_wp2_with fail
        refine (tok6 0 l _).mono ?_
        rintro e w5 ⟨rfl, hb5⟩
        have L5 := Lib.hid (LO.out.step hb5)
        clear hb5 LO
        have hbs := fun (W' : World) => bs1 (tx 0) l (kd 0) 0 W'
        have r0 : w5.cell? ⟨rg, k * 2, none⟩ = some (rcp d (fun i => if i = k then l else L i) k k 0) := L5.out.2.2.1.cell (i := k) (j := 0) hlt (by omega)
        have r1 : w5.cell? ⟨rg, k * 2 + 1, none⟩ = some (rcp d (fun i => if i = k then l else L i) k k 1) := L5.out.2.2.1.cell (i := k) (j := 1) hlt (by omega)
        have r2 : w5.frozen? ⟨rg, k * 2, none⟩ = false := L5.out.2.2.1.frozen _
        have r3 : w5.frozen? ⟨rg, k * 2 + 1, none⟩ = false := L5.out.2.2.1.frozen _
        have d0 : w5.cell? ⟨rg + 1, k, none⟩ = some (dgp d k k 0) := tcell1 L5.out.2.2.2.1 hlt
        have d1 : w5.frozen? ⟨rg + 1, k, none⟩ = false := L5.out.2.2.2.1.frozen _
        have z1 : rg < w5.heap.size := L5.out.2.2.1.lt
        have z2 : rg + 1 < w5.heap.size := L5.out.2.2.2.1.lt
        have n1 : ¬ rg = w5.heap.size := by omega
        have n2 : ¬ w5.heap.size = rg := by omega
        have n3 : ¬ rg = w5.heap.size + 1 := by omega
        have n4 : ¬ w5.heap.size + 1 = rg := by omega
        have n5 : ¬ rg + 1 = w5.heap.size := by omega
        have n6 : ¬ w5.heap.size = rg + 1 := by omega
        have n7 : ¬ rg = w5.heap.size := by omega
        have n8 : ¬ rg = rg + 1 := by omega
        have n9 : ¬ rg + 1 = rg := by omega
        go_wp2
        go_roundw
        case rel =>
          have LR := (L5.out.putD hlt (w5.heap.size + 1) (Nat.le_refl _)).putR hlt
          simp only [eq_self, if_true] at LR
          exact ⟨k + 1, _, _, by omega, by go_num, Lib.hid ((LR.alloc _).alloc _)⟩
        case measure => simp [intOf]; omega
      · obtain rfl : n = k := by omega
        have M0 := Lib.hid (MS.start LJ.out)
        clear LJ hlt hk
        go_upto_region 22 with fail
        generalize (((wr.alloc (.cells #[.int .i64 0, .int .i64 0, .int .i64 0, .int .i64 0] 49)).alloc (.cells #[.int .u8 0, .int .u8 0, .int .u8 0, .int .u8 0] 50)).alloc (.cells #[.int .i64 0, .int .i64 0, .int .i64 0, .int .i64 0] 49)) = W2 at *
        generalize wr.heap.size = ri at *
        go_cut [31] from 97 to 98 (fun s_ wx => s_ = .bool true ∧ wx = W2)
        case first =>
          go_wp2_with fail
          go_meet
          exact ⟨rfl, rfl⟩
        case rest =>
          obtain ⟨rfl, rfl⟩ := hcut
          refine tailApply (by assumption) ?_
          exact tail23 kk mw im n g rg ri ls idx toks taint ks key d L _ _ _ _ _ _ _ _ _ _ _ _ _ _ _ _ _ _ _ _ _ _ _ _ _ _ _ _ _ _ _ _ _ _ _ _ _ _ _ _ _ _ _ _ _ _ _ _ _ _ _ _ _ _ _ _ _ _ _ _ _ _ _ _ _ _ _ _ _ _ _ _ _ _ _ _ _ _ _ _ _ _ _ _ _ _ _ _ _ _ _ _ _ _ _ _ _ _ _ _ _ _ _ _ _ _ _ _ _ _ _ _ _ _ _ _ _ _ _ _ _ _ _ _ _ _ _ _ _ _ _ _ _ _ _ _ _ _ _ _ _ _ _ _ _ _ _ _ _ _ _ _ _ _ _ _ _ _ _ _ _ _ _ _ _ _ _ _ _ _ _ _ _ _ _ _ _ _ _ _ _ _ _ _ _ _ _ _ _ _ _ _ _ _ _ _ _ _ _ _ _ _ _ _ _ _ _ _ _ _ _ _ _ _ _ _ _ _ _ _ _ _ _ _ _ _ _ _ _ _ _ _ _ _ _ _ _ _ _ _ _ _ _ _ _ _ _ _ _ _ _ _ _ _ _ _ _ _ _ _ _ _ _ _ _ _ _ _ _ _ _ _ _ _ _ _ _ _ _ _ _ _ _ _ _ _ _ _ _ _ _ _ _ _ _ _ _ _ _ _ _ _ _ _ _ _ _ _ _ _ _ _ _ _ _ _ _ _ _ _ _ _ _ _ _ _ _ _ _ _ _ _ _ _ _ _ _ _ _ _ _ _ _ _ _ _ _ _ _ _ _ _ _ _ _ _ _ _ _ _ h0 h1 hkey.out M0.out
end Go.Proofs.Ytioilpdjfplffaa.ZT

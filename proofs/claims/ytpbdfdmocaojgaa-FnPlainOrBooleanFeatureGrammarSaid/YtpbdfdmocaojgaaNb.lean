/- zzFeatureTokens, scanMediaValue, zzFeatureShape, zzBytes. -/
import Derived.Test.YtpbdfdmocaojgaaNa
namespace Go.Proofs.Ytpbdfdmocaojgaa.MA
open Go.RowKit Go.Proofs.Ytpbdfdmocaojgaa.TB
set_option linter.unusedVariables false
theorem bld53w (s : ByteArray) (k x : Int) (w : World) : (Instr.build 53 #[(5, .int .u8 k), (1, .string s), (6, .int .u8 x)]).run Try.prog w = .ok (.agg #[.pointer none, .string s, .int .i32 0, .int .u32 0, .int .u16 0, .int .u8 k, .int .u8 x]) w := run_build w 53 _ _ (by kernel_rfl)
/-- The tokens laid in block g, or nothing. -/
def FeatP (n : Nat) (f : Nat → Nat → Value) (w : World) (e : Ending) (w' : World) : Prop :=
  (n = 0 ∧ e = .returned (.slice none 0 0) ∧ w = w') ∨ ∃ g, e = .returned (.slice (some ⟨g, 0, none⟩) n n) ∧ Tab w' g 53 7 n f ∧ w.heap.size ≤ g ∧ Below w.heap.size w w'
set_option maxRecDepth 100000 in
set_option maxHeartbeats 1000000 in
theorem feats (A B D : Option Addr) (n c m d p q : Nat) (z : Nat → Int) (T : Nat → ByteArray) (y : Nat → Int) (w : World) (r : BR w A n z) (hA : A = none → n = 0) (r2 : SR w B m T) (r3 : BR w D p y) (hz : ∀ i, i < n → 0 ≤ z i ∧ z i ≤ 255) (hn : n ≤ 1048576) (hm : m ≤ 131072) (hp : p ≤ 1048576) :
    Calls Try.prog 11 #[.slice A n c, .slice B m d, .slice D p q] w (FeatP n (tc (fun i => kdf (z i)) (txa m T) (fun i => flg (bya p y i))) w) := by
  have eq1 := fun (w : World) (a : Option Addr) (n c n' c' : Nat) => Lib.run_eql_slice_nil (P := Try.prog) w 36 5 a n c n' c' Try.underlying36
  cases A with
  | none =>
    obtain rfl := hA rfl
    go_enter Try.func11, Try.ntmps11
    go_wp2
    go_ret
    exact .inl ⟨rfl, rfl, rfl⟩
  | some x =>
    obtain ⟨i0, hi, hz0, hz1, hz2⟩ := info_parts info53
    have hmk := fun (W : World) => run_make (P := Try.prog) W 25 53 i0 _ Try.underlying25 hi hz0 .i64 .i64 n n (by omega) (by omega) (by rw [hz2]; omega) (by omega)
    simp only [hz1, Int.toNat_natCast] at hmk
    have R := Lib.hid r
    have R2 := Lib.hid r2
    have R3 := Lib.hid r3
    have HZ := Lib.hid hz
    clear r hA r2 r3 hz
    have T0 := Lib.hid (Tab.new w 53 #[.pointer none, .string ByteArray.empty, .int .i32 0, .int .u32 0, .int .u16 0, .int .u8 0, .int .u8 0] n 7 rfl (tpart (fun i => kdf (z i)) (txa m T) (fun i => flg (bya p y i)) 0) (fun i j _ _ => by unfold tpart; simp))
    have B0 := Lib.hid (show Below w.heap.size w (w.alloc (.cells (madeCells #[.pointer none, .string ByteArray.empty, .int .i32 0, .int .u32 0, .int .u16 0, .int .u8 0, .int .u8 0] (n * 7)) 53)) from (Below.refl _ _).alloc (Nat.le_refl _) _)
    go_enter Try.func11, Try.ntmps11
    go_wp2_with fail
    generalize w.alloc (.cells (madeCells #[.pointer none, .string ByteArray.empty, .int .i32 0, .int .u32 0, .int .u16 0, .int .u8 0, .int .u8 0] (n * 7)) 53) = W0 at *
    clear hmk
    go_loopw [8] (fun i wr => ∃ k : Nat, k ≤ n ∧ i = .int .i64 k ∧ Hid (Tab wr w.heap.size 53 7 n (tpart (fun i => kdf (z i)) (txa m T) (fun i => flg (bya p y i)) k)) ∧ Hid (Below w.heap.size w wr)) (fun i _ => n - (intOf i).toNat)
    case atStart => exact ⟨0, Nat.zero_le _, rfl, T0, B0⟩
    case round =>
      obtain ⟨k, hk, rfl, TT, BB⟩ := hrel
      clear T0 B0
      by_cases hlt : k < n
      · obtain ⟨b, o, e, hb, hc⟩ := R.out (by omega)
        obtain rfl : x = ⟨b, o, none⟩ := by injection e
        clear e
        have z0 : wr.cell? ⟨b, o + k, none⟩ = some (.int .u8 (z k)) := by rw [BB.out.cell hb]; exact hc k hlt
        have hk0 := (HZ.out k hlt).1
        have hk1 := (HZ.out k hlt).2
        have C1 := Lib.hid (textAt B m d T k wr (R2.out.below BB.out) hm (by omega))
        have C2 := Lib.hid (byteAt D p q y k wr (R3.out.below BB.out) hp (by omega))
        have q1 : (0 : Int) ≤ (k : Int) := by omega
        have q2 : (k : Int) < (n : Int) := by omega
        have y0 := TT.out.cell hlt (j := 0) (by omega)
        have y1 := TT.out.cell hlt (j := 1) (by omega)
        have y2 := TT.out.cell hlt (j := 2) (by omega)
        have y3 := TT.out.cell hlt (j := 3) (by omega)
        have y4 := TT.out.cell hlt (j := 4) (by omega)
        have y5 := TT.out.cell hlt (j := 5) (by omega)
        have y6 := TT.out.cell hlt (j := 6) (by omega)
        have v0 := TT.out.frozen (k * 7)
        have v1 := TT.out.frozen (k * 7 + 1)
        have v2 := TT.out.frozen (k * 7 + 2)
        have v3 := TT.out.frozen (k * 7 + 3)
        have v4 := TT.out.frozen (k * 7 + 4)
        have v5 := TT.out.frozen (k * 7 + 5)
        have v6 := TT.out.frozen (k * 7 + 6)
        rw [show k * 7 + 0 = k * 7 from rfl] at y0
        have B53 := @bld53w
        clear hc
        go_wp2_with (first
          | (go_at_call 15; refine (kindOf _ _ hk0 hk1).mono ?_; rintro e w' ⟨rfl, rfl⟩)
          | (go_at_call 14; refine C1.out.mono ?_; rintro e w' ⟨rfl, rfl⟩)
          | (go_at_call 17; refine C2.out.mono ?_; rintro e w' ⟨rfl, rfl⟩)
          | (go_at_call 16; refine (flagsOf _ _).mono ?_; rintro e w' ⟨rfl, rfl⟩))
        clear z0 y0 y1 y2 y3 y4 y5 y6 v0 v1 v2 v3 v4 v5 v6 B53
        have TS := Lib.hid (tpart_step TT.out hlt)
        go_roundw
        case rel =>
          refine ⟨k + 1, by omega, by go_num, ?_, ?_⟩
          · exact TS
          exact Lib.hid (((((((BB.out.setCell (Nat.le_refl _) _).setCell (Nat.le_refl _) _).setCell (Nat.le_refl _) _).setCell (Nat.le_refl _) _).setCell (Nat.le_refl _) _).setCell (Nat.le_refl _) _).setCell (Nat.le_refl _) _)
        case measure => simp [intOf]; omega
      · obtain rfl : k = n := by omega
        have HT := Lib.hid (TT.out.ext (f' := tc (fun i => kdf (z i)) (txa m T) (fun i => flg (bya p y i))) (fun i j hi _ => by unfold tpart; rw [if_pos hi]))
        go_wp2_with fail
        go_ret
        exact .inr ⟨w.heap.size, rfl, HT.out, Nat.le_refl _, BB.out⟩
end Go.Proofs.Ytpbdfdmocaojgaa.MA

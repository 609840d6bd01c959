/- The small functions of n011_185 over slices of ZZTok, walked. -/
import Derived.Test.YtmfpgnedeonmiaaDoorHb
namespace Go.Proofs.YtmfpgnedeonmiaaDoor.WA
open Go Go.RowKit Go.Lib Go.Proofs.YtmfpgnedeonmiaaDoor.MP Go.Proofs.YtmfpgnedeonmiaaDoor.SY Go.Proofs.YtmfpgnedeonmiaaDoor.LO Go.Proofs.YtmfpgnedeonmiaaDoor.TB Go.Proofs.YtmfpgnedeonmiaaDoor.OW
set_option linter.unusedVariables false
abbrev TZ : TypeId := 32
/-- A slice of ZZTok, as columns. -/
def ZR (w : World) (A : Option Addr) (n : Nat) (K : Nat → Int) (T : Nat → ByteArray) : Prop :=
  0 < n → ∃ b o, A = some ⟨b, o, none⟩ ∧ b < w.heap.size ∧ ∀ i, i < n → w.cell? ⟨b, o + i * 2, none⟩ = some (.int .u8 (K i)) ∧ w.cell? ⟨b, o + i * 2 + 1, none⟩ = some (.string (T i))
theorem ZR.below {w w' : World} {A : Option Addr} {n : Nat} {K : Nat → Int} {T : Nat → ByteArray} (h : ZR w A n K T) (hb : Below w.heap.size w w') : ZR w' A n K T := by
  intro hn
  obtain ⟨b, o, e, hl, hc⟩ := h hn
  refine ⟨b, o, e, Nat.lt_of_lt_of_le hl hb.size, fun i hi => ?_⟩
  obtain ⟨x0, x1⟩ := hc i hi
  exact ⟨by rw [hb.cell hl]; exact x0, by rw [hb.cell hl]; exact x1⟩
def BytesP (n : Nat) (T : Nat → ByteArray) (w : World) (e : Ending) (w' : World) : Prop := ∃ b : Bool, e = .returned (.bool b) ∧ w = w' ∧ (b = true → n ≤ 1048576 ∧ ∀ i, i < n → (T i).size ≤ 1048576)
def SomeInt (w : World) (e : Ending) (w' : World) : Prop := ∃ N : Int, 0 ≤ N ∧ N ≤ 4194304 ∧ e = .returned (.int .i64 N) ∧ w = w'
section
variable (A : Option Addr) (n c : Nat) (ml : Bool) (K : Nat → Int) (T : Nat → ByteArray) (w : World)
set_option maxRecDepth 100000 in
set_option maxHeartbeats 1000000 in
theorem bytesE (r : ZR w A n K T) (hn : n ≤ 9223372036854775807) : Calls Tryd.prog 5 #[.slice A n c, .bool ml] w (BytesP n T w) := by
  have R := Lib.hid r
  clear r
  by_cases h1 : n ≤ 1048576
  · go_enter Tryd.func5, Tryd.ntmps5
    go_wp2
    go_loop [5, 6] (fun s i => ∃ (k : Nat) (N : Int), k ≤ n ∧ 0 ≤ N ∧ N ≤ 1048576 ∧ i = .int .i64 k ∧ s = .int .i64 N ∧ Hid (∀ i, i < k → (T i).size ≤ 1048576)) (fun _ i => n - (intOf i).toNat)
    case atStart => exact ⟨0, (n : Int), Nat.zero_le _, by omega, by omega, rfl, rfl, Lib.hid (fun i h => absurd h (by omega))⟩
    case round =>
      obtain ⟨k, N, hk, h0, h1', rfl, rfl, HZ⟩ := hrel
      by_cases hlt : k < n
      · obtain ⟨b, o, rfl, hb, hc⟩ := R.out (by omega)
        have x1 := (hc k hlt).2
        clear hc
        have q1 : (0 : Int) ≤ (k : Int) := by omega
        have q2 : (k : Int) < (n : Int) := by omega
        by_cases hs : (T k).size ≤ 1048576
        · by_cases hbig : N + (T k).size ≤ 1048576
          · go_wp2
            go_round
            case rel => exact ⟨k + 1, N + (T k).size, by omega, by omega, by omega, by go_num, rfl, Lib.hid (fun i hi => by
                by_cases e : i < k
                · exact HZ.out i e
                · obtain rfl : i = k := by omega
                  exact hs)⟩
            case measure => simp [intOf]; omega
          · go_wp2
            go_ret
            exact ⟨false, rfl, rfl, fun h => by cases h⟩
        · go_wp2
          go_ret
          exact ⟨false, rfl, rfl, fun h => by cases h⟩
      · obtain rfl : k = n := by omega
        go_wp2
        go_ret
        exact ⟨true, rfl, rfl, fun _ => ⟨h1, HZ.out⟩⟩
  · go_enter Tryd.func5, Tryd.ntmps5
    go_wp2
    go_ret
    exact ⟨false, rfl, rfl, fun h => by cases h⟩
set_option maxRecDepth 100000 in
set_option maxHeartbeats 1000000 in
theorem tokBytes (r : ZR w A n K T) (hn : n ≤ 1048576) (ht : ∀ i, i < n → (T i).size ≤ 1048576) : Calls Tryd.prog 6 #[.slice A n c] w (SomeInt w) := by
  have R := Lib.hid r
  have HZ := Lib.hid ht
  clear r ht
  go_enter Tryd.func6, Tryd.ntmps6
  go_wp2
  go_loop [3, 4] (fun s i => ∃ (k : Nat) (N : Int), k ≤ n ∧ 0 ≤ N ∧ N ≤ 1048576 ∧ i = .int .i64 k ∧ s = .int .i64 N) (fun _ i => n - (intOf i).toNat)
  case atStart => exact ⟨0, 0, Nat.zero_le _, by omega, by omega, rfl, rfl⟩
  case round =>
    obtain ⟨k, N, hk, h0, h1, rfl, rfl⟩ := hrel
    by_cases hlt : k < n
    · obtain ⟨b, o, rfl, hb, hc⟩ := R.out (by omega)
      have x1 := (hc k hlt).2
      have hts := HZ.out k hlt
      clear hc
      have q1 : (0 : Int) ≤ (k : Int) := by omega
      have q2 : (k : Int) < (n : Int) := by omega
      by_cases hbig : N + (24 + ((T k).size : Int)) ≤ 1048576
      · go_wp2
        go_round
        case rel => exact ⟨k + 1, N + (24 + ((T k).size : Int)), by omega, by omega, by omega, by go_num, rfl⟩
        case measure => simp [intOf]; omega
      · go_wp2
        go_ret
        exact ⟨N + (24 + ((T k).size : Int)), by omega, by omega, rfl, rfl⟩
    · obtain rfl : k = n := by omega
      go_wp2
      go_ret
      exact ⟨N, h0, by omega, rfl, rfl⟩
end
def zc (K : Nat → Int) (T : Nat → ByteArray) : Nat → Nat → Value := fun i j => #[Value.int .u8 (K i), .string (T i)][j]!
def zpart (K : Nat → Int) (T : Nat → ByteArray) (k : Nat) : Nat → Nat → Value := fun i j => if i < k then zc K T i j else #[Value.int .u8 0, .string ByteArray.empty][j]!
theorem zpart_step {w : World} {g n k : Nat} {K : Nat → Int} {T : Nat → ByteArray} (h : Tab w g TZ 2 n (zpart K T k)) (hk : k < n) :
    Tab ((w.setCell ⟨g, k * 2, none⟩ (.int .u8 (K k))).setCell ⟨g, k * 2 + 1, none⟩ (.string (T k))) g TZ 2 n (zpart K T (k + 1)) := by
  refine ((h.set hk (j := 0) (by omega) (.int .u8 (K k))).set hk (j := 1) (by omega) (.string (T k))).ext fun i j hi hj => ?_
  by_cases e : i = k
  · subst e
    have : j = 0 ∨ j = 1 := by omega
    rcases this with rfl | rfl <;> simp [upd, zpart, zc]
  · have e1 : (i < k + 1) = (i < k) := by simp; omega
    simp [upd, zpart, e, e1]
theorem ZR.of_tab {w : World} {g n : Nat} {K : Nat → Int} {T : Nat → ByteArray} (h : Tab w g TZ 2 n (zc K T)) : ZR w (some ⟨g, 0, none⟩) n K T := by
  intro hn
  refine ⟨g, 0, rfl, h.lt, fun i hi => ⟨?_, ?_⟩⟩
  · rw [Nat.zero_add]; exact h.cell hi (j := 0) (by omega)
  · rw [Nat.zero_add]; exact h.cell hi (j := 1) (by omega)
theorem infoZ : (Tryd.prog.info? TZ).map (fun i => (i.zero, i.size, i.bytes)) = some (some (.agg #[.int .u8 0, .string ByteArray.empty]), 2, 24) := by kernel_rfl
def CloneP (n : Nat) (K : Nat → Int) (T : Nat → ByteArray) (w : World) (e : Ending) (w' : World) : Prop :=
  ∃ A' c', e = .returned (.slice A' n c') ∧ n ≤ c' ∧ ZR w' A' n K T ∧ Below w.heap.size w w'
set_option maxRecDepth 100000 in
set_option maxHeartbeats 1000000 in
theorem cloneF (A : Option Addr) (n c : Nat) (K : Nat → Int) (T : Nat → ByteArray) (w : World) (r : ZR w A n K T) (hA : A = none → n = 0) (hn : n ≤ 1048576) :
    Calls Tryd.prog 7 #[.slice A n c] w (CloneP n K T w) := by
  have eq1 := fun (w : World) (a : Option Addr) (n c n' c' : Nat) => Lib.run_eql_slice_nil (P := Tryd.prog) w 22 TZ a n c n' c' Tryd.underlying22
  cases A with
  | none =>
    obtain rfl := hA rfl
    go_enter Tryd.func7, Tryd.ntmps7
    go_wp2
    go_ret
    exact ⟨none, 0, rfl, Nat.le_refl _, fun h => absurd h (by omega), Below.refl _ _⟩
  | some x =>
    obtain ⟨i0, hi, hz0, hz1, hz2⟩ := info_parts infoZ
    have hmk := fun (W : World) => run_make (P := Tryd.prog) W 22 TZ i0 _ Tryd.underlying22 hi hz0 .i64 .i64 n n (by omega) (by omega) (by rw [hz2]; omega) (by omega)
    simp only [hz1, Int.toNat_natCast] at hmk
    have R := Lib.hid r
    clear r hA
    have T0 := Lib.hid (Tab.new w TZ #[.int .u8 0, .string ByteArray.empty] n 2 rfl (zpart K T 0) (fun i j _ _ => by unfold zpart; simp))
    have B0 := Lib.hid (show Below w.heap.size w (w.alloc (.cells (madeCells #[.int .u8 0, .string ByteArray.empty] (n * 2)) TZ)) from (Below.refl _ _).alloc (Nat.le_refl _) _)
    go_enter Tryd.func7, Tryd.ntmps7
    go_wp2
    generalize w.alloc (.cells (madeCells #[.int .u8 0, .string ByteArray.empty] (n * 2)) TZ) = W0 at *
    clear hmk
    go_loopw [4] (fun i wr => ∃ k : Nat, k ≤ n ∧ i = .int .i64 k ∧ Hid (Tab wr w.heap.size TZ 2 n (zpart K T k)) ∧ Hid (Below w.heap.size w wr)) (fun i _ => n - (intOf i).toNat)
    case atStart => exact ⟨0, Nat.zero_le _, rfl, T0, B0⟩
    case round =>
      obtain ⟨k, hk, rfl, TT, BB⟩ := hrel
      clear T0 B0
      by_cases hlt : k < n
      · obtain ⟨b, o, e, hb, hc⟩ := R.out (by omega)
        obtain rfl : x = ⟨b, o, none⟩ := by injection e
        clear e
        obtain ⟨x0, x1⟩ := hc k hlt
        have z0 : wr.cell? ⟨b, o + k * 2, none⟩ = some (.int .u8 (K k)) := by rw [BB.out.cell hb]; exact x0
        have z1 : wr.cell? ⟨b, o + k * 2 + 1, none⟩ = some (.string (T k)) := by rw [BB.out.cell hb]; exact x1
        have q1 : (0 : Int) ≤ (k : Int) := by omega
        have q2 : (k : Int) < (n : Int) := by omega
        have y0 := TT.out.cell hlt (j := 0) (by omega)
        have y1 := TT.out.cell hlt (j := 1) (by omega)
        have u0 := TT.out.frozen (k * 2 + 0)
        have u1 := TT.out.frozen (k * 2 + 1)
        rw [Nat.add_zero] at y0 u0
        clear hc x0 x1
        go_wp2
        go_roundw
        case rel =>
          exact ⟨k + 1, by omega, by go_num, Lib.hid (zpart_step TT.out hlt), Lib.hid ((BB.out.setCell (Nat.le_refl _) _).setCell (Nat.le_refl _) _)⟩
        case measure => simp [intOf]; omega
      · obtain rfl : k = n := by omega
        have HT := Lib.hid (TT.out.ext (f' := zc K T) (fun i j hi _ => by unfold zpart; rw [if_pos hi]))
        go_wp2
        go_ret
        exact ⟨_, _, rfl, Nat.le_refl _, ZR.of_tab HT.out, BB.out⟩
def tkz (K : Nat → Int) (T : Nat → ByteArray) (k : Nat) : Nat → Nat → Value := fun i j => if i < k then tkc K T (fun _ => 0) i j else #[Value.pointer none, .string ByteArray.empty, .int .i32 0, .int .u32 0, .int .u16 0, .int .u8 0, .int .u8 0][j]!
theorem tkz_step {w : World} {g n k : Nat} {K : Nat → Int} {T : Nat → ByteArray} (h : Tab w g TT 7 n (tkz K T k)) (hk : k < n) :
    Tab ((w.setCell ⟨g, k * 7 + 5, none⟩ (.int .u8 (K k))).setCell ⟨g, k * 7 + 1, none⟩ (.string (T k))) g TT 7 n (tkz K T (k + 1)) := by
  refine ((h.set hk (j := 5) (by omega) (.int .u8 (K k))).set hk (j := 1) (by omega) (.string (T k))).ext fun i j hi hj => ?_
  by_cases e : i = k
  · subst e
    rcases seven hj with rfl | rfl | rfl | rfl | rfl | rfl | rfl <;> simp [upd, tkz, tkc]
  · have e1 : (i < k + 1) = (i < k) := by simp; omega
    simp [upd, tkz, e, e1]
theorem infoT : (Tryd.prog.info? TT).map (fun i => (i.zero, i.size, i.bytes)) = some (some (.agg #[.pointer none, .string ByteArray.empty, .int .i32 0, .int .u32 0, .int .u16 0, .int .u8 0, .int .u8 0]), 7, 40) := by kernel_rfl
/-- The tokens laid in block g. -/
def BuildP (n : Nat) (K : Nat → Int) (T : Nat → ByteArray) (w : World) (e : Ending) (w' : World) : Prop :=
  ∃ g, e = .returned (.slice (some ⟨g, 0, none⟩) n n) ∧ Tab w' g TT 7 n (tkc K T (fun _ => 0)) ∧ w.heap.size ≤ g ∧ Below w.heap.size w w'
set_option maxRecDepth 100000 in
set_option maxHeartbeats 1000000 in
theorem buildF (A : Option Addr) (n c : Nat) (K : Nat → Int) (T : Nat → ByteArray) (w : World) (r : ZR w A n K T) (hn : n ≤ 1048576) :
    Calls Tryd.prog 9 #[.slice A n c] w (BuildP n K T w) := by
  obtain ⟨i0, hi, hz0, hz1, hz2⟩ := info_parts infoT
  have hmk := fun (W : World) => run_make (P := Tryd.prog) W 28 TT i0 _ Tryd.underlying28 hi hz0 .i64 .i64 n n (by omega) (by omega) (by rw [hz2]; omega) (by omega)
  simp only [hz1, Int.toNat_natCast] at hmk
  have R := Lib.hid r
  clear r
  have T0 := Lib.hid (Tab.new w TT #[.pointer none, .string ByteArray.empty, .int .i32 0, .int .u32 0, .int .u16 0, .int .u8 0, .int .u8 0] n 7 rfl (tkz K T 0) (fun i j _ _ => by unfold tkz; simp))
  have B0 := Lib.hid (show Below w.heap.size w (w.alloc (.cells (madeCells #[.pointer none, .string ByteArray.empty, .int .i32 0, .int .u32 0, .int .u16 0, .int .u8 0, .int .u8 0] (n * 7)) TT)) from (Below.refl _ _).alloc (Nat.le_refl _) _)
  go_enter Tryd.func9, Tryd.ntmps9
  go_wp2_with fail
  generalize w.alloc (.cells (madeCells #[.pointer none, .string ByteArray.empty, .int .i32 0, .int .u32 0, .int .u16 0, .int .u8 0, .int .u8 0] (n * 7)) TT) = W0 at *
  clear hmk
  go_loopw [4] (fun i wr => ∃ k : Nat, k ≤ n ∧ i = .int .i64 k ∧ Hid (Tab wr w.heap.size TT 7 n (tkz K T k)) ∧ Hid (Below w.heap.size w wr)) (fun i _ => n - (intOf i).toNat)
  case atStart => exact ⟨0, Nat.zero_le _, rfl, T0, B0⟩
  case round =>
    obtain ⟨k, hk, rfl, TK, BB⟩ := hrel
    clear T0 B0
    by_cases hlt : k < n
    · obtain ⟨b, o, rfl, hb, hc⟩ := R.out (by omega)
      obtain ⟨x0, x1⟩ := hc k hlt
      have z0 : wr.cell? ⟨b, o + k * 2, none⟩ = some (.int .u8 (K k)) := by rw [BB.out.cell hb]; exact x0
      have z1 : wr.cell? ⟨b, o + k * 2 + 1, none⟩ = some (.string (T k)) := by rw [BB.out.cell hb]; exact x1
      have q1 : (0 : Int) ≤ (k : Int) := by omega
      have q2 : (k : Int) < (n : Int) := by omega
      have r1 : b ≠ w.heap.size := by omega
      have y1 := TK.out.cell hlt (j := 1) (by omega)
      have y5 := TK.out.cell hlt (j := 5) (by omega)
      have v1 := TK.out.frozen (k * 7 + 1)
      have v5 := TK.out.frozen (k * 7 + 5)
      clear hc x0 x1
      go_wp2_with fail
      clear z0 z1 y1 y5 v1 v5
      have TS := Lib.hid (tkz_step TK.out hlt)
      go_roundw
      case rel =>
        refine ⟨k + 1, by omega, by go_num, TS, ?_⟩
        exact Lib.hid ((BB.out.setCell (Nat.le_refl _) _).setCell (Nat.le_refl _) _)
      case measure => simp [intOf]; omega
    · obtain rfl : k = n := by omega
      have HT := Lib.hid (TK.out.ext (f' := tkc K T (fun _ => 0)) (fun i j hi _ => by unfold tkz; rw [if_pos hi]))
      go_wp2_with fail
      go_ret
      exact ⟨w.heap.size, rfl, HT.out, Nat.le_refl _, BB.out⟩
end Go.Proofs.YtmfpgnedeonmiaaDoor.WA

/- The builders of n011_154, walked. -/
import Derived.Test.YtcmdokiicicghaaDoorHb
namespace Go.Proofs.YtcmdokiicicghaaDoor.WA
open Go Go.RowKit Go.Lib Go.Proofs.YtcmdokiicicghaaDoor.MP Go.Proofs.YtcmdokiicicghaaDoor.SY Go.Proofs.YtcmdokiicicghaaDoor.LO Go.Proofs.YtcmdokiicicghaaDoor.TB Go.Proofs.YtcmdokiicicghaaDoor.OW
set_option linter.unusedVariables false
/-- A slice of bytes, a slice of texts, as columns. -/
def BR (w : World) (A : Option Addr) (n : Nat) (z : Nat → Int) : Prop := 0 < n → ∃ b o, A = some ⟨b, o, none⟩ ∧ b < w.heap.size ∧ ∀ i, i < n → w.cell? ⟨b, o + i, none⟩ = some (.int .u8 (z i))
def SR (w : World) (A : Option Addr) (n : Nat) (T : Nat → ByteArray) : Prop := 0 < n → ∃ b o, A = some ⟨b, o, none⟩ ∧ b < w.heap.size ∧ ∀ i, i < n → w.cell? ⟨b, o + i, none⟩ = some (.string (T i))
theorem BR.below {w w' : World} {A : Option Addr} {n : Nat} {z : Nat → Int} (h : BR w A n z) (hb : Below w.heap.size w w') : BR w' A n z := by
  intro hn
  obtain ⟨b, o, e, hl, hc⟩ := h hn
  exact ⟨b, o, e, Nat.lt_of_lt_of_le hl hb.size, fun i hi => by rw [hb.cell hl]; exact hc i hi⟩
theorem SR.below {w w' : World} {A : Option Addr} {n : Nat} {z : Nat → ByteArray} (h : SR w A n z) (hb : Below w.heap.size w w') : SR w' A n z := by
  intro hn
  obtain ⟨b, o, e, hl, hc⟩ := h hn
  exact ⟨b, o, e, Nat.lt_of_lt_of_le hl hb.size, fun i hi => by rw [hb.cell hl]; exact hc i hi⟩
def IntP (n : Int) (w : World) (e : Ending) (w' : World) : Prop := e = .returned (.int .i64 n) ∧ w = w'
def U8P (n : Int) (w : World) (e : Ending) (w' : World) : Prop := e = .returned (.int .u8 n) ∧ w = w'
def U32P (n : Int) (w : World) (e : Ending) (w' : World) : Prop := e = .returned (.int .u32 n) ∧ w = w'
set_option maxRecDepth 100000 in
theorem minF (a b : Nat) (w : World) : Calls Tryd.prog 20 #[.int .i64 a, .int .i64 b] w (IntP ((min a b : Nat) : Int) w) := by
  by_cases h : a < b
  · rw [Nat.min_eq_left (by omega)]
    go_enter Tryd.func20, Tryd.ntmps20
    go_wp2
    go_ret
    exact ⟨rfl, rfl⟩
  · rw [Nat.min_eq_right (by omega)]
    go_enter Tryd.func20, Tryd.ntmps20
    go_wp2
    go_ret
    exact ⟨rfl, rfl⟩
set_option maxRecDepth 100000 in
theorem codeF (z : Int) (w : World) (h0 : 0 ≤ z) (h1 : z ≤ 255) : Calls Tryd.prog 22 #[.int .u8 z] w (U8P (z % 5) w) := by
  go_enter Tryd.func22, Tryd.ntmps22
  go_wp2
  go_ret
  exact ⟨rfl, rfl⟩
def kd (c : Int) : Int := if c = 0 then 29 else if c = 1 then 36 else if c = 2 then 30 else if c = 3 then 10 else 34
set_option maxRecDepth 100000 in
theorem kindF (c : Int) (w : World) (h0 : 0 ≤ c) (h1 : c < 5) : Calls Tryd.prog 26 #[.int .u8 c] w (U8P (kd c) w) := by
  have h : c = 0 ∨ c = 1 ∨ c = 2 ∨ c = 3 ∨ c = 4 := by omega
  rcases h with rfl | rfl | rfl | rfl | rfl
  all_goals
    go_enter Tryd.func26, Tryd.ntmps26
    go_wp2
    go_ret
    exact ⟨rfl, rfl⟩
def kz (z : Nat → Int) (i : Nat) : Int := kd (z i % 5)
def SizeP (w : World) (e : Ending) (w' : World) : Prop := ∃ N : Int, e = .returned (.int .i64 N) ∧ w = w' ∧ 0 ≤ N ∧ N ≤ 1048577
set_option maxRecDepth 100000 in
set_option maxHeartbeats 1000000 in
theorem sizeF (A B : Option Addr) (n c m d : Nat) (T : Nat → ByteArray) (w : World) (r2 : SR w B m T) (hn : n ≤ 4096) (hm : m ≤ 4096) (ht : ∀ i, i < m → (T i).size ≤ 1048576) :
    Calls Tryd.prog 25 #[.slice A n c, .slice B m d] w (SizeP w) := by
  have R := Lib.hid r2
  have HZ := Lib.hid ht
  clear r2 ht
  go_enter Tryd.func25, Tryd.ntmps25
  go_wp2
  go_loop [5, 6] (fun s i => ∃ (k : Nat) (N : Int), k ≤ m ∧ 0 ≤ N ∧ N ≤ 1048576 ∧ i = .int .i64 k ∧ s = .int .i64 N) (fun _ i => m - (intOf i).toNat)
  case atStart => exact ⟨0, (n : Int) + 16 * m, Nat.zero_le _, by omega, by omega, rfl, by simp⟩
  case round =>
    obtain ⟨k, N, hk, h0, h1, rfl, rfl⟩ := hrel
    by_cases hlt : k < m
    · obtain ⟨b, o, rfl, hb, hc⟩ := R.out (by omega)
      have x1 := hc k hlt
      have hts := HZ.out k hlt
      clear hc
      have q1 : (0 : Int) ≤ (k : Int) := by omega
      have q2 : (k : Int) < (m : Int) := by omega
      by_cases hbig : N + (T k).size ≤ 1048576
      · go_wp2
        go_round
        case rel => exact ⟨k + 1, N + (T k).size, by omega, by omega, by omega, by go_num, rfl⟩
        case measure => simp [intOf]; omega
      · go_wp2
        go_ret
        exact ⟨1048577, rfl, rfl, by omega, by omega⟩
    · obtain rfl : k = m := by omega
      go_wp2
      go_ret
      exact ⟨N, rfl, rfl, h0, by omega⟩
def BigP (n m : Nat) (w : World) (e : Ending) (w' : World) : Prop := ∃ b : Bool, e = .returned (.bool b) ∧ w = w' ∧ (b = false → n ≤ 4096 ∧ m ≤ 4096)
set_option maxRecDepth 100000 in
set_option maxHeartbeats 1000000 in
theorem bigF (A B : Option Addr) (n c m d : Nat) (T : Nat → ByteArray) (w : World) (r2 : SR w B m T) (hn : n ≤ 1048576) (hm : m ≤ 1048576) (ht : ∀ i, i < m → (T i).size ≤ 1048576) :
    Calls Tryd.prog 13 #[.slice A n c, .slice B m d] w (BigP n m w) := by
  by_cases h : n ≤ 4096 ∧ m ≤ 4096
  · obtain ⟨h1, h2⟩ := h
    have HS := Lib.hid (sizeF A B n c m d T w r2 h1 h2 ht)
    clear r2 ht
    go_enter Tryd.func13, Tryd.ntmps13
    go_wp2_with (go_at_call 25; refine HS.out.mono ?_; rintro e w' ⟨N, rfl, rfl, hN0, hN1⟩)
    go_ret
    exact ⟨_, rfl, rfl, fun _ => ⟨h1, h2⟩⟩
  · clear r2 ht
    by_cases h1 : n ≤ 4096
    · have h2 : ¬ m ≤ 4096 := fun h2 => h ⟨h1, h2⟩
      clear h
      go_enter Tryd.func13, Tryd.ntmps13
      go_wp2_with fail
      go_ret
      exact ⟨true, rfl, rfl, fun h => by cases h⟩
    · clear h
      go_enter Tryd.func13, Tryd.ntmps13
      go_wp2_with fail
      go_ret
      exact ⟨true, rfl, rfl, fun h => by cases h⟩
def BytesP (n m : Nat) (T : Nat → ByteArray) (w : World) (e : Ending) (w' : World) : Prop := ∃ b : Bool, e = .returned (.bool b) ∧ w = w' ∧ (b = true → n ≤ 1048576 ∧ m ≤ 1048576 ∧ ∀ i, i < m → (T i).size ≤ 1048576)
set_option maxRecDepth 100000 in
set_option maxHeartbeats 1000000 in
theorem bytesN (A B : Option Addr) (n c m d : Nat) (ml : Bool) (T : Nat → ByteArray) (w : World) (r2 : SR w B m T) (hn : n ≤ 9223372036854775807) (hm : m ≤ 9223372036854775807) :
    Calls Tryd.prog 12 #[.slice A n c, .slice B m d, .bool ml] w (BytesP n m T w) := by
  have R := Lib.hid r2
  clear r2
  by_cases h1 : n ≤ 1048576
  · by_cases h2 : m ≤ 1048576
    · by_cases h3 : n + m ≤ 1048576
      · go_enter Tryd.func12, Tryd.ntmps12
        go_wp2
        go_loop [7, 8] (fun s i => ∃ (k : Nat) (N : Int), k ≤ m ∧ 0 ≤ N ∧ N ≤ 1048576 ∧ i = .int .i64 k ∧ s = .int .i64 N ∧ Hid (∀ i, i < k → (T i).size ≤ 1048576)) (fun _ i => m - (intOf i).toNat)
        case atStart => exact ⟨0, (n : Int) + m, Nat.zero_le _, by omega, by omega, rfl, rfl, Lib.hid (fun i h => absurd h (by omega))⟩
        case round =>
          obtain ⟨k, N, hk, h0, h1', rfl, rfl, HZ⟩ := hrel
          by_cases hlt : k < m
          · obtain ⟨b, o, rfl, hb, hc⟩ := R.out (by omega)
            have x1 := hc k hlt
            clear hc
            have q1 : (0 : Int) ≤ (k : Int) := by omega
            have q2 : (k : Int) < (m : Int) := by omega
            by_cases hs : (T k).size ≤ 1048576
            · by_cases hbig : N + (T k).size ≤ 1048576
              · go_wp2
                go_round
                case rel => exact ⟨k + 1, N + (T k).size, by omega, by omega, by omega, by go_num, rfl, Lib.hid (fun i hi => by
                    by_cases e : i < k
                    · exact HZ.out i e
                    · obtain rfl : i = k := by omega
                      exact hs)⟩
                case measure => simp [intOf]; omega
              · go_wp2
                go_ret
                exact ⟨false, rfl, rfl, fun h => by cases h⟩
            · go_wp2
              go_ret
              exact ⟨false, rfl, rfl, fun h => by cases h⟩
          · obtain rfl : k = m := by omega
            go_wp2
            go_ret
            exact ⟨true, rfl, rfl, fun _ => ⟨h1, h2, HZ.out⟩⟩
      · go_enter Tryd.func12, Tryd.ntmps12
        go_wp2
        go_ret
        exact ⟨false, rfl, rfl, fun h => by cases h⟩
    · go_enter Tryd.func12, Tryd.ntmps12
      go_wp2
      go_ret
      exact ⟨false, rfl, rfl, fun h => by cases h⟩
  · go_enter Tryd.func12, Tryd.ntmps12
    go_wp2
    go_ret
    exact ⟨false, rfl, rfl, fun h => by cases h⟩
def tkz (K : Nat → Int) (T : Nat → ByteArray) (k : Nat) : Nat → Nat → Value := fun i j => if i < k then tkc K T (fun _ => 0) i j else #[Value.pointer none, .string ByteArray.empty, .int .i32 0, .int .u32 0, .int .u16 0, .int .u8 0, .int .u8 0][j]!
theorem tkz_step {w : World} {g n k : Nat} {K : Nat → Int} {T : Nat → ByteArray} (h : Tab w g TT 7 n (tkz K T k)) (hk : k < n) :
    Tab ((w.setCell ⟨g, k * 7 + 5, none⟩ (.int .u8 (K k))).setCell ⟨g, k * 7 + 1, none⟩ (.string (T k))) g TT 7 n (tkz K T (k + 1)) := by
  refine ((h.set hk (j := 5) (by omega) (.int .u8 (K k))).set hk (j := 1) (by omega) (.string (T k))).ext fun i j hi hj => ?_
  by_cases e : i = k
  · subst e
    rcases seven hj with rfl | rfl | rfl | rfl | rfl | rfl | rfl <;> simp [upd, tkz, tkc]
  · have e1 : (i < k + 1) = (i < k) := by simp; omega
    simp [upd, tkz, e, e1]
theorem infoT : (Tryd.prog.info? TT).map (fun i => (i.zero, i.size, i.bytes)) = some (some (.agg #[.pointer none, .string ByteArray.empty, .int .i32 0, .int .u32 0, .int .u16 0, .int .u8 0, .int .u8 0]), 7, 40) := by kernel_rfl
/-- The tokens laid in block g. -/
def BuildP (n : Nat) (K : Nat → Int) (T : Nat → ByteArray) (w : World) (e : Ending) (w' : World) : Prop :=
  ∃ g, e = .returned (.slice (some ⟨g, 0, none⟩) n n) ∧ Tab w' g TT 7 n (tkc K T (fun _ => 0)) ∧ w.heap.size ≤ g ∧ Below w.heap.size w w'
set_option maxRecDepth 100000 in
set_option maxHeartbeats 1000000 in
theorem buildF (A B : Option Addr) (n c m d p : Nat) (z : Nat → Int) (T : Nat → ByteArray) (w : World) (r : BR w A n z) (r2 : SR w B m T) (hz : ∀ i, i < n → 0 ≤ z i ∧ z i ≤ 255) (hp : min n m = p) (hpn : p ≤ 4096) :
    Calls Tryd.prog 14 #[.slice A n c, .slice B m d] w (BuildP p (kz z) T w) := by
  obtain ⟨i0, hi, hz0, hz1, hz2⟩ := info_parts infoT
  have hmk := fun (W : World) => run_make (P := Tryd.prog) W 28 TT i0 _ Tryd.underlying28 hi hz0 .i64 .i64 p p (by omega) (by omega) (by rw [hz2]; omega) (by omega)
  simp only [hz1, Int.toNat_natCast] at hmk
  have R := Lib.hid r
  have R2 := Lib.hid r2
  have HZ := Lib.hid hz
  have HM := Lib.hid (fun w => minF n m w)
  rw [hp] at HM
  have hpm : p ≤ n ∧ p ≤ m := by omega
  obtain ⟨hp1, hp2⟩ := hpm
  clear r r2 hz hp
  have T0 := Lib.hid (Tab.new w TT #[.pointer none, .string ByteArray.empty, .int .i32 0, .int .u32 0, .int .u16 0, .int .u8 0, .int .u8 0] p 7 rfl (tkz (kz z) T 0) (fun i j _ _ => by unfold tkz; simp))
  have B0 := Lib.hid (show Below w.heap.size w (w.alloc (.cells (madeCells #[.pointer none, .string ByteArray.empty, .int .i32 0, .int .u32 0, .int .u16 0, .int .u8 0, .int .u8 0] (p * 7)) TT)) from (Below.refl _ _).alloc (Nat.le_refl _) _)
  go_enter Tryd.func14, Tryd.ntmps14
  go_wp2_with (go_at_call 20; refine (HM.out _).mono ?_; rintro e w' ⟨rfl, rfl⟩)
  generalize w.alloc (.cells (madeCells #[.pointer none, .string ByteArray.empty, .int .i32 0, .int .u32 0, .int .u16 0, .int .u8 0, .int .u8 0] (p * 7)) TT) = W0 at *
  clear hmk
  go_loopw [7] (fun i wr => ∃ k : Nat, k ≤ p ∧ i = .int .i64 k ∧ Hid (Tab wr w.heap.size TT 7 p (tkz (kz z) T k)) ∧ Hid (Below w.heap.size w wr)) (fun i _ => p - (intOf i).toNat)
  case atStart => exact ⟨0, Nat.zero_le _, rfl, T0, B0⟩
  case round =>
    obtain ⟨k, hk, rfl, TK, BB⟩ := hrel
    clear T0 B0
    by_cases hlt : k < p
    · obtain ⟨b, o, rfl, hb, hc⟩ := R.out (by omega)
      obtain ⟨b2, o2, rfl, hb2, hc2⟩ := R2.out (by omega)
      have z0 : wr.cell? ⟨b, o + k, none⟩ = some (.int .u8 (z k)) := by rw [BB.out.cell hb]; exact hc k (by omega)
      have x0 : wr.cell? ⟨b2, o2 + k, none⟩ = some (.string (T k)) := by rw [BB.out.cell hb2]; exact hc2 k (by omega)
      have hk0 := (HZ.out k (by omega)).1
      have hk1 := (HZ.out k (by omega)).2
      have C1 := Lib.hid (fun w => codeF (z k) w hk0 hk1)
      have C2 := Lib.hid (fun w => kindF (z k % 5) w (by omega) (by omega))
      have q1 : (0 : Int) ≤ (k : Int) := by omega
      have q2 : (k : Int) < (p : Int) := by omega
      have q3 : (k : Int) < (n : Int) := by omega
      have q4 : (k : Int) < (m : Int) := by omega
      have r1 : b2 ≠ w.heap.size := by omega
      have y1 := TK.out.cell hlt (j := 1) (by omega)
      have y5 := TK.out.cell hlt (j := 5) (by omega)
      have v1 := TK.out.frozen (k * 7 + 1)
      have v5 := TK.out.frozen (k * 7 + 5)
      clear hc hc2
      go_wp2_with (first
        | (go_at_call 22; refine (C1.out _).mono ?_; rintro e w' ⟨rfl, rfl⟩)
        | (go_at_call 26; refine (C2.out _).mono ?_; rintro e w' ⟨rfl, rfl⟩))
      clear z0 x0 y1 y5 v1 v5
      have TS := Lib.hid (tkz_step TK.out hlt)
      go_roundw
      case rel =>
        refine ⟨k + 1, by omega, by go_num, TS, ?_⟩
        exact Lib.hid ((BB.out.setCell (Nat.le_refl _) _).setCell (Nat.le_refl _) _)
      case measure => simp [intOf]; omega
    · obtain rfl : k = p := by omega
      have HT := Lib.hid (TK.out.ext (f' := tkc (kz z) T (fun _ => 0)) (fun i j hi _ => by unfold tkz; rw [if_pos hi]))
      go_wp2_with fail
      go_ret
      exact ⟨w.heap.size, rfl, HT.out, Nat.le_refl _, BB.out⟩
set_option maxRecDepth 100000 in
theorem accepts (c : Int) (s : ByteArray) (ml : Bool) (w : World) (h0 : 0 ≤ c) (h1 : c < 2) (hs : s.size ≤ 1048576) : Calls Tryd.prog 28 #[.int .u8 c, .string s, .bool ml] w (BP (cv ml (kd c) s) w) := by
  have HR := Lib.hid (reserved s w hs)
  have h : c = 0 ∨ c = 1 := by omega
  rcases h with rfl | rfl
  all_goals cases ml
  all_goals
    first
    | (have e : Hid (cv false (kd 0) s = !resB s.data.toList) := Lib.hid (by simp [cv, kd])
       rw [e.out]
       go_enter Tryd.func28, Tryd.ntmps28
       go_wp2_with (go_at_call 9; refine HR.out.mono ?_; rintro e w1 ⟨rfl, hb⟩; have BB := Lib.hid hb; clear hb)
       go_ret
       exact ⟨rfl, BB.out⟩)
    | (have e : Hid (cv true (kd 0) s = !resB s.data.toList) := Lib.hid (by simp [cv, kd])
       rw [e.out]
       go_enter Tryd.func28, Tryd.ntmps28
       go_wp2_with (go_at_call 9; refine HR.out.mono ?_; rintro e w1 ⟨rfl, hb⟩; have BB := Lib.hid hb; clear hb)
       go_ret
       exact ⟨rfl, BB.out⟩)
    | (have e : Hid (cv false (kd 1) s = !resB s.data.toList) := Lib.hid (by simp [cv, kd])
       rw [e.out]
       go_enter Tryd.func28, Tryd.ntmps28
       go_wp2_with (go_at_call 9; refine HR.out.mono ?_; rintro e w1 ⟨rfl, hb⟩; have BB := Lib.hid hb; clear hb)
       go_ret
       exact ⟨rfl, BB.out⟩)
    | (have e : Hid (cv true (kd 1) s = true) := Lib.hid (by simp [cv, kd])
       rw [e.out]
       go_enter Tryd.func28, Tryd.ntmps28
       go_wp2_with fail
       go_ret
       exact ⟨rfl, Below.refl _ _⟩)
end Go.Proofs.YtcmdokiicicghaaDoor.WA

/- FnRemoveColorInterpolationIgnoresCase: its small functions. -/
import Derived.Test.YtbdmbknehfjoaaaDoorTq
import Derived.OwnWalk
import Derived.Laws.MakeOwn
import Derived.Lib.SliceRun
import Derived.Laws.Strings3
import Derived.Laws.BytesString
import Derived.Lib.Strings
namespace Go.Proofs.YtbdmbknehfjoaaaDoor.ZT
open Go.RowKit Go.Proofs.YtbdmbknehfjoaaaDoor.TB
set_option linter.unusedVariables false
/-- A slice of bytes; a slice of texts. -/
def BR (w : World) (A : Option Addr) (n : Nat) (z : Nat → Int) : Prop := 0 < n → ∃ b o, A = some ⟨b, o, none⟩ ∧ b < w.heap.size ∧ ∀ i, i < n → w.cell? ⟨b, o + i, none⟩ = some (.int .u8 (z i))
def SR (w : World) (A : Option Addr) (n : Nat) (z : Nat → ByteArray) : Prop := 0 < n → ∃ b o, A = some ⟨b, o, none⟩ ∧ b < w.heap.size ∧ ∀ i, i < n → w.cell? ⟨b, o + i, none⟩ = some (.string (z i))
section
variable {w w' : World} {A : Option Addr} {n : Nat}
theorem BR.below {z : Nat → Int} (h : BR w A n z) (hb : Below w.heap.size w w') : BR w' A n z := by
  intro h0
  obtain ⟨b, o, e, hl, hc⟩ := h h0
  exact ⟨b, o, e, Nat.lt_of_lt_of_le hl hb.size, fun i hi => by rw [hb.cell hl]; exact hc i hi⟩
theorem SR.below {z : Nat → ByteArray} (h : SR w A n z) (hb : Below w.heap.size w w') : SR w' A n z := by
  intro h0
  obtain ⟨b, o, e, hl, hc⟩ := h h0
  exact ⟨b, o, e, Nat.lt_of_lt_of_le hl hb.size, fun i hi => by rw [hb.cell hl]; exact hc i hi⟩
theorem BR.le {z : Nat → Int} {m : Nat} (h : BR w A n z) (hm : m ≤ n) : BR w A m z := by
  intro h0
  obtain ⟨b, o, e, hl, hc⟩ := h (by omega)
  exact ⟨b, o, e, hl, fun i hi => hc i (by omega)⟩
theorem SR.le {z : Nat → ByteArray} {m : Nat} (h : SR w A n z) (hm : m ≤ n) : SR w A m z := by
  intro h0
  obtain ⟨b, o, e, hl, hc⟩ := h (by omega)
  exact ⟨b, o, e, hl, fun i hi => hc i (by omega)⟩
end
theorem tab1 {w : World} {g t n : Nat} {f : Nat → Nat → Value} (h : Tab w g t 1 n f) {i : Nat} (hi : i < n) : w.cell? ⟨g, i, none⟩ = some (f i 0) := by
  have := h.cell hi (j := 0) (by omega)
  rwa [Nat.mul_one, Nat.add_zero] at this
theorem one_step {w : World} {g t n k : Nat} {F : Nat → Value} {Z : Value} (h : Tab w g t 1 n (fun i _ => if i < k then F i else Z)) (hk : k < n) : Tab (w.setCell ⟨g, k, none⟩ (F k)) g t 1 n (fun i _ => if i < k + 1 then F i else Z) := by
  have h1 := h.set hk (j := 0) (by omega) (F k)
  rw [Nat.mul_one, Nat.add_zero] at h1
  refine h1.ext fun i j hi hj => ?_
  show (if i = k ∧ j = 0 then F k else if i < k then F i else Z) = if i < k + 1 then F i else Z
  by_cases e : i = k
  · subst e
    rw [if_pos ⟨rfl, by omega⟩, if_pos (by omega)]
  · rw [if_neg (fun h => e h.1)]
    by_cases e2 : i < k
    · rw [if_pos e2, if_pos (by omega)]
    · rw [if_neg e2, if_neg (by omega)]
theorem info5 : (Tryd.prog.info? 5).map (fun i => (i.zero, i.size, i.bytes)) = some (some (.int .u8 0), 1, 1) := by kernel_rfl
theorem info9 : (Tryd.prog.info? 9).map (fun i => (i.zero, i.size, i.bytes)) = some (some (.string ⟨#[]⟩), 1, 16) := by kernel_rfl
set_option maxRecDepth 100000 in
theorem min6 (n m : Nat) (w : World) : Calls Tryd.prog 6 #[.int .i64 n, .int .i64 m] w fun e w' => e = .returned (.int .i64 ((min n m : Nat) : Int)) ∧ w = w' := by
  by_cases h : n < m
  · have q : (n : Int) < (m : Int) := by omega
    have e : min n m = n := by omega
    go_enter Tryd.func6, Tryd.ntmps6
    go_wp2
    go_ret
    exact ⟨by first | rfl | (rw [e]; rfl), rfl⟩
  · have q : ¬ (n : Int) < (m : Int) := by omega
    have e : min n m = m := by omega
    go_enter Tryd.func6, Tryd.ntmps6
    go_wp2
    go_ret
    exact ⟨by first | rfl | (rw [e]; rfl), rfl⟩
set_option maxRecDepth 100000 in
theorem polar18 (c : Int) (w : World) (h0 : 0 ≤ c) (h1 : c < 15) : Calls Tryd.prog 18 #[.int .u8 c] w fun e w' => e = .returned (.bool (c == 2 || (c == 3 || (c == 5 || c == 7)))) ∧ w = w' := by
  rcases (by omega : c = 0 ∨ c = 1 ∨ c = 2 ∨ c = 3 ∨ c = 4 ∨ c = 5 ∨ c = 6 ∨ c = 7 ∨ c = 8 ∨ c = 9 ∨ c = 10 ∨ c = 11 ∨ c = 12 ∨ c = 13 ∨ c = 14) with rfl | rfl | rfl | rfl | rfl | rfl | rfl | rfl | rfl | rfl | rfl | rfl | rfl | rfl | rfl
  all_goals
    go_enter Tryd.func18, Tryd.ntmps18
    go_wp2
    go_ret
    exact ⟨rfl, rfl⟩
def kO (c : Int) : Int := if c % 5 = 0 then 29 else if c % 5 = 1 then 30 else if c % 5 = 2 then 10 else if c % 5 = 3 then 34 else 27
set_option maxRecDepth 100000 in
theorem kind14 (c : Int) (w : World) (h0 : 0 ≤ c) (h1 : c ≤ 255) : Calls Tryd.prog 14 #[.int .u8 c] w fun e w' => e = .returned (.int .u8 (kO c)) ∧ w = w' := by
  obtain ⟨r, hr⟩ : ∃ r, c % 5 = r := ⟨_, rfl⟩
  have ht : c.tmod 5 = r := by rw [Int.tmod_eq_emod_of_nonneg h0]; exact hr
  have hk : kO c = if r = 0 then 29 else if r = 1 then 30 else if r = 2 then 10 else if r = 3 then 34 else 27 := by unfold kO; rw [hr]
  rw [hk]
  rcases (by omega : r = 0 ∨ r = 1 ∨ r = 2 ∨ r = 3 ∨ r = 4) with rfl | rfl | rfl | rfl | rfl
  all_goals
    clear hr hk
    go_enter Tryd.func14, Tryd.ntmps14
    go_wp2
    go_ret
    exact ⟨rfl, rfl⟩
def wO (c : Int) : Int := (if c % 2 = 1 then 1 else 0) + (if c / 2 % 2 = 1 then 2 else 0)
theorem and1 (c : Nat) : ∀ c : Fin 256, (bits .and .u8 (c.val : Int) 1, bits .and .u8 (c.val : Int) 2) = ((c.val : Int) % 2, 2 * ((c.val : Int) / 2 % 2)) := by decide +kernel
set_option maxRecDepth 100000 in
theorem ws15 (c : Int) (w : World) (h0 : 0 ≤ c) (h1 : c ≤ 255) : Calls Tryd.prog 15 #[.int .u8 c] w fun e w' => e = .returned (.int .u8 (wO c)) ∧ w = w' := by
  have h := and1 0 ⟨c.toNat, by omega⟩
  have hc : (c.toNat : Int) = c := by omega
  simp only [hc, Prod.mk.injEq] at h
  obtain ⟨e1, e2⟩ := h
  have hw : wO c = (if c % 2 = 1 then 1 else 0) + (if c / 2 % 2 = 1 then 2 else 0) := rfl
  rw [hw]
  obtain ⟨a, ha⟩ : ∃ a, c % 2 = a := ⟨_, rfl⟩
  obtain ⟨b, hb⟩ : ∃ b, c / 2 % 2 = b := ⟨_, rfl⟩
  rw [ha] at e1 ⊢
  rw [hb] at e2 ⊢
  have o1 : bits .or .u8 0 1 = 1 := by decide
  have o2 : bits .or .u8 0 2 = 2 := by decide
  have o3 : bits .or .u8 1 2 = 3 := by decide
  rcases (by omega : a = 0 ∨ a = 1) with rfl | rfl <;> rcases (by omega : b = 0 ∨ b = 1) with rfl | rfl
  all_goals
    clear ha hb hw
    go_enter Tryd.func15, Tryd.ntmps15
    go_wp2
    go_ret
    exact ⟨rfl, rfl⟩
/-- Only ASCII bytes. -/
def asc (s : ByteArray) : Bool := s.data.toList.all fun b => decide (b.toNat < 128)
theorem mem_at (s : ByteArray) (k : Nat) (h : k < s.size) : s[k] ∈ s.data.toList := by
  have : s.data.toList[k]'(by rw [← Lib.size_eq]; exact h) = s[k] := rfl
  rw [← this]
  exact List.getElem_mem _
theorem asc_yes {s : ByteArray} (h : ∀ k, (hk : k < s.size) → s[k].toNat < 128) : asc s = true := by
  unfold asc
  rw [List.all_eq_true]
  intro b hb
  obtain ⟨k, hk, e⟩ := List.mem_iff_getElem.1 hb
  rw [← e, decide_eq_true_eq]
  exact h k (by rw [Lib.size_eq]; exact hk)
theorem asc_no {s : ByteArray} {k : Nat} (hk : k < s.size) (h : ¬ s[k].toNat < 128) : asc s = false := by
  unfold asc
  rw [List.all_eq_false]
  exact ⟨_, mem_at s k hk, by simpa using h⟩
theorem asc_at {s : ByteArray} (h : asc s = true) : ∀ (j : Nat) (b : UInt8), s.data.toList[j]? = some b → b.toNat < 128 := by
  intro j b hb
  unfold asc at h
  rw [List.all_eq_true] at h
  have := h b (List.mem_of_getElem? hb)
  simpa using this
set_option maxRecDepth 100000 in
set_option maxHeartbeats 2000000 in
theorem ascii7 (s : ByteArray) (w : World) (hs : s.size ≤ 1048576) : Calls Tryd.prog 7 #[.string s] w fun e w' => e = .returned (.bool (asc s)) ∧ w = w' := by
  have S0 := Lib.hid (show ∀ k, k < 0 → (hk : k < s.size) → s[k].toNat < 128 from fun k h => absurd h (by omega))
  go_enter Tryd.func7, Tryd.ntmps7
  go_wp2_with fail
  go_loopw [3] (fun i wr => wr = w ∧ ∃ k : Nat, k ≤ s.size ∧ i = .int .i64 k ∧ Hid (∀ j, j < k → (hj : j < s.size) → s[j].toNat < 128)) (fun i _ => s.size - (intOf i).toNat)
  case atStart => exact ⟨rfl, 0, Nat.zero_le _, rfl, S0⟩
  case round =>
    obtain ⟨rfl, k, hk, rfl, AL⟩ := hrel
    clear S0
    by_cases hlt : k < s.size
    · have hx := s[k].toNat_lt
      have q1 : (0 : Int) ≤ (k : Int) := by omega
      have q2 : (k : Int) < (s.size : Int) := by omega
      by_cases h : s[k].toNat < 128
      · have d1 : decide ((128 : Int) ≤ (s[k].toNat : Int)) = false := by rw [decide_eq_false_iff_not]; omega
        have AL2 := Lib.hid (show ∀ j, j < k + 1 → (hj : j < s.size) → s[j].toNat < 128 from fun j hj hj2 => by
          rcases Nat.lt_or_eq_of_le (Nat.le_of_lt_succ hj) with h1 | h1
          · exact AL.out j h1 hj2
          · subst h1; exact h)
        have h9 : ¬ (128 : Int) ≤ (s[k].toNat : Int) := by omega
        clear h
        go_wp2_with fail
        go_roundw
        case rel => exact ⟨by trivial, k + 1, by omega, by go_num, AL2⟩
        case measure => simp [intOf]; omega
      · have d1 : decide ((128 : Int) ≤ (s[k].toNat : Int)) = true := by rw [decide_eq_true_eq]; omega
        have NO := Lib.hid (asc_no hlt h)
        have h9 : (128 : Int) ≤ (s[k].toNat : Int) := by omega
        clear h
        go_wp2_with fail
        go_ret
        exact ⟨by first | (rw [NO.out]; rfl) | (simp [NO.out]; done), rfl⟩
    · obtain rfl : k = s.size := by omega
      have YES := Lib.hid (asc_yes fun k hk => AL.out k hk hk)
      go_wp2_with fail
      go_ret
      exact ⟨by first | (rw [YES.out]; rfl) | (simp [YES.out]; done), rfl⟩
def upB (b : UInt8) : UInt8 := if 97 ≤ b.toNat ∧ b.toNat ≤ 122 then b - 32 else b
def upS (s : ByteArray) : ByteArray := ⟨(s.data.toList.map upB).toArray⟩
theorem up_table : ∀ i : Fin 256, (upB (UInt8.ofNat i.val)).toNat = if 97 ≤ (UInt8.ofNat i.val).toNat ∧ (UInt8.ofNat i.val).toNat ≤ 122 then (UInt8.ofNat i.val).toNat - 32 else (UInt8.ofNat i.val).toNat := by decide +kernel
theorem up_at (b : UInt8) : (upB b).toNat = if 97 ≤ b.toNat ∧ b.toNat ≤ 122 then b.toNat - 32 else b.toNat := by
  have h := up_table ⟨b.toNat, b.toNat_lt⟩
  simpa using h
def fz (s : ByteArray) (k : Nat) : Nat → Nat → Value := fun i _ => if i < k then .int .u8 ((upB (s.data.toList.getD i 0)).toNat : Int) else .int .u8 0
theorem getD_at (s : ByteArray) (k : Nat) (h : k < s.size) : s.data.toList.getD k 0 = s[k] := by
  rw [List.getD_eq_getElem?_getD, List.getElem?_eq_getElem (by rw [← Lib.size_eq]; exact h)]; rfl
set_option maxRecDepth 100000 in
set_option maxHeartbeats 2000000 in
theorem upper12 (s : ByteArray) (w : World) (hs : s.size ≤ 1048576) : Calls Tryd.prog 12 #[.string s] w fun e w' => e = .returned (.string (upS s)) ∧ Below w.heap.size w w' := by
  obtain ⟨i0, hi, hz0, hz1, hz2⟩ := info_parts info5
  have hmk := fun (W : World) => run_make (P := Tryd.prog) W 22 5 i0 _ Tryd.underlying22 hi hz0 .i64 .i64 (s.size : Int) (s.size : Int) (by omega) (by omega) (by rw [hz2]; omega) (by omega)
  simp only [hz1, Int.toNat_natCast] at hmk
  have T0 := Lib.hid (Tab.new w 5 #[.int .u8 0] s.size 1 rfl (fz s 0) (fun i j _ hj => by (have h0 : j = 0 := by omega); subst h0; unfold fz; simp))
  have B0 := Lib.hid (show Below w.heap.size w (w.alloc (.cells (madeCells #[.int .u8 0] (s.size * 1)) 5)) from (Below.refl _ _).alloc (Nat.le_refl _) _)
  rw [Nat.mul_one] at T0 B0
  go_enter Tryd.func12, Tryd.ntmps12
  go_wp2_with fail
  generalize w.alloc (.cells (madeCells #[.int .u8 0] s.size) 5) = W0 at *
  clear hmk
  go_loopw [4] (fun i wr => ∃ k : Nat, k ≤ s.size ∧ i = .int .i64 k ∧ Hid (Tab wr w.heap.size 5 1 s.size (fz s k)) ∧ Hid (Below w.heap.size w wr)) (fun i _ => s.size - (intOf i).toNat)
  case atStart => exact ⟨0, Nat.zero_le _, rfl, T0, B0⟩
  case round =>
    obtain ⟨k, hk, rfl, TT, BB⟩ := hrel
    clear T0 B0
    by_cases hlt : k < s.size
    · have hx := s[k].toNat_lt
      have q1 : (0 : Int) ≤ (k : Int) := by omega
      have q2 : (k : Int) < (s.size : Int) := by omega
      have y0 : wr.cell? ⟨w.heap.size, k, none⟩ = some (.int .u8 0) := by
        rw [tab1 TT.out hlt]
        unfold fz
        rw [if_neg (by omega)]
      have u0 := TT.out.frozen k
      have TS : Tab (wr.setCell ⟨w.heap.size, k, none⟩ (.int .u8 ((upB (s.data.toList.getD k 0)).toNat : Int))) w.heap.size 5 1 s.size (fz s (k + 1)) := one_step (F := fun i => .int .u8 ((upB (s.data.toList.getD i 0)).toNat : Int)) TT.out hlt
      have hf := up_at s[k]
      rw [getD_at s k hlt] at TS
      by_cases hl : 97 ≤ s[k].toNat ∧ s[k].toNat ≤ 122
      · have ev : ((upB s[k]).toNat : Int) = (s[k].toNat : Int) - 32 := by rw [hf, if_pos hl]; omega
        rw [ev] at TS
        have TT2 := Lib.hid TS
        have d1 : decide ((97 : Int) ≤ (s[k].toNat : Int)) = true := by rw [decide_eq_true_eq]; omega
        have d2 : decide ((s[k].toNat : Int) ≤ 122) = true := by rw [decide_eq_true_eq]; omega
        obtain ⟨l1, l2⟩ := hl
        clear hf ev TS
        go_wp2_with fail
        go_roundw
        case rel => exact ⟨k + 1, by omega, by go_num, TT2, Lib.hid (BB.out.setCell (Nat.le_refl _) _)⟩
        case measure => simp [intOf]; omega
      · have ev : ((upB s[k]).toNat : Int) = (s[k].toNat : Int) := by rw [hf, if_neg hl]
        rw [ev] at TS
        have TT2 := Lib.hid TS
        clear hf ev TS
        by_cases c1 : 97 ≤ s[k].toNat
        · have d1 : decide ((97 : Int) ≤ (s[k].toNat : Int)) = true := by rw [decide_eq_true_eq]; omega
          have d2 : decide ((s[k].toNat : Int) ≤ 122) = false := by rw [decide_eq_false_iff_not]; omega
          clear hl
          go_wp2_with fail
          go_roundw
          case rel => exact ⟨k + 1, by omega, by go_num, TT2, Lib.hid (BB.out.setCell (Nat.le_refl _) _)⟩
          case measure => simp [intOf]; omega
        · have d1 : decide ((97 : Int) ≤ (s[k].toNat : Int)) = false := by rw [decide_eq_false_iff_not]; omega
          clear hl
          go_wp2_with fail
          go_roundw
          case rel => exact ⟨k + 1, by omega, by go_num, TT2, Lib.hid (BB.out.setCell (Nat.le_refl _) _)⟩
          case measure => simp [intOf]; omega
    · obtain rfl : k = s.size := by omega
      have hl : (s.data.toList.map upB).length = s.size := by rw [List.length_map, ← Lib.size_eq]
      have hcv : (convert 22 9 (.slice (some ⟨w.heap.size, 0, none⟩) s.size s.size)).run Tryd.prog wr = .ok (.string (upS s)) wr := by
        have h := run_convert_bytes_back (P := Tryd.prog) wr 22 9 5 ⟨w.heap.size, 0, none⟩ s.size (s.data.toList.map upB) Tryd.underlying22 Tryd.underlying5 Tryd.underlying9 (fun j hj => by
          have hadd : (⟨w.heap.size, 0, none⟩ : Addr).add j = ⟨w.heap.size, j, none⟩ := by unfold Addr.add; split <;> simp_all
          rw [hl] at hj
          rw [hadd, tab1 TT.out hj]
          unfold fz
          rw [if_pos hj, getD_at s j hj, List.getElem_map]
          rfl)
        rw [hl] at h
        exact h
      clear hl
      go_wp2_with fail
      go_ret
      exact ⟨rfl, BB.out⟩
end Go.Proofs.YtbdmbknehfjoaaaDoor.ZT

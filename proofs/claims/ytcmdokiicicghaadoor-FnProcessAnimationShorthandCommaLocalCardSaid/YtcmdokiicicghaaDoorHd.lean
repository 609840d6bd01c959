/- zzNameModel, walked. -/
import Derived.Test.YtcmdokiicicghaaDoorHc
namespace Go.Proofs.YtcmdokiicicghaaDoor.WA
open Go Go.RowKit Go.Lib Go.Proofs.YtcmdokiicicghaaDoor.MP Go.Proofs.YtcmdokiicicghaaDoor.SY Go.Proofs.YtcmdokiicicghaaDoor.LO Go.Proofs.YtcmdokiicicghaaDoor.TB Go.Proofs.YtcmdokiicicghaaDoor.OW
set_option linter.unusedVariables false
abbrev BT : TypeId := 4
def cvz (c : Nat → Bool) (k : Nat) : Nat → Nat → Value := fun i _ => .bool (if i < k then c i else false)
theorem tab1 {w : World} {g t n : Nat} {f : Nat → Nat → Value} (h : Tab w g t 1 n f) {i : Nat} (hi : i < n) : w.cell? ⟨g, i, none⟩ = some (f i 0) := by
  have := h.cell hi (j := 0) (by omega)
  simpa using this
theorem cvz_yes {w : World} {g n k : Nat} {c : Nat → Bool} (h : Tab w g BT 1 n (cvz c k)) (hk : k < n) : Tab (w.setCell ⟨g, k, none⟩ (.bool (c k))) g BT 1 n (cvz c (k + 1)) := by
  have h1 := h.set hk (j := 0) (by omega) (.bool (c k))
  rw [show k * 1 + 0 = k by omega] at h1
  refine h1.ext fun i j hi hj => ?_
  obtain rfl : j = 0 := by omega
  by_cases e : i = k
  · subst e; simp [upd, cvz]
  · have e1 : (i < k + 1) = (i < k) := by simp; omega
    simp [upd, cvz, e, e1]
theorem cvz_no {w : World} {g n k : Nat} {c : Nat → Bool} (h : Tab w g BT 1 n (cvz c k)) (hc : c k = false) : Tab w g BT 1 n (cvz c (k + 1)) := by
  refine h.ext fun i j hi hj => ?_
  by_cases e : i = k
  · subst e; simp [cvz, hc]
  · have e1 : (i < k + 1) = (i < k) := by simp; omega
    simp [cvz, e1]
theorem infoB : (Tryd.prog.info? BT).map (fun i => (i.zero, i.size, i.bytes)) = some (some (.bool false), 1, 1) := by kernel_rfl
/-- The flags laid in block g. -/
def ModelP (n : Nat) (c : Nat → Bool) (w : World) (e : Ending) (w' : World) : Prop :=
  ∃ g, e = .returned (.slice (some ⟨g, 0, none⟩) n n) ∧ Tab w' g BT 1 n (fun i _ => .bool (c i)) ∧ w.heap.size ≤ g ∧ Below w.heap.size w w'
theorem code_cases (x : Int) (h0 : 0 ≤ x) (h1 : x ≤ 255) : (x % 5 = 0 ∨ x % 5 = 1) ∨ ((x % 5 == 0) = false ∧ (x % 5 == 1) = false ∧ ¬ kd (x % 5) = 29 ∧ ¬ kd (x % 5) = 36) := by
  have h : x % 5 = 0 ∨ x % 5 = 1 ∨ x % 5 = 2 ∨ x % 5 = 3 ∨ x % 5 = 4 := by omega
  rcases h with h | h | h | h | h <;> rw [h] <;> simp [kd]
set_option maxRecDepth 100000 in
set_option maxHeartbeats 2000000 in
theorem modelF (A B : Option Addr) (n cc m d p : Nat) (ml : Bool) (z : Nat → Int) (T : Nat → ByteArray) (w : World) (r : BR w A n z) (r2 : SR w B m T) (hz : ∀ i, i < n → 0 ≤ z i ∧ z i ≤ 255) (ht : ∀ i, i < m → (T i).size ≤ 1048576) (hp : min n m = p) (hpn : p ≤ 4096) :
    Calls Tryd.prog 17 #[.slice A n cc, .slice B m d, .bool ml] w (ModelP p (cnv ml (kz z) T) w) := by
  obtain ⟨i0, hi, hz0, hz1, hz2⟩ := info_parts infoB
  have hmk := fun (W : World) => run_make (P := Tryd.prog) W 33 BT i0 _ Tryd.underlying33 hi hz0 .i64 .i64 p p (by omega) (by omega) (by rw [hz2]; omega) (by omega)
  simp only [hz1, Int.toNat_natCast] at hmk
  have R := Lib.hid r
  have R2 := Lib.hid r2
  have HZ := Lib.hid hz
  have HS := Lib.hid ht
  have HM := Lib.hid (fun w => minF n m w)
  rw [hp] at HM
  have hpm : p ≤ n ∧ p ≤ m := by omega
  obtain ⟨hp1, hp2⟩ := hpm
  clear r r2 hz hp ht
  have T0 := Lib.hid (Tab.new w BT #[.bool false] p 1 rfl (cvz (cnv ml (kz z) T) 0) (fun i j _ hj => by
    have hj0 : j = 0 := by omega
    subst hj0
    simp [cvz]))
  have B0 := Lib.hid (show Below w.heap.size w (w.alloc (.cells (madeCells #[.bool false] (p * 1)) BT)) from (Below.refl _ _).alloc (Nat.le_refl _) _)
  go_enter Tryd.func17, Tryd.ntmps17
  go_wp2_with (go_at_call 20; refine (HM.out _).mono ?_; rintro e w' ⟨rfl, rfl⟩)
  rw [Nat.mul_one] at T0 B0
  generalize w.alloc (.cells (madeCells #[.bool false] p) BT) = W0 at *
  clear hmk
  go_loopw [9] (fun i wr => ∃ k : Nat, k ≤ p ∧ i = .int .i64 k ∧ Hid (Tab wr w.heap.size BT 1 p (cvz (cnv ml (kz z) T) k)) ∧ Hid (Below w.heap.size w wr)) (fun i _ => p - (intOf i).toNat)
  case atStart => exact ⟨0, Nat.zero_le _, rfl, T0, B0⟩
  case round =>
    obtain ⟨k, hk, rfl, TK, BB⟩ := hrel
    clear T0 B0
    by_cases hlt : k < p
    · obtain ⟨b, o, rfl, hb, hc⟩ := R.out (by omega)
      obtain ⟨b2, o2, rfl, hb2, hc2⟩ := R2.out (by omega)
      have z0 : wr.cell? ⟨b, o + k, none⟩ = some (.int .u8 (z k)) := by rw [BB.out.cell hb]; exact hc k (by omega)
      have x0 : wr.cell? ⟨b2, o2 + k, none⟩ = some (.string (T k)) := by rw [BB.out.cell hb2]; exact hc2 k (by omega)
      have hk0 := (HZ.out k (by omega)).1
      have hk1 := (HZ.out k (by omega)).2
      have hks := HS.out k (by omega)
      have C1 := Lib.hid (fun w => codeF (z k) w hk0 hk1)
      have q1 : (0 : Int) ≤ (k : Int) := by omega
      have q2 : (k : Int) < (p : Int) := by omega
      have q3 : (k : Int) < (n : Int) := by omega
      have q4 : (k : Int) < (m : Int) := by omega
      clear hc hc2
      rcases code_cases (z k) hk0 hk1 with h01 | ⟨h0, h1, h29, h36⟩
      · have C3 : Hid (∀ w, Calls Tryd.prog 28 #[.int .u8 (z k % 5), .string (T k), .bool ml] w (BP (cnv ml (kz z) T k) w)) := Lib.hid (fun w => by
          have e : cnv ml (kz z) T k = cv ml (kd (z k % 5)) (T k) := by
            unfold cnv kz
            rcases h01 with h | h <;> rw [h] <;> simp [kd]
          rw [e]
          exact accepts (z k % 5) (T k) ml w (by omega) (by omega) hks)
        have e01 : ((z k % 5 == 0) = true) ∨ ((z k % 5 == 0) = false ∧ (z k % 5 == 1) = true) := by
          rcases h01 with h | h
          · left; rw [h]; rfl
          · right; rw [h]; exact ⟨rfl, rfl⟩
        clear h01
        rcases e01 with e0 | ⟨e0, e1⟩
        all_goals
          go_wp2_with (first
            | (go_at_call 22; refine (C1.out _).mono ?_; rintro e w' ⟨rfl, rfl⟩)
            | (go_at_call 28
               refine (C3.out _).mono ?_
               rintro e w1 ⟨rfl, hb1⟩
               have T1 := Lib.hid (TK.out.below hb1 TK.out.lt)
               have B1 := Lib.hid (BB.out.trans (hb1.mono BB.out.size))
               have y1 := tab1 T1.out hlt
               have v1 := T1.out.frozen k
               clear hb1 TK BB z0 x0))
          have TS := Lib.hid (cvz_yes T1.out hlt)
          clear y1 v1
          go_roundw
          case rel => exact ⟨k + 1, by omega, by go_num, TS, Lib.hid (B1.out.setCell (Nat.le_refl _) _)⟩
          case measure => simp [intOf]; omega
      · have hcn : Hid (cnv ml (kz z) T k = false) := Lib.hid (by unfold cnv kz; simp [h29, h36])
        clear h29 h36
        go_wp2_with (go_at_call 22; refine (C1.out _).mono ?_; rintro e w' ⟨rfl, rfl⟩)
        go_roundw
        case rel => exact ⟨k + 1, by omega, by go_num, Lib.hid (cvz_no TK.out hcn.out), BB⟩
        case measure => simp [intOf]; omega
    · obtain rfl : k = p := by omega
      have HT := Lib.hid (TK.out.ext (f' := fun i _ => .bool (cnv ml (kz z) T i)) (fun i j hi _ => by unfold cvz; rw [if_pos hi]))
      go_wp2_with fail
      go_ret
      exact ⟨w.heap.size, rfl, HT.out, Nat.le_refl _, BB.out⟩
end Go.Proofs.YtcmdokiicicghaaDoor.WA

/- zzPerm: four different numbers below four. Written by gen_boxsa.py. -/
import Derived.Test.YtioilpdjfplffaaRh
namespace Go.Proofs.Ytioilpdjfplffaa.ZT
open Go.RowKit Go.Proofs.Ytioilpdjfplffaa.TB
set_option linter.unusedVariables false
set_option linter.unusedSimpArgs false
/-- i numbers are out, the others are still there. -/
def PI (i : Nat) (A O : Nat → Nat) : Prop :=
  (∀ x, x < 4 - i → A x < 4) ∧ (∀ x, x < i → O x < 4) ∧ (∀ x y, x < y → y < 4 - i → A x ≠ A y) ∧ (∀ x y, x < y → y < i → O x ≠ O y) ∧ (∀ x y, x < 4 - i → y < i → A x ≠ O y)
theorem PI.four {A O : Nat → Nat} (h : PI 4 A O) : PI 4 (fun _ => 0) O := ⟨fun x h => by omega, h.2.1, fun x y _ h => by omega, h.2.2.2.1, fun x y h _ => by omega⟩
def sh (A : Nat → Nat) (j t : Nat) : Nat → Nat := fun x => if j ≤ x ∧ x < t then A (x + 1) else A x
theorem PI.zero : PI 0 (fun i => i) (fun _ => 0) := ⟨fun x h => h, fun x h => by omega, fun x y h _ => by simp only; omega, fun x y _ h => by omega, fun x y _ h => by omega⟩
theorem PI.step {i j : Nat} {A O : Nat → Nat} (h : PI i A O) (hi : i < 4) (hj : j < 4 - i) : PI (i + 1) (sh A j (4 - i - 1)) (fun x => if x = i then A j else O x) := by
  obtain ⟨h1, h2, h3, h4, h5⟩ := h
  have ev : ∀ x, x < 4 - (i + 1) → ∃ y, y < 4 - i ∧ y ≠ j ∧ sh A j (4 - i - 1) x = A y ∧ (y = x ∨ y = x + 1) ∧ (x < j → y = x) ∧ (j ≤ x → y = x + 1) := fun x hx => by
    unfold sh
    by_cases e : j ≤ x ∧ x < 4 - i - 1
    · exact ⟨x + 1, by omega, by omega, by rw [if_pos e], by omega, by omega, by omega⟩
    · exact ⟨x, by omega, by omega, by rw [if_neg e], by omega, by omega, by omega⟩
  have ne : ∀ a b, a < 4 - i → b < 4 - i → a ≠ b → A a ≠ A b := fun a b ha hb hab => by
    rcases Nat.lt_or_gt_of_ne hab with h | h
    · exact h3 a b h hb
    · exact fun e => h3 b a h ha e.symm
  refine ⟨fun x hx => ?_, fun x hx => ?_, fun x y hxy hy => ?_, fun x y hxy hy => ?_, fun x y hx hy => ?_⟩
  · obtain ⟨y, a1, a2, a3, -⟩ := ev x hx
    rw [a3]; exact h1 y a1
  · simp only
    split
    · exact h1 j hj
    · exact h2 x (by omega)
  · obtain ⟨a, a1, a2, a3, a4, a5, a6⟩ := ev x (by omega)
    obtain ⟨b, b1, b2, b3, b4, b5, b6⟩ := ev y hy
    rw [a3, b3]
    exact ne a b a1 b1 (by omega)
  · simp only
    rw [if_neg (by omega : ¬ x = i)]
    split
    · exact fun e => h5 j x hj (by omega) e.symm
    · exact h4 x y hxy (by omega)
  · obtain ⟨a, a1, a2, a3, a4, a5, a6⟩ := ev x hx
    rw [a3]
    simp only
    split
    · exact ne a j a1 hj a2
    · exact h5 a y a1 (by omega)
theorem sh_zero (A : Nat → Nat) (j : Nat) : sh A j j = A := by
  funext x; unfold sh; rw [if_neg (by omega)]
theorem sh_step (A : Nat → Nat) {j t : Nat} (h : j ≤ t) : (fun x => if x = t then sh A j t (t + 1) else sh A j t x) = sh A j (t + 1) := by
  funext x
  unfold sh
  by_cases e : x = t
  · subst e
    rw [if_pos rfl, if_neg (by omega), if_pos (by omega)]
  · rw [if_neg e]
    by_cases e2 : j ≤ x ∧ x < t
    · rw [if_pos e2, if_pos (by omega)]
    · rw [if_neg e2, if_neg (by omega)]
theorem tput {w : World} {g : Nat} {A : Nat → Nat} (h : Tab w g 49 1 4 (fun i _ => .int .i64 (A i : Nat))) {s : Nat} (hs : s < 4) (r : Nat) : Tab (w.setCell ⟨g, s, none⟩ (.int .i64 r)) g 49 1 4 (fun i _ => .int .i64 ((if i = s then r else A i : Nat) : Int)) := by
  have := h.set hs (j := 0) (by omega) (.int .i64 r)
  rw [Nat.mul_one, Nat.add_zero] at this
  refine this.ext fun i j hi hj => ?_
  obtain rfl : j = 0 := by omega
  unfold upd
  by_cases e : i = s
  · subst e; simp
  · simp [e]
theorem tnew (w : World) (a b c e : Nat) : Tab (w.alloc (.cells #[.int .i64 (a : Nat), .int .i64 (b : Nat), .int .i64 (c : Nat), .int .i64 (e : Nat)] 49)) w.heap.size 49 1 4 (fun i _ => .int .i64 ((#[a, b, c, e][i]! : Nat) : Int)) := by
  refine ⟨_, Blk.new w 49 _, rfl, fun i j hi hj => ?_⟩
  obtain rfl : j = 0 := by omega
  rcases fourI hi with rfl | rfl | rfl | rfl <;> rfl
set_option maxRecDepth 100000 in
set_option maxHeartbeats 8000000 in
theorem perm15 (k : Int) (w : World) (h0 : 0 ≤ k) (h1 : k < 256) : Calls Try.prog 15 #[.int .u8 k] w fun e w' => ∃ P : Nat → Nat, e = .returned (.agg #[.int .i64 (P 0 : Nat), .int .i64 (P 1 : Nat), .int .i64 (P 2 : Nat), .int .i64 (P 3 : Nat)]) ∧ PI 4 (fun _ => 0) P ∧ Below w.heap.size w w' := by
  go_enter Try.func15, Try.ntmps15
  go_upto_region 4 with fail
  have T3 := Lib.hid (show Tab (((w.alloc (.cells #[.int .i64 0, .int .i64 0, .int .i64 0, .int .i64 0] 49)).alloc (.cells #[.int .i64 0, .int .i64 1, .int .i64 2, .int .i64 3] 49)).alloc (.cells #[.int .i64 0, .int .i64 0, .int .i64 0, .int .i64 0] 49)) (w.heap.size + 1) 49 1 4 (fun i _ => .int .i64 ((i : Nat) : Int)) from by
    have := (tnew (w.alloc (.cells #[.int .i64 0, .int .i64 0, .int .i64 0, .int .i64 0] 49)) 0 1 2 3).alloc (.cells #[.int .i64 0, .int .i64 0, .int .i64 0, .int .i64 0] 49)
    rw [World.size_alloc] at this
    exact this.ext fun i j hi hj => by rcases fourI hi with rfl | rfl | rfl | rfl <;> rfl)
  have T4 := Lib.hid (show Tab (((w.alloc (.cells #[.int .i64 0, .int .i64 0, .int .i64 0, .int .i64 0] 49)).alloc (.cells #[.int .i64 0, .int .i64 1, .int .i64 2, .int .i64 3] 49)).alloc (.cells #[.int .i64 0, .int .i64 0, .int .i64 0, .int .i64 0] 49)) (w.heap.size + 1 + 1) 49 1 4 (fun i _ => .int .i64 ((0 : Nat) : Int)) from by
    have := (tnew ((w.alloc (.cells #[.int .i64 0, .int .i64 0, .int .i64 0, .int .i64 0] 49)).alloc (.cells #[.int .i64 0, .int .i64 1, .int .i64 2, .int .i64 3] 49)) 0 0 0 0)
    rw [World.size_alloc, World.size_alloc] at this
    exact this.ext fun i j hi hj => by rcases fourI hi with rfl | rfl | rfl | rfl <;> rfl)
  have B2 := Lib.hid (show Blk (((w.alloc (.cells #[.int .i64 0, .int .i64 0, .int .i64 0, .int .i64 0] 49)).alloc (.cells #[.int .i64 0, .int .i64 1, .int .i64 2, .int .i64 3] 49)).alloc (.cells #[.int .i64 0, .int .i64 0, .int .i64 0, .int .i64 0] 49)) w.heap.size 49 #[.int .i64 0, .int .i64 0, .int .i64 0, .int .i64 0] from ((Blk.new w 49 _).alloc _).alloc _)
  have BB := Lib.hid (show Below w.heap.size w (((w.alloc (.cells #[.int .i64 0, .int .i64 0, .int .i64 0, .int .i64 0] 49)).alloc (.cells #[.int .i64 0, .int .i64 1, .int .i64 2, .int .i64 3] 49)).alloc (.cells #[.int .i64 0, .int .i64 0, .int .i64 0, .int .i64 0] 49)) from (((Below.refl _ _).alloc (Nat.le_refl _) _).alloc (by simp) _).alloc (by simp; omega) _)
  generalize (((w.alloc (.cells #[.int .i64 0, .int .i64 0, .int .i64 0, .int .i64 0] 49)).alloc (.cells #[.int .i64 0, .int .i64 1, .int .i64 2, .int .i64 3] 49)).alloc (.cells #[.int .i64 0, .int .i64 0, .int .i64 0, .int .i64 0] 49)) = W0 at *
  have hm1 : 0 ≤ k % 24 := by omega
  have hm2 : k % 24 < 24 := by omega
  generalize k % 24 = m0 at *
  generalize hb2 : w.heap.size = b2 at *
  go_wp2_with fail
  go_loopw [5, 6, 7, 8, 9] (fun mv iv _ _ _ wr => ∃ (i : Nat) (m : Int) (A O : Nat → Nat), i ≤ 4 ∧ iv = .int .i64 i ∧ mv = .int .i64 m ∧ 0 ≤ m ∧ m < 24 ∧ PI i A O ∧ Hid (Tab wr (b2 + 1) 49 1 4 (fun i _ => .int .i64 (A i : Nat))) ∧ Hid (Tab wr (b2 + 1 + 1) 49 1 4 (fun i _ => .int .i64 (O i : Nat))) ∧ Hid (Blk wr b2 49 #[.int .i64 0, .int .i64 0, .int .i64 0, .int .i64 0]) ∧ Hid (Below b2 w wr)) (fun _ iv _ _ _ _ => 4 - (intOf iv).toNat)
  case atStart => exact ⟨0, m0, _, _, by omega, rfl, rfl, hm1, hm2, PI.zero, T3, T4, B2, BB⟩
  case round =>
    obtain ⟨i, m, A, O, hi, rfl, rfl, hma, hmb, hp, TA, TO, BR, BW⟩ := hrel
    clear T3 T4 B2 BB hm1 hm2
    have HP := Lib.hid hp
    clear hp
    by_cases hlt : i < 4
    · rcases fourI hlt with rfl | rfl | rfl | rfl
      · as_aux_lemma =>
        obtain ⟨j, hj, hjn⟩ : ∃ j : Nat, m % 4 = (j : Int) ∧ j < 4 := ⟨(m % 4).toNat, by omega, by omega⟩
        have md : m / 4 < 24 := by omega
        have md0 : 0 ≤ m / 4 := by omega
        go_upto_region 10 with fail
        rw [hj]
        have p1 : (0 : Int) ≤ (j : Int) := by omega
        have p2 : (j : Int) < 4 := by omega
        have cj : wr.cell? ⟨b2 + 1, j, none⟩ = some (.int .i64 (A j : Nat)) := tcell1 TA.out (i := j) (by omega)
        have o0 : wr.cell? ⟨b2 + 1 + 1, 0, none⟩ = some (.int .i64 (O 0 : Nat)) := tcell1 TO.out (i := 0) (by omega)
        have o1 : wr.frozen? ⟨b2 + 1 + 1, 0, none⟩ = false := TO.out.frozen _
        have TO2 := Lib.hid (tput TO.out (s := 0) (by omega) (A j))
        have TA2 := Lib.hid (TA.out.far (p := ⟨b2 + 1 + 1, 0, none⟩) (by show b2 + 1 ≠ b2 + 1 + 1; omega) (.int .i64 (A j : Nat)))
        have BR2 := Lib.hid (Blk.far BR.out (p := ⟨b2 + 1 + 1, 0, none⟩) (by show b2 ≠ b2 + 1 + 1; omega) (.int .i64 (A j : Nat)))
        have BW2 := Lib.hid (BW.out.setCell (p := ⟨b2 + 1 + 1, 0, none⟩) (by show b2 ≤ b2 + 1 + 1; omega) (.int .i64 (A j : Nat)))
        clear TO TA BR BW
        go_upto_region 11 with fail
        clear cj o0 o1
        generalize wr.setCell ⟨b2 + 1 + 1, 0, none⟩ (.int .i64 (A j : Nat)) = W1 at *
        go_wp2_with fail
        go_loopw [9] (fun tv wq => ∃ t : Nat, j ≤ t ∧ t + 1 ≤ 4 ∧ tv = .int .i64 t ∧ Hid (Tab wq (b2 + 1) 49 1 4 (fun i _ => .int .i64 (sh A j t i : Nat))) ∧ Hid (Tab wq (b2 + 1 + 1) 49 1 4 (fun i _ => .int .i64 ((if i = 0 then A j else O i : Nat) : Int))) ∧ Hid (Blk wq b2 49 #[.int .i64 0, .int .i64 0, .int .i64 0, .int .i64 0]) ∧ Hid (Below b2 w wq)) (fun tv _ => 4 - (intOf tv).toNat)
        case atStart => exact ⟨j, Nat.le_refl _, by omega, rfl, Lib.hid (by rw [sh_zero]; exact TA2.out), TO2, BR2, BW2⟩
        case round =>
          obtain ⟨t, ht1, ht2, rfl, XA, XO, XR, XW⟩ := hrel
          clear TA2 TO2 BR2 BW2
          by_cases hlt3 : t + 1 < 4
          · have r1 : (0 : Int) ≤ (t : Int) := by omega
            have r2 : (t : Int) + 1 < 4 := by omega
            have r3 : (t : Int) < 4 := by omega
            have r4 : (t : Int) + 1 < 4 := by omega
            have a1 : wr.cell? ⟨b2 + 1, t + 1, none⟩ = some (.int .i64 (sh A j t (t + 1) : Nat)) := tcell1 XA.out (i := t + 1) (by omega)
            have a0 : wr.cell? ⟨b2 + 1, t, none⟩ = some (.int .i64 (sh A j t t : Nat)) := tcell1 XA.out (i := t) (by omega)
            have af : wr.frozen? ⟨b2 + 1, t, none⟩ = false := XA.out.frozen _
            have XA2 := Lib.hid ((tput XA.out (s := t) (by omega) (sh A j t (t + 1))).ext (f' := fun i _ => .int .i64 (sh A j (t + 1) i : Nat)) (fun i _ _ _ => by rw [← congrFun (sh_step A ht1) i]))
            have XO2 := Lib.hid (XO.out.far (p := ⟨b2 + 1, t, none⟩) (by show b2 + 1 + 1 ≠ b2 + 1; omega) (.int .i64 (sh A j t (t + 1) : Nat)))
            have XR2 := Lib.hid (Blk.far XR.out (p := ⟨b2 + 1, t, none⟩) (by show b2 ≠ b2 + 1; omega) (.int .i64 (sh A j t (t + 1) : Nat)))
            have XW2 := Lib.hid (XW.out.setCell (p := ⟨b2 + 1, t, none⟩) (by show b2 ≤ b2 + 1; omega) (.int .i64 (sh A j t (t + 1) : Nat)))
            clear XA XO XR XW
            go_wp2_with fail
            go_roundw
            case rel => exact ⟨t + 1, by omega, by omega, by go_num, XA2, XO2, XR2, XW2⟩
            case measure => simp [intOf]; omega
          · obtain rfl : t = 3 := by omega
            go_wp2_with fail
            go_roundw
            case rel => exact ⟨0 + 1, m / 4, _, _, by omega, by go_num, rfl, md0, md, HP.out.step (by omega) (by omega), XA, XO, XR, XW⟩
            case measure => simp [intOf]
      · as_aux_lemma =>
        obtain ⟨j, hj, hjn⟩ : ∃ j : Nat, m % 3 = (j : Int) ∧ j < 3 := ⟨(m % 3).toNat, by omega, by omega⟩
        have md : m / 3 < 24 := by omega
        have md0 : 0 ≤ m / 3 := by omega
        go_upto_region 10 with fail
        rw [hj]
        have p1 : (0 : Int) ≤ (j : Int) := by omega
        have p2 : (j : Int) < 4 := by omega
        have cj : wr.cell? ⟨b2 + 1, j, none⟩ = some (.int .i64 (A j : Nat)) := tcell1 TA.out (i := j) (by omega)
        have o0 : wr.cell? ⟨b2 + 1 + 1, 1, none⟩ = some (.int .i64 (O 1 : Nat)) := tcell1 TO.out (i := 1) (by omega)
        have o1 : wr.frozen? ⟨b2 + 1 + 1, 1, none⟩ = false := TO.out.frozen _
        have TO2 := Lib.hid (tput TO.out (s := 1) (by omega) (A j))
        have TA2 := Lib.hid (TA.out.far (p := ⟨b2 + 1 + 1, 1, none⟩) (by show b2 + 1 ≠ b2 + 1 + 1; omega) (.int .i64 (A j : Nat)))
        have BR2 := Lib.hid (Blk.far BR.out (p := ⟨b2 + 1 + 1, 1, none⟩) (by show b2 ≠ b2 + 1 + 1; omega) (.int .i64 (A j : Nat)))
        have BW2 := Lib.hid (BW.out.setCell (p := ⟨b2 + 1 + 1, 1, none⟩) (by show b2 ≤ b2 + 1 + 1; omega) (.int .i64 (A j : Nat)))
        clear TO TA BR BW
        go_upto_region 11 with fail
        clear cj o0 o1
        generalize wr.setCell ⟨b2 + 1 + 1, 1, none⟩ (.int .i64 (A j : Nat)) = W1 at *
        go_wp2_with fail
        go_loopw [9] (fun tv wq => ∃ t : Nat, j ≤ t ∧ t + 1 ≤ 3 ∧ tv = .int .i64 t ∧ Hid (Tab wq (b2 + 1) 49 1 4 (fun i _ => .int .i64 (sh A j t i : Nat))) ∧ Hid (Tab wq (b2 + 1 + 1) 49 1 4 (fun i _ => .int .i64 ((if i = 1 then A j else O i : Nat) : Int))) ∧ Hid (Blk wq b2 49 #[.int .i64 0, .int .i64 0, .int .i64 0, .int .i64 0]) ∧ Hid (Below b2 w wq)) (fun tv _ => 3 - (intOf tv).toNat)
        case atStart => exact ⟨j, Nat.le_refl _, by omega, rfl, Lib.hid (by rw [sh_zero]; exact TA2.out), TO2, BR2, BW2⟩
        case round =>
          obtain ⟨t, ht1, ht2, rfl, XA, XO, XR, XW⟩ := hrel
          clear TA2 TO2 BR2 BW2
          by_cases hlt3 : t + 1 < 3
          · have r1 : (0 : Int) ≤ (t : Int) := by omega
            have r2 : (t : Int) + 1 < 3 := by omega
            have r3 : (t : Int) < 4 := by omega
            have r4 : (t : Int) + 1 < 4 := by omega
            have a1 : wr.cell? ⟨b2 + 1, t + 1, none⟩ = some (.int .i64 (sh A j t (t + 1) : Nat)) := tcell1 XA.out (i := t + 1) (by omega)
            have a0 : wr.cell? ⟨b2 + 1, t, none⟩ = some (.int .i64 (sh A j t t : Nat)) := tcell1 XA.out (i := t) (by omega)
            have af : wr.frozen? ⟨b2 + 1, t, none⟩ = false := XA.out.frozen _
            have XA2 := Lib.hid ((tput XA.out (s := t) (by omega) (sh A j t (t + 1))).ext (f' := fun i _ => .int .i64 (sh A j (t + 1) i : Nat)) (fun i _ _ _ => by rw [← congrFun (sh_step A ht1) i]))
            have XO2 := Lib.hid (XO.out.far (p := ⟨b2 + 1, t, none⟩) (by show b2 + 1 + 1 ≠ b2 + 1; omega) (.int .i64 (sh A j t (t + 1) : Nat)))
            have XR2 := Lib.hid (Blk.far XR.out (p := ⟨b2 + 1, t, none⟩) (by show b2 ≠ b2 + 1; omega) (.int .i64 (sh A j t (t + 1) : Nat)))
            have XW2 := Lib.hid (XW.out.setCell (p := ⟨b2 + 1, t, none⟩) (by show b2 ≤ b2 + 1; omega) (.int .i64 (sh A j t (t + 1) : Nat)))
            clear XA XO XR XW
            go_wp2_with fail
            go_roundw
            case rel => exact ⟨t + 1, by omega, by omega, by go_num, XA2, XO2, XR2, XW2⟩
            case measure => simp [intOf]; omega
          · obtain rfl : t = 2 := by omega
            go_wp2_with fail
            go_roundw
            case rel => exact ⟨1 + 1, m / 3, _, _, by omega, by go_num, rfl, md0, md, HP.out.step (by omega) (by omega), XA, XO, XR, XW⟩
            case measure => simp [intOf]
      · as_aux_lemma =>
        obtain ⟨j, hj, hjn⟩ : ∃ j : Nat, m % 2 = (j : Int) ∧ j < 2 := ⟨(m % 2).toNat, by omega, by omega⟩
        have md : m / 2 < 24 := by omega
        have md0 : 0 ≤ m / 2 := by omega
        go_upto_region 10 with fail
        rw [hj]
        have p1 : (0 : Int) ≤ (j : Int) := by omega
        have p2 : (j : Int) < 4 := by omega
        have cj : wr.cell? ⟨b2 + 1, j, none⟩ = some (.int .i64 (A j : Nat)) := tcell1 TA.out (i := j) (by omega)
        have o0 : wr.cell? ⟨b2 + 1 + 1, 2, none⟩ = some (.int .i64 (O 2 : Nat)) := tcell1 TO.out (i := 2) (by omega)
        have o1 : wr.frozen? ⟨b2 + 1 + 1, 2, none⟩ = false := TO.out.frozen _
        have TO2 := Lib.hid (tput TO.out (s := 2) (by omega) (A j))
        have TA2 := Lib.hid (TA.out.far (p := ⟨b2 + 1 + 1, 2, none⟩) (by show b2 + 1 ≠ b2 + 1 + 1; omega) (.int .i64 (A j : Nat)))
        have BR2 := Lib.hid (Blk.far BR.out (p := ⟨b2 + 1 + 1, 2, none⟩) (by show b2 ≠ b2 + 1 + 1; omega) (.int .i64 (A j : Nat)))
        have BW2 := Lib.hid (BW.out.setCell (p := ⟨b2 + 1 + 1, 2, none⟩) (by show b2 ≤ b2 + 1 + 1; omega) (.int .i64 (A j : Nat)))
        clear TO TA BR BW
        go_upto_region 11 with fail
        clear cj o0 o1
        generalize wr.setCell ⟨b2 + 1 + 1, 2, none⟩ (.int .i64 (A j : Nat)) = W1 at *
        go_wp2_with fail
        go_loopw [9] (fun tv wq => ∃ t : Nat, j ≤ t ∧ t + 1 ≤ 2 ∧ tv = .int .i64 t ∧ Hid (Tab wq (b2 + 1) 49 1 4 (fun i _ => .int .i64 (sh A j t i : Nat))) ∧ Hid (Tab wq (b2 + 1 + 1) 49 1 4 (fun i _ => .int .i64 ((if i = 2 then A j else O i : Nat) : Int))) ∧ Hid (Blk wq b2 49 #[.int .i64 0, .int .i64 0, .int .i64 0, .int .i64 0]) ∧ Hid (Below b2 w wq)) (fun tv _ => 2 - (intOf tv).toNat)
        case atStart => exact ⟨j, Nat.le_refl _, by omega, rfl, Lib.hid (by rw [sh_zero]; exact TA2.out), TO2, BR2, BW2⟩
        case round =>
          obtain ⟨t, ht1, ht2, rfl, XA, XO, XR, XW⟩ := hrel
          clear TA2 TO2 BR2 BW2
          by_cases hlt3 : t + 1 < 2
          · have r1 : (0 : Int) ≤ (t : Int) := by omega
            have r2 : (t : Int) + 1 < 2 := by omega
            have r3 : (t : Int) < 4 := by omega
            have r4 : (t : Int) + 1 < 4 := by omega
            have a1 : wr.cell? ⟨b2 + 1, t + 1, none⟩ = some (.int .i64 (sh A j t (t + 1) : Nat)) := tcell1 XA.out (i := t + 1) (by omega)
            have a0 : wr.cell? ⟨b2 + 1, t, none⟩ = some (.int .i64 (sh A j t t : Nat)) := tcell1 XA.out (i := t) (by omega)
            have af : wr.frozen? ⟨b2 + 1, t, none⟩ = false := XA.out.frozen _
            have XA2 := Lib.hid ((tput XA.out (s := t) (by omega) (sh A j t (t + 1))).ext (f' := fun i _ => .int .i64 (sh A j (t + 1) i : Nat)) (fun i _ _ _ => by rw [← congrFun (sh_step A ht1) i]))
            have XO2 := Lib.hid (XO.out.far (p := ⟨b2 + 1, t, none⟩) (by show b2 + 1 + 1 ≠ b2 + 1; omega) (.int .i64 (sh A j t (t + 1) : Nat)))
            have XR2 := Lib.hid (Blk.far XR.out (p := ⟨b2 + 1, t, none⟩) (by show b2 ≠ b2 + 1; omega) (.int .i64 (sh A j t (t + 1) : Nat)))
            have XW2 := Lib.hid (XW.out.setCell (p := ⟨b2 + 1, t, none⟩) (by show b2 ≤ b2 + 1; omega) (.int .i64 (sh A j t (t + 1) : Nat)))
            clear XA XO XR XW
            go_wp2_with fail
            go_roundw
            case rel => exact ⟨t + 1, by omega, by omega, by go_num, XA2, XO2, XR2, XW2⟩
            case measure => simp [intOf]; omega
          · obtain rfl : t = 1 := by omega
            go_wp2_with fail
            go_roundw
            case rel => exact ⟨2 + 1, m / 2, _, _, by omega, by go_num, rfl, md0, md, HP.out.step (by omega) (by omega), XA, XO, XR, XW⟩
            case measure => simp [intOf]
      · as_aux_lemma =>
        have hj : m % 1 = ((0 : Nat) : Int) := by omega
        have md : m / 1 < 24 := by omega
        have md0 : 0 ≤ m / 1 := by omega
        go_upto_region 10 with fail
        try rw [hj]
        have p1 : (0 : Int) ≤ (0 : Int) := by omega
        have p2 : (0 : Int) < 4 := by omega
        have cj : wr.cell? ⟨b2 + 1, 0, none⟩ = some (.int .i64 (A 0 : Nat)) := tcell1 TA.out (i := 0) (by omega)
        have o0 : wr.cell? ⟨b2 + 1 + 1, 3, none⟩ = some (.int .i64 (O 3 : Nat)) := tcell1 TO.out (i := 3) (by omega)
        have o1 : wr.frozen? ⟨b2 + 1 + 1, 3, none⟩ = false := TO.out.frozen _
        have TO2 := Lib.hid (tput TO.out (s := 3) (by omega) (A 0))
        have TA2 := Lib.hid (TA.out.far (p := ⟨b2 + 1 + 1, 3, none⟩) (by show b2 + 1 ≠ b2 + 1 + 1; omega) (.int .i64 (A 0 : Nat)))
        have BR2 := Lib.hid (Blk.far BR.out (p := ⟨b2 + 1 + 1, 3, none⟩) (by show b2 ≠ b2 + 1 + 1; omega) (.int .i64 (A 0 : Nat)))
        have BW2 := Lib.hid (BW.out.setCell (p := ⟨b2 + 1 + 1, 3, none⟩) (by show b2 ≤ b2 + 1 + 1; omega) (.int .i64 (A 0 : Nat)))
        clear TO TA BR BW
        go_upto_region 11 with fail
        clear cj o0 o1
        generalize wr.setCell ⟨b2 + 1 + 1, 3, none⟩ (.int .i64 (A 0 : Nat)) = W1 at *
        go_wp2_with fail
        go_loopw [9] (fun tv wq => ∃ t : Nat, 0 ≤ t ∧ t + 1 ≤ 1 ∧ tv = .int .i64 t ∧ Hid (Tab wq (b2 + 1) 49 1 4 (fun i _ => .int .i64 (sh A 0 t i : Nat))) ∧ Hid (Tab wq (b2 + 1 + 1) 49 1 4 (fun i _ => .int .i64 ((if i = 3 then A 0 else O i : Nat) : Int))) ∧ Hid (Blk wq b2 49 #[.int .i64 0, .int .i64 0, .int .i64 0, .int .i64 0]) ∧ Hid (Below b2 w wq)) (fun tv _ => 1 - (intOf tv).toNat)
        case atStart => exact ⟨0, Nat.le_refl _, by omega, rfl, Lib.hid (by rw [sh_zero]; exact TA2.out), TO2, BR2, BW2⟩
        case round =>
          obtain ⟨t, ht1, ht2, rfl, XA, XO, XR, XW⟩ := hrel
          clear TA2 TO2 BR2 BW2
          by_cases hlt3 : t + 1 < 1
          · exact absurd hlt3 (by omega)
          · obtain rfl : t = 0 := by omega
            go_wp2_with fail
            go_roundw
            case rel => exact ⟨3 + 1, m, _, _, by omega, by go_num, rfl, hma, hmb, HP.out.step (by omega) (by omega), XA, XO, XR, XW⟩
            case measure => simp [intOf]
    · obtain rfl : i = 4 := by omega
      have c0 : wr.cell? ⟨b2 + 1 + 1, 0, none⟩ = some (.int .i64 (O 0 : Nat)) := tcell1 TO.out (i := 0) (by omega)
      have c1 : wr.cell? ⟨b2 + 1 + 1, 1, none⟩ = some (.int .i64 (O 1 : Nat)) := tcell1 TO.out (i := 1) (by omega)
      have c2 : wr.cell? ⟨b2 + 1 + 1, 2, none⟩ = some (.int .i64 (O 2 : Nat)) := tcell1 TO.out (i := 2) (by omega)
      have c3 : wr.cell? ⟨b2 + 1 + 1, 3, none⟩ = some (.int .i64 (O 3 : Nat)) := tcell1 TO.out (i := 3) (by omega)
      have e0 : wr.cell? ⟨b2, 0, none⟩ = some (.int .i64 0) := BR.out.cell 0
      have e1 : wr.cell? ⟨b2, 1, none⟩ = some (.int .i64 0) := BR.out.cell 1
      have e2 : wr.cell? ⟨b2, 2, none⟩ = some (.int .i64 0) := BR.out.cell 2
      have e3 : wr.cell? ⟨b2, 3, none⟩ = some (.int .i64 0) := BR.out.cell 3
      have f0 : wr.frozen? ⟨b2, 0, none⟩ = false := BR.out.frozen _
      have f1 : wr.frozen? ⟨b2, 1, none⟩ = false := BR.out.frozen _
      have f2 : wr.frozen? ⟨b2, 2, none⟩ = false := BR.out.frozen _
      have f3 : wr.frozen? ⟨b2, 3, none⟩ = false := BR.out.frozen _
      go_wp2_with fail
      refine bodyPost_ret (v := .agg #[.int .i64 (O 0 : Nat), .int .i64 (O 1 : Nat), .int .i64 (O 2 : Nat), .int .i64 (O 3 : Nat)]) (by simp [results, Try.results15, go_sem, e0, e1, e2, e3]; done) rfl ⟨O, rfl, HP.out.four, ?_⟩
      rw [hb2]
      exact (((BW.out.setCell (p := ⟨b2, 0, none⟩) (Nat.le_refl _) _).setCell (p := ⟨b2, 1, none⟩) (Nat.le_refl _) _).setCell (p := ⟨b2, 2, none⟩) (Nat.le_refl _) _).setCell (p := ⟨b2, 3, none⟩) (Nat.le_refl _) _
end Go.Proofs.Ytioilpdjfplffaa.ZT

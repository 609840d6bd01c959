/- scanMediaValue at any place of a token table. Printed by gen_mirror_ha.py. -/
import Derived.Test.YtceafaddhbabhaaSd
namespace Go.Proofs.Ytceafaddhbabhaa.ZT
open Go.RowKit Go.Proofs.Ytceafaddhbabhaa.TB
set_option linter.unusedVariables false
/-- Block g begins with a table of n rows of S cells. -/
def Tap (w : World) (g : Nat) (t : TypeId) (S n : Nat) (f : Nat → Nat → Value) : Prop :=
  ∃ cs : Array Value, Blk w g t cs ∧ n * S ≤ cs.size ∧ ∀ i j, i < n → j < S → cs[i * S + j]? = some (f i j)
section
variable {w w' : World} {g : Nat} {t : TypeId} {S n : Nat} {f f' : Nat → Nat → Value}
theorem Tap.of (h : Tab w g t S n f) : Tap w g t S n f := by obtain ⟨cs, hb, hs, hc⟩ := h; exact ⟨cs, hb, Nat.le_of_eq hs.symm, hc⟩
theorem Tap.lt (h : Tap w g t S n f) : g < w.heap.size := by obtain ⟨cs, hb, _⟩ := h; exact hb.lt
theorem Tap.cell (h : Tap w g t S n f) {i j : Nat} (hi : i < n) (hj : j < S) : w.cell? ⟨g, i * S + j, none⟩ = some (f i j) := by
  obtain ⟨cs, hb, -, hc⟩ := h
  rw [hb.cell, hc i j hi hj]
theorem Tap.frozen (h : Tap w g t S n f) (o : Nat) : w.frozen? ⟨g, o, none⟩ = false := by obtain ⟨cs, hb, _⟩ := h; exact hb.frozen o
theorem Tap.ext (h : Tap w g t S n f) (e : ∀ i j, i < n → j < S → f i j = f' i j) : Tap w g t S n f' := by
  obtain ⟨cs, hb, hs, hc⟩ := h
  exact ⟨cs, hb, hs, fun i j hi hj => by rw [hc i j hi hj, e i j hi hj]⟩
theorem Tap.drewN (h : Tap w g t S n f) (k : Nat) : Tap (w.drewN k) g t S n f := h
theorem Tap.alloc (h : Tap w g t S n f) (o : Obj) : Tap (w.alloc o) g t S n f := by
  obtain ⟨cs, hb, h2⟩ := h; exact ⟨cs, hb.alloc o, h2⟩
theorem Tap.far (h : Tap w g t S n f) {p : Addr} (hp : g ≠ p.block) (u : Value) : Tap (w.setCell p u) g t S n f := by
  obtain ⟨cs, hb, h2⟩ := h; exact ⟨cs, hb.far hp u, h2⟩
theorem Tap.below {B : Nat} (h : Tap w g t S n f) (hb : Below B w w') (hg : g < B) : Tap w' g t S n f := by
  obtain ⟨cs, hk, h2⟩ := h; exact ⟨cs, hk.below hb hg, h2⟩
theorem Tap.kept (h : Tap w g t S n f) (hb : w'.heap[g]? = w.heap[g]?) : Tap w' g t S n f := by
  obtain ⟨cs, hk, h2⟩ := h; exact ⟨cs, hb.trans hk, h2⟩
theorem Tap.set (h : Tap w g t S n f) {i j : Nat} (hi : i < n) (hj : j < S) (v : Value) : Tap (w.setCell ⟨g, i * S + j, none⟩ v) g t S n (upd f i j v) := by
  obtain ⟨cs, hb, hs, hc⟩ := h
  refine ⟨_, hb.set_ _ v, by simpa using hs, fun a b ha hb' => ?_⟩
  rw [Array.getElem?_setIfInBounds]
  by_cases e : i * S + j = a * S + b
  · obtain ⟨rfl, rfl⟩ := row_inj hj hb' e
    have := row_lt hi hj
    have h3 : i * S + j < cs.size := by omega
    simp [upd, h3]
  · rw [if_neg e, hc a b ha hb']
    unfold upd
    rw [if_neg]
    rintro ⟨rfl, rfl⟩
    exact e rfl
end
/-- Only block g has changed. -/
def Bq (g : Nat) (w w' : World) : Prop := Below g w w' ∧ ∀ q, q ≠ g → w'.heap[q]? = w.heap[q]?
/-- What scanMediaValue hands back: v tokens, the rest, and only whitespace changed (zeros stay zeros). -/
def SVP (g i n c v N : Nat) (K : Nat → Int) (T : Nat → ByteArray) (W L : Nat → Int) (w : World) (e : Ending) (w' : World) : Prop :=
  ∃ X W', e = .returned (.tuple #[.slice (some ⟨g, i * 7, none⟩) v c, .slice X (n - v : Nat) (c - v : Nat)]) ∧ (v < n → X = some ⟨g, (i + v) * 7, none⟩) ∧ Tap w' g 34 7 N (tc K T W' L) ∧ (∀ j, W j = 0 → W' j = 0) ∧ Bq g w w'
def w1 (i : Nat) (W : Nat → Int) : Nat → Int := fun j => if j = i then bits .and .u8 (bits .and .u8 (W i) 254) 253 else W j
def w3 (i : Nat) (W : Nat → Int) : Nat → Int := fun j => if j = i then bits .and .u8 (W i) 254 else if j = i + 2 then bits .and .u8 (W (i + 2)) 253 else W j
theorem w1z (i : Nat) (W : Nat → Int) : ∀ j, W j = 0 → w1 i W j = 0 := by
  intro j h; unfold w1; split
  · rename_i e; subst e; rw [h]; decide
  · exact h
theorem w3z (i : Nat) (W : Nat → Int) : ∀ j, W j = 0 → w3 i W j = 0 := by
  intro j h; unfold w3; split
  · rename_i e; subst e; rw [h]; decide
  · split
    · rename_i e; subst e; rw [h]; decide
    · exact h
theorem bel2 (g o1 o2 : Nat) (x y : Value) (w : World) : Bq g w ((w.setCell ⟨g, o1, none⟩ x).setCell ⟨g, o2, none⟩ y) := ⟨((Below.refl g w).setCell (Nat.le_refl g) _).setCell (Nat.le_refl g) _, fun q hq => (Below.heap_setCell _ _ _ q hq).trans (Below.heap_setCell _ _ _ q hq)⟩
theorem bq_refl (g : Nat) (w : World) : Bq g w w := ⟨Below.refl _ _, fun _ _ => rfl⟩
theorem bq_drewN {g : Nat} {a w : World} (h : Bq g a w) (n : Nat) : Bq g a (w.drewN n) := ⟨below_drewN h.1 n, h.2⟩
theorem trim1 {w : World} {g n i : Nat} {K : Nat → Int} {T : Nat → ByteArray} {W L : Nat → Int} (h : Tap w g 34 7 n (tc K T W L)) (hn : i < n) :
    Tap ((w.setCell ⟨g, i * 7 + 6, none⟩ (.int .u8 (bits .and .u8 (W i) 254))).setCell ⟨g, i * 7 + 6, none⟩ (.int .u8 (bits .and .u8 (bits .and .u8 (W i) 254) 253))) g 34 7 n (tc K T (w1 i W) L) := by
  have h1 := h.set (i := i) (j := 6) (by omega) (by omega) (.int .u8 (bits .and .u8 (W i) 254))
  have h2 := h1.set (i := i) (j := 6) (by omega) (by omega) (.int .u8 (bits .and .u8 (bits .and .u8 (W i) 254) 253))
  refine Tap.ext h2 fun k j hi hj => ?_
  by_cases e : k = i
  · subst e
    rcases seven hj with rfl | rfl | rfl | rfl | rfl | rfl | rfl <;> simp [upd, tc, w1]
  · simp [upd, e, tc, w1]
theorem trim3 {w : World} {g n i : Nat} {K : Nat → Int} {T : Nat → ByteArray} {W L : Nat → Int} (h : Tap w g 34 7 n (tc K T W L)) (hn : i + 2 < n) :
    Tap ((w.setCell ⟨g, i * 7 + 6, none⟩ (.int .u8 (bits .and .u8 (W i) 254))).setCell ⟨g, i * 7 + 14 + 6, none⟩ (.int .u8 (bits .and .u8 (W (i + 2)) 253))) g 34 7 n (tc K T (w3 i W) L) := by
  have h1 := h.set (i := i) (j := 6) (by omega) (by omega) (.int .u8 (bits .and .u8 (W i) 254))
  have h2 := h1.set (i := i + 2) (j := 6) (by omega) (by omega) (.int .u8 (bits .and .u8 (W (i + 2)) 253))
  rw [show i * 7 + 14 + 6 = (i + 2) * 7 + 6 by omega]
  refine Tap.ext h2 fun k j hi hj => ?_
  by_cases e : k = i
  · subst e
    rcases seven hj with rfl | rfl | rfl | rfl | rfl | rfl | rfl <;> simp [upd, tc, w3]
  · by_cases e4 : k = i + 2
    · subst e4
      rcases seven hj with rfl | rfl | rfl | rfl | rfl | rfl | rfl <;> simp [upd, tc, w3]
    · simp [upd, e, e4, tc, w3]
set_option maxRecDepth 100000 in
set_option maxHeartbeats 1000000 in
theorem sv0 (g i c : Nat) (n : Nat) (K : Nat → Int) (T : Nat → ByteArray) (W L : Nat → Int) (w : World) (N : Nat) (hN : i + n ≤ N) (h : Tap w g 34 7 N (tc K T W L)) (hc : n ≤ c) (hM : c ≤ 9223372036854775807) (hn : 1 ≤ n) (a : (K i == 26) = false) (b : (K i == 29) = false) (d : (K i == 30) = false) :
    Calls Try.prog 33 #[.slice (some ⟨g, i * 7, none⟩) n c] w (SVP g i n c 0 N K T W L w) := by
  have TT := Lib.hid h
  have x5 : w.cell? ⟨g, i * 7 + 5, none⟩ = some (.int .u8 (K i)) := by rw [show i * 7 + 5 = (i) * 7 + 5 by omega]; exact h.cell (i := i) (by omega) (j := 5) (by omega)
  clear h
  have q0 : (1 : Int) ≤ (n : Int) := by first | omega | (rw [decide_eq_true_eq]; omega) | (rw [decide_eq_false_iff_not]; omega)
  have q1 : (0 : Int) < (n : Int) := by first | omega | (rw [decide_eq_true_eq]; omega) | (rw [decide_eq_false_iff_not]; omega)
  have q2 : (n : Int) ≤ (c : Int) := by first | omega | (rw [decide_eq_true_eq]; omega) | (rw [decide_eq_false_iff_not]; omega)
  have q3 : (1 : Int) ≤ (c : Int) := by first | omega | (rw [decide_eq_true_eq]; omega) | (rw [decide_eq_false_iff_not]; omega)
  have q4 : (0 : Int) ≤ (c : Int) := by first | omega | (rw [decide_eq_true_eq]; omega) | (rw [decide_eq_false_iff_not]; omega)
  go_enter Try.func33, Try.ntmps33
  go_wp2
  go_quiet (fail)
  go_wp2
  all_goals
    go_ret2
    refine ⟨_, _, rfl, fun hv => ?_, TT.out.drewN _, fun _ h => h, bq_drewN (bq_refl _ _) _⟩
    first
      | (rw [if_neg (by omega)]; congr 2; omega)
      | (congr 2; omega)
      | exact absurd hv (by omega)
      | (simp; done)
      | (split <;> first | omega | (simp; done) | (congr 2; omega))
set_option maxRecDepth 100000 in
set_option maxHeartbeats 1000000 in
theorem sv1d (g i c : Nat) (n : Nat) (K : Nat → Int) (T : Nat → ByteArray) (W L : Nat → Int) (w : World) (N : Nat) (hN : i + n ≤ N) (h : Tap w g 34 7 N (tc K T W L)) (hc : n ≤ c) (hM : c ≤ 9223372036854775807) (hn : 1 ≤ n) (a : (K i == 26) = true) :
    Calls Try.prog 33 #[.slice (some ⟨g, i * 7, none⟩) n c] w (SVP g i n c 1 N K T W L w) := by
  have TT := Lib.hid h
  have x5 : w.cell? ⟨g, i * 7 + 5, none⟩ = some (.int .u8 (K i)) := by rw [show i * 7 + 5 = (i) * 7 + 5 by omega]; exact h.cell (i := i) (by omega) (j := 5) (by omega)
  have x6 : w.cell? ⟨g, i * 7 + 6, none⟩ = some (.int .u8 (W i)) := h.cell (i := i) (by omega) (j := 6) (by omega)
  have f6 := h.frozen (i * 7 + 6)
  clear h
  have q0 : (1 : Int) ≤ (n : Int) := by first | omega | (rw [decide_eq_true_eq]; omega) | (rw [decide_eq_false_iff_not]; omega)
  have q1 : (0 : Int) < (n : Int) := by first | omega | (rw [decide_eq_true_eq]; omega) | (rw [decide_eq_false_iff_not]; omega)
  have q2 : (n : Int) ≤ (c : Int) := by first | omega | (rw [decide_eq_true_eq]; omega) | (rw [decide_eq_false_iff_not]; omega)
  have q3 : (1 : Int) ≤ (c : Int) := by first | omega | (rw [decide_eq_true_eq]; omega) | (rw [decide_eq_false_iff_not]; omega)
  have q4 : (0 : Int) ≤ (c : Int) := by first | omega | (rw [decide_eq_true_eq]; omega) | (rw [decide_eq_false_iff_not]; omega)
  go_enter Try.func33, Try.ntmps33
  go_wp2
  go_quiet (fail)
  go_wp2
  all_goals
    go_ret2
    refine ⟨_, _, rfl, fun hv => ?_, (trim1 TT.out (by omega)).drewN _, w1z i W, bq_drewN (bel2 _ _ _ _ _ _) _⟩
    first
      | (rw [if_neg (by omega)]; congr 2; omega)
      | (congr 2; omega)
      | exact absurd hv (by omega)
      | (simp; done)
      | (split <;> first | omega | (simp; done) | (congr 2; omega))
set_option maxRecDepth 100000 in
set_option maxHeartbeats 1000000 in
theorem sv1i (g i c : Nat) (n : Nat) (K : Nat → Int) (T : Nat → ByteArray) (W L : Nat → Int) (w : World) (N : Nat) (hN : i + n ≤ N) (h : Tap w g 34 7 N (tc K T W L)) (hc : n ≤ c) (hM : c ≤ 9223372036854775807) (hn : 1 ≤ n) (a : (K i == 26) = false) (b : (K i == 29) = true) :
    Calls Try.prog 33 #[.slice (some ⟨g, i * 7, none⟩) n c] w (SVP g i n c 1 N K T W L w) := by
  have TT := Lib.hid h
  have x5 : w.cell? ⟨g, i * 7 + 5, none⟩ = some (.int .u8 (K i)) := by rw [show i * 7 + 5 = (i) * 7 + 5 by omega]; exact h.cell (i := i) (by omega) (j := 5) (by omega)
  have x6 : w.cell? ⟨g, i * 7 + 6, none⟩ = some (.int .u8 (W i)) := h.cell (i := i) (by omega) (j := 6) (by omega)
  have f6 := h.frozen (i * 7 + 6)
  clear h
  have q0 : (1 : Int) ≤ (n : Int) := by first | omega | (rw [decide_eq_true_eq]; omega) | (rw [decide_eq_false_iff_not]; omega)
  have q1 : (0 : Int) < (n : Int) := by first | omega | (rw [decide_eq_true_eq]; omega) | (rw [decide_eq_false_iff_not]; omega)
  have q2 : (n : Int) ≤ (c : Int) := by first | omega | (rw [decide_eq_true_eq]; omega) | (rw [decide_eq_false_iff_not]; omega)
  have q3 : (1 : Int) ≤ (c : Int) := by first | omega | (rw [decide_eq_true_eq]; omega) | (rw [decide_eq_false_iff_not]; omega)
  have q4 : (0 : Int) ≤ (c : Int) := by first | omega | (rw [decide_eq_true_eq]; omega) | (rw [decide_eq_false_iff_not]; omega)
  go_enter Try.func33, Try.ntmps33
  go_wp2
  go_quiet (fail)
  go_wp2
  all_goals
    go_ret2
    refine ⟨_, _, rfl, fun hv => ?_, (trim1 TT.out (by omega)).drewN _, w1z i W, bq_drewN (bel2 _ _ _ _ _ _) _⟩
    first
      | (rw [if_neg (by omega)]; congr 2; omega)
      | (congr 2; omega)
      | exact absurd hv (by omega)
      | (simp; done)
      | (split <;> first | omega | (simp; done) | (congr 2; omega))
set_option maxRecDepth 100000 in
set_option maxHeartbeats 1000000 in
theorem sv1n (g i c : Nat) (n : Nat) (K : Nat → Int) (T : Nat → ByteArray) (W L : Nat → Int) (w : World) (N : Nat) (hN : i + n ≤ N) (h : Tap w g 34 7 N (tc K T W L)) (hc : n ≤ c) (hM : c ≤ 9223372036854775807) (hn : 1 ≤ n) (hn3 : n < 3) (a : (K i == 26) = false) (b : (K i == 29) = false) (d : (K i == 30) = true) :
    Calls Try.prog 33 #[.slice (some ⟨g, i * 7, none⟩) n c] w (SVP g i n c 1 N K T W L w) := by
  have TT := Lib.hid h
  have x5 : w.cell? ⟨g, i * 7 + 5, none⟩ = some (.int .u8 (K i)) := by rw [show i * 7 + 5 = (i) * 7 + 5 by omega]; exact h.cell (i := i) (by omega) (j := 5) (by omega)
  have x6 : w.cell? ⟨g, i * 7 + 6, none⟩ = some (.int .u8 (W i)) := h.cell (i := i) (by omega) (j := 6) (by omega)
  have f6 := h.frozen (i * 7 + 6)
  clear h
  have q0 : (1 : Int) ≤ (n : Int) := by first | omega | (rw [decide_eq_true_eq]; omega) | (rw [decide_eq_false_iff_not]; omega)
  have q1 : (0 : Int) < (n : Int) := by first | omega | (rw [decide_eq_true_eq]; omega) | (rw [decide_eq_false_iff_not]; omega)
  have q2 : (n : Int) ≤ (c : Int) := by first | omega | (rw [decide_eq_true_eq]; omega) | (rw [decide_eq_false_iff_not]; omega)
  have q3 : (1 : Int) ≤ (c : Int) := by first | omega | (rw [decide_eq_true_eq]; omega) | (rw [decide_eq_false_iff_not]; omega)
  have q4 : (0 : Int) ≤ (c : Int) := by first | omega | (rw [decide_eq_true_eq]; omega) | (rw [decide_eq_false_iff_not]; omega)
  have q5 : decide ((3 : Int) ≤ (n : Int)) = false := by first | omega | (rw [decide_eq_true_eq]; omega) | (rw [decide_eq_false_iff_not]; omega)
  go_enter Try.func33, Try.ntmps33
  go_wp2
  go_quiet (fail)
  go_wp2
  all_goals
    go_ret2
    refine ⟨_, _, rfl, fun hv => ?_, (trim1 TT.out (by omega)).drewN _, w1z i W, bq_drewN (bel2 _ _ _ _ _ _) _⟩
    first
      | (rw [if_neg (by omega)]; congr 2; omega)
      | (congr 2; omega)
      | exact absurd hv (by omega)
      | (simp; done)
      | (split <;> first | omega | (simp; done) | (congr 2; omega))
set_option maxRecDepth 100000 in
set_option maxHeartbeats 1000000 in
theorem sv1na (g i c : Nat) (n : Nat) (K : Nat → Int) (T : Nat → ByteArray) (W L : Nat → Int) (w : World) (N : Nat) (hN : i + n ≤ N) (h : Tap w g 34 7 N (tc K T W L)) (hc : n ≤ c) (hM : c ≤ 9223372036854775807) (hn : 3 ≤ n) (a : (K i == 26) = false) (b : (K i == 29) = false) (d : (K i == 30) = true) (x : (K (i + 1) == 24) = false) :
    Calls Try.prog 33 #[.slice (some ⟨g, i * 7, none⟩) n c] w (SVP g i n c 1 N K T W L w) := by
  have TT := Lib.hid h
  have x5 : w.cell? ⟨g, i * 7 + 5, none⟩ = some (.int .u8 (K i)) := by rw [show i * 7 + 5 = (i) * 7 + 5 by omega]; exact h.cell (i := i) (by omega) (j := 5) (by omega)
  have x12 : w.cell? ⟨g, i * 7 + 7 + 5, none⟩ = some (.int .u8 (K (i + 1))) := by rw [show i * 7 + 7 + 5 = (i + 1) * 7 + 5 by omega]; exact h.cell (i := i + 1) (by omega) (j := 5) (by omega)
  have x6 : w.cell? ⟨g, i * 7 + 6, none⟩ = some (.int .u8 (W i)) := h.cell (i := i) (by omega) (j := 6) (by omega)
  have f6 := h.frozen (i * 7 + 6)
  clear h
  have q0 : (1 : Int) ≤ (n : Int) := by first | omega | (rw [decide_eq_true_eq]; omega) | (rw [decide_eq_false_iff_not]; omega)
  have q1 : (0 : Int) < (n : Int) := by first | omega | (rw [decide_eq_true_eq]; omega) | (rw [decide_eq_false_iff_not]; omega)
  have q2 : (n : Int) ≤ (c : Int) := by first | omega | (rw [decide_eq_true_eq]; omega) | (rw [decide_eq_false_iff_not]; omega)
  have q3 : (1 : Int) ≤ (c : Int) := by first | omega | (rw [decide_eq_true_eq]; omega) | (rw [decide_eq_false_iff_not]; omega)
  have q4 : (0 : Int) ≤ (c : Int) := by first | omega | (rw [decide_eq_true_eq]; omega) | (rw [decide_eq_false_iff_not]; omega)
  have q5 : (3 : Int) ≤ (n : Int) := by first | omega | (rw [decide_eq_true_eq]; omega) | (rw [decide_eq_false_iff_not]; omega)
  have q6 : decide ((3 : Int) ≤ (n : Int)) = true := by first | omega | (rw [decide_eq_true_eq]; omega) | (rw [decide_eq_false_iff_not]; omega)
  have q7 : (1 : Int) < (n : Int) := by first | omega | (rw [decide_eq_true_eq]; omega) | (rw [decide_eq_false_iff_not]; omega)
  have q8 : (2 : Int) < (n : Int) := by first | omega | (rw [decide_eq_true_eq]; omega) | (rw [decide_eq_false_iff_not]; omega)
  have q9 : (3 : Int) ≤ (c : Int) := by first | omega | (rw [decide_eq_true_eq]; omega) | (rw [decide_eq_false_iff_not]; omega)
  go_enter Try.func33, Try.ntmps33
  go_wp2
  go_quiet (fail)
  go_wp2
  all_goals
    go_ret2
    refine ⟨_, _, rfl, fun hv => ?_, (trim1 TT.out (by omega)).drewN _, w1z i W, bq_drewN (bel2 _ _ _ _ _ _) _⟩
    first
      | (rw [if_neg (by omega)]; congr 2; omega)
      | (congr 2; omega)
      | exact absurd hv (by omega)
      | (simp; done)
      | (split <;> first | omega | (simp; done) | (congr 2; omega))
set_option maxRecDepth 100000 in
set_option maxHeartbeats 1000000 in
theorem sv1nb (g i c : Nat) (n : Nat) (K : Nat → Int) (T : Nat → ByteArray) (W L : Nat → Int) (w : World) (N : Nat) (hN : i + n ≤ N) (h : Tap w g 34 7 N (tc K T W L)) (hc : n ≤ c) (hM : c ≤ 9223372036854775807) (hn : 3 ≤ n) (a : (K i == 26) = false) (b : (K i == 29) = false) (d : (K i == 30) = true) (x : (K (i + 1) == 24) = true) (y : (K (i + 2) == 30) = false) :
    Calls Try.prog 33 #[.slice (some ⟨g, i * 7, none⟩) n c] w (SVP g i n c 1 N K T W L w) := by
  have TT := Lib.hid h
  have x5 : w.cell? ⟨g, i * 7 + 5, none⟩ = some (.int .u8 (K i)) := by rw [show i * 7 + 5 = (i) * 7 + 5 by omega]; exact h.cell (i := i) (by omega) (j := 5) (by omega)
  have x12 : w.cell? ⟨g, i * 7 + 7 + 5, none⟩ = some (.int .u8 (K (i + 1))) := by rw [show i * 7 + 7 + 5 = (i + 1) * 7 + 5 by omega]; exact h.cell (i := i + 1) (by omega) (j := 5) (by omega)
  have x19 : w.cell? ⟨g, i * 7 + 14 + 5, none⟩ = some (.int .u8 (K (i + 2))) := by rw [show i * 7 + 14 + 5 = (i + 2) * 7 + 5 by omega]; exact h.cell (i := i + 2) (by omega) (j := 5) (by omega)
  have x6 : w.cell? ⟨g, i * 7 + 6, none⟩ = some (.int .u8 (W i)) := h.cell (i := i) (by omega) (j := 6) (by omega)
  have f6 := h.frozen (i * 7 + 6)
  clear h
  have q0 : (1 : Int) ≤ (n : Int) := by first | omega | (rw [decide_eq_true_eq]; omega) | (rw [decide_eq_false_iff_not]; omega)
  have q1 : (0 : Int) < (n : Int) := by first | omega | (rw [decide_eq_true_eq]; omega) | (rw [decide_eq_false_iff_not]; omega)
  have q2 : (n : Int) ≤ (c : Int) := by first | omega | (rw [decide_eq_true_eq]; omega) | (rw [decide_eq_false_iff_not]; omega)
  have q3 : (1 : Int) ≤ (c : Int) := by first | omega | (rw [decide_eq_true_eq]; omega) | (rw [decide_eq_false_iff_not]; omega)
  have q4 : (0 : Int) ≤ (c : Int) := by first | omega | (rw [decide_eq_true_eq]; omega) | (rw [decide_eq_false_iff_not]; omega)
  have q5 : (3 : Int) ≤ (n : Int) := by first | omega | (rw [decide_eq_true_eq]; omega) | (rw [decide_eq_false_iff_not]; omega)
  have q6 : decide ((3 : Int) ≤ (n : Int)) = true := by first | omega | (rw [decide_eq_true_eq]; omega) | (rw [decide_eq_false_iff_not]; omega)
  have q7 : (1 : Int) < (n : Int) := by first | omega | (rw [decide_eq_true_eq]; omega) | (rw [decide_eq_false_iff_not]; omega)
  have q8 : (2 : Int) < (n : Int) := by first | omega | (rw [decide_eq_true_eq]; omega) | (rw [decide_eq_false_iff_not]; omega)
  have q9 : (3 : Int) ≤ (c : Int) := by first | omega | (rw [decide_eq_true_eq]; omega) | (rw [decide_eq_false_iff_not]; omega)
  go_enter Try.func33, Try.ntmps33
  go_wp2
  go_quiet (fail)
  go_wp2
  all_goals
    go_ret2
    refine ⟨_, _, rfl, fun hv => ?_, (trim1 TT.out (by omega)).drewN _, w1z i W, bq_drewN (bel2 _ _ _ _ _ _) _⟩
    first
      | (rw [if_neg (by omega)]; congr 2; omega)
      | (congr 2; omega)
      | exact absurd hv (by omega)
      | (simp; done)
      | (split <;> first | omega | (simp; done) | (congr 2; omega))
set_option maxRecDepth 100000 in
set_option maxHeartbeats 1000000 in
theorem sv3 (g i c : Nat) (n : Nat) (K : Nat → Int) (T : Nat → ByteArray) (W L : Nat → Int) (w : World) (N : Nat) (hN : i + n ≤ N) (h : Tap w g 34 7 N (tc K T W L)) (hc : n ≤ c) (hM : c ≤ 9223372036854775807) (hn : 3 ≤ n) (a : (K i == 26) = false) (b : (K i == 29) = false) (d : (K i == 30) = true) (x : (K (i + 1) == 24) = true) (y : (K (i + 2) == 30) = true) :
    Calls Try.prog 33 #[.slice (some ⟨g, i * 7, none⟩) n c] w (SVP g i n c 3 N K T W L w) := by
  have TT := Lib.hid h
  have x5 : w.cell? ⟨g, i * 7 + 5, none⟩ = some (.int .u8 (K i)) := by rw [show i * 7 + 5 = (i) * 7 + 5 by omega]; exact h.cell (i := i) (by omega) (j := 5) (by omega)
  have x12 : w.cell? ⟨g, i * 7 + 7 + 5, none⟩ = some (.int .u8 (K (i + 1))) := by rw [show i * 7 + 7 + 5 = (i + 1) * 7 + 5 by omega]; exact h.cell (i := i + 1) (by omega) (j := 5) (by omega)
  have x19 : w.cell? ⟨g, i * 7 + 14 + 5, none⟩ = some (.int .u8 (K (i + 2))) := by rw [show i * 7 + 14 + 5 = (i + 2) * 7 + 5 by omega]; exact h.cell (i := i + 2) (by omega) (j := 5) (by omega)
  have x6 : w.cell? ⟨g, i * 7 + 6, none⟩ = some (.int .u8 (W i)) := h.cell (i := i) (by omega) (j := 6) (by omega)
  have f6 := h.frozen (i * 7 + 6)
  have x20 : w.cell? ⟨g, i * 7 + 14 + 6, none⟩ = some (.int .u8 (W (i + 2))) := by rw [show i * 7 + 14 + 6 = (i + 2) * 7 + 6 by omega]; exact h.cell (i := i + 2) (by omega) (j := 6) (by omega)
  have f20 := h.frozen (i * 7 + 14 + 6)
  have ne20 : ¬ i * 7 + 14 + 6 = i * 7 + 6 := by omega
  clear h
  have q0 : (1 : Int) ≤ (n : Int) := by first | omega | (rw [decide_eq_true_eq]; omega) | (rw [decide_eq_false_iff_not]; omega)
  have q1 : (0 : Int) < (n : Int) := by first | omega | (rw [decide_eq_true_eq]; omega) | (rw [decide_eq_false_iff_not]; omega)
  have q2 : (n : Int) ≤ (c : Int) := by first | omega | (rw [decide_eq_true_eq]; omega) | (rw [decide_eq_false_iff_not]; omega)
  have q3 : (1 : Int) ≤ (c : Int) := by first | omega | (rw [decide_eq_true_eq]; omega) | (rw [decide_eq_false_iff_not]; omega)
  have q4 : (0 : Int) ≤ (c : Int) := by first | omega | (rw [decide_eq_true_eq]; omega) | (rw [decide_eq_false_iff_not]; omega)
  have q5 : (3 : Int) ≤ (n : Int) := by first | omega | (rw [decide_eq_true_eq]; omega) | (rw [decide_eq_false_iff_not]; omega)
  have q6 : decide ((3 : Int) ≤ (n : Int)) = true := by first | omega | (rw [decide_eq_true_eq]; omega) | (rw [decide_eq_false_iff_not]; omega)
  have q7 : (1 : Int) < (n : Int) := by first | omega | (rw [decide_eq_true_eq]; omega) | (rw [decide_eq_false_iff_not]; omega)
  have q8 : (2 : Int) < (n : Int) := by first | omega | (rw [decide_eq_true_eq]; omega) | (rw [decide_eq_false_iff_not]; omega)
  have q9 : (3 : Int) ≤ (c : Int) := by first | omega | (rw [decide_eq_true_eq]; omega) | (rw [decide_eq_false_iff_not]; omega)
  go_enter Try.func33, Try.ntmps33
  go_wp2
  go_quiet (fail)
  go_wp2
  all_goals
    go_ret2
    refine ⟨_, _, rfl, fun hv => ?_, (trim3 TT.out (by omega)).drewN _, w3z i W, bq_drewN (bel2 _ _ _ _ _ _) _⟩
    first
      | (rw [if_neg (by omega)]; congr 2; omega)
      | (congr 2; omega)
      | exact absurd hv (by omega)
      | (simp; done)
      | (split <;> first | omega | (simp; done) | (congr 2; omega))
end Go.Proofs.Ytceafaddhbabhaa.ZT

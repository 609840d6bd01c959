/- scanMediaComparison: what it answers. Printed by gen_scan.py. -/
import Derived.Test.YtceafaddhbabhaaZt
namespace Go.Proofs.Ytceafaddhbabhaa.ZT
open Go.RowKit Go.Proofs.Ytceafaddhbabhaa.TB
set_option linter.unusedVariables false
theorem below_drewN {B : Nat} {a w : World} (h : Below B a w) (n : Nat) : Below B a (w.drewN n) := ⟨h.os, h.tape, h.output, h.size, h.block⟩
def wsB (W : Nat → Int) : Bool := (bits .or .u8 (bits .and .u8 (W 0) 2) (bits .and .u8 (W 1) 1) == 0)
def cmpOf (n : Nat) (K W : Nat → Int) : Nat := if n = 0 then 0 else if K 0 = 18 then 1 else if K 0 = 21 then (if 2 ≤ n ∧ K 1 = 18 ∧ wsB W = true then 3 else 2) else if K 0 = 20 then (if 2 ≤ n ∧ K 1 = 18 ∧ wsB W = true then 5 else 4) else 0
def wid (m : Nat) : Nat := if m = 1 ∨ m = 2 ∨ m = 4 then 1 else if m = 3 ∨ m = 5 then 2 else 0
theorem TR.cut1 {w : World} {b o n c : Nat} {f : Nat → Nat → Value} (h : TR w (some ⟨b, o, none⟩) n f) (hc : n ≤ c) : TR w (if c = 1 then some ⟨b, o, none⟩ else some ⟨b, o + 7, none⟩) (n - 1) (fun i j => f (i + 1) j) := by
  intro hn
  obtain ⟨b', o', e, hl, hf⟩ := h (by omega)
  injection e with e
  injection e with e1 e2
  subst e1 e2
  rw [if_neg (by omega)]
  refine ⟨b, o + 7, rfl, hl, fun i j hi hj => ?_⟩
  have := hf (i + 1) j (by omega) hj
  rw [show o + (i + 1) * 7 + j = o + 7 + i * 7 + j by omega] at this
  exact this
theorem TR.cut2 {w : World} {b o n c : Nat} {f : Nat → Nat → Value} (h : TR w (some ⟨b, o, none⟩) n f) (hc : n ≤ c) : TR w (if c = 2 then some ⟨b, o, none⟩ else some ⟨b, o + 14, none⟩) (n - 2) (fun i j => f (i + 2) j) := by
  intro hn
  obtain ⟨b', o', e, hl, hf⟩ := h (by omega)
  injection e with e
  injection e with e1 e2
  subst e1 e2
  rw [if_neg (by omega)]
  refine ⟨b, o + 14, rfl, hl, fun i j hi hj => ?_⟩
  have := hf (i + 2) j (by omega) hj
  rw [show o + (i + 2) * 7 + j = o + 14 + i * 7 + j by omega] at this
  exact this
def ScanP (n c m : Nat) (K : Nat → Int) (T : Nat → ByteArray) (W L : Nat → Int) (w : World) (e : Ending) (w' : World) : Prop :=
  ∃ A', e = .returned (.tuple #[.int .u8 (m : Nat), .slice A' (n - wid m) (c - wid m)]) ∧ TR w' A' (n - wid m) (fun i j => tc K T W L (i + wid m) j) ∧ Below w.heap.size w w'

set_option maxRecDepth 100000 in
set_option maxHeartbeats 1000000 in
theorem scan18 (A : Option Addr) (n c : Nat) (K : Nat → Int) (T : Nat → ByteArray) (W L : Nat → Int) (w : World) (r : TR w A n (tc K T W L)) (hc : n ≤ c) (hn : c ≤ 16384) (h0 : 0 < n) (k0 : (K 0 == 18) = true) :
    Calls Try.prog 29 #[.slice A n c] w (ScanP n c 1 K T W L w) := by
  obtain ⟨b, o, rfl, hb, hf⟩ := r h0
  have HC := Lib.hid (r.cut1 hc)
  have x5 : w.cell? ⟨b, o + 0 * 7 + 5, none⟩ = some (.int .u8 (K 0)) := hf 0 5 h0 (by omega)
  rw [show o + 0 * 7 + 5 = o + 5 by omega] at x5
  clear hf r
  have q1 : (1 : Int) ≤ (n : Int) := by omega
  have q2 : (n : Int) ≤ (c : Int) := by omega
  go_enter Try.func29, Try.ntmps29
  go_wp2
  go_quiet (fail)
  go_wp2
  all_goals
    go_ret2
    refine ⟨_, rfl, ?_, by first | exact below_drewN (Below.refl _ _) _ | exact below_drewN (below_drewN (Below.refl _ _) _) _⟩
    have this := HC.out
    first
      | (rw [if_pos (by assumption)] at this; exact this)
      | (rw [if_neg (by assumption)] at this; exact this)
      | (rw [if_neg (by omega)] at this; exact this)

set_option maxRecDepth 100000 in
set_option maxHeartbeats 1000000 in
theorem scan21a (A : Option Addr) (c : Nat) (K : Nat → Int) (T : Nat → ByteArray) (W L : Nat → Int) (w : World) (r : TR w A 1 (tc K T W L)) (hc : 1 ≤ c) (hn : c ≤ 16384) (h0 : 0 < 1) (k0 : (K 0 == 21) = true) (n1 : True) :
    Calls Try.prog 29 #[.slice A 1 c] w (ScanP 1 c 2 K T W L w) := by
  obtain ⟨b, o, rfl, hb, hf⟩ := r h0
  have HC := Lib.hid (r.cut1 hc)
  have x5 : w.cell? ⟨b, o + 0 * 7 + 5, none⟩ = some (.int .u8 (K 0)) := hf 0 5 h0 (by omega)
  rw [show o + 0 * 7 + 5 = o + 5 by omega] at x5
  have n18 : (K 0 == 18) = false := by rw [show K 0 = 21 from by simpa using k0]; rfl
  clear hf r
  have q1 : (1 : Int) ≤ (1 : Int) := by omega
  have q2 : (1 : Int) ≤ (c : Int) := by omega
  go_enter Try.func29, Try.ntmps29
  go_wp2
  go_quiet (fail)
  go_wp2
  go_quiet (fail)
  go_wp2
  all_goals
    go_ret2
    refine ⟨_, rfl, ?_, by first | exact below_drewN (Below.refl _ _) _ | exact below_drewN (below_drewN (Below.refl _ _) _) _⟩
    have this := HC.out
    first
      | (rw [if_pos (by assumption)] at this; exact this)
      | (rw [if_neg (by assumption)] at this; exact this)
      | (rw [if_neg (by omega)] at this; exact this)

set_option maxRecDepth 100000 in
set_option maxHeartbeats 1000000 in
theorem scan21b (A : Option Addr) (n c : Nat) (K : Nat → Int) (T : Nat → ByteArray) (W L : Nat → Int) (w : World) (r : TR w A n (tc K T W L)) (hc : n ≤ c) (hn : c ≤ 16384) (h0 : 0 < n) (k0 : (K 0 == 21) = true) (n2 : 2 ≤ n) (k1 : (K 1 == 18) = false) :
    Calls Try.prog 29 #[.slice A n c] w (ScanP n c 2 K T W L w) := by
  obtain ⟨b, o, rfl, hb, hf⟩ := r h0
  have HC := Lib.hid (r.cut1 hc)
  have x5 : w.cell? ⟨b, o + 0 * 7 + 5, none⟩ = some (.int .u8 (K 0)) := hf 0 5 h0 (by omega)
  rw [show o + 0 * 7 + 5 = o + 5 by omega] at x5
  have n18 : (K 0 == 18) = false := by rw [show K 0 = 21 from by simpa using k0]; rfl
  have x12 : w.cell? ⟨b, o + 1 * 7 + 5, none⟩ = some (.int .u8 (K 1)) := hf 1 5 (by omega) (by omega)
  rw [show o + 1 * 7 + 5 = o + 7 + 5 by omega] at x12
  have x6 : w.cell? ⟨b, o + 0 * 7 + 6, none⟩ = some (.int .u8 (W 0)) := hf 0 6 (by omega) (by omega)
  rw [show o + 0 * 7 + 6 = o + 6 by omega] at x6
  have x13 : w.cell? ⟨b, o + 1 * 7 + 6, none⟩ = some (.int .u8 (W 1)) := hf 1 6 (by omega) (by omega)
  rw [show o + 1 * 7 + 6 = o + 7 + 6 by omega] at x13
  have g2 : decide ((2 : Int) ≤ (n : Int)) = true := by simp; omega
  have q3 : (1 : Int) < (n : Int) := by omega
  have q4 : (2 : Int) ≤ (n : Int) := by omega
  clear hf r
  have q1 : (1 : Int) ≤ (n : Int) := by omega
  have q2 : (n : Int) ≤ (c : Int) := by omega
  go_enter Try.func29, Try.ntmps29
  go_wp2
  go_quiet (fail)
  go_wp2
  go_quiet (fail)
  go_wp2
  all_goals
    go_ret2
    refine ⟨_, rfl, ?_, by first | exact below_drewN (Below.refl _ _) _ | exact below_drewN (below_drewN (Below.refl _ _) _) _⟩
    have this := HC.out
    first
      | (rw [if_pos (by assumption)] at this; exact this)
      | (rw [if_neg (by assumption)] at this; exact this)
      | (rw [if_neg (by omega)] at this; exact this)

set_option maxRecDepth 100000 in
set_option maxHeartbeats 1000000 in
theorem scan21c (A : Option Addr) (n c : Nat) (K : Nat → Int) (T : Nat → ByteArray) (W L : Nat → Int) (w : World) (r : TR w A n (tc K T W L)) (hc : n ≤ c) (hn : c ≤ 16384) (h0 : 0 < n) (k0 : (K 0 == 21) = true) (n2 : 2 ≤ n) (k1 : (K 1 == 18) = true) (ws : (bits .or .u8 (bits .and .u8 (W 0) 2) (bits .and .u8 (W 1) 1) == 0) = false) :
    Calls Try.prog 29 #[.slice A n c] w (ScanP n c 2 K T W L w) := by
  obtain ⟨b, o, rfl, hb, hf⟩ := r h0
  have HC := Lib.hid (r.cut1 hc)
  have x5 : w.cell? ⟨b, o + 0 * 7 + 5, none⟩ = some (.int .u8 (K 0)) := hf 0 5 h0 (by omega)
  rw [show o + 0 * 7 + 5 = o + 5 by omega] at x5
  have n18 : (K 0 == 18) = false := by rw [show K 0 = 21 from by simpa using k0]; rfl
  have x12 : w.cell? ⟨b, o + 1 * 7 + 5, none⟩ = some (.int .u8 (K 1)) := hf 1 5 (by omega) (by omega)
  rw [show o + 1 * 7 + 5 = o + 7 + 5 by omega] at x12
  have x6 : w.cell? ⟨b, o + 0 * 7 + 6, none⟩ = some (.int .u8 (W 0)) := hf 0 6 (by omega) (by omega)
  rw [show o + 0 * 7 + 6 = o + 6 by omega] at x6
  have x13 : w.cell? ⟨b, o + 1 * 7 + 6, none⟩ = some (.int .u8 (W 1)) := hf 1 6 (by omega) (by omega)
  rw [show o + 1 * 7 + 6 = o + 7 + 6 by omega] at x13
  have g2 : decide ((2 : Int) ≤ (n : Int)) = true := by simp; omega
  have q3 : (1 : Int) < (n : Int) := by omega
  have q4 : (2 : Int) ≤ (n : Int) := by omega
  clear hf r
  have q1 : (1 : Int) ≤ (n : Int) := by omega
  have q2 : (n : Int) ≤ (c : Int) := by omega
  go_enter Try.func29, Try.ntmps29
  go_wp2
  go_quiet (fail)
  go_wp2
  go_quiet (fail)
  go_wp2
  all_goals
    go_ret2
    refine ⟨_, rfl, ?_, by first | exact below_drewN (Below.refl _ _) _ | exact below_drewN (below_drewN (Below.refl _ _) _) _⟩
    have this := HC.out
    first
      | (rw [if_pos (by assumption)] at this; exact this)
      | (rw [if_neg (by assumption)] at this; exact this)
      | (rw [if_neg (by omega)] at this; exact this)

set_option maxRecDepth 100000 in
set_option maxHeartbeats 1000000 in
theorem scan21d (A : Option Addr) (n c : Nat) (K : Nat → Int) (T : Nat → ByteArray) (W L : Nat → Int) (w : World) (r : TR w A n (tc K T W L)) (hc : n ≤ c) (hn : c ≤ 16384) (h0 : 0 < n) (k0 : (K 0 == 21) = true) (n2 : 2 ≤ n) (k1 : (K 1 == 18) = true) (ws : (bits .or .u8 (bits .and .u8 (W 0) 2) (bits .and .u8 (W 1) 1) == 0) = true) :
    Calls Try.prog 29 #[.slice A n c] w (ScanP n c 3 K T W L w) := by
  obtain ⟨b, o, rfl, hb, hf⟩ := r h0
  have HC := Lib.hid (r.cut2 hc)
  have x5 : w.cell? ⟨b, o + 0 * 7 + 5, none⟩ = some (.int .u8 (K 0)) := hf 0 5 h0 (by omega)
  rw [show o + 0 * 7 + 5 = o + 5 by omega] at x5
  have n18 : (K 0 == 18) = false := by rw [show K 0 = 21 from by simpa using k0]; rfl
  have x12 : w.cell? ⟨b, o + 1 * 7 + 5, none⟩ = some (.int .u8 (K 1)) := hf 1 5 (by omega) (by omega)
  rw [show o + 1 * 7 + 5 = o + 7 + 5 by omega] at x12
  have x6 : w.cell? ⟨b, o + 0 * 7 + 6, none⟩ = some (.int .u8 (W 0)) := hf 0 6 (by omega) (by omega)
  rw [show o + 0 * 7 + 6 = o + 6 by omega] at x6
  have x13 : w.cell? ⟨b, o + 1 * 7 + 6, none⟩ = some (.int .u8 (W 1)) := hf 1 6 (by omega) (by omega)
  rw [show o + 1 * 7 + 6 = o + 7 + 6 by omega] at x13
  have g2 : decide ((2 : Int) ≤ (n : Int)) = true := by simp; omega
  have q3 : (1 : Int) < (n : Int) := by omega
  have q4 : (2 : Int) ≤ (n : Int) := by omega
  clear hf r
  have q1 : (1 : Int) ≤ (n : Int) := by omega
  have q2 : (n : Int) ≤ (c : Int) := by omega
  go_enter Try.func29, Try.ntmps29
  go_wp2
  go_quiet (fail)
  go_wp2
  go_quiet (fail)
  go_wp2
  all_goals
    go_ret2
    refine ⟨_, rfl, ?_, by first | exact below_drewN (Below.refl _ _) _ | exact below_drewN (below_drewN (Below.refl _ _) _) _⟩
    have this := HC.out
    first
      | (rw [if_pos (by assumption)] at this; exact this)
      | (rw [if_neg (by assumption)] at this; exact this)
      | (rw [if_neg (by omega)] at this; exact this)

set_option maxRecDepth 100000 in
set_option maxHeartbeats 1000000 in
theorem scan20a (A : Option Addr) (c : Nat) (K : Nat → Int) (T : Nat → ByteArray) (W L : Nat → Int) (w : World) (r : TR w A 1 (tc K T W L)) (hc : 1 ≤ c) (hn : c ≤ 16384) (h0 : 0 < 1) (k0 : (K 0 == 20) = true) (n1 : True) :
    Calls Try.prog 29 #[.slice A 1 c] w (ScanP 1 c 4 K T W L w) := by
  obtain ⟨b, o, rfl, hb, hf⟩ := r h0
  have HC := Lib.hid (r.cut1 hc)
  have x5 : w.cell? ⟨b, o + 0 * 7 + 5, none⟩ = some (.int .u8 (K 0)) := hf 0 5 h0 (by omega)
  rw [show o + 0 * 7 + 5 = o + 5 by omega] at x5
  have n18 : (K 0 == 18) = false := by rw [show K 0 = 20 from by simpa using k0]; rfl
  have n21 : (K 0 == 21) = false := by rw [show K 0 = 20 from by simpa using k0]; rfl
  clear hf r
  have q1 : (1 : Int) ≤ (1 : Int) := by omega
  have q2 : (1 : Int) ≤ (c : Int) := by omega
  go_enter Try.func29, Try.ntmps29
  go_wp2
  go_quiet (fail)
  go_wp2
  go_quiet (fail)
  go_wp2
  all_goals
    go_ret2
    refine ⟨_, rfl, ?_, by first | exact below_drewN (Below.refl _ _) _ | exact below_drewN (below_drewN (Below.refl _ _) _) _⟩
    have this := HC.out
    first
      | (rw [if_pos (by assumption)] at this; exact this)
      | (rw [if_neg (by assumption)] at this; exact this)
      | (rw [if_neg (by omega)] at this; exact this)

set_option maxRecDepth 100000 in
set_option maxHeartbeats 1000000 in
theorem scan20b (A : Option Addr) (n c : Nat) (K : Nat → Int) (T : Nat → ByteArray) (W L : Nat → Int) (w : World) (r : TR w A n (tc K T W L)) (hc : n ≤ c) (hn : c ≤ 16384) (h0 : 0 < n) (k0 : (K 0 == 20) = true) (n2 : 2 ≤ n) (k1 : (K 1 == 18) = false) :
    Calls Try.prog 29 #[.slice A n c] w (ScanP n c 4 K T W L w) := by
  obtain ⟨b, o, rfl, hb, hf⟩ := r h0
  have HC := Lib.hid (r.cut1 hc)
  have x5 : w.cell? ⟨b, o + 0 * 7 + 5, none⟩ = some (.int .u8 (K 0)) := hf 0 5 h0 (by omega)
  rw [show o + 0 * 7 + 5 = o + 5 by omega] at x5
  have n18 : (K 0 == 18) = false := by rw [show K 0 = 20 from by simpa using k0]; rfl
  have n21 : (K 0 == 21) = false := by rw [show K 0 = 20 from by simpa using k0]; rfl
  have x12 : w.cell? ⟨b, o + 1 * 7 + 5, none⟩ = some (.int .u8 (K 1)) := hf 1 5 (by omega) (by omega)
  rw [show o + 1 * 7 + 5 = o + 7 + 5 by omega] at x12
  have x6 : w.cell? ⟨b, o + 0 * 7 + 6, none⟩ = some (.int .u8 (W 0)) := hf 0 6 (by omega) (by omega)
  rw [show o + 0 * 7 + 6 = o + 6 by omega] at x6
  have x13 : w.cell? ⟨b, o + 1 * 7 + 6, none⟩ = some (.int .u8 (W 1)) := hf 1 6 (by omega) (by omega)
  rw [show o + 1 * 7 + 6 = o + 7 + 6 by omega] at x13
  have g2 : decide ((2 : Int) ≤ (n : Int)) = true := by simp; omega
  have q3 : (1 : Int) < (n : Int) := by omega
  have q4 : (2 : Int) ≤ (n : Int) := by omega
  clear hf r
  have q1 : (1 : Int) ≤ (n : Int) := by omega
  have q2 : (n : Int) ≤ (c : Int) := by omega
  go_enter Try.func29, Try.ntmps29
  go_wp2
  go_quiet (fail)
  go_wp2
  go_quiet (fail)
  go_wp2
  all_goals
    go_ret2
    refine ⟨_, rfl, ?_, by first | exact below_drewN (Below.refl _ _) _ | exact below_drewN (below_drewN (Below.refl _ _) _) _⟩
    have this := HC.out
    first
      | (rw [if_pos (by assumption)] at this; exact this)
      | (rw [if_neg (by assumption)] at this; exact this)
      | (rw [if_neg (by omega)] at this; exact this)

set_option maxRecDepth 100000 in
set_option maxHeartbeats 1000000 in
theorem scan20c (A : Option Addr) (n c : Nat) (K : Nat → Int) (T : Nat → ByteArray) (W L : Nat → Int) (w : World) (r : TR w A n (tc K T W L)) (hc : n ≤ c) (hn : c ≤ 16384) (h0 : 0 < n) (k0 : (K 0 == 20) = true) (n2 : 2 ≤ n) (k1 : (K 1 == 18) = true) (ws : (bits .or .u8 (bits .and .u8 (W 0) 2) (bits .and .u8 (W 1) 1) == 0) = false) :
    Calls Try.prog 29 #[.slice A n c] w (ScanP n c 4 K T W L w) := by
  obtain ⟨b, o, rfl, hb, hf⟩ := r h0
  have HC := Lib.hid (r.cut1 hc)
  have x5 : w.cell? ⟨b, o + 0 * 7 + 5, none⟩ = some (.int .u8 (K 0)) := hf 0 5 h0 (by omega)
  rw [show o + 0 * 7 + 5 = o + 5 by omega] at x5
  have n18 : (K 0 == 18) = false := by rw [show K 0 = 20 from by simpa using k0]; rfl
  have n21 : (K 0 == 21) = false := by rw [show K 0 = 20 from by simpa using k0]; rfl
  have x12 : w.cell? ⟨b, o + 1 * 7 + 5, none⟩ = some (.int .u8 (K 1)) := hf 1 5 (by omega) (by omega)
  rw [show o + 1 * 7 + 5 = o + 7 + 5 by omega] at x12
  have x6 : w.cell? ⟨b, o + 0 * 7 + 6, none⟩ = some (.int .u8 (W 0)) := hf 0 6 (by omega) (by omega)
  rw [show o + 0 * 7 + 6 = o + 6 by omega] at x6
  have x13 : w.cell? ⟨b, o + 1 * 7 + 6, none⟩ = some (.int .u8 (W 1)) := hf 1 6 (by omega) (by omega)
  rw [show o + 1 * 7 + 6 = o + 7 + 6 by omega] at x13
  have g2 : decide ((2 : Int) ≤ (n : Int)) = true := by simp; omega
  have q3 : (1 : Int) < (n : Int) := by omega
  have q4 : (2 : Int) ≤ (n : Int) := by omega
  clear hf r
  have q1 : (1 : Int) ≤ (n : Int) := by omega
  have q2 : (n : Int) ≤ (c : Int) := by omega
  go_enter Try.func29, Try.ntmps29
  go_wp2
  go_quiet (fail)
  go_wp2
  go_quiet (fail)
  go_wp2
  all_goals
    go_ret2
    refine ⟨_, rfl, ?_, by first | exact below_drewN (Below.refl _ _) _ | exact below_drewN (below_drewN (Below.refl _ _) _) _⟩
    have this := HC.out
    first
      | (rw [if_pos (by assumption)] at this; exact this)
      | (rw [if_neg (by assumption)] at this; exact this)
      | (rw [if_neg (by omega)] at this; exact this)

set_option maxRecDepth 100000 in
set_option maxHeartbeats 1000000 in
theorem scan20d (A : Option Addr) (n c : Nat) (K : Nat → Int) (T : Nat → ByteArray) (W L : Nat → Int) (w : World) (r : TR w A n (tc K T W L)) (hc : n ≤ c) (hn : c ≤ 16384) (h0 : 0 < n) (k0 : (K 0 == 20) = true) (n2 : 2 ≤ n) (k1 : (K 1 == 18) = true) (ws : (bits .or .u8 (bits .and .u8 (W 0) 2) (bits .and .u8 (W 1) 1) == 0) = true) :
    Calls Try.prog 29 #[.slice A n c] w (ScanP n c 5 K T W L w) := by
  obtain ⟨b, o, rfl, hb, hf⟩ := r h0
  have HC := Lib.hid (r.cut2 hc)
  have x5 : w.cell? ⟨b, o + 0 * 7 + 5, none⟩ = some (.int .u8 (K 0)) := hf 0 5 h0 (by omega)
  rw [show o + 0 * 7 + 5 = o + 5 by omega] at x5
  have n18 : (K 0 == 18) = false := by rw [show K 0 = 20 from by simpa using k0]; rfl
  have n21 : (K 0 == 21) = false := by rw [show K 0 = 20 from by simpa using k0]; rfl
  have x12 : w.cell? ⟨b, o + 1 * 7 + 5, none⟩ = some (.int .u8 (K 1)) := hf 1 5 (by omega) (by omega)
  rw [show o + 1 * 7 + 5 = o + 7 + 5 by omega] at x12
  have x6 : w.cell? ⟨b, o + 0 * 7 + 6, none⟩ = some (.int .u8 (W 0)) := hf 0 6 (by omega) (by omega)
  rw [show o + 0 * 7 + 6 = o + 6 by omega] at x6
  have x13 : w.cell? ⟨b, o + 1 * 7 + 6, none⟩ = some (.int .u8 (W 1)) := hf 1 6 (by omega) (by omega)
  rw [show o + 1 * 7 + 6 = o + 7 + 6 by omega] at x13
  have g2 : decide ((2 : Int) ≤ (n : Int)) = true := by simp; omega
  have q3 : (1 : Int) < (n : Int) := by omega
  have q4 : (2 : Int) ≤ (n : Int) := by omega
  clear hf r
  have q1 : (1 : Int) ≤ (n : Int) := by omega
  have q2 : (n : Int) ≤ (c : Int) := by omega
  go_enter Try.func29, Try.ntmps29
  go_wp2
  go_quiet (fail)
  go_wp2
  go_quiet (fail)
  go_wp2
  all_goals
    go_ret2
    refine ⟨_, rfl, ?_, by first | exact below_drewN (Below.refl _ _) _ | exact below_drewN (below_drewN (Below.refl _ _) _) _⟩
    have this := HC.out
    first
      | (rw [if_pos (by assumption)] at this; exact this)
      | (rw [if_neg (by assumption)] at this; exact this)
      | (rw [if_neg (by omega)] at this; exact this)
end Go.Proofs.Ytceafaddhbabhaa.ZT


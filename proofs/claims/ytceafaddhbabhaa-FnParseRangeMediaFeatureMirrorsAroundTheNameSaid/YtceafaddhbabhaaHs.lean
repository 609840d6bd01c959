/- scanMediaComparison: what it answers, and where the rest lies. Printed by gen_scanq.py. -/
import Derived.Test.YtceafaddhbabhaaSd
namespace Go.Proofs.Ytceafaddhbabhaa.ZT
open Go.RowKit Go.Proofs.Ytceafaddhbabhaa.TB
set_option linter.unusedVariables false
def ScanQ (A : Option Addr) (n c m : Nat) (K : Nat → Int) (T : Nat → ByteArray) (W L : Nat → Int) (w : World) (e : Ending) (w' : World) : Prop :=
  ∃ A', e = .returned (.tuple #[.int .u8 (m : Nat), .slice A' (n - wid m) (c - wid m)]) ∧ TR w' A' (n - wid m) (fun i j => tc K T W L (i + wid m) j) ∧ Below w.heap.size w w' ∧ ∀ b o, A = some ⟨b, o, none⟩ → wid m < n → A' = some ⟨b, o + 7 * wid m, none⟩
set_option maxRecDepth 100000 in
set_option maxHeartbeats 1000000 in
theorem scanq18 (A : Option Addr) (n c : Nat) (K : Nat → Int) (T : Nat → ByteArray) (W L : Nat → Int) (w : World) (r : TR w A n (tc K T W L)) (hc : n ≤ c) (hn : c ≤ 9223372036854775807) (h0 : 0 < n) (k0 : (K 0 == 18) = true) :
    Calls Try.prog 29 #[.slice A n c] w (ScanQ A n c 1 K T W L w) := by
  obtain ⟨b, o, rfl, hb, hf⟩ := r h0
  have HC := Lib.hid (r.cut1 hc)
  have x5 : w.cell? ⟨b, o + 0 * 7 + 5, none⟩ = some (.int .u8 (K 0)) := hf 0 5 h0 (by omega)
  rw [show o + 0 * 7 + 5 = o + 5 by omega] at x5
  clear hf r
  have q1 : (1 : Int) ≤ (n : Int) := by omega
  have q2 : (n : Int) ≤ (c : Int) := by omega
  go_enter Try.func29, Try.ntmps29
  go_wp2
  go_quiet (fail)
  go_wp2
  all_goals
    go_ret2
    refine ⟨_, rfl, ?_, by first | exact below_drewN (Below.refl _ _) _ | exact below_drewN (below_drewN (Below.refl _ _) _) _, ?_⟩
    · have this := HC.out
      first
        | (rw [if_pos (by assumption)] at this; exact this)
        | (rw [if_neg (by assumption)] at this; exact this)
        | (rw [if_neg (by omega)] at this; exact this)
    · intro b' o' e hw
      injection e with e
      injection e with e1 e2
      subst e1 e2
      first
        | rfl
        | (exfalso; simp [wid] at hw; done)
        | (exfalso; simp [wid] at hw; omega)

set_option maxRecDepth 100000 in
set_option maxHeartbeats 1000000 in
theorem scanq21a (A : Option Addr) (c : Nat) (K : Nat → Int) (T : Nat → ByteArray) (W L : Nat → Int) (w : World) (r : TR w A 1 (tc K T W L)) (hc : 1 ≤ c) (hn : c ≤ 9223372036854775807) (h0 : 0 < 1) (k0 : (K 0 == 21) = true) (n1 : True) :
    Calls Try.prog 29 #[.slice A 1 c] w (ScanQ A 1 c 2 K T W L w) := by
  obtain ⟨b, o, rfl, hb, hf⟩ := r h0
  have HC := Lib.hid (r.cut1 hc)
  have x5 : w.cell? ⟨b, o + 0 * 7 + 5, none⟩ = some (.int .u8 (K 0)) := hf 0 5 h0 (by omega)
  rw [show o + 0 * 7 + 5 = o + 5 by omega] at x5
  have n18 : (K 0 == 18) = false := by rw [show K 0 = 21 from by simpa using k0]; rfl
  clear hf r
  have q1 : (1 : Int) ≤ (1 : Int) := by omega
  have q2 : (1 : Int) ≤ (c : Int) := by omega
  go_enter Try.func29, Try.ntmps29
  go_wp2
  go_quiet (fail)
  go_wp2
  go_quiet (fail)
  go_wp2
  all_goals
    go_ret2
    refine ⟨_, rfl, ?_, by first | exact below_drewN (Below.refl _ _) _ | exact below_drewN (below_drewN (Below.refl _ _) _) _, ?_⟩
    · have this := HC.out
      first
        | (rw [if_pos (by assumption)] at this; exact this)
        | (rw [if_neg (by assumption)] at this; exact this)
        | (rw [if_neg (by omega)] at this; exact this)
    · intro b' o' e hw
      injection e with e
      injection e with e1 e2
      subst e1 e2
      first
        | rfl
        | (exfalso; simp [wid] at hw; done)
        | (exfalso; simp [wid] at hw; omega)

set_option maxRecDepth 100000 in
set_option maxHeartbeats 1000000 in
theorem scanq21b (A : Option Addr) (n c : Nat) (K : Nat → Int) (T : Nat → ByteArray) (W L : Nat → Int) (w : World) (r : TR w A n (tc K T W L)) (hc : n ≤ c) (hn : c ≤ 9223372036854775807) (h0 : 0 < n) (k0 : (K 0 == 21) = true) (n2 : 2 ≤ n) (k1 : (K 1 == 18) = false) :
    Calls Try.prog 29 #[.slice A n c] w (ScanQ A n c 2 K T W L w) := by
  obtain ⟨b, o, rfl, hb, hf⟩ := r h0
  have HC := Lib.hid (r.cut1 hc)
  have x5 : w.cell? ⟨b, o + 0 * 7 + 5, none⟩ = some (.int .u8 (K 0)) := hf 0 5 h0 (by omega)
  rw [show o + 0 * 7 + 5 = o + 5 by omega] at x5
  have n18 : (K 0 == 18) = false := by rw [show K 0 = 21 from by simpa using k0]; rfl
  have x12 : w.cell? ⟨b, o + 1 * 7 + 5, none⟩ = some (.int .u8 (K 1)) := hf 1 5 (by omega) (by omega)
  rw [show o + 1 * 7 + 5 = o + 7 + 5 by omega] at x12
  have x6 : w.cell? ⟨b, o + 0 * 7 + 6, none⟩ = some (.int .u8 (W 0)) := hf 0 6 (by omega) (by omega)
  rw [show o + 0 * 7 + 6 = o + 6 by omega] at x6
  have x13 : w.cell? ⟨b, o + 1 * 7 + 6, none⟩ = some (.int .u8 (W 1)) := hf 1 6 (by omega) (by omega)
  rw [show o + 1 * 7 + 6 = o + 7 + 6 by omega] at x13
  have g2 : decide ((2 : Int) ≤ (n : Int)) = true := by simp; omega
  have q3 : (1 : Int) < (n : Int) := by omega
  have q4 : (2 : Int) ≤ (n : Int) := by omega
  clear hf r
  have q1 : (1 : Int) ≤ (n : Int) := by omega
  have q2 : (n : Int) ≤ (c : Int) := by omega
  go_enter Try.func29, Try.ntmps29
  go_wp2
  go_quiet (fail)
  go_wp2
  go_quiet (fail)
  go_wp2
  all_goals
    go_ret2
    refine ⟨_, rfl, ?_, by first | exact below_drewN (Below.refl _ _) _ | exact below_drewN (below_drewN (Below.refl _ _) _) _, ?_⟩
    · have this := HC.out
      first
        | (rw [if_pos (by assumption)] at this; exact this)
        | (rw [if_neg (by assumption)] at this; exact this)
        | (rw [if_neg (by omega)] at this; exact this)
    · intro b' o' e hw
      injection e with e
      injection e with e1 e2
      subst e1 e2
      first
        | rfl
        | (exfalso; simp [wid] at hw; done)
        | (exfalso; simp [wid] at hw; omega)

set_option maxRecDepth 100000 in
set_option maxHeartbeats 1000000 in
theorem scanq21c (A : Option Addr) (n c : Nat) (K : Nat → Int) (T : Nat → ByteArray) (W L : Nat → Int) (w : World) (r : TR w A n (tc K T W L)) (hc : n ≤ c) (hn : c ≤ 9223372036854775807) (h0 : 0 < n) (k0 : (K 0 == 21) = true) (n2 : 2 ≤ n) (k1 : (K 1 == 18) = true) (ws : (bits .or .u8 (bits .and .u8 (W 0) 2) (bits .and .u8 (W 1) 1) == 0) = false) :
    Calls Try.prog 29 #[.slice A n c] w (ScanQ A n c 2 K T W L w) := by
  obtain ⟨b, o, rfl, hb, hf⟩ := r h0
  have HC := Lib.hid (r.cut1 hc)
  have x5 : w.cell? ⟨b, o + 0 * 7 + 5, none⟩ = some (.int .u8 (K 0)) := hf 0 5 h0 (by omega)
  rw [show o + 0 * 7 + 5 = o + 5 by omega] at x5
  have n18 : (K 0 == 18) = false := by rw [show K 0 = 21 from by simpa using k0]; rfl
  have x12 : w.cell? ⟨b, o + 1 * 7 + 5, none⟩ = some (.int .u8 (K 1)) := hf 1 5 (by omega) (by omega)
  rw [show o + 1 * 7 + 5 = o + 7 + 5 by omega] at x12
  have x6 : w.cell? ⟨b, o + 0 * 7 + 6, none⟩ = some (.int .u8 (W 0)) := hf 0 6 (by omega) (by omega)
  rw [show o + 0 * 7 + 6 = o + 6 by omega] at x6
  have x13 : w.cell? ⟨b, o + 1 * 7 + 6, none⟩ = some (.int .u8 (W 1)) := hf 1 6 (by omega) (by omega)
  rw [show o + 1 * 7 + 6 = o + 7 + 6 by omega] at x13
  have g2 : decide ((2 : Int) ≤ (n : Int)) = true := by simp; omega
  have q3 : (1 : Int) < (n : Int) := by omega
  have q4 : (2 : Int) ≤ (n : Int) := by omega
  clear hf r
  have q1 : (1 : Int) ≤ (n : Int) := by omega
  have q2 : (n : Int) ≤ (c : Int) := by omega
  go_enter Try.func29, Try.ntmps29
  go_wp2
  go_quiet (fail)
  go_wp2
  go_quiet (fail)
  go_wp2
  all_goals
    go_ret2
    refine ⟨_, rfl, ?_, by first | exact below_drewN (Below.refl _ _) _ | exact below_drewN (below_drewN (Below.refl _ _) _) _, ?_⟩
    · have this := HC.out
      first
        | (rw [if_pos (by assumption)] at this; exact this)
        | (rw [if_neg (by assumption)] at this; exact this)
        | (rw [if_neg (by omega)] at this; exact this)
    · intro b' o' e hw
      injection e with e
      injection e with e1 e2
      subst e1 e2
      first
        | rfl
        | (exfalso; simp [wid] at hw; done)
        | (exfalso; simp [wid] at hw; omega)

set_option maxRecDepth 100000 in
set_option maxHeartbeats 1000000 in
theorem scanq21d (A : Option Addr) (n c : Nat) (K : Nat → Int) (T : Nat → ByteArray) (W L : Nat → Int) (w : World) (r : TR w A n (tc K T W L)) (hc : n ≤ c) (hn : c ≤ 9223372036854775807) (h0 : 0 < n) (k0 : (K 0 == 21) = true) (n2 : 2 ≤ n) (k1 : (K 1 == 18) = true) (ws : (bits .or .u8 (bits .and .u8 (W 0) 2) (bits .and .u8 (W 1) 1) == 0) = true) :
    Calls Try.prog 29 #[.slice A n c] w (ScanQ A n c 3 K T W L w) := by
  obtain ⟨b, o, rfl, hb, hf⟩ := r h0
  have HC := Lib.hid (r.cut2 hc)
  have x5 : w.cell? ⟨b, o + 0 * 7 + 5, none⟩ = some (.int .u8 (K 0)) := hf 0 5 h0 (by omega)
  rw [show o + 0 * 7 + 5 = o + 5 by omega] at x5
  have n18 : (K 0 == 18) = false := by rw [show K 0 = 21 from by simpa using k0]; rfl
  have x12 : w.cell? ⟨b, o + 1 * 7 + 5, none⟩ = some (.int .u8 (K 1)) := hf 1 5 (by omega) (by omega)
  rw [show o + 1 * 7 + 5 = o + 7 + 5 by omega] at x12
  have x6 : w.cell? ⟨b, o + 0 * 7 + 6, none⟩ = some (.int .u8 (W 0)) := hf 0 6 (by omega) (by omega)
  rw [show o + 0 * 7 + 6 = o + 6 by omega] at x6
  have x13 : w.cell? ⟨b, o + 1 * 7 + 6, none⟩ = some (.int .u8 (W 1)) := hf 1 6 (by omega) (by omega)
  rw [show o + 1 * 7 + 6 = o + 7 + 6 by omega] at x13
  have g2 : decide ((2 : Int) ≤ (n : Int)) = true := by simp; omega
  have q3 : (1 : Int) < (n : Int) := by omega
  have q4 : (2 : Int) ≤ (n : Int) := by omega
  clear hf r
  have q1 : (1 : Int) ≤ (n : Int) := by omega
  have q2 : (n : Int) ≤ (c : Int) := by omega
  go_enter Try.func29, Try.ntmps29
  go_wp2
  go_quiet (fail)
  go_wp2
  go_quiet (fail)
  go_wp2
  all_goals
    go_ret2
    refine ⟨_, rfl, ?_, by first | exact below_drewN (Below.refl _ _) _ | exact below_drewN (below_drewN (Below.refl _ _) _) _, ?_⟩
    · have this := HC.out
      first
        | (rw [if_pos (by assumption)] at this; exact this)
        | (rw [if_neg (by assumption)] at this; exact this)
        | (rw [if_neg (by omega)] at this; exact this)
    · intro b' o' e hw
      injection e with e
      injection e with e1 e2
      subst e1 e2
      first
        | rfl
        | (exfalso; simp [wid] at hw; done)
        | (exfalso; simp [wid] at hw; omega)

set_option maxRecDepth 100000 in
set_option maxHeartbeats 1000000 in
theorem scanq20a (A : Option Addr) (c : Nat) (K : Nat → Int) (T : Nat → ByteArray) (W L : Nat → Int) (w : World) (r : TR w A 1 (tc K T W L)) (hc : 1 ≤ c) (hn : c ≤ 9223372036854775807) (h0 : 0 < 1) (k0 : (K 0 == 20) = true) (n1 : True) :
    Calls Try.prog 29 #[.slice A 1 c] w (ScanQ A 1 c 4 K T W L w) := by
  obtain ⟨b, o, rfl, hb, hf⟩ := r h0
  have HC := Lib.hid (r.cut1 hc)
  have x5 : w.cell? ⟨b, o + 0 * 7 + 5, none⟩ = some (.int .u8 (K 0)) := hf 0 5 h0 (by omega)
  rw [show o + 0 * 7 + 5 = o + 5 by omega] at x5
  have n18 : (K 0 == 18) = false := by rw [show K 0 = 20 from by simpa using k0]; rfl
  have n21 : (K 0 == 21) = false := by rw [show K 0 = 20 from by simpa using k0]; rfl
  clear hf r
  have q1 : (1 : Int) ≤ (1 : Int) := by omega
  have q2 : (1 : Int) ≤ (c : Int) := by omega
  go_enter Try.func29, Try.ntmps29
  go_wp2
  go_quiet (fail)
  go_wp2
  go_quiet (fail)
  go_wp2
  all_goals
    go_ret2
    refine ⟨_, rfl, ?_, by first | exact below_drewN (Below.refl _ _) _ | exact below_drewN (below_drewN (Below.refl _ _) _) _, ?_⟩
    · have this := HC.out
      first
        | (rw [if_pos (by assumption)] at this; exact this)
        | (rw [if_neg (by assumption)] at this; exact this)
        | (rw [if_neg (by omega)] at this; exact this)
    · intro b' o' e hw
      injection e with e
      injection e with e1 e2
      subst e1 e2
      first
        | rfl
        | (exfalso; simp [wid] at hw; done)
        | (exfalso; simp [wid] at hw; omega)

set_option maxRecDepth 100000 in
set_option maxHeartbeats 1000000 in
theorem scanq20b (A : Option Addr) (n c : Nat) (K : Nat → Int) (T : Nat → ByteArray) (W L : Nat → Int) (w : World) (r : TR w A n (tc K T W L)) (hc : n ≤ c) (hn : c ≤ 9223372036854775807) (h0 : 0 < n) (k0 : (K 0 == 20) = true) (n2 : 2 ≤ n) (k1 : (K 1 == 18) = false) :
    Calls Try.prog 29 #[.slice A n c] w (ScanQ A n c 4 K T W L w) := by
  obtain ⟨b, o, rfl, hb, hf⟩ := r h0
  have HC := Lib.hid (r.cut1 hc)
  have x5 : w.cell? ⟨b, o + 0 * 7 + 5, none⟩ = some (.int .u8 (K 0)) := hf 0 5 h0 (by omega)
  rw [show o + 0 * 7 + 5 = o + 5 by omega] at x5
  have n18 : (K 0 == 18) = false := by rw [show K 0 = 20 from by simpa using k0]; rfl
  have n21 : (K 0 == 21) = false := by rw [show K 0 = 20 from by simpa using k0]; rfl
  have x12 : w.cell? ⟨b, o + 1 * 7 + 5, none⟩ = some (.int .u8 (K 1)) := hf 1 5 (by omega) (by omega)
  rw [show o + 1 * 7 + 5 = o + 7 + 5 by omega] at x12
  have x6 : w.cell? ⟨b, o + 0 * 7 + 6, none⟩ = some (.int .u8 (W 0)) := hf 0 6 (by omega) (by omega)
  rw [show o + 0 * 7 + 6 = o + 6 by omega] at x6
  have x13 : w.cell? ⟨b, o + 1 * 7 + 6, none⟩ = some (.int .u8 (W 1)) := hf 1 6 (by omega) (by omega)
  rw [show o + 1 * 7 + 6 = o + 7 + 6 by omega] at x13
  have g2 : decide ((2 : Int) ≤ (n : Int)) = true := by simp; omega
  have q3 : (1 : Int) < (n : Int) := by omega
  have q4 : (2 : Int) ≤ (n : Int) := by omega
  clear hf r
  have q1 : (1 : Int) ≤ (n : Int) := by omega
  have q2 : (n : Int) ≤ (c : Int) := by omega
  go_enter Try.func29, Try.ntmps29
  go_wp2
  go_quiet (fail)
  go_wp2
  go_quiet (fail)
  go_wp2
  all_goals
    go_ret2
    refine ⟨_, rfl, ?_, by first | exact below_drewN (Below.refl _ _) _ | exact below_drewN (below_drewN (Below.refl _ _) _) _, ?_⟩
    · have this := HC.out
      first
        | (rw [if_pos (by assumption)] at this; exact this)
        | (rw [if_neg (by assumption)] at this; exact this)
        | (rw [if_neg (by omega)] at this; exact this)
    · intro b' o' e hw
      injection e with e
      injection e with e1 e2
      subst e1 e2
      first
        | rfl
        | (exfalso; simp [wid] at hw; done)
        | (exfalso; simp [wid] at hw; omega)

set_option maxRecDepth 100000 in
set_option maxHeartbeats 1000000 in
theorem scanq20c (A : Option Addr) (n c : Nat) (K : Nat → Int) (T : Nat → ByteArray) (W L : Nat → Int) (w : World) (r : TR w A n (tc K T W L)) (hc : n ≤ c) (hn : c ≤ 9223372036854775807) (h0 : 0 < n) (k0 : (K 0 == 20) = true) (n2 : 2 ≤ n) (k1 : (K 1 == 18) = true) (ws : (bits .or .u8 (bits .and .u8 (W 0) 2) (bits .and .u8 (W 1) 1) == 0) = false) :
    Calls Try.prog 29 #[.slice A n c] w (ScanQ A n c 4 K T W L w) := by
  obtain ⟨b, o, rfl, hb, hf⟩ := r h0
  have HC := Lib.hid (r.cut1 hc)
  have x5 : w.cell? ⟨b, o + 0 * 7 + 5, none⟩ = some (.int .u8 (K 0)) := hf 0 5 h0 (by omega)
  rw [show o + 0 * 7 + 5 = o + 5 by omega] at x5
  have n18 : (K 0 == 18) = false := by rw [show K 0 = 20 from by simpa using k0]; rfl
  have n21 : (K 0 == 21) = false := by rw [show K 0 = 20 from by simpa using k0]; rfl
  have x12 : w.cell? ⟨b, o + 1 * 7 + 5, none⟩ = some (.int .u8 (K 1)) := hf 1 5 (by omega) (by omega)
  rw [show o + 1 * 7 + 5 = o + 7 + 5 by omega] at x12
  have x6 : w.cell? ⟨b, o + 0 * 7 + 6, none⟩ = some (.int .u8 (W 0)) := hf 0 6 (by omega) (by omega)
  rw [show o + 0 * 7 + 6 = o + 6 by omega] at x6
  have x13 : w.cell? ⟨b, o + 1 * 7 + 6, none⟩ = some (.int .u8 (W 1)) := hf 1 6 (by omega) (by omega)
  rw [show o + 1 * 7 + 6 = o + 7 + 6 by omega] at x13
  have g2 : decide ((2 : Int) ≤ (n : Int)) = true := by simp; omega
  have q3 : (1 : Int) < (n : Int) := by omega
  have q4 : (2 : Int) ≤ (n : Int) := by omega
  clear hf r
  have q1 : (1 : Int) ≤ (n : Int) := by omega
  have q2 : (n : Int) ≤ (c : Int) := by omega
  go_enter Try.func29, Try.ntmps29
  go_wp2
  go_quiet (fail)
  go_wp2
  go_quiet (fail)
  go_wp2
  all_goals
    go_ret2
    refine ⟨_, rfl, ?_, by first | exact below_drewN (Below.refl _ _) _ | exact below_drewN (below_drewN (Below.refl _ _) _) _, ?_⟩
    · have this := HC.out
      first
        | (rw [if_pos (by assumption)] at this; exact this)
        | (rw [if_neg (by assumption)] at this; exact this)
        | (rw [if_neg (by omega)] at this; exact this)
    · intro b' o' e hw
      injection e with e
      injection e with e1 e2
      subst e1 e2
      first
        | rfl
        | (exfalso; simp [wid] at hw; done)
        | (exfalso; simp [wid] at hw; omega)

set_option maxRecDepth 100000 in
set_option maxHeartbeats 1000000 in
theorem scanq20d (A : Option Addr) (n c : Nat) (K : Nat → Int) (T : Nat → ByteArray) (W L : Nat → Int) (w : World) (r : TR w A n (tc K T W L)) (hc : n ≤ c) (hn : c ≤ 9223372036854775807) (h0 : 0 < n) (k0 : (K 0 == 20) = true) (n2 : 2 ≤ n) (k1 : (K 1 == 18) = true) (ws : (bits .or .u8 (bits .and .u8 (W 0) 2) (bits .and .u8 (W 1) 1) == 0) = true) :
    Calls Try.prog 29 #[.slice A n c] w (ScanQ A n c 5 K T W L w) := by
  obtain ⟨b, o, rfl, hb, hf⟩ := r h0
  have HC := Lib.hid (r.cut2 hc)
  have x5 : w.cell? ⟨b, o + 0 * 7 + 5, none⟩ = some (.int .u8 (K 0)) := hf 0 5 h0 (by omega)
  rw [show o + 0 * 7 + 5 = o + 5 by omega] at x5
  have n18 : (K 0 == 18) = false := by rw [show K 0 = 20 from by simpa using k0]; rfl
  have n21 : (K 0 == 21) = false := by rw [show K 0 = 20 from by simpa using k0]; rfl
  have x12 : w.cell? ⟨b, o + 1 * 7 + 5, none⟩ = some (.int .u8 (K 1)) := hf 1 5 (by omega) (by omega)
  rw [show o + 1 * 7 + 5 = o + 7 + 5 by omega] at x12
  have x6 : w.cell? ⟨b, o + 0 * 7 + 6, none⟩ = some (.int .u8 (W 0)) := hf 0 6 (by omega) (by omega)
  rw [show o + 0 * 7 + 6 = o + 6 by omega] at x6
  have x13 : w.cell? ⟨b, o + 1 * 7 + 6, none⟩ = some (.int .u8 (W 1)) := hf 1 6 (by omega) (by omega)
  rw [show o + 1 * 7 + 6 = o + 7 + 6 by omega] at x13
  have g2 : decide ((2 : Int) ≤ (n : Int)) = true := by simp; omega
  have q3 : (1 : Int) < (n : Int) := by omega
  have q4 : (2 : Int) ≤ (n : Int) := by omega
  clear hf r
  have q1 : (1 : Int) ≤ (n : Int) := by omega
  have q2 : (n : Int) ≤ (c : Int) := by omega
  go_enter Try.func29, Try.ntmps29
  go_wp2
  go_quiet (fail)
  go_wp2
  go_quiet (fail)
  go_wp2
  all_goals
    go_ret2
    refine ⟨_, rfl, ?_, by first | exact below_drewN (Below.refl _ _) _ | exact below_drewN (below_drewN (Below.refl _ _) _) _, ?_⟩
    · have this := HC.out
      first
        | (rw [if_pos (by assumption)] at this; exact this)
        | (rw [if_neg (by assumption)] at this; exact this)
        | (rw [if_neg (by omega)] at this; exact this)
    · intro b' o' e hw
      injection e with e
      injection e with e1 e2
      subst e1 e2
      first
        | rfl
        | (exfalso; simp [wid] at hw; done)
        | (exfalso; simp [wid] at hw; omega)
set_option maxRecDepth 100000 in
theorem scanq_nil (A : Option Addr) (c : Nat) (K : Nat → Int) (T : Nat → ByteArray) (W L : Nat → Int) (w : World) : Calls Try.prog 29 #[.slice A 0 c] w (ScanQ A 0 c 0 K T W L w) := by
  go_enter Try.func29, Try.ntmps29
  go_wp2
  go_ret2
  exact ⟨_, rfl, (fun h => absurd h (by decide)), Below.refl _ _, (fun b o e h => absurd h (by decide))⟩
set_option maxRecDepth 100000 in
theorem scanq_none (A : Option Addr) (n c : Nat) (K : Nat → Int) (T : Nat → ByteArray) (W L : Nat → Int) (w : World) (r : TR w A n (tc K T W L)) (hc : n ≤ c) (hn : c ≤ 9223372036854775807) (h0 : 0 < n)
    (k1 : (K 0 == 18) = false) (k2 : (K 0 == 21) = false) (k3 : (K 0 == 20) = false) : Calls Try.prog 29 #[.slice A n c] w (ScanQ A n c 0 K T W L w) := by
  obtain ⟨b, o, rfl, hb, hf⟩ := r h0
  have R := Lib.hid r
  have x5 : w.cell? ⟨b, o + 0 * 7 + 5, none⟩ = some (.int .u8 (K 0)) := hf 0 5 h0 (by omega)
  rw [show o + 0 * 7 + 5 = o + 5 by omega] at x5
  clear hf r
  go_enter Try.func29, Try.ntmps29
  go_wp2
  go_ret2
  exact ⟨_, rfl, R.out, Below.refl _ _, (fun b o e h => e)⟩
theorem scanq_any (A : Option Addr) (n c : Nat) (K : Nat → Int) (T : Nat → ByteArray) (W L : Nat → Int) (w : World) (r : TR w A n (tc K T W L)) (hc : n ≤ c) (hn : c ≤ 9223372036854775807) :
    Calls Try.prog 29 #[.slice A n c] w (ScanQ A n c (cmpOf n K W) K T W L w) := by
  unfold cmpOf
  by_cases h0 : n = 0
  · subst h0; rw [if_pos rfl]; exact scanq_nil A c K T W L w
  rw [if_neg h0]
  by_cases k1 : K 0 = 18
  · rw [if_pos k1]; exact scanq18 A n c K T W L w r hc hn (by omega) (eqt k1)
  rw [if_neg k1]
  by_cases k2 : K 0 = 21
  · rw [if_pos k2]
    by_cases h1 : n = 1
    · subst h1; rw [if_neg (by omega)]; exact scanq21a A c K T W L w r hc hn (by omega) (eqt k2) trivial
    · by_cases k4 : K 1 = 18
      · cases hw : wsB W
        · rw [if_neg (by simp)]; exact scanq21c A n c K T W L w r hc hn (by omega) (eqt k2) (by omega) (eqt k4) hw
        · rw [if_pos ⟨by omega, k4, rfl⟩]; exact scanq21d A n c K T W L w r hc hn (by omega) (eqt k2) (by omega) (eqt k4) hw
      · rw [if_neg (fun h => k4 h.2.1)]; exact scanq21b A n c K T W L w r hc hn (by omega) (eqt k2) (by omega) (eqf k4)
  rw [if_neg k2]
  by_cases k3 : K 0 = 20
  · rw [if_pos k3]
    by_cases h1 : n = 1
    · subst h1; rw [if_neg (by omega)]; exact scanq20a A c K T W L w r hc hn (by omega) (eqt k3) trivial
    · by_cases k4 : K 1 = 18
      · cases hw : wsB W
        · rw [if_neg (by simp)]; exact scanq20c A n c K T W L w r hc hn (by omega) (eqt k3) (by omega) (eqt k4) hw
        · rw [if_pos ⟨by omega, k4, rfl⟩]; exact scanq20d A n c K T W L w r hc hn (by omega) (eqt k3) (by omega) (eqt k4) hw
      · rw [if_neg (fun h => k4 h.2.1)]; exact scanq20b A n c K T W L w r hc hn (by omega) (eqt k3) (by omega) (eqf k4)
  · rw [if_neg k3]; exact scanq_none A n c K T W L w r hc hn (by omega) (eqf k1) (eqf k2) (eqf k3)
end Go.Proofs.Ytceafaddhbabhaa.ZT

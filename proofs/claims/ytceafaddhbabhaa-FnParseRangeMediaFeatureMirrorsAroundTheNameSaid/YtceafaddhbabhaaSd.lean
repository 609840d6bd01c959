/- The law's helpers: zzIsCmpKind, zzCmpWidth, zzCmpKind, zzOperatorAt, zzSame. Printed by gen_scand.py. -/
import Derived.Test.YtceafaddhbabhaaSc
namespace Go.Proofs.Ytceafaddhbabhaa.ZT
open Go.RowKit Go.Proofs.Ytceafaddhbabhaa.TB
set_option linter.unusedVariables false
theorem quiet_left {P : Program} {f : FuncId} {args : Array Value} {w : World} {n : Nat} {v : Value}
    (h : Calls P f args (w.drewN n) fun e w' => e = .returned v ∧ w.drewN n = w') : Calls P f args (w.drewN n) fun e w'' => e = .returned v ∧ ∃ m, w'' = w.drewN m :=
  h.mono fun _ _ ⟨he, hm⟩ => ⟨he, n, hm.symm⟩
set_option maxRecDepth 100000 in
theorem scan_nil (A : Option Addr) (c : Nat) (K : Nat → Int) (T : Nat → ByteArray) (W L : Nat → Int) (w : World) : Calls Try.prog 29 #[.slice A 0 c] w (ScanP 0 c 0 K T W L w) := by
  go_enter Try.func29, Try.ntmps29
  go_wp2
  go_ret2
  exact ⟨_, rfl, (fun h => absurd h (by decide)), Below.refl _ _⟩
set_option maxRecDepth 100000 in
theorem scan_none (A : Option Addr) (n c : Nat) (K : Nat → Int) (T : Nat → ByteArray) (W L : Nat → Int) (w : World) (r : TR w A n (tc K T W L)) (hc : n ≤ c) (hn : c ≤ 16384) (h0 : 0 < n)
    (k1 : (K 0 == 18) = false) (k2 : (K 0 == 21) = false) (k3 : (K 0 == 20) = false) : Calls Try.prog 29 #[.slice A n c] w (ScanP n c 0 K T W L w) := by
  obtain ⟨b, o, rfl, hb, hf⟩ := r h0
  have R := Lib.hid r
  have x5 : w.cell? ⟨b, o + 0 * 7 + 5, none⟩ = some (.int .u8 (K 0)) := hf 0 5 h0 (by omega)
  rw [show o + 0 * 7 + 5 = o + 5 by omega] at x5
  clear hf r
  go_enter Try.func29, Try.ntmps29
  go_wp2
  go_ret2
  exact ⟨_, rfl, R.out, Below.refl _ _⟩
theorem eqf {a b : Int} (h : ¬ a = b) : (a == b) = false := by simpa using h
theorem eqt {a b : Int} (h : a = b) : (a == b) = true := by simpa using h
theorem scan_any (A : Option Addr) (n c : Nat) (K : Nat → Int) (T : Nat → ByteArray) (W L : Nat → Int) (w : World) (r : TR w A n (tc K T W L)) (hc : n ≤ c) (hn : c ≤ 16384) :
    Calls Try.prog 29 #[.slice A n c] w (ScanP n c (cmpOf n K W) K T W L w) := by
  unfold cmpOf
  by_cases h0 : n = 0
  · subst h0; rw [if_pos rfl]; exact scan_nil A c K T W L w
  rw [if_neg h0]
  by_cases k1 : K 0 = 18
  · rw [if_pos k1]; exact scan18 A n c K T W L w r hc hn (by omega) (eqt k1)
  rw [if_neg k1]
  by_cases k2 : K 0 = 21
  · rw [if_pos k2]
    by_cases h1 : n = 1
    · subst h1; rw [if_neg (by omega)]; exact scan21a A c K T W L w r hc hn (by omega) (eqt k2) trivial
    · by_cases k4 : K 1 = 18
      · cases hw : wsB W
        · rw [if_neg (by simp)]; exact scan21c A n c K T W L w r hc hn (by omega) (eqt k2) (by omega) (eqt k4) hw
        · rw [if_pos ⟨by omega, k4, rfl⟩]; exact scan21d A n c K T W L w r hc hn (by omega) (eqt k2) (by omega) (eqt k4) hw
      · rw [if_neg (fun h => k4 h.2.1)]; exact scan21b A n c K T W L w r hc hn (by omega) (eqt k2) (by omega) (eqf k4)
  rw [if_neg k2]
  by_cases k3 : K 0 = 20
  · rw [if_pos k3]
    by_cases h1 : n = 1
    · subst h1; rw [if_neg (by omega)]; exact scan20a A c K T W L w r hc hn (by omega) (eqt k3) trivial
    · by_cases k4 : K 1 = 18
      · cases hw : wsB W
        · rw [if_neg (by simp)]; exact scan20c A n c K T W L w r hc hn (by omega) (eqt k3) (by omega) (eqt k4) hw
        · rw [if_pos ⟨by omega, k4, rfl⟩]; exact scan20d A n c K T W L w r hc hn (by omega) (eqt k3) (by omega) (eqt k4) hw
      · rw [if_neg (fun h => k4 h.2.1)]; exact scan20b A n c K T W L w r hc hn (by omega) (eqt k3) (by omega) (eqf k4)
  · rw [if_neg k3]; exact scan_none A n c K T W L w r hc hn (by omega) (eqf k1) (eqf k2) (eqf k3)
set_option maxRecDepth 100000 in
theorem zzScan (A : Option Addr) (n c : Nat) (K : Nat → Int) (T : Nat → ByteArray) (W L : Nat → Int) (w : World) (r : TR w A n (tc K T W L)) (hc : n ≤ c) (hn : c ≤ 16384) :
    Calls Try.prog 14 #[.slice A n c] w (ScanP n c (cmpOf n K W) K T W L w) := by
  have R := Lib.hid r
  clear r
  generalize hm : cmpOf n K W = m
  have HM := Lib.hid hm
  clear hm
  go_enter Try.func14, Try.ntmps14
  go_wp2_with fail
  refine (scan_any A n c K T W L _ R.out hc hn).mono ?_
  rw [HM.out]
  rintro e w1 ⟨A', rfl, ht, hb⟩
  have HT := Lib.hid ht
  clear ht
  go_wp2
  go_ret2
  exact ⟨A', rfl, HT.out, hb⟩
def isCmp (k : Int) : Bool := k == 18 || k == 21 || k == 20
theorem isCmp_any (k : Int) (w : World) : Calls Try.prog 15 #[.int .u8 k] w fun e w' => e = .returned (.bool (isCmp k)) ∧ w = w' := by
  unfold isCmp
  cases h1 : (k == 18)
  · cases h2 : (k == 21)
    · go_enter Try.func15, Try.ntmps15
      go_wp2
      go_ret
      exact ⟨by simp, rfl⟩
    · go_enter Try.func15, Try.ntmps15
      go_wp2
      go_ret
      exact ⟨by simp, rfl⟩
  · go_enter Try.func15, Try.ntmps15
    go_wp2
    go_ret
    exact ⟨by simp, rfl⟩

theorem width0 (w : World) : Calls Try.prog 16 #[.int .u8 0] w fun e w' => e = .returned (.int .i64 0) ∧ w = w' := by
  go_enter Try.func16, Try.ntmps16
  go_wp2
  go_ret
  exact ⟨rfl, rfl⟩
theorem width1 (w : World) : Calls Try.prog 16 #[.int .u8 1] w fun e w' => e = .returned (.int .i64 1) ∧ w = w' := by
  go_enter Try.func16, Try.ntmps16
  go_wp2
  go_ret
  exact ⟨rfl, rfl⟩
theorem width2 (w : World) : Calls Try.prog 16 #[.int .u8 2] w fun e w' => e = .returned (.int .i64 1) ∧ w = w' := by
  go_enter Try.func16, Try.ntmps16
  go_wp2
  go_ret
  exact ⟨rfl, rfl⟩
theorem width3 (w : World) : Calls Try.prog 16 #[.int .u8 3] w fun e w' => e = .returned (.int .i64 2) ∧ w = w' := by
  go_enter Try.func16, Try.ntmps16
  go_wp2
  go_ret
  exact ⟨rfl, rfl⟩
theorem width4 (w : World) : Calls Try.prog 16 #[.int .u8 4] w fun e w' => e = .returned (.int .i64 1) ∧ w = w' := by
  go_enter Try.func16, Try.ntmps16
  go_wp2
  go_ret
  exact ⟨rfl, rfl⟩
theorem width5 (w : World) : Calls Try.prog 16 #[.int .u8 5] w fun e w' => e = .returned (.int .i64 2) ∧ w = w' := by
  go_enter Try.func16, Try.ntmps16
  go_wp2
  go_ret
  exact ⟨rfl, rfl⟩
theorem kind1 (w : World) : Calls Try.prog 26 #[.int .u8 1] w fun e w' => e = .returned (.int .u8 18) ∧ w = w' := by
  go_enter Try.func26, Try.ntmps26
  go_wp2
  go_ret
  exact ⟨rfl, rfl⟩
theorem kind2 (w : World) : Calls Try.prog 26 #[.int .u8 2] w fun e w' => e = .returned (.int .u8 21) ∧ w = w' := by
  go_enter Try.func26, Try.ntmps26
  go_wp2
  go_ret
  exact ⟨rfl, rfl⟩
theorem kind3 (w : World) : Calls Try.prog 26 #[.int .u8 3] w fun e w' => e = .returned (.int .u8 21) ∧ w = w' := by
  go_enter Try.func26, Try.ntmps26
  go_wp2
  go_ret
  exact ⟨rfl, rfl⟩
theorem kind4 (w : World) : Calls Try.prog 26 #[.int .u8 4] w fun e w' => e = .returned (.int .u8 20) ∧ w = w' := by
  go_enter Try.func26, Try.ntmps26
  go_wp2
  go_ret
  exact ⟨rfl, rfl⟩
theorem kind5 (w : World) : Calls Try.prog 26 #[.int .u8 5] w fun e w' => e = .returned (.int .u8 20) ∧ w = w' := by
  go_enter Try.func26, Try.ntmps26
  go_wp2
  go_ret
  exact ⟨rfl, rfl⟩
set_option maxRecDepth 100000 in
theorem op0 (A : Option Addr) (n c : Nat) (w : World) : Calls Try.prog 17 #[.slice A n c, .int .i64 0, .int .u8 0] w fun e w' => e = .returned (.bool true) ∧ Below w.heap.size w w' := by
  go_enter Try.func17, Try.ntmps17
  go_wp2_with (go_at_call 16; refine (width0 _).mono ?_; rintro e w' ⟨rfl, rfl⟩)
  go_ret
  exact ⟨rfl, Below.refl _ _⟩
set_option maxRecDepth 100000 in
set_option maxHeartbeats 1000000 in
theorem op1 (A : Option Addr) (n c : Nat) (K : Nat → Int) (T : Nat → ByteArray) (W L : Nat → Int) (w : World) (r : ZR w A n K T W L) (hn : n ≤ 16384) (h0 : 0 < n) (k0 : (K 0 != 18) = false) :
    Calls Try.prog 17 #[.slice A n c, .int .i64 0, .int .u8 1] w fun e w' => e = .returned (.bool true) ∧ Below w.heap.size w w' := by
  obtain ⟨b, o, rfl, hb, hf⟩ := r h0
  obtain ⟨x0, x1, x2, x3⟩ := hf 0 h0
  rw [show o + 0 * 4 = o by omega] at x0 x2
  clear hf r
  have q1 : (0 : Int) < (n : Int) := by omega
  go_enter Try.func17, Try.ntmps17
  go_wp2_with (go_at_call 16; refine (width1 _).mono ?_; rintro e w' ⟨rfl, rfl⟩)
  go_quiet ((go_at_call 26; exact quiet_left (kind1 _)))
  go_wp2
  go_ret
  exact ⟨rfl, by first | exact below_drewN (Below.refl _ _) _ | exact below_drewN (below_drewN (Below.refl _ _) _) _⟩
set_option maxRecDepth 100000 in
set_option maxHeartbeats 1000000 in
theorem op2 (A : Option Addr) (n c : Nat) (K : Nat → Int) (T : Nat → ByteArray) (W L : Nat → Int) (w : World) (r : ZR w A n K T W L) (hn : n ≤ 16384) (h0 : 0 < n) (k0 : (K 0 != 21) = false) :
    Calls Try.prog 17 #[.slice A n c, .int .i64 0, .int .u8 2] w fun e w' => e = .returned (.bool true) ∧ Below w.heap.size w w' := by
  obtain ⟨b, o, rfl, hb, hf⟩ := r h0
  obtain ⟨x0, x1, x2, x3⟩ := hf 0 h0
  rw [show o + 0 * 4 = o by omega] at x0 x2
  clear hf r
  have q1 : (0 : Int) < (n : Int) := by omega
  go_enter Try.func17, Try.ntmps17
  go_wp2_with (go_at_call 16; refine (width2 _).mono ?_; rintro e w' ⟨rfl, rfl⟩)
  go_quiet ((go_at_call 26; exact quiet_left (kind2 _)))
  go_wp2
  go_ret
  exact ⟨rfl, by first | exact below_drewN (Below.refl _ _) _ | exact below_drewN (below_drewN (Below.refl _ _) _) _⟩
set_option maxRecDepth 100000 in
set_option maxHeartbeats 1000000 in
theorem op3 (A : Option Addr) (n c : Nat) (K : Nat → Int) (T : Nat → ByteArray) (W L : Nat → Int) (w : World) (r : ZR w A n K T W L) (hn : n ≤ 16384) (h0 : 0 < n) (k0 : (K 0 != 21) = false) (n2 : 2 ≤ n) (k1 : (K 1 != 18) = false) (ws : (bits .or .u8 (bits .and .u8 (W 0) 2) (bits .and .u8 (W 1) 1) != 0) = false) :
    Calls Try.prog 17 #[.slice A n c, .int .i64 0, .int .u8 3] w fun e w' => e = .returned (.bool true) ∧ Below w.heap.size w w' := by
  obtain ⟨b, o, rfl, hb, hf⟩ := r h0
  obtain ⟨x0, x1, x2, x3⟩ := hf 0 h0
  rw [show o + 0 * 4 = o by omega] at x0 x2
  obtain ⟨x4, x5, x6, x7⟩ := hf 1 (by omega)
  rw [show o + 1 * 4 = o + 4 by omega] at x4 x6
  have q2 : (1 : Int) < (n : Int) := by omega
  clear hf r
  have q1 : (0 : Int) < (n : Int) := by omega
  go_enter Try.func17, Try.ntmps17
  go_wp2_with (go_at_call 16; refine (width3 _).mono ?_; rintro e w' ⟨rfl, rfl⟩)
  go_quiet ((go_at_call 26; exact quiet_left (kind3 _)))
  go_wp2
  go_quiet (fail)
  go_wp2
  go_ret
  exact ⟨rfl, by first | exact below_drewN (Below.refl _ _) _ | exact below_drewN (below_drewN (Below.refl _ _) _) _⟩
set_option maxRecDepth 100000 in
set_option maxHeartbeats 1000000 in
theorem op4 (A : Option Addr) (n c : Nat) (K : Nat → Int) (T : Nat → ByteArray) (W L : Nat → Int) (w : World) (r : ZR w A n K T W L) (hn : n ≤ 16384) (h0 : 0 < n) (k0 : (K 0 != 20) = false) :
    Calls Try.prog 17 #[.slice A n c, .int .i64 0, .int .u8 4] w fun e w' => e = .returned (.bool true) ∧ Below w.heap.size w w' := by
  obtain ⟨b, o, rfl, hb, hf⟩ := r h0
  obtain ⟨x0, x1, x2, x3⟩ := hf 0 h0
  rw [show o + 0 * 4 = o by omega] at x0 x2
  clear hf r
  have q1 : (0 : Int) < (n : Int) := by omega
  go_enter Try.func17, Try.ntmps17
  go_wp2_with (go_at_call 16; refine (width4 _).mono ?_; rintro e w' ⟨rfl, rfl⟩)
  go_quiet ((go_at_call 26; exact quiet_left (kind4 _)))
  go_wp2
  go_ret
  exact ⟨rfl, by first | exact below_drewN (Below.refl _ _) _ | exact below_drewN (below_drewN (Below.refl _ _) _) _⟩
set_option maxRecDepth 100000 in
set_option maxHeartbeats 1000000 in
theorem op5 (A : Option Addr) (n c : Nat) (K : Nat → Int) (T : Nat → ByteArray) (W L : Nat → Int) (w : World) (r : ZR w A n K T W L) (hn : n ≤ 16384) (h0 : 0 < n) (k0 : (K 0 != 20) = false) (n2 : 2 ≤ n) (k1 : (K 1 != 18) = false) (ws : (bits .or .u8 (bits .and .u8 (W 0) 2) (bits .and .u8 (W 1) 1) != 0) = false) :
    Calls Try.prog 17 #[.slice A n c, .int .i64 0, .int .u8 5] w fun e w' => e = .returned (.bool true) ∧ Below w.heap.size w w' := by
  obtain ⟨b, o, rfl, hb, hf⟩ := r h0
  obtain ⟨x0, x1, x2, x3⟩ := hf 0 h0
  rw [show o + 0 * 4 = o by omega] at x0 x2
  obtain ⟨x4, x5, x6, x7⟩ := hf 1 (by omega)
  rw [show o + 1 * 4 = o + 4 by omega] at x4 x6
  have q2 : (1 : Int) < (n : Int) := by omega
  clear hf r
  have q1 : (0 : Int) < (n : Int) := by omega
  go_enter Try.func17, Try.ntmps17
  go_wp2_with (go_at_call 16; refine (width5 _).mono ?_; rintro e w' ⟨rfl, rfl⟩)
  go_quiet ((go_at_call 26; exact quiet_left (kind5 _)))
  go_wp2
  go_quiet (fail)
  go_wp2
  go_ret
  exact ⟨rfl, by first | exact below_drewN (Below.refl _ _) _ | exact below_drewN (below_drewN (Below.refl _ _) _) _⟩
set_option maxRecDepth 100000 in
theorem same_any (t : ByteArray) (l k ws : Int) (w : World) : Calls Try.prog 18 #[.agg #[.pointer none, .string t, .int .i32 l, .int .u32 0, .int .u16 0, .int .u8 k, .int .u8 ws], .agg #[.int .u8 k, .string t, .int .u8 ws, .int .i32 l]] w fun e w' => e = .returned (.bool true) ∧ Below w.heap.size w w' := by
  go_enter Try.func18, Try.ntmps18
  go_wp2
  go_ret
  exact ⟨by simp, ((Below.refl _ _).alloc (Nat.le_refl _) _).alloc (by simp) _⟩
end Go.Proofs.Ytceafaddhbabhaa.ZT


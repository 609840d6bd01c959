/- Tokens of n011_189's features. -/
import Derived.Test.YtpbdfdmocaojgaaMc
namespace Go.Proofs.Ytpbdfdmocaojgaa.MA
open Go.RowKit Go.Proofs.Ytpbdfdmocaojgaa.TB
set_option linter.unusedVariables false
/-- A slice of bytes. -/
def BR (w : World) (A : Option Addr) (n : Nat) (z : Nat → Int) : Prop :=
  0 < n → ∃ b o, A = some ⟨b, o, none⟩ ∧ b < w.heap.size ∧ ∀ i, i < n → w.cell? ⟨b, o + i, none⟩ = some (.int .u8 (z i))
theorem BR.below {w w' : World} {A : Option Addr} {n : Nat} {z : Nat → Int} (h : BR w A n z) (hb : Below w.heap.size w w') : BR w' A n z := by
  intro hn
  obtain ⟨b, o, e, hl, hc⟩ := h hn
  exact ⟨b, o, e, Nat.lt_of_lt_of_le hl hb.size, fun i hi => by rw [hb.cell hl]; exact hc i hi⟩
/-- The kind of a byte's class. -/
def kdf (x : Int) : Int := if x % 7 = 0 then 29 else if x % 7 = 1 then 9 else if x % 7 = 2 then 30 else if x % 7 = 3 then 26 else if x % 7 = 4 then 24 else if x % 7 = 5 then 38 else 10
set_option maxRecDepth 100000 in
theorem kindOf (x : Int) (w : World) (h0 : 0 ≤ x) (h1 : x ≤ 255) : Calls Try.prog 15 #[.int .u8 x] w fun e w' => e = .returned (.int .u8 (kdf x)) ∧ w = w' := by
  rcases (by omega : x % 7 = 0 ∨ x % 7 = 1 ∨ x % 7 = 2 ∨ x % 7 = 3 ∨ x % 7 = 4 ∨ x % 7 = 5 ∨ x % 7 = 6) with h | h | h | h | h | h | h
  · have ek : kdf x = 29 := by unfold kdf; simp [h]
    rw [ek]
    have b0 : (x % 7 == 0) = true := by rw [h]; rfl
    have b1 : (x % 7 == 1) = false := by rw [h]; rfl
    have b2 : (x % 7 == 2) = false := by rw [h]; rfl
    have b3 : (x % 7 == 3) = false := by rw [h]; rfl
    have b4 : (x % 7 == 4) = false := by rw [h]; rfl
    have b5 : (x % 7 == 5) = false := by rw [h]; rfl
    clear ek h
    go_enter Try.func15, Try.ntmps15
    go_wp2
    go_ret
    exact ⟨rfl, rfl⟩
  · have ek : kdf x = 9 := by unfold kdf; simp [h]
    rw [ek]
    have b0 : (x % 7 == 0) = false := by rw [h]; rfl
    have b1 : (x % 7 == 1) = true := by rw [h]; rfl
    have b2 : (x % 7 == 2) = false := by rw [h]; rfl
    have b3 : (x % 7 == 3) = false := by rw [h]; rfl
    have b4 : (x % 7 == 4) = false := by rw [h]; rfl
    have b5 : (x % 7 == 5) = false := by rw [h]; rfl
    clear ek h
    go_enter Try.func15, Try.ntmps15
    go_wp2
    go_ret
    exact ⟨rfl, rfl⟩
  · have ek : kdf x = 30 := by unfold kdf; simp [h]
    rw [ek]
    have b0 : (x % 7 == 0) = false := by rw [h]; rfl
    have b1 : (x % 7 == 1) = false := by rw [h]; rfl
    have b2 : (x % 7 == 2) = true := by rw [h]; rfl
    have b3 : (x % 7 == 3) = false := by rw [h]; rfl
    have b4 : (x % 7 == 4) = false := by rw [h]; rfl
    have b5 : (x % 7 == 5) = false := by rw [h]; rfl
    clear ek h
    go_enter Try.func15, Try.ntmps15
    go_wp2
    go_ret
    exact ⟨rfl, rfl⟩
  · have ek : kdf x = 26 := by unfold kdf; simp [h]
    rw [ek]
    have b0 : (x % 7 == 0) = false := by rw [h]; rfl
    have b1 : (x % 7 == 1) = false := by rw [h]; rfl
    have b2 : (x % 7 == 2) = false := by rw [h]; rfl
    have b3 : (x % 7 == 3) = true := by rw [h]; rfl
    have b4 : (x % 7 == 4) = false := by rw [h]; rfl
    have b5 : (x % 7 == 5) = false := by rw [h]; rfl
    clear ek h
    go_enter Try.func15, Try.ntmps15
    go_wp2
    go_ret
    exact ⟨rfl, rfl⟩
  · have ek : kdf x = 24 := by unfold kdf; simp [h]
    rw [ek]
    have b0 : (x % 7 == 0) = false := by rw [h]; rfl
    have b1 : (x % 7 == 1) = false := by rw [h]; rfl
    have b2 : (x % 7 == 2) = false := by rw [h]; rfl
    have b3 : (x % 7 == 3) = false := by rw [h]; rfl
    have b4 : (x % 7 == 4) = true := by rw [h]; rfl
    have b5 : (x % 7 == 5) = false := by rw [h]; rfl
    clear ek h
    go_enter Try.func15, Try.ntmps15
    go_wp2
    go_ret
    exact ⟨rfl, rfl⟩
  · have ek : kdf x = 38 := by unfold kdf; simp [h]
    rw [ek]
    have b0 : (x % 7 == 0) = false := by rw [h]; rfl
    have b1 : (x % 7 == 1) = false := by rw [h]; rfl
    have b2 : (x % 7 == 2) = false := by rw [h]; rfl
    have b3 : (x % 7 == 3) = false := by rw [h]; rfl
    have b4 : (x % 7 == 4) = false := by rw [h]; rfl
    have b5 : (x % 7 == 5) = true := by rw [h]; rfl
    clear ek h
    go_enter Try.func15, Try.ntmps15
    go_wp2
    go_ret
    exact ⟨rfl, rfl⟩
  · have ek : kdf x = 10 := by unfold kdf; simp [h]
    rw [ek]
    have b0 : (x % 7 == 0) = false := by rw [h]; rfl
    have b1 : (x % 7 == 1) = false := by rw [h]; rfl
    have b2 : (x % 7 == 2) = false := by rw [h]; rfl
    have b3 : (x % 7 == 3) = false := by rw [h]; rfl
    have b4 : (x % 7 == 4) = false := by rw [h]; rfl
    have b5 : (x % 7 == 5) = false := by rw [h]; rfl
    clear ek h
    go_enter Try.func15, Try.ntmps15
    go_wp2
    go_ret
    exact ⟨rfl, rfl⟩
def flg (x : Int) : Int := (if bits .and .u8 x 1 = 0 then 0 else 1) + (if bits .and .u8 x 2 = 0 then 0 else 2)
theorem flg4 (x : Int) : flg x = 0 ∨ flg x = 1 ∨ flg x = 2 ∨ flg x = 3 := by unfold flg; split <;> split <;> simp
set_option maxRecDepth 100000 in
theorem flagsOf (x : Int) (w : World) : Calls Try.prog 16 #[.int .u8 x] w fun e w' => e = .returned (.int .u8 (flg x)) ∧ w = w' := by
  by_cases h1 : bits .and .u8 x 1 = 0
  · by_cases h2 : bits .and .u8 x 2 = 0
    · have e1 : flg x = 0 := by unfold flg; rw [if_pos h1, if_pos h2]; rfl
      rw [e1]
      have b1 : (bits .and .u8 x 1 != 0) = false := by rw [h1]; rfl
      have b2 : (bits .and .u8 x 2 != 0) = false := by rw [h2]; rfl
      clear h1 h2 e1
      go_enter Try.func16, Try.ntmps16
      go_wp2
      go_ret
      exact ⟨rfl, rfl⟩
    · have e1 : flg x = 2 := by unfold flg; rw [if_pos h1, if_neg h2]; rfl
      rw [e1]
      have b1 : (bits .and .u8 x 1 != 0) = false := by rw [h1]; rfl
      have b2 : (bits .and .u8 x 2 != 0) = true := by rw [bne_iff_ne]; exact h2
      clear h1 h2 e1
      go_enter Try.func16, Try.ntmps16
      go_wp2
      go_ret
      exact ⟨rfl, rfl⟩
  · by_cases h2 : bits .and .u8 x 2 = 0
    · have e1 : flg x = 1 := by unfold flg; rw [if_neg h1, if_pos h2]; rfl
      rw [e1]
      have b1 : (bits .and .u8 x 1 != 0) = true := by rw [bne_iff_ne]; exact h1
      have b2 : (bits .and .u8 x 2 != 0) = false := by rw [h2]; rfl
      clear h1 h2 e1
      go_enter Try.func16, Try.ntmps16
      go_wp2
      go_ret
      exact ⟨rfl, rfl⟩
    · have e1 : flg x = 3 := by unfold flg; rw [if_neg h1, if_neg h2]; rfl
      rw [e1]
      have b1 : (bits .and .u8 x 1 != 0) = true := by rw [bne_iff_ne]; exact h1
      have b2 : (bits .and .u8 x 2 != 0) = true := by rw [bne_iff_ne]; exact h2
      clear h1 h2 e1
      go_enter Try.func16, Try.ntmps16
      go_wp2
      go_ret
      exact ⟨rfl, rfl⟩
def txa (m : Nat) (T : Nat → ByteArray) (i : Nat) : ByteArray := if i < m then T i else ByteArray.empty
set_option maxRecDepth 100000 in
theorem textAt (B : Option Addr) (m d : Nat) (T : Nat → ByteArray) (i : Nat) (w : World) (r : SR w B m T) (hm : m ≤ 131072) (hi : i ≤ 1048576) :
    Calls Try.prog 14 #[.slice B m d, .int .i64 i] w fun e w' => e = .returned (.string (txa m T i)) ∧ w = w' := by
  by_cases h : i < m
  · obtain ⟨b, o, rfl, hb, hc⟩ := r (by omega)
    have x1 := hc i h
    have e := Lib.hid (show txa m T i = T i from by unfold txa; rw [if_pos h])
    have q1 : (0 : Int) ≤ (i : Int) := by omega
    have q2 : (i : Int) < (m : Int) := by omega
    clear hc r
    go_enter Try.func14, Try.ntmps14
    go_wp2
    go_ret
    exact ⟨by rw [e.out]; rfl, rfl⟩
  · have e := Lib.hid (show txa m T i = ByteArray.empty from by unfold txa; rw [if_neg h])
    clear r
    go_enter Try.func14, Try.ntmps14
    go_wp2
    go_ret
    exact ⟨by rw [e.out]; rfl, rfl⟩
def bya (p : Nat) (z : Nat → Int) (i : Nat) : Int := if i < p then z i else 0
set_option maxRecDepth 100000 in
theorem byteAt (D : Option Addr) (p c : Nat) (z : Nat → Int) (i : Nat) (w : World) (r : BR w D p z) (hp : p ≤ 1048576) (hi : i ≤ 1048576) :
    Calls Try.prog 17 #[.slice D p c, .int .i64 i] w fun e w' => e = .returned (.int .u8 (bya p z i)) ∧ w = w' := by
  by_cases h : i < p
  · obtain ⟨b, o, rfl, hb, hc⟩ := r (by omega)
    have x1 := hc i h
    have e := Lib.hid (show bya p z i = z i from by unfold bya; rw [if_pos h])
    have q1 : (0 : Int) ≤ (i : Int) := by omega
    have q2 : (i : Int) < (p : Int) := by omega
    clear hc r
    go_enter Try.func17, Try.ntmps17
    go_wp2
    go_ret
    exact ⟨by rw [e.out]; rfl, rfl⟩
  · have e := Lib.hid (show bya p z i = 0 from by unfold bya; rw [if_neg h])
    clear r
    go_enter Try.func17, Try.ntmps17
    go_wp2
    go_ret
    exact ⟨by rw [e.out]; rfl, rfl⟩
end Go.Proofs.Ytpbdfdmocaojgaa.MA

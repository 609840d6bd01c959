/- FnRemoveColorInterpolationIgnoresCase: what removeColorInterpolation answers. -/
import Derived.Test.YtbdmbknehfjoaaaDoorKc
import Derived.Lib.Fold
import Derived.Lib.Case
namespace Go.Proofs.YtbdmbknehfjoaaaDoor.ZT
open Go.RowKit Go.Proofs.YtbdmbknehfjoaaaDoor.TB
set_option linter.unusedVariables false
def lowS (s : ByteArray) : ByteArray := ⟨(Lib.toLowerA s.data.toList).toArray⟩
def spc (l : List UInt8) : Option Int :=
  if (l == [97, 57, 56, 45, 114, 103, 98]) = true then some 0 else
  if (l == [100, 105, 115, 112, 108, 97, 121, 45, 112, 51]) = true then some 1 else
  if (l == [104, 115, 108]) = true then some 2 else
  if (l == [104, 119, 98]) = true then some 3 else
  if (l == [108, 97, 98]) = true then some 4 else
  if (l == [108, 99, 104]) = true then some 5 else
  if (l == [111, 107, 108, 97, 98]) = true then some 6 else
  if (l == [111, 107, 108, 99, 104]) = true then some 7 else
  if (l == [112, 114, 111, 112, 104, 111, 116, 111, 45, 114, 103, 98]) = true then some 8 else
  if (l == [114, 101, 99, 50, 48, 50, 48]) = true then some 9 else
  if (l == [115, 114, 103, 98]) = true then some 10 else
  if (l == [115, 114, 103, 98, 45, 108, 105, 110, 101, 97, 114]) = true then some 11 else
  if (l == [120, 121, 122]) = true then some 12 else
  if (l == [120, 121, 122, 45, 100, 53, 48]) = true then some 13 else
  if (l == [120, 121, 122, 45, 100, 54, 53]) = true then some 14 else none
def mth (l : List UInt8) : Option Int :=
  if (l == [115, 104, 111, 114, 116, 101, 114]) = true then some 0 else
  if (l == [108, 111, 110, 103, 101, 114]) = true then some 1 else
  if (l == [105, 110, 99, 114, 101, 97, 115, 105, 110, 103]) = true then some 2 else
  if (l == [100, 101, 99, 114, 101, 97, 115, 105, 110, 103]) = true then some 3 else none
def pol (c : Int) : Bool := c == 2 || (c == 3 || (c == 5 || c == 7))
def hit (K : Nat → Int) (T : Nat → ByteArray) (i : Nat) : Bool := K i == 29 && (Lib.equalFold (T i).data.toList [105, 110] && K (i + 1) == 29)
/-- Where the hue part stands. -/
def hue (n : Nat) (K : Nat → Int) (T : Nat → ByteArray) (i : Nat) (c : Int) : Bool := pol c && (decide (i + 3 < n) && ((K (i + 3) == 29 && Lib.equalFold (T (i + 3)).data.toList [104, 117, 101]) && K (i + 2) == 29))
def fin (n : Nat) (K : Nat → Int) (T : Nat → ByteArray) (i : Nat) : Option (Nat × Nat × Int × Int) :=
  match spc (lowS (T (i + 1))).toList with
  | none => none
  | some c => if hue n K T i c = true then (match mth (lowS (T (i + 2))).toList with | none => none | some m => some (i, 4, c, m)) else some (i, 2, c, 0)
def fh (h : Nat → Bool) : Nat → Nat → Option Nat
  | 0, _ => none
  | f + 1, i => if h i = true then some i else fh h f (i + 1)
theorem fh_skip (h : Nat → Bool) (n : Nat) : ∀ i, i ≤ n → (∀ j, j < i → h j = false) → fh h n 0 = fh h (n - i) i := by
  intro i
  induction i with
  | zero => intro _ _; rfl
  | succ i ih =>
    intro hi hj
    rw [ih (by omega) (fun j q => hj j (by omega)), show n - i = (n - (i + 1)) + 1 by omega]
    show (if h i = true then some i else fh h (n - (i + 1)) (i + 1)) = _
    rw [hj i (by omega), if_neg (by simp)]
def rc (n : Nat) (K : Nat → Int) (T : Nat → ByteArray) : Option (Nat × Nat × Int × Int) :=
  match fh (hit K T) (n - 1) 0 with
  | none => none
  | some i => fin n K T i
theorem rc_end {n : Nat} {K : Nat → Int} {T : Nat → ByteArray} (h : ∀ j, j + 1 < n → hit K T j = false) : rc n K T = none := by
  unfold rc
  rw [fh_skip (hit K T) (n - 1) (n - 1) (Nat.le_refl _) (fun j hj => h j (by omega)), Nat.sub_self]
  rfl
theorem rc_hit {n i : Nat} {K : Nat → Int} {T : Nat → ByteArray} (hi : i + 1 < n) (h : ∀ j, j < i → hit K T j = false) (hh : hit K T i = true) : rc n K T = fin n K T i := by
  unfold rc
  rw [fh_skip (hit K T) (n - 1) i (by omega) h, show n - 1 - i = (n - 1 - i - 1) + 1 by omega]
  show (match (if hit K T i = true then some i else fh (hit K T) (n - 1 - i - 1) (i + 1)) with | none => none | some i => fin n K T i) = _
  rw [hh, if_pos rfl]
def skp (i d j : Nat) : Nat := if j < i then j else j + d
def wsR (Wf : Nat → Int) (i d m j : Nat) : Int :=
  let v := if j = 0 then bits .and .u8 (Wf (skp i d j)) 254 else Wf (skp i d j)
  if j + 1 = m then bits .and .u8 v 253 else v
/-- What removeColorInterpolation answers. -/
def RcP (n : Nat) (K : Nat → Int) (T : Nat → ByteArray) (Wf : Nat → Int) (w : World) (e : Ending) (w' : World) : Prop :=
  Below w.heap.size w w' ∧ ((rc n K T = none ∧ e = .returned (.tuple #[.slice none 0 0, .int .u8 0, .int .u8 0, .bool false])) ∨
    ∃ i d c m A' cp, rc n K T = some (i, d, c, m) ∧ i + d ≤ n ∧ e = .returned (.tuple #[.slice (some A') (n - d) cp, .int .u8 c, .int .u8 m, .bool true]) ∧
      TR w' (some A') (n - d) (tc (fun j => K (skp i d j)) (fun j => T (skp i d j)) (wsR Wf i d (n - d)) (fun _ => 0)))
end Go.Proofs.YtbdmbknehfjoaaaDoor.ZT

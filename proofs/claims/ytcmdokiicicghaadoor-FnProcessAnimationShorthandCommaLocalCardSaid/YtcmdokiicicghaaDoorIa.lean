/- The animation shorthand: flags, what a token does to them, and the state of a round. -/
import Derived.Test.YtcmdokiicicghaaDoorHd
namespace Go.Proofs.YtcmdokiicicghaaDoor.WA
open Go Go.RowKit Go.Lib Go.Proofs.YtcmdokiicicghaaDoor.MP Go.Proofs.YtcmdokiicicghaaDoor.SY Go.Proofs.YtcmdokiicicghaaDoor.LO Go.Proofs.YtcmdokiicicghaaDoor.TB Go.Proofs.YtcmdokiicicghaaDoor.OW
set_option linter.unusedVariables false
/-- Six flags. -/
structure Fl where
  b0 : Bool
  b1 : Bool
  b2 : Bool
  b3 : Bool
  b4 : Bool
  b5 : Bool
def Fl.z : Fl := ⟨false, false, false, false, false, false⟩
def Fl.cells (f : Fl) : Array Value := #[.bool f.b0, .bool f.b1, .bool f.b2, .bool f.b3, .bool f.b4, .bool f.b5]
def timW : List (List UInt8) := [[108, 105, 110, 101, 97, 114], [101, 97, 115, 101], [101, 97, 115, 101, 45, 105, 110], [101, 97, 115, 101, 45, 111, 117, 116], [101, 97, 115, 101, 45, 105, 110, 45, 111, 117, 116], [115, 116, 101, 112, 45, 115, 116, 97, 114, 116], [115, 116, 101, 112, 45, 101, 110, 100]]
def infW : List (List UInt8) := [[105, 110, 102, 105, 110, 105, 116, 101]]
def dirW : List (List UInt8) := [[110, 111, 114, 109, 97, 108], [114, 101, 118, 101, 114, 115, 101], [97, 108, 116, 101, 114, 110, 97, 116, 101], [97, 108, 116, 101, 114, 110, 97, 116, 101, 45, 114, 101, 118, 101, 114, 115, 101]]
def filW : List (List UInt8) := [[110, 111, 110, 101], [102, 111, 114, 119, 97, 114, 100, 115], [98, 97, 99, 107, 119, 97, 114, 100, 115], [98, 111, 116, 104]]
def plaW : List (List UInt8) := [[114, 117, 110, 110, 105, 110, 103], [112, 97, 117, 115, 101, 100]]
def isIn (W : List (List UInt8)) (s : ByteArray) : Bool := decide (toLowerD s.data.toList ∈ W)
/-- What a token does to the flags, and whether it is a name. -/
def stp (k : Int) (s : ByteArray) (f : Fl) : Fl × Bool :=
  if k = 10 then (Fl.z, false)
  else if k = 30 then ({ f with b1 := true }, false)
  else if k = 29 then
    if f.b0 = false ∧ isIn timW s = true then ({ f with b0 := true }, false)
    else if f.b1 = false ∧ isIn infW s = true then ({ f with b1 := true }, false)
    else if f.b2 = false ∧ isIn dirW s = true then ({ f with b2 := true }, false)
    else if f.b3 = false ∧ isIn filW s = true then ({ f with b3 := true }, false)
    else if f.b4 = false ∧ isIn plaW s = true then ({ f with b4 := true }, false)
    else if f.b5 = false then ({ f with b5 := true }, true)
    else (f, false)
  else if k = 36 then (if f.b5 = false then ({ f with b5 := true }, true) else (f, false))
  else (f, false)
/-- The flags ahead of token i, and whether it becomes a symbol. -/
def flg (K : Nat → Int) (T : Nat → ByteArray) : Nat → Fl
  | 0 => Fl.z
  | i + 1 => (stp (K i) (T i) (flg K T i)).1
def hit (ml : Bool) (K : Nat → Int) (T : Nat → ByteArray) (i : Nat) : Bool := (stp (K i) (T i) (flg K T i)).2 && cv ml (K i) (T i)
/-- Behind a comma the flags are as at the start. -/
theorem flg_shift (K : Nat → Int) (T : Nat → ByteArray) (a : Nat) (h : flg K T a = Fl.z) : ∀ i, flg (fun j => K (a + j)) (fun j => T (a + j)) i = flg K T (a + i)
  | 0 => h.symm
  | i + 1 => by
    show (stp (K (a + i)) (T (a + i)) (flg (fun j => K (a + j)) (fun j => T (a + j)) i)).1 = (stp (K (a + i)) (T (a + i)) (flg K T (a + i))).1
    rw [flg_shift K T a h i]
theorem hit_shift (ml : Bool) (K : Nat → Int) (T : Nat → ByteArray) (a : Nat) (h : flg K T a = Fl.z) (i : Nat) : hit ml (fun j => K (a + j)) (fun j => T (a + j)) i = hit ml K T (a + i) := by
  unfold hit
  rw [flg_shift K T a h i]
theorem flg_comma (K : Nat → Int) (T : Nat → ByteArray) (i : Nat) (h : K i = 10) : flg K T (i + 1) = Fl.z := by
  show (stp (K i) (T i) (flg K T i)).1 = Fl.z
  simp [stp, h]
theorem hit_comma (ml : Bool) (K : Nat → Int) (T : Nat → ByteArray) (i : Nat) (h : K i = 10) : hit ml K T i = false := by simp [hit, stp, h]
abbrev TF : TypeId := 112
/-- The state in the midst of a round. -/
structure RI (W0 w wx : World) (tb n fb tk pb mb : Nat) (ml : Bool) (F : Nat → Nat → Value) (L : List Ent) (f : Fl) (k : Int) (s : ByteArray) : Prop where
  st : St W0 wx pb mb ml L
  tab : Tab wx tb TT 7 n F
  oth : Oth tb w wx
  fl : wx.heap[fb]? = some (.cells f.cells TF (0, 0))
  cp : wx.heap[tk]? = some (.cells #[.pointer none, .string s, .int .i32 0, .int .u32 0, .int .u16 0, .int .u8 k, .int .u8 0] TT (0, 0))
  hfb : W0.heap.size ≤ fb ∧ w.heap.size ≤ fb
end Go.Proofs.YtcmdokiicicghaaDoor.WA

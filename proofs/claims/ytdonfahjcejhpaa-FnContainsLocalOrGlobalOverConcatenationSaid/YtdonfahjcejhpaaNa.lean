/- Nested inputs of n011_210: what memory holds of a list of compound selectors; small functions. -/
import Derived.Test.YtdonfahjcejhpaaMd
namespace Go.Proofs.Ytdonfahjcejhpaa.MG
open Go.RowKit Go.Proofs.Ytdonfahjcejhpaa.TB
set_option linter.unusedVariables false
structure ZI where
  c : Int
  t : Int
  a : Int
  n : Nat
  s : Nat → ByteArray
structure ZS where
  wr : Bool
  k : Int
  nm : ByteArray
  n : Nat
  s : Nat → ZI
structure ZC where
  c : Int
  t : Int
  a : Int
  n : Nat
  s : Nat → ZS
def WI (z : ZI) : Prop := 0 ≤ z.c ∧ z.c ≤ 255 ∧ 0 ≤ z.t ∧ z.t ≤ 255 ∧ 0 ≤ z.a ∧ z.a ≤ 255 ∧ z.n ≤ 9223372036854775807
def WS (z : ZS) : Prop := 0 ≤ z.k ∧ z.k ≤ 255 ∧ z.n ≤ 9223372036854775807
def WC (z : ZC) : Prop := 0 ≤ z.c ∧ z.c ≤ 255 ∧ 0 ≤ z.t ∧ z.t ≤ 255 ∧ 0 ≤ z.a ∧ z.a ≤ 255 ∧ z.n ≤ 9223372036854775807
def Sv (w : World) (u : Value) (n : Nat) (S : Nat → ByteArray) : Prop := ∃ A c, u = .slice A n c ∧ Strs w A n S
def Iv (w : World) (u : Value) (n : Nat) (I : Nat → ZI) : Prop := ∃ A c, u = .slice A n c ∧ (0 < n → ∃ b o, A = some ⟨b, o, none⟩ ∧ b < w.heap.size ∧ ∀ i, i < n → ∃ x, w.cell? ⟨b, o + i * 4, none⟩ = some (.int .u8 (I i).c) ∧
  w.cell? ⟨b, o + i * 4 + 1, none⟩ = some (.int .u8 (I i).t) ∧ w.cell? ⟨b, o + i * 4 + 2, none⟩ = some (.int .u8 (I i).a) ∧ w.cell? ⟨b, o + i * 4 + 3, none⟩ = some x ∧ Sv w x (I i).n (I i).s ∧ WI (I i))
def Uv (w : World) (u : Value) (n : Nat) (Z : Nat → ZS) : Prop := ∃ A c, u = .slice A n c ∧ (0 < n → ∃ b o, A = some ⟨b, o, none⟩ ∧ b < w.heap.size ∧ ∀ i, i < n → ∃ x, w.cell? ⟨b, o + i * 4, none⟩ = some (.bool (Z i).wr) ∧
  w.cell? ⟨b, o + i * 4 + 1, none⟩ = some (.int .u8 (Z i).k) ∧ w.cell? ⟨b, o + i * 4 + 2, none⟩ = some (.string (Z i).nm) ∧ w.cell? ⟨b, o + i * 4 + 3, none⟩ = some x ∧ Iv w x (Z i).n (Z i).s ∧ WS (Z i))
def Cv (w : World) (u : Value) (n : Nat) (C : Nat → ZC) : Prop := ∃ A c, u = .slice A n c ∧ (0 < n → ∃ b o, A = some ⟨b, o, none⟩ ∧ b < w.heap.size ∧ ∀ i, i < n → ∃ x, w.cell? ⟨b, o + i * 4, none⟩ = some (.int .u8 (C i).c) ∧
  w.cell? ⟨b, o + i * 4 + 1, none⟩ = some (.int .u8 (C i).t) ∧ w.cell? ⟨b, o + i * 4 + 2, none⟩ = some (.int .u8 (C i).a) ∧ w.cell? ⟨b, o + i * 4 + 3, none⟩ = some x ∧ Uv w x (C i).n (C i).s ∧ WC (C i))
section
variable {w w' : World} {u : Value} {n : Nat}
theorem Sv.below {S : Nat → ByteArray} (h : Sv w u n S) (hb : Below w.heap.size w w') : Sv w' u n S := by
  obtain ⟨A, c, e, h⟩ := h
  exact ⟨A, c, e, h.below hb⟩
theorem Iv.below {I : Nat → ZI} (h : Iv w u n I) (hb : Below w.heap.size w w') : Iv w' u n I := by
  obtain ⟨A, c, e, h⟩ := h
  refine ⟨A, c, e, fun hn => ?_⟩
  obtain ⟨b, o, e1, hl, h⟩ := h hn
  refine ⟨b, o, e1, Nat.lt_of_lt_of_le hl hb.size, fun i hi => ?_⟩
  obtain ⟨x, h0, h1, h2, h3, h4, h5⟩ := h i hi
  exact ⟨x, by rw [hb.cell hl]; exact h0, by rw [hb.cell hl]; exact h1, by rw [hb.cell hl]; exact h2, by rw [hb.cell hl]; exact h3, h4.below hb, h5⟩
theorem Uv.below {Z : Nat → ZS} (h : Uv w u n Z) (hb : Below w.heap.size w w') : Uv w' u n Z := by
  obtain ⟨A, c, e, h⟩ := h
  refine ⟨A, c, e, fun hn => ?_⟩
  obtain ⟨b, o, e1, hl, h⟩ := h hn
  refine ⟨b, o, e1, Nat.lt_of_lt_of_le hl hb.size, fun i hi => ?_⟩
  obtain ⟨x, h0, h1, h2, h3, h4, h5⟩ := h i hi
  exact ⟨x, by rw [hb.cell hl]; exact h0, by rw [hb.cell hl]; exact h1, by rw [hb.cell hl]; exact h2, by rw [hb.cell hl]; exact h3, h4.below hb, h5⟩
theorem Cv.below {C : Nat → ZC} (h : Cv w u n C) (hb : Below w.heap.size w w') : Cv w' u n C := by
  obtain ⟨A, c, e, h⟩ := h
  refine ⟨A, c, e, fun hn => ?_⟩
  obtain ⟨b, o, e1, hl, h⟩ := h hn
  refine ⟨b, o, e1, Nat.lt_of_lt_of_le hl hb.size, fun i hi => ?_⟩
  obtain ⟨x, h0, h1, h2, h3, h4, h5⟩ := h i hi
  exact ⟨x, by rw [hb.cell hl]; exact h0, by rw [hb.cell hl]; exact h1, by rw [hb.cell hl]; exact h2, by rw [hb.cell hl]; exact h3, h4.below hb, h5⟩
end
/-- The bound on lengths. -/
def BI (z : ZI) : Prop := z.n ≤ 1048576
def BS (z : ZS) : Prop := z.n ≤ 1048576 ∧ ∀ k, k < z.n → BI (z.s k)
def BC (z : ZC) : Prop := z.n ≤ 1048576 ∧ ∀ k, k < z.n → BS (z.s k)
/-- The kind of a code. -/
def kd (c : Int) : Int := if c % 6 = 0 then 0 else if c % 6 = 1 then 3 else if c % 6 = 2 then 2 else if c % 6 = 3 then 4 else if c % 6 = 4 then 9 else 1
set_option maxRecDepth 100000 in
theorem kind25 (c : Int) (w : World) (h0 : 0 ≤ c) (h1 : c ≤ 255) : Calls Try.prog 25 #[.int .u8 c] w fun e w' => e = .returned (.int .u8 (kd c)) ∧ w = w' := by
  rcases (by omega : c % 6 = 0 ∨ c % 6 = 1 ∨ c % 6 = 2 ∨ c % 6 = 3 ∨ c % 6 = 4 ∨ c % 6 = 5) with e | e | e | e | e | e
  all_goals
    obtain ⟨kk, hk⟩ : ∃ kk, kd c = kk := ⟨_, rfl⟩
    have E := Lib.hid hk
    have E2 := hk
    unfold kd at E2
    simp [e] at E2
    subst E2
    clear hk
    go_enter Try.func25, Try.ntmps25
    go_wp2
    go_ret
    exact ⟨by rw [E.out]; rfl, rfl⟩
set_option maxRecDepth 100000 in
theorem wrap24 (k : Int) (a : Option Addr) (n c : Nat) (w : World) : Calls Try.prog 24 #[.int .u8 k, .slice a n c] w fun e w' => ∃ g, e = .returned (.agg #[.iface 82 (.pointer (some ⟨g, 0, none⟩)), .int .i32 0, .int .i32 0]) ∧
    Blk w' g 88 #[.slice a n c, .string ⟨#[]⟩, .string ⟨#[]⟩, .int .u8 k] ∧ Below w.heap.size w w' ∧ w.heap.size ≤ g := by
  go_enter Try.func24, Try.ntmps24
  go_wp2
  refine bodyPost_ret (v := .agg #[.iface 82 (.pointer (some ⟨w.heap.size + 1, 0, none⟩)), .int .i32 0, .int .i32 0]) (by simp [results, Try.results24, go_sem]; done) rfl ?_
  exact ⟨w.heap.size + 1, rfl, by simpa using Blk.new (w.alloc (.cells #[.iface 82 (.pointer (some ⟨w.heap.size + 1, 0, none⟩)), .int .i32 0, .int .i32 0] 68)) 88 #[.slice a n c, .string ⟨#[]⟩, .string ⟨#[]⟩, .int .u8 k], by simpa using ((Below.refl w.heap.size w).alloc (Nat.le_refl _) _).alloc (by simp) _, by omega⟩
end Go.Proofs.Ytdonfahjcejhpaa.MG

/- FnRemoveColorInterpolationIgnoresCase: appends of tokens, as steps. -/
import Derived.Test.YtbdmbknehfjoaaaDoorKf
namespace Go.Proofs.YtbdmbknehfjoaaaDoor.ZT
open Go.RowKit Go.Proofs.YtbdmbknehfjoaaaDoor.TB
set_option linter.unusedVariables false
theorem app_lies {ops : Array Oper} {o : Oper} {a : Act} {w : World} {K : Act → World → Prop} {Q : Exit → Act → World → Prop} {E : Prop} (hgd : o.guard = none) (s x : Operand)
    (ho : o.op = .call { callee := .builtin .append, args := #[s, x], argTypes := #[30, 30] }) (g0 k0 cap0 : Nat) (hs : a.eval s = .slice (some ⟨g0, 0, none⟩) k0 cap0) (b oo m c : Nat) (hx : a.eval x = .slice (some ⟨b, oo, none⟩) m c)
    (base : Nat) (xs news : List Value) (hown : w.ownsRow base 42 7 (.slice (some ⟨g0, 0, none⟩) k0 cap0) k0 xs) (hl : news.length = m * 7) (hnews : ∀ j u, news[j]? = some u → w.cell? ((⟨b, oo, none⟩ : Addr).add j) = some u) (h1 : ∀ u ∈ news, u.oneCell' = true)
    (hm : 0 < m) (hkm : k0 + m ≤ 65536) (hbase : base ≤ w.heap.size) (H : Nat) (hH : w.heap.size = H)
    (h : ∀ g cap w', w'.ownsRow base 42 7 (.slice (some ⟨g, 0, none⟩) (k0 + m) cap) (k0 + m) (xs ++ news) → w.grownBy w' (some g0) → (some g0 = some g ∨ g = H) → g < w'.heap.size → K (a.put o.dst (.slice (some ⟨g, 0, none⟩) (k0 + m) cap)) w') :
    if Region.wanted o (yielded ops a.tmps) = true then Oper.wp Tryd.prog o a w K Q else E := by
  obtain ⟨i0, hi, hz0, hz1, hz2⟩ := info_parts info42
  exact step_append_lies w hgd s x 30 ho base 42 i0 _ 7 40 Tryd.underlying30 hi hz0 hz1 hz2 rfl (by omega) _ k0 xs hs hown ⟨b, oo, none⟩ m c news hx hl hnews h1 hm (by unfold maxLen; omega) (by omega) hbase H hH h
theorem app_none {ops : Array Oper} {o : Oper} {a : Act} {w : World} {K : Act → World → Prop} {Q : Exit → Act → World → Prop} {E : Prop} (hgd : o.guard = none) (s x : Operand)
    (ho : o.op = .call { callee := .builtin .append, args := #[s, x], argTypes := #[30, 30] }) (g0 k0 cap0 : Nat) (hs : a.eval s = .slice (some ⟨g0, 0, none⟩) k0 cap0) (hc : k0 ≤ cap0) (y : Option Addr) (c : Nat) (hx : a.eval x = .slice y 0 c)
    (h : K (a.put o.dst (.slice (some ⟨g0, 0, none⟩) k0 cap0)) w) : if Region.wanted o (yielded ops a.tmps) = true then Oper.wp Tryd.prog o a w K Q else E := by
  obtain ⟨i0, hi, hz0, hz1, hz2⟩ := info_parts info42
  exact step_run hgd s x 30 ho _ _ _ w hs hx (run_append_nothing w 30 o.type 42 i0 Tryd.underlying30 hi g0 k0 cap0 hc y c) h
theorem grown_below {B : Nat} {w w' : World} {row : Option Nat} (h : w.grownBy w' row) (hB : B ≤ w.heap.size) (hr : ∀ g, row = some g → B ≤ g) : Below B w w' :=
  ⟨h.os, h.tape, h.output, h.size, fun k hk => h.block k (Nat.lt_of_lt_of_le hk hB) (fun e => by have := hr k e.symm; omega)⟩
/-- Both parts stand behind each other. -/
theorem app_end {w0 W6 w10 w11 : World} {k d n en gg cap gh caq : Nat} {K Wf : Nat → Int} {T : Nat → ByteArray} (hb : Below w0.heap.size w0 W6) (hkd : k + d ≤ n) (hen : en = k + d)
    (h1 : w10.ownsRow w0.heap.size 42 7 (.slice (some ⟨gg, 0, none⟩) k cap) k ([] ++ tl K T Wf 0 k)) (h2 : (W6.alloc (.cells #[] 42)).drew.grownBy w10 (some W6.heap.size)) (h3 : some W6.heap.size = some gg ∨ gg = W6.heap.size + 1)
    (h5 : w11.ownsRow w0.heap.size 42 7 (.slice (some ⟨gh, 0, none⟩) (k + (n - en)) caq) (k + (n - en)) (([] ++ tl K T Wf 0 k) ++ tl K T Wf en (n - en))) (h6 : w10.grownBy w11 (some gg)) (h7 : some gg = some gh ∨ gh = w10.heap.size) :
    Tap w11 gh 42 7 (n - d) (fun i j => tc K T Wf (fun _ => 0) (skp k d i) j) ∧ n - d ≤ caq ∧ Below w0.heap.size w0 w11 ∧ w0.heap.size ≤ gh := by
  subst hen
  have e : k + (n - (k + d)) = n - d := by omega
  rw [e] at h5
  have s0 := hb.size
  have s1 : (W6.alloc (.cells #[] 42)).drew.heap.size = W6.heap.size + 1 := by show (W6.alloc (.cells #[] 42)).heap.size = _; simp
  have hgg : w0.heap.size ≤ gg := by
    rcases h3 with h | h
    · injection h with h; omega
    · omega
  have b1 : Below w0.heap.size w0 w10 := (hb.trans ((((Below.refl _ _).alloc (Nat.le_refl _) _).drew : Below W6.heap.size W6 (W6.alloc (.cells #[] 42)).drew).mono s0)).trans (grown_below h2 (by omega) (fun g hg => by injection hg with hg; omega))
  have b2 : Below w0.heap.size w0 w11 := b1.trans (grown_below h6 b1.size (fun g hg => by injection hg with hg; omega))
  obtain ⟨t1, t2⟩ := Tap.own (f := fun i j => tc K T Wf (fun _ => 0) (skp k d i) j) h5 (fun i j hi hj => by
    show _ = some (tc K T Wf (fun _ => 0) (skp k d i) j)
    rw [List.nil_append]
    unfold skp
    by_cases hik : i < k
    · rw [List.getElem?_append_left (by rw [tl_len]; omega), if_pos hik]
      have := tl_at (K := K) (T := T) (Wf := Wf) (a := 0) k i j hik hj
      rw [Nat.zero_add] at this
      exact this
    · rw [List.getElem?_append_right (by rw [tl_len]; omega), if_neg hik, tl_len, show i * 7 + j - k * 7 = (i - k) * 7 + j by omega]
      have := tl_at (K := K) (T := T) (Wf := Wf) (a := k + d) (n - (k + d)) (i - k) j (by omega) hj
      rw [show k + d + (i - k) = i + d by omega] at this
      exact this)
  refine ⟨t1, t2, b2, ?_⟩
  rcases h7 with h | h
  · injection h with h; omega
  · have := b1.size; omega
theorem own_cap {w : World} {B g k cap : Nat} {K Wf : Nat → Int} {T : Nat → ByteArray} (h : w.ownsRow B 42 7 (.slice (some ⟨g, 0, none⟩) k cap) k ([] ++ tl K T Wf 0 k)) : k ≤ cap :=
  (Tap.own (f := fun i j => tc K T Wf (fun _ => 0) (0 + i) j) h (fun i j hi hj => tl_at (K := K) (T := T) (Wf := Wf) (a := 0) k i j hi hj)).2
theorem own_nil {w : World} {B g k m en cap : Nat} {K Wf : Nat → Int} {T : Nat → ByteArray} {xs : List Value} (h : w.ownsRow B 42 7 (.slice (some ⟨g, 0, none⟩) k cap) k xs) (hz : m = 0) :
    w.ownsRow B 42 7 (.slice (some ⟨g, 0, none⟩) (k + m) cap) (k + m) (xs ++ tl K T Wf en m) := by
  subst hz
  rw [Nat.add_zero, show tl K T Wf en 0 = [] from rfl, List.append_nil]
  exact h
theorem own_z {w : World} {B g k cap : Nat} {xs : List Value} (h : w.ownsRow B 42 7 (.slice (some ⟨g, 0, none⟩) 0 cap) 0 xs) (hz : k = 0) : w.ownsRow B 42 7 (.slice (some ⟨g, 0, none⟩) k cap) k xs := by
  rw [hz]; exact h
theorem own_zz {w : World} {B g k m cap : Nat} {xs : List Value} (h : w.ownsRow B 42 7 (.slice (some ⟨g, 0, none⟩) (0 + m) cap) (0 + m) xs) (hz : k = 0) : w.ownsRow B 42 7 (.slice (some ⟨g, 0, none⟩) (k + m) cap) (k + m) xs := by
  rw [hz]; exact h
theorem tap_TR {w : World} {g n : Nat} {f : Nat → Nat → Value} (h : Tap w g 42 7 n f) : TR w (some ⟨g, 0, none⟩) n f := fun _ => ⟨g, 0, rfl, h.lt, fun i j hi hj => by
  rw [Nat.zero_add]
  exact h.cell hi hj⟩
theorem gb_refl (w : World) (row : Option Nat) : w.grownBy w row := ⟨rfl, rfl, rfl, Nat.le_refl _, fun _ _ _ => rfl⟩
theorem slice_zero {v : Value} {p : Option Addr} {m c : Nat} (h : v = .slice p m c) (hz : m = 0) : v = .slice p 0 c := by rw [h, hz]
end Go.Proofs.YtbdmbknehfjoaaaDoor.ZT

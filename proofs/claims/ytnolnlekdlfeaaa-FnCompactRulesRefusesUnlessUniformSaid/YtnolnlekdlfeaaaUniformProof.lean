/- FnCompactRulesRefusesUnlessUniform: compactRules writes a border-radius at the bottom-left corner's rule exactly when all four corners are present and of one unit class; otherwise every rule is left untouched. No condition beyond the row's own. -/
import Derived.Test.YtnolnlekdlfeaaaRows
import Derived.Test.YtnolnlekdlfeaaaPh
import Derived.WalkKit
import Derived.ProofKit
import Derived.OpenShut
import Derived.ShutString
import Derived.ChangeOld
import Derived.Below
import Derived.Laws.Cover2
import Derived.Deep.Slices
import Derived.Deep.Fields
import Derived.Deep.MidRow
namespace Go.Proofs.Ytnolnlekdlfeaaa.fnCompactRulesRefusesUnlessUniform
open Go.ChangeShapes Go.WideShapes Go.ChangeAt Go.RowKit
open Go.ChangeMaps (open_string shut_string)
set_option linter.unusedVariables false

theorem own : ownKnob Try.prog.godebug = none := by kernel_rfl
theorem laidOut : laidOutB Try.prog = true := by kernel_rfl

theorem spot_none {w : World} {a : Addr} {v : Value} (h : w.cell? a = some v) : a.spot = none ∧ a.block < w.heap.size := by
  unfold World.cell? at h
  split at h
  · rename_i c e f hh
    refine ⟨?_, ?_⟩
    · cases hs : a.spot with
      | none => rfl
      | some x => rw [hs] at h; simp at h
    · rcases Nat.lt_or_ge a.block w.heap.size with hlt | hge
      · exact hlt
      · rw [Array.getElem?_eq_none hge] at hh; cases hh
  · cases h
theorem spelt {w : World} {x : Addr} {j : Nat} {v : Value} (hj : j = 0) (h : w.cell? (x.add j) = some v) : x = ⟨x.block, x.off, none⟩ ∧ x.block < w.heap.size := by
  subst hj
  have e : x.add 0 = x := by unfold Addr.add; rw [if_pos rfl]
  rw [e] at h
  obtain ⟨h1, h2⟩ := spot_none h
  refine ⟨?_, h2⟩
  cases x
  simp at h1
  subst h1
  rfl
section
variable {H : Type} {enc : TypeId × Value → H} {P : Program} {w : World} {base : Nat} {spare : Nat → Bool} {held : Bool}
/-- The cells of a slice of structs of one-cell fields. -/
theorem open_rows {t e : TypeId} {fs : Array Field} {fuel : Nat} {cs : List Value} {x : DataW H × List MemPlace} (ht : P.underlying t = some (.slice e)) (he : P.underlying e = some (.struct fs))
    (hone : Deep.oneCellFields P fs = true) (hC : P.cellsOf e = fs.size) (h : DataW.trod enc P w base spare held fuel t cs = some x) :
    cs = [.slice none 0 0] ∨ ∃ (a : Addr) (len cap : Nat), cs = [.slice (some a) len cap] ∧ len ≤ cap ∧ cap ≤ maxLen ∧
      ∀ i, i < len → ∀ (j : Nat) (f : Field), fs[j]? = some f → ∃ (v : Value) (y : DataW H × List MemPlace) (n : Nat), w.cell? (a.add (i * fs.size + j)) = some v ∧ DataW.trod enc P w base spare held n f.type [v] = some y := by
  rcases Deep.open_slice ht h with ⟨h0, -⟩ | ⟨a, len, cap, m, n, D, Pl, hcs, -, hl, hm, hmm, -, hi⟩
  · exact .inl h0
  · refine .inr ⟨a, len, cap, hcs, hl, hm, fun i hlt j f hj => ?_⟩
    have him : i < m := by rw [hmm]; split <;> omega
    obtain ⟨cs', hc, ht'⟩ := hi i him
    rw [hC] at hc
    obtain ⟨ys, n', -, -, -, hyl, hf⟩ := DataW.trod_struct he ht'
    obtain ⟨-, hcl, hat⟩ := World.cells?_some hc
    obtain ⟨ho, hk⟩ := Deep.hone_of hone j f hj
    have hjl : j < fs.size := (Array.getElem?_eq_some_iff.1 hj).1
    have h1 := hf j f hj
    rw [ho, hk, List.drop_eq_getElem_cons (by omega)] at h1
    have hys : ys[j]? = some (ys[j]'(by omega)) := List.getElem?_eq_getElem (by omega)
    refine ⟨cs'[j]'(by omega), ys[j]'(by omega), n', ?_, ?_⟩
    · rw [← Deep.add_add, hat j hjl]; exact List.getElem?_eq_getElem (by omega)
    · rw [← hys, ← h1]; rfl
end

section
variable {H : Type} {enc : TypeId × Value → H} {P : Program} {w : World} {base : Nat} {spare : Nat → Bool} {held : Bool}
/-- An array of integers as an argument. -/
theorem open_ints {t e : TypeId} {n : Nat} {k : IntKind} {r : Reach} {b0 : Nat} {v : Value} {d : DataW H} {p : List MemPlace} (ht : P.underlying t = some (.array n e)) (he : P.underlying e = some (.int k)) (hc : P.cellsOf e = 1) (hct : P.cellsOf t = n)
    (hok : Value.okWide P w r b0 t v) (h : DataW.Trod enc P w base spare held t v d p) : ∃ f : Nat → Int, v = .agg ((List.range n).map fun i => .int k (f i)).toArray ∧ ∀ i, i < n → (Lit.int k (f i)).wf = true := by
  simp only [Value.okWide, ht] at hok
  obtain ⟨cs, rfl, hs, -⟩ := hok
  obtain ⟨fuel, hf⟩ := h
  obtain ⟨xs, m, -, -, -, hxl, hi⟩ := DataW.trod_array ht hf
  have hsz : cs.size = n := by rw [hs, hct]
  have key : ∀ i, i < n → ∃ q, cs[i]? = some (.int k q) ∧ (Lit.int k q).wf = true := by
    intro i hlt
    have h1 := hi i hlt
    rw [hc, Nat.mul_one] at h1
    have hys : xs[i]? = some (xs[i]'(by omega)) := List.getElem?_eq_getElem (by omega)
    rw [hys] at h1
    obtain ⟨q, e1, -, g⟩ := DataW.trod_int he h1
    refine ⟨q, ?_, g⟩
    have hv : Value.cells (.agg cs) = cs := rfl
    rw [hv, List.drop_eq_getElem_cons (by simpa using (by omega : i < cs.size))] at e1
    simp at e1
    rw [Array.getElem?_eq_getElem (by omega), e1]
  refine ⟨fun i => match cs[i]? with | some (.int _ q) => q | _ => 0, ?_, fun i hlt => ?_⟩
  · congr 1
    apply Array.ext
    · simp [hsz]
    · intro i h1 h2
      obtain ⟨q, e1, -⟩ := key i (by omega)
      have e2 : cs[i] = .int k q := by rw [Array.getElem?_eq_getElem h1] at e1; exact Option.some.inj e1
      simp [e1, e2]
  · obtain ⟨q, e1, g⟩ := key i hlt
    simp only [e1]
    exact g
/-- An array of bools as an argument. -/
theorem open_bools {t e : TypeId} {n : Nat} {r : Reach} {b0 : Nat} {v : Value} {d : DataW H} {p : List MemPlace} (ht : P.underlying t = some (.array n e)) (he : P.underlying e = some .bool) (hc : P.cellsOf e = 1) (hct : P.cellsOf t = n)
    (hok : Value.okWide P w r b0 t v) (h : DataW.Trod enc P w base spare held t v d p) : ∃ f : Nat → Bool, v = .agg ((List.range n).map fun i => .bool (f i)).toArray := by
  simp only [Value.okWide, ht] at hok
  obtain ⟨cs, rfl, hs, -⟩ := hok
  obtain ⟨fuel, hf⟩ := h
  obtain ⟨xs, m, -, -, -, hxl, hi⟩ := DataW.trod_array ht hf
  have hsz : cs.size = n := by rw [hs, hct]
  have key : ∀ i, i < n → ∃ q, cs[i]? = some (.bool q) := by
    intro i hlt
    have h1 := hi i hlt
    rw [hc, Nat.mul_one] at h1
    have hys : xs[i]? = some (xs[i]'(by omega)) := List.getElem?_eq_getElem (by omega)
    rw [hys] at h1
    obtain ⟨q, e1, -⟩ := DataW.trod_bool he h1
    refine ⟨q, ?_⟩
    have hv : Value.cells (.agg cs) = cs := rfl
    rw [hv, List.drop_eq_getElem_cons (by simpa using (by omega : i < cs.size))] at e1
    simp at e1
    rw [Array.getElem?_eq_getElem (by omega), e1]
  refine ⟨fun i => match cs[i]? with | some (.bool q) => q | _ => false, ?_⟩
  · congr 1
    apply Array.ext
    · simp [hsz]
    · intro i h1 h2
      obtain ⟨q, e1⟩ := key i (by omega)
      have e2 : cs[i] = .bool q := by rw [Array.getElem?_eq_getElem h1] at e1; exact Option.some.inj e1
      simp [e1, e2]
end

def Cols26 (w : World) (a : Option Addr) (len : Nat) (F0 : Nat → Int) : Prop :=
  0 < len → ∃ b o, a = some ⟨b, o, none⟩ ∧ b < w.heap.size ∧ ∀ i, i < len → w.cell? ⟨b, o + i, none⟩ = some (.int .i32 (F0 i))
def Row26 (w : World) (a : Option Addr) (len cap : Nat) (F0 : Nat → Int) : Prop := Cols26 w a len F0 ∧ (a = none → len = 0) ∧ len ≤ maxLen ∧ len ≤ cap ∧ ∀ i, i < len → (Lit.int .i32 (F0 i)).wf = true
theorem row26 {H : Type} {enc : TypeId × Value → H} {w : World} {a : Option Addr} {len cap : Nat} {d : DataW H} {p : List MemPlace} (h : DataW.Trod enc Try.prog w 0 (fun _ => true) true 26 (.slice a len cap) d p) :
    ∃ (F0 : Nat → Int), Row26 w a len cap F0 := by
  obtain ⟨fuel, hf⟩ := h
  rcases Deep.open_slice1 Try.underlying26 (by kernel_rfl) hf with ⟨hcs, -⟩ | ⟨x, l, c, m, n, V, D, Pl, hcs, -, hl, hm, hmm, -, hi⟩
  · simp [Value.cells] at hcs
    obtain ⟨rfl, rfl, rfl⟩ := hcs
    exact ⟨fun _ => 0, fun h => absurd h (by omega), fun _ => rfl, Nat.zero_le _, Nat.zero_le _, fun i h => absurd h (by omega)⟩
  · simp [Value.cells] at hcs
    obtain ⟨rfl, rfl, rfl⟩ := hcs
    have key : ∀ i, ∃ z : Int, i < len → w.cell? (x.add i) = some (.int .i32 (z)) ∧ (Lit.int .i32 (z)).wf = true := by
      intro i
      by_cases hlt : i < len
      · obtain ⟨c0, t0⟩ := hi i (by rw [hmm]; split <;> omega)
        obtain ⟨q0, e0, -, g0⟩ := DataW.trod_int Try.underlying21 t0
        rw [show V i = .int .i32 (q0) from by simpa using e0] at c0
        exact ⟨q0, fun _ => ⟨c0, g0⟩⟩
      · exact ⟨0, fun h => absurd h hlt⟩
    obtain ⟨F, hF⟩ := Classical.axiomOfChoice key
    refine ⟨fun i => (F i), fun h0 => ?_, (fun h => by cases h), Nat.le_trans hl hm, hl, fun i hlt => ?_⟩
    · obtain ⟨ex, hb⟩ := spelt (by rfl) (hF 0 h0).1
      refine ⟨x.block, x.off, by rw [← ex], hb, fun i hlt => ?_⟩
      have hh := hF i hlt
      rw [ex] at hh
      simp only [Addr.add_mid] at hh
      exact hh.1
    · obtain ⟨_, g0⟩ := hF i hlt
      exact g0

set_option maxRecDepth 100000 in
theorem lifted (os : Os) (started : os.Started) (H : Type) (enc : TypeId × Value → H) :
    ReturnsInHanded {} Try.checked os 3 .any (Rows.fnCompactRulesRefusesUnlessUniformSpec.pre6 enc Try.prog Try.f3 Rows.fnCompactRulesRefusesUnlessUniformRow.domain false) (Rows.fnCompactRulesRefusesUnlessUniformSpec.post enc Try.prog Try.f3 false true false false) := by
  refine returnsInHanded_of_change (C := Try.checked) own started (by kernel_rfl) Try.func3
    (ChangeSpec.witness6 (enc := enc) (C := Try.checked) false ⟨#[], #[.agg #[.bool false, .bool false, .bool false, .bool false], .agg #[.int .u8 0, .int .u8 0, .int .u8 0, .int .u8 0], .agg #[.bool false, .bool false, .bool false, .bool false], .agg #[.int .u16 0, .int .u16 0, .int .u16 0, .int .u16 0], .slice none 0 0, .bool false, .bool false], []⟩ 8 (by kernel_rfl) (by kernel_rfl) (by kernel_rfl) (by kernel_rfl)) ?_
  intro W base args ds gs before hval0 hW hcnd _
  have hval : ∀ (j : Nat) t v, Try.f3.params[j]? = some t → args[j]? = some v → Value.okWide Try.prog W .any base t v := hval0
  have hW' := hW
  obtain ⟨p, q, hA0, hV, rfl, hfz, hnd⟩ := hW
  have hA : DataW.TrodAll enc Try.prog W 0 (fun _ => true) true Try.f3.params.toList args.toList ds p := hA0
  rw [Try.params3] at hA hval
  obtain ⟨v0, vs0, d0, ds0, p0, q0, hargs, rfl, rfl, h0, r0⟩ := trodAll_cons hA
  obtain ⟨v1, vs1, d1, ds1, p1, q1, rfl, rfl, rfl, h1, r1⟩ := trodAll_cons r0
  obtain ⟨v2, vs2, d2, ds2, p2, q2, rfl, rfl, rfl, h2, r2⟩ := trodAll_cons r1
  obtain ⟨v3, vs3, d3, ds3, p3, q3, rfl, rfl, rfl, h3, r3⟩ := trodAll_cons r2
  obtain ⟨v4, vs4, d4, ds4, p4, q4, rfl, rfl, rfl, h4, r4⟩ := trodAll_cons r3
  obtain ⟨v5, vs5, d5, ds5, p5, q5, rfl, rfl, rfl, h5, r5⟩ := trodAll_cons r4
  obtain ⟨v6, vs6, d6, ds6, p6, q6, rfl, rfl, rfl, h6, r6⟩ := trodAll_cons r5
  obtain ⟨rfl, rfl, rfl⟩ := trodAll_nil r6
  obtain rfl : args = #[v0, v1, v2, v3, v4, v5, v6] := by cases args; simp_all
  obtain ⟨rfl, rfl⟩ := trodVars_none hV
  have k0 := h0
  have lt0 : ∀ x ∈ p0, x.block < W.heap.size := by obtain ⟨m, hm⟩ := k0; exact DataW.trod_lt m _ _ _ hm
  obtain ⟨F0, ev0⟩ := open_bools Try.underlying22 Try.underlying4 (by kernel_rfl) (by kernel_rfl) (hval 0 22 v0 rfl rfl) h0
  obtain rfl : v0 = .agg #[.bool (F0 0), .bool (F0 1), .bool (F0 2), .bool (F0 3)] := ev0
  have k1 := h1
  have lt1 : ∀ x ∈ p1, x.block < W.heap.size := by obtain ⟨m, hm⟩ := k1; exact DataW.trod_lt m _ _ _ hm
  obtain ⟨F1, ev1, w1⟩ := open_ints Try.underlying23 Try.underlying5 (by kernel_rfl) (by kernel_rfl) (hval 1 23 v1 rfl rfl) h1
  obtain rfl : v1 = .agg #[.int .u8 (F1 0), .int .u8 (F1 1), .int .u8 (F1 2), .int .u8 (F1 3)] := ev1
  have k2 := h2
  have lt2 : ∀ x ∈ p2, x.block < W.heap.size := by obtain ⟨m, hm⟩ := k2; exact DataW.trod_lt m _ _ _ hm
  obtain ⟨F2, ev2⟩ := open_bools Try.underlying22 Try.underlying4 (by kernel_rfl) (by kernel_rfl) (hval 2 22 v2 rfl rfl) h2
  obtain rfl : v2 = .agg #[.bool (F2 0), .bool (F2 1), .bool (F2 2), .bool (F2 3)] := ev2
  have k3 := h3
  have lt3 : ∀ x ∈ p3, x.block < W.heap.size := by obtain ⟨m, hm⟩ := k3; exact DataW.trod_lt m _ _ _ hm
  obtain ⟨F3, ev3, w3⟩ := open_ints Try.underlying25 Try.underlying24 (by kernel_rfl) (by kernel_rfl) (hval 3 25 v3 rfl rfl) h3
  obtain rfl : v3 = .agg #[.int .u16 (F3 0), .int .u16 (F3 1), .int .u16 (F3 2), .int .u16 (F3 3)] := ev3
  obtain ⟨a4, len4, cap4, rfl⟩ := okWide_slice Try.underlying26 (hval 4 26 v4 rfl rfl)
  have k4 := h4
  have lt4 : ∀ x ∈ p4, x.block < W.heap.size := by obtain ⟨m, hm⟩ := k4; exact DataW.trod_lt m _ _ _ hm
  obtain ⟨F4x0, w4⟩ := row26 h4
  obtain ⟨a5, rfl, rfl, rfl⟩ := open_bool Try.underlying4 (hval 5 4 v5 rfl rfl) h5
  obtain ⟨a6, rfl, rfl, rfl⟩ := open_bool Try.underlying4 (hval 6 4 v6 rfl rfl) h6
  clear hA0 hval0
  refine (ZT.law3g F0 F1 F2 F3 a4 len4 cap4 F4x0 a5 a6 W w1 w3 w4.1 w4.2.1 w4.2.2.1).mono fun e W' ⟨he, bel⟩ => ?_
  subst he
  exact ⟨_, rfl, _, _, _, [], _, [], hW', trodAll_mk1 (shut_bool Try.underlying4 _), (trodAll_cons_mk (Below.trod laidOut (by kernel_rfl) (of_decide_eq_true (by kernel_rfl)) k0 bel lt0) (trodAll_cons_mk (Below.trod laidOut (by kernel_rfl) (of_decide_eq_true (by kernel_rfl)) k1 bel lt1) (trodAll_cons_mk (Below.trod laidOut (by kernel_rfl) (of_decide_eq_true (by kernel_rfl)) k2 bel lt2) (trodAll_cons_mk (Below.trod laidOut (by kernel_rfl) (of_decide_eq_true (by kernel_rfl)) k3 bel lt3) (trodAll_cons_mk (Below.trod laidOut (by kernel_rfl) (of_decide_eq_true (by kernel_rfl)) k4 bel lt4) (trodAll_cons_mk (shut_bool Try.underlying4 a5) (trodAll_cons_mk (shut_bool Try.underlying4 a6) trodAll_mk0))))))), rfl, bel.frame _, fun h => by cases h⟩

theorem over : Rows.fnCompactRulesRefusesUnlessUniformRow.holds Try.pinned (OpenSpec.ofChange Rows.fnCompactRulesRefusesUnlessUniformSpec) :=
  OpenClaim.holds_of_wide 3 Try.f3 rfl rfl rfl rfl rfl rfl rfl ⟨rfl, rfl, rfl, rfl, rfl⟩ rfl rfl rfl rfl rfl (by kernel_rfl) Try.func3 (by kernel_rfl)
    (of_decide_eq_true (by kernel_rfl)) (by unfold Func.isWrapper; first | (rw [if_pos (by decide +kernel)]; kernel_rfl) | (rw [if_neg (by decide +kernel)]; exact ⟨rfl, rfl⟩))
    (fun os started H enc _ => lifted os started H enc)

theorem proved : Rows.FnCompactRulesRefusesUnlessUniformSaid := over
#print axioms proved
end Go.Proofs.Ytnolnlekdlfeaaa.fnCompactRulesRefusesUnlessUniform

/- FnContainsLocalOrGlobalOverConcatenation: whether a list of compound selectors holds a local or a global one is, for two lists after one another, the 'or' of the two answers. No condition beyond the statement's own. -/
import Derived.Test.YtdonfahjcejhpaaRows
import Derived.Test.YtdonfahjcejhpaaNi
import Derived.WalkKit
import Derived.ProofKit
import Derived.OpenShut
import Derived.ShutString
import Derived.ChangeOld
import Derived.Below
import Derived.Laws.Cover2
import Derived.Deep.Slices
import Derived.Deep.Fields
import Derived.Deep.MidRow
import Derived.Lib.SmallJoins
namespace Go.Proofs.Ytdonfahjcejhpaa.fnContainsLocalOrGlobalOverConcatenation
open Go.ChangeShapes Go.WideShapes Go.ChangeAt Go.RowKit
open Go.ChangeMaps (open_string shut_string)
set_option linter.unusedVariables false

theorem own : ownKnob Try.prog.godebug = none := by kernel_rfl
theorem laidOut : laidOutB Try.prog = true := by kernel_rfl

theorem spot_none {w : World} {a : Addr} {v : Value} (h : w.cell? a = some v) : a.spot = none ∧ a.block < w.heap.size := by
  unfold World.cell? at h
  split at h
  · rename_i c e f hh
    refine ⟨?_, ?_⟩
    · cases hs : a.spot with
      | none => rfl
      | some x => rw [hs] at h; simp at h
    · rcases Nat.lt_or_ge a.block w.heap.size with hlt | hge
      · exact hlt
      · rw [Array.getElem?_eq_none hge] at hh; cases hh
  · cases h
theorem spelt {w : World} {x : Addr} {j : Nat} {v : Value} (hj : j = 0) (h : w.cell? (x.add j) = some v) : x = ⟨x.block, x.off, none⟩ ∧ x.block < w.heap.size := by
  subst hj
  have e : x.add 0 = x := by unfold Addr.add; rw [if_pos rfl]
  rw [e] at h
  obtain ⟨h1, h2⟩ := spot_none h
  refine ⟨?_, h2⟩
  cases x
  simp at h1
  subst h1
  rfl
section
variable {H : Type} {enc : TypeId × Value → H} {P : Program} {w : World} {base : Nat} {spare : Nat → Bool} {held : Bool}
/-- The cells of a slice of structs of one-cell fields. -/
theorem open_rows {t e : TypeId} {fs : Array Field} {fuel : Nat} {cs : List Value} {x : DataW H × List MemPlace} (ht : P.underlying t = some (.slice e)) (he : P.underlying e = some (.struct fs))
    (hone : Deep.oneCellFields P fs = true) (hC : P.cellsOf e = fs.size) (h : DataW.trod enc P w base spare held fuel t cs = some x) :
    cs = [.slice none 0 0] ∨ ∃ (a : Addr) (len cap : Nat), cs = [.slice (some a) len cap] ∧ len ≤ cap ∧ cap ≤ maxLen ∧
      ∀ i, i < len → ∀ (j : Nat) (f : Field), fs[j]? = some f → ∃ (v : Value) (y : DataW H × List MemPlace) (n : Nat), w.cell? (a.add (i * fs.size + j)) = some v ∧ DataW.trod enc P w base spare held n f.type [v] = some y := by
  rcases Deep.open_slice ht h with ⟨h0, -⟩ | ⟨a, len, cap, m, n, D, Pl, hcs, -, hl, hm, hmm, -, hi⟩
  · exact .inl h0
  · refine .inr ⟨a, len, cap, hcs, hl, hm, fun i hlt j f hj => ?_⟩
    have him : i < m := by rw [hmm]; split <;> omega
    obtain ⟨cs', hc, ht'⟩ := hi i him
    rw [hC] at hc
    obtain ⟨ys, n', -, -, -, hyl, hf⟩ := DataW.trod_struct he ht'
    obtain ⟨-, hcl, hat⟩ := World.cells?_some hc
    obtain ⟨ho, hk⟩ := Deep.hone_of hone j f hj
    have hjl : j < fs.size := (Array.getElem?_eq_some_iff.1 hj).1
    have h1 := hf j f hj
    rw [ho, hk, List.drop_eq_getElem_cons (by omega)] at h1
    have hys : ys[j]? = some (ys[j]'(by omega)) := List.getElem?_eq_getElem (by omega)
    refine ⟨cs'[j]'(by omega), ys[j]'(by omega), n', ?_, ?_⟩
    · rw [← Deep.add_add, hat j hjl]; exact List.getElem?_eq_getElem (by omega)
    · rw [← hys, ← h1]; rfl
end
/-- A slice of strings, opened. -/
theorem row33 {H : Type} {enc : TypeId × Value → H} {w : World} {v : Value} {fuel : Nat} {y : DataW H × List MemPlace} (hf : DataW.trod enc Try.prog w 0 (fun _ => true) true fuel 33 [v] = some y) :
    ∃ (n : Nat) (F : Nat → ByteArray), MG.Sv w v n F ∧ n ≤ 9223372036854775807 := by
  rcases Deep.open_slice1 Try.underlying33 (by kernel_rfl) hf with ⟨hcs, -⟩ | ⟨x, l, c, m, n, V, D, Pl, hcs, -, hl, hm, hmm, -, hi⟩
  · simp at hcs
    subst hcs
    exact ⟨0, fun _ => ByteArray.empty, ⟨none, 0, rfl, fun h => absurd h (by omega)⟩, by omega⟩
  · simp at hcs
    subst hcs
    have key : ∀ i, ∃ z : ByteArray, i < l → w.cell? (x.add i) = some (.string z) := by
      intro i
      by_cases hlt : i < l
      · obtain ⟨c0, t0⟩ := hi i (by rw [hmm]; split <;> omega)
        obtain ⟨q0, e0, -, g0⟩ := DataW.trod_string Try.underlying9 t0
        rw [show V i = .string q0 from by simpa using e0] at c0
        exact ⟨q0, fun _ => c0⟩
      · exact ⟨ByteArray.empty, fun h => absurd h hlt⟩
    obtain ⟨F, hF⟩ := Classical.axiomOfChoice key
    refine ⟨l, F, ⟨some x, c, rfl, fun h0 => ?_⟩, Nat.le_trans hl hm⟩
    obtain ⟨ex, hb⟩ := spelt (by rfl) (hF 0 h0)
    refine ⟨x.block, x.off, by rw [← ex], hb, fun i hlt => ?_⟩
    have hh := hF i hlt
    rw [ex] at hh
    simp only [Addr.add_mid] at hh
    exact hh
theorem row56 {H : Type} {enc : TypeId × Value → H} {w : World} {v : Value} {fuel : Nat} {y : DataW H × List MemPlace} (hf : DataW.trod enc Try.prog w 0 (fun _ => true) true fuel 56 [v] = some y) :
    ∃ (n : Nat) (F : Nat → MG.ZI), MG.Iv w v n F ∧ n ≤ 9223372036854775807 := by
  rcases open_rows Try.underlying56 Try.underlying60 (by kernel_rfl) (by kernel_rfl) hf with hcs | ⟨x, l, c, hcs, hl, hm, hi⟩
  · simp at hcs
    subst hcs
    exact ⟨0, fun _ => ⟨0, 0, 0, 0, fun _ => ByteArray.empty⟩, ⟨none, 0, rfl, fun h => absurd h (by omega)⟩, by omega⟩
  · simp at hcs
    subst hcs
    have key : ∀ i, ∃ z : MG.ZI, i < l → w.cell? (x.add (i * 4 + 0)) = some (.int .u8 z.c) ∧ w.cell? (x.add (i * 4 + 1)) = some (.int .u8 z.t) ∧ w.cell? (x.add (i * 4 + 2)) = some (.int .u8 z.a) ∧ ∃ u, w.cell? (x.add (i * 4 + 3)) = some u ∧ MG.Sv w u z.n z.s ∧ MG.WI z := by
      intro i
      by_cases hlt : i < l
      · obtain ⟨u0, y0, n0, c0, t0⟩ := hi i hlt 0 _ rfl
        obtain ⟨q0, e0, -, g0⟩ := DataW.trod_int Try.underlying5 t0
        obtain rfl : u0 = .int .u8 (q0) := by simpa using e0
        have b0 := bounds_u8 g0
        obtain ⟨u1, y1, n1, c1, t1⟩ := hi i hlt 1 _ rfl
        obtain ⟨q1, e1, -, g1⟩ := DataW.trod_int Try.underlying5 t1
        obtain rfl : u1 = .int .u8 (q1) := by simpa using e1
        have b1 := bounds_u8 g1
        obtain ⟨u2, y2, n2, c2, t2⟩ := hi i hlt 2 _ rfl
        obtain ⟨q2, e2, -, g2⟩ := DataW.trod_int Try.underlying5 t2
        obtain rfl : u2 = .int .u8 (q2) := by simpa using e2
        have b2 := bounds_u8 g2
        obtain ⟨u3, y3, n3, c3, t3⟩ := hi i hlt 3 _ rfl
        obtain ⟨qn, qs, hq, hqn⟩ := row33 t3
        exact ⟨⟨q0, q1, q2, qn, qs⟩, fun _ => ⟨c0, c1, c2, u3, c3, hq, b0.1, b0.2, b1.1, b1.2, b2.1, b2.2, hqn⟩⟩
      · exact ⟨⟨0, 0, 0, 0, fun _ => ByteArray.empty⟩, fun h => absurd h hlt⟩
    obtain ⟨F, hF⟩ := Classical.axiomOfChoice key
    refine ⟨l, F, ⟨some x, c, rfl, fun h0 => ?_⟩, Nat.le_trans hl hm⟩
    obtain ⟨ex, hb⟩ := spelt (by rfl) (hF 0 h0).1
    refine ⟨x.block, x.off, by rw [← ex], hb, fun i hlt => ?_⟩
    have hh := hF i hlt
    rw [ex] at hh
    simp only [Addr.add_mid] at hh
    obtain ⟨c0, c1, c2, u, c3, hu⟩ := hh
    exact ⟨u, c0, by rw [Nat.add_assoc]; exact c1, by rw [Nat.add_assoc]; exact c2, by rw [Nat.add_assoc]; exact c3, hu⟩
theorem row25 {H : Type} {enc : TypeId × Value → H} {w : World} {v : Value} {fuel : Nat} {y : DataW H × List MemPlace} (hf : DataW.trod enc Try.prog w 0 (fun _ => true) true fuel 25 [v] = some y) :
    ∃ (n : Nat) (F : Nat → MG.ZS), MG.Uv w v n F ∧ n ≤ 9223372036854775807 := by
  rcases open_rows Try.underlying25 Try.underlying58 (by kernel_rfl) (by kernel_rfl) hf with hcs | ⟨x, l, c, hcs, hl, hm, hi⟩
  · simp at hcs
    subst hcs
    exact ⟨0, fun _ => ⟨false, 0, ByteArray.empty, 0, fun _ => ⟨0, 0, 0, 0, fun _ => ByteArray.empty⟩⟩, ⟨none, 0, rfl, fun h => absurd h (by omega)⟩, by omega⟩
  · simp at hcs
    subst hcs
    have key : ∀ i, ∃ z : MG.ZS, i < l → w.cell? (x.add (i * 4 + 0)) = some (.bool z.wr) ∧ w.cell? (x.add (i * 4 + 1)) = some (.int .u8 z.k) ∧ w.cell? (x.add (i * 4 + 2)) = some (.string z.nm) ∧ ∃ u, w.cell? (x.add (i * 4 + 3)) = some u ∧ MG.Iv w u z.n z.s ∧ MG.WS z := by
      intro i
      by_cases hlt : i < l
      · obtain ⟨u0, y0, n0, c0, t0⟩ := hi i hlt 0 _ rfl
        obtain ⟨q0, e0, -⟩ := DataW.trod_bool Try.underlying4 t0
        obtain rfl : u0 = .bool (q0) := by simpa using e0
        obtain ⟨u1, y1, n1, c1, t1⟩ := hi i hlt 1 _ rfl
        obtain ⟨q1, e1, -, g1⟩ := DataW.trod_int Try.underlying5 t1
        obtain rfl : u1 = .int .u8 (q1) := by simpa using e1
        have b1 := bounds_u8 g1
        obtain ⟨u2, y2, n2, c2, t2⟩ := hi i hlt 2 _ rfl
        obtain ⟨q2, e2, -, g2⟩ := DataW.trod_string Try.underlying9 t2
        obtain rfl : u2 = .string (q2) := by simpa using e2
        obtain ⟨u3, y3, n3, c3, t3⟩ := hi i hlt 3 _ rfl
        obtain ⟨qn, qs, hq, hqn⟩ := row56 t3
        exact ⟨⟨q0, q1, q2, qn, qs⟩, fun _ => ⟨c0, c1, c2, u3, c3, hq, b1.1, b1.2, hqn⟩⟩
      · exact ⟨⟨false, 0, ByteArray.empty, 0, fun _ => ⟨0, 0, 0, 0, fun _ => ByteArray.empty⟩⟩, fun h => absurd h hlt⟩
    obtain ⟨F, hF⟩ := Classical.axiomOfChoice key
    refine ⟨l, F, ⟨some x, c, rfl, fun h0 => ?_⟩, Nat.le_trans hl hm⟩
    obtain ⟨ex, hb⟩ := spelt (by rfl) (hF 0 h0).1
    refine ⟨x.block, x.off, by rw [← ex], hb, fun i hlt => ?_⟩
    have hh := hF i hlt
    rw [ex] at hh
    simp only [Addr.add_mid] at hh
    obtain ⟨c0, c1, c2, u, c3, hu⟩ := hh
    exact ⟨u, c0, by rw [Nat.add_assoc]; exact c1, by rw [Nat.add_assoc]; exact c2, by rw [Nat.add_assoc]; exact c3, hu⟩
theorem row22 {H : Type} {enc : TypeId × Value → H} {w : World} {v : Value} {fuel : Nat} {y : DataW H × List MemPlace} (hf : DataW.trod enc Try.prog w 0 (fun _ => true) true fuel 22 [v] = some y) :
    ∃ (n : Nat) (F : Nat → MG.ZC), MG.Cv w v n F ∧ n ≤ 9223372036854775807 := by
  rcases open_rows Try.underlying22 Try.underlying27 (by kernel_rfl) (by kernel_rfl) hf with hcs | ⟨x, l, c, hcs, hl, hm, hi⟩
  · simp at hcs
    subst hcs
    exact ⟨0, fun _ => ⟨0, 0, 0, 0, fun _ => ⟨false, 0, ByteArray.empty, 0, fun _ => ⟨0, 0, 0, 0, fun _ => ByteArray.empty⟩⟩⟩, ⟨none, 0, rfl, fun h => absurd h (by omega)⟩, by omega⟩
  · simp at hcs
    subst hcs
    have key : ∀ i, ∃ z : MG.ZC, i < l → w.cell? (x.add (i * 4 + 0)) = some (.int .u8 z.c) ∧ w.cell? (x.add (i * 4 + 1)) = some (.int .u8 z.t) ∧ w.cell? (x.add (i * 4 + 2)) = some (.int .u8 z.a) ∧ ∃ u, w.cell? (x.add (i * 4 + 3)) = some u ∧ MG.Uv w u z.n z.s ∧ MG.WC z := by
      intro i
      by_cases hlt : i < l
      · obtain ⟨u0, y0, n0, c0, t0⟩ := hi i hlt 0 _ rfl
        obtain ⟨q0, e0, -, g0⟩ := DataW.trod_int Try.underlying5 t0
        obtain rfl : u0 = .int .u8 (q0) := by simpa using e0
        have b0 := bounds_u8 g0
        obtain ⟨u1, y1, n1, c1, t1⟩ := hi i hlt 1 _ rfl
        obtain ⟨q1, e1, -, g1⟩ := DataW.trod_int Try.underlying5 t1
        obtain rfl : u1 = .int .u8 (q1) := by simpa using e1
        have b1 := bounds_u8 g1
        obtain ⟨u2, y2, n2, c2, t2⟩ := hi i hlt 2 _ rfl
        obtain ⟨q2, e2, -, g2⟩ := DataW.trod_int Try.underlying5 t2
        obtain rfl : u2 = .int .u8 (q2) := by simpa using e2
        have b2 := bounds_u8 g2
        obtain ⟨u3, y3, n3, c3, t3⟩ := hi i hlt 3 _ rfl
        obtain ⟨qn, qs, hq, hqn⟩ := row25 t3
        exact ⟨⟨q0, q1, q2, qn, qs⟩, fun _ => ⟨c0, c1, c2, u3, c3, hq, b0.1, b0.2, b1.1, b1.2, b2.1, b2.2, hqn⟩⟩
      · exact ⟨⟨0, 0, 0, 0, fun _ => ⟨false, 0, ByteArray.empty, 0, fun _ => ⟨0, 0, 0, 0, fun _ => ByteArray.empty⟩⟩⟩, fun h => absurd h hlt⟩
    obtain ⟨F, hF⟩ := Classical.axiomOfChoice key
    refine ⟨l, F, ⟨some x, c, rfl, fun h0 => ?_⟩, Nat.le_trans hl hm⟩
    obtain ⟨ex, hb⟩ := spelt (by rfl) (hF 0 h0).1
    refine ⟨x.block, x.off, by rw [← ex], hb, fun i hlt => ?_⟩
    have hh := hF i hlt
    rw [ex] at hh
    simp only [Addr.add_mid] at hh
    obtain ⟨c0, c1, c2, u, c3, hu⟩ := hh
    exact ⟨u, c0, by rw [Nat.add_assoc]; exact c1, by rw [Nat.add_assoc]; exact c2, by rw [Nat.add_assoc]; exact c3, hu⟩
set_option maxRecDepth 100000 in
theorem lifted (os : Os) (started : os.Started) (H : Type) (enc : TypeId × Value → H) :
    ReturnsInHanded {} Try.checked os 3 .any (Rows.fnContainsLocalOrGlobalOverConcatenationSpec.pre6 enc Try.prog Try.f3 Rows.fnContainsLocalOrGlobalOverConcatenationRow.domain false) (Rows.fnContainsLocalOrGlobalOverConcatenationSpec.post enc Try.prog Try.f3 false true false false) := by
  refine returnsInHanded_of_change (C := Try.checked) own started (by kernel_rfl) Try.func3
    (ChangeSpec.witness6 (enc := enc) (C := Try.checked) false ⟨#[], #[.slice none 0 0, .slice none 0 0], []⟩ 8 (by kernel_rfl) (by kernel_rfl) (by kernel_rfl) (by kernel_rfl)) ?_
  intro W base args ds gs before hval0 hW hcnd _
  have hval : ∀ (j : Nat) t v, Try.f3.params[j]? = some t → args[j]? = some v → Value.okWide Try.prog W .any base t v := hval0
  have hW' := hW
  obtain ⟨p, q, hA0, hV, rfl, hfz, hnd⟩ := hW
  have hA : DataW.TrodAll enc Try.prog W 0 (fun _ => true) true Try.f3.params.toList args.toList ds p := hA0
  rw [Try.params3] at hA hval
  obtain ⟨v0, vs0, d0, ds0, p0, q0, hargs, rfl, rfl, h0, r0⟩ := trodAll_cons hA
  obtain ⟨v1, vs1, d1, ds1, p1, q1, rfl, rfl, rfl, h1, r1⟩ := trodAll_cons r0
  obtain ⟨rfl, rfl, rfl⟩ := trodAll_nil r1
  obtain rfl : args = #[v0, v1] := by cases args; simp_all
  obtain ⟨rfl, rfl⟩ := trodVars_none hV
  have k0 := h0
  have lt0 : ∀ x ∈ p0, x.block < W.heap.size := by obtain ⟨m, hm⟩ := k0; exact DataW.trod_lt m _ _ _ hm
  have k1 := h1
  have lt1 : ∀ x ∈ p1, x.block < W.heap.size := by obtain ⟨m, hm⟩ := k1; exact DataW.trod_lt m _ _ _ hm
  obtain ⟨n0, C0, hC0, hn0⟩ : ∃ (n : Nat) (F : Nat → MG.ZC), MG.Cv W v0 n F ∧ n ≤ 9223372036854775807 := by
    obtain ⟨a, l, c, rfl⟩ := okWide_slice Try.underlying22 (hval 0 22 v0 rfl rfl)
    obtain ⟨m, hm⟩ := h0
    exact row22 hm
  obtain ⟨n1, C1, hC1, hn1⟩ : ∃ (n : Nat) (F : Nat → MG.ZC), MG.Cv W v1 n F ∧ n ≤ 9223372036854775807 := by
    obtain ⟨a, l, c, rfl⟩ := okWide_slice Try.underlying22 (hval 1 22 v1 rfl rfl)
    obtain ⟨m, hm⟩ := h1
    exact row22 hm
  clear hA0 hval0
  obtain ⟨A0, c0, rfl, -⟩ := id hC0
  obtain ⟨A1, c1, rfl, -⟩ := id hC1
  refine (MG.law3 A0 n0 c0 C0 A1 n1 c1 C1 W hn0 hn1 hC0 hC1).mono fun e W' ⟨he, bel⟩ => ?_
  subst he
  exact ⟨_, rfl, _, _, _, [], _, [], hW', trodAll_mk1 (shut_bool Try.underlying4 _), (trodAll_cons_mk (Below.trod laidOut (by kernel_rfl) (of_decide_eq_true (by kernel_rfl)) k0 bel lt0) (trodAll_cons_mk (Below.trod laidOut (by kernel_rfl) (of_decide_eq_true (by kernel_rfl)) k1 bel lt1) trodAll_mk0)), rfl, bel.frame _, fun h => by cases h⟩

theorem over : Rows.fnContainsLocalOrGlobalOverConcatenationRow.holds Try.pinned (OpenSpec.ofChange Rows.fnContainsLocalOrGlobalOverConcatenationSpec) :=
  OpenClaim.holds_of_wide 3 Try.f3 rfl rfl rfl rfl rfl rfl rfl ⟨rfl, rfl, rfl, rfl, rfl⟩ rfl rfl rfl rfl rfl (by kernel_rfl) Try.func3 (by kernel_rfl)
    (of_decide_eq_true (by kernel_rfl)) (by unfold Func.isWrapper; first | (rw [if_pos (by decide +kernel)]; kernel_rfl) | (rw [if_neg (by decide +kernel)]; exact ⟨rfl, rfl⟩))
    (fun os started H enc _ => lifted os started H enc)

theorem proved : Rows.FnContainsLocalOrGlobalOverConcatenationSaid := over
#print axioms proved
end Go.Proofs.Ytdonfahjcejhpaa.fnContainsLocalOrGlobalOverConcatenation

/- 'name op value' parses to the same name and value as 'value flip(op) name', with the value on the Before side and the comparison flipped. No condition beyond the statement's own. -/
import Derived.Test.YtceafaddhbabhaaRows
import Derived.Test.YtceafaddhbabhaaHf
import Derived.WalkKit
import Derived.ProofKit
import Derived.OpenShut
import Derived.ShutString
import Derived.ChangeOld
import Derived.Below
import Derived.Laws.Cover2
import Derived.Deep.Slices
import Derived.Deep.Fields
import Derived.Deep.MidRow
namespace Go.Proofs.Ytceafaddhbabhaa.fnParseRangeMediaFeatureMirrorsAroundTheName
open Go.ChangeShapes Go.WideShapes Go.ChangeAt Go.RowKit
open Go.ChangeMaps (open_string shut_string)
set_option linter.unusedVariables false

theorem own : ownKnob Try.prog.godebug = none := by kernel_rfl
theorem laidOut : laidOutB Try.prog = true := by kernel_rfl

theorem spot_none {w : World} {a : Addr} {v : Value} (h : w.cell? a = some v) : a.spot = none ∧ a.block < w.heap.size := by
  unfold World.cell? at h
  split at h
  · rename_i c e f hh
    refine ⟨?_, ?_⟩
    · cases hs : a.spot with
      | none => rfl
      | some x => rw [hs] at h; simp at h
    · rcases Nat.lt_or_ge a.block w.heap.size with hlt | hge
      · exact hlt
      · rw [Array.getElem?_eq_none hge] at hh; cases hh
  · cases h
theorem spelt {w : World} {x : Addr} {j : Nat} {v : Value} (hj : j = 0) (h : w.cell? (x.add j) = some v) : x = ⟨x.block, x.off, none⟩ ∧ x.block < w.heap.size := by
  subst hj
  have e : x.add 0 = x := by unfold Addr.add; rw [if_pos rfl]
  rw [e] at h
  obtain ⟨h1, h2⟩ := spot_none h
  refine ⟨?_, h2⟩
  cases x
  simp at h1
  subst h1
  rfl
section
variable {H : Type} {enc : TypeId × Value → H} {P : Program} {w : World} {base : Nat} {spare : Nat → Bool} {held : Bool}
/-- The cells of a slice of structs of one-cell fields. -/
theorem open_rows {t e : TypeId} {fs : Array Field} {fuel : Nat} {cs : List Value} {x : DataW H × List MemPlace} (ht : P.underlying t = some (.slice e)) (he : P.underlying e = some (.struct fs))
    (hone : Deep.oneCellFields P fs = true) (hC : P.cellsOf e = fs.size) (h : DataW.trod enc P w base spare held fuel t cs = some x) :
    cs = [.slice none 0 0] ∨ ∃ (a : Addr) (len cap : Nat), cs = [.slice (some a) len cap] ∧ len ≤ cap ∧ cap ≤ maxLen ∧
      ∀ i, i < len → ∀ (j : Nat) (f : Field), fs[j]? = some f → ∃ (v : Value) (y : DataW H × List MemPlace) (n : Nat), w.cell? (a.add (i * fs.size + j)) = some v ∧ DataW.trod enc P w base spare held n f.type [v] = some y := by
  rcases Deep.open_slice ht h with ⟨h0, -⟩ | ⟨a, len, cap, m, n, D, Pl, hcs, -, hl, hm, hmm, -, hi⟩
  · exact .inl h0
  · refine .inr ⟨a, len, cap, hcs, hl, hm, fun i hlt j f hj => ?_⟩
    have him : i < m := by rw [hmm]; split <;> omega
    obtain ⟨cs', hc, ht'⟩ := hi i him
    rw [hC] at hc
    obtain ⟨ys, n', -, -, -, hyl, hf⟩ := DataW.trod_struct he ht'
    obtain ⟨-, hcl, hat⟩ := World.cells?_some hc
    obtain ⟨ho, hk⟩ := Deep.hone_of hone j f hj
    have hjl : j < fs.size := (Array.getElem?_eq_some_iff.1 hj).1
    have h1 := hf j f hj
    rw [ho, hk, List.drop_eq_getElem_cons (by omega)] at h1
    have hys : ys[j]? = some (ys[j]'(by omega)) := List.getElem?_eq_getElem (by omega)
    refine ⟨cs'[j]'(by omega), ys[j]'(by omega), n', ?_, ?_⟩
    · rw [← Deep.add_add, hat j hjl]; exact List.getElem?_eq_getElem (by omega)
    · rw [← hys, ← h1]; rfl
end

def Cols22 (w : World) (a : Option Addr) (len : Nat) (F0 : Nat → Int) (F1 : Nat → ByteArray) (F2 : Nat → Int) (F3 : Nat → Int) : Prop :=
  0 < len → ∃ b o, a = some ⟨b, o, none⟩ ∧ b < w.heap.size ∧ ∀ i, i < len → w.cell? ⟨b, o + i * 4, none⟩ = some (.int .u8 (F0 i)) ∧ w.cell? ⟨b, o + i * 4 + 1, none⟩ = some (.string (F1 i)) ∧ w.cell? ⟨b, o + i * 4 + 2, none⟩ = some (.int .u8 (F2 i)) ∧ w.cell? ⟨b, o + i * 4 + 3, none⟩ = some (.int .i32 (F3 i))
def Row22 (w : World) (a : Option Addr) (len cap : Nat) (F0 : Nat → Int) (F1 : Nat → ByteArray) (F2 : Nat → Int) (F3 : Nat → Int) : Prop := Cols22 w a len F0 F1 F2 F3 ∧ (a = none → len = 0) ∧ len ≤ maxLen ∧ len ≤ cap ∧ ∀ i, i < len → (Lit.int .u8 (F0 i)).wf = true ∧ (F1 i).size ≤ maxLen ∧ (Lit.int .u8 (F2 i)).wf = true ∧ (Lit.int .i32 (F3 i)).wf = true
theorem row22 {H : Type} {enc : TypeId × Value → H} {w : World} {a : Option Addr} {len cap : Nat} {d : DataW H} {p : List MemPlace} (h : DataW.Trod enc Try.prog w 0 (fun _ => true) true 22 (.slice a len cap) d p) :
    ∃ (F0 : Nat → Int) (F1 : Nat → ByteArray) (F2 : Nat → Int) (F3 : Nat → Int), Row22 w a len cap F0 F1 F2 F3 := by
  obtain ⟨fuel, hf⟩ := h
  rcases open_rows Try.underlying22 Try.underlying47 (by kernel_rfl) (by kernel_rfl) hf with hcs | ⟨x, l, c, hcs, hl, hm, hi⟩
  · simp [Value.cells] at hcs
    obtain ⟨rfl, rfl, rfl⟩ := hcs
    exact ⟨fun _ => 0, fun _ => ByteArray.empty, fun _ => 0, fun _ => 0, fun h => absurd h (by omega), fun _ => rfl, Nat.zero_le _, Nat.zero_le _, fun i h => absurd h (by omega)⟩
  · simp [Value.cells] at hcs
    obtain ⟨rfl, rfl, rfl⟩ := hcs
    have key : ∀ i, ∃ z : Int × ByteArray × Int × Int, i < len → w.cell? (x.add (i * 4 + 0)) = some (.int .u8 (z.1)) ∧ (Lit.int .u8 (z.1)).wf = true ∧ w.cell? (x.add (i * 4 + 1)) = some (.string (z.2.1)) ∧ (z.2.1).size ≤ maxLen ∧ w.cell? (x.add (i * 4 + 2)) = some (.int .u8 (z.2.2.1)) ∧ (Lit.int .u8 (z.2.2.1)).wf = true ∧ w.cell? (x.add (i * 4 + 3)) = some (.int .i32 (z.2.2.2)) ∧ (Lit.int .i32 (z.2.2.2)).wf = true := by
      intro i
      by_cases hlt : i < len
      · obtain ⟨u0, y0, n0, c0, t0⟩ := hi i hlt 0 _ rfl
        obtain ⟨q0, e0, -, g0⟩ := DataW.trod_int Try.underlying5 t0
        obtain rfl : u0 = .int .u8 (q0) := by simpa using e0
        obtain ⟨u1, y1, n1, c1, t1⟩ := hi i hlt 1 _ rfl
        obtain ⟨q1, e1, -, g1⟩ := DataW.trod_string Try.underlying9 t1
        obtain rfl : u1 = .string (q1) := by simpa using e1
        obtain ⟨u2, y2, n2, c2, t2⟩ := hi i hlt 2 _ rfl
        obtain ⟨q2, e2, -, g2⟩ := DataW.trod_int Try.underlying5 t2
        obtain rfl : u2 = .int .u8 (q2) := by simpa using e2
        obtain ⟨u3, y3, n3, c3, t3⟩ := hi i hlt 3 _ rfl
        obtain ⟨q3, e3, -, g3⟩ := DataW.trod_int Try.underlying21 t3
        obtain rfl : u3 = .int .i32 (q3) := by simpa using e3
        exact ⟨(q0, q1, q2, q3), fun _ => ⟨c0, g0, c1, g1, c2, g2, c3, g3⟩⟩
      · exact ⟨(0, ByteArray.empty, 0, 0), fun h => absurd h hlt⟩
    obtain ⟨F, hF⟩ := Classical.axiomOfChoice key
    refine ⟨fun i => (F i).1, fun i => (F i).2.1, fun i => (F i).2.2.1, fun i => (F i).2.2.2, fun h0 => ?_, (fun h => by cases h), Nat.le_trans hl hm, hl, fun i hlt => ?_⟩
    · obtain ⟨ex, hb⟩ := spelt (by rfl) (hF 0 h0).1
      refine ⟨x.block, x.off, by rw [← ex], hb, fun i hlt => ?_⟩
      have hh := hF i hlt
      rw [ex] at hh
      simp only [Addr.add_mid] at hh
      obtain ⟨c0, _, c1, _, c2, _, c3, _⟩ := hh
      exact ⟨c0, by rw [Nat.add_assoc]; exact c1, by rw [Nat.add_assoc]; exact c2, by rw [Nat.add_assoc]; exact c3⟩
    · obtain ⟨_, g0, _, g1, _, g2, _, g3⟩ := hF i hlt
      exact ⟨g0, g1, g2, g3⟩

set_option maxRecDepth 100000 in
theorem lifted (os : Os) (started : os.Started) (H : Type) (enc : TypeId × Value → H) :
    ReturnsInHanded {} Try.checked os 6 .any (Rows.fnParseRangeMediaFeatureMirrorsAroundTheNameSpec.pre6 enc Try.prog Try.f6 Rows.fnParseRangeMediaFeatureMirrorsAroundTheNameRow.domain false) (Rows.fnParseRangeMediaFeatureMirrorsAroundTheNameSpec.post enc Try.prog Try.f6 false true false false) := by
  refine returnsInHanded_of_change (C := Try.checked) own started (by kernel_rfl) Try.func6
    (ChangeSpec.witness6 (enc := enc) (C := Try.checked) false ⟨#[], #[.slice none 0 0], []⟩ 8 (by kernel_rfl) (by kernel_rfl) (by kernel_rfl) (by kernel_rfl)) ?_
  intro W base args ds gs before hval0 hW hcnd _
  have hval : ∀ (j : Nat) t v, Try.f6.params[j]? = some t → args[j]? = some v → Value.okWide Try.prog W .any base t v := hval0
  have hW' := hW
  obtain ⟨p, q, hA0, hV, rfl, hfz, hnd⟩ := hW
  have hA : DataW.TrodAll enc Try.prog W 0 (fun _ => true) true Try.f6.params.toList args.toList ds p := hA0
  rw [Try.params6] at hA hval
  obtain ⟨v0, vs0, d0, ds0, p0, q0, hargs, rfl, rfl, h0, r0⟩ := trodAll_cons hA
  obtain ⟨rfl, rfl, rfl⟩ := trodAll_nil r0
  obtain rfl : args = #[v0] := by cases args; simp_all
  obtain ⟨rfl, rfl⟩ := trodVars_none hV
  obtain ⟨a0, len0, cap0, rfl⟩ := okWide_slice Try.underlying22 (hval 0 22 v0 rfl rfl)
  have k0 := h0
  have lt0 : ∀ x ∈ p0, x.block < W.heap.size := by obtain ⟨m, hm⟩ := k0; exact DataW.trod_lt m _ _ _ hm
  obtain ⟨F0x0, F0x1, F0x2, F0x3, w0⟩ := row22 h0
  clear hA0 hval0
  refine (ZT.law6m a0 len0 cap0 F0x0 F0x1 F0x2 F0x3 W w0.1 w0.2.1 w0.2.2.1).mono fun e W' ⟨he, bel⟩ => ?_
  subst he
  exact ⟨_, rfl, _, _, _, [], _, [], hW', trodAll_mk1 (shut_bool Try.underlying4 _), (trodAll_cons_mk (Below.trod laidOut (by kernel_rfl) (of_decide_eq_true (by kernel_rfl)) k0 bel lt0) trodAll_mk0), rfl, bel.frame _, fun h => by cases h⟩

theorem over : Rows.fnParseRangeMediaFeatureMirrorsAroundTheNameRow.holds Try.pinned (OpenSpec.ofChange Rows.fnParseRangeMediaFeatureMirrorsAroundTheNameSpec) :=
  OpenClaim.holds_of_wide 6 Try.f6 rfl rfl rfl rfl rfl rfl rfl ⟨rfl, rfl, rfl, rfl, rfl⟩ rfl rfl rfl rfl rfl (by kernel_rfl) Try.func6 (by kernel_rfl)
    (of_decide_eq_true (by kernel_rfl)) (by unfold Func.isWrapper; first | (rw [if_pos (by decide +kernel)]; kernel_rfl) | (rw [if_neg (by decide +kernel)]; exact ⟨rfl, rfl⟩))
    (fun os started H enc _ => lifted os started H enc)

theorem proved : Rows.FnParseRangeMediaFeatureMirrorsAroundTheNameSaid := over
#print axioms proved
end Go.Proofs.Ytceafaddhbabhaa.fnParseRangeMediaFeatureMirrorsAroundTheName

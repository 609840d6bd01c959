/- FnMergeCompoundSelectorsIdentities: merging an empty compound selector into any other leaves it as it was, and merging any other into an empty one yields its type, its count of ampersands and its subclass selectors under the target's combinator. No condition beyond the statement's own. -/
import Derived.Test.YtdonfahjcejhpaaRows
import Derived.Test.YtdonfahjcejhpaaMi
import Derived.WalkKit
import Derived.ProofKit
import Derived.OpenShut
import Derived.ShutString
import Derived.ChangeOld
import Derived.Below
import Derived.Laws.Cover2
import Derived.Deep.Slices
import Derived.Deep.Fields
import Derived.Lib.SmallJoins
namespace Go.Proofs.Ytdonfahjcejhpaa.fnMergeCompoundSelectorsIdentities
open Go.ChangeShapes Go.WideShapes Go.ChangeAt Go.RowKit
open Go.ChangeMaps (open_string shut_string)
set_option linter.unusedVariables false

theorem own : ownKnob Try.prog.godebug = none := by kernel_rfl
theorem laidOut : laidOutB Try.prog = true := by kernel_rfl

theorem spot_none {w : World} {a : Addr} {v : Value} (h : w.cell? a = some v) : a.spot = none ∧ a.block < w.heap.size := by
  unfold World.cell? at h
  split at h
  · rename_i c e f hh
    refine ⟨?_, ?_⟩
    · cases hs : a.spot with
      | none => rfl
      | some x => rw [hs] at h; simp at h
    · rcases Nat.lt_or_ge a.block w.heap.size with hlt | hge
      · exact hlt
      · rw [Array.getElem?_eq_none hge] at hh; cases hh
  · cases h
theorem spelt {w : World} {x : Addr} {j : Nat} {v : Value} (hj : j = 0) (h : w.cell? (x.add j) = some v) : x = ⟨x.block, x.off, none⟩ ∧ x.block < w.heap.size := by
  subst hj
  have e : x.add 0 = x := by unfold Addr.add; rw [if_pos rfl]
  rw [e] at h
  obtain ⟨h1, h2⟩ := spot_none h
  refine ⟨?_, h2⟩
  cases x
  simp at h1
  subst h1
  rfl
/-- A slice of strings, opened. -/
theorem row33 {H : Type} {enc : TypeId × Value → H} {w : World} {v : Value} {fuel : Nat} {y : DataW H × List MemPlace} (hf : DataW.trod enc Try.prog w 0 (fun _ => true) true fuel 33 [v] = some y) :
    ∃ (a : Option Addr) (len cap : Nat) (F : Nat → ByteArray), v = .slice a len cap ∧ MG.Strs w a len F ∧ len ≤ maxLen := by
  rcases Deep.open_slice1 Try.underlying33 (by kernel_rfl) hf with ⟨hcs, -⟩ | ⟨x, l, c, m, n, V, D, Pl, hcs, -, hl, hm, hmm, -, hi⟩
  · simp at hcs
    subst hcs
    exact ⟨none, 0, 0, fun _ => ByteArray.empty, rfl, fun h => absurd h (by omega), Nat.zero_le _⟩
  · simp at hcs
    subst hcs
    have key : ∀ i, ∃ z : ByteArray, i < l → w.cell? (x.add i) = some (.string z) := by
      intro i
      by_cases hlt : i < l
      · obtain ⟨c0, t0⟩ := hi i (by rw [hmm]; split <;> omega)
        obtain ⟨q0, e0, -, g0⟩ := DataW.trod_string Try.underlying9 t0
        rw [show V i = .string q0 from by simpa using e0] at c0
        exact ⟨q0, fun _ => c0⟩
      · exact ⟨ByteArray.empty, fun h => absurd h hlt⟩
    obtain ⟨F, hF⟩ := Classical.axiomOfChoice key
    refine ⟨some x, l, c, F, rfl, fun h0 => ?_, Nat.le_trans hl hm⟩
    obtain ⟨ex, hb⟩ := spelt (by rfl) (hF 0 h0)
    refine ⟨x.block, x.off, by rw [← ex], hb, fun i hlt => ?_⟩
    have hh := hF i hlt
    rw [ex] at hh
    simp only [Addr.add_mid] at hh
    exact hh
set_option maxRecDepth 100000 in
theorem lifted (os : Os) (started : os.Started) (H : Type) (enc : TypeId × Value → H) :
    ReturnsInHanded {} Try.checked os 4 .any (Rows.fnMergeCompoundSelectorsIdentitiesSpec.pre6 enc Try.prog Try.f4 Rows.fnMergeCompoundSelectorsIdentitiesRow.domain false) (Rows.fnMergeCompoundSelectorsIdentitiesSpec.post enc Try.prog Try.f4 false true false false) := by
  refine returnsInHanded_of_change (C := Try.checked) own started (by kernel_rfl) Try.func4
    (ChangeSpec.witness6 (enc := enc) (C := Try.checked) false ⟨#[], #[.agg #[.int .u8 0, .int .u8 0, .slice none 0 0], .int .u8 0, .int .u8 0], []⟩ 8 (by kernel_rfl) (by kernel_rfl) (by kernel_rfl) (by kernel_rfl)) ?_
  intro W base args ds gs before hval0 hW hcnd _
  have hval : ∀ (j : Nat) t v, Try.f4.params[j]? = some t → args[j]? = some v → Value.okWide Try.prog W .any base t v := hval0
  have hW' := hW
  obtain ⟨p, q, hA0, hV, rfl, hfz, hnd⟩ := hW
  have hA : DataW.TrodAll enc Try.prog W 0 (fun _ => true) true Try.f4.params.toList args.toList ds p := hA0
  rw [Try.params4] at hA hval
  obtain ⟨v0, vs0, d0, ds0, p0, q0, hargs, rfl, rfl, h0, r0⟩ := trodAll_cons hA
  obtain ⟨v1, vs1, d1, ds1, p1, q1, rfl, rfl, rfl, h1, r1⟩ := trodAll_cons r0
  obtain ⟨v2, vs2, d2, ds2, p2, q2, rfl, rfl, rfl, h2, r2⟩ := trodAll_cons r1
  obtain ⟨rfl, rfl, rfl⟩ := trodAll_nil r2
  obtain rfl : args = #[v0, v1, v2] := by cases args; simp_all
  obtain ⟨rfl, rfl⟩ := trodVars_none hV
  have k0 := h0
  have lt0 : ∀ x ∈ p0, x.block < W.heap.size := by obtain ⟨m, hm⟩ := k0; exact DataW.trod_lt m _ _ _ hm
  obtain ⟨x0, x1, x2, y0, y1, y2, nf, rfl, -, -, t0, t1, t2⟩ := Joins.open_agg3 Try.underlying35 (by kernel_rfl) (by kernel_rfl) (hval 0 35 v0 rfl rfl) h0
  obtain ⟨z0, e0, -, w0⟩ := DataW.trod_int Try.underlying5 t0
  obtain rfl : x0 = .int .u8 z0 := by simpa using e0
  obtain ⟨z1, e1, -, w1⟩ := DataW.trod_int Try.underlying5 t1
  obtain rfl : x1 = .int .u8 z1 := by simpa using e1
  obtain ⟨sa, sl, sc, F, rfl, hF, hL⟩ := row33 t2
  obtain ⟨a1, rfl, rfl, rfl, u1⟩ := open_int Try.underlying5 (hval 1 5 v1 rfl rfl) h1
  obtain ⟨a2, rfl, rfl, rfl, u2⟩ := open_int Try.underlying5 (hval 2 5 v2 rfl rfl) h2
  clear hA0 hval0
  have b0 := bounds_u8 w0
  have b1 := bounds_u8 w1
  have b2 := bounds_u8 u1
  have b3 := bounds_u8 u2
  obtain ⟨m, rfl⟩ : ∃ m : Nat, z1 = (m : Int) := ⟨z1.toNat, by omega⟩
  refine (MG.law4 z0 a1 a2 m sa sl sc F W b0.1 b0.2 (by omega) b2.1 b2.2 b3.1 b3.2 hL hF).mono fun e W' ⟨he, bel⟩ => ?_
  subst he
  exact ⟨_, rfl, _, _, _, [], _, [], hW', trodAll_mk1 (shut_bool Try.underlying4 _), (trodAll_cons_mk (Below.trod laidOut (by kernel_rfl) (of_decide_eq_true (by kernel_rfl)) k0 bel lt0) (trodAll_cons_mk (shut_int Try.underlying5 u1) (trodAll_cons_mk (shut_int Try.underlying5 u2) trodAll_mk0))), rfl, bel.frame _, fun h => by cases h⟩

theorem over : Rows.fnMergeCompoundSelectorsIdentitiesRow.holds Try.pinned (OpenSpec.ofChange Rows.fnMergeCompoundSelectorsIdentitiesSpec) :=
  OpenClaim.holds_of_wide 4 Try.f4 rfl rfl rfl rfl rfl rfl rfl ⟨rfl, rfl, rfl, rfl, rfl⟩ rfl rfl rfl rfl rfl (by kernel_rfl) Try.func4 (by kernel_rfl)
    (of_decide_eq_true (by kernel_rfl)) (by unfold Func.isWrapper; first | (rw [if_pos (by decide +kernel)]; kernel_rfl) | (rw [if_neg (by decide +kernel)]; exact ⟨rfl, rfl⟩))
    (fun os started H enc _ => lifted os started H enc)

theorem proved : Rows.FnMergeCompoundSelectorsIdentitiesSaid := over
#print axioms proved
end Go.Proofs.Ytdonfahjcejhpaa.fnMergeCompoundSelectorsIdentities

/- Chroma and hue, turned into the two legs and back, come out as they went in: the lightness the same, the chroma within a millionth of a millionth, the hue within a hundred millionth of a degree up to whole turns; any lightness, a chroma between 1e-100 and 1e100, a hue between -10000 and 10000. -/
import Derived.Test.YtnkpcjmmingkkaaDoorRows
import Derived.Test.YtnkpcjmmingkkaaDoorCards
import Derived.Test.YtnkpcjmmingkkaaDoorTie
import Derived.Test.YtnkpcjmmingkkaaDoorL9
import Derived.WalkKit
import Derived.ProofKit
import Derived.OpenShut
import Derived.ShutString
import Derived.ChangeOld
import Derived.Below
import Derived.Laws.Cover2
import Derived.Deep.Slices
import Derived.Deep.Fields
import Derived.Deep.MidRow
import Derived.PinnedBridge
import Derived.Lay
import Derived.LaidOnce
import Derived.SevenTiedAt
import Derived.Lib.LaidCase
import Derived.Lib.LaidU8
import Derived.LaidMore
import Derived.OpenVars
import Derived.ChangeVars
import Derived.Stop.Joined
namespace Go.Proofs.YtnkpcjmmingkkaaDoor.fnOklchToOklabRoundTripsThroughOklch
open Go.ChangeShapes Go.WideShapes Go.ChangeAt Go.RowKit
open Go.ChangeMaps (open_string shut_string)
open Go.WideMaps Go.WideElems
set_option linter.unusedVariables false

theorem own : ownKnob Tryd.prog.godebug = none := by kernel_rfl
theorem laidOut : laidOutB Tryd.prog = true := by kernel_rfl

theorem spot_none {w : World} {a : Addr} {v : Value} (h : w.cell? a = some v) : a.spot = none ∧ a.block < w.heap.size := by
  unfold World.cell? at h
  split at h
  · rename_i c e f hh
    refine ⟨?_, ?_⟩
    · cases hs : a.spot with
      | none => rfl
      | some x => rw [hs] at h; simp at h
    · rcases Nat.lt_or_ge a.block w.heap.size with hlt | hge
      · exact hlt
      · rw [Array.getElem?_eq_none hge] at hh; cases hh
  · cases h
theorem spelt {w : World} {x : Addr} {j : Nat} {v : Value} (hj : j = 0) (h : w.cell? (x.add j) = some v) : x = ⟨x.block, x.off, none⟩ ∧ x.block < w.heap.size := by
  subst hj
  have e : x.add 0 = x := by unfold Addr.add; rw [if_pos rfl]
  rw [e] at h
  obtain ⟨h1, h2⟩ := spot_none h
  refine ⟨?_, h2⟩
  cases x
  simp at h1
  subst h1
  rfl
section
variable {H : Type} {enc : TypeId × Value → H} {P : Program} {w : World} {base : Nat} {spare : Nat → Bool} {held : Bool}
/-- The cells of a slice of structs of one-cell fields. -/
theorem open_rows {t e : TypeId} {fs : Array Field} {fuel : Nat} {cs : List Value} {x : DataW H × List MemPlace} (ht : P.underlying t = some (.slice e)) (he : P.underlying e = some (.struct fs))
    (hone : Deep.oneCellFields P fs = true) (hC : P.cellsOf e = fs.size) (h : DataW.trod enc P w base spare held fuel t cs = some x) :
    cs = [.slice none 0 0] ∨ ∃ (a : Addr) (len cap : Nat), cs = [.slice (some a) len cap] ∧ len ≤ cap ∧ cap ≤ maxLen ∧
      ∀ i, i < len → ∀ (j : Nat) (f : Field), fs[j]? = some f → ∃ (v : Value) (y : DataW H × List MemPlace) (n : Nat), w.cell? (a.add (i * fs.size + j)) = some v ∧ DataW.trod enc P w base spare held n f.type [v] = some y := by
  rcases Deep.open_slice ht h with ⟨h0, -⟩ | ⟨a, len, cap, m, n, D, Pl, hcs, -, hl, hm, hmm, -, hi⟩
  · exact .inl h0
  · refine .inr ⟨a, len, cap, hcs, hl, hm, fun i hlt j f hj => ?_⟩
    have him : i < m := by rw [hmm]; split <;> omega
    obtain ⟨cs', hc, ht'⟩ := hi i him
    rw [hC] at hc
    obtain ⟨ys, n', -, -, -, hyl, hf⟩ := DataW.trod_struct he ht'
    obtain ⟨-, hcl, hat⟩ := World.cells?_some hc
    obtain ⟨ho, hk⟩ := Deep.hone_of hone j f hj
    have hjl : j < fs.size := (Array.getElem?_eq_some_iff.1 hj).1
    have h1 := hf j f hj
    rw [ho, hk, List.drop_eq_getElem_cons (by omega)] at h1
    have hys : ys[j]? = some (ys[j]'(by omega)) := List.getElem?_eq_getElem (by omega)
    refine ⟨cs'[j]'(by omega), ys[j]'(by omega), n', ?_, ?_⟩
    · rw [← Deep.add_add, hat j hjl]; exact List.getElem?_eq_getElem (by omega)
    · rw [← hys, ← h1]; rfl
end

section
variable {H : Type} {enc : TypeId × Value → H} {P : Program} {w : World} {base : Nat} {spare : Nat → Bool} {held : Bool}
theorem trod_float {t : TypeId} {k : FloatKind} {fuel : Nat} {cs : List Value} {x : DataW H × List MemPlace} (ht : P.underlying t = some (.float k)) (h : DataW.trod enc P w base spare held fuel t cs = some x) : ∃ n, cs = [.float k n] ∧ x = (.lit (.float k n), []) ∧ (Lit.float k n).wf = true := by
  cases fuel with
  | zero => simp [DataW.trod] at h
  | succ n =>
    unfold DataW.trod at h
    rw [ht] at h
    split at h <;> simp_all
theorem trod_intC {t : TypeId} {k : IntKind} {fuel : Nat} {cs : List Value} {x : DataW H × List MemPlace} (ht : P.underlying t = some (.int k)) (h : DataW.trod enc P w base spare held fuel t cs = some x) : ∃ n, cs = [.int k n] ∧ x = (.lit (.int k n), []) ∧ (Lit.int k n).wf = true := by
  cases fuel with
  | zero => simp [DataW.trod] at h
  | succ n =>
    unfold DataW.trod at h
    rw [ht] at h
    split at h <;> simp_all
end
theorem gArr0 : Tryd.prog.globalNamed "math._sin" = some 1 := by kernel_rfl
theorem tArr0 : (Tryd.prog.globals[1]?).map (·.type) = some 42 := by kernel_rfl
theorem of_arr0 {W : World} (hL : laidMet Tryd.prog Rows.fnOklchToOklabRoundTripsThroughOklchRow.laid W) : 1 < W.heap.size ∧ W.cell? ⟨1, 0, none⟩ = some (.float .f64 F64.s0) ∧ W.cell? ⟨1, 1, none⟩ = some (.float .f64 F64.s1) ∧ W.cell? ⟨1, 2, none⟩ = some (.float .f64 F64.s2) ∧ W.cell? ⟨1, 3, none⟩ = some (.float .f64 F64.s3) ∧ W.cell? ⟨1, 4, none⟩ = some (.float .f64 F64.s4) ∧ W.cell? ⟨1, 5, none⟩ = some (.float .f64 F64.s5) := by
  obtain ⟨g, t, cs, fuel, p, hg, hty, hvar, hd⟩ := Lib.laidMet.reads hL (.head _)
  obtain rfl := Option.some.inj (gArr0.symm.trans hg)
  obtain rfl := Option.some.inj (tArr0.symm.trans hty)
  have hc := fun j => World.var?_cell hg hvar j
  have key : ∀ (ds : List (DataW Unit)), Rows.laid_math_sin = DataW.agg ds → ∀ i (b : Nat), i < 6 → ds[i]? = some (.lit (.float .f64 b)) → W.cell? ⟨1, i, none⟩ = some (.float .f64 b) := by
    intro ds eds i b hi hb
    rw [eds] at hd
    obtain ⟨f', d, q, hd', ht⟩ := Lib.array_elem Tryd.underlying42 hd i hi
    rw [show Tryd.prog.cellsOf 22 = 1 by kernel_rfl] at ht
    rw [hb] at hd'
    cases hd'
    obtain ⟨z, hz, hx, _⟩ := trod_float Tryd.underlying22 ht
    cases hx
    have h1 := at_of_take hz
    rw [Nat.mul_one] at h1
    rw [hc i, ← Array.getElem?_toList]
    exact h1
  have k := key _ rfl
  have h0 := k 0 (F64.s0) (by decide) (rfl)
  exact ⟨(spot_none h0).2, k 0 _ (by decide) (rfl), k 1 _ (by decide) (rfl), k 2 _ (by decide) (rfl), k 3 _ (by decide) (rfl), k 4 _ (by decide) (rfl), k 5 _ (by decide) (rfl)⟩
theorem gArr1 : Tryd.prog.globalNamed "math._cos" = some 2 := by kernel_rfl
theorem tArr1 : (Tryd.prog.globals[2]?).map (·.type) = some 42 := by kernel_rfl
theorem of_arr1 {W : World} (hL : laidMet Tryd.prog Rows.fnOklchToOklabRoundTripsThroughOklchRow.laid W) : 2 < W.heap.size ∧ W.cell? ⟨2, 0, none⟩ = some (.float .f64 F64.c0) ∧ W.cell? ⟨2, 1, none⟩ = some (.float .f64 F64.c1) ∧ W.cell? ⟨2, 2, none⟩ = some (.float .f64 F64.c2) ∧ W.cell? ⟨2, 3, none⟩ = some (.float .f64 F64.c3) ∧ W.cell? ⟨2, 4, none⟩ = some (.float .f64 F64.c4) ∧ W.cell? ⟨2, 5, none⟩ = some (.float .f64 F64.c5) := by
  obtain ⟨g, t, cs, fuel, p, hg, hty, hvar, hd⟩ := Lib.laidMet.reads hL (.tail _ (.head _))
  obtain rfl := Option.some.inj (gArr1.symm.trans hg)
  obtain rfl := Option.some.inj (tArr1.symm.trans hty)
  have hc := fun j => World.var?_cell hg hvar j
  have key : ∀ (ds : List (DataW Unit)), Rows.laid_math_cos = DataW.agg ds → ∀ i (b : Nat), i < 6 → ds[i]? = some (.lit (.float .f64 b)) → W.cell? ⟨2, i, none⟩ = some (.float .f64 b) := by
    intro ds eds i b hi hb
    rw [eds] at hd
    obtain ⟨f', d, q, hd', ht⟩ := Lib.array_elem Tryd.underlying42 hd i hi
    rw [show Tryd.prog.cellsOf 22 = 1 by kernel_rfl] at ht
    rw [hb] at hd'
    cases hd'
    obtain ⟨z, hz, hx, _⟩ := trod_float Tryd.underlying22 ht
    cases hx
    have h1 := at_of_take hz
    rw [Nat.mul_one] at h1
    rw [hc i, ← Array.getElem?_toList]
    exact h1
  have k := key _ rfl
  have h0 := k 0 (F64.c0) (by decide) (rfl)
  exact ⟨(spot_none h0).2, k 0 _ (by decide) (rfl), k 1 _ (by decide) (rfl), k 2 _ (by decide) (rfl), k 3 _ (by decide) (rfl), k 4 _ (by decide) (rfl), k 5 _ (by decide) (rfl)⟩
def great : List String := []
noncomputable def startW (os : Os) : World := (World.doorLaid Tryd.prog 400 os).layVars Tryd.prog (Rows.fnOklchToOklabRoundTripsThroughOklchRow.laid.filter fun x => great.contains x.1)
theorem start_met (os : Os) (args : Array Value) : laidMet Tryd.prog Rows.fnOklchToOklabRoundTripsThroughOklchRow.laid ((startW os).forCall (fun _ _ => 0) ⟨#[], args, []⟩).memory := by
  have h : laidMet Tryd.prog Rows.fnOklchToOklabRoundTripsThroughOklchRow.laid (startW os) := laidMet_layVars (w0 := World.doorLaid Tryd.prog 400 os) great [1, 2, 3] rfl (by kernel_rfl) (by kernel_rfl) (LaidIn.of_run _ 8 (by kernel_rfl) (by kernel_rfl) (by kernel_rfl) (by kernel_rfl))
  exact h.of_heap (by simp [World.memory, World.forCall, Input.heap])

theorem vars_len {H : Type} {enc : TypeId × Value → H} {P : Program} {w : World} {spare : Nat → Bool} : ∀ {ns : List String} {gs : List (DataW H)} {ps : List MemPlace}, DataW.TrodVars enc P w spare ns gs ps → gs.length = ns.length
  | [], gs, ps, h => by simp [(trodVars_none h).1]
  | n :: ns, [], ps, h => by simp [DataW.TrodVars] at h
  | n :: ns, d :: ds, ps, h => by
    obtain ⟨g, t, cs, fuel, p, q, h1, h2, h3, h4, hs, e⟩ := h
    simp [vars_len hs]
set_option maxRecDepth 100000 in
theorem lifted (os : Os) (started : os.Started) (H : Type) (enc : TypeId × Value → H) :
    ReturnsInHanded {} Tryd.checked os 3 .any (fun w args => (Rows.fnOklchToOklabRoundTripsThroughOklchSpec.pre enc Tryd.prog Tryd.f3 [] false w args ∧ laidMetH Tryd.prog Rows.fnOklchToOklabRoundTripsThroughOklchRow.laid w) ∧ sizedMet enc Tryd.prog Tryd.f3 (OpenSpec.ofChange Rows.fnOklchToOklabRoundTripsThroughOklchSpec) false w args) (Rows.fnOklchToOklabRoundTripsThroughOklchSpec.post enc Tryd.prog Tryd.f3 false true false false) := by
  refine returnsInHanded_of_change_and (C := Tryd.checked) (X := fun w _ => laidMetH Tryd.prog Rows.fnOklchToOklabRoundTripsThroughOklchRow.laid w) (fun _ _ _ hh h => h.of_heap hh) own started (by kernel_rfl) Tryd.func3
    (ChangeSpec.witness_shaped (enc := enc) (C := Tryd.checked) (os := os) (X := fun w _ => laidMetH Tryd.prog Rows.fnOklchToOklabRoundTripsThroughOklchRow.laid w) false (startW os) #[.float .f64 0, .float .f64 0, .float .f64 0] 8 (World.layVars_os _ _ _)
      (World.shaped_of_ZipB (by kernel_rfl) (by kernel_rfl)) (by kernel_rfl) (by kernel_rfl) (by kernel_rfl)
      (by rw [MakeChecks.laidMetH_plain _ _ _ (by kernel_rfl)]; exact start_met os _)) ?_
  intro W base args ds gs before hval0 hW _ _ hL _
  have hval : ∀ (j : Nat) t v, Tryd.f3.params[j]? = some t → args[j]? = some v → Value.okWide Tryd.prog W .any base t v := hval0
  have hW' := hW
  obtain ⟨p, q, hA0, hV, rfl, _, _⟩ := hW
  have hA : DataW.TrodAll enc Tryd.prog W 0 (fun _ => true) true Tryd.f3.params.toList args.toList ds p := hA0
  rw [MakeChecks.laidMetH_plain _ _ _ (by kernel_rfl)] at hL
  have hT : F64.SC W := by
    have T0 := of_arr0 hL
    have T1 := of_arr1 hL
    exact ⟨T0.2.1, T0.2.2.1, T0.2.2.2.1, T0.2.2.2.2.1, T0.2.2.2.2.2.1, T0.2.2.2.2.2.2, T1.2.1, T1.2.2.1, T1.2.2.2.1, T1.2.2.2.2.1, T1.2.2.2.2.2.1, T1.2.2.2.2.2.2, T0.1, T1.1⟩
  rw [Tryd.params3] at hA hval
  obtain ⟨v0, vs0, d0, ds0, p0, q0, hargs, rfl, rfl, h0, r0⟩ := trodAll_cons hA
  obtain ⟨v1, vs1, d1, ds1, p1, q1, rfl, rfl, rfl, h1, r1⟩ := trodAll_cons r0
  obtain ⟨v2, vs2, d2, ds2, p2, q2, rfl, rfl, rfl, h2, r2⟩ := trodAll_cons r1
  obtain ⟨rfl, rfl, rfl⟩ := trodAll_nil r2
  obtain rfl : args = #[v0, v1, v2] := by cases args; simp_all
  have hVk := hV
  obtain ⟨rfl, -⟩ := trodVars_none hV
  obtain ⟨a0, rfl, rfl, rfl, w0⟩ := open_float Tryd.underlying22 (hval 0 22 v0 rfl rfl) h0
  obtain ⟨a1, rfl, rfl, rfl, w1⟩ := open_float Tryd.underlying22 (hval 1 22 v1 rfl rfl) h1
  obtain ⟨a2, rfl, rfl, rfl, w2⟩ := open_float Tryd.underlying22 (hval 2 22 v2 rfl rfl) h2
  clear hA0 hval0
  refine (F64.law a0 a1 a2 W w0 w1 w2 hT).mono fun e W' ⟨he, bel⟩ => ?_
  subst he
  exact ⟨_, rfl, _, _, _, [], _, q, hW', trodAll_mk1 (shut_bool Tryd.underlying4 _), (trodAll_cons_mk (shut_float Tryd.underlying22 w0) (trodAll_cons_mk (shut_float Tryd.underlying22 w1) (trodAll_cons_mk (shut_float Tryd.underlying22 w2) trodAll_mk0))), bel.trodVars laidOut (by kernel_rfl) hVk, bel.frame _, fun h => by cases h⟩

theorem over : Rows.fnOklchToOklabRoundTripsThroughOklchRow.holds Tryd.pinned (OpenSpec.ofChange Rows.fnOklchToOklabRoundTripsThroughOklchSpec) :=
  OpenClaim.holds_of_wide 3 Tryd.f3 rfl rfl rfl rfl rfl rfl rfl ⟨rfl, rfl, rfl, rfl, rfl⟩ rfl rfl rfl rfl rfl (by kernel_rfl) Tryd.func3 (by kernel_rfl)
    (of_decide_eq_true (by kernel_rfl)) (by unfold Func.isWrapper; first | (rw [if_pos (by decide +kernel)]; kernel_rfl) | (rw [if_neg (by decide +kernel)]; exact ⟨rfl, rfl⟩))
    (fun os started H enc _ => lifted os started H enc)

theorem proved : Rows.FnOklchToOklabRoundTripsThroughOklchCardSaid :=
  Claim7.holds_tied_plain_at .later [] [.data, .data, .data] true (true, "2e8e51a6d46d22a013d2ed1d037b9ea1d46ab1e0deed5a254f4e95941da3a877") false over (fun _ h => by cases h) (by kernel_rfl) (fun _ h => by cases h) fnOklchToOklabRoundTripsThroughOklch_row_tie rfl ⟨rfl, rfl⟩ (by kernel_rfl) rfl
    (fun f fn hf hfn => by
      obtain rfl : f = 3 := Option.some.inj ((show Tryd.prog.funcNamed "github.com/evanw/esbuild/n011_191.FnOklchToOklabRoundTripsThroughOklch" = some 3 by kernel_rfl).symm.trans hf) |>.symm
      obtain rfl : fn = Tryd.f3 := (Option.some.inj (Tryd.func3.symm.trans hfn)).symm
      exact ⟨by kernel_rfl, fun j t ht => by
        rw [Tryd.params3] at ht
        have hm : t ∈ [22, 22, 22] := by simpa using Array.mem_of_getElem? ht
        have hall : ([22, 22, 22].all fun u => !Tryd.prog.wantsStandIn u) = true := by kernel_rfl
        exact (show Tryd.prog.wantsStandIn t = false by simpa using List.all_eq_true.1 hall t hm)⟩)
    (by kernel_rfl)
#print axioms proved
end Go.Proofs.YtnkpcjmmingkkaaDoor.fnOklchToOklabRoundTripsThroughOklch

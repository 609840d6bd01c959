/- A list of at most 4096 codes, made a border-radius, is accepted exactly as the table says, and the rule then holds the minimal quads; else it is untouched; whatever the codes, !important, minify and location. -/
import Derived.Test.YtnolnlekdlfeaaaDoorRows
import Derived.Test.YtnolnlekdlfeaaaDoorCards
import Derived.Test.YtnolnlekdlfeaaaDoorTie
import Derived.Test.YtnolnlekdlfeaaaDoorMt
import Derived.WalkKit
import Derived.ProofKit
import Derived.OpenShut
import Derived.ShutString
import Derived.ChangeOld
import Derived.Below
import Derived.Laws.Cover2
import Derived.Deep.Slices
import Derived.Deep.Fields
import Derived.Deep.MidRow
import Derived.PinnedBridge
import Derived.Lay
import Derived.LaidOnce
import Derived.SevenTiedAt
import Derived.Lib.LaidCase
import Derived.Lib.LaidU8
import Derived.LaidMore
import Derived.OpenVars
import Derived.ChangeVars
import Derived.Stop.Joined
namespace Go.Proofs.YtnolnlekdlfeaaaDoor.fnMangleCornersCaseTable
open Go.ChangeShapes Go.WideShapes Go.ChangeAt Go.RowKit
open Go.ChangeMaps (open_string shut_string)
open Go.WideMaps Go.WideElems
set_option linter.unusedVariables false

theorem own : ownKnob Tryd.prog.godebug = none := by kernel_rfl
theorem laidOut : laidOutB Tryd.prog = true := by kernel_rfl

theorem spot_none {w : World} {a : Addr} {v : Value} (h : w.cell? a = some v) : a.spot = none ∧ a.block < w.heap.size := by
  unfold World.cell? at h
  split at h
  · rename_i c e f hh
    refine ⟨?_, ?_⟩
    · cases hs : a.spot with
      | none => rfl
      | some x => rw [hs] at h; simp at h
    · rcases Nat.lt_or_ge a.block w.heap.size with hlt | hge
      · exact hlt
      · rw [Array.getElem?_eq_none hge] at hh; cases hh
  · cases h
theorem spelt {w : World} {x : Addr} {j : Nat} {v : Value} (hj : j = 0) (h : w.cell? (x.add j) = some v) : x = ⟨x.block, x.off, none⟩ ∧ x.block < w.heap.size := by
  subst hj
  have e : x.add 0 = x := by unfold Addr.add; rw [if_pos rfl]
  rw [e] at h
  obtain ⟨h1, h2⟩ := spot_none h
  refine ⟨?_, h2⟩
  cases x
  simp at h1
  subst h1
  rfl
section
variable {H : Type} {enc : TypeId × Value → H} {P : Program} {w : World} {base : Nat} {spare : Nat → Bool} {held : Bool}
/-- The cells of a slice of structs of one-cell fields. -/
theorem open_rows {t e : TypeId} {fs : Array Field} {fuel : Nat} {cs : List Value} {x : DataW H × List MemPlace} (ht : P.underlying t = some (.slice e)) (he : P.underlying e = some (.struct fs))
    (hone : Deep.oneCellFields P fs = true) (hC : P.cellsOf e = fs.size) (h : DataW.trod enc P w base spare held fuel t cs = some x) :
    cs = [.slice none 0 0] ∨ ∃ (a : Addr) (len cap : Nat), cs = [.slice (some a) len cap] ∧ len ≤ cap ∧ cap ≤ maxLen ∧
      ∀ i, i < len → ∀ (j : Nat) (f : Field), fs[j]? = some f → ∃ (v : Value) (y : DataW H × List MemPlace) (n : Nat), w.cell? (a.add (i * fs.size + j)) = some v ∧ DataW.trod enc P w base spare held n f.type [v] = some y := by
  rcases Deep.open_slice ht h with ⟨h0, -⟩ | ⟨a, len, cap, m, n, D, Pl, hcs, -, hl, hm, hmm, -, hi⟩
  · exact .inl h0
  · refine .inr ⟨a, len, cap, hcs, hl, hm, fun i hlt j f hj => ?_⟩
    have him : i < m := by rw [hmm]; split <;> omega
    obtain ⟨cs', hc, ht'⟩ := hi i him
    rw [hC] at hc
    obtain ⟨ys, n', -, -, -, hyl, hf⟩ := DataW.trod_struct he ht'
    obtain ⟨-, hcl, hat⟩ := World.cells?_some hc
    obtain ⟨ho, hk⟩ := Deep.hone_of hone j f hj
    have hjl : j < fs.size := (Array.getElem?_eq_some_iff.1 hj).1
    have h1 := hf j f hj
    rw [ho, hk, List.drop_eq_getElem_cons (by omega)] at h1
    have hys : ys[j]? = some (ys[j]'(by omega)) := List.getElem?_eq_getElem (by omega)
    refine ⟨cs'[j]'(by omega), ys[j]'(by omega), n', ?_, ?_⟩
    · rw [← Deep.add_add, hat j hjl]; exact List.getElem?_eq_getElem (by omega)
    · rw [← hys, ← h1]; rfl
end

section
variable {H : Type} {enc : TypeId × Value → H} {P : Program} {w : World} {base : Nat} {spare : Nat → Bool} {held : Bool}
/-- An array of integers as an argument. -/
theorem open_ints {t e : TypeId} {n : Nat} {k : IntKind} {r : Reach} {b0 : Nat} {v : Value} {d : DataW H} {p : List MemPlace} (ht : P.underlying t = some (.array n e)) (he : P.underlying e = some (.int k)) (hc : P.cellsOf e = 1) (hct : P.cellsOf t = n)
    (hok : Value.okWide P w r b0 t v) (h : DataW.Trod enc P w base spare held t v d p) : ∃ f : Nat → Int, v = .agg ((List.range n).map fun i => .int k (f i)).toArray ∧ ∀ i, i < n → (Lit.int k (f i)).wf = true := by
  simp only [Value.okWide, ht] at hok
  obtain ⟨cs, rfl, hs, -⟩ := hok
  obtain ⟨fuel, hf⟩ := h
  obtain ⟨xs, m, -, -, -, hxl, hi⟩ := DataW.trod_array ht hf
  have hsz : cs.size = n := by rw [hs, hct]
  have key : ∀ i, i < n → ∃ q, cs[i]? = some (.int k q) ∧ (Lit.int k q).wf = true := by
    intro i hlt
    have h1 := hi i hlt
    rw [hc, Nat.mul_one] at h1
    have hys : xs[i]? = some (xs[i]'(by omega)) := List.getElem?_eq_getElem (by omega)
    rw [hys] at h1
    obtain ⟨q, e1, -, g⟩ := DataW.trod_int he h1
    refine ⟨q, ?_, g⟩
    have hv : Value.cells (.agg cs) = cs := rfl
    rw [hv, List.drop_eq_getElem_cons (by simpa using (by omega : i < cs.size))] at e1
    simp at e1
    rw [Array.getElem?_eq_getElem (by omega), e1]
  refine ⟨fun i => match cs[i]? with | some (.int _ q) => q | _ => 0, ?_, fun i hlt => ?_⟩
  · congr 1
    apply Array.ext
    · simp [hsz]
    · intro i h1 h2
      obtain ⟨q, e1, -⟩ := key i (by omega)
      have e2 : cs[i] = .int k q := by rw [Array.getElem?_eq_getElem h1] at e1; exact Option.some.inj e1
      simp [e1, e2]
  · obtain ⟨q, e1, g⟩ := key i hlt
    simp only [e1]
    exact g
end

def Cols22 (w : World) (a : Option Addr) (len : Nat) (F0 : Nat → Int) : Prop :=
  0 < len → ∃ b o, a = some ⟨b, o, none⟩ ∧ b < w.heap.size ∧ ∀ i, i < len → w.cell? ⟨b, o + i, none⟩ = some (.int .u8 (F0 i))
def Row22 (w : World) (a : Option Addr) (len cap : Nat) (F0 : Nat → Int) : Prop := Cols22 w a len F0 ∧ (a = none → len = 0) ∧ len ≤ maxLen ∧ len ≤ cap ∧ ∀ i, i < len → (Lit.int .u8 (F0 i)).wf = true
theorem row22 {H : Type} {enc : TypeId × Value → H} {w : World} {a : Option Addr} {len cap : Nat} {d : DataW H} {p : List MemPlace} (h : DataW.Trod enc Tryd.prog w 0 (fun _ => true) true 22 (.slice a len cap) d p) :
    ∃ (F0 : Nat → Int), Row22 w a len cap F0 := by
  obtain ⟨fuel, hf⟩ := h
  rcases Deep.open_slice1 Tryd.underlying22 (by kernel_rfl) hf with ⟨hcs, -⟩ | ⟨x, l, c, m, n, V, D, Pl, hcs, -, hl, hm, hmm, -, hi⟩
  · simp [Value.cells] at hcs
    obtain ⟨rfl, rfl, rfl⟩ := hcs
    exact ⟨fun _ => 0, fun h => absurd h (by omega), fun _ => rfl, Nat.zero_le _, Nat.zero_le _, fun i h => absurd h (by omega)⟩
  · simp [Value.cells] at hcs
    obtain ⟨rfl, rfl, rfl⟩ := hcs
    have key : ∀ i, ∃ z : Int, i < len → w.cell? (x.add i) = some (.int .u8 (z)) ∧ (Lit.int .u8 (z)).wf = true := by
      intro i
      by_cases hlt : i < len
      · obtain ⟨c0, t0⟩ := hi i (by rw [hmm]; split <;> omega)
        obtain ⟨q0, e0, -, g0⟩ := DataW.trod_int Tryd.underlying5 t0
        rw [show V i = .int .u8 (q0) from by simpa using e0] at c0
        exact ⟨q0, fun _ => ⟨c0, g0⟩⟩
      · exact ⟨0, fun h => absurd h hlt⟩
    obtain ⟨F, hF⟩ := Classical.axiomOfChoice key
    refine ⟨fun i => (F i), fun h0 => ?_, (fun h => by cases h), Nat.le_trans hl hm, hl, fun i hlt => ?_⟩
    · obtain ⟨ex, hb⟩ := spelt (by rfl) (hF 0 h0).1
      refine ⟨x.block, x.off, by rw [← ex], hb, fun i hlt => ?_⟩
      have hh := hF i hlt
      rw [ex] at hh
      simp only [Addr.add_mid] at hh
      exact hh.1
    · obtain ⟨_, g0⟩ := hF i hlt
      exact g0

def great : List String := ["unicode.CaseRanges", "unicode/utf8.first"]
noncomputable def startW (os : Os) : World := (World.doorLaid Tryd.prog 400 os).layVars Tryd.prog (Rows.fnMangleCornersCaseTableRow.laid.filter fun x => great.contains x.1)
theorem start_met (os : Os) (args : Array Value) : laidMet Tryd.prog Rows.fnMangleCornersCaseTableRow.laid ((startW os).forCall (fun _ _ => 0) ⟨#[], args, []⟩).memory := by
  have h : laidMet Tryd.prog Rows.fnMangleCornersCaseTableRow.laid (startW os) := laidMet_layVars (w0 := World.doorLaid Tryd.prog 400 os) great [3] rfl (by kernel_rfl) (by kernel_rfl) (LaidIn.of_run _ 8 (by kernel_rfl) (by kernel_rfl) (by kernel_rfl) (by kernel_rfl))
  exact h.of_heap (by simp [World.memory, World.forCall, Input.heap])

theorem vars_len {H : Type} {enc : TypeId × Value → H} {P : Program} {w : World} {spare : Nat → Bool} : ∀ {ns : List String} {gs : List (DataW H)} {ps : List MemPlace}, DataW.TrodVars enc P w spare ns gs ps → gs.length = ns.length
  | [], gs, ps, h => by simp [(trodVars_none h).1]
  | n :: ns, [], ps, h => by simp [DataW.TrodVars] at h
  | n :: ns, d :: ds, ps, h => by
    obtain ⟨g, t, cs, fuel, p, q, h1, h2, h3, h4, hs, e⟩ := h
    simp [vars_len hs]
theorem accept_eq : (Rows.laid_unicode_utf8_acceptRanges : DataW Unit) = Lib.acceptData := by kernel_rfl
set_option maxRecDepth 100000 in
theorem lifted (os : Os) (started : os.Started) (H : Type) (enc : TypeId × Value → H) :
    ReturnsInHanded {} Tryd.checked os 3 .any (fun w args => (Rows.fnMangleCornersCaseTableSpec.pre enc Tryd.prog Tryd.f3 [] false w args ∧ laidMetH Tryd.prog Rows.fnMangleCornersCaseTableRow.laid w) ∧ sizedMet enc Tryd.prog Tryd.f3 (OpenSpec.ofChange Rows.fnMangleCornersCaseTableSpec) false w args) (Rows.fnMangleCornersCaseTableSpec.post enc Tryd.prog Tryd.f3 false true false false) := by
  refine returnsInHanded_of_change_and (C := Tryd.checked) (X := fun w _ => laidMetH Tryd.prog Rows.fnMangleCornersCaseTableRow.laid w) (fun _ _ _ hh h => h.of_heap hh) own started (by kernel_rfl) Tryd.func3
    (ChangeSpec.witness_shaped (enc := enc) (C := Tryd.checked) (os := os) (X := fun w _ => laidMetH Tryd.prog Rows.fnMangleCornersCaseTableRow.laid w) false (startW os) #[.slice none 0 0, .bool false, .bool false, .int .i32 0] 8 (World.layVars_os _ _ _)
      (World.shaped_of_ZipB (by kernel_rfl) (by kernel_rfl)) (by kernel_rfl) (by kernel_rfl) (by kernel_rfl)
      (by rw [MakeChecks.laidMetH_plain _ _ _ (by kernel_rfl)]; exact start_met os _)) ?_
  intro W base args ds gs before hval0 hW _ _ hL _
  have hval : ∀ (j : Nat) t v, Tryd.f3.params[j]? = some t → args[j]? = some v → Value.okWide Tryd.prog W .any base t v := hval0
  have hW' := hW
  obtain ⟨p, q, hA0, hV, rfl, _, _⟩ := hW
  have hA : DataW.TrodAll enc Tryd.prog W 0 (fun _ => true) true Tryd.f3.params.toList args.toList ds p := hA0
  rw [MakeChecks.laidMetH_plain _ _ _ (by kernel_rfl)] at hL
  rw [Tryd.params3] at hA hval
  obtain ⟨v0, vs0, d0, ds0, p0, q0, hargs, rfl, rfl, h0, r0⟩ := trodAll_cons hA
  obtain ⟨v1, vs1, d1, ds1, p1, q1, rfl, rfl, rfl, h1, r1⟩ := trodAll_cons r0
  obtain ⟨v2, vs2, d2, ds2, p2, q2, rfl, rfl, rfl, h2, r2⟩ := trodAll_cons r1
  obtain ⟨v3, vs3, d3, ds3, p3, q3, rfl, rfl, rfl, h3, r3⟩ := trodAll_cons r2
  obtain ⟨rfl, rfl, rfl⟩ := trodAll_nil r3
  obtain rfl : args = #[v0, v1, v2, v3] := by cases args; simp_all
  have hVk := hV
  obtain ⟨rfl, -⟩ := trodVars_none hV
  obtain ⟨a0, len0, cap0, rfl⟩ := okWide_slice Tryd.underlying22 (hval 0 22 v0 rfl rfl)
  have k0 := h0
  have lt0 : ∀ x ∈ p0, x.block < W.heap.size := by obtain ⟨m, hm⟩ := k0; exact DataW.trod_lt m _ _ _ hm
  obtain ⟨F0x0, w0⟩ := row22 h0
  obtain ⟨a1, rfl, rfl, rfl⟩ := open_bool Tryd.underlying4 (hval 1 4 v1 rfl rfl) h1
  obtain ⟨a2, rfl, rfl, rfl⟩ := open_bool Tryd.underlying4 (hval 2 4 v2 rfl rfl) h2
  obtain ⟨a3, rfl, rfl, rfl, w3⟩ := open_int Tryd.underlying21 (hval 3 21 v3 rfl rfl) h3
  clear hA0 hval0
  refine (ZT.law3f a0 len0 cap0 F0x0 a1 a2 a3 W w0.1 w0.2.1 w0.2.2.1 w0.2.2.2.2 w3).mono fun e W' ⟨he, bel⟩ => ?_
  subst he
  exact ⟨_, rfl, _, _, _, [], _, q, hW', trodAll_mk1 (shut_bool Tryd.underlying4 _), (trodAll_cons_mk (Below.trod laidOut (by kernel_rfl) (of_decide_eq_true (by kernel_rfl)) k0 bel lt0) (trodAll_cons_mk (shut_bool Tryd.underlying4 a1) (trodAll_cons_mk (shut_bool Tryd.underlying4 a2) (trodAll_cons_mk (shut_int Tryd.underlying21 w3) trodAll_mk0)))), bel.trodVars laidOut (by kernel_rfl) hVk, bel.frame _, fun h => by cases h⟩

theorem over : Rows.fnMangleCornersCaseTableRow.holds Tryd.pinned (OpenSpec.ofChange Rows.fnMangleCornersCaseTableSpec) :=
  OpenClaim.holds_of_wide 3 Tryd.f3 rfl rfl rfl rfl rfl rfl rfl ⟨rfl, rfl, rfl, rfl, rfl⟩ rfl rfl rfl rfl rfl (by kernel_rfl) Tryd.func3 (by kernel_rfl)
    (of_decide_eq_true (by kernel_rfl)) (by unfold Func.isWrapper; first | (rw [if_pos (by decide +kernel)]; kernel_rfl) | (rw [if_neg (by decide +kernel)]; exact ⟨rfl, rfl⟩))
    (fun os started H enc _ => lifted os started H enc)

theorem proved : Rows.FnMangleCornersCaseTableCardSaid :=
  Claim7.holds_tied_plain_at .later [] [.data, .pinned, .pinned] true (true, "0578c68a37cdefd32d3adfc15036bfb9a859ecc9fe0b826342c80a0a74907d0e") true over (fun _ h => by cases h) (by kernel_rfl) (fun _ h => by cases h) fnMangleCornersCaseTable_row_tie rfl ⟨rfl, rfl⟩ (by kernel_rfl) rfl
    (fun f fn hf hfn => by
      obtain rfl : f = 3 := Option.some.inj ((show Tryd.prog.funcNamed "github.com/evanw/esbuild/n011_161.FnMangleCornersCaseTable" = some 3 by kernel_rfl).symm.trans hf) |>.symm
      obtain rfl : fn = Tryd.f3 := (Option.some.inj (Tryd.func3.symm.trans hfn)).symm
      exact ⟨by kernel_rfl, fun j t ht => by
        rw [Tryd.params3] at ht
        have hm : t ∈ [22, 4, 4, 21] := by simpa using Array.mem_of_getElem? ht
        have hall : ([22, 4, 4, 21].all fun u => !Tryd.prog.wantsStandIn u) = true := by kernel_rfl
        exact (show Tryd.prog.wantsStandIn t = false by simpa using List.all_eq_true.1 hall t hm)⟩)
    (by kernel_rfl)
#print axioms proved
end Go.Proofs.YtnolnlekdlfeaaaDoor.fnMangleCornersCaseTable

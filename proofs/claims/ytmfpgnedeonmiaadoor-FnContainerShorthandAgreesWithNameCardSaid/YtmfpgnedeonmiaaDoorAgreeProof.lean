/- The container shorthand treats the names as container-name treats them. -/
import Derived.Test.YtmfpgnedeonmiaaDoorRows
import Derived.Test.YtmfpgnedeonmiaaDoorCards
import Derived.Test.YtmfpgnedeonmiaaDoorTie
import Derived.Test.YtmfpgnedeonmiaaDoorHi
import Derived.WalkKit
import Derived.ProofKit
import Derived.OpenShut
import Derived.ShutString
import Derived.ChangeOld
import Derived.Below
import Derived.Laws.Cover2
import Derived.Deep.Slices
import Derived.Deep.Fields
import Derived.Deep.MidRow
import Derived.PinnedBridge
import Derived.Lay
import Derived.LaidOnce
import Derived.SevenTiedAt
import Derived.Lib.LaidCase
import Derived.Lib.LaidU8
import Derived.LaidMore
import Derived.OpenVars
import Derived.ChangeVars
import Derived.Stop.Joined
namespace Go.Proofs.YtmfpgnedeonmiaaDoor.fnContainerShorthandAgreesWithName
open Go.ChangeShapes Go.WideShapes Go.ChangeAt Go.RowKit
open Go.ChangeMaps (open_string shut_string)
open Go.WideMaps Go.WideElems
set_option linter.unusedVariables false

theorem own : ownKnob Tryd.prog.godebug = none := by kernel_rfl
theorem laidOut : laidOutB Tryd.prog = true := by kernel_rfl

theorem spot_none {w : World} {a : Addr} {v : Value} (h : w.cell? a = some v) : a.spot = none ∧ a.block < w.heap.size := by
  unfold World.cell? at h
  split at h
  · rename_i c e f hh
    refine ⟨?_, ?_⟩
    · cases hs : a.spot with
      | none => rfl
      | some x => rw [hs] at h; simp at h
    · rcases Nat.lt_or_ge a.block w.heap.size with hlt | hge
      · exact hlt
      · rw [Array.getElem?_eq_none hge] at hh; cases hh
  · cases h
theorem spelt {w : World} {x : Addr} {j : Nat} {v : Value} (hj : j = 0) (h : w.cell? (x.add j) = some v) : x = ⟨x.block, x.off, none⟩ ∧ x.block < w.heap.size := by
  subst hj
  have e : x.add 0 = x := by unfold Addr.add; rw [if_pos rfl]
  rw [e] at h
  obtain ⟨h1, h2⟩ := spot_none h
  refine ⟨?_, h2⟩
  cases x
  simp at h1
  subst h1
  rfl
section
variable {H : Type} {enc : TypeId × Value → H} {P : Program} {w : World} {base : Nat} {spare : Nat → Bool} {held : Bool}
/-- The cells of a slice of structs of one-cell fields. -/
theorem open_rows {t e : TypeId} {fs : Array Field} {fuel : Nat} {cs : List Value} {x : DataW H × List MemPlace} (ht : P.underlying t = some (.slice e)) (he : P.underlying e = some (.struct fs))
    (hone : Deep.oneCellFields P fs = true) (hC : P.cellsOf e = fs.size) (h : DataW.trod enc P w base spare held fuel t cs = some x) :
    cs = [.slice none 0 0] ∨ ∃ (a : Addr) (len cap : Nat), cs = [.slice (some a) len cap] ∧ len ≤ cap ∧ cap ≤ maxLen ∧
      ∀ i, i < len → ∀ (j : Nat) (f : Field), fs[j]? = some f → ∃ (v : Value) (y : DataW H × List MemPlace) (n : Nat), w.cell? (a.add (i * fs.size + j)) = some v ∧ DataW.trod enc P w base spare held n f.type [v] = some y := by
  rcases Deep.open_slice ht h with ⟨h0, -⟩ | ⟨a, len, cap, m, n, D, Pl, hcs, -, hl, hm, hmm, -, hi⟩
  · exact .inl h0
  · refine .inr ⟨a, len, cap, hcs, hl, hm, fun i hlt j f hj => ?_⟩
    have him : i < m := by rw [hmm]; split <;> omega
    obtain ⟨cs', hc, ht'⟩ := hi i him
    rw [hC] at hc
    obtain ⟨ys, n', -, -, -, hyl, hf⟩ := DataW.trod_struct he ht'
    obtain ⟨-, hcl, hat⟩ := World.cells?_some hc
    obtain ⟨ho, hk⟩ := Deep.hone_of hone j f hj
    have hjl : j < fs.size := (Array.getElem?_eq_some_iff.1 hj).1
    have h1 := hf j f hj
    rw [ho, hk, List.drop_eq_getElem_cons (by omega)] at h1
    have hys : ys[j]? = some (ys[j]'(by omega)) := List.getElem?_eq_getElem (by omega)
    refine ⟨cs'[j]'(by omega), ys[j]'(by omega), n', ?_, ?_⟩
    · rw [← Deep.add_add, hat j hjl]; exact List.getElem?_eq_getElem (by omega)
    · rw [← hys, ← h1]; rfl
end

def Cols36 (w : World) (a : Option Addr) (len : Nat) (F0 : Nat → ByteArray) : Prop :=
  0 < len → ∃ b o, a = some ⟨b, o, none⟩ ∧ b < w.heap.size ∧ ∀ i, i < len → w.cell? ⟨b, o + i, none⟩ = some (.string (F0 i))
def Row36 (w : World) (a : Option Addr) (len cap : Nat) (F0 : Nat → ByteArray) : Prop := Cols36 w a len F0 ∧ (a = none → len = 0) ∧ len ≤ maxLen ∧ len ≤ cap ∧ ∀ i, i < len → (F0 i).size ≤ maxLen
theorem row36 {H : Type} {enc : TypeId × Value → H} {w : World} {a : Option Addr} {len cap : Nat} {d : DataW H} {p : List MemPlace} (h : DataW.Trod enc Tryd.prog w 0 (fun _ => true) true 36 (.slice a len cap) d p) :
    ∃ (F0 : Nat → ByteArray), Row36 w a len cap F0 := by
  obtain ⟨fuel, hf⟩ := h
  rcases Deep.open_slice1 Tryd.underlying36 (by kernel_rfl) hf with ⟨hcs, -⟩ | ⟨x, l, c, m, n, V, D, Pl, hcs, -, hl, hm, hmm, -, hi⟩
  · simp [Value.cells] at hcs
    obtain ⟨rfl, rfl, rfl⟩ := hcs
    exact ⟨fun _ => ByteArray.empty, fun h => absurd h (by omega), fun _ => rfl, Nat.zero_le _, Nat.zero_le _, fun i h => absurd h (by omega)⟩
  · simp [Value.cells] at hcs
    obtain ⟨rfl, rfl, rfl⟩ := hcs
    have key : ∀ i, ∃ z : ByteArray, i < len → w.cell? (x.add i) = some (.string (z)) ∧ (z).size ≤ maxLen := by
      intro i
      by_cases hlt : i < len
      · obtain ⟨c0, t0⟩ := hi i (by rw [hmm]; split <;> omega)
        obtain ⟨q0, e0, -, g0⟩ := DataW.trod_string Tryd.underlying9 t0
        rw [show V i = .string (q0) from by simpa using e0] at c0
        exact ⟨q0, fun _ => ⟨c0, g0⟩⟩
      · exact ⟨ByteArray.empty, fun h => absurd h hlt⟩
    obtain ⟨F, hF⟩ := Classical.axiomOfChoice key
    refine ⟨fun i => (F i), fun h0 => ?_, (fun h => by cases h), Nat.le_trans hl hm, hl, fun i hlt => ?_⟩
    · obtain ⟨ex, hb⟩ := spelt (by rfl) (hF 0 h0).1
      refine ⟨x.block, x.off, by rw [← ex], hb, fun i hlt => ?_⟩
      have hh := hF i hlt
      rw [ex] at hh
      simp only [Addr.add_mid] at hh
      exact hh.1
    · obtain ⟨_, g0⟩ := hF i hlt
      exact g0

theorem keyLaw : KeyLaw Tryd.prog 9 := string_law Tryd.underlying9
theorem gMap0 : Tryd.prog.globalNamed "github.com/evanw/esbuild/internal/css_parser.cssWideAndReservedKeywords" = some 0 := by kernel_rfl
theorem tMap0 : (Tryd.prog.globals[0]?).map (·.type) = some 115 := by kernel_rfl
set_option maxRecDepth 100000 in
theorem atKey_words0 (l : List UInt8) (z : DataW Unit) : (Rows.laid_github_com_evanw_esbuild_internal_css_parser_cssWideAndReservedKeywords : DataW Unit).atKey (.string l) z = if l ∈ WA.mapW then .lit (.bool true) else z := by
  by_cases h : l ∈ WA.mapW
  · rw [if_pos h]
    unfold WA.mapW at h
    simp only [List.mem_cons, List.not_mem_nil, or_false] at h
    rcases h with rfl | rfl | rfl | rfl | rfl | rfl <;> rfl
  · rw [if_neg h]
    unfold Rows.laid_github_com_evanw_esbuild_internal_css_parser_cssWideAndReservedKeywords DataW.atKey
    dsimp only
    rw [List.find?_eq_none.2]
    intro p hp hk
    apply h
    simp only [List.mem_cons, List.not_mem_nil, or_false] at hp
    rcases hp with rfl | rfl | rfl | rfl | rfl | rfl
    all_goals
      simp only [Lit.sameKey, beq_iff_eq] at hk
      rw [← hk]
      decide
set_option maxRecDepth 100000 in
theorem of_map0 {W : World} (hL : laidMet Tryd.prog Rows.fnContainerShorthandAgreesWithNameRow.laid W) : WA.KW W := by
  obtain ⟨g, t, cs, fuel, p, hg, hty, hvar, hd⟩ := Lib.laidMet.reads hL (.tail _ (.tail _ (.head _)))
  obtain rfl := Option.some.inj (gMap0.symm.trans hg)
  obtain rfl := Option.some.inj (tMap0.symm.trans hty)
  rcases open_map Tryd.underlying115 hd with ⟨_, hx⟩ | ⟨bm, es, clock, m, rfl, hcs, hb, _, F, hx⟩
  · simp [Rows.laid_github_com_evanw_esbuild_internal_css_parser_cssWideAndReservedKeywords] at hx
  simp only [Prod.mk.injEq] at hx
  have hcell : W.cell? ⟨0, 0, none⟩ = some (.map (some bm)) := by
    have := World.var?_cell hg hvar 0
    rw [Array.eq_one_of_toList hcs] at this
    simpa using this
  have hbl : bm < W.heap.size := (Array.getElem?_eq_some_iff.1 hb).1
  refine ⟨bm, hcell, (spot_none hcell).2, hbl, fun w' e s hs => ?_⟩
  have zero : (zeroValue 4).run Tryd.prog w' = .ok (.bool false) w' := by kernel_rfl
  rcases fit_lookup (w := w') keyLaw Tryd.underlying115 zero (e.trans hb) F (keyOf_string_mk (s := s) Tryd.underlying9 hs) with ⟨hrun, hat⟩ | ⟨v, y, hrun, hRv, hat, _⟩
  · have h1 := hat .nil
    rw [← hx.1, atKey_words0] at h1
    have hn : ¬ s.data.toList ∈ WA.mapW := fun h => by rw [if_pos h] at h1; cases h1
    rw [decide_eq_false_iff_not.2 hn]
    exact hrun
  · obtain ⟨r, rfl, rfl⟩ := elemAt_bool Tryd.underlying4 hRv
    have h1 := hat .nil
    rw [← hx.1, atKey_words0] at h1
    by_cases h : s.data.toList ∈ WA.mapW
    · rw [if_pos h] at h1
      cases h1
      rw [decide_eq_true_iff.2 h]
      exact hrun
    · rw [if_neg h] at h1
      cases h1
theorem gRef0 : Tryd.prog.globalNamed "github.com/evanw/esbuild/internal/ast.InvalidRef" = some 1 := by kernel_rfl
theorem tRef0 : (Tryd.prog.globals[1]?).map (·.type) = some 103 := by kernel_rfl
theorem of_ref0 {W : World} (hL : laidMet Tryd.prog Rows.fnContainerShorthandAgreesWithNameRow.laid W) : 1 < W.heap.size ∧ W.cell? ⟨1, 0, none⟩ = some (.int .u32 4294967295) ∧ W.cell? ⟨1, 1, none⟩ = some (.int .u32 4294967295) := by
  obtain ⟨g, t, cs, fuel, p, hg, hty, hvar, hd⟩ := Lib.laidMet.reads hL (.tail _ (.head _))
  obtain rfl := Option.some.inj (gRef0.symm.trans hg)
  obtain rfl := Option.some.inj (tRef0.symm.trans hty)
  have hcs := Lib.ints_of_struct (k := .u32) (zs := [4294967295, 4294967295]) Tryd.underlying103 (fun i f hi => by
    match i, hi with
    | 0, hi => obtain rfl := Option.some.inj hi; exact ⟨by kernel_rfl, rfl, by kernel_rfl⟩
    | 1, hi => obtain rfl := Option.some.inj hi; exact ⟨by kernel_rfl, rfl, by kernel_rfl⟩
    | (n + 2), hi => simp at hi) (by kernel_rfl) hd
  have hc := fun j => World.var?_cell hg hvar j
  obtain ⟨cs⟩ := cs
  simp only at hcs
  subst hcs
  have h0 : W.cell? ⟨1, 0, none⟩ = some (.int .u32 4294967295) := by simpa using hc 0
  exact ⟨(spot_none h0).2, h0, by simpa using hc 1⟩
def great : List String := ["unicode.CaseRanges", "unicode/utf8.first"]
noncomputable def startW (os : Os) : World := (World.doorLaid Tryd.prog 400 os).layVars Tryd.prog (Rows.fnContainerShorthandAgreesWithNameRow.laid.filter fun x => great.contains x.1)
theorem start_met (os : Os) (args : Array Value) : laidMet Tryd.prog Rows.fnContainerShorthandAgreesWithNameRow.laid ((startW os).forCall (fun _ _ => 0) ⟨#[], args, []⟩).memory := by
  have h : laidMet Tryd.prog Rows.fnContainerShorthandAgreesWithNameRow.laid (startW os) := laidMet_layVars (w0 := World.doorLaid Tryd.prog 400 os) great [0, 1, 5, (World.doorLaid Tryd.prog 400 default).heap.size - 1] rfl (by kernel_rfl) (by kernel_rfl) (LaidIn.of_run _ 8 (by kernel_rfl) (by kernel_rfl) (by kernel_rfl) (by kernel_rfl))
  exact h.of_heap (by simp [World.memory, World.forCall, Input.heap])

theorem vars_len {H : Type} {enc : TypeId × Value → H} {P : Program} {w : World} {spare : Nat → Bool} : ∀ {ns : List String} {gs : List (DataW H)} {ps : List MemPlace}, DataW.TrodVars enc P w spare ns gs ps → gs.length = ns.length
  | [], gs, ps, h => by simp [(trodVars_none h).1]
  | n :: ns, [], ps, h => by simp [DataW.TrodVars] at h
  | n :: ns, d :: ds, ps, h => by
    obtain ⟨g, t, cs, fuel, p, q, h1, h2, h3, h4, hs, e⟩ := h
    simp [vars_len hs]
theorem accept_eq : (Rows.laid_unicode_utf8_acceptRanges : DataW Unit) = Lib.acceptData := by kernel_rfl
set_option maxRecDepth 100000 in
theorem lifted (os : Os) (started : os.Started) (H : Type) (enc : TypeId × Value → H) :
    ReturnsInHanded {} Tryd.checked os 4 .any (fun w args => (Rows.fnContainerShorthandAgreesWithNameSpec.pre enc Tryd.prog Tryd.f4 [] false w args ∧ laidMetH Tryd.prog Rows.fnContainerShorthandAgreesWithNameRow.laid w) ∧ sizedMet enc Tryd.prog Tryd.f4 (OpenSpec.ofChange Rows.fnContainerShorthandAgreesWithNameSpec) false w args) (Rows.fnContainerShorthandAgreesWithNameSpec.post enc Tryd.prog Tryd.f4 false true false false) := by
  refine returnsInHanded_of_change_and (C := Tryd.checked) (X := fun w _ => laidMetH Tryd.prog Rows.fnContainerShorthandAgreesWithNameRow.laid w) (fun _ _ _ hh h => h.of_heap hh) own started (by kernel_rfl) Tryd.func4
    (ChangeSpec.witness_shaped (enc := enc) (C := Tryd.checked) (os := os) (X := fun w _ => laidMetH Tryd.prog Rows.fnContainerShorthandAgreesWithNameRow.laid w) false (startW os) #[.slice none 0 0, .bool false, .string ByteArray.empty, .bool false] 8 (World.layVars_os _ _ _)
      (World.shaped_of_ZipB (by kernel_rfl) (by kernel_rfl)) (by kernel_rfl) (by kernel_rfl) (by kernel_rfl)
      (by rw [MakeChecks.laidMetH_plain _ _ _ (by kernel_rfl)]; exact start_met os _)) ?_
  intro W base args ds gs before hval0 hW _ _ hL _
  have hval : ∀ (j : Nat) t v, Tryd.f4.params[j]? = some t → args[j]? = some v → Value.okWide Tryd.prog W .any base t v := hval0
  have hW' := hW
  obtain ⟨p, q, hA0, hV, rfl, _, _⟩ := hW
  have hA : DataW.TrodAll enc Tryd.prog W 0 (fun _ => true) true Tryd.f4.params.toList args.toList ds p := hA0
  rw [MakeChecks.laidMetH_plain _ _ _ (by kernel_rfl)] at hL
  have hT : WA.Flat W := ⟨caseVar_of_reads { Tryd.lays159 with } Tryd.lays159.t206 ⟨by kernel_rfl, by kernel_rfl, by kernel_rfl, by kernel_rfl, by kernel_rfl, by kernel_rfl⟩ (Pinned.caseRanges_eq ▸ Lib.laidMet.reads hL (.tail _ (.tail _ (.tail _ (.head _))))),
    utf8Tabs_of_reads { Tryd.lays159 with } ⟨by kernel_rfl, by kernel_rfl, by kernel_rfl, by kernel_rfl, by kernel_rfl, by kernel_rfl, by kernel_rfl⟩ (Pinned.utf8First_eq ▸ Lib.laidMet.reads hL (.tail _ (.tail _ (.tail _ (.tail _ (.head _)))))) (accept_eq ▸ Lib.laidMet.reads hL (.head _)), of_map0 hL, of_ref0 hL⟩
  rw [Tryd.params4] at hA hval
  obtain ⟨v0, vs0, d0, ds0, p0, q0, hargs, rfl, rfl, h0, r0⟩ := trodAll_cons hA
  obtain ⟨v1, vs1, d1, ds1, p1, q1, rfl, rfl, rfl, h1, r1⟩ := trodAll_cons r0
  obtain ⟨v2, vs2, d2, ds2, p2, q2, rfl, rfl, rfl, h2, r2⟩ := trodAll_cons r1
  obtain ⟨v3, vs3, d3, ds3, p3, q3, rfl, rfl, rfl, h3, r3⟩ := trodAll_cons r2
  obtain ⟨rfl, rfl, rfl⟩ := trodAll_nil r3
  obtain rfl : args = #[v0, v1, v2, v3] := by cases args; simp_all
  have hVk := hV
  obtain ⟨x0, x1, rfl⟩ : ∃ x0 x1, gs = [x0, x1] := by
    have hl := vars_len hV
    change gs.length = 2 at hl
    match gs, hl with
    | [x0, x1], _ => exact ⟨x0, x1, rfl⟩
  obtain ⟨a0, len0, cap0, rfl⟩ := okWide_slice Tryd.underlying36 (hval 0 36 v0 rfl rfl)
  have k0 := h0
  have lt0 : ∀ x ∈ p0, x.block < W.heap.size := by obtain ⟨m, hm⟩ := k0; exact DataW.trod_lt m _ _ _ hm
  obtain ⟨F0x0, w0⟩ := row36 h0
  obtain ⟨a1, rfl, rfl, rfl⟩ := open_bool Tryd.underlying4 (hval 1 4 v1 rfl rfl) h1
  obtain ⟨a2, rfl, rfl, rfl, w2⟩ := open_string Tryd.underlying9 (hval 2 9 v2 rfl rfl) h2
  obtain ⟨a3, rfl, rfl, rfl⟩ := open_bool Tryd.underlying4 (hval 3 4 v3 rfl rfl) h3
  clear hA0 hval0
  refine (WA.lawA' a0 len0 cap0 F0x0 a1 a2 a3 W w0.1 w0.2.1 w0.2.2.1 w2 hT).mono fun e W' ⟨he, bel⟩ => ?_
  subst he
  exact ⟨_, rfl, _, _, _, [], _, q, hW', trodAll_mk1 (shut_bool Tryd.underlying4 _), (trodAll_cons_mk (Below.trod laidOut (by kernel_rfl) (of_decide_eq_true (by kernel_rfl)) k0 bel lt0) (trodAll_cons_mk (shut_bool Tryd.underlying4 a1) (trodAll_cons_mk (shut_string Tryd.underlying9 w2) (trodAll_cons_mk (shut_bool Tryd.underlying4 a3) trodAll_mk0)))), bel.trodVars laidOut (by kernel_rfl) hVk, bel.frame _, fun h => by cases h⟩

theorem over : Rows.fnContainerShorthandAgreesWithNameRow.holds Tryd.pinned (OpenSpec.ofChange Rows.fnContainerShorthandAgreesWithNameSpec) :=
  OpenClaim.holds_of_wide 4 Tryd.f4 rfl rfl rfl rfl rfl rfl rfl ⟨rfl, rfl, rfl, rfl, rfl⟩ rfl rfl rfl rfl rfl (by kernel_rfl) Tryd.func4 (by kernel_rfl)
    (of_decide_eq_true (by kernel_rfl)) (by unfold Func.isWrapper; first | (rw [if_pos (by decide +kernel)]; kernel_rfl) | (rw [if_neg (by decide +kernel)]; exact ⟨rfl, rfl⟩))
    (fun os started H enc _ => lifted os started H enc)

theorem proved : Rows.FnContainerShorthandAgreesWithNameCardSaid :=
  Claim7.holds_tied_plain_at .later [] [.data, .data, .mapped, .pinned, .pinned] true (true, "0946a2ad8cb4c43dce23090bf9e0e49eb5b137bd1e63e0415789a1bf1d8020e3") false over (fun _ h => by cases h) (by kernel_rfl) (fun _ h => by cases h) fnContainerShorthandAgreesWithName_row_tie rfl ⟨rfl, rfl⟩ (by kernel_rfl) rfl
    (fun f fn hf hfn => by
      obtain rfl : f = 4 := Option.some.inj ((show Tryd.prog.funcNamed "github.com/evanw/esbuild/n011_185.FnContainerShorthandAgreesWithName" = some 4 by kernel_rfl).symm.trans hf) |>.symm
      obtain rfl : fn = Tryd.f4 := (Option.some.inj (Tryd.func4.symm.trans hfn)).symm
      exact ⟨by kernel_rfl, fun j t ht => by
        rw [Tryd.params4] at ht
        have hm : t ∈ [36, 4, 9, 4] := by simpa using Array.mem_of_getElem? ht
        have hall : ([36, 4, 9, 4].all fun u => !Tryd.prog.wantsStandIn u) = true := by kernel_rfl
        exact (show Tryd.prog.wantsStandIn t = false by simpa using List.all_eq_true.1 hall t hm)⟩)
    (by kernel_rfl)
#print axioms proved
end Go.Proofs.YtmfpgnedeonmiaaDoor.fnContainerShorthandAgreesWithName

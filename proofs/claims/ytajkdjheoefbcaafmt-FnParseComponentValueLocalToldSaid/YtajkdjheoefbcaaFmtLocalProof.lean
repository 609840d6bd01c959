/- For every component value that closes before the stream ends: replacing every token after its end by any other tokens leaves the end index unchanged; the end lies after the start and within the stream. Conditions: none beyond the statement's own. -/
import Derived.Test.YtajkdjheoefbcaaFmtRows
import Derived.Test.YtajkdjheoefbcaaFmtCards
import Derived.Test.YtajkdjheoefbcaaFmtTie
import Derived.Test.YtajkdjheoefbcaaFmtZj
import Derived.WalkKit
import Derived.ProofKit
import Derived.OpenShut
import Derived.ShutString
import Derived.ChangeOld
import Derived.Below
import Derived.Laws.Cover2
import Derived.Deep.Slices
import Derived.Deep.Fields
import Derived.Deep.MidRow
import Derived.PinnedBridge
import Derived.Lay
import Derived.LaidOnce
import Derived.SevenTiedAt
import Derived.Lib.LaidCase
import Derived.Lib.LaidU8
import Derived.LaidMore
import Derived.OpenVars
import Derived.ChangeVars
import Derived.Stop.Joined
import Derived.Stop.JoinedTold
import Derived.Stop.JoinedAt
import Derived.SevenToldTied
namespace Go.Proofs.YtajkdjheoefbcaaFmt.fnParseComponentValueLocal
open Go.ChangeShapes Go.WideShapes Go.ChangeAt Go.RowKit
open Go.ChangeMaps (open_string shut_string)
open Go.WideMaps Go.WideElems
open Go.Extern.Stop Go.Stop Go.Extern
set_option linter.unusedVariables false

theorem own : ownKnob Tryf.prog.godebug = none := by kernel_rfl
theorem laidOut : laidOutB Tryf.prog = true := by kernel_rfl

theorem spot_none {w : World} {a : Addr} {v : Value} (h : w.cell? a = some v) : a.spot = none ∧ a.block < w.heap.size := by
  unfold World.cell? at h
  split at h
  · rename_i c e f hh
    refine ⟨?_, ?_⟩
    · cases hs : a.spot with
      | none => rfl
      | some x => rw [hs] at h; simp at h
    · rcases Nat.lt_or_ge a.block w.heap.size with hlt | hge
      · exact hlt
      · rw [Array.getElem?_eq_none hge] at hh; cases hh
  · cases h
theorem spelt {w : World} {x : Addr} {j : Nat} {v : Value} (hj : j = 0) (h : w.cell? (x.add j) = some v) : x = ⟨x.block, x.off, none⟩ ∧ x.block < w.heap.size := by
  subst hj
  have e : x.add 0 = x := by unfold Addr.add; rw [if_pos rfl]
  rw [e] at h
  obtain ⟨h1, h2⟩ := spot_none h
  refine ⟨?_, h2⟩
  cases x
  simp at h1
  subst h1
  rfl
section
variable {H : Type} {enc : TypeId × Value → H} {P : Program} {w : World} {base : Nat} {spare : Nat → Bool} {held : Bool}
/-- The cells of a slice of structs of one-cell fields. -/
theorem open_rows {t e : TypeId} {fs : Array Field} {fuel : Nat} {cs : List Value} {x : DataW H × List MemPlace} (ht : P.underlying t = some (.slice e)) (he : P.underlying e = some (.struct fs))
    (hone : Deep.oneCellFields P fs = true) (hC : P.cellsOf e = fs.size) (h : DataW.trod enc P w base spare held fuel t cs = some x) :
    cs = [.slice none 0 0] ∨ ∃ (a : Addr) (len cap : Nat), cs = [.slice (some a) len cap] ∧ len ≤ cap ∧ cap ≤ maxLen ∧
      ∀ i, i < len → ∀ (j : Nat) (f : Field), fs[j]? = some f → ∃ (v : Value) (y : DataW H × List MemPlace) (n : Nat), w.cell? (a.add (i * fs.size + j)) = some v ∧ DataW.trod enc P w base spare held n f.type [v] = some y := by
  rcases Deep.open_slice ht h with ⟨h0, -⟩ | ⟨a, len, cap, m, n, D, Pl, hcs, -, hl, hm, hmm, -, hi⟩
  · exact .inl h0
  · refine .inr ⟨a, len, cap, hcs, hl, hm, fun i hlt j f hj => ?_⟩
    have him : i < m := by rw [hmm]; split <;> omega
    obtain ⟨cs', hc, ht'⟩ := hi i him
    rw [hC] at hc
    obtain ⟨ys, n', -, -, -, hyl, hf⟩ := DataW.trod_struct he ht'
    obtain ⟨-, hcl, hat⟩ := World.cells?_some hc
    obtain ⟨ho, hk⟩ := Deep.hone_of hone j f hj
    have hjl : j < fs.size := (Array.getElem?_eq_some_iff.1 hj).1
    have h1 := hf j f hj
    rw [ho, hk, List.drop_eq_getElem_cons (by omega)] at h1
    have hys : ys[j]? = some (ys[j]'(by omega)) := List.getElem?_eq_getElem (by omega)
    refine ⟨cs'[j]'(by omega), ys[j]'(by omega), n', ?_, ?_⟩
    · rw [← Deep.add_add, hat j hjl]; exact List.getElem?_eq_getElem (by omega)
    · rw [← hys, ← h1]; rfl
end

def Cols22 (w : World) (a : Option Addr) (len : Nat) (F0 : Nat → Int) : Prop :=
  0 < len → ∃ b o, a = some ⟨b, o, none⟩ ∧ b < w.heap.size ∧ ∀ i, i < len → w.cell? ⟨b, o + i, none⟩ = some (.int .u8 (F0 i))
def Row22 (w : World) (a : Option Addr) (len cap : Nat) (F0 : Nat → Int) : Prop := Cols22 w a len F0 ∧ (a = none → len = 0) ∧ len ≤ maxLen ∧ len ≤ cap ∧ ∀ i, i < len → (Lit.int .u8 (F0 i)).wf = true
theorem row22 {H : Type} {enc : TypeId × Value → H} {w : World} {a : Option Addr} {len cap : Nat} {d : DataW H} {p : List MemPlace} (h : DataW.Trod enc Tryf.prog w 0 (fun _ => true) true 22 (.slice a len cap) d p) :
    ∃ (F0 : Nat → Int), Row22 w a len cap F0 := by
  obtain ⟨fuel, hf⟩ := h
  rcases Deep.open_slice1 Tryf.underlying22 (by kernel_rfl) hf with ⟨hcs, -⟩ | ⟨x, l, c, m, n, V, D, Pl, hcs, -, hl, hm, hmm, -, hi⟩
  · simp [Value.cells] at hcs
    obtain ⟨rfl, rfl, rfl⟩ := hcs
    exact ⟨fun _ => 0, fun h => absurd h (by omega), fun _ => rfl, Nat.zero_le _, Nat.zero_le _, fun i h => absurd h (by omega)⟩
  · simp [Value.cells] at hcs
    obtain ⟨rfl, rfl, rfl⟩ := hcs
    have key : ∀ i, ∃ z : Int, i < len → w.cell? (x.add i) = some (.int .u8 (z)) ∧ (Lit.int .u8 (z)).wf = true := by
      intro i
      by_cases hlt : i < len
      · obtain ⟨c0, t0⟩ := hi i (by rw [hmm]; split <;> omega)
        obtain ⟨q0, e0, -, g0⟩ := DataW.trod_int Tryf.underlying5 t0
        rw [show V i = .int .u8 (q0) from by simpa using e0] at c0
        exact ⟨q0, fun _ => ⟨c0, g0⟩⟩
      · exact ⟨0, fun h => absurd h hlt⟩
    obtain ⟨F, hF⟩ := Classical.axiomOfChoice key
    refine ⟨fun i => (F i), fun h0 => ?_, (fun h => by cases h), Nat.le_trans hl hm, hl, fun i hlt => ?_⟩
    · obtain ⟨ex, hb⟩ := spelt (by rfl) (hF 0 h0).1
      refine ⟨x.block, x.off, by rw [← ex], hb, fun i hlt => ?_⟩
      have hh := hF i hlt
      rw [ex] at hh
      simp only [Addr.add_mid] at hh
      exact hh.1
    · obtain ⟨_, g0⟩ := hF i hlt
      exact g0

section
variable {H : Type} {enc : TypeId × Value → H} {P : Program} {w : World} {base : Nat} {spare : Nat → Bool} {held : Bool}
theorem trod_float {t : TypeId} {k : FloatKind} {fuel : Nat} {cs : List Value} {x : DataW H × List MemPlace} (ht : P.underlying t = some (.float k)) (h : DataW.trod enc P w base spare held fuel t cs = some x) : ∃ n, cs = [.float k n] ∧ x = (.lit (.float k n), []) ∧ (Lit.float k n).wf = true := by
  cases fuel with
  | zero => simp [DataW.trod] at h
  | succ n =>
    unfold DataW.trod at h
    rw [ht] at h
    split at h <;> simp_all
theorem trod_intC {t : TypeId} {k : IntKind} {fuel : Nat} {cs : List Value} {x : DataW H × List MemPlace} (ht : P.underlying t = some (.int k)) (h : DataW.trod enc P w base spare held fuel t cs = some x) : ∃ n, cs = [.int k n] ∧ x = (.lit (.int k n), []) ∧ (Lit.int k n).wf = true := by
  cases fuel with
  | zero => simp [DataW.trod] at h
  | succ n =>
    unfold DataW.trod at h
    rw [ht] at h
    split at h <;> simp_all
end
def great : List String := ["unicode/utf8.first"]
noncomputable def startW (os : Os) : World := (World.doorLaid Tryf.prog 400 os).layVars Tryf.prog (Rows.fnParseComponentValueLocalRow.laid.filter fun x => great.contains x.1)
theorem start_met (os : Os) (args : Array Value) : laidMet Tryf.prog Rows.fnParseComponentValueLocalRow.laid ((startW os).forCall (fun _ _ => 0) ⟨#[], args, []⟩).memory := by
  have h : laidMet Tryf.prog Rows.fnParseComponentValueLocalRow.laid (startW os) := laidMet_layVars (w0 := World.doorLaid Tryf.prog 400 os) great [2, 0, (World.doorLaid Tryf.prog 400 default).heap.size - 1] rfl (by kernel_rfl) (by kernel_rfl) (LaidIn.of_run _ 8 (by kernel_rfl) (by kernel_rfl) (by kernel_rfl) (by kernel_rfl))
  exact h.of_heap (by simp [World.memory, World.forCall, Input.heap])

theorem vars_len {H : Type} {enc : TypeId × Value → H} {P : Program} {w : World} {spare : Nat → Bool} : ∀ {ns : List String} {gs : List (DataW H)} {ps : List MemPlace}, DataW.TrodVars enc P w spare ns gs ps → gs.length = ns.length
  | [], gs, ps, h => by simp [(trodVars_none h).1]
  | n :: ns, [], ps, h => by simp [DataW.TrodVars] at h
  | n :: ns, d :: ds, ps, h => by
    obtain ⟨g, t, cs, fuel, p, q, h1, h2, h3, h4, hs, e⟩ := h
    simp [vars_len hs]
theorem stops : Tryf.pinned.checked.prog.stops = ["fmt.Sprintf"] := by kernel_rfl
theorem stopKnobs : Tryf.pinned.checked.prog.stopKnobs = [] := by kernel_rfl
theorem quiet (os : Os) : Stop.quiet Tryf.pinned.checked.prog os := by
  intro k hk
  rw [stopKnobs] at hk
  cases hk
theorem witness_zip {H : Type} {enc : TypeId × Value → H} {C : Checked} {os : Os} {f : FuncId} {fn : Func} {s : OpenSpec} {conds : List PathCond} {apart : Bool} {laid : List (String × DataW Unit)} (modest : Bool) (w0 : World) (args : Array Value) (hos : w0.os = os)
    (hv : (w0.forCall (fun _ _ => 0) ⟨#[], args, []⟩).variablesZipB C.prog = true)
    (hr : ((w0.forCall (fun _ _ => 0) ⟨#[], args, []⟩).heap.toList.drop C.prog.globals.size).take ((begin C.prog (fun _ _ => 0) default).world.heap.size - C.prog.globals.size) =
      (begin C.prog (fun _ _ => 0) default).world.heap.toList.drop C.prog.globals.size)
    (hok : Input.okWideB C.prog (w0.forCall (fun _ _ => 0) ⟨#[], args, []⟩) f ⟨#[], args, []⟩ = true)
    (hrow : s.preRow enc C.prog fn conds apart laid (w0.forCall (fun _ _ => 0) ⟨#[], args, []⟩).memory args) (F : Stop.Interp) :
    ∃ (w : World) (tape : Tape) (i : Input), w.os = os ∧ (w.forCall tape i).Shaped C.prog ∧ i.vars = [] ∧ Input.okWide C.prog (w.forCall tape i) .any w.heap.size f i ∧
      s.preRow enc C.prog fn conds apart laid (w.forCall tape i).memory i.args ∧ ({ modest := modest } : Assume).holds C.prog (lone (Frame.enter C.prog f i.args .normal) [] (w.forCall tape i)) ∧ F.answers tape :=
  ⟨w0, F.over fun _ _ => 0, ⟨#[], args, []⟩, hos, (by have h := World.shaped_of_ZipB hv hr; unfold World.Shaped at h ⊢; exact h), (Input.okWide_of_okWideB (base := 0) hok).1, (Input.okWide_of_okWideB hok).2, hrow, by
    simp only [Assume.holds]
    exact ⟨by simp, by simp, fun _ => F.over_modest Modest.zero, by simp, by simp⟩, F.over_answers _⟩
set_option maxRecDepth 100000 in
theorem lifted (os : Os) (started : os.Started) (H : Type) (enc : TypeId × Value → H) :
    ReturnsInTold none {} Tryf.checked os 4 .any Input.okWide ((OpenSpec.ofChange Rows.fnParseComponentValueLocalSpec).preRow enc Tryf.prog Tryf.f4 [] false Rows.fnParseComponentValueLocalRow.laid) (fun F => ((OpenSpec.ofChange Rows.fnParseComponentValueLocalSpec).at F).post enc Tryf.prog Tryf.f4 false true false false) (aloneAtReturn Tryf.prog) nothingAlways := by
  refine returnsInTold_of_row (C := Tryf.checked) (s := (OpenSpec.ofChange Rows.fnParseComponentValueLocalSpec)) (by kernel_rfl) own started (by kernel_rfl) Tryf.func4
    (witness_zip (enc := enc) (C := Tryf.checked) false (startW os) #[.slice none 0 0, .slice none 0 0, .int .i64 0] (World.layVars_os _ _ _) (by kernel_rfl) (by kernel_rfl) (by kernel_rfl)
      (OpenSpec.preRow_of_B rfl 8 (by kernel_rfl) (by kernel_rfl) (by rw [MakeChecks.laidMetH_plain _ _ _ (by kernel_rfl)]; exact start_met os _))) ?_
  intro F W base args ds gs before _ hF hval0 hW _ _ _ hL _
  have hval : ∀ (j : Nat) t v, Tryf.f4.params[j]? = some t → args[j]? = some v → Value.okWide Tryf.prog W .any base t v := hval0
  have hW' := hW
  obtain ⟨p, q, hA0, hV, rfl, _, _⟩ := hW
  have hA : DataW.TrodAll enc Tryf.prog W 0 (fun _ => true) true Tryf.f4.params.toList args.toList ds p := hA0
  rw [Tryf.params4] at hA hval
  obtain ⟨v0, vs0, d0, ds0, p0, q0, hargs, rfl, rfl, h0, r0⟩ := trodAll_cons hA
  obtain ⟨v1, vs1, d1, ds1, p1, q1, rfl, rfl, rfl, h1, r1⟩ := trodAll_cons r0
  obtain ⟨v2, vs2, d2, ds2, p2, q2, rfl, rfl, rfl, h2, r2⟩ := trodAll_cons r1
  obtain ⟨rfl, rfl, rfl⟩ := trodAll_nil r2
  obtain rfl : args = #[v0, v1, v2] := by cases args; simp_all
  have hVk := hV
  obtain ⟨x0, rfl⟩ : ∃ x0, gs = [x0] := by
    have hl := vars_len hV
    change gs.length = 1 at hl
    match gs, hl with
    | [x0], _ => exact ⟨x0, rfl⟩
  obtain ⟨a0, len0, cap0, rfl⟩ := okWide_slice Tryf.underlying22 (hval 0 22 v0 rfl rfl)
  have k0 := h0
  have lt0 : ∀ x ∈ p0, x.block < W.heap.size := by obtain ⟨m, hm⟩ := k0; exact DataW.trod_lt m _ _ _ hm
  obtain ⟨F0x0, w0⟩ := row22 h0
  obtain ⟨a1, len1, cap1, rfl⟩ := okWide_slice Tryf.underlying22 (hval 1 22 v1 rfl rfl)
  have k1 := h1
  have lt1 : ∀ x ∈ p1, x.block < W.heap.size := by obtain ⟨m, hm⟩ := k1; exact DataW.trod_lt m _ _ _ hm
  obtain ⟨F1x0, w1⟩ := row22 h1
  obtain ⟨a2, rfl, rfl, rfl, w2⟩ := open_int Tryf.underlying3 (hval 2 3 v2 rfl rfl) h2
  clear hA0 hval0
  refine (ZA.law4 a0 len0 cap0 F0x0 a1 len1 cap1 F1x0 a2 W w0.1 w0.2.1 w0.2.2.1 w0.2.2.2.2 w1.1 w1.2.1 w1.2.2.1 w1.2.2.2.2 w2).mono fun e W' ⟨he, bel⟩ => ?_
  subst he
  exact ⟨_, rfl, _, _, _, [], _, q, hW', trodAll_mk1 (shut_bool Tryf.underlying4 _), (trodAll_cons_mk (Below.trod laidOut (by kernel_rfl) (of_decide_eq_true (by kernel_rfl)) k0 bel lt0) (trodAll_cons_mk (Below.trod laidOut (by kernel_rfl) (of_decide_eq_true (by kernel_rfl)) k1 bel lt1) (trodAll_cons_mk (shut_int Tryf.underlying3 w2) trodAll_mk0))), bel.trodVars laidOut (by kernel_rfl) hVk, bel.frame _, fun h => by cases h⟩

theorem proved : Rows.FnParseComponentValueLocalToldSaid :=
  Claim7.holds_of_told_tied_any_at .later 4 Tryf.f4 "fmt.Sprintf" [] [] _ _ _ _ _ (by kernel_rfl) rfl rfl rfl laidOut (by kernel_rfl) rfl ⟨rfl, rfl, rfl, rfl, rfl, rfl, rfl⟩ rfl rfl (by kernel_rfl) (by kernel_rfl) Tryf.func4 (by kernel_rfl)
    (of_decide_eq_true (by kernel_rfl)) (by unfold Func.isWrapper; first | (rw [if_pos (by decide +kernel)]; kernel_rfl) | (rw [if_neg (by decide +kernel)]; exact ⟨rfl, rfl⟩)) stops.symm rfl stopKnobs.symm (by kernel_rfl)
    (by kernel_rfl) (by kernel_rfl) (by kernel_rfl) (by kernel_rfl) (by kernel_rfl) (by kernel_rfl) (by kernel_rfl) (by kernel_rfl) (by kernel_rfl) rfl (by kernel_rfl) rfl rfl
    rfl rfl
    rfl (by kernel_rfl) (by kernel_rfl) (by kernel_rfl) (by decide) (by kernel_rfl) fnParseComponentValueLocal_row_tie
    (OpenClaim.moreEntering_of (by kernel_rfl) (by kernel_rfl) (by kernel_rfl) (by kernel_rfl) (by kernel_rfl) (by kernel_rfl) (by kernel_rfl) (by kernel_rfl) (by kernel_rfl) (by kernel_rfl))
    ⟨_, WideRow.started_initial, quiet _⟩
    (fun os started _ H enc _ => lifted os started H enc)
#print axioms proved
end Go.Proofs.YtajkdjheoefbcaaFmt.fnParseComponentValueLocal

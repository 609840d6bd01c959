/- FnMangleCornersCaseTable: where the slash stands; what mangleCorners answers. -/
import Derived.Test.YtnolnlekdlfeaaaDoorMa
import Derived.Test.YtnolnlekdlfeaaaDoorCw
import Derived.Test.YtnolnlekdlfeaaaDoorCn
import Derived.Test.YtnolnlekdlfeaaaDoorEz
namespace Go.Proofs.YtnolnlekdlfeaaaDoor.ZT
open Go.RowKit Go.Proofs.YtnolnlekdlfeaaaDoor.TB
set_option linter.unusedVariables false
/-- Among the first k of n codes: no slash, or one at bs. -/
def SP (n k : Nat) (Q : Nat → Nat) (bs es : Nat) : Prop :=
  (bs = n ∧ es = n ∧ ∀ i, i < k → Q i ≠ 7) ∨ (bs < k ∧ es = bs + 1 ∧ Q bs = 7 ∧ ∀ i, i < k → i ≠ bs → Q i ≠ 7)
def two7 (n : Nat) (Q : Nat → Nat) : Prop := ∃ i j, i < j ∧ j < n ∧ Q i = 7 ∧ Q j = 7
theorem SP.zero (n : Nat) (Q : Nat → Nat) : SP n 0 Q n n := .inl ⟨rfl, rfl, fun i h => absurd h (by omega)⟩
theorem SP.other {n k : Nat} {Q : Nat → Nat} {bs es : Nat} (h : SP n k Q bs es) (hq : Q k ≠ 7) : SP n (k + 1) Q bs es := by
  rcases h with ⟨h1, h2, h3⟩ | ⟨h1, h2, h3, h4⟩
  · refine .inl ⟨h1, h2, fun i hi => ?_⟩
    rcases Nat.lt_succ_iff_lt_or_eq.1 hi with h | rfl
    · exact h3 i h
    · exact hq
  · refine .inr ⟨by omega, h2, h3, fun i hi hne => ?_⟩
    rcases Nat.lt_succ_iff_lt_or_eq.1 hi with h | rfl
    · exact h4 i h hne
    · exact hq
theorem SP.first {n k : Nat} {Q : Nat → Nat} {bs es : Nat} (h : SP n k Q bs es) (hk : k < n) (hb : bs = n) (hq : Q k = 7) : SP n (k + 1) Q k (k + 1) := by
  rcases h with ⟨h1, h2, h3⟩ | ⟨h1, h2, h3, h4⟩
  · exact .inr ⟨by omega, rfl, hq, fun i hi hne => h3 i (by omega)⟩
  · omega
theorem SP.second {n k : Nat} {Q : Nat → Nat} {bs es : Nat} (h : SP n k Q bs es) (hk : k < n) (hb : bs ≠ n) (hq : Q k = 7) : two7 n Q := by
  rcases h with ⟨h1, h2, h3⟩ | ⟨h1, h2, h3, h4⟩
  · exact absurd h1 hb
  · exact ⟨bs, k, h1, hk, h3, hq⟩
theorem SP.uniq {n : Nat} {Q : Nat → Nat} {bs es bs' es' : Nat} (h : SP n n Q bs es) (h' : SP n n Q bs' es') : bs = bs' ∧ es = es' := by
  rcases h with ⟨h1, h2, h3⟩ | ⟨h1, h2, h3, h4⟩ <;> rcases h' with ⟨h1', h2', h3'⟩ | ⟨h1', h2', h3', h4'⟩
  · omega
  · exact absurd h3' (h3 _ h1')
  · exact absurd h3 (h3' _ h1)
  · have : bs = bs' := by
      rcases Nat.decEq bs bs' with e | e
      · exact absurd h3 (h4' _ h1 e)
      · exact e
    omega
theorem SP.le {n k : Nat} {Q : Nat → Nat} {bs es : Nat} (h : SP n k Q bs es) (hk : k ≤ n) : bs ≤ n ∧ es ≤ n ∧ bs ≤ es := by
  rcases h with ⟨h1, h2, h3⟩ | ⟨h1, h2, h3, h4⟩ <;> omega
theorem SP.not_two {n : Nat} {Q : Nat → Nat} {bs es : Nat} (h : SP n n Q bs es) : ¬ two7 n Q := by
  rintro ⟨i, j, h1, h2, h3, h4⟩
  rcases h with ⟨_, _, h⟩ | ⟨_, _, _, h⟩
  · exact h i (by omega) h3
  · by_cases e : i = bs
    · exact h j h2 (by omega) h4
    · exact h i (by omega) e h3
/-- Where the shorthand is made. -/
def Acc (n : Nat) (Q : Nat → Nat) (bs es : Nat) : Prop := SP n n Q bs es ∧ (1 ≤ bs ∧ bs ≤ 4) ∧ (bs < es → 1 ≤ n - es ∧ n - es ≤ 4) ∧ ∀ i, i < n → Q i ≠ 5 ∧ Q i ≠ 6
def qa (Q : Nat → Nat) (bs i : Nat) : Nat := Q (sel bs i)
def qb (Q : Nat → Nat) (bs es n i : Nat) : Nat := if bs < es then Q (es + sel (n - es) i) else Q (sel bs i)
/-- The corners. -/
def SQ (Q : Nat → Nat) (bs es n : Nat) (st : Int) (k : Nat) : Nat → Cn := fun i => if i < 4 then ⟨tq (qa Q bs i), kq (qa Q bs i), if i < k then tq (qb Q bs es n i) else tq (qa Q bs i), if i < k then kq (qb Q bs es n i) else kq (qa Q bs i), ⟨#[]⟩, st, 0, false⟩ else C0
def S1 (Q : Nat → Nat) (bs : Nat) (st : Int) (k : Nat) : Nat → Cn := fun i => if i < k then ⟨tq (qa Q bs i), kq (qa Q bs i), tq (qa Q bs i), kq (qa Q bs i), ⟨#[]⟩, st, 0, false⟩ else C0
theorem S1.step (Q : Nat → Nat) (bs : Nat) (st : Int) (k : Nat) : upS (S1 Q bs st k) k ⟨tq (qa Q bs k), kq (qa Q bs k), tq (qa Q bs k), kq (qa Q bs k), ⟨#[]⟩, st, 0, false⟩ = S1 Q bs st (k + 1) := by
  funext i
  unfold upS S1
  by_cases e : i = k
  · subst e; rw [if_pos rfl, if_pos (by omega)]
  · rw [if_neg e]
    by_cases h : i < k
    · rw [if_pos h, if_pos (by omega)]
    · rw [if_neg h, if_neg (by omega)]
theorem S1.zero (Q : Nat → Nat) (bs : Nat) (st : Int) : S1 Q bs st 0 = fun _ => C0 := by
  funext i
  unfold S1
  rw [if_neg (by omega)]
theorem S1.four (Q : Nat → Nat) (bs es n : Nat) (st : Int) : S1 Q bs st 4 = SQ Q bs es n st 0 := by
  funext i
  unfold S1 SQ
  simp only [Nat.not_lt_zero, if_false]
/-- The status of the units behind k tokens from a on. -/
def su (Q : Nat → Nat) (a : Nat) (s : Int) : Nat → Int
  | 0 => s
  | k + 1 => if Q (a + k) < 5 then su Q a s k else 2
theorem su_two (Q : Nat → Nat) (a : Nat) (s : Int) (hs : s = 0 ∨ s = 2) : ∀ k, su Q a s k = 0 ∨ su Q a s k = 2
  | 0 => hs
  | k + 1 => by
    rw [su]
    split
    · exact su_two Q a s hs k
    · exact .inr rfl
theorem su_zero {Q : Nat → Nat} {a : Nat} {s : Int} : ∀ {k}, su Q a s k = 0 → s = 0 ∧ ∀ j, j < k → Q (a + j) < 5
  | 0, h => ⟨h, fun j hj => absurd hj (by omega)⟩
  | k + 1, h => by
    rw [su] at h
    split at h
    · rename_i hq
      obtain ⟨h1, h2⟩ := su_zero h
      refine ⟨h1, fun j hj => ?_⟩
      rcases Nat.lt_succ_iff_lt_or_eq.1 hj with h | rfl
      · exact h2 j h
      · exact hq
    · omega
theorem su_of {Q : Nat → Nat} {a : Nat} : ∀ {k}, (∀ j, j < k → Q (a + j) < 5) → su Q a 0 k = 0
  | 0, _ => rfl
  | k + 1, h => by
    rw [su, if_pos (h k (by omega))]
    exact su_of fun j hj => h j (by omega)
/-- What expandTokenQuad says of m codes. -/
def XF (f : Bool) (C : Array Value) (m : Nat) (Q : Nat → Nat) : Prop :=
  (f = true → (1 ≤ m ∧ m ≤ 4 ∧ ∀ i, i < m → Q i < 6) ∧ C = q28 (fun i => kq (Q i)) (fun i => tq (Q i)) (fun _ => 0) (fun _ => 0) (sel m 0) (sel m 1) (sel m 2) (sel m 3)) ∧ (f = false → ¬ (1 ≤ m ∧ m ≤ 4 ∧ ∀ i, i < m → Q i < 6))
theorem okAll_iff {m : Nat} {Q : Nat → Nat} (hq : ∀ i, i < m → Q i < 8) : okAll m ⟨#[]⟩ (fun i => kq (Q i)) (fun i => tq (Q i)) ↔ (1 ≤ m ∧ m ≤ 4 ∧ ∀ i, i < m → Q i < 6) := by
  have key : ∀ i, i < m → (okP ⟨#[]⟩ (kq (Q i)) (tq (Q i)) ↔ Q i < 6) := by
    intro i hi
    unfold okP
    have h8 := hq i hi
    generalize Q i = q at *
    constructor
    · rintro (h | ⟨-, h, -⟩)
      · rcases eight h8 with rfl | rfl | rfl | rfl | rfl | rfl | rfl | rfl
        all_goals first | omega | (revert h; decide)
      · exact absurd (show (⟨#[]⟩ : ByteArray).toList = [] from by unfold ByteArray.toList ByteArray.toList.loop; rfl) h
    · intro h
      refine .inl ?_
      rcases (by omega : q = 0 ∨ q = 1 ∨ q = 2 ∨ q = 3 ∨ q = 4 ∨ q = 5) with rfl | rfl | rfl | rfl | rfl | rfl
      all_goals rfl
  constructor
  · rintro ⟨h1, h2, h3⟩
    exact ⟨h1, h2, fun i hi => (key i hi).1 (h3 i hi)⟩
  · rintro ⟨h1, h2, h3⟩
    exact ⟨h1, h2, fun i hi => (key i hi).2 (h3 i hi)⟩
theorem exp_form {m : Nat} {Q : Nat → Nat} {w w' : World} {e : Ending} (hq : ∀ i, i < m → Q i < 8) (h : ExpP m ⟨#[]⟩ (fun i => kq (Q i)) (fun i => tq (Q i)) (fun _ => 0) (fun _ => 0) w e w') :
    ∃ C f, e = .returned (.tuple #[.agg C, .bool f]) ∧ C.size = 28 ∧ C.all (·.oneCell') = true ∧ XF f C m Q ∧ Below w.heap.size w w' := by
  obtain ⟨⟨ok, he⟩ | ⟨no, he⟩, hb⟩ := h
  · exact ⟨_, true, he, rfl, by simp [q28, Value.oneCell'], ⟨fun _ => ⟨(okAll_iff hq).1 ok, rfl⟩, fun h => absurd h (by decide)⟩, hb⟩
  · exact ⟨z28, false, he, rfl, by simp [z28, Value.oneCell'], ⟨fun h => absurd h (by decide), fun _ h => no ((okAll_iff hq).2 h)⟩, hb⟩
theorem tr_at {w : World} {g n a m : Nat} {f f' : Nat → Nat → Value} (h : Tab w g 47 7 n f) (ham : a + m ≤ n) (e : ∀ i j, i < m → j < 7 → f (a + i) j = f' i j) : TR w (some ⟨g, a * 7, none⟩) m f' := by
  intro _
  refine ⟨g, a * 7, rfl, h.lt, fun i j hi hj => ?_⟩
  rw [show a * 7 + i * 7 + j = (a + i) * 7 + j by omega, h.cell (by omega) hj, e i j hi hj]
theorem fill_new (w : World) (C : Array Value) (hs : C.size = 28) : Blk ((w.alloc (.cells z28 86)).setCells w.heap.size 0 C.toList) w.heap.size 86 C ∧ Below w.heap.size w ((w.alloc (.cells z28 86)).setCells w.heap.size 0 C.toList) :=
  ⟨Blk.fill (Blk.new w 86 z28) C (by rw [hs]; rfl), below_fill (w := w) _ _ ((Below.refl _ w).alloc (Nat.le_refl _) _) (Nat.le_refl _)⟩
theorem info86 : (Tryd.prog.info? 86).map (·.size) = some 28 := by kernel_rfl
section
variable (K : Nat → Int) (T : Nat → ByteArray) (W L : Nat → Int) (a b c d : Nat) (W' : World)
theorem jx0 : (Instr.index 86 (.agg (q28 K T W L a b c d)) (.int .i64 0)).run Tryd.prog W' = .ok (.agg #[.pointer none, .string (T a), .int .i32 (L a), .int .u32 0, .int .u16 0, .int .u8 (K a), .int .u8 (W a)]) W' := by kernel_rfl
theorem jx1 : (Instr.index 86 (.agg (q28 K T W L a b c d)) (.int .i64 1)).run Tryd.prog W' = .ok (.agg #[.pointer none, .string (T b), .int .i32 (L b), .int .u32 0, .int .u16 0, .int .u8 (K b), .int .u8 (W b)]) W' := by kernel_rfl
theorem jx2 : (Instr.index 86 (.agg (q28 K T W L a b c d)) (.int .i64 2)).run Tryd.prog W' = .ok (.agg #[.pointer none, .string (T c), .int .i32 (L c), .int .u32 0, .int .u16 0, .int .u8 (K c), .int .u8 (W c)]) W' := by kernel_rfl
theorem jx3 : (Instr.index 86 (.agg (q28 K T W L a b c d)) (.int .i64 3)).run Tryd.prog W' = .ok (.agg #[.pointer none, .string (T d), .int .i32 (L d), .int .u32 0, .int .u16 0, .int .u8 (K d), .int .u8 (W d)]) W' := by kernel_rfl
end
theorem nk26 (q : Nat) : kq q ≠ 26 := by
  unfold kq
  split
  · decide
  · split
    · decide
    · split <;> decide
theorem nk0 (q : Nat) : (kq q == 0) = false := by
  unfold kq
  split
  · decide
  · split
    · decide
    · split <;> decide
theorem bd75 (t : ByteArray) (k st r : Int) (W : World) : (Instr.build 75 #[(0, .agg #[.pointer none, .string t, .int .i32 0, .int .u32 0, .int .u16 0, .int .u8 k, .int .u8 0]), (1, .agg #[.pointer none, .string t, .int .i32 0, .int .u32 0, .int .u16 0, .int .u8 k, .int .u8 0]), (2, .agg #[.string ⟨#[]⟩, .int .u8 st]), (3, .int .u32 r)]).run Tryd.prog W =
    .ok (.agg #[.pointer none, .string t, .int .i32 0, .int .u32 0, .int .u16 0, .int .u8 k, .int .u8 0, .pointer none, .string t, .int .i32 0, .int .u32 0, .int .u16 0, .int .u8 k, .int .u8 0, .string ⟨#[]⟩, .int .u8 st, .int .u32 r, .bool false]) W := by kernel_rfl
/-- A struct is built; its run as a closed fact. -/
theorem wp_build {P : Program} {o : Oper} {a : Act} {w : World} {K : Act → World → Prop} {Q : Exit → Act → World → Prop} (ty : TypeId) (parts : Array (Nat × Operand)) (ho : o.op = .build ty parts)
    (l : Array (Nat × Value)) (hl : (parts.map fun (i, x) => (i, a.eval x)) = l) (v : Value) (hr : (Instr.build ty l).run P w = .ok v w) (h : K (a.put o.dst v) w) : o.wp P a w K Q := by
  unfold Oper.wp execOp
  simp only [ho, hl, Sem.run_bind, Sem.run_pure, hr, Result.andThen_ok]
  exact h
theorem wpList_build4 {P : Program} {ops : Array Oper} {rest : List Oper} {o : Oper} {a : Act} {w : World} {Q : Exit → Act → World → Prop} (hgd : o.guard = none) (ty : TypeId) {i0 i1 i2 i3 : Nat} {x0 x1 x2 x3 : Operand} (ho : o.op = .build ty #[(i0, x0), (i1, x1), (i2, x2), (i3, x3)])
    {v0 v1 v2 v3 : Value} (h0 : a.eval x0 = v0) (h1 : a.eval x1 = v1) (h2 : a.eval x2 = v2) (h3 : a.eval x3 = v3) {v : Value} (hr : (Instr.build ty #[(i0, v0), (i1, v1), (i2, v2), (i3, v3)]).run P w = .ok v w) (h : wpList P ops Q rest (a.put o.dst v) w) : wpList P ops Q (o :: rest) a w :=
  wpList_plain hgd fun _ hK => wp_build ty _ ho _ (by simp only [List.map_toArray, List.map_cons, List.map_nil, h0, h1, h2, h3]) v hr (hK _ _ h)
/-- Blocks g and rg set aside, what stood below is es it was. -/
structure Off (w : World) (g rg : Nat) (w' : World) : Prop where
  os : w'.os = w.os
  tape : w'.tape = w.tape
  output : w'.output = w.output
  size : w.heap.size ≤ w'.heap.size
  block : ∀ k, k < w.heap.size → k ≠ g → k ≠ rg → w'.heap[k]? = w.heap[k]?
theorem Off.of {w W w' : World} {g rg : Nat} (h : Kept w.heap.size g w W) (k : Kept W.heap.size rg W w') : Off w g rg w' :=
  ⟨k.os.trans h.os, k.tape.trans h.tape, k.output.trans h.output, Nat.le_trans h.size k.size, fun i hi h1 h2 => (k.block i (Nat.lt_of_lt_of_le hi h.size) h2).trans (h.block i hi h1)⟩
/-- What mangleCorners finds. -/
structure EV (w : World) (g rg d tb n : Nat) (Q : Nat → Nat) (ks kl : Int) (ib : Bool) (l : Int) : Prop where
  hd : Blk w d 40 #[.string ⟨#[98, 111, 114, 100, 101, 114, 45, 114, 97, 100, 105, 117, 115]⟩, .slice (some ⟨tb, 0, none⟩) n n, .int .i32 ks, .int .i32 kl, .int .u16 66, .bool ib]
  hv : Tab w tb 47 7 n (tc (fun i => kq (Q i)) (fun i => tq (Q i)) (fun _ => 0) (fun _ => 0))
  hr : Tab w rg 54 2 1 (rc (fun _ => some d) (fun _ => l))
  hq : ∀ i, i < n → Q i < 8
  n1 : d ≠ g
  n2 : tb ≠ g
  n3 : rg ≠ g
theorem EV.keep {w w' : World} {g rg d tb n : Nat} {Q : Nat → Nat} {ks kl : Int} {ib : Bool} {l : Int} (h : EV w g rg d tb n Q ks kl ib l) (k : Kept w.heap.size g w w') : EV w' g rg d tb n Q ks kl ib l :=
  ⟨k.blk h.hd h.hd.lt h.n1, k.tab h.hv h.hv.lt h.n2, k.tab h.hr h.hr.lt h.n3, h.hq, h.n1, h.n2, h.n3⟩
/-- What mangleCorners works on. -/
structure MS (w : World) (g rg d tb n : Nat) (Q : Nat → Nat) (ks kl : Int) (ib : Bool) (l : Int) (S : Nat → Cn) (W : World) : Prop where
  e : EV W g rg d tb n Q ks kl ib l
  t : Tk W g S ib
  k : Kept w.heap.size g w W
theorem MS.below {w W W' : World} {g rg d tb n : Nat} {Q : Nat → Nat} {ks kl : Int} {ib : Bool} {l : Int} {S : Nat → Cn} (h : MS w g rg d tb n Q ks kl ib l S W) (hb : Below W.heap.size W W') : MS w g rg d tb n Q ks kl ib l S W' :=
  ⟨h.e.keep (.of_below hb), h.t.below hb, h.k.next h.k.size hb⟩
theorem MS.kept {w W W' : World} {g rg d tb n : Nat} {Q : Nat → Nat} {ks kl : Int} {ib : Bool} {l : Int} {S S' : Nat → Cn} (h : MS w g rg d tb n Q ks kl ib l S W) (hk : Kept W.heap.size g W W') (ht : Tk W' g S' ib) : MS w g rg d tb n Q ks kl ib l S' W' :=
  ⟨h.e.keep hk, ht, h.k.trans (hk.mono h.k.size)⟩
/-- The tokens of the shorthand of corners S. -/
def GS (S : Nat → Cn) (mw : Bool) (w : World) (tg L : Nat) : Prop :=
  GV (eqS (cm (fun i => (S i).k) (fun i => (S i).t)) (cm (fun i => (S i).k2) (fun i => (S i).t2)) (fun i => (S i).k) (fun i => (S i).t) (fun i => (S i).k2) (fun i => (S i).t2)) (cm (fun i => (S i).k) (fun i => (S i).t)) (cm (fun i => (S i).k2) (fun i => (S i).t2)) S mw w tg L
def McP (w : World) (g rg d n : Nat) (Q : Nat → Nat) (ks kl : Int) (ib mw : Bool) (l : Int) (e : Ending) (w' : World) : Prop :=
  e = .returned (.tuple #[]) ∧ (((¬ ∃ bs es, Acc n Q bs es) ∧ Kept w.heap.size g w w') ∨
    ∃ bs es, Acc n Q bs es ∧ ∃ d' L tg cp, Tab w' rg 54 2 1 (rc (fD (fun _ => some d) (fun _ => 0) d') (fL (fun _ => l) (fun _ => 0))) ∧
      Blk w' d' 40 #[.string ⟨#[98, 111, 114, 100, 101, 114, 45, 114, 97, 100, 105, 117, 115]⟩, .slice (some ⟨tg, 0, none⟩) L cp, .int .i32 ks, .int .i32 kl, .int .u16 66, .bool ib] ∧
      GS (SQ Q bs es n 0 4) mw w' tg L ∧
      w.heap.size ≤ d' ∧ Off w g rg w')
end Go.Proofs.YtnolnlekdlfeaaaDoor.ZT

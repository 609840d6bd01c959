/- The parser's making and its readers. -/
import Derived.Test.YtmfpgnedeonmiaaDoorSza
import Derived.Test.YtmfpgnedeonmiaaDoorSzb
import Derived.Test.YtmfpgnedeonmiaaDoorSzc
import Derived.Test.YtmfpgnedeonmiaaDoorSzd
namespace Go.Proofs.YtmfpgnedeonmiaaDoor.SY
open Go Go.RowKit Go.Lib Go.Proofs.YtmfpgnedeonmiaaDoor.MP
set_option linter.unusedVariables false
/-- The cells of a new parser. -/
def par0 (l g : Nat) (ml : Bool) : Array Value := #[.nilFunc, .nilFunc, .nilFunc, .nilFunc, .int .i8 0,
            .map none, .string ⟨#[]⟩, .string ⟨#[]⟩, .string ⟨#[]⟩, .string ⟨#[]⟩, .string ⟨#[]⟩, .string ⟨#[]⟩, .string ⟨#[]⟩, .string ⟨#[]⟩,
            .int .u8 0, .int .u32 0, .slice none 0 0, .slice none 0 0, .slice none 0 0, .slice none 0 0, .slice none 0 0,
            .slice none 0 0, .map none, .slice none 0 0, .map (some l), .map (some g), .map none,
            .string ⟨#[]⟩, .string ⟨#[]⟩, .string ⟨#[]⟩, .int .i32 0, .int .i32 0, .int .i32 0, .int .i32 0, .bool false, .bool false, .bool false,
            .slice none 0 0, .slice none 0 0, .slice none 0 0, .slice none 0 0,
            .int .i64 0, .int .i64 0, .int .i64 0, .int .i64 0, .int .i32 0, .map none, .string ⟨#[]⟩,
            .int .u16 0, .bool false, .bool false, .bool false, .int .u8 0, .bool false, .bool ml, .bool false]
theorem bldP (l g : Nat) (ml : Bool) (w : World) : (Instr.build TP #[(10, .map (some l)), (11, .map (some g)), (25, .bool ml)]).run Tryd.prog w = .ok (.agg (par0 l g ml)) w := run_build w TP _ _ (by kernel_rfl)
/-- A new parser. -/
def NewP (ml : Bool) (w : World) (B : Nat) (e : Ending) (w' : World) : Prop :=
  ∃ pb mb f, e = .returned (.pointer (some ⟨pb, 0, none⟩)) ∧ PS (fun g => w.heap.size ≤ g) w' B pb mb ml [] [] [] f (.slice none 0 0) (.slice none 0 0) ∧ Below w.heap.size w w' ∧ w.heap.size ≤ pb ∧ w.heap.size ≤ mb
theorem newp_fin (ml : Bool) (w : World) (B : Nat) (g0 : w.cell? ⟨GI, 0, none⟩ = some (.int .u32 4294967295)) (g1 : w.cell? ⟨GI, 1, none⟩ = some (.int .u32 4294967295)) (hG : GI < B) (hB : B ≤ w.heap.size) :
    NewP ml w B (.returned (.pointer (some ⟨w.heap.size + 1 + 1, 0, none⟩))) (((w.alloc (.map #[] 0)).alloc (.map #[] 0)).alloc (.cells (par0 w.heap.size (w.heap.size + 1) ml) TP)) := by
  have s1 : (w.alloc (.map #[] 0)).heap.size = w.heap.size + 1 := by simp
  have s2 : ((w.alloc (.map #[] 0)).alloc (.map #[] 0)).heap.size = w.heap.size + 1 + 1 := by simp
  have hb : Below w.heap.size w (((w.alloc (.map #[] 0)).alloc (.map #[] 0)).alloc (.cells (par0 w.heap.size (w.heap.size + 1) ml) TP)) :=
    (((Below.refl _ _).alloc (Nat.le_refl _) _).alloc (by rw [s1]; omega) _).alloc (by rw [s2]; omega) _
  have m0 : SMap (((w.alloc (.map #[] 0)).alloc (.map #[] 0)).alloc (.cells (par0 w.heap.size (w.heap.size + 1) ml) TP)) w.heap.size [] := ((SMap.made w).alloc _).alloc _
  have m1 : SMap (((w.alloc (.map #[] 0)).alloc (.map #[] 0)).alloc (.cells (par0 w.heap.size (w.heap.size + 1) ml) TP)) (w.heap.size + 1) [] := by
    have := (SMap.made (w.alloc (.map #[] 0))).alloc (.cells (par0 w.heap.size (w.heap.size + 1) ml) TP)
    rw [s1] at this
    exact this
  have hrow : (((w.alloc (.map #[] 0)).alloc (.map #[] 0)).alloc (.cells (par0 w.heap.size (w.heap.size + 1) ml) TP)).rowIs (w.heap.size + 1 + 1) TP 56 (fun i => (par0 w.heap.size (w.heap.size + 1) ml).getD i (.bool false)) := by
    refine ⟨par0 w.heap.size (w.heap.size + 1) ml, ?_, rfl, fun i hi => ?_⟩
    · have := heap_alloc_new ((w.alloc (.map #[] 0)).alloc (.map #[] 0)) (.cells (par0 w.heap.size (w.heap.size + 1) ml) TP)
      rw [s2] at this
      exact this
    · have : i < (par0 w.heap.size (w.heap.size + 1) ml).size := hi
      simp [Array.getD, this]
  refine ⟨w.heap.size + 1 + 1, if ml then w.heap.size else w.heap.size + 1, fun i => (par0 w.heap.size (w.heap.size + 1) ml).getD i (.bool false), rfl, ?_, hb, by omega, by split <;> omega⟩
  exact {
    g0 := by rw [hb.cell (p := ⟨GI, 0, none⟩) (by show GI < _; omega)]; exact g0
    g1 := by rw [hb.cell (p := ⟨GI, 1, none⟩) (by show GI < _; omega)]; exact g1
    gB := hG
    par := hrow
    hB := by omega
    hm := by split <;> omega
    f15 := rfl
    f21 := rfl
    f23 := rfl
    fsc := by cases ml <;> rfl
    f54 := rfl
    sm := by cases ml <;> assumption
    sy := ⟨rfl, .inl ⟨rfl, rfl⟩⟩
    lc := ⟨rfl, .inl ⟨rfl, rfl⟩⟩
    xp := by show w.heap.size ≤ _; omega
    xm := by show w.heap.size ≤ _; split <;> omega
    xs := OwnIn.none _ _ _
    xl := OwnIn.none _ _ _ }
set_option maxRecDepth 100000 in
theorem newp (ml : Bool) (w : World) (B : Nat) (g0 : w.cell? ⟨GI, 0, none⟩ = some (.int .u32 4294967295)) (g1 : w.cell? ⟨GI, 1, none⟩ = some (.int .u32 4294967295)) (hG : GI < B) (hB : B ≤ w.heap.size) :
    Calls Tryd.prog 8 #[.bool ml] w (NewP ml w B) := by
  have HF := Lib.hid (newp_fin ml w B g0 g1 hG hB)
  have hmm := @run_makeMap Tryd.prog
  have hbl := bldP
  clear g0 g1 hG hB
  go_enter Tryd.func8, Tryd.ntmps8
  go_wp2_with fail
  go_ret
  exact HF.out
theorem slice_of {w : World} {B : Nat} {e : TypeId} {size n : Nat} {v : Value} {xs : List Value} (h : w.ownsRow B e size v n xs) : ∃ a c, v = .slice a n c := by
  rcases h.2 with ⟨h1, h2⟩ | ⟨g, cap, cur, h1, -⟩
  · exact ⟨none, 0, by rw [h1, h2]⟩
  · exact ⟨_, _, h1⟩
/-- The number of symbols. -/
def IntIs (n : Int) (w : World) (e : Ending) (w' : World) : Prop := e = .returned (.int .i64 n) ∧ w = w'
section
variable {X : Nat → Prop} {w : World} {B pb mb : Nat} {ml : Bool} {Lm Ls Ll : List Ent} {f : Nat → Value} {sv lv : Value}
theorem PS.c21 (h : PS X w B pb mb ml Lm Ls Ll f sv lv) : w.cell? ⟨pb, 21, none⟩ = some sv := by rw [h.par.cell (by omega), h.f21]
theorem PS.c23 (h : PS X w B pb mb ml Lm Ls Ll f sv lv) : w.cell? ⟨pb, 23, none⟩ = some lv := by rw [h.par.cell (by omega), h.f23]
set_option maxRecDepth 100000 in
theorem symN (h : PS X w B pb mb ml Lm Ls Ll f sv lv) : Calls Tryd.prog 17 #[.pointer (some ⟨pb, 0, none⟩)] w (IntIs Ls.length w) := by
  obtain ⟨a, c, rfl⟩ := slice_of h.sy
  have c1 := h.c21
  clear h
  go_enter Tryd.func17, Tryd.ntmps17
  go_wp2_with fail
  go_ret
  exact ⟨rfl, rfl⟩
set_option maxRecDepth 100000 in
theorem locN (h : PS X w B pb mb ml Lm Ls Ll f sv lv) : Calls Tryd.prog 18 #[.pointer (some ⟨pb, 0, none⟩)] w (IntIs Ll.length w) := by
  obtain ⟨a, c, rfl⟩ := slice_of h.lc
  have c1 := h.c23
  clear h
  go_enter Tryd.func18, Tryd.ntmps18
  go_wp2_with fail
  go_ret
  exact ⟨rfl, rfl⟩
def StrIs (s : ByteArray) (w : World) (e : Ending) (w' : World) : Prop := e = .returned (.string s) ∧ w = w'
/-- A symbol's cell. -/
theorem PS.scell (h : PS X w B pb mb ml Lm Ls Ll f sv lv) (i k : Nat) (e : Ent) (he : Ls[i]? = some e) (hk : k < 10) : ∃ g c, sv = .slice (some ⟨g, 0, none⟩) Ls.length c ∧ i < Ls.length ∧ w.cell? ⟨g, i * 10 + k, none⟩ = (symc (kindOf ml) e)[k]? := by
  have hi := (List.getElem?_eq_some_iff.1 he).1
  have hs := h.sy
  have hg : ∃ g c, sv = .slice (some ⟨g, 0, none⟩) Ls.length c := by
    rcases hs.2 with ⟨h1, h2⟩ | ⟨g, cap, cur, h1, -⟩
    · exfalso; omega
    · exact ⟨_, _, h1⟩
  obtain ⟨g, c, rfl⟩ := hg
  refine ⟨g, c, rfl, hi, ?_⟩
  rw [hs.cellAt (i * 10 + k) (by omega), syms_at _ _ _ _ hi hk]
  rw [(List.getElem?_eq_some_iff.1 he).2]
set_option maxRecDepth 100000 in
theorem symName (h : PS X w B pb mb ml Lm Ls Ll f sv lv) (i : Nat) (e : Ent) (he : Ls[i]? = some e) (hm : Ls.length ≤ 16777216) : Calls Tryd.prog 19 #[.pointer (some ⟨pb, 0, none⟩), .int .i64 i] w (StrIs e.nm w) := by
  obtain ⟨g, c, rfl, hi, hc⟩ := h.scell i 1 e he (by omega)
  replace hc : w.cell? ⟨g, i * 10 + 1, none⟩ = some (.string e.nm) := hc
  have c1 := h.c21
  have k1 : (0 : Int) ≤ (i : Int) := by omega
  have k2 : (i : Int) < (Ls.length : Int) := by omega
  clear h he
  go_enter Tryd.func19, Tryd.ntmps19
  go_wp2_with fail
  go_ret
  exact ⟨rfl, rfl⟩
end
/-- The table behind one more use of a name. -/
def tick : List Ent → ByteArray → List Ent
  | [], nm => [⟨nm, 0, 1⟩]
  | e :: L, nm => if e.nm = nm then { e with uses := e.uses + 1 } :: L else e :: tick L nm
/-- The number of a name. -/
def spot : List Ent → ByteArray → Nat
  | [], _ => 0
  | e :: L, nm => if e.nm = nm then 0 else spot L nm + 1
def Small (L : List Ent) (n : Nat) : Prop := L.length ≤ n ∧ ∀ e ∈ L, e.uses ≤ n
theorem Small.nil : Small [] 0 := ⟨Nat.le_refl _, fun e h => by cases h⟩
theorem Small.mono {L : List Ent} {n m : Nat} (h : Small L n) (hm : n ≤ m) : Small L m := ⟨Nat.le_trans h.1 hm, fun e he => Nat.le_trans (h.2 e he) hm⟩
theorem tick_len (L : List Ent) (nm : ByteArray) : (tick L nm).length ≤ L.length + 1 := by
  induction L with
  | nil => simp [tick]
  | cons a L ih =>
    simp only [tick]
    split
    · simp
    · simp only [List.length_cons]; omega
theorem tick_uses (L : List Ent) (nm : ByteArray) (n : Nat) (h : ∀ e ∈ L, e.uses ≤ n) : ∀ e ∈ tick L nm, e.uses ≤ n + 1 := by
  induction L with
  | nil => intro e he; simp [tick] at he; subst he; simp
  | cons a L ih =>
    intro e he
    simp only [tick] at he
    split at he
    · rcases List.mem_cons.1 he with rfl | he
      · have := h a (List.mem_cons_self ..)
        simp only; omega
      · have := h e (List.mem_cons_of_mem _ he); omega
    · rcases List.mem_cons.1 he with rfl | he
      · have := h e (List.mem_cons_self ..); omega
      · exact ih (fun e he => h e (List.mem_cons_of_mem _ he)) e he
theorem Small.tick {L : List Ent} {n : Nat} (h : Small L n) (nm : ByteArray) : Small (tick L nm) (n + 1) :=
  ⟨Nat.le_trans (tick_len L nm) (by have := h.1; omega), tick_uses L nm n h.2⟩
theorem tick_new (L : List Ent) (nm : ByteArray) (h : ∀ e ∈ L, e.nm ≠ nm) : tick L nm = L ++ [⟨nm, 0, 1⟩] ∧ spot L nm = L.length := by
  induction L with
  | nil => exact ⟨rfl, rfl⟩
  | cons a L ih =>
    have h1 := h a (List.mem_cons_self ..)
    obtain ⟨i1, i2⟩ := ih (fun e he => h e (List.mem_cons_of_mem _ he))
    exact ⟨by simp only [tick, if_neg h1, i1, List.cons_append], by simp only [spot, if_neg h1, i2, List.length_cons]⟩
theorem tick_old (L : List Ent) (nm : ByteArray) (h : ∃ e ∈ L, e.nm = nm) : ∃ i e0, L[i]? = some e0 ∧ e0.nm = nm ∧ (∀ j e', j < i → L[j]? = some e' → e'.nm ≠ nm) ∧ tick L nm = L.set i { e0 with uses := e0.uses + 1 } ∧ spot L nm = i := by
  induction L with
  | nil => obtain ⟨e, he, -⟩ := h; cases he
  | cons a L ih =>
    by_cases h1 : a.nm = nm
    · exact ⟨0, a, rfl, h1, fun j e' hj => by omega, by simp [tick, h1], by simp [spot, h1]⟩
    · obtain ⟨e, he, hn⟩ := h
      rcases List.mem_cons.1 he with rfl | he
      · exact absurd hn h1
      obtain ⟨i, e0, a1, a2, a3, a4, a5⟩ := ih ⟨e, he, hn⟩
      refine ⟨i + 1, e0, by simpa using a1, a2, fun j e' hj hje => ?_, by simp [tick, h1, a4], by simp [spot, h1, a5]⟩
      cases j with
      | zero => simp at hje; subst hje; exact h1
      | succ j => exact a3 j e' (by omega) (by simpa using hje)
def SymQ (X : Nat → Prop) (w : World) (B pb mb : Nat) (ml : Bool) (L : List Ent) (i : Nat) (e : Ending) (w' : World) : Prop :=
  (∃ l0 : Int, e = .returned (.agg #[.int .i32 l0, .int .u32 0, .int .u32 i])) ∧ (∃ f sv lv, PS X w' B pb mb ml L L (if ml then L else []) f sv lv) ∧ Kp X B w w'
theorem SymP.q {X : Nat → Prop} {w : World} {B pb mb : Nat} {ml : Bool} {L : List Ent} {l0 : Int} {i : Nat} {e : Ending} {w' : World} (h : SymP X w B pb mb ml L l0 i e w') : SymQ X w B pb mb ml L i e w' := ⟨⟨l0, h.1⟩, h.2⟩
/-- symbolForName, whatever the table holds. -/
theorem sym_any (X : Nat → Prop) (w : World) (B pb mb : Nat) (ml : Bool) (L : List Ent) (f : Nat → Value) (sv lv : Value) (nm : ByteArray) (n : Nat) (h : PS X w B pb mb ml L L (if ml then L else []) f sv lv) (hX : ∀ g, w.heap.size ≤ g → X g) (hs : Small L n) (hn : n ≤ 16777216) :
    Calls Tryd.prog 29 #[.pointer (some ⟨pb, 0, none⟩), .agg #[.int .i32 0], .string nm] w (SymQ X w B pb mb ml (tick L nm) (spot L nm)) := by
  have hL : L.length ≤ 16777216 := Nat.le_trans hs.1 hn
  by_cases hex : ∃ e ∈ L, e.nm = nm
  · obtain ⟨i, e0, hi, he, hf, ht, hp⟩ := tick_old L nm hex
    have hu : e0.uses ≤ 16777216 := Nat.le_trans (hs.2 e0 (List.mem_of_getElem? hi)) hn
    rw [ht, hp]
    cases ml
    · exact (sym_old_g X w B pb mb L f sv lv nm 0 i e0 h hi he hf hX hL hu).mono fun _ _ h => h.q
    · exact (sym_old_l X w B pb mb L f sv lv nm 0 i e0 h hi he hf hX hL hu).mono fun _ _ h => h.q
  · have hne : ∀ e ∈ L, e.nm ≠ nm := fun e he hn => hex ⟨e, he, hn⟩
    obtain ⟨ht, hp⟩ := tick_new L nm hne
    rw [ht, hp]
    cases ml
    · exact (sym_new_g X w B pb mb L f sv lv nm 0 h hne hX hL).mono fun _ _ h => h.q
    · exact (sym_new_l X w B pb mb L f sv lv nm 0 h hne hX hL).mono fun _ _ h => h.q
end Go.Proofs.YtmfpgnedeonmiaaDoor.SY

/- What memory holds while the rules of law 3 are built. Written by gen_boxh.py. -/
import Derived.Test.YtioilpdjfplffaaRg
namespace Go.Proofs.Ytioilpdjfplffaa.ZT
open Go.RowKit Go.Proofs.Ytioilpdjfplffaa.TB
set_option linter.unusedVariables false
set_option linter.unusedSimpArgs false
theorem info48 : (Try.prog.info? 48).map (fun i => (i.zero, i.size, i.bytes)) = some (some (.agg #[.nilIface, .int .i32 0]), 2, 24) := by kernel_rfl
theorem info30 : (Try.prog.info? 30).map (fun i => (i.zero, i.size, i.bytes)) = some (some (.pointer none), 1, 8) := by kernel_rfl
theorem info21 : (Try.prog.info? 21).map (fun i => (i.zero, i.size, i.bytes)) = some (some (.int .i32 0), 1, 4) := by kernel_rfl
def rcp (d : Nat → Nat) (L : Nat → Int) (k : Nat) : Nat → Nat → Value := fun i j => if i < k then rc (fun i => some (d i)) L i j else #[Value.nilIface, .int .i32 0][j]!
def dgp (d : Nat → Nat) (k : Nat) : Nat → Nat → Value := fun i _ => if i < k then .pointer (some ⟨d i, 0, none⟩) else .pointer none
def ogp (L : Nat → Int) (k : Nat) : Nat → Nat → Value := fun i _ => if i < k then .int .i32 (L i) else .int .i32 0
/-- The box fresh, the rules as far as kr, the declarations as far as kd, the locations as far as ko. -/
def LS (w0 : World) (g rg dg og N : Nat) (kt : ByteArray) (im : Bool) (key : Int) (ko kd kr : Nat) (d : Nat → Nat) (L : Nat → Int) (wr : World) : Prop :=
  Below w0.heap.size w0 wr ∧ Box wr g kt (fun _ => Sd0) true im key ∧ Tab wr rg 48 2 N (rcp d L kr) ∧ Tab wr dg 30 1 N (dgp d kd) ∧ Tab wr og 21 1 N (ogp L ko) ∧ w0.heap.size ≤ g ∧ g < rg ∧ rg < dg ∧ dg < og
section
variable {w0 : World} {g rg dg og N : Nat} {kt : ByteArray} {im : Bool} {key : Int} {ko kd kr : Nat} {d : Nat → Nat} {L : Nat → Int} {wr : World}
theorem LS.step (h : LS w0 g rg dg og N kt im key ko kd kr d L wr) {w' : World} (hb : Below wr.heap.size wr w') : LS w0 g rg dg og N kt im key ko kd kr d L w' := by
  obtain ⟨h0, h1, h2, h3, h4, h5, h6, h7, h8⟩ := h
  exact ⟨h0.trans (hb.mono h0.size), Blk.below h1 hb h1.lt, h2.below hb h2.lt, h3.below hb h3.lt, h4.below hb h4.lt, h5, h6, h7, h8⟩
theorem LS.alloc (h : LS w0 g rg dg og N kt im key ko kd kr d L wr) (ob : Obj) : LS w0 g rg dg og N kt im key ko kd kr d L (wr.alloc ob) := h.step ((Below.refl _ _).alloc (Nat.le_refl _) ob)
theorem LS.putO (h : LS w0 g rg dg og N kt im key ko kd kr d L wr) (hk : ko < N) (l : Int) (h1 : kr ≤ ko) : LS w0 g rg dg og N kt im key (ko + 1) kd kr d (fun i => if i = ko then l else L i) (wr.setCell ⟨og, ko, none⟩ (.int .i32 l)) := by
  obtain ⟨h0, h1', h2, h3, h4, h5, h6, h7, h8⟩ := h
  have e1 : og ≠ g := by omega
  have e2 : og ≠ rg := by omega
  have e3 : og ≠ dg := by omega
  refine ⟨h0.setCell (by show w0.heap.size ≤ og; omega) _, Blk.far h1' e1.symm _, (h2.far e2.symm _).ext fun i j hi hj => ?_, h3.far e3.symm _, ?_, h5, h6, h7, h8⟩
  · unfold rcp
    by_cases hik : i < kr
    · rw [if_pos hik, if_pos hik]
      unfold rc
      simp only
      rw [show (if i = ko then l else L i) = L i from if_neg (by omega)]
    · rw [if_neg hik, if_neg hik]
  · have := h4.set hk (j := 0) (by omega) (.int .i32 l)
    rw [Nat.mul_one, Nat.add_zero] at this
    refine this.ext fun i j hi hj => ?_
    obtain rfl : j = 0 := by omega
    unfold upd ogp
    by_cases e : i = ko
    · subst e; simp
    · have e1 : (i < ko + 1) = (i < ko) := by simp; omega
      simp [e, e1]
theorem LS.putD (h : LS w0 g rg dg og N kt im key ko kd kr d L wr) (hk : kd < N) (b : Nat) (h1 : kr ≤ kd) : LS w0 g rg dg og N kt im key ko (kd + 1) kr (fun i => if i = kd then b else d i) L (wr.setCell ⟨dg, kd, none⟩ (.pointer (some ⟨b, 0, none⟩))) := by
  obtain ⟨h0, h1', h2, h3, h4, h5, h6, h7, h8⟩ := h
  have e1 : dg ≠ g := by omega
  have e2 : dg ≠ rg := by omega
  have e3 : dg ≠ og := by omega
  refine ⟨h0.setCell (by show w0.heap.size ≤ dg; omega) _, Blk.far h1' e1.symm _, (h2.far e2.symm _).ext fun i j hi hj => ?_, ?_, h4.far e3.symm _, h5, h6, h7, h8⟩
  · unfold rcp
    by_cases hik : i < kr
    · rw [if_pos hik, if_pos hik]
      unfold rc
      simp only
      rw [show (if i = kd then b else d i) = d i from if_neg (by omega)]
    · rw [if_neg hik, if_neg hik]
  · have := h3.set hk (j := 0) (by omega) (.pointer (some ⟨b, 0, none⟩))
    rw [Nat.mul_one, Nat.add_zero] at this
    refine this.ext fun i j hi hj => ?_
    obtain rfl : j = 0 := by omega
    unfold upd dgp
    by_cases e : i = kd
    · subst e; simp
    · have e1 : (i < kd + 1) = (i < kd) := by simp; omega
      simp [e, e1]
theorem LS.putR (h : LS w0 g rg dg og N kt im key ko kd kr d L wr) (hk : kr < N) : LS w0 g rg dg og N kt im key ko kd (kr + 1) d L ((wr.setCell ⟨rg, kr * 2, none⟩ (.iface 30 (.pointer (some ⟨d kr, 0, none⟩)))).setCell ⟨rg, kr * 2 + 1, none⟩ (.int .i32 (L kr))) := by
  obtain ⟨h0, h1', h2, h3, h4, h5, h6, h7, h8⟩ := h
  have e1 : rg ≠ g := by omega
  have e2 : rg ≠ dg := by omega
  have e3 : rg ≠ og := by omega
  refine ⟨(h0.setCell (by show w0.heap.size ≤ rg; omega) _).setCell (by show w0.heap.size ≤ rg; omega) _, Blk.far (Blk.far h1' e1.symm _) e1.symm _, ?_, (h3.far e2.symm _).far e2.symm _, (h4.far e3.symm _).far e3.symm _, h5, h6, h7, h8⟩
  refine ((h2.set hk (j := 0) (by omega) (.iface 30 (.pointer (some ⟨d kr, 0, none⟩)))).set hk (j := 1) (by omega) (.int .i32 (L kr))).ext fun i j hi hj => ?_
  by_cases e : i = kr
  · subst e
    rcases (by omega : j = 0 ∨ j = 1) with rfl | rfl <;> simp [upd, rcp, rc, dv]
  · have e1 : (i < kr + 1) = (i < kr) := by simp; omega
    rcases (by omega : j = 0 ∨ j = 1) with rfl | rfl <;> simp [upd, rcp, e, e1]
end
theorem LS.start (w0 w : World) (g N : Nat) (kt : ByteArray) (im : Bool) (key : Int) (d : Nat → Nat) (L : Nat → Int) (hb : Below w0.heap.size w0 w) (hx : Box w g kt (fun _ => Sd0) true im key) (hg : w0.heap.size ≤ g) :
    LS w0 g w.heap.size (w.heap.size + 1) (w.heap.size + 1 + 1) N kt im key 0 0 0 d L (((w.alloc (.cells (madeCells #[.nilIface, .int .i32 0] (N * 2)) 48)).alloc (.cells (madeCells #[.pointer none] N) 30)).alloc (.cells (madeCells #[.int .i32 0] N) 21)) := by
  have hl := hx.lt
  have z := hb.size
  have t1 := Tab.new w 48 #[.nilIface, .int .i32 0] N 2 rfl (rcp d L 0) (fun i j _ _ => by unfold rcp; simp)
  have t2 := Tab.new (w.alloc (.cells (madeCells #[.nilIface, .int .i32 0] (N * 2)) 48)) 30 #[.pointer none] N 1 rfl (dgp d 0) (fun i j _ hj => by
    obtain rfl : j = 0 := by omega
    unfold dgp; simp)
  have t3 := Tab.new ((w.alloc (.cells (madeCells #[.nilIface, .int .i32 0] (N * 2)) 48)).alloc (.cells (madeCells #[.pointer none] N) 30)) 21 #[.int .i32 0] N 1 rfl (ogp L 0) (fun i j _ hj => by
    obtain rfl : j = 0 := by omega
    unfold ogp; simp)
  simp only [Nat.mul_one, World.size_alloc] at t2 t3
  exact ⟨((hb.alloc (by omega) _).alloc (by simp; omega) _).alloc (by simp; omega) _, ((hx.alloc _).alloc _).alloc _, (t1.alloc _).alloc _, t2.alloc _, t3, hg, hl, by omega, by omega⟩
/-- While the sides are drawn: the box, the rules, and three arrays. -/
def MS (w0 : World) (g rg ri N : Nat) (kt : ByteArray) (im : Bool) (key : Int) (d : Nat → Nat) (L : Nat → Int) (SS : Nat → Sd) (RR : Nat → Nat) (CC KK : Nat → Int) (wr : World) : Prop :=
  Below w0.heap.size w0 wr ∧ Box wr g kt SS true im key ∧ Tab wr rg 48 2 N (rc (fun i => some (d i)) L) ∧ Tab wr (rg + 1) 30 1 N (fun i _ => .pointer (some ⟨d i, 0, none⟩)) ∧ Tab wr (rg + 1 + 1) 21 1 N (fun i _ => .int .i32 (L i)) ∧
    Tab wr ri 49 1 4 (fun i _ => .int .i64 (RR i : Nat)) ∧ Tab wr (ri + 1) 50 1 4 (fun i _ => .int .u8 (CC i)) ∧ Tab wr (ri + 1 + 1) 49 1 4 (fun i _ => .int .i64 (KK i)) ∧ w0.heap.size ≤ g ∧ g < rg ∧ rg + 1 + 1 < ri
section
variable {w0 : World} {g rg ri N : Nat} {kt : ByteArray} {im : Bool} {key : Int} {d : Nat → Nat} {L : Nat → Int} {SS : Nat → Sd} {RR : Nat → Nat} {CC KK : Nat → Int} {wr : World}
theorem MS.step (h : MS w0 g rg ri N kt im key d L SS RR CC KK wr) {w' : World} (hb : Below wr.heap.size wr w') : MS w0 g rg ri N kt im key d L SS RR CC KK w' := by
  obtain ⟨h0, h1, h2, h3, h4, h5, h6, h7, h8, h9, h10⟩ := h
  exact ⟨h0.trans (hb.mono h0.size), Blk.below h1 hb h1.lt, h2.below hb h2.lt, h3.below hb h3.lt, h4.below hb h4.lt, h5.below hb h5.lt, h6.below hb h6.lt, h7.below hb h7.lt, h8, h9, h10⟩
theorem MS.side (h : MS w0 g rg ri N kt im key d L SS RR CC KK wr) {w' : World} {SS' : Nat → Sd} (hb : Kept wr.heap.size g wr w') (hx : Box w' g kt SS' true im key) : MS w0 g rg ri N kt im key d L SS' RR CC KK w' := by
  obtain ⟨h0, h1, h2, h3, h4, h5, h6, h7, h8, h9, h10⟩ := h
  exact ⟨h0.trans (hb.below h0.size h8), hx, hb.tab h2 h2.lt (by omega), hb.tab h3 h3.lt (by omega), hb.tab h4 h4.lt (by omega), hb.tab h5 h5.lt (by omega), hb.tab h6 h6.lt (by omega), hb.tab h7 h7.lt (by omega), h8, h9, h10⟩
theorem MS.putR (h : MS w0 g rg ri N kt im key d L SS RR CC KK wr) {s : Nat} (hs : s < 4) (r : Nat) : MS w0 g rg ri N kt im key d L SS (fun i => if i = s then r else RR i) CC KK (wr.setCell ⟨ri, s, none⟩ (.int .i64 r)) := by
  obtain ⟨h0, h1, h2, h3, h4, h5, h6, h7, h8, h9, h10⟩ := h
  refine ⟨h0.setCell (by show w0.heap.size ≤ ri; omega) _, Blk.far h1 (by show g ≠ ri; omega) _, h2.far (by show rg ≠ ri; omega) _, h3.far (by show rg + 1 ≠ ri; omega) _, h4.far (by show rg + 1 + 1 ≠ ri; omega) _, ?_, h6.far (by show ri + 1 ≠ ri; omega) _, h7.far (by show ri + 1 + 1 ≠ ri; omega) _, h8, h9, h10⟩
  have := h5.set hs (j := 0) (by omega) (.int .i64 r)
  rw [Nat.mul_one, Nat.add_zero] at this
  refine this.ext fun i j hi hj => ?_
  obtain rfl : j = 0 := by omega
  unfold upd
  by_cases e : i = s
  · subst e; simp
  · simp [e]
theorem MS.putC (h : MS w0 g rg ri N kt im key d L SS RR CC KK wr) {s : Nat} (hs : s < 4) (r : Int) : MS w0 g rg ri N kt im key d L SS RR (fun i => if i = s then r else CC i) KK (wr.setCell ⟨ri + 1, s, none⟩ (.int .u8 r)) := by
  obtain ⟨h0, h1, h2, h3, h4, h5, h6, h7, h8, h9, h10⟩ := h
  refine ⟨h0.setCell (by show w0.heap.size ≤ ri + 1; omega) _, Blk.far h1 (by show g ≠ ri + 1; omega) _, h2.far (by show rg ≠ ri + 1; omega) _, h3.far (by show rg + 1 ≠ ri + 1; omega) _, h4.far (by show rg + 1 + 1 ≠ ri + 1; omega) _, h5.far (by show ri ≠ ri + 1; omega) _, ?_, h7.far (by show ri + 1 + 1 ≠ ri + 1; omega) _, h8, h9, h10⟩
  have := h6.set hs (j := 0) (by omega) (.int .u8 r)
  rw [Nat.mul_one, Nat.add_zero] at this
  refine this.ext fun i j hi hj => ?_
  obtain rfl : j = 0 := by omega
  unfold upd
  by_cases e : i = s
  · subst e; simp
  · simp [e]
theorem MS.putK (h : MS w0 g rg ri N kt im key d L SS RR CC KK wr) {s : Nat} (hs : s < 4) (r : Int) : MS w0 g rg ri N kt im key d L SS RR CC (fun i => if i = s then r else KK i) (wr.setCell ⟨ri + 1 + 1, s, none⟩ (.int .i64 r)) := by
  obtain ⟨h0, h1, h2, h3, h4, h5, h6, h7, h8, h9, h10⟩ := h
  refine ⟨h0.setCell (by show w0.heap.size ≤ ri + 1 + 1; omega) _, Blk.far h1 (by show g ≠ ri + 1 + 1; omega) _, h2.far (by show rg ≠ ri + 1 + 1; omega) _, h3.far (by show rg + 1 ≠ ri + 1 + 1; omega) _, h4.far (by show rg + 1 + 1 ≠ ri + 1 + 1; omega) _, h5.far (by show ri ≠ ri + 1 + 1; omega) _, h6.far (by show ri + 1 ≠ ri + 1 + 1; omega) _, ?_, h8, h9, h10⟩
  have := h7.set hs (j := 0) (by omega) (.int .i64 r)
  rw [Nat.mul_one, Nat.add_zero] at this
  refine this.ext fun i j hi hj => ?_
  obtain rfl : j = 0 := by omega
  unfold upd
  by_cases e : i = s
  · subst e; simp
  · simp [e]
theorem MS.start (h : LS w0 g rg (rg + 1) (rg + 1 + 1) N kt im key N N N d L wr) :
    MS w0 g rg wr.heap.size N kt im key d L (fun _ => Sd0) (fun _ => 0) (fun _ => 0) (fun _ => 0) (((wr.alloc (.cells #[.int .i64 0, .int .i64 0, .int .i64 0, .int .i64 0] 49)).alloc (.cells #[.int .u8 0, .int .u8 0, .int .u8 0, .int .u8 0] 50)).alloc (.cells #[.int .i64 0, .int .i64 0, .int .i64 0, .int .i64 0] 49)) := by
  have hst := fun (ob1 ob2 ob3 : Obj) => ((h.alloc ob1).alloc ob2).alloc ob3
  obtain ⟨h0, h1, h2, h3, h4, h5, h6, h7, h8⟩ := hst (.cells #[.int .i64 0, .int .i64 0, .int .i64 0, .int .i64 0] 49) (.cells #[.int .u8 0, .int .u8 0, .int .u8 0, .int .u8 0] 50) (.cells #[.int .i64 0, .int .i64 0, .int .i64 0, .int .i64 0] 49)
  have hlt : rg + 1 + 1 < wr.heap.size := h.2.2.2.2.1.lt
  have t1 : Tab (wr.alloc (.cells #[.int .i64 0, .int .i64 0, .int .i64 0, .int .i64 0] 49)) wr.heap.size 49 1 4 (fun i _ => .int .i64 ((0 : Nat) : Int)) := ⟨_, Blk.new wr 49 _, rfl, fun i j hi hj => by
    obtain rfl : j = 0 := by omega
    rcases fourI hi with rfl | rfl | rfl | rfl <;> rfl⟩
  have t2 : Tab ((wr.alloc (.cells #[.int .i64 0, .int .i64 0, .int .i64 0, .int .i64 0] 49)).alloc (.cells #[.int .u8 0, .int .u8 0, .int .u8 0, .int .u8 0] 50)) (wr.heap.size + 1) 50 1 4 (fun i _ => .int .u8 0) := ⟨_, by have := Blk.new (wr.alloc (.cells #[.int .i64 0, .int .i64 0, .int .i64 0, .int .i64 0] 49)) 50 #[.int .u8 0, .int .u8 0, .int .u8 0, .int .u8 0]; simpa using this, rfl, fun i j hi hj => by
    obtain rfl : j = 0 := by omega
    rcases fourI hi with rfl | rfl | rfl | rfl <;> rfl⟩
  have t3 : Tab (((wr.alloc (.cells #[.int .i64 0, .int .i64 0, .int .i64 0, .int .i64 0] 49)).alloc (.cells #[.int .u8 0, .int .u8 0, .int .u8 0, .int .u8 0] 50)).alloc (.cells #[.int .i64 0, .int .i64 0, .int .i64 0, .int .i64 0] 49)) (wr.heap.size + 1 + 1) 49 1 4 (fun i _ => .int .i64 0) := ⟨_, by have := Blk.new ((wr.alloc (.cells #[.int .i64 0, .int .i64 0, .int .i64 0, .int .i64 0] 49)).alloc (.cells #[.int .u8 0, .int .u8 0, .int .u8 0, .int .u8 0] 50)) 49 #[.int .i64 0, .int .i64 0, .int .i64 0, .int .i64 0]; simpa using this, rfl, fun i j hi hj => by
    obtain rfl : j = 0 := by omega
    rcases fourI hi with rfl | rfl | rfl | rfl <;> rfl⟩
  exact ⟨h0, h1, h2.ext (fun i j hi hj => by unfold rcp; rw [if_pos hi]), h3.ext (fun i j hi hj => by unfold dgp; rw [if_pos hi]), h4.ext (fun i j hi hj => by unfold ogp; rw [if_pos hi]), (t1.alloc _).alloc _, t2.alloc _, t3, h5, h6, hlt⟩
end
def FullS (i : Nat) (s : Sd) (r : Nat) (c kl : Int) : Prop := 0 ≤ c ∧ c ≤ 6 ∧ (∃ t, kl = cls c t) ∧ s = ⟨tx c, (i : Int) + 1, kd c, 0, sun kl, sst kl, r, true⟩
def PR (n s : Nat) (SS : Nat → Sd) (RR : Nat → Nat) (CC KK : Nat → Int) (av : Bool) : Prop :=
  (∀ i, i < s → RR i < n ∧ (((SS i).k = 0 ∧ av = false) ∨ FullS i (SS i) (RR i) (CC i) (KK i))) ∧ (av = false → ∃ i, i < s ∧ (SS i).k = 0)
theorem PR.zero (n : Nat) (SS : Nat → Sd) (RR : Nat → Nat) (CC KK : Nat → Int) : PR n 0 SS RR CC KK true := ⟨fun i h => absurd h (Nat.not_lt_zero i), fun h => by cases h⟩
theorem PR.no {n s : Nat} {SS : Nat → Sd} {RR : Nat → Nat} {CC KK : Nat → Int} {av : Bool} (h : PR n s SS RR CC KK av) {r : Nat} (hr : r < n) {x : Sd} (hx : x.k = 0) : PR n (s + 1) (updS SS s x) (fun i => if i = s then r else RR i) CC KK false := by
  refine ⟨fun i hi => ?_, fun _ => ⟨s, by omega, by unfold updS; rw [if_pos rfl]; exact hx⟩⟩
  unfold updS
  by_cases e : i = s
  · subst e
    simp only [if_pos rfl]
    exact ⟨hr, .inl ⟨hx, by trivial⟩⟩
  · simp only [if_neg e]
    obtain ⟨h1, h2⟩ := h.1 i (by omega)
    refine ⟨h1, ?_⟩
    rcases h2 with ⟨h2, -⟩ | h2
    · exact .inl ⟨h2, by trivial⟩
    · exact .inr h2
theorem PR.yes {n s : Nat} {SS : Nat → Sd} {RR : Nat → Nat} {CC KK : Nat → Int} {av : Bool} (h : PR n s SS RR CC KK av) {r : Nat} (hr : r < n) {x : Sd} {c kl : Int} (hx : FullS s x r c kl) :
    PR n (s + 1) (updS SS s x) (fun i => if i = s then r else RR i) (fun i => if i = s then c else CC i) (fun i => if i = s then kl else KK i) av := by
  refine ⟨fun i hi => ?_, fun ha => ?_⟩
  · unfold updS
    by_cases e : i = s
    · subst e
      simp only [if_pos rfl]
      exact ⟨hr, .inr hx⟩
    · simp only [if_neg e]
      exact h.1 i (by omega)
  · obtain ⟨i, hi, h2⟩ := h.2 ha
    refine ⟨i, by omega, ?_⟩
    unfold updS
    rw [if_neg (by omega)]
    exact h2
theorem rix (X : Int) (n : Nat) (hn : 0 < n) (h4 : n ≤ 4096) : ∃ r : Nat, wrap64 (X % 4294967296 % (n : Int)) = (r : Int) ∧ r < n := by
  have h1 : 0 ≤ X % 4294967296 % (n : Int) := Int.emod_nonneg _ (by omega)
  have h2 : X % 4294967296 % (n : Int) < (n : Int) := Int.emod_lt_of_pos _ (by omega)
  refine ⟨(X % 4294967296 % (n : Int)).toNat, ?_, by omega⟩
  generalize X % 4294967296 % (n : Int) = v at *
  unfold wrap64
  omega
theorem class8x (c : Int) (t : Bool) (w : World) : Calls Try.prog 8 #[.int .u8 c, .bool t] w fun e w' => ∃ kl, (∃ t, kl = cls c t) ∧ e = .returned (.int .i64 kl) ∧ Below w.heap.size w w' :=
  (class8 c t w).mono fun e w' h => ⟨cls c t, ⟨t, rfl⟩, h.1, h.2⟩
set_option maxRecDepth 100000 in
set_option maxHeartbeats 8000000 in
theorem law3_triv (kk mw im : Bool) (n : Nat) (ls idx toks taint ks : Int) (w : World) (h : n = 0 ∨ 4096 < n) :
    Calls Try.prog 3 #[.bool kk, .int .u16 n, .int .i32 ls, .int .u64 idx, .int .u16 toks, .int .u8 taint, .bool mw, .bool im, .int .i32 ks] w fun e w' => e = .returned (.bool true) ∧ Below w.heap.size w w' := by
  have B0 := Below.refl w.heap.size w
  by_cases h0 : n = 0
  · subst h0
    go_enter Try.func3, Try.ntmps3
    go_wp2
    go_ret
    exact ⟨rfl, B0⟩
  by_cases h1 : 4096 < n
  · have h0' : ¬ ((n : Nat) : Int) = 0 := by omega
    have h1' : (4096 : Int) < (n : Int) := by omega
    go_enter Try.func3, Try.ntmps3
    go_wp2
    go_ret
    exact ⟨rfl, B0⟩
  omega
end Go.Proofs.Ytioilpdjfplffaa.ZT

/- zzCheckModel, walked. -/
import Derived.Test.YtmfpgnedeonmiaaDoorHd
namespace Go.Proofs.YtmfpgnedeonmiaaDoor.WA
open Go Go.RowKit Go.Lib Go.Proofs.YtmfpgnedeonmiaaDoor.MP Go.Proofs.YtmfpgnedeonmiaaDoor.SY Go.Proofs.YtmfpgnedeonmiaaDoor.LO Go.Proofs.YtmfpgnedeonmiaaDoor.TB Go.Proofs.YtmfpgnedeonmiaaDoor.OW
set_option linter.unusedVariables false
abbrev BT : TypeId := 4
abbrev MT : TypeId := 97
theorem tab1 {w : World} {g t n : Nat} {f : Nat → Nat → Value} (h : Tab w g t 1 n f) {i : Nat} (hi : i < n) : w.cell? ⟨g, i, none⟩ = some (f i 0) := by
  have := h.cell hi (j := 0) (by omega)
  simpa using this
/-- The map from names to their numbers. -/
def idl : List Ent → Nat → List (ByteArray × Value)
  | [], _ => []
  | e :: l, i => (e.nm, .int .u32 (i : Int)) :: idl l (i + 1)
theorem idl_snoc (l : List Ent) (e : Ent) (i : Nat) : idl (l ++ [e]) i = idl l i ++ [(e.nm, .int .u32 ((i + l.length : Nat) : Int))] := by
  induction l generalizing i with
  | nil => simp [idl]
  | cons a l ih => simp only [List.cons_append, idl, List.length_cons]; rw [ih, show i + 1 + l.length = i + (l.length + 1) by omega]
theorem idl_yes (L : List Ent) (nm : ByteArray) (b : Nat) (h : spot L nm < L.length) : mlook (idl L b) nm = some (.int .u32 ((b + spot L nm : Nat) : Int)) := by
  induction L generalizing b with
  | nil => simp at h
  | cons a L ih =>
    simp only [idl, mlook, spot, List.length_cons] at h ⊢
    by_cases e : a.nm = nm
    · rw [if_pos e.symm, if_pos e]; rfl
    · rw [if_neg (fun h => e h.symm), if_neg e]
      rw [if_neg e] at h
      rw [ih (b + 1) (by omega), show b + 1 + spot L nm = b + (spot L nm + 1) by omega]
theorem idl_no (L : List Ent) (nm : ByteArray) (b : Nat) (h : spot L nm = L.length) : mlook (idl L b) nm = none := by
  induction L generalizing b with
  | nil => rfl
  | cons a L ih =>
    simp only [idl, mlook, spot, List.length_cons] at h ⊢
    by_cases e : a.nm = nm
    · rw [if_pos e] at h; omega
    · rw [if_neg (fun h => e h.symm)]
      rw [if_neg e] at h
      exact ih (b + 1) (by omega)
theorem idl_old (L : List Ent) (nm : ByteArray) (b : Nat) (h : spot L nm < L.length) : idl (tick L nm) b = idl L b := by
  induction L generalizing b with
  | nil => simp at h
  | cons a L ih =>
    simp only [spot, List.length_cons] at h
    simp only [tick]
    by_cases e : a.nm = nm
    · rw [if_pos e]; rfl
    · rw [if_neg e] at h ⊢
      simp only [idl]
      rw [ih (b + 1) (by omega)]
/-- The model as far as it has come. -/
structure Mst (w wr : World) (mb : Nat) (v1 v2 : Value) (L : List Ent) : Prop where
  mp : SMap wr mb (idl L 0)
  hm : w.heap.size ≤ mb
  o1 : wr.ownsRow w.heap.size TStr 1 v1 L.length (nmv L)
  o2 : wr.ownsRow w.heap.size TU 1 v2 L.length (usv L)
  bel : Below w.heap.size w wr
section
variable {w wr w1 : World} {mb : Nat} {v1 v2 v : Value} {L : List Ent} {nm : ByteArray}
theorem Mst.kept (h : Mst w wr mb v1 v2 L) (hs : ∀ g, g < wr.heap.size → w1.heap[g]? = wr.heap[g]?) (hb : Below w.heap.size w w1) : Mst w w1 mb v1 v2 L :=
  ⟨h.mp.kept (hs mb h.mp.lt), h.hm, ownsRow_of h.o1 fun g hv => hs g (h.o1.lt g hv).2, ownsRow_of h.o2 fun g hv => hs g (h.o2.lt g hv).2, hb⟩
theorem Mst.alloc (h : Mst w wr mb v1 v2 L) (o : Obj) : Mst w (wr.alloc o) mb v1 v2 L := h.kept (fun g hg => Below.heap_alloc wr o g hg) (h.bel.alloc h.bel.size o)
theorem Mst.drewN (h : Mst w wr mb v1 v2 L) (n : Nat) : Mst w (wr.drewN n) mb v1 v2 L := h.kept (fun _ _ => rfl) (below_drewN h.bel n)
theorem Mst.start (w : World) : Mst w (w.alloc (.map #[] 0)) w.heap.size (.slice none 0 0) (.slice none 0 0) [] :=
  ⟨SMap.made w, Nat.le_refl _, ⟨rfl, .inl ⟨rfl, rfl⟩⟩, ⟨rfl, .inl ⟨rfl, rfl⟩⟩, (Below.refl _ _).alloc (Nat.le_refl _) _⟩
/-- A count has gone up. -/
theorem Mst.bump {g n2 c2 : Nat} {e : Ent} (h : Mst w wr mb v1 (.slice (some ⟨g, 0, none⟩) n2 c2) L) (he : L[spot L nm]? = some e) :
    Mst w (wr.setCell ⟨g, spot L nm, none⟩ (.int .u32 ((e.uses : Int) + 1))) mb v1 (.slice (some ⟨g, 0, none⟩) n2 c2) (tick L nm) := by
  have hlt : spot L nm < L.length := (List.getElem?_eq_some_iff.1 he).1
  obtain ⟨g', c', e1, hgb, -⟩ := h.o2.form (by omega)
  obtain ⟨rfl, rfl, rfl⟩ : g = g' ∧ n2 = L.length ∧ c2 = c' := by simpa using e1
  have hk : ∀ q, q ≠ g → (wr.setCell ⟨g, spot L nm, none⟩ (.int .u32 ((e.uses : Int) + 1))).heap[q]? = wr.heap[q]? := fun q hq => Below.heap_setCell wr ⟨g, spot L nm, none⟩ _ q hq
  have n1 : mb ≠ g := fun e => own_map h.mp h.o2 (by simp [Value.ownBlock, e])
  have n2 : v1.ownBlock ≠ some g := own_own h.o2 h.o1 (by decide) g rfl
  have hs := (h.o2.stored (spot L nm) (.int .u32 ((e.uses : Int) + 1))).1
  rw [usv_old L nm e he] at hs
  refine ⟨by rw [idl_old L nm 0 hlt]; exact h.mp.kept (hk mb n1), h.hm, ?_, ?_, h.bel.setCell hgb _⟩
  · rw [tick_len_old L nm hlt, nmv_old L nm hlt]
    exact ownsRow_of h.o1 fun q hv => hk q (fun e => n2 (e ▸ hv))
  · rw [tick_len_old L nm hlt]
    exact hs
/-- A new name has been put into the map. -/
theorem Mst.put (h : Mst w wr mb v1 v2 L) (l' : List (ByteArray × Value)) : SMap (putM wr mb l') mb l' ∧ (putM wr mb l').ownsRow w.heap.size TStr 1 v1 L.length (nmv L) ∧ (putM wr mb l').ownsRow w.heap.size TU 1 v2 L.length (usv L) ∧ Below w.heap.size w (putM wr mb l') := by
  have hk : ∀ q, q ≠ mb → (putM wr mb l').heap[q]? = wr.heap[q]? := fun q hq => putM_block wr mb l' q hq
  have n1 := own_map h.mp h.o1
  have n2 := own_map h.mp h.o2
  exact ⟨putM_map wr mb l' h.mp.lt, ownsRow_of h.o1 fun q hv => hk q (fun e => n1 (e ▸ hv)), ownsRow_of h.o2 fun q hv => hk q (fun e => n2 (e ▸ hv)), h.bel.trans (putM_below wr mb l' h.hm)⟩
/-- A row has grown beside a map and a row of another type. -/
theorem grown_beside {o : Obj} {e1 e2 : TypeId} {n1 n2 : Nat} {x1 x2 : List Value} {l : List (ByteArray × Value)} (hm : SMap wr mb l) (h1 : wr.ownsRow w.heap.size e1 1 v1 n1 x1) (h2 : wr.ownsRow w.heap.size e2 1 v2 n2 x2) (hne : e1 ≠ e2) (hb : Below w.heap.size w wr)
    (hg : (wr.alloc o).grownBy w1 v1.ownBlock) : SMap w1 mb l ∧ w1.ownsRow w.heap.size e2 1 v2 n2 x2 ∧ Below w.heap.size w w1 := by
  have hk : ∀ q, q < wr.heap.size → v1.ownBlock ≠ some q → w1.heap[q]? = wr.heap[q]? := fun q hq hv => (hg.block q (by simp; omega) (Ne.symm hv)).trans (Below.heap_alloc wr o q hq)
  refine ⟨hm.kept (hk mb hm.lt (own_map hm h1)), ownsRow_of h2 fun q hv => hk q (h2.lt q hv).2 (own_own h2 h1 (Ne.symm hne) q hv), ?_⟩
  exact Go.Proofs.YtmfpgnedeonmiaaDoor.OW.below_grown (hb.alloc hb.size o) hg (fun q hq => (h1.lt q hq).1) (by have := hb.size; simp; omega)
theorem Mst.fin {g c : Nat} (hse : spot L nm = L.length) (hm : w.heap.size ≤ mb) (m : SMap w1 mb (idl L 0 ++ [(nm, .int .u32 (L.length : Int))])) (o1 : w1.ownsRow w.heap.size TStr 1 v1 (L.length + 1) (nmv L ++ [.string nm]))
    (o2 : w1.ownsRow w.heap.size TU 1 (.slice (some ⟨g, 0, none⟩) (L.length + 1) c) (L.length + 1) (usv L ++ [.int .u32 0])) (hb : Below w.heap.size w w1) :
    Mst w (w1.setCell ⟨g, L.length, none⟩ (.int .u32 1)) mb v1 (.slice (some ⟨g, 0, none⟩) (L.length + 1) c) (tick L nm) := by
  have hk : ∀ q, q ≠ g → (w1.setCell ⟨g, L.length, none⟩ (.int .u32 1)).heap[q]? = w1.heap[q]? := fun q hq => Below.heap_setCell w1 ⟨g, L.length, none⟩ _ q hq
  have n1 : mb ≠ g := fun e => own_map m o2 (by simp [Value.ownBlock, e])
  have n2 : v1.ownBlock ≠ some g := own_own o2 o1 (by decide) g rfl
  have hs := (o2.stored L.length (.int .u32 1)).1
  rw [usv_new L nm hse] at hs
  rw [nmv_new L nm hse] at o1
  have hl := tick_len_new L nm hse
  refine ⟨?_, hm, ?_, ?_, hb.setCell (o2.lt g rfl).1 _⟩
  · rw [spot_end L nm hse, idl_snoc, Nat.zero_add]
    exact m.kept (hk mb n1)
  · rw [hl]; exact ownsRow_of o1 fun q hv => hk q (fun e => n2 (e ▸ hv))
  · rw [hl]; exact hs
end
theorem infoStr : (Tryd.prog.info? TStr).map (fun i => (i.zero, i.size, i.bytes)) = some (some (.string ByteArray.empty), 1, 16) := by kernel_rfl
theorem infoU32 : (Tryd.prog.info? TU).map (fun i => (i.zero, i.size, i.bytes)) = some (some (.int .u32 0), 1, 4) := by kernel_rfl
theorem zeroU (w : World) : (zeroValue TU).run Tryd.prog w = .ok (.int .u32 0) w := by kernel_rfl
set_option maxRecDepth 100000 in
set_option maxHeartbeats 4000000 in
theorem checkModel (w : World) (B tb gc pb mb n cc : Nat) (A : Option Addr) (ml : Bool) (K : Nat → Int) (T : Nat → ByteArray) (c : Nat → Bool)
    (hP : PT w B pb mb ml (Lt c T n)) (hB : Tab w tb TT 7 n (tkp c K T n)) (hC : Tab w gc BT 1 n (fun i _ => .bool (c i))) (r : ZR w A n K T) (hn : n ≤ 1048576) :
    Calls Tryd.prog 12 #[.slice A n cc, .slice (some ⟨tb, 0, none⟩) n n, .slice (some ⟨gc, 0, none⟩) n n, .pointer (some ⟨pb, 0, none⟩), .bool ml] w (BP true w) := by
  obtain ⟨iS, hiS, hzS0, hzS1, hzS2⟩ := info_parts infoStr
  obtain ⟨iU, hiU, hzU0, hzU1, hzU2⟩ := info_parts infoU32
  have R := Lib.hid r
  have HP := Lib.hid hP
  have HB := Lib.hid hB
  have HC := Lib.hid hC
  have hmm := @run_makeMap Tryd.prog
  have M0 := Lib.hid (Mst.start w)
  clear r hP hB hC
  go_enter Tryd.func12, Tryd.ntmps12
  go_wp2_with fail
  generalize w.alloc (.map #[] 0) = W1 at *
  go_loopg [12, 13, 14] n (fun gk v1 v2 i wr => ∃ k : Nat, k ≤ n ∧ n ≤ k + gk ∧ i = .int .i64 k ∧ Hid (Mst w wr w.heap.size v1 v2 (Lt c T k)))
  case atStart => exact ⟨0, Nat.zero_le _, by omega, rfl, M0⟩
  case round =>
    obtain ⟨k, hk, hgk, rfl, MM⟩ := hrel
    clear M0 hmm
    by_cases hlt : k < n
    · obtain ⟨g', rfl⟩ : ∃ g', gk = g' + 1 := ⟨gk - 1, by omega⟩
      obtain ⟨b, o, rfl, hb, hc⟩ := R.out (by omega)
      obtain ⟨x0, x1⟩ := hc k hlt
      have BW := Lib.hid MM.out.bel
      have z0 : wr.cell? ⟨b, o + k * 2, none⟩ = some (.int .u8 (K k)) := by rw [BW.out.cell hb]; exact x0
      have z1 : wr.cell? ⟨b, o + k * 2 + 1, none⟩ = some (.string (T k)) := by rw [BW.out.cell hb]; exact x1
      have TB := Lib.hid (HB.out.below BW.out HB.out.lt)
      have y := fun j (hj : j < 7) => (TB.out.cell hlt hj).trans (congrArg some (show tkp c K T n k j = tkc (Kt c K) T (Pt c T) k j by unfold tkp; rw [if_pos hlt]))
      have y0 : wr.cell? ⟨tb, k * 7, none⟩ = some (.pointer none) := y 0 (by omega)
      have y1 : wr.cell? ⟨tb, k * 7 + 1, none⟩ = some (.string (T k)) := y 1 (by omega)
      have y2 : wr.cell? ⟨tb, k * 7 + 2, none⟩ = some (.int .i32 0) := y 2 (by omega)
      have y3 : wr.cell? ⟨tb, k * 7 + 3, none⟩ = some (.int .u32 (Pt c T k)) := y 3 (by omega)
      have y4 : wr.cell? ⟨tb, k * 7 + 4, none⟩ = some (.int .u16 0) := y 4 (by omega)
      have y5 : wr.cell? ⟨tb, k * 7 + 5, none⟩ = some (.int .u8 (Kt c K k)) := y 5 (by omega)
      have y6 : wr.cell? ⟨tb, k * 7 + 6, none⟩ = some (.int .u8 0) := y 6 (by omega)
      have f0 : wr.cell? ⟨gc, k, none⟩ = some (.bool (c k)) := tab1 (HC.out.below BW.out HC.out.lt) hlt
      have q1 : (0 : Int) ≤ (k : Int) := by omega
      have q2 : (k : Int) < (n : Int) := by omega
      have hgl := (HC.out.below BW.out HC.out.lt).lt
      have hbl : b < wr.heap.size := Nat.lt_of_lt_of_le hb BW.out.size
      have r1 : tb ≠ wr.heap.size := Nat.ne_of_lt TB.out.lt
      have r2 : gc ≠ wr.heap.size := by omega
      have r3 : b ≠ wr.heap.size := by omega
      clear hc TB BW y x0 x1
      cases hck : c k
      · rw [hck] at f0
        have e3 : Pt c T k = 0 := by simp [Pt, hck]
        have e5 : Kt c K k = K k := by simp [Kt, hck]
        rw [e3] at y3
        rw [e5] at y5
        have HK := Lib.hid hck
        have MA := Lib.hid (MM.out.alloc (.cells #[.pointer none, .string (T k), .int .i32 0, .int .u32 0, .int .u16 0, .int .u8 (K k), .int .u8 0] TT))
        clear e3 e5 hck
        go_wp2_with fail
        go_quiet (fail)
        go_wp2_with fail
        go_quiet (fail)
        go_wp2_with fail
        go_roundg g'
        case rel => exact ⟨k + 1, by omega, by omega, by go_num, by rw [Lt_no HK.out]; first | exact Lib.hid (MA.out.drewN _) | exact Lib.hid ((MA.out.drewN _).drewN _)⟩
        case measure => exact Nat.lt_succ_self _
      · rw [hck] at f0
        have e3 : Pt c T k = (spot (Lt c T k) (T k) : Int) := by simp [Pt, hck]
        have e5 : Kt c K k = 39 := by simp [Kt, hck]
        rw [e3] at y3
        rw [e5] at y5
        have HK := Lib.hid (Lt_yes (T := T) hck)
        have hsm := Lt_small c T k
        generalize Lt c T k = L at *
        have HL := Lib.hid hsm.2
        have hLk : L.length ≤ k := hsm.1
        have hspl := spot_le L (T k)
        have MA := Lib.hid (MM.out.alloc (.cells #[.pointer none, .string (T k), .int .i32 0, .int .u32 (spot L (T k) : Int), .int .u16 0, .int .u8 39, .int .u8 0] TT))
        have GB := Lib.hid (heap_alloc_new wr (.cells #[.pointer none, .string (T k), .int .i32 0, .int .u32 (spot L (T k) : Int), .int .u16 0, .int .u8 39, .int .u8 0] TT))
        clear e3 e5 hck hsm
        go_wp2_with fail
        go_quiet (fail)
        generalize hW2 : World.drewN _ _ = W2
        have M2 : Hid (Mst w W2 w.heap.size u12 u13 L) := by rw [← hW2]; exact Lib.hid (MA.out.drewN _)
        have G2 : Hid (W2.heap[wr.heap.size]? = some (.cells #[.pointer none, .string (T k), .int .i32 0, .int .u32 (spot L (T k) : Int), .int .u16 0, .int .u8 39, .int .u8 0] TT (0, 0))) := by rw [← hW2]; exact GB
        have hkk : ∀ q, q < wr.heap.size → W2.heap[q]? = wr.heap[q]? := by rw [← hW2]; exact fun q hq => Below.heap_alloc wr _ q hq
        have w1 : W2.cell? ⟨b, o + k * 2 + 1, none⟩ = some (.string (T k)) := (World.cell?_of_block (w := wr) (hkk b hbl)).trans z1
        have w3 : W2.cell? ⟨wr.heap.size, 3, none⟩ = some (.int .u32 (spot L (T k) : Int)) := by rw [cell_of_row W2 _ 3 _ _ _ G2.out]; rfl
        have w5 : W2.cell? ⟨wr.heap.size, 5, none⟩ = some (.int .u8 39) := by rw [cell_of_row W2 _ 5 _ _ _ G2.out]; rfl
        have f0' : W2.cell? ⟨gc, k, none⟩ = some (.bool true) := (World.cell?_of_block (w := wr) (hkk gc (HC.out.below MM.out.bel HC.out.lt).lt)).trans f0
        have HG1 := Lib.hid (fun g hv => (MM.out.o1.lt g hv).2)
        have hwr0 : w.heap.size < wr.heap.size := MM.out.mp.lt
        have HG2 := Lib.hid (fun g hv => (MM.out.o2.lt g hv).2)
        clear hkk hW2 GB MA MM y0 y1 y2 y3 y4 y5 y6 z0 z1 f0
        by_cases hsp : spot L (T k) < L.length
        · have hlk := M2.out.mp.look_yes (P := Tryd.prog) (t := MT) Tryd.underlying97 Tryd.underlying9 (idl_yes L (T k) 0 hsp)
          rw [Nat.zero_add] at hlk
          obtain ⟨e, he, hen, -⟩ := spot_at L (T k) hsp
          obtain ⟨g2, c2, hv2, -, us, usf⟩ := own_at1 M2.out.o2 (usv_at he)
          subst hv2
          have hbump := Lib.hid (M2.out.bump he)
          have hg2 := HG2.out g2 rfl
          have hus : e.uses ≤ k := HL.out e (List.mem_of_getElem? he)
          have r9 : wr.heap.size ≠ g2 := by omega
          have k0 : (0 : Int) ≤ (e.uses : Int) := by omega
          have k1 : (e.uses : Int) ≤ 1048576 := by omega
          have p1 : (0 : Int) ≤ (spot L (T k) : Int) := by omega
          have p2 : (spot L (T k) : Int) < (L.length : Int) := by omega
          clear he hen
          go_wp2_with fail
          go_roundg g'
          case rel => exact ⟨k + 1, by omega, by omega, by go_num, by rw [HK.out]; exact hbump⟩
          case measure => exact Nat.lt_succ_self _
        · have hse : spot L (T k) = L.length := by omega
          have hlk := M2.out.mp.look_no (P := Tryd.prog) (t := MT) Tryd.underlying97 Tryd.underlying9 (zeroU W2) (idl_no L (T k) 0 hse)
          have hmu := M2.out.mp.put (P := Tryd.prog) (t := MT) Tryd.underlying97 Tryd.underlying9 (.int .u32 (L.length : Int)) (idl_no L (T k) 0 hse)
          have hw : IntKind.u32.wrap (L.length : Int) = (L.length : Int) := wrapU32 _ (by omega) (by omega)
          obtain ⟨a1, c1, hv1⟩ := slice_of M2.out.o1
          obtain ⟨a2, c2, hv2⟩ := slice_of M2.out.o2
          subst hv1 hv2
          have HPM := Lib.hid (M2.out.put (idl L 0 ++ [(T k, .int .u32 (L.length : Int))]))
          have hpk : ∀ q, q ≠ w.heap.size → (putM W2 w.heap.size (idl L 0 ++ [(T k, .int .u32 (L.length : Int))])).heap[q]? = W2.heap[q]? := fun q hq => putM_block W2 w.heap.size _ q hq
          have z1' : (putM W2 w.heap.size (idl L 0 ++ [(T k, .int .u32 (L.length : Int))])).cell? ⟨b, o + k * 2 + 1, none⟩ = some (.string (T k)) := (World.cell?_of_block (w := W2) (hpk b (by omega))).trans w1
          have hps : (putM W2 w.heap.size (idl L 0 ++ [(T k, .int .u32 (L.length : Int))])).heap.size = W2.heap.size := putM_size _ _ _
          have hwW2 : w.heap.size ≤ W2.heap.size := M2.out.bel.size
          have hn0 : ((putM W2 w.heap.size (idl L 0 ++ [(T k, .int .u32 (L.length : Int))])).alloc (.cells #[.string (T k)] TStr)).cell? ⟨W2.heap.size, 0, none⟩ = some (.string (T k)) := by
            rw [← hps, cell_of_row _ _ 0 _ _ _ (heap_alloc_new _ _)]; rfl
          go_wp2_with (at_builtin; refine wpList_append_own _ rfl (.tmp 77) (.tmp 83) 36 rfl w.heap.size TStr iS _ 1 16 Tryd.underlying36 hiS hzS0 hzS1 hzS2 rfl (by omega) _ L.length (nmv L) rfl (HPM.out.2.1.alloc _) ⟨_, 0, none⟩ 1 1 [.string (T k)] rfl rfl (fun j u hu => by
              cases j with
              | zero => simp at hu; subst hu; exact hn0
              | succ j => simp at hu) (by simp [Value.oneCell']) (by unfold maxLen; omega) (by omega) (by simp [hps]; omega) ?_)
          intro v' w' hO hG hne
          obtain ⟨a1', a2', a3'⟩ := grown_beside HPM.out.1 HPM.out.2.1 HPM.out.2.2.1 (by decide) HPM.out.2.2.2 hG
          obtain ⟨b1, d1, rfl⟩ := slice_of hO
          have A0 := Lib.hid hO
          have A1 := Lib.hid a1'
          have A2 := Lib.hid a2'
          have A3 := Lib.hid a3'
          have hk' : ∀ q, q < W2.heap.size → q ≠ w.heap.size → (Value.slice a1 L.length c1).ownBlock ≠ some q → w'.heap[q]? = W2.heap[q]? := fun q h1 h2 h3 => ((hG.block q (by simp [hps]; omega) (Ne.symm h3)).trans (Below.heap_alloc _ _ q (by rw [hps]; exact h1))).trans (hpk q h2)
          have HKK := Lib.hid hk'
          have hls : W2.heap.size < w'.heap.size := by have := hG.size; simp [hps] at this; omega
          clear hO hG hne a1' a2' a3' HPM hpk z1' hps hn0 hmu hlk hk'
          have hn1 : (w'.alloc (.cells #[.int .u32 0] TU)).cell? ⟨w'.heap.size, 0, none⟩ = some (.int .u32 0) := by
            rw [cell_of_row _ _ 0 _ _ _ (heap_alloc_new _ _)]; rfl
          go_wp2_with (at_builtin; refine wpList_append_own _ rfl (.tmp 85) (.tmp 86) 98 rfl w.heap.size TU iU _ 1 4 Tryd.underlying98 hiU hzU0 hzU1 hzU2 rfl (by omega) _ L.length (usv L) rfl (A2.out.alloc _) ⟨_, 0, none⟩ 1 1 [.int .u32 0] rfl rfl (fun j u hu => by
              cases j with
              | zero => simp at hu; subst hu; exact hn1
              | succ j => simp at hu) (by simp [Value.oneCell']) (by unfold maxLen; omega) (by omega) (by simp; omega) ?_)
          intro v'' w'' hO hG hne
          obtain ⟨a1', a2', a3'⟩ := grown_beside A1.out A2.out A0.out (by decide) A3.out hG
          obtain ⟨g4, c4, rfl, hg4, -⟩ := hO.form (by omega)
          have us : w''.cell? ⟨g4, L.length, none⟩ = some (.int .u32 0) := by
            rw [hO.cellAt L.length (by omega), List.getElem?_append_right (by rw [usv_len]; omega), usv_len]; simp
          have usf := hO.frozenAt L.length
          have GT : w''.heap[wr.heap.size]? = some (.cells #[.pointer none, .string (T k), .int .i32 0, .int .u32 (spot L (T k) : Int), .int .u16 0, .int .u8 39, .int .u8 0] TT (0, 0)) := by
            have hl := lt_some G2.out
            have n1 : (Value.slice a1 L.length c1).ownBlock ≠ some wr.heap.size := fun hv => by have := HG1.out _ hv; omega
            have n2 : (Value.slice a2 L.length c2).ownBlock ≠ some wr.heap.size := fun hv => by have := HG2.out _ hv; omega
            exact ((hG.block _ (by simp; omega) (Ne.symm n2)).trans (Below.heap_alloc _ _ _ (by omega))).trans ((HKK.out _ hl (by omega) n1).trans G2.out)
          rw [hse] at GT
          have e3 : w''.cell? ⟨wr.heap.size, 3, none⟩ = some (.int .u32 (L.length : Int)) := by rw [cell_of_row w'' _ 3 _ _ _ GT]; rfl
          have e5 : w''.cell? ⟨wr.heap.size, 5, none⟩ = some (.int .u8 39) := by rw [cell_of_row w'' _ 5 _ _ _ GT]; rfl
          have r9 : wr.heap.size ≠ g4 := by
            intro e
            obtain ⟨c', hc'⟩ := own_at hO (g := g4) rfl
            rw [← e, GT] at hc'
            simp at hc'
            exact absurd hc'.2 (by decide)
          have FIN := Lib.hid (Mst.fin hse (Nat.le_refl _) a1' a2' hO a3')
          have p1 : (0 : Int) ≤ (L.length : Int) := by omega
          have p2 : (L.length : Int) < (L.length : Int) + 1 := by omega
          clear hO hG hne a1' a2' a3' A0 A1 A2 A3 HKK GT hn1
          go_wp2_with fail
          go_roundg g'
          case rel => exact ⟨k + 1, by omega, by omega, by go_num, by rw [HK.out]; exact FIN⟩
          case measure => exact Nat.lt_succ_self _
    · obtain rfl : k = n := by omega
      have hsm := (Lt_small c T k).1
      have CT := Lib.hid (fun v1 v2 (M : Mst w wr w.heap.size v1 v2 (Lt c T k)) => checkTable wr B w.heap.size pb mb ml (Lt c T k) v1 v2 (HP.out.below (M.bel.mono (Nat.le_refl _))) M.o1 M.o2 (by omega))
      have CU := Lib.hid (CT.out _ _ MM.out)
      clear CT
      go_wp2_with (go_at_call 24; refine CU.out.mono ?_; rintro e w' ⟨rfl, hb⟩; have BB := Lib.hid hb; clear hb)
      go_ret
      exact ⟨rfl, MM.out.bel.trans (BB.out.mono MM.out.bel.size)⟩
end Go.Proofs.YtmfpgnedeonmiaaDoor.WA

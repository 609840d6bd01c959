/- FnContainerShorthandAgreesWithName: the walk. -/
import Derived.Test.YtmfpgnedeonmiaaDoorHh
namespace Go.Proofs.YtmfpgnedeonmiaaDoor.WA
open Go Go.RowKit Go.Lib Go.Proofs.YtmfpgnedeonmiaaDoor.MP Go.Proofs.YtmfpgnedeonmiaaDoor.SY Go.Proofs.YtmfpgnedeonmiaaDoor.LO Go.Proofs.YtmfpgnedeonmiaaDoor.TB Go.Proofs.YtmfpgnedeonmiaaDoor.OW
set_option linter.unusedVariables false
def slash : ByteArray := ⟨#[47]⟩
def Kf (n : Nat) (i : Nat) : Int := if i < n then 29 else if i = n then 24 else 29
def Tf (n : Nat) (T : Nat → ByteArray) (s : ByteArray) (i : Nat) : ByteArray := if i < n then T i else if i = n then slash else s
theorem Tf_s (n : Nat) (T : Nat → ByteArray) (s : ByteArray) : Tf n T s (n + 1) = s := by unfold Tf; rw [if_neg (by omega), if_neg (by omega)]
theorem Kf_s (n : Nat) : Kf n (n + 1) = 29 := by unfold Kf; rw [if_neg (by omega), if_neg (by omega)]
/-- Two lists of tokens in the making. -/
structure Bst (w wr : World) (g c k tb n m : Nat) (T : Nat → ByteArray) (s : ByteArray) : Prop where
  own : wr.ownsRow w.heap.size TT 7 (.slice (some ⟨g, 0, none⟩) k c) k (tkl (Kf n) (Tf n T s) k)
  tab : Tab wr tb TT 7 n (tkz (fun _ => 29) T m)
  ne : g ≠ tb
  htb : w.heap.size ≤ tb
  bel : Below w.heap.size w wr
section
variable {w wr w1 : World} {g c k tb n m : Nat} {T : Nat → ByteArray} {s : ByteArray}
theorem Bst.alloc (h : Bst w wr g c k tb n m T s) (o : Obj) : Bst w (wr.alloc o) g c k tb n m T s := ⟨h.own.alloc o, h.tab.alloc o, h.ne, h.htb, h.bel.alloc h.bel.size o⟩
/-- A token has been appended. -/
theorem Bst.app (h : Bst w wr g c k tb n m T s) (o : Obj) {g' c' : Nat} {kd : Int} {t : ByteArray} (e1 : Kf n k = kd) (e2 : Tf n T s k = t) (hO : w1.ownsRow w.heap.size TT 7 (.slice (some ⟨g', 0, none⟩) (k + 1) c') (k + 1) (tkl (Kf n) (Tf n T s) k ++ trow kd t)) (hG : (wr.alloc o).grownBy w1 (Value.slice (some ⟨g, 0, none⟩) k c).ownBlock) (hat : (Value.slice (some ⟨g, 0, none⟩) k c).ownBlock = some g' ∨ g' = wr.heap.size + 1) : Bst w w1 g' c' (k + 1) tb n m T s := by
  have htl := h.tab.lt
  refine ⟨?_, ?_, ?_, h.htb, ?_⟩
  · simp only [tkl, e1, e2]; exact hO
  · exact h.tab.kept ((hG.block tb (by simp; omega) (by simpa [Value.ownBlock] using Ne.symm h.ne)).trans (Below.heap_alloc wr o tb htl))
  · rcases hat with hat | hat
    · have := h.ne; simp [Value.ownBlock] at hat; omega
    · omega
  · refine Go.Proofs.YtmfpgnedeonmiaaDoor.OW.below_grown (h.bel.alloc h.bel.size o) hG (fun q hq => ?_) (by have := h.bel.size; simp; omega)
    exact (h.own.lt q hq).1
theorem Bst.set (h : Bst w wr g c k tb n m T s) (hm : m < n) : Bst w ((wr.setCell ⟨tb, m * 7 + 5, none⟩ (.int .u8 29)).setCell ⟨tb, m * 7 + 1, none⟩ (.string (T m))) g c k tb n (m + 1) T s := by
  have h2 := tkz_step (K := fun _ => (29 : Int)) h.tab hm
  refine ⟨?_, h2, h.ne, h.htb, (h.bel.setCell h.htb _).setCell h.htb _⟩
  exact ownsRow_of h.own fun q hv => by
    obtain rfl : g = q := by simpa [Value.ownBlock] using hv
    exact (Below.heap_setCell _ ⟨tb, m * 7 + 1, none⟩ _ g h.ne).trans (Below.heap_setCell _ ⟨tb, m * 7 + 5, none⟩ _ g h.ne)
end
theorem Bst.start (w w1 : World) (n : Nat) (T : Nat → ByteArray) (s : ByteArray) (hn : n ≤ 1048576) (hb : Below w.heap.size w w1) :
    Bst w ((w1.alloc (.cells (madeCells #[.pointer none, .string ByteArray.empty, .int .i32 0, .int .u32 0, .int .u16 0, .int .u8 0, .int .u8 0] ((n + 2) * 7)) TT)).alloc (.cells (madeCells #[.pointer none, .string ByteArray.empty, .int .i32 0, .int .u32 0, .int .u16 0, .int .u8 0, .int .u8 0] (n * 7)) TT)) w1.heap.size (n + 2) 0 (w1.heap.size + 1) n 0 T s := by
  have s1 : (w1.alloc (.cells (madeCells #[.pointer none, .string ByteArray.empty, .int .i32 0, .int .u32 0, .int .u16 0, .int .u8 0, .int .u8 0] ((n + 2) * 7)) TT)).heap.size = w1.heap.size + 1 := by simp
  have hO := World.ownsRow_made (base := w.heap.size) (e := TT) (size := 7) w1 (madeCells #[.pointer none, .string ByteArray.empty, .int .i32 0, .int .u32 0, .int .u16 0, .int .u8 0, .int .u8 0] ((n + 2) * 7)) (n + 2) hb.size (by unfold maxLen; omega) (size_madeCells _ _)
  have hT := Tab.new (w1.alloc (.cells (madeCells #[.pointer none, .string ByteArray.empty, .int .i32 0, .int .u32 0, .int .u16 0, .int .u8 0, .int .u8 0] ((n + 2) * 7)) TT)) TT #[.pointer none, .string ByteArray.empty, .int .i32 0, .int .u32 0, .int .u16 0, .int .u8 0, .int .u8 0] n 7 rfl (tkz (fun _ => 29) T 0) (fun i j _ _ => by unfold tkz; simp)
  rw [s1] at hT
  have := hb.size
  exact ⟨hO.alloc _, hT, by omega, by omega, (hb.alloc hb.size _).alloc (by rw [s1]; omega) _⟩
theorem cvt_T {n : Nat} {T : Nat → ByteArray} {s : ByteArray} {i : Nat} (h : i < n) : cvt true n (Tf n T s) i = cvt true n T i := by
  rw [cvt_in h, cvt_in h]; unfold Tf; rw [if_pos h]
theorem Lt_T (n : Nat) (T : Nat → ByteArray) (s : ByteArray) {i : Nat} (h : i ≤ n) : Lt (cvt true n (Tf n T s)) (Tf n T s) i = Lt (cvt true n T) T i :=
  Lt_congr i fun j hj => ⟨cvt_T (by omega), by unfold Tf; rw [if_pos (by omega)]⟩
theorem Lt_full (n M : Nat) (T : Nat → ByteArray) (s : ByteArray) (h : n ≤ M) : Lt (cvt true n (Tf n T s)) (Tf n T s) M = Lt (cvt true n T) T n := by
  rw [Lt_stay n M h (fun i hi _ => cvt_off true hi), Lt_T n T s (Nat.le_refl _)]
theorem full_row {i n M : Nat} (hi : i < n) (hM : n ≤ M) (T : Nat → ByteArray) (s : ByteArray) {j : Nat} (hj : j < 7) : tkp (cvt true n (Tf n T s)) (Kf n) (Tf n T s) M i j = tkp (cvt true n T) (fun _ => 29) T n i j := by
  have e1 : Tf n T s i = T i := by unfold Tf; rw [if_pos hi]
  have e2 : Kt (cvt true n (Tf n T s)) (Kf n) i = Kt (cvt true n T) (fun _ => 29) i := by unfold Kt Kf; rw [cvt_T hi, if_pos hi]
  have e3 : Pt (cvt true n (Tf n T s)) (Tf n T s) i = Pt (cvt true n T) T i := by unfold Pt; rw [cvt_T hi, Lt_T n T s (by omega), e1]
  unfold tkp
  rw [if_pos hi, if_pos (by omega)]
  unfold tkc
  rw [e1, e2, e3]
theorem full_end {i n M : Nat} (hi : n ≤ i) (hM : i < M) (T : Nat → ByteArray) (s : ByteArray) (j : Nat) : tkp (cvt true n (Tf n T s)) (Kf n) (Tf n T s) M i j = tkc (Kf n) (Tf n T s) (fun _ => 0) i j := by
  have e := cvt_off true (T := Tf n T s) hi
  unfold tkp
  rw [if_pos hM]
  unfold tkc Kt Pt
  simp only [e]
  rfl
/-- Both passes done. -/
structure Cst (w wr : World) (gf tb M n pb1 mb1 pb2 mb2 : Nat) (ml : Bool) (T : Nat → ByteArray) (s : ByteArray) (A : Option Addr) (L : List Ent) : Prop where
  f : Tab wr gf TT 7 M (tkp (cvt true n (Tf n T s)) (Kf n) (Tf n T s) M)
  g : Tab wr tb TT 7 n (tkp (cvt true n T) (fun _ => 29) T n)
  r : SR wr A n T
  p1 : PT wr w.heap.size pb1 mb1 ml L
  p2 : PT wr w.heap.size pb2 mb2 ml L
  bel : Below w.heap.size w wr
theorem Cst.drewN {w wr : World} {gf tb M n pb1 mb1 pb2 mb2 : Nat} {ml : Bool} {T : Nat → ByteArray} {s : ByteArray} {A : Option Addr} {L : List Ent} (h : Cst w wr gf tb M n pb1 mb1 pb2 mb2 ml T s A L) (k : Nat) : Cst w (wr.drewN k) gf tb M n pb1 mb1 pb2 mb2 ml T s A L :=
  ⟨h.f.drewN k, h.g.drewN k, h.r, h.p1.drewN k, h.p2.drewN k, below_drewN h.bel k⟩
section
variable {w : World} {B q1 m1 q2 m2 : Nat} {ml : Bool} {L : List Ent}
theorem PT.count2 (h1 : PT w B q1 m1 ml L) (h2 : PT w B q2 m2 ml L) (x : Nat) (hx : x = q1 ∨ x = q2) : Calls Tryd.prog 17 #[.pointer (some ⟨x, 0, none⟩)] w (IntIs L.length w) := by
  rcases hx with rfl | rfl
  · exact h1.count
  · exact h2.count
theorem PT.locals2 (nl : Int) (hnl : (if ml then (L.length : Int) else 0) = nl) (h1 : PT w B q1 m1 ml L) (h2 : PT w B q2 m2 ml L) (x : Nat) (hx : x = q1 ∨ x = q2) : Calls Tryd.prog 18 #[.pointer (some ⟨x, 0, none⟩)] w (IntIs nl w) := by
  rw [← hnl]
  rcases hx with rfl | rfl
  · exact h1.locals
  · exact h2.locals
theorem PT.name2 (h1 : PT w B q1 m1 ml L) (h2 : PT w B q2 m2 ml L) (i : Nat) (e : Ent) (he : L[i]? = some e) (hm : L.length ≤ 16777216) (x : Nat) (hx : x = q1 ∨ x = q2) : Calls Tryd.prog 19 #[.pointer (some ⟨x, 0, none⟩), .int .i64 i] w (StrIs e.nm w) := by
  rcases hx with rfl | rfl
  · exact h1.name i e he hm
  · exact h2.name i e he hm
theorem PT.uses2 (h1 : PT w B q1 m1 ml L) (h2 : PT w B q2 m2 ml L) (i : Nat) (e : Ent) (he : L[i]? = some e) (hm : L.length ≤ 16777216) (x : Nat) (hx : x = q1 ∨ x = q2) : Calls Tryd.prog 20 #[.pointer (some ⟨x, 0, none⟩), .int .i64 i] w (U32P e.uses w) := by
  rcases hx with rfl | rfl
  · exact h1.uses i e he hm
  · exact h2.uses i e he hm
theorem PT.kind2 (h1 : PT w B q1 m1 ml L) (h2 : PT w B q2 m2 ml L) (i : Nat) (e : Ent) (he : L[i]? = some e) (hm : L.length ≤ 16777216) (x : Nat) (hx : x = q1 ∨ x = q2) : Calls Tryd.prog 21 #[.pointer (some ⟨x, 0, none⟩), .int .i64 i] w (U8P (kindOf ml) w) := by
  rcases hx with rfl | rfl
  · exact h1.kind i e he hm
  · exact h2.kind i e he hm
end
set_option maxRecDepth 100000 in
set_option maxHeartbeats 16000000 in
theorem lawA (A : Option Addr) (n c : Nat) (T : Nat → ByteArray) (ws : Bool) (s : ByteArray) (ml : Bool) (w : World) (r : SR w A n T) (hA : A = none → n = 0) (hn : n ≤ maxLen) (hs : s.size ≤ maxLen) (hT : FullTabs w) :
    Calls Tryd.prog 4 #[.slice A n c, .bool ws, .string s, .bool ml] w (Yes w) := by
  obtain ⟨i0, hi, hz0, hz1, hz2⟩ := info_parts infoT
  have HB1 := Lib.hid (bytesA A n c ws ml s T w r (by unfold maxLen at hn; omega) (by unfold maxLen at hs; omega))
  have R := Lib.hid r
  have HT := Lib.hid hT
  have HA := Lib.hid hA
  have hmk := fun (h1 : n ≤ 1048576) (W : World) => run_make (P := Tryd.prog) W 28 TT i0 _ Tryd.underlying28 hi hz0 .i64 .i64 n n (by omega) (by omega) (by rw [hz2]; omega) (by omega)
  have hmk2 := fun (h1 : n ≤ 1048576) (W : World) => run_make (P := Tryd.prog) W 28 TT i0 _ Tryd.underlying28 hi hz0 .i64 .i64 0 ((n : Int) + 2) (by omega) (by omega) (by rw [hz2]; omega) (by omega)
  simp only [hz1, Int.toNat_natCast, show ((n : Int) + 2).toNat = n + 2 by omega, Int.toNat_zero] at hmk hmk2
  have HMK := Lib.hid hmk
  have HMK2 := Lib.hid hmk2
  clear r hn hs hT hA hmk hmk2
  go_enter Tryd.func4, Tryd.ntmps4
  go_wp2_with fail
  refine HB1.out.mono ?_
  rintro e w' ⟨b1, rfl, rfl, hb1⟩
  cases b1
  · clear hb1
    go_wp2_with fail
    go_ret
    exact ⟨rfl, Below.refl _ _⟩
  obtain ⟨hn1, hs1, hts⟩ := hb1 rfl
  have HTS := Lib.hid hts
  clear hb1 hts HB1
  go_wp2_with fail
  refine (strBytes A n c T w R.out hn1 HTS.out).mono ?_
  rintro e w' ⟨N, hN0, hN1, rfl, rfl⟩
  by_cases hNb : N + (s.size : Int) ≤ 1048576
  · go_wp2_with fail
    refine (cloneS A n c T w R.out HA.out hn1).mono ?_
    rintro e w1 ⟨A1, c1, rfl, hc1, hR1, hb⟩
    have B1 := Lib.hid hb
    have R1 := Lib.hid hR1
    clear hb hR1 R
    have hmk := HMK.out hn1
    have hmk2 := HMK2.out hn1
    have T0 : Hid (Bst w1 ((w1.alloc (.cells (madeCells #[.pointer none, .string ByteArray.empty, .int .i32 0, .int .u32 0, .int .u16 0, .int .u8 0, .int .u8 0] ((n + 2) * 7)) TT)).alloc (.cells (madeCells #[.pointer none, .string ByteArray.empty, .int .i32 0, .int .u32 0, .int .u16 0, .int .u8 0, .int .u8 0] (n * 7)) TT)) w1.heap.size (n + 2) 0 (w1.heap.size + 1) n 0 T s) :=
      Lib.hid (Bst.start w1 w1 n T s hn1 (Below.refl _ _))
    go_wp2_with fail
    generalize (w1.alloc (.cells (madeCells #[.pointer none, .string ByteArray.empty, .int .i32 0, .int .u32 0, .int .u16 0, .int .u8 0, .int .u8 0] ((n + 2) * 7)) TT)).alloc (.cells (madeCells #[.pointer none, .string ByteArray.empty, .int .i32 0, .int .u32 0, .int .u16 0, .int .u8 0, .int .u8 0] (n * 7)) TT) = W2 at *
    clear hmk hmk2
    go_loopg [10, 12] n (fun gk v i wr => ∃ k g c : Nat, k ≤ n ∧ n ≤ k + gk ∧ i = .int .i64 k ∧ v = .slice (some ⟨g, 0, none⟩) k c ∧ Hid (Bst w1 wr g c k (w1.heap.size + 1) n k T s))
    case atStart => exact ⟨0, _, _, Nat.zero_le _, by omega, rfl, rfl, T0⟩
    case round =>
      obtain ⟨k, g, c2, hk, hgk, rfl, rfl, BT⟩ := hrel
      clear T0
      have q1 : (0 : Int) ≤ (k : Int) := by omega
      by_cases hkn : k < n
      · obtain ⟨g', rfl⟩ : ∃ g', gk = g' + 1 := ⟨gk - 1, by omega⟩
        have q2 : (k : Int) < (n : Int) := by omega
        obtain ⟨b, o, rfl, hb, hc⟩ := R1.out (by omega)
        have z0 : wr.cell? ⟨b, o + k, none⟩ = some (.string (T k)) := by rw [BT.out.bel.cell hb]; exact hc k hkn
        have HC0 := Lib.hid (hc k hkn)
        clear hc
        have hbs := BT.out.bel.size
        go_wp2_with (at_builtin; refine wpList_append_lies _ rfl (.tmp 44) (.tmp 50) 28 rfl w1.heap.size TT i0 _ 7 40 Tryd.underlying28 hi hz0 hz1 hz2 rfl (by omega) _ k (tkl (Kf n) (Tf n T s) k) rfl (BT.out.own.alloc _) ⟨wr.heap.size, 0, none⟩ 1 1 (trow 29 (T k)) rfl rfl (World.news_of_block (cs := (trow 29 (T k)).toArray) (t := TT) (fr := (0, 0)) (heap_alloc_new wr _)) (by simp [trow, Value.oneCell']) (by omega) (by unfold maxLen; omega) (by omega) (by simp; omega) _ rfl ?_)
        intro g3 c3 w' hO hG hat _
        have BT' := Lib.hid (BT.out.app _ (show Kf n k = 29 by unfold Kf; rw [if_pos hkn]) (show Tf n T s k = T k by unfold Tf; rw [if_pos hkn]) hO hG hat)
        clear hO hG hat BT
        have z1 : w'.cell? ⟨b, o + k, none⟩ = some (.string (T k)) := by rw [BT'.out.bel.cell hb]; exact HC0.out
        have y5 := BT'.out.tab.cell hkn (j := 5) (by omega)
        have y1 := BT'.out.tab.cell hkn (j := 1) (by omega)
        have u5 := BT'.out.tab.frozen (k * 7 + 5)
        have u1 := BT'.out.tab.frozen (k * 7 + 1)
        have r1 : b ≠ w1.heap.size + 1 := by omega
        clear z0
        go_wp2_with fail
        go_roundg g'
        case rel => exact ⟨k + 1, g3, c3, by omega, by omega, by go_num, rfl, Lib.hid (BT'.out.set hkn)⟩
        case measure => exact Nat.lt_succ_self _
      · obtain rfl : k = n := by omega
        have q2 : ¬ (k : Int) < (k : Int) := by omega
        go_upto_if 64 with (fail)
        go_cut [10] (fun v wx => Hid (∃ M g c : Nat, v = .slice (some ⟨g, 0, none⟩) M c ∧ M = (if ws then k + 2 else k) ∧ Bst w1 wx g c M (w1.heap.size + 1) k k T s))
        case first =>
          have hbs := BT.out.bel.size
          cases ws with
          | false =>
            go_wp2_with fail
            go_meet
            exact Lib.hid ⟨_, _, _, rfl, rfl, BT.out⟩
          | true =>
            go_wp2_with (first
              | (at_builtin; refine wpList_append_lies _ rfl (.tmp 65) (.tmp 67) 28 rfl w1.heap.size TT i0 _ 7 40 Tryd.underlying28 hi hz0 hz1 hz2 rfl (by omega) (.slice (some ⟨g, 0, none⟩) k c2) k (tkl (Kf k) (Tf k T s) k) rfl (BT.out.own.alloc _) ⟨wr.heap.size, 0, none⟩ 1 1 (trow 24 slash) rfl rfl (World.news_of_block (cs := (trow 24 slash).toArray) (t := TT) (fr := (0, 0)) (heap_alloc_new wr _)) (by simp [trow, Value.oneCell']) (by omega) (by unfold maxLen; omega) (by omega) (by simp; omega) _ rfl ?_))
            intro g3 c3 w' hO hG hat _
            have BT' := Lib.hid (BT.out.app _ (show Kf k k = 24 by simp [Kf]) (show Tf k T s k = slash by simp [Tf]) hO hG (hat.imp id (fun h => h.trans (by simp))))
            have hbs' := BT'.out.bel.size
            clear hO hG hat BT
            go_wp2_with (first
              | (at_builtin; refine wpList_append_lies _ rfl (.tmp 69) (.tmp 72) 28 rfl w1.heap.size TT i0 _ 7 40 Tryd.underlying28 hi hz0 hz1 hz2 rfl (by omega) (.slice (some ⟨g3, 0, none⟩) (k + 1) c3) (k + 1) (tkl (Kf k) (Tf k T s) (k + 1)) rfl (BT'.out.own.alloc _) ⟨w'.heap.size, 0, none⟩ 1 1 (trow 29 s) rfl rfl (World.news_of_block (cs := (trow 29 s).toArray) (t := TT) (fr := (0, 0)) (heap_alloc_new w' _)) (by simp [trow, Value.oneCell']) (by omega) (by unfold maxLen; omega) (by omega) (by simp; omega) _ rfl ?_))
            intro g4 c4 w'' hO hG hat _
            have BT2 := Lib.hid (BT'.out.app _ (show Kf k (k + 1) = 29 by simp [Kf]) (Tf_s k T s) hO hG (hat.imp id (fun h => h.trans (by simp))))
            clear hO hG hat BT'
            go_wp2_with fail
            go_meet
            exact Lib.hid ⟨_, _, _, rfl, rfl, BT2.out⟩
        case rest =>
          obtain ⟨M, gf, cf, rfl, hM, BX⟩ := hcut.out
          have BX := Lib.hid BX
          clear hcut BT
          have hM1 : k ≤ M ∧ M ≤ k + 2 := by cases ws <;> simp at hM <;> omega
          obtain ⟨hM2, hM3⟩ := hM1
          have HMM := Lib.hid hM
          have F3 := Lib.hid (tab_of_own BX.out.own)
          have G3 : Hid (Tab wc (w1.heap.size + 1) TT 7 k (tkc (fun _ => 29) T (fun _ => 0))) := Lib.hid (BX.out.tab.ext (fun i j hi _ => by unfold tkz; rw [if_pos hi]))
          have hg1 := BX.out.own.lt gf rfl
          have hg2 := BX.out.tab.lt
          have hg3 := BX.out.ne
          have B3 := Lib.hid (B1.out.trans (BX.out.bel.mono B1.out.size))
          have R3 := Lib.hid (R1.out.below BX.out.bel)
          have hww := B1.out.size
          obtain ⟨hg1a, hg1b⟩ := hg1
          clear BX hM
          go_wp2_with fail
          refine (new_st ml HT.out.2 B3.out).mono ?_
          rintro e w4 ⟨pb1, mb1, f1, rfl, hP, hb2, hp1, hp2⟩
          have hl1 := hP.par.lt
          have hl2 := hP.sm.lt
          have hs4 := hb2.size
          have P1 := Lib.hid hP
          have R4 := Lib.hid (R3.out.below hb2)
          have F4 := Lib.hid (F3.out.below hb2 hg1b)
          have G4 := Lib.hid (G3.out.below hb2 hg2)
          have B4 := Lib.hid (B3.out.trans (hb2.mono B3.out.size))
          clear hP hb2 B3 R3 F3 G3
          go_wp2_with fail
          refine (new_st ml HT.out.2 B4.out).mono ?_
          rintro e w5 ⟨pb2, mb2, f2, rfl, hP, hb2, hq1, hq2⟩
          have hl3 := hP.par.lt
          have hl4 := hP.sm.lt
          have hs5 := hb2.size
          have P2 := Lib.hid hP
          have P15 := Lib.hid (P1.out.below hb2)
          have R5 := Lib.hid (R4.out.below hb2)
          have F5 := Lib.hid (F4.out.below hb2 (by omega))
          have G5 := Lib.hid (G4.out.below hb2 (by omega))
          have B5 := Lib.hid (B4.out.trans (hb2.mono B4.out.size))
          clear hP hb2 B4 R4 F4 G4 P1
          have hGI := HT.out.2.1
          have S5 : Hid (St (fun q => q = pb1 ∨ q = mb1 ∨ q = gf ∨ w5.heap.size ≤ q) w w5 pb1 mb1 ml []) := Lib.hid (NewS.st P15.out B5.out (.inl rfl) (.inr (.inl rfl)) (fun q hq => .inr (.inr (.inr hq))))
          have HTF := Lib.hid (fun i (hi : i < M) => (show (Tf k T s i).size ≤ 1048576 by
            unfold Tf
            by_cases h1 : i < k
            · rw [if_pos h1]; exact HTS.out i h1
            · rw [if_neg h1]
              by_cases h2 : i = k
              · rw [if_pos h2]; decide
              · rw [if_neg h2]; exact hs1))
          have HKF := Lib.hid (fun i (hi : i < k) => (show Kf k i = 29 by unfold Kf; rw [if_pos hi]))
          clear P15
          go_wp2_with fail
          refine (zzPassH (acc := true) (j := k) HT.out.1 S5.out F5.out (by omega) (.inr (.inr (.inl rfl))) HTF.out (by omega) (Nat.le_refl _) hM2 HKF.out (fun _ => by simp [Kf]) ⟨fun _ => by
            have := HMM.out
            cases ws
            · left; simp at this; omega
            · right; simp at this; exact ⟨by omega, by simp [Kf], by simp [Kf]⟩, fun _ => rfl⟩).mono ?_
          rintro e w6 ⟨rfl, hS, hF, hO⟩
          have nX1 : ∀ q, (q = pb2 ∨ q = mb2 ∨ q = w1.heap.size + 1 ∨ q < w1.heap.size) → ¬ (q = pb1 ∨ q = mb1 ∨ q = gf ∨ w5.heap.size ≤ q) := fun q h h' => by omega
          have G6 := Lib.hid (G5.out.kept (hO _ (nX1 _ (.inr (.inr (.inl rfl))))))
          have P26 := Lib.hid (P2.out.keptX (fun q hq => hO q (nX1 q (by rcases hq with h | h; exact .inl h; exact .inr (.inl h)))) (hO GI (nX1 GI (.inr (.inr (.inr (by omega)))))))
          have R6 := Lib.hid (SR.oth R1.out R5.out hO (fun q hq => nX1 q (.inr (.inr (.inr hq)))))
          have S6 := Lib.hid hS
          have F6 := Lib.hid hF
          have hs6 : gf < w6.heap.size := hF.lt
          have hz1 : pb2 < w6.heap.size := P26.out.par.lt
          have hz2 : mb2 < w6.heap.size := P26.out.sm.lt
          have hz3 : w1.heap.size + 1 < w6.heap.size := G6.out.lt
          clear hS hF hO S5 F5 G5 P2 R5
          have S26 : Hid (St (fun q => q = pb2 ∨ q = mb2 ∨ q = w1.heap.size + 1 ∨ w6.heap.size ≤ q) w w6 pb2 mb2 ml []) := Lib.hid (NewS.st P26.out S6.out.bel (.inl rfl) (.inr (.inl rfl)) (fun q hq => .inr (.inr (.inr hq))))
          clear P26
          go_wp2_with fail
          refine (zzPassN HT.out.1 S26.out G6.out (by omega) (.inr (.inr (.inl rfl))) HTS.out (by omega) (Nat.le_refl _) (fun _ _ => rfl)).mono ?_
          rintro e w7 ⟨rfl, hS, hG, hO⟩
          have nX2 : ∀ q, (((q = pb1 ∨ q = mb1 ∨ q = gf ∨ w5.heap.size ≤ q) ∧ q < w6.heap.size) ∨ q < w1.heap.size) → ¬ (q = pb2 ∨ q = mb2 ∨ q = w1.heap.size + 1 ∨ w6.heap.size ≤ q) := fun q h h' => by omega
          have F7 := Lib.hid (F6.out.kept (hO _ (nX2 _ (.inl ⟨.inr (.inr (.inl rfl)), hs6⟩))))
          have R7 := Lib.hid (SR.oth R1.out R6.out hO (fun q hq => nX2 q (.inr hq)))
          have PT1 : Hid (PT w7 w.heap.size pb1 mb1 ml (Lt (cvt true k (Tf k T s)) (Tf k T s) M)) := by
            obtain ⟨f, sv, lv, P⟩ := S6.out.tab
            exact Lib.hid ⟨_, f, sv, lv, P.cap.keptX (fun q hq => hO q (nX2 q (.inl hq))) (hO GI (nX2 GI (.inr (by omega))))⟩
          have PT2 : Hid (PT w7 w.heap.size pb2 mb2 ml (Lt (cvt true k T) T k)) := by
            obtain ⟨f, sv, lv, P⟩ := hS.tab
            exact Lib.hid ⟨_, f, sv, lv, P⟩
          have B7 := Lib.hid hS.bel
          have G7 := Lib.hid hG
          clear hS hG hO S26 G6 R6 S6 F6
          go_wp2_with fail
          have PT1' : Hid (PT w7 w.heap.size pb1 mb1 ml (Lt (cvt true k T) T k)) := by
            rw [← Lt_full k M T s hM2]; exact PT1
          have Z0 : Hid (Cst w w7 gf (w1.heap.size + 1) M k pb1 mb1 pb2 mb2 ml T s A1 (Lt (cvt true k T) T k)) := Lib.hid ⟨F7.out, G7.out, R7.out, PT1'.out, PT2.out, B7.out⟩
          have hsm := (Lt_small (cvt true k T) T k).1
          clear PT1 PT1' PT2 F7 G7 R7 B7
          generalize Lt (cvt true k T) T k = L at *
          go_loopg [15] k (fun gk v wx => ∃ i : Nat, v = .int .i64 i ∧ i ≤ k ∧ k ≤ i + gk ∧ Hid (Cst w wx gf (w1.heap.size + 1) M k pb1 mb1 pb2 mb2 ml T s A1 L))
          case atStart => exact ⟨0, rfl, Nat.zero_le _, by omega, Z0⟩
          case round =>
            obtain ⟨i, rfl, hi', hgi, ZZ⟩ := hrel
            clear Z0
            have p1 : (0 : Int) ≤ (i : Int) := by omega
            by_cases hik : i < k
            · obtain ⟨gi, rfl⟩ : ∃ gi, gk = gi + 1 := ⟨gk - 1, by omega⟩
              have p2 : (i : Int) < (k : Int) := by omega
              have p3 : (i : Int) < (M : Int) := by omega
              obtain ⟨b, o, rfl, hb, hc⟩ := ZZ.out.r (by omega)
              have z0 := hc i hik
              have x1 : wr.cell? ⟨gf, i * 7 + 1, none⟩ = some (.string (T i)) := by rw [ZZ.out.f.cell (show i < M by omega) (j := 1) (by omega), full_row hik hM2 T s (by omega)]; simp [tkp, hik, tkc]
              have x3 : wr.cell? ⟨gf, i * 7 + 3, none⟩ = some (.int .u32 (Pt (cvt true k T) T i)) := by rw [ZZ.out.f.cell (show i < M by omega) (j := 3) (by omega), full_row hik hM2 T s (by omega)]; simp [tkp, hik, tkc]
              have x5 : wr.cell? ⟨gf, i * 7 + 5, none⟩ = some (.int .u8 (Kt (cvt true k T) (fun _ => 29) i)) := by rw [ZZ.out.f.cell (show i < M by omega) (j := 5) (by omega), full_row hik hM2 T s (by omega)]; simp [tkp, hik, tkc]
              have y3 : wr.cell? ⟨w1.heap.size + 1, i * 7 + 3, none⟩ = some (.int .u32 (Pt (cvt true k T) T i)) := by rw [ZZ.out.g.cell hik (j := 3) (by omega)]; simp [tkp, hik, tkc]
              have y5 : wr.cell? ⟨w1.heap.size + 1, i * 7 + 5, none⟩ = some (.int .u8 (Kt (cvt true k T) (fun _ => 29) i)) := by rw [ZZ.out.g.cell hik (j := 5) (by omega)]; simp [tkp, hik, tkc]
              generalize Pt (cvt true k T) T i = pp at *
              generalize Kt (cvt true k T) (fun _ => 29) i = kk at *
              clear hc
              go_wp2_with fail
              go_quiet (fail)
              go_wp2_with fail
              go_roundg gi
              case rel => exact ⟨i + 1, by go_num, by omega, by omega, Lib.hid (ZZ.out.drewN _)⟩
              case measure => exact Nat.lt_succ_self _
            · have p2 : ¬ (i : Int) < (k : Int) := by omega
              obtain ⟨nl, hnl⟩ : ∃ nl, (if ml then (L.length : Int) else 0) = nl := ⟨_, rfl⟩
              have NC := Lib.hid (PT.count2 ZZ.out.p1 ZZ.out.p2)
              have NL := Lib.hid (PT.locals2 nl hnl ZZ.out.p1 ZZ.out.p2)
              clear hnl
              have hMw := HMM.out
              cases ws
              · have HMw := Lib.hid hMw
                clear hMw
                go_wp2_with (first
                  | (go_at_call 17; refine (NC.out _ (by first | exact .inl rfl | exact .inr rfl)).mono ?_; rintro e w' ⟨rfl, rfl⟩)
                  | (go_at_call 18; refine (NL.out _ (by first | exact .inl rfl | exact .inr rfl)).mono ?_; rintro e w' ⟨rfl, rfl⟩))
                go_loop [17] (fun v => ∃ q : Nat, v = .int .i64 q ∧ q ≤ L.length) (fun v => L.length - (intOf v).toNat)
                case atStart => exact ⟨0, rfl, Nat.zero_le _⟩
                case round =>
                  obtain ⟨q, rfl, hq⟩ := hrel
                  have r1 : (0 : Int) ≤ (q : Int) := by omega
                  by_cases hql : q < L.length
                  · have r2 : (q : Int) < (L.length : Int) := by omega
                    obtain ⟨en, he⟩ := at_lt hql
                    have An := Lib.hid (PT.name2 ZZ.out.p1 ZZ.out.p2 q en he (by omega))
                    have Au := Lib.hid (PT.uses2 ZZ.out.p1 ZZ.out.p2 q en he (by omega))
                    have Ak := Lib.hid (PT.kind2 ZZ.out.p1 ZZ.out.p2 q en he (by omega))
                    clear he
                    go_wp2_with (first
                      | (go_at_call 19; refine (An.out _ (by first | exact .inl rfl | exact .inr rfl)).mono ?_; rintro e w' ⟨rfl, rfl⟩)
                      | (go_at_call 20; refine (Au.out _ (by first | exact .inl rfl | exact .inr rfl)).mono ?_; rintro e w' ⟨rfl, rfl⟩)
                      | (go_at_call 21; refine (Ak.out _ (by first | exact .inl rfl | exact .inr rfl)).mono ?_; rintro e w' ⟨rfl, rfl⟩))
                    go_round
                    case rel => exact ⟨q + 1, by go_num, by omega⟩
                    case measure => simp [intOf]; omega
                  · have r2 : ¬ (q : Int) < (L.length : Int) := by omega
                    go_wp2_with fail
                    go_ret
                    exact ⟨rfl, ZZ.out.bel⟩
              · have hMw' : M = k + 2 := by simpa using hMw
                have HMw := Lib.hid hMw'
                clear hMw hMw'
                have kM : k + 1 < M := by have := HMw.out; omega
                have p3 : (k : Int) < (M : Int) := by omega
                have p4 : (k : Int) + 1 < (M : Int) := by omega
                have p5 : (0 : Int) ≤ (k : Int) := by omega
                have p6 : (0 : Int) ≤ (k : Int) + 1 := by omega
                have x1 : wr.cell? ⟨gf, k * 7 + 1, none⟩ = some (.string slash) := by rw [ZZ.out.f.cell (show k < M by omega) (j := 1) (by omega), full_end (Nat.le_refl _) (by omega)]; simp [tkc, Tf]
                have x3 : wr.cell? ⟨gf, k * 7 + 3, none⟩ = some (.int .u32 0) := by rw [ZZ.out.f.cell (show k < M by omega) (j := 3) (by omega), full_end (Nat.le_refl _) (by omega)]; simp [tkc]
                have x5 : wr.cell? ⟨gf, k * 7 + 5, none⟩ = some (.int .u8 24) := by rw [ZZ.out.f.cell (show k < M by omega) (j := 5) (by omega), full_end (Nat.le_refl _) (by omega)]; simp [tkc, Kf]
                have y1 : wr.cell? ⟨gf, (k + 1) * 7 + 1, none⟩ = some (.string s) := by rw [ZZ.out.f.cell (show k + 1 < M by omega) (j := 1) (by omega), full_end (by omega) (by omega)]; simp [tkc, Tf_s]
                have y3 : wr.cell? ⟨gf, (k + 1) * 7 + 3, none⟩ = some (.int .u32 0) := by rw [ZZ.out.f.cell (show k + 1 < M by omega) (j := 3) (by omega), full_end (by omega) (by omega)]; simp [tkc]
                have y5 : wr.cell? ⟨gf, (k + 1) * 7 + 5, none⟩ = some (.int .u8 29) := by rw [ZZ.out.f.cell (show k + 1 < M by omega) (j := 5) (by omega), full_end (by omega) (by omega)]; simp [tkc, Kf_s]
                have hsl : slash = ⟨#[47]⟩ := rfl
                rw [hsl] at x1
                go_wp2_with (first
                  | (go_at_call 17; refine (NC.out _ (by first | exact .inl rfl | exact .inr rfl)).mono ?_; rintro e w' ⟨rfl, rfl⟩)
                  | (go_at_call 18; refine (NL.out _ (by first | exact .inl rfl | exact .inr rfl)).mono ?_; rintro e w' ⟨rfl, rfl⟩))
                go_loop [17] (fun v => ∃ q : Nat, v = .int .i64 q ∧ q ≤ L.length) (fun v => L.length - (intOf v).toNat)
                case atStart => exact ⟨0, rfl, Nat.zero_le _⟩
                case round =>
                  obtain ⟨q, rfl, hq⟩ := hrel
                  have r1 : (0 : Int) ≤ (q : Int) := by omega
                  by_cases hql : q < L.length
                  · have r2 : (q : Int) < (L.length : Int) := by omega
                    obtain ⟨en, he⟩ := at_lt hql
                    have An := Lib.hid (PT.name2 ZZ.out.p1 ZZ.out.p2 q en he (by omega))
                    have Au := Lib.hid (PT.uses2 ZZ.out.p1 ZZ.out.p2 q en he (by omega))
                    have Ak := Lib.hid (PT.kind2 ZZ.out.p1 ZZ.out.p2 q en he (by omega))
                    clear he
                    go_wp2_with (first
                      | (go_at_call 19; refine (An.out _ (by first | exact .inl rfl | exact .inr rfl)).mono ?_; rintro e w' ⟨rfl, rfl⟩)
                      | (go_at_call 20; refine (Au.out _ (by first | exact .inl rfl | exact .inr rfl)).mono ?_; rintro e w' ⟨rfl, rfl⟩)
                      | (go_at_call 21; refine (Ak.out _ (by first | exact .inl rfl | exact .inr rfl)).mono ?_; rintro e w' ⟨rfl, rfl⟩))
                    go_round
                    case rel => exact ⟨q + 1, by go_num, by omega⟩
                    case measure => simp [intOf]; omega
                  · have r2 : ¬ (q : Int) < (L.length : Int) := by omega
                    go_wp2_with fail
                    go_ret
                    exact ⟨rfl, ZZ.out.bel⟩
  · go_wp2_with fail
    go_ret
    exact ⟨rfl, Below.refl _ _⟩
theorem lawA' (A : Option Addr) (n c : Nat) (T : Nat → ByteArray) (ws : Bool) (s : ByteArray) (ml : Bool) (w : World) (r : SR w A n T) (hA : A = none → n = 0) (hn : n ≤ maxLen) (hs : s.size ≤ maxLen) (hT : Flat w) :
    Calls Tryd.prog 4 #[.slice A n c, .bool ws, .string s, .bool ml] w (Yes w) :=
  lawA A n c T ws s ml w r hA hn hs ⟨⟨hT.1, hT.2.1, hT.2.2.1⟩, hT.2.2.2⟩
end Go.Proofs.YtmfpgnedeonmiaaDoor.WA

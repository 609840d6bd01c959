/- zzCheck of n011_154: readers and the loop's state. -/
import Derived.Test.YtcmdokiicicghaaDoorHd
namespace Go.Proofs.YtcmdokiicicghaaDoor.WA
open Go Go.RowKit Go.Lib Go.Proofs.YtcmdokiicicghaaDoor.MP Go.Proofs.YtcmdokiicicghaaDoor.SY Go.Proofs.YtcmdokiicicghaaDoor.LO Go.Proofs.YtcmdokiicicghaaDoor.TB Go.Proofs.YtcmdokiicicghaaDoor.OW
set_option linter.unusedVariables false
section
variable {W0 w : World} {pb mb : Nat} {ml : Bool} {L : List Ent}
set_option maxRecDepth 100000 in
theorem uses_st (h : St W0 w pb mb ml L) (i : Nat) (e : Ent) (he : L[i]? = some e) (hm : L.length ≤ 16777216) : Calls Tryd.prog 31 #[.pointer (some ⟨pb, 0, none⟩), .int .i64 i] w (U32P e.uses w) := by
  obtain ⟨f, sv, lv, P⟩ := h.tab
  obtain ⟨g, c, rfl, hi, hc⟩ := P.scell i 4 e he (by omega)
  replace hc : w.cell? ⟨g, i * 10 + 4, none⟩ = some (.int .u32 e.uses) := hc
  have c1 := P.c21
  have k1 : (0 : Int) ≤ (i : Int) := by omega
  have k2 : (i : Int) < (L.length : Int) := by omega
  clear h he P
  go_enter Tryd.func31, Tryd.ntmps31
  go_wp2_with fail
  go_ret
  exact ⟨rfl, rfl⟩
set_option maxRecDepth 100000 in
theorem kind_st (h : St W0 w pb mb ml L) (i : Nat) (e : Ent) (he : L[i]? = some e) (hm : L.length ≤ 16777216) : Calls Tryd.prog 32 #[.pointer (some ⟨pb, 0, none⟩), .int .i64 i] w (U8P (kindOf ml) w) := by
  obtain ⟨f, sv, lv, P⟩ := h.tab
  obtain ⟨g, c, rfl, hi, hc⟩ := P.scell i 8 e he (by omega)
  replace hc : w.cell? ⟨g, i * 10 + 8, none⟩ = some (.int .u8 (kindOf ml)) := hc
  have c1 := P.c21
  have k1 : (0 : Int) ≤ (i : Int) := by omega
  have k2 : (i : Int) < (L.length : Int) := by omega
  clear h he P
  go_enter Tryd.func32, Tryd.ntmps32
  go_wp2_with fail
  go_ret
  exact ⟨rfl, rfl⟩
end
/-- The two lists as far as they have come. -/
def Two (w wr : World) (v1 v2 : Value) (L : List Ent) : Prop := Own wr w.heap.size v1 (nmv L) ∧ Own wr w.heap.size v2 (usv L) ∧ (∀ g, v1.ownBlock = some g → v2.ownBlock ≠ some g) ∧ Below w.heap.size w wr
section
variable {w wr w1 : World} {v1 v2 v : Value} {L : List Ent} {nm : ByteArray}
theorem Two.below (h : Two w wr v1 v2 L) (hb : Below wr.heap.size wr w1) : Two w w1 v1 v2 L :=
  ⟨h.1.below hb, h.2.1.below hb, h.2.2.1, h.2.2.2.trans (hb.mono h.2.2.2.size)⟩
theorem Two.drewN (h : Two w wr v1 v2 L) (n : Nat) : Two w (wr.drewN n) v1 v2 L := ⟨h.1.drewN n, h.2.1.drewN n, h.2.2.1, below_drewN h.2.2.2 n⟩
theorem Two.made (w : World) (p : Nat) (hp : p ≤ 4096) (c1 c2 : Array Value) (t1 t2 : TypeId) (h1 : c1.size = p) (h2 : c2.size = p) :
    Two w ((w.alloc (.cells c1 t1)).alloc (.cells c2 t2)) (.slice (some ⟨w.heap.size, 0, none⟩) 0 p) (.slice (some ⟨w.heap.size + 1, 0, none⟩) 0 p) [] := by
  have s1 : (w.alloc (.cells c1 t1)).heap.size = w.heap.size + 1 := by simp
  have m1 := (Own.made w c1 t1 (base := w.heap.size) (Nat.le_refl _) (by rw [h1]; unfold maxLen; omega)).alloc (.cells c2 t2)
  have m2 := Own.made (w.alloc (.cells c1 t1)) c2 t2 (base := w.heap.size) (by rw [s1]; omega) (by rw [h2]; unfold maxLen; omega)
  rw [h1] at m1
  rw [h2, s1] at m2
  refine ⟨m1, m2, fun g hg hg2 => ?_, ((Below.refl _ _).alloc (Nat.le_refl _) _).alloc (by rw [s1]; omega) _⟩
  simp [Value.ownBlock] at hg hg2
  omega
/-- A name has been appended. -/
theorem Two.app1 (h : Two w wr v1 v2 L) (hs : spot L nm = L.length) (o : Obj) (hO : Own w1 w.heap.size v (nmv L ++ [.string nm])) (hG : (wr.alloc o).grownBy w1 v1.ownBlock) (hB : v.ownBlock = v1.ownBlock ∨ v.ownBlock = some (wr.heap.size + 1)) :
    Own w1 w.heap.size v (nmv (tick L nm)) ∧ Own w1 w.heap.size v2 (usv L) ∧ (∀ g, v.ownBlock = some g → v2.ownBlock ≠ some g) ∧ Below w.heap.size w w1 := by
  obtain ⟨a1, a2, a3, a4⟩ := h
  refine ⟨by rw [← nmv_new L nm hs]; exact hO, (a2.alloc o).grown hG (fun g hg hv => a3 g hv hg), fun g hg hv => ?_, Go.Proofs.YtcmdokiicicghaaDoor.OW.below_grown (a4.alloc a4.size _) hG (fun q hq => (a1.lt q hq).1) (by have := a4.size; simp; omega)⟩
  rcases hB with e | e
  · exact a3 g (e ▸ hg) hv
  · rw [e] at hg
    have := (a2.lt g hv).2
    simp at hg
    omega
/-- Its count has been appended. -/
theorem app2 {xs : List Value} (a1 : Own wr w.heap.size v1 xs) (a2 : Own wr w.heap.size v2 (usv L)) (a3 : ∀ g, v1.ownBlock = some g → v2.ownBlock ≠ some g) (a4 : Below w.heap.size w wr) (o : Obj) (hO : Own w1 w.heap.size v (usv L ++ [.int .u32 0])) (hG : (wr.alloc o).grownBy w1 v2.ownBlock) (hB : v.ownBlock = v2.ownBlock ∨ v.ownBlock = some (wr.heap.size + 1)) :
    Own w1 w.heap.size v1 xs ∧ Own w1 w.heap.size v (usv L ++ [.int .u32 0]) ∧ (∀ g, v1.ownBlock = some g → v.ownBlock ≠ some g) ∧ Below w.heap.size w w1 := by
  refine ⟨(a1.alloc o).grown hG (fun g hg hv => a3 g hg hv), hO, fun g hg hv => ?_, Go.Proofs.YtcmdokiicicghaaDoor.OW.below_grown (a4.alloc a4.size _) hG (fun q hq => (a2.lt q hq).1) (by have := a4.size; simp; omega)⟩
  rcases hB with e | e
  · exact a3 g hg (e ▸ hv)
  · rw [e] at hv
    have := (a1.lt g hg).2
    simp at hv
    omega
end
theorem infoStr : (Tryd.prog.info? 9).map (fun i => (i.zero, i.size, i.bytes)) = some (some (.string ByteArray.empty), 1, 16) := by kernel_rfl
theorem infoU32 : (Tryd.prog.info? 41).map (fun i => (i.zero, i.size, i.bytes)) = some (some (.int .u32 0), 1, 4) := by kernel_rfl
section
variable {w wr : World} {v1 v2 : Value} {L : List Ent} {nm : ByteArray}
theorem Two.shape (h : Two w wr v1 v2 L) : ∃ g1 c1 g2 c2, v1 = .slice (some ⟨g1, 0, none⟩) L.length c1 ∧ v2 = .slice (some ⟨g2, 0, none⟩) L.length c2 ∧ w.heap.size ≤ g1 ∧ w.heap.size ≤ g2 ∧ g1 < wr.heap.size ∧ g2 < wr.heap.size ∧ g1 ≠ g2 := by
  obtain ⟨g1, c1, h1, b1, l1, -⟩ := h.1.cells
  obtain ⟨g2, c2, h2, b2, l2, -⟩ := h.2.1.cells
  rw [nmv_len] at h1
  rw [usv_len] at h2
  refine ⟨g1, c1, g2, c2, h1, h2, b1, b2, l1, l2, ?_⟩
  rintro rfl
  exact h.2.2.1 g1 (by rw [h1]; rfl) (by rw [h2]; rfl)
theorem own_name {w wr : World} {g1 n1 c1 : Nat} {xs : List Value} {j : Nat} {u : Value} (h : Own wr w.heap.size (.slice (some ⟨g1, 0, none⟩) n1 c1) xs) (he : xs[j]? = some u) : wr.cell? ⟨g1, j, none⟩ = some u := by
  obtain ⟨g, c, hv, -, -, -, -, hc⟩ := h.cells
  obtain ⟨rfl, -, -⟩ : g1 = g ∧ n1 = xs.length ∧ c1 = c := by simpa using hv
  exact hc j u he
/-- A count has gone up. -/
theorem Two.bump {g2 n2 c2 : Nat} {e : Ent} (h : Two w wr v1 (.slice (some ⟨g2, 0, none⟩) n2 c2) L) (he : L[spot L nm]? = some e) :
    Two w (wr.setCell ⟨g2, spot L nm, none⟩ (.int .u32 ((e.uses : Int) + 1))) v1 (.slice (some ⟨g2, 0, none⟩) n2 c2) (tick L nm) ∧ wr.frozen? ⟨g2, spot L nm, none⟩ = false := by
  obtain ⟨a1, a2, a3, a4⟩ := h
  have hp := a2.put (spot L nm) (.int .u32 ((e.uses : Int) + 1))
  have hlt : spot L nm < L.length := (List.getElem?_eq_some_iff.1 he).1
  refine ⟨⟨?_, ?_, a3, a4.setCell (a2.lt g2 rfl).1 _⟩, hp.2⟩
  · rw [nmv_old L nm hlt]
    exact a1.away (p := ⟨g2, spot L nm, none⟩) (fun hv => a3 g2 hv rfl) _
  · rw [← usv_old L nm e he]
    exact hp.1
end

set_option maxRecDepth 100000 in
set_option maxHeartbeats 4000000 in
theorem checkF (W0 w : World) (tb gc pb mb p n cc m d : Nat) (A B : Option Addr) (ml : Bool) (z : Nat → Int) (T : Nat → ByteArray) (c : Nat → Bool)
    (hS : St W0 w pb mb ml (Lt c T p)) (hB : Tab w tb TT 7 p (tkp c (kz z) T p)) (hC : Tab w gc BT 1 p (fun i _ => .bool (c i))) (r : BR w A n z) (r2 : SR w B m T) (hz : ∀ i, i < n → 0 ≤ z i ∧ z i ≤ 255) (hpn : p ≤ n) (hpm : p ≤ m) (hp : p ≤ 4096) :
    Calls Tryd.prog 18 #[.pointer (some ⟨pb, 0, none⟩), .slice (some ⟨tb, 0, none⟩) p p, .slice A n cc, .slice B m d, .slice (some ⟨gc, 0, none⟩) p p, .bool ml] w (BP true w) := by
  obtain ⟨iS, hiS, hzS0, hzS1, hzS2⟩ := info_parts infoStr
  obtain ⟨iU, hiU, hzU0, hzU1, hzU2⟩ := info_parts infoU32
  have R := Lib.hid r
  have R2 := Lib.hid r2
  have HZ := Lib.hid hz
  have HS := Lib.hid hS
  have HB := Lib.hid hB
  have HC := Lib.hid hC
  clear r r2 hz hS hB hC
  have hmk := fun (W : World) => run_make (P := Tryd.prog) W 25 9 iS _ Tryd.underlying25 hiS hzS0 .i64 .i64 0 p (by omega) (by omega) (by rw [hzS2]; omega) (by omega)
  have hmk2 := fun (W : World) => run_make (P := Tryd.prog) W 93 41 iU _ Tryd.underlying93 hiU hzU0 .i64 .i64 0 p (by omega) (by omega) (by rw [hzU2]; omega) (by omega)
  simp only [hzS1, Int.toNat_natCast] at hmk
  simp only [hzU1, Int.toNat_natCast] at hmk2
  go_enter Tryd.func18, Tryd.ntmps18
  go_wp2_with fail
  have T0 := Lib.hid (Two.made w p hp (madeCells #[.string ByteArray.empty] p) (madeCells #[.int .u32 0] p) 9 41 (size_madeCells _ _) (size_madeCells _ _))
  generalize (w.alloc (.cells (madeCells #[.string ByteArray.empty] p) 9)).alloc (.cells (madeCells #[.int .u32 0] p) 41) = W1 at *
  clear hmk hmk2
  go_loopg [14, 15, 16] p (fun gk v1 v2 i wr => ∃ k : Nat, k ≤ p ∧ p ≤ k + gk ∧ i = .int .i64 k ∧ Hid (Two w wr v1 v2 (Lt c T k))) 
  case atStart => exact ⟨0, Nat.zero_le _, by omega, rfl, T0⟩
  case round =>
    obtain ⟨k, hk, hgk, rfl, TW⟩ := hrel
    clear T0
    by_cases hlt : k < p
    · obtain ⟨g', rfl⟩ : ∃ g', gk = g' + 1 := ⟨gk - 1, by omega⟩
      obtain ⟨b, o, rfl, hb, hc⟩ := R.out (by omega)
      obtain ⟨b2, o2, rfl, hb2, hc2⟩ := R2.out (by omega)
      have BW := Lib.hid TW.out.2.2.2
      have z0 : wr.cell? ⟨b, o + k, none⟩ = some (.int .u8 (z k)) := by rw [BW.out.cell hb]; exact hc k (by omega)
      have x0 : wr.cell? ⟨b2, o2 + k, none⟩ = some (.string (T k)) := by rw [BW.out.cell hb2]; exact hc2 k (by omega)
      have TB := Lib.hid (HB.out.below BW.out HB.out.lt)
      have y1 : wr.cell? ⟨tb, k * 7 + 1, none⟩ = some (.string (T k)) := by rw [TB.out.cell hlt (j := 1) (by omega)]; simp [tkp, hlt, tkc]
      have y3 : wr.cell? ⟨tb, k * 7 + 3, none⟩ = some (.int .u32 (Pt c T k)) := by rw [TB.out.cell hlt (j := 3) (by omega)]; simp [tkp, hlt, tkc]
      have y5 : wr.cell? ⟨tb, k * 7 + 5, none⟩ = some (.int .u8 (Kt c (kz z) k)) := by rw [TB.out.cell hlt (j := 5) (by omega)]; simp [tkp, hlt, tkc]
      have f0 : wr.cell? ⟨gc, k, none⟩ = some (.bool (c k)) := tab1 (HC.out.below BW.out HC.out.lt) hlt
      have hk0 := (HZ.out k (by omega)).1
      have hk1 := (HZ.out k (by omega)).2
      have q1 : (0 : Int) ≤ (k : Int) := by omega
      have q2 : (k : Int) < (p : Int) := by omega
      have q3 : (k : Int) < (n : Int) := by omega
      have q4 : (k : Int) < (m : Int) := by omega
      clear hc hc2 TB BW
      cases hck : c k
      · rw [hck] at f0
        have e3 : Pt c T k = 0 := by simp [Pt, hck]
        have e5 : Kt c (kz z) k = kd (z k % 5) := by simp [Kt, hck, kz]
        rw [e3] at y3
        rw [e5] at y5
        have C1 := Lib.hid (fun w => codeF (z k) w hk0 hk1)
        have C2 := Lib.hid (fun w => kindF (z k % 5) w (by omega) (by omega))
        have HK := Lib.hid hck
        clear e3 e5 hck
        go_wp2_with fail
        go_quiet (fail)
        go_wp2_with fail
        generalize hW2 : wr.drewN _ = W2
        have g3 : W2.cell? ⟨tb, k * 7 + 3, none⟩ = some (.int .u32 0) := by rw [← hW2]; exact y3
        have g5 : W2.cell? ⟨tb, k * 7 + 5, none⟩ = some (.int .u8 (kd (z k % 5))) := by rw [← hW2]; exact y5
        have g0 : W2.cell? ⟨b, o + k, none⟩ = some (.int .u8 (z k)) := by rw [← hW2]; exact z0
        have TW2 : Hid (Two w W2 u14 u15 (Lt c T k)) := by rw [← hW2]; exact Lib.hid (TW.out.drewN _)
        clear hW2 y1 y3 y5 z0 x0 f0 TW
        go_quiet ((first
          | (go_at_call 22; exact Calls.quiet_of_same ((C1.out _).mono fun _ _ h => ⟨h.1, h.2.symm⟩))
          | (go_at_call 26; exact Calls.quiet_of_same ((C2.out _).mono fun _ _ h => ⟨h.1, h.2.symm⟩))))
        go_wp2_with fail
        go_roundg g'
        case rel => exact ⟨k + 1, by omega, by omega, by go_num, by rw [Lt_no HK.out]; exact Lib.hid (TW2.out.drewN _)⟩
        case measure => exact Nat.lt_succ_self _
      · rw [hck] at f0
        have e3 : Pt c T k = (spot (Lt c T k) (T k) : Int) := by simp [Pt, hck]
        have e5 : Kt c (kz z) k = 39 := by simp [Kt, hck]
        rw [e3] at y3
        rw [e5] at y5
        have HK := Lib.hid (Lt_yes (T := T) hck)
        have HP : Hid (Pt c T k = (spot (Lt c T k) (T k) : Int)) := Lib.hid e3
        have HCK := Lib.hid hck
        have hsm := Lt_small c T k
        generalize Lt c T k = L at *
        have HL := Lib.hid hsm.2
        have hLk : L.length ≤ k := hsm.1
        have HSP := Lib.hid (spot_ne L (T k))
        have HSA := Lib.hid (spot_at L (T k))
        have hspl := spot_le L (T k)
        clear e3 e5 hck hsm
        obtain ⟨g1, c1, g2, c2, rfl, rfl, hg1, hg2, hl1, hl2, hg12⟩ := TW.out.shape
        have htbl := HB.out.lt
        go_wp2_with fail
        go_quiet (fail)
        go_wp2_with fail
        generalize hW2 : wr.drewN _ = W2
        have d3 : W2.cell? ⟨tb, k * 7 + 3, none⟩ = some (.int .u32 (spot L (T k) : Int)) := by rw [← hW2]; exact y3
        have d5 : W2.cell? ⟨tb, k * 7 + 5, none⟩ = some (.int .u8 39) := by rw [← hW2]; exact y5
        have dx : W2.cell? ⟨b2, o2 + k, none⟩ = some (.string (T k)) := by rw [← hW2]; exact x0
        have TW2 : Hid (Two w W2 (.slice (some ⟨g1, 0, none⟩) L.length c1) (.slice (some ⟨g2, 0, none⟩) L.length c2) L) := by rw [← hW2]; exact Lib.hid (TW.out.drewN _)
        clear hW2 y1 y3 y5 z0 x0 f0 TW
        go_loopg [17, 18] L.length (fun gj s17 s18 wx => ∃ j : Nat, s17 = .int .i64 (-1) ∧ s18 = .int .i64 j ∧ j ≤ spot L (T k) ∧ L.length ≤ j + gj ∧ Hid (Two w wx (.slice (some ⟨g1, 0, none⟩) L.length c1) (.slice (some ⟨g2, 0, none⟩) L.length c2) L) ∧ Hid (wx.cell? ⟨tb, k * 7 + 3, none⟩ = some (.int .u32 (spot L (T k) : Int)) ∧ wx.cell? ⟨tb, k * 7 + 5, none⟩ = some (.int .u8 39) ∧ wx.cell? ⟨b2, o2 + k, none⟩ = some (.string (T k))))
        case atStart => exact ⟨0, rfl, rfl, Nat.zero_le _, by omega, TW2, Lib.hid ⟨d3, d5, dx⟩⟩
        case round =>
          obtain ⟨j, rfl, rfl, hj, hgj, TW3, D3⟩ := hrel
          clear TW2 d3 d5 dx
          have x3 := D3.out.2.2
          have q5 : (0 : Int) ≤ (j : Int) := by omega
          by_cases hjl : j < L.length
          · obtain ⟨gj', rfl⟩ : ∃ gj', gk = gj' + 1 := ⟨gk - 1, by omega⟩
            have q6 : (j : Int) < (L.length : Int) := by omega
            obtain ⟨e, he⟩ : ∃ e, L[j]? = some e := ⟨L[j], List.getElem?_eq_getElem hjl⟩
            have x4 := own_name TW3.out.1 (nmv_at he)
            by_cases hjs : j < spot L (T k)
            · have hne : (e.nm.toList == (T k).toList) = false := beq_eq_false_iff_ne.2 (fun h => HSP.out j e hjs he (by
                rw [Lib.toList_data, Lib.toList_data] at h
                generalize T k = t at h
                cases e with
                | mk nm _ _ => cases nm; cases t; simp at h; simpa using h))
              clear he
              go_wp2_with fail
              go_quiet (fail)
              go_wp2_with fail
              go_roundg gj'
              case rel => exact ⟨j + 1, rfl, by go_num, by omega, by omega, Lib.hid (TW3.out.drewN _), Lib.hid D3.out⟩
              case measure => exact Nat.lt_succ_self _
            · obtain rfl : j = spot L (T k) := by omega
              obtain ⟨e', he', hen, -⟩ := HSA.out hjl
              rw [he] at he'
              cases he'
              rw [hen] at x4
              have HE := Lib.hid he
              have hus : e.uses ≤ k := HL.out e (List.mem_of_getElem? he)
              clear he hen
              go_wp2_with fail
              go_quiet (fail)
              generalize hW3 : wr.drewN _ = W3
              have TW4 : Hid (Two w W3 (.slice (some ⟨g1, 0, none⟩) L.length c1) (.slice (some ⟨g2, 0, none⟩) L.length c2) L) := by rw [← hW3]; exact Lib.hid (TW3.out.drewN _)
              have d3 : W3.cell? ⟨tb, k * 7 + 3, none⟩ = some (.int .u32 (spot L (T k) : Int)) := by rw [← hW3]; exact D3.out.1
              have d5 : W3.cell? ⟨tb, k * 7 + 5, none⟩ = some (.int .u8 39) := by rw [← hW3]; exact D3.out.2.1
              have us := own_name TW4.out.2.1 (usv_at HE.out)
              have hbump := TW4.out.bump HE.out
              have usf := hbump.2
              have BP3 := Lib.hid hbump.1
              have r9 : tb ≠ g2 := by omega
              have hw : IntKind.u32.wrap (spot L (T k) : Int) = (spot L (T k) : Int) := wrapU32 _ q5 (by omega)
              have k0 : (0 : Int) ≤ (e.uses : Int) := by omega
              have k1 : (e.uses : Int) ≤ 4096 := by omega
              clear hW3 hbump x3 x4 TW3 D3
              go_wp2_with fail
              go_roundg g'
              case rel => exact ⟨k + 1, by omega, by omega, by go_num, by rw [HK.out]; exact BP3⟩
              case measure => exact Nat.lt_succ_self _
          · have HSE := Lib.hid (show spot L (T k) = L.length by omega)
            have hjj : j = L.length := by omega
            have q6 : ¬ (j : Int) < (L.length : Int) := by omega
            have hlen1 : (nmv L).length ≤ 1099511627776 := by rw [nmv_len]; omega
            have hlen2 : (usv L).length ≤ 1099511627776 := by rw [usv_len]; omega
            have D3h := Lib.hid D3.out
            clear D3 hj hgj hjl hspl
            go_wp2_with (at_builtin; refine wpList_own _ rfl (.tmp 65) (.tmp 70) 25 rfl w.heap.size 9 iS (.string ByteArray.empty) Tryd.underlying25 hiS hzS0 hzS1 (by rw [hzS2]; decide) rfl _ _ rfl (TW3.out.1.alloc _) ⟨wr.heap.size, 0, none⟩ 1 (.string (T k)) rfl (by simp [go_sem]) rfl hlen1 ?_)
            intro v' w' hO hG hB
            obtain ⟨a1, a2, a3, a4⟩ := TW3.out.app1 HSE.out (.cells #[.string (T k)] 9) hO hG hB
            obtain ⟨g3, c3, hv', b3, l3, -, -, -⟩ := a1.cells
            rw [nmv_len, tick_len_new L (T k) HSE.out] at hv'
            subst hv'
            have A1 := Lib.hid a1
            have A2 := Lib.hid a2
            have A3 := Lib.hid a3
            have A4 := Lib.hid a4
            clear hO hG hB TW3 D3h x3 a1 a2 a3 a4 q6
            go_wp2_with (at_builtin; refine wpList_own _ rfl (.tmp 72) (.tmp 73) 93 rfl w.heap.size 41 iU (.int .u32 0) Tryd.underlying93 hiU hzU0 hzU1 (by rw [hzU2]; decide) rfl _ _ rfl (A2.out.alloc _) ⟨w'.heap.size, 0, none⟩ 1 (.int .u32 0) rfl (by simp [go_sem]) rfl hlen2 ?_)
            intro v'' w'' hO hG hB
            obtain ⟨e1, e2, e3, e4⟩ := app2 A1.out A2.out A3.out A4.out (.cells #[.int .u32 0] 41) hO hG hB
            obtain ⟨g4, c4, hv'', b4, l4, -, -, -⟩ := e2.cells
            rw [List.length_append, usv_len, List.length_singleton] at hv''
            subst hv''
            have us := own_name e2 (j := L.length) (u := .int .u32 0) (by rw [List.getElem?_append_right (by rw [usv_len]; omega), usv_len]; simp)
            have hput := e2.put L.length (.int .u32 1)
            have usf := hput.2
            have U1 := hput.1
            rw [usv_new L (T k) HSE.out] at U1
            have r9 : tb ≠ g4 := by omega
            have TB := HB.out.below e4 HB.out.lt
            have d3 : w''.cell? ⟨tb, k * 7 + 3, none⟩ = some (.int .u32 (L.length : Int)) := by
              rw [TB.cell hlt (j := 3) (by omega)]
              simp [tkp, hlt, tkc, HP.out, HSE.out]
            have d5 : w''.cell? ⟨tb, k * 7 + 5, none⟩ = some (.int .u8 39) := by
              rw [TB.cell hlt (j := 5) (by omega)]
              simp [tkp, hlt, tkc, Kt, HCK.out]
            have FIN : Hid (Two w (w''.setCell ⟨g4, L.length, none⟩ (.int .u32 1)) (.slice (some ⟨g3, 0, none⟩) (L.length + 1) c3) (.slice (some ⟨g4, 0, none⟩) (L.length + 1) c4) (tick L (T k))) :=
              Lib.hid ⟨e1.away (p := ⟨g4, L.length, none⟩) (fun hv => e3 g4 hv rfl) _, U1, e3, e4.setCell b4 _⟩
            have hw : IntKind.u32.wrap (L.length : Int) = (L.length : Int) := wrapU32 _ (by omega) (by omega)
            have q7 : (0 : Int) ≤ (L.length : Int) := by omega
            have q8 : (L.length : Int) ≤ 4096 := by omega
            clear hO hG hB A1 A2 A3 A4 e1 e2 e3 e4 hput U1 TB hlen1 hlen2
            go_wp2_with fail
            go_roundg g'
            case rel => exact ⟨k + 1, by omega, by omega, by go_num, by rw [HK.out]; exact FIN⟩
            case measure => exact Nat.lt_succ_self _
    · obtain rfl : k = p := by omega
      have hsm := Lt_small c T k
      have S1 := HS.out.below (TW.out.2.2.2.mono (Nat.le_refl _))
      generalize Lt c T k = L at *
      have hLk : L.length ≤ k := hsm.1
      obtain ⟨g1, c1, g2, c2, rfl, rfl, -, -, -, -, -⟩ := TW.out.shape
      have SS := Lib.hid S1
      have HN := Lib.hid (symN_st S1)
      clear hsm S1 HS HB HC R R2 HZ hpn hpm
      have hL4 : L.length ≤ 4096 := by omega
      cases ml
      all_goals
        go_wp2_with (go_at_call 29; refine HN.out.mono ?_; rintro e w' ⟨rfl, rfl⟩)
        go_loopg [20] L.length (fun gk s20 wx => ∃ j : Nat, s20 = .int .i64 j ∧ j ≤ L.length ∧ L.length ≤ j + gk ∧ Hid (Two w wx (.slice (some ⟨g1, 0, none⟩) L.length c1) (.slice (some ⟨g2, 0, none⟩) L.length c2) L) ∧ Hid (St W0 wx pb mb _ L))
        case atStart => exact ⟨0, rfl, Nat.zero_le _, by omega, TW, SS⟩
        case round =>
          obtain ⟨j, rfl, hj, hgj, TW3, SS3⟩ := hrel
          clear TW SS HN
          have q5 : (0 : Int) ≤ (j : Int) := by omega
          by_cases hjl : j < L.length
          · obtain ⟨gj', rfl⟩ : ∃ gj', gk = gj' + 1 := ⟨gk - 1, by omega⟩
            have q6 : (j : Int) < (L.length : Int) := by omega
            obtain ⟨e, he⟩ : ∃ e, L[j]? = some e := ⟨L[j], List.getElem?_eq_getElem hjl⟩
            have x4 := own_name TW3.out.1 (nmv_at he)
            have M1 := Lib.hid (fun n => name_st (SS3.out.drewN n) j e he (by omega))
            have HE := Lib.hid he
            clear he
            go_wp2_with fail
            go_quiet ((go_at_call 30; exact Calls.quiet_of_same ((M1.out _).mono fun _ _ h => ⟨h.1, h.2.symm⟩)))
            generalize hW3 : wr.drewN _ = W3
            have TW4 : Hid (Two w W3 (.slice (some ⟨g1, 0, none⟩) L.length c1) (.slice (some ⟨g2, 0, none⟩) L.length c2) L) := by rw [← hW3]; exact Lib.hid (TW3.out.drewN _)
            obtain ⟨mlv, SS4, hmlv⟩ : ∃ b, Hid (St W0 W3 pb mb b L) ∧ b = _ := ⟨_, by rw [← hW3]; exact Lib.hid (SS3.out.drewN _), rfl⟩
            subst hmlv
            have x5 := own_name TW4.out.2.1 (usv_at HE.out)
            have M2 := Lib.hid (fun n => uses_st (SS4.out.drewN n) j e HE.out (by omega))
            clear hW3 x4 M1 TW3 SS3
            go_wp2_with fail
            go_quiet ((go_at_call 31; exact Calls.quiet_of_same ((M2.out _).mono fun _ _ h => ⟨h.1, h.2.symm⟩)))
            generalize hW4 : W3.drewN _ = W4
            have TW5 : Hid (Two w W4 (.slice (some ⟨g1, 0, none⟩) L.length c1) (.slice (some ⟨g2, 0, none⟩) L.length c2) L) := by rw [← hW4]; exact Lib.hid (TW4.out.drewN _)
            obtain ⟨mlv, SS5, hmlv⟩ : ∃ b, Hid (St W0 W4 pb mb b L) ∧ b = _ := ⟨_, by rw [← hW4]; exact Lib.hid (SS4.out.drewN _), rfl⟩
            subst hmlv
            have M3 := Lib.hid (kind_st SS5.out j e HE.out (by omega))
            unfold kindOf at M3
            clear hW4 x5 M2 TW4 SS4
            go_wp2_with (go_at_call 32; refine M3.out.mono ?_; rintro e w' ⟨rfl, rfl⟩)
            go_roundg gj'
            case rel => exact ⟨j + 1, by go_num, by omega, by omega, TW5, SS5⟩
            case measure => exact Nat.lt_succ_self _
          · have HLn := Lib.hid (locN_st SS3.out)
            have q6 : ¬ (j : Int) < (L.length : Int) := by omega
            go_wp2_with (go_at_call 33; refine HLn.out.mono ?_; rintro e w' ⟨rfl, rfl⟩)
            go_ret
            exact ⟨rfl, TW3.out.2.2.2⟩
end Go.Proofs.YtcmdokiicicghaaDoor.WA

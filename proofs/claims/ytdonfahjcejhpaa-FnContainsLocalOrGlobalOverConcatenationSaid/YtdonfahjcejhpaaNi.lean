/- The law on concatenation of n011_210, walked. -/
import Derived.Test.YtdonfahjcejhpaaNg
import Derived.Test.YtdonfahjcejhpaaNh
namespace Go.Proofs.Ytdonfahjcejhpaa.MG
open Go.RowKit Go.Proofs.Ytdonfahjcejhpaa.TB
set_option linter.unusedVariables false
theorem info27 : (Try.prog.info? 27).map (fun i => (i.zero, i.size, i.bytes)) = some (some (.agg #[.int .u8 0, .int .u8 0, .int .u8 0, .slice none 0 0]), 4, 32) := by kernel_rfl
/-- The cells of n compound codes. -/
def crs (C : Nat → ZC) (X : Nat → Value) : Nat → List Value
  | 0 => []
  | k + 1 => crs C X k ++ [.int .u8 (C k).c, .int .u8 (C k).t, .int .u8 (C k).a, X k]
theorem crs_len (C : Nat → ZC) (X : Nat → Value) (n : Nat) : (crs C X n).length = n * 4 := by
  induction n with
  | zero => rfl
  | succ k ih => simp [crs, ih]; omega
theorem crs_get (C : Nat → ZC) (X : Nat → Value) {n i : Nat} (h : i < n) : (crs C X n)[i * 4]? = some (.int .u8 (C i).c) ∧ (crs C X n)[i * 4 + 1]? = some (.int .u8 (C i).t) ∧ (crs C X n)[i * 4 + 2]? = some (.int .u8 (C i).a) ∧ (crs C X n)[i * 4 + 3]? = some (X i) := by
  induction n with
  | zero => omega
  | succ k ih =>
    have hl := crs_len C X k
    by_cases e : i = k
    · subst e
      simp only [crs]
      refine ⟨?_, ?_, ?_, ?_⟩ <;> rw [List.getElem?_append_right (by omega)] <;> simp [hl]
    · obtain ⟨h0, h1, h2, h3⟩ := ih (by omega)
      simp only [crs]
      refine ⟨?_, ?_, ?_, ?_⟩ <;> rw [List.getElem?_append_left (by omega)] <;> assumption
/-- The two lists after one another. -/
def cat {α : Type} (na : Nat) (f g : Nat → α) : Nat → α := fun i => if i < na then f i else g (i - na)
theorem Has_cat (na nb : Nat) (Ca Cb : Nat → ZC) : Has (na + nb) (cat na Ca Cb) ↔ (Has na Ca ∨ Has nb Cb) := by
  unfold Has cat
  constructor
  · rintro ⟨i, hi, j, hj, hf⟩
    by_cases h : i < na
    · rw [if_pos h] at hj hf
      exact .inl ⟨i, h, j, hj, hf⟩
    · rw [if_neg h] at hj hf
      exact .inr ⟨i - na, by omega, j, hj, hf⟩
  · rintro (⟨i, hi, j, hj, hf⟩ | ⟨i, hi, j, hj, hf⟩)
    · exact ⟨i, by omega, j, by rw [if_pos hi]; exact hj, by rw [if_pos hi]; exact hf⟩
    · have h : ¬ na + i < na := by omega
      have e : na + i - na = i := by omega
      exact ⟨na + i, by omega, j, by rw [if_neg h, e]; exact hj, by rw [if_neg h, e]; exact hf⟩
/-- The columns of an input. -/
def Co (w : World) (A : Option Addr) (n : Nat) (C : Nat → ZC) (X : Nat → Value) : Prop := (0 < n → ∃ b o, A = some ⟨b, o, none⟩ ∧ b < w.heap.size ∧ ∀ i, i < n → w.cell? ⟨b, o + i * 4, none⟩ = some (.int .u8 (C i).c) ∧
  w.cell? ⟨b, o + i * 4 + 1, none⟩ = some (.int .u8 (C i).t) ∧ w.cell? ⟨b, o + i * 4 + 2, none⟩ = some (.int .u8 (C i).a) ∧ w.cell? ⟨b, o + i * 4 + 3, none⟩ = some (X i)) ∧ ∀ i, i < n → Uv w (X i) (C i).n (C i).s ∧ WC (C i)
theorem Cv.cols {w : World} {A : Option Addr} {n c : Nat} {C : Nat → ZC} (h : Cv w (.slice A n c) n C) : ∃ X, Co w A n C X := by
  obtain ⟨A', c', hv, h1⟩ := h
  simp only [Value.slice.injEq] at hv
  obtain ⟨rfl, -, rfl⟩ := hv
  by_cases hn : 0 < n
  · obtain ⟨b, o, e, hl, h2⟩ := h1 hn
    obtain ⟨X, hX⟩ := Classical.axiomOfChoice (r := fun (i : Nat) (x : Value) => i < n → w.cell? ⟨b, o + i * 4, none⟩ = some (.int .u8 (C i).c) ∧
      w.cell? ⟨b, o + i * 4 + 1, none⟩ = some (.int .u8 (C i).t) ∧ w.cell? ⟨b, o + i * 4 + 2, none⟩ = some (.int .u8 (C i).a) ∧ w.cell? ⟨b, o + i * 4 + 3, none⟩ = some x ∧ Uv w x (C i).n (C i).s ∧ WC (C i)) (fun i => by
        by_cases hi : i < n
        · obtain ⟨x, hx⟩ := h2 i hi
          exact ⟨x, fun _ => hx⟩
        · exact ⟨.nilIface, fun h => absurd h hi⟩)
    exact ⟨X, fun _ => ⟨b, o, e, hl, fun i hi => ⟨(hX i hi).1, (hX i hi).2.1, (hX i hi).2.2.1, (hX i hi).2.2.2.1⟩⟩, fun i hi => ⟨(hX i hi).2.2.2.2.1, (hX i hi).2.2.2.2.2⟩⟩
  · exact ⟨fun _ => .nilIface, fun h => absurd h hn, fun i hi => absurd hi (by omega)⟩
theorem Uv.one {w : World} {x : Value} {n : Nat} {Z : Nat → ZS} (h : Uv w x n Z) : x.oneCell' = true := by
  obtain ⟨A, c, rfl, -⟩ := h; rfl
/-- The list under construction. -/
def LA (w : World) (C : Nat → ZC) (X : Nat → Value) (k : Nat) (v : Value) (wr : World) : Prop := wr.ownsRow w.heap.size 27 4 v k (crs C X k) ∧ Below w.heap.size w wr
theorem LA.next {w wr w1 : World} {C : Nat → ZC} {X : Nat → Value} {k gg cap : Nat} {v : Value} {o : Obj} (h : LA w C X k v wr) (hown : w1.ownsRow w.heap.size 27 4 (.slice (some ⟨gg, 0, none⟩) (k + 1) cap) (k + 1) (crs C X k ++ [.int .u8 (C k).c, .int .u8 (C k).t, .int .u8 (C k).a, X k]))
    (hgrow : (wr.alloc o).grownBy w1 v.ownBlock) : LA w C X (k + 1) (.slice (some ⟨gg, 0, none⟩) (k + 1) cap) w1 := by
  obtain ⟨hx, hw⟩ := h
  refine ⟨hown, hgrow.os.trans hw.os, hgrow.tape.trans hw.tape, hgrow.output.trans hw.output, ?_, fun q hq => ?_⟩
  · have h1 := hgrow.size; simp at h1; have := hw.size; omega
  · have h1 := hw.size
    rw [hgrow.block q (by simp; omega) (fun e => by have := (hx.lt q e.symm).1; omega), Below.heap_alloc wr o q (by omega)]
    exact hw.block q hq
theorem LA.cv {w wr : World} {C : Nat → ZC} {X : Nat → Value} {k : Nat} {v : Value} (h : LA w C X k v wr) (hX : ∀ i, i < k → Uv w (X i) (C i).n (C i).s ∧ WC (C i)) : Cv wr v k C := by
  obtain ⟨h1, hb⟩ := h
  by_cases hk : 0 < k
  · obtain ⟨gs, cap, rfl, -, hlt⟩ := h1.form hk
    refine ⟨_, _, rfl, fun _ => ⟨gs, 0, rfl, hlt, fun i hi => ?_⟩⟩
    obtain ⟨e0, e1, e2, e3⟩ := crs_get C X hi
    have hl := crs_len C X k
    refine ⟨X i, ?_, ?_, ?_, ?_, (hX i hi).1.below hb, (hX i hi).2⟩
    · rw [Nat.zero_add, h1.cellAt _ (by omega), e0]
    · rw [Nat.zero_add, h1.cellAt _ (by omega), e1]
    · rw [Nat.zero_add, h1.cellAt _ (by omega), e2]
    · rw [Nat.zero_add, h1.cellAt _ (by omega), e3]
  · obtain rfl : k = 0 := by omega
    rcases h1.2 with ⟨rfl, -⟩ | ⟨g, cap, cur, rfl, -⟩
    · exact ⟨_, _, rfl, fun h => absurd h hk⟩
    · exact ⟨_, _, rfl, fun h => absurd h hk⟩
theorem one4 {x : Value} {a b c : Int} (hx : x.oneCell' = true) : ∀ u ∈ [.int .u8 a, .int .u8 b, .int .u8 c, x], u.oneCell' = true := by
  intro u hu
  simp only [List.mem_cons, List.not_mem_nil, or_false] at hu
  rcases hu with rfl | rfl | rfl | rfl
  · rfl
  · rfl
  · rfl
  · exact hx
def Tr (w : World) (e : Ending) (w' : World) : Prop := e = .returned (.bool true) ∧ Below w.heap.size w w'
set_option maxRecDepth 100000 in
set_option maxHeartbeats 40000000 in
theorem law3 (Aa : Option Addr) (na ca : Nat) (Ca : Nat → ZC) (Ab : Option Addr) (nb cb' : Nat) (Cb : Nat → ZC) (w : World) (hna : na ≤ maxLen) (hnb : nb ≤ maxLen) (hA : Cv w (.slice Aa na ca) na Ca) (hB : Cv w (.slice Ab nb cb') nb Cb) :
    Calls Try.prog 3 #[.slice Aa na ca, .slice Ab nb cb'] w (Tr w) := by
  obtain ⟨Xa, hXa⟩ := hA.cols
  obtain ⟨Xb, hXb⟩ := hB.cols
  have HXA := Lib.hid hXa
  have HXB := Lib.hid hXb
  have HA := Lib.hid hA
  have HB := Lib.hid hB
  have HNA := Lib.hid hna
  have HNB := Lib.hid hnb
  clear hA hB hXa hXb hna hnb
  go_enter Try.func3, Try.ntmps3
  go_wp2_with fail
  refine (bytes5 Aa na ca Ca Ab nb cb' Cb w HNA.out HNB.out HA.out HB.out).mono ?_
  rintro e w' ⟨bo, rfl, hbo, rfl⟩
  cases bo with
  | false =>
    go_wp2_with fail
    go_ret
    exact ⟨rfl, Below.refl _ _⟩
  | true =>
    obtain ⟨⟨ha, hBa⟩, hb, hBb⟩ := hbo rfl
    have HBA := Lib.hid hBa
    have HBB := Lib.hid hBb
    clear hBa hBb hbo HNA HNB
    go_wp2_with fail
    refine (comps6 Aa na ca Ca _ ha HA.out HBA.out).mono ?_
    rintro e w1 ⟨t1, rfl, hb1⟩
    have B1 := Lib.hid hb1
    clear hb1
    by_cases ht1 : (1048576 : Int) < t1
    · go_wp2_with fail
      go_ret
      exact ⟨rfl, B1.out⟩
    · go_wp2_with fail
      refine (comps6 Ab nb cb' Cb _ hb (HB.out.below B1.out) HBB.out).mono ?_
      rintro e w2 ⟨t2, rfl, hb2⟩
      have B2 := Lib.hid (B1.out.trans (hb2.mono B1.out.size))
      clear hb2 B1
      by_cases ht2 : (1048576 : Int) < t2
      · go_wp2_with fail
        go_ret
        exact ⟨rfl, B2.out⟩
      · go_wp2_with fail
        refine (comps6 Aa na ca Ca _ ha (HA.out.below B2.out) HBA.out).mono ?_
        rintro e w3 ⟨t3, rfl, hb3⟩
        have B3 := Lib.hid (B2.out.trans (hb3.mono B2.out.size))
        clear hb3 B2 ht1 ht2
        go_wp2_with fail
        refine (comps6 Ab nb cb' Cb _ hb (HB.out.below B3.out) HBB.out).mono ?_
        rintro e w4 ⟨t4, rfl, hb4⟩
        have B4 := Lib.hid (B3.out.trans (hb4.mono B3.out.size))
        clear hb4 B3
        obtain ⟨tt, htt⟩ : ∃ tt, IntKind.i64.wrap (t3 + t4) = tt := ⟨_, rfl⟩
        by_cases ht3 : (1048576 : Int) < tt
        · go_wp2_with fail
          go_ret
          exact ⟨rfl, B4.out⟩
        · obtain ⟨i1, hi1, hy0, hy1, hy2⟩ := info_parts info27
          have hmk := run_make (P := Try.prog) w4 22 27 i1 _ Try.underlying22 hi1 hy0 .i64 .i64 0 ((na + nb : Nat) : Int) (by omega) (by omega) (by rw [hy2]; omega) (by omega)
          simp only [Int.toNat_natCast, hy1] at hmk
          rw [Int.natCast_add] at hmk
          have L0 := Lib.hid (show LA w (cat na Ca Cb) (cat na Xa Xb) 0 (.slice (some ⟨w4.heap.size, 0, none⟩) 0 (na + nb)) (w4.alloc (.cells (madeCells #[.int .u8 0, .int .u8 0, .int .u8 0, .slice none 0 0] ((na + nb) * 4)) 27)) from
            ⟨World.ownsRow_made w4 _ (na + nb) B4.out.size (by unfold maxLen; omega) (size_madeCells _ _), B4.out.alloc B4.out.size _⟩)
          go_wp2_with fail
          clear hmk
          generalize w4.alloc (.cells (madeCells #[.int .u8 0, .int .u8 0, .int .u8 0, .slice none 0 0] ((na + nb) * 4)) 27) = W5 at *
          go_loopw [5, 6] (fun v i wr => ∃ (k : Nat), k ≤ na ∧ i = .int .i64 k ∧ Hid (LA w (cat na Ca Cb) (cat na Xa Xb) k v wr)) (fun _ i _ => na - (intOf i).toNat)
          case atStart => exact ⟨0, Nat.zero_le _, rfl, L0⟩
          case round =>
            obtain ⟨k, hk, rfl, LL⟩ := hrel
            clear L0
            by_cases hlt : k < na
            · obtain ⟨h0, hu⟩ := HXA.out
              obtain ⟨b, o, hAe, hlb, hc⟩ := h0 (by omega)
              subst hAe
              obtain ⟨e0, e1, e2, e3⟩ := hc k hlt
              have f0 : wr.cell? ⟨b, o + k * 4, none⟩ = some (.int .u8 (Ca k).c) := by rw [LL.out.2.cell hlb]; exact e0
              have f1 : wr.cell? ⟨b, o + k * 4 + 1, none⟩ = some (.int .u8 (Ca k).t) := by rw [LL.out.2.cell hlb]; exact e1
              have f2 : wr.cell? ⟨b, o + k * 4 + 2, none⟩ = some (.int .u8 (Ca k).a) := by rw [LL.out.2.cell hlb]; exact e2
              have f3 : wr.cell? ⟨b, o + k * 4 + 3, none⟩ = some (Xa k) := by rw [LL.out.2.cell hlb]; exact e3
              have ec := Lib.hid (show cat na Ca Cb (k) = Ca k from if_pos hlt)
              have ex := Lib.hid (show cat na Xa Xb (k) = Xa k from if_pos hlt)
              have O1 := Lib.hid (hu k hlt).1
              obtain ⟨xa, xc, hxe, -⟩ := O1.out
              have HXE := Lib.hid hxe
              rw [hxe] at f3
              clear h0 hc hu e0 e1 e2 e3 hxe
              have q1 : (0 : Int) ≤ (k : Int) := by omega
              have q2 : (k : Int) < (na : Int) := by omega
              have HSW := Lib.hid (show w.heap.size ≤ wr.heap.size + 1 from Nat.le_succ_of_le LL.out.2.size)
              generalize hC1 : (Ca k).c = c1 at *
              generalize hC2 : (Ca k).t = c2 at *
              generalize hC3 : (Ca k).a = c3 at *
              have HC := Lib.hid (⟨hC1, hC2, hC3⟩ : _ ∧ _ ∧ _)
              clear hC1 hC2 hC3
              go_wp2_with (at_builtin; refine wpList_append_lies _ rfl _ _ _ rfl w.heap.size 27 i1 _ 4 32 Try.underlying22 hi1 hy0 hy1 hy2 rfl (by omega) u5 (k) (crs (cat na Ca Cb) (cat na Xa Xb) (k)) rfl (LL.out.1.alloc _) ⟨wr.heap.size, 0, none⟩ 1 1 [.int .u8 c1, .int .u8 c2, .int .u8 c3, .slice xa (Ca k).n xc] rfl rfl (World.news_of_block (heap_alloc_new wr _)) (one4 rfl) (by omega) (by unfold maxLen; omega) (by omega) (by simpa using HSW.out) (wr.heap.size + 1) (by simp) ?_; intro gg cap w10 hown1 hgrow hat hlt9; have LN := Lib.hid (LA.next LL.out (by rw [ec.out, ex.out, HC.out.1, HC.out.2.1, HC.out.2.2, HXE.out]; exact hown1) hgrow); clear hown1 hgrow hat hlt9)
              go_roundw
              case rel => exact ⟨k + 1, by omega, by go_num, LN⟩
              case measure => simp [intOf]; omega
            · obtain rfl : na = k := by omega
              go_wp2_with fail
              go_loopw [5, 7] (fun v i wr => ∃ (k : Nat), k ≤ nb ∧ i = .int .i64 k ∧ Hid (LA w (cat na Ca Cb) (cat na Xa Xb) (na + k) v wr)) (fun _ i _ => nb - (intOf i).toNat)
              case atStart => exact ⟨0, Nat.zero_le _, rfl, LL⟩
              case round =>
                clear LL
                obtain ⟨k, hk, rfl, LL⟩ := hrel
                by_cases hlt : k < nb
                · obtain ⟨h0, hu⟩ := HXB.out
                  obtain ⟨b, o, hAe, hlb, hc⟩ := h0 (by omega)
                  subst hAe
                  obtain ⟨e0, e1, e2, e3⟩ := hc k hlt
                  have f0 : wr.cell? ⟨b, o + k * 4, none⟩ = some (.int .u8 (Cb k).c) := by rw [LL.out.2.cell hlb]; exact e0
                  have f1 : wr.cell? ⟨b, o + k * 4 + 1, none⟩ = some (.int .u8 (Cb k).t) := by rw [LL.out.2.cell hlb]; exact e1
                  have f2 : wr.cell? ⟨b, o + k * 4 + 2, none⟩ = some (.int .u8 (Cb k).a) := by rw [LL.out.2.cell hlb]; exact e2
                  have f3 : wr.cell? ⟨b, o + k * 4 + 3, none⟩ = some (Xb k) := by rw [LL.out.2.cell hlb]; exact e3
                  have ec := Lib.hid (show cat na Ca Cb (na + k) = Cb k from by unfold cat; rw [if_neg (by omega), Nat.add_sub_cancel_left])
                  have ex := Lib.hid (show cat na Xa Xb (na + k) = Xb k from by unfold cat; rw [if_neg (by omega), Nat.add_sub_cancel_left])
                  have O1 := Lib.hid (hu k hlt).1
                  obtain ⟨xa, xc, hxe, -⟩ := O1.out
                  have HXE := Lib.hid hxe
                  rw [hxe] at f3
                  clear h0 hc hu e0 e1 e2 e3 hxe
                  have q1 : (0 : Int) ≤ (k : Int) := by omega
                  have q2 : (k : Int) < (nb : Int) := by omega
                  have HSW := Lib.hid (show w.heap.size ≤ wr.heap.size + 1 from Nat.le_succ_of_le LL.out.2.size)
                  generalize hC1 : (Cb k).c = c1 at *
                  generalize hC2 : (Cb k).t = c2 at *
                  generalize hC3 : (Cb k).a = c3 at *
                  have HC := Lib.hid (⟨hC1, hC2, hC3⟩ : _ ∧ _ ∧ _)
                  clear hC1 hC2 hC3
                  go_wp2_with (at_builtin; refine wpList_append_lies _ rfl _ _ _ rfl w.heap.size 27 i1 _ 4 32 Try.underlying22 hi1 hy0 hy1 hy2 rfl (by omega) u5 (na + k) (crs (cat na Ca Cb) (cat na Xa Xb) (na + k)) rfl (LL.out.1.alloc _) ⟨wr.heap.size, 0, none⟩ 1 1 [.int .u8 c1, .int .u8 c2, .int .u8 c3, .slice xa (Cb k).n xc] rfl rfl (World.news_of_block (heap_alloc_new wr _)) (one4 rfl) (by omega) (by unfold maxLen; omega) (by omega) (by simpa using HSW.out) (wr.heap.size + 1) (by simp) ?_; intro gg cap w10 hown1 hgrow hat hlt9; have LN := Lib.hid (LA.next LL.out (by rw [ec.out, ex.out, HC.out.1, HC.out.2.1, HC.out.2.2, HXE.out]; exact hown1) hgrow); clear hown1 hgrow hat hlt9)
                  go_roundw
                  case rel => exact ⟨k + 1, by omega, by go_num, LN⟩
                  case measure => simp [intOf]; omega
                · obtain rfl : nb = k := by omega
                  have BB := Lib.hid LL.out.2
                  have CVV := Lib.hid (LL.out.cv (fun i hi => by
                    unfold cat
                    by_cases h : i < na
                    · rw [if_pos h, if_pos h]; exact HXA.out.2 i h
                    · rw [if_neg h, if_neg h]; exact HXB.out.2 _ (by omega)))
                  have BCC := Lib.hid (show ∀ i, i < na + nb → BC (cat na Ca Cb i) from fun i hi => by
                    unfold cat
                    by_cases h : i < na
                    · rw [if_pos h]; exact HBA.out i h
                    · rw [if_neg h]; exact HBB.out _ (by omega))
                  obtain ⟨va, vl, vc, rfl⟩ : ∃ a l c, u5 = Value.slice a l c := own_form LL.out.1
                  obtain rfl : vl = na + nb := by
                    obtain ⟨A9, c9, h9, -⟩ := CVV.out
                    simp only [Value.slice.injEq] at h9
                    exact h9.2.1
                  clear LL
                  have HH := Lib.hid (Has_cat na nb Ca Cb)
                  go_wp2_with fail
                  refine (complex8 va (na + nb) vc (cat na Ca Cb) _ (by omega) CVV.out BCC.out).mono ?_
                  rintro e w5 ⟨v8, rfl, hcl, hb5⟩
                  have CL := Lib.hid hcl
                  have B5 := Lib.hid (BB.out.trans (hb5.mono BB.out.size))
                  clear hcl hb5 BB CVV
                  go_wp2_with fail
                  refine (contains7 v8 _ (na + nb) _ _ (by omega) CL.out BCC.out).mono ?_
                  rintro e w6 ⟨b1, rfl, hb1, hb6⟩
                  have HB1 := Lib.hid hb1
                  have B6 := Lib.hid (B5.out.trans (hb6.mono B5.out.size))
                  clear hb1 hb6 B5 CL
                  go_wp2_with fail
                  refine (complex8 Aa na ca Ca _ (by omega) (HA.out.below B6.out) HBA.out).mono ?_
                  rintro e w7 ⟨v7, rfl, hcl, hb7⟩
                  have CL := Lib.hid hcl
                  have B7 := Lib.hid (B6.out.trans (hb7.mono B6.out.size))
                  clear hcl hb7 B6
                  go_wp2_with fail
                  refine (contains7 v7 _ na _ _ (by omega) CL.out HBA.out).mono ?_
                  rintro e w8 ⟨b2, rfl, hb2, hb8⟩
                  have HB2 := Lib.hid hb2
                  have B8 := Lib.hid (B7.out.trans (hb8.mono B7.out.size))
                  clear hb2 hb8 B7 CL
                  cases b2 with
                  | true =>
                    obtain rfl : b1 = true := HB1.out.2 (HH.out.2 (.inl (HB2.out.1 rfl)))
                    go_wp2_with fail
                    go_ret
                    exact ⟨rfl, B8.out⟩
                  | false =>
                    go_wp2_with fail
                    refine (complex8 Ab nb cb' Cb _ (by omega) (HB.out.below B8.out) HBB.out).mono ?_
                    rintro e w9 ⟨v9, rfl, hcl, hb9⟩
                    have CL := Lib.hid hcl
                    have B9 := Lib.hid (B8.out.trans (hb9.mono B8.out.size))
                    clear hcl hb9 B8
                    go_wp2_with fail
                    refine (contains7 v9 _ nb _ _ (by omega) CL.out HBB.out).mono ?_
                    rintro e w10 ⟨b3, rfl, hb3, hb10⟩
                    obtain rfl : b1 = b3 := by
                      have h1 := HB1.out
                      have h2 := HB2.out
                      have h3 := hb3
                      have h := HH.out
                      cases b1 <;> cases b3
                      · rfl
                      · exact absurd (h1.2 (h.2 (.inr (h3.1 rfl)))) (by decide)
                      · rcases h.1 (h1.1 rfl) with q | q
                        · exact absurd (h2.2 q) (by decide)
                        · exact absurd (h3.2 q) (by decide)
                      · rfl
                    have B10 := Lib.hid (B9.out.trans (hb10.mono B9.out.size))
                    clear hb3 hb10 CL HB1 HB2
                    cases b1
                    · go_wp2_with fail
                      go_ret
                      exact ⟨rfl, B10.out⟩
                    · go_wp2_with fail
                      go_ret
                      exact ⟨rfl, B10.out⟩
end Go.Proofs.Ytdonfahjcejhpaa.MG

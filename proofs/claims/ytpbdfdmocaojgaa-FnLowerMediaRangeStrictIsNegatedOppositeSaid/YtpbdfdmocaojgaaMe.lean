/- FnLowerMediaRangeStrictIsNegatedOpposite: the walk. -/
import Derived.Test.YtpbdfdmocaojgaaMd
namespace Go.Proofs.Ytpbdfdmocaojgaa.MA
open Go.RowKit Go.Proofs.Ytpbdfdmocaojgaa.TB
set_option linter.unusedVariables false
set_option maxRecDepth 100000 in
set_option maxHeartbeats 4000000 in
theorem law3 (st : Int) (nm : ByteArray) (A : Option Addr) (n c : Nat) (T : Nat → ByteArray) (w : World) (hst : (Lit.int .i32 st).wf = true) (hs : nm.size ≤ maxLen) (r : SR w A n T) (hA : A = none → n = 0) (hn : n ≤ maxLen) (hT : ∀ i, i < n → (T i).size ≤ maxLen) :
    Calls Try.prog 3 #[.int .i32 st, .string nm, .slice A n c] w fun e w' => e = .returned (.bool true) ∧ Below w.heap.size w w' := by
  have H5 := Lib.hid (bytes5 st nm A n c T w r hn hs hT)
  have R := Lib.hid r
  have HA := Lib.hid hA
  unfold maxLen at hn hs
  clear r hA hT hst
  go_enter Try.func3, Try.ntmps3
  go_wp2_with fail
  refine H5.out.mono ?_
  rintro e w' ⟨b1, hb1, rfl, rfl⟩
  clear H5
  cases b1
  · clear hb1
    go_wp2_with fail
    go_ret
    exact ⟨rfl, Below.refl _ _⟩
  obtain ⟨hn1, hT1⟩ := hb1 rfl
  have HT := Lib.hid hT1
  clear hb1 hT1
  by_cases h1 : nm.size ≤ 1048576
  · have g1 : decide (1048576 < nm.size) = false := by rw [decide_eq_false_iff_not]; omega
    have g1' : decide ((1048576 : Int) < (nm.size : Int)) = false := by rw [decide_eq_false_iff_not]; omega
    by_cases h2 : n ≤ 131072
    · have g2 : decide (131072 < n) = false := by rw [decide_eq_false_iff_not]; omega
      have g2' : decide ((131072 : Int) < (n : Int)) = false := by rw [decide_eq_false_iff_not]; omega
      go_wp2_with fail
      refine (textBytes A n c T w R.out h2 HT.out).mono ?_
      rintro e w' ⟨N, ⟨hN0, hN1⟩, rfl, rfl⟩
      by_cases hN : 1048576 < (nm.size : Int) + N
      · go_wp2_with fail
        go_ret
        exact ⟨rfl, Below.refl _ _⟩
      go_wp2_with fail
      refine (idents A n c T w R.out HA.out h2).mono ?_
      rintro e w1 ⟨A1, c1, rfl, hr1, ha1, hb1⟩
      have R1 := Lib.hid hr1
      have HA1 := Lib.hid ha1
      have B1 := Lib.hid hb1
      clear hr1 ha1 hb1 R HA HT
      have h1' := h1
      have HX : Hid (Blk (w1.alloc (.cells #[.int .i32 st] 28)) w1.heap.size 28 #[.int .i32 st]) := Lib.hid (Blk.new _ _ _)
      have B2 := Lib.hid (B1.out.alloc B1.out.size (.cells #[.int .i32 st] 28))
      have R2 := Lib.hid (R1.out.below ((Below.refl w1.heap.size w1).alloc (Nat.le_refl _) (.cells #[.int .i32 st] 28)))
      go_upto_region 9 with (fail)
      generalize w1.alloc (.cells #[.int .i32 st] 28) = V0 at *
      generalize w1.heap.size = a8 at *
      clear B1 R1
      have x8p := HX.out.cell 0
      simp only [List.getElem?_toArray, List.getElem?_cons_zero] at x8p
      go_wp2_with fail
      refine (zz2 st nm A1 n c1 V0 h1').mono ?_
      rintro e up ⟨gp, kp, rfl, h1, h2, hb⟩
      have HXp := Lib.hid ((HX.out.below hb HX.out.lt).alloc (.cells #[.int .i32 st, .iface 62 (.pointer (some ⟨kp, 0, none⟩))] 32))
      have N1p := Lib.hid (h1.alloc (.cells #[.int .i32 st, .iface 62 (.pointer (some ⟨kp, 0, none⟩))] 32))
      have N2p := Lib.hid (h2.alloc (.cells #[.int .i32 st, .iface 62 (.pointer (some ⟨kp, 0, none⟩))] 32))
      have NBp : Hid (Blk (up.alloc (.cells #[.int .i32 st, .iface 62 (.pointer (some ⟨kp, 0, none⟩))] 32)) up.heap.size 32 #[.int .i32 st, .iface 62 (.pointer (some ⟨kp, 0, none⟩))]) := Lib.hid (Blk.new _ _ _)
      have B2p := Lib.hid ((B2.out.trans (hb.mono B2.out.size)).alloc (B2.out.trans (hb.mono B2.out.size)).size (.cells #[.int .i32 st, .iface 62 (.pointer (some ⟨kp, 0, none⟩))] 32))
      have R2p := Lib.hid ((R2.out.below hb).below ((Below.refl up.heap.size up).alloc (Nat.le_refl _) (.cells #[.int .i32 st, .iface 62 (.pointer (some ⟨kp, 0, none⟩))] 32)))
      clear hb h1 h2 HX B2 R2 x8p
      go_upto_region 10 with (fail)
      generalize up.alloc (.cells #[.int .i32 st, .iface 62 (.pointer (some ⟨kp, 0, none⟩))] 32) = V1 at *
      generalize up.heap.size = bp at *
      have x8q := HXp.out.cell 0
      simp only [List.getElem?_toArray, List.getElem?_cons_zero] at x8q
      go_wp2_with fail
      refine (zz5 st nm A1 n c1 V1 h1').mono ?_
      rintro e uq ⟨gq, rfl, h1, hb⟩
      have HXpq := Lib.hid ((HXp.out.below hb HXp.out.lt).alloc (.cells #[.int .i32 st, .iface 39 (.pointer (some ⟨gq, 0, none⟩))] 32))
      have N1pq := Lib.hid ((N1p.out.below hb N1p.out.lt).alloc (.cells #[.int .i32 st, .iface 39 (.pointer (some ⟨gq, 0, none⟩))] 32))
      have N2pq := Lib.hid ((N2p.out.below hb N2p.out.lt).alloc (.cells #[.int .i32 st, .iface 39 (.pointer (some ⟨gq, 0, none⟩))] 32))
      have NBpq := Lib.hid ((NBp.out.below hb NBp.out.lt).alloc (.cells #[.int .i32 st, .iface 39 (.pointer (some ⟨gq, 0, none⟩))] 32))
      have N1q := Lib.hid (h1.alloc (.cells #[.int .i32 st, .iface 39 (.pointer (some ⟨gq, 0, none⟩))] 32))
      have NBq : Hid (Blk (uq.alloc (.cells #[.int .i32 st, .iface 39 (.pointer (some ⟨gq, 0, none⟩))] 32)) uq.heap.size 32 #[.int .i32 st, .iface 39 (.pointer (some ⟨gq, 0, none⟩))]) := Lib.hid (Blk.new _ _ _)
      have B2pq := Lib.hid ((B2p.out.trans (hb.mono B2p.out.size)).alloc (B2p.out.trans (hb.mono B2p.out.size)).size (.cells #[.int .i32 st, .iface 39 (.pointer (some ⟨gq, 0, none⟩))] 32))
      have R2pq := Lib.hid ((R2p.out.below hb).below ((Below.refl uq.heap.size uq).alloc (Nat.le_refl _) (.cells #[.int .i32 st, .iface 39 (.pointer (some ⟨gq, 0, none⟩))] 32)))
      clear hb h1  HXp N1p N2p NBp B2p R2p x8q
      go_upto_region 11 with (fail)
      generalize uq.alloc (.cells #[.int .i32 st, .iface 39 (.pointer (some ⟨gq, 0, none⟩))] 32) = V2 at *
      generalize uq.heap.size = bq at *
      have x8r := HXpq.out.cell 0
      simp only [List.getElem?_toArray, List.getElem?_cons_zero] at x8r
      go_wp2_with fail
      refine (zz4 st nm A1 n c1 V2 h1').mono ?_
      rintro e ur ⟨gr, kr, rfl, h1, h2, hb⟩
      have HXpqr := Lib.hid ((HXpq.out.below hb HXpq.out.lt).alloc (.cells #[.int .i32 st, .iface 62 (.pointer (some ⟨kr, 0, none⟩))] 32))
      have N1pqr := Lib.hid ((N1pq.out.below hb N1pq.out.lt).alloc (.cells #[.int .i32 st, .iface 62 (.pointer (some ⟨kr, 0, none⟩))] 32))
      have N2pqr := Lib.hid ((N2pq.out.below hb N2pq.out.lt).alloc (.cells #[.int .i32 st, .iface 62 (.pointer (some ⟨kr, 0, none⟩))] 32))
      have NBpqr := Lib.hid ((NBpq.out.below hb NBpq.out.lt).alloc (.cells #[.int .i32 st, .iface 62 (.pointer (some ⟨kr, 0, none⟩))] 32))
      have N1qr := Lib.hid ((N1q.out.below hb N1q.out.lt).alloc (.cells #[.int .i32 st, .iface 62 (.pointer (some ⟨kr, 0, none⟩))] 32))
      have NBqr := Lib.hid ((NBq.out.below hb NBq.out.lt).alloc (.cells #[.int .i32 st, .iface 62 (.pointer (some ⟨kr, 0, none⟩))] 32))
      have N1r := Lib.hid (h1.alloc (.cells #[.int .i32 st, .iface 62 (.pointer (some ⟨kr, 0, none⟩))] 32))
      have N2r := Lib.hid (h2.alloc (.cells #[.int .i32 st, .iface 62 (.pointer (some ⟨kr, 0, none⟩))] 32))
      have NBr : Hid (Blk (ur.alloc (.cells #[.int .i32 st, .iface 62 (.pointer (some ⟨kr, 0, none⟩))] 32)) ur.heap.size 32 #[.int .i32 st, .iface 62 (.pointer (some ⟨kr, 0, none⟩))]) := Lib.hid (Blk.new _ _ _)
      have B2pqr := Lib.hid ((B2pq.out.trans (hb.mono B2pq.out.size)).alloc (B2pq.out.trans (hb.mono B2pq.out.size)).size (.cells #[.int .i32 st, .iface 62 (.pointer (some ⟨kr, 0, none⟩))] 32))
      have R2pqr := Lib.hid ((R2pq.out.below hb).below ((Below.refl ur.heap.size ur).alloc (Nat.le_refl _) (.cells #[.int .i32 st, .iface 62 (.pointer (some ⟨kr, 0, none⟩))] 32)))
      clear hb h1 h2 HXpq N1pq N2pq NBpq N1q NBq B2pq R2pq x8r
      go_upto_region 12 with (fail)
      generalize ur.alloc (.cells #[.int .i32 st, .iface 62 (.pointer (some ⟨kr, 0, none⟩))] 32) = V3 at *
      generalize ur.heap.size = br at *
      have x8s := HXpqr.out.cell 0
      simp only [List.getElem?_toArray, List.getElem?_cons_zero] at x8s
      go_wp2_with fail
      refine (zz3 st nm A1 n c1 V3 h1').mono ?_
      rintro e us ⟨gs, rfl, h1, hb⟩
      have HXpqrs := Lib.hid ((HXpqr.out.below hb HXpqr.out.lt).alloc (.cells #[.int .i32 st, .iface 39 (.pointer (some ⟨gs, 0, none⟩))] 32))
      have N1pqrs := Lib.hid ((N1pqr.out.below hb N1pqr.out.lt).alloc (.cells #[.int .i32 st, .iface 39 (.pointer (some ⟨gs, 0, none⟩))] 32))
      have N2pqrs := Lib.hid ((N2pqr.out.below hb N2pqr.out.lt).alloc (.cells #[.int .i32 st, .iface 39 (.pointer (some ⟨gs, 0, none⟩))] 32))
      have NBpqrs := Lib.hid ((NBpqr.out.below hb NBpqr.out.lt).alloc (.cells #[.int .i32 st, .iface 39 (.pointer (some ⟨gs, 0, none⟩))] 32))
      have N1qrs := Lib.hid ((N1qr.out.below hb N1qr.out.lt).alloc (.cells #[.int .i32 st, .iface 39 (.pointer (some ⟨gs, 0, none⟩))] 32))
      have NBqrs := Lib.hid ((NBqr.out.below hb NBqr.out.lt).alloc (.cells #[.int .i32 st, .iface 39 (.pointer (some ⟨gs, 0, none⟩))] 32))
      have N1rs := Lib.hid ((N1r.out.below hb N1r.out.lt).alloc (.cells #[.int .i32 st, .iface 39 (.pointer (some ⟨gs, 0, none⟩))] 32))
      have N2rs := Lib.hid ((N2r.out.below hb N2r.out.lt).alloc (.cells #[.int .i32 st, .iface 39 (.pointer (some ⟨gs, 0, none⟩))] 32))
      have NBrs := Lib.hid ((NBr.out.below hb NBr.out.lt).alloc (.cells #[.int .i32 st, .iface 39 (.pointer (some ⟨gs, 0, none⟩))] 32))
      have N1s := Lib.hid (h1.alloc (.cells #[.int .i32 st, .iface 39 (.pointer (some ⟨gs, 0, none⟩))] 32))
      have NBs : Hid (Blk (us.alloc (.cells #[.int .i32 st, .iface 39 (.pointer (some ⟨gs, 0, none⟩))] 32)) us.heap.size 32 #[.int .i32 st, .iface 39 (.pointer (some ⟨gs, 0, none⟩))]) := Lib.hid (Blk.new _ _ _)
      have B2pqrs := Lib.hid ((B2pqr.out.trans (hb.mono B2pqr.out.size)).alloc (B2pqr.out.trans (hb.mono B2pqr.out.size)).size (.cells #[.int .i32 st, .iface 39 (.pointer (some ⟨gs, 0, none⟩))] 32))
      have R2pqrs := Lib.hid ((R2pqr.out.below hb).below ((Below.refl us.heap.size us).alloc (Nat.le_refl _) (.cells #[.int .i32 st, .iface 39 (.pointer (some ⟨gs, 0, none⟩))] 32)))
      clear hb h1  HXpqr N1pqr N2pqr NBpqr N1qr NBqr N1r N2r NBr B2pqr R2pqr x8s
      go_upto_region 13 with (fail)
      generalize us.alloc (.cells #[.int .i32 st, .iface 39 (.pointer (some ⟨gs, 0, none⟩))] 32) = V4 at *
      generalize us.heap.size = bs at *
      have cp0 := NBpqrs.out.cell 0
      have cp1 := NBpqrs.out.cell 1
      simp only [List.getElem?_toArray, List.getElem?_cons_zero, List.getElem?_cons_succ] at cp0 cp1
      have cq0 := NBqrs.out.cell 0
      have cq1 := NBqrs.out.cell 1
      simp only [List.getElem?_toArray, List.getElem?_cons_zero, List.getElem?_cons_succ] at cq0 cq1
      go_wp2_with fail
      refine (notOf st gp kp gq (minS ++ nm) A1 n c1 _ T _ V4 R2pqrs.out HA1.out h2 N1pqrs.out N2pqrs.out N1qrs.out).mono ?_
      rintro e v5 ⟨rfl, hb⟩
      have HXpqrse := Lib.hid (HXpqrs.out.below hb HXpqrs.out.lt)
      have N1pqrse := Lib.hid (N1pqrs.out.below hb N1pqrs.out.lt)
      have N2pqrse := Lib.hid (N2pqrs.out.below hb N2pqrs.out.lt)
      have NBpqrse := Lib.hid (NBpqrs.out.below hb NBpqrs.out.lt)
      have N1qrse := Lib.hid (N1qrs.out.below hb N1qrs.out.lt)
      have NBqrse := Lib.hid (NBqrs.out.below hb NBqrs.out.lt)
      have N1rse := Lib.hid (N1rs.out.below hb N1rs.out.lt)
      have N2rse := Lib.hid (N2rs.out.below hb N2rs.out.lt)
      have NBrse := Lib.hid (NBrs.out.below hb NBrs.out.lt)
      have N1se := Lib.hid (N1s.out.below hb N1s.out.lt)
      have NBse := Lib.hid (NBs.out.below hb NBs.out.lt)
      have B2pqrse := Lib.hid (B2pqrs.out.trans (hb.mono B2pqrs.out.size))
      have R2pqrse := Lib.hid (R2pqrs.out.below hb)
      clear hb cp0 cp1 cq0 cq1 HXpqrs N1pqrs N2pqrs NBpqrs N1qrs NBqrs N1rs N2rs NBrs N1s NBs B2pqrs R2pqrs
      have cr0 := NBrse.out.cell 0
      have cr1 := NBrse.out.cell 1
      simp only [List.getElem?_toArray, List.getElem?_cons_zero, List.getElem?_cons_succ] at cr0 cr1
      have cs0 := NBse.out.cell 0
      have cs1 := NBse.out.cell 1
      simp only [List.getElem?_toArray, List.getElem?_cons_zero, List.getElem?_cons_succ] at cs0 cs1
      go_wp2_with fail
      refine (notOf st gr kr gs (maxS ++ nm) A1 n c1 _ T _ v5 R2pqrse.out HA1.out h2 N1rse.out N2rse.out N1se.out).mono ?_
      rintro e v6 ⟨rfl, hb⟩
      have BF := Lib.hid (B2pqrse.out.trans (hb.mono B2pqrse.out.size))
      clear hb cr0 cr1 cs0 cs1
      go_wp2_with fail
      go_ret
      exact ⟨rfl, BF.out⟩
    · go_wp2_with fail
      go_ret
      exact ⟨rfl, Below.refl _ _⟩
  · go_wp2_with fail
    go_ret
    exact ⟨rfl, Below.refl _ _⟩
end Go.Proofs.Ytpbdfdmocaojgaa.MA

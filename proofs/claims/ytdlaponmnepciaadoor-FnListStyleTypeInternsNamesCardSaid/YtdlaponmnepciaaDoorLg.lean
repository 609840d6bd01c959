/- FnListStyleTypeInternsNames: the walk. -/
import Derived.Test.YtdlaponmnepciaaDoorLe
namespace Go.Proofs.YtdlaponmnepciaaDoor.WA
open Go Go.RowKit Go.Lib Go.Proofs.YtdlaponmnepciaaDoor.MP Go.Proofs.YtdlaponmnepciaaDoor.SY Go.Proofs.YtdlaponmnepciaaDoor.LO Go.Proofs.YtdlaponmnepciaaDoor.TB Go.Proofs.YtdlaponmnepciaaDoor.OW
set_option linter.unusedVariables false
set_option maxRecDepth 100000 in
set_option maxHeartbeats 8000000 in
theorem law4_ne (a b : ByteArray) (ml : Bool) (w : World) (HT : Hid (Tabs w)) (H5 : Hid (Calls Tryd.prog 14 #[.string a, .string b, .bool ml] w (SomeBool w))) (ha2 : a.size ≤ 1048576) (hb2 : b.size ≤ 1048576) (hab2 : a.size + b.size ≤ 1048576) (hca : cust a = true) (hcb : cust b = true) (hab : ¬ a = b) :
    Calls Tryd.prog 4 #[.string a, .string b, .bool ml] w (Yes w) := by
  have hbT := bldT
  have HN := Lib.hid (fun w1 h => newp_later ml w w1 HT.out h)
  have HCa := Lib.hid (fun w => isCust a w ha2)
  have HCb := Lib.hid (fun w => isCust b w hb2)
  have HLa := Lib.hid (fun w1 tb pb mb L n pay (hS : St w w1 pb mb ml L) (hB : TokB w1 tb a pay 29) hn hn2 htb => zz8 w w1 tb pb mb ml _ a _ 39 (lst_id w w1 tb pb mb ml L a pay n HT.out ha2 hS hB hn hn2 hca htb))
  have HLb := Lib.hid (fun w1 tb pb mb L n pay (hS : St w w1 pb mb ml L) (hB : TokB w1 tb b pay 29) hn hn2 htb => zz8 w w1 tb pb mb ml _ b _ 39 (lst_id w w1 tb pb mb ml L b pay n HT.out hb2 hS hB hn hn2 hcb htb))
  have HLn := Lib.hid (fun w1 tb pb mb L s pay (hS : St w w1 pb mb ml L) (hB : TokB w1 tb s pay 39) => zz8 w w1 tb pb mb ml _ s _ 39 (lst_no w w1 tb pb mb ml L s pay 39 hS hB rfl))
  rw [hca] at HCa
  rw [hcb] at HCb
  clear hca hcb
  have h1 : spot (tick [] a) b = 1 := by simp [SY.tick, spot, hab]
  have h2 : spot (tick (tick [] a) b) a = 0 := by simp [SY.tick, spot, hab]
  have h3 : tick (tick (tick [] a) b) a = [⟨a, 0, 2⟩, ⟨b, 0, 1⟩] := by simp [SY.tick, hab]
  have e0 : (a.toList == b.toList) = false := beq_eq_false_iff_ne.2 (fun h => hab (by
    rw [Lib.toList_data, Lib.toList_data] at h
    cases a; cases b; simp at h; simpa using h))
  clear hab
  go_enter Tryd.func4, Tryd.ntmps4
  go_wp2_with fail
  refine H5.out.mono ?_
  rintro e w' ⟨b1, rfl, rfl⟩
  cases b1
  · go_wp2_with fail
    go_ret
    exact ⟨rfl, Below.refl _ _⟩
  go_wp2_with fail
  refine (HCa.out _).mono ?_
  rintro e wa ⟨rfl, hba⟩
  have BA := Lib.hid hba
  clear hba
  go_wp2_with fail
  refine (HCb.out _).mono ?_
  rintro e wb ⟨rfl, hbb⟩
  have BB := Lib.hid (BA.out.trans (hbb.mono BA.out.size))
  clear hbb BA
  go_wp2_with fail
  refine (HN.out _ BB.out).mono ?_
  intro e w1 hN
  obtain ⟨pb, mb, rfl, hS⟩ := newp_st_later BB.out hN
  have S1 := Lib.hid hS
  clear hN hS HN H5 BB
  go_wp2_with fail
  have S3 := Lib.hid (st_alloc (st_alloc (st_alloc S1.out (.cells (tokc a 99 29) 34)) (.cells (tokc b 99 29) 34)) (.cells (tokc a 99 29) 34))
  have A3 := Lib.hid (tokB_alloc (tokB_alloc (tokB_new w1 a 99 29) (.cells (tokc b 99 29) 34)) (.cells (tokc a 99 29) 34))
  have B3 := tokB_alloc (tokB_new (w1.alloc (.cells (tokc a 99 29) 34)) b 99 29) (.cells (tokc a 99 29) 34)
  have C3 := tokB_new ((w1.alloc (.cells (tokc a 99 29) 34)).alloc (.cells (tokc b 99 29) 34)) a 99 29
  have z1 : (w1.alloc (.cells (tokc a 99 29) 34)).heap.size = w1.heap.size + 1 := by simp
  have z2 : ((w1.alloc (.cells (tokc a 99 29) 34)).alloc (.cells (tokc b 99 29) 34)).heap.size = w1.heap.size + 1 + 1 := by simp
  rw [z1] at B3
  rw [z2] at C3
  have B3 := Lib.hid B3
  have C3 := Lib.hid C3
  have hsz := st_size S1.out
  unfold tokc at S3 A3 B3 C3
  clear z1 z2 S1
  generalize ((w1.alloc (.cells _ 34)).alloc (.cells _ 34)).alloc (.cells _ 34) = W3 at *
  generalize w1.heap.size = t1 at *
  refine (HLa.out _ _ pb mb [] 0 99 S3.out A3.out Small.nil (by decide) hsz).mono ?_
  rintro e W4 ⟨rfl, hS, hA, hO⟩
  have S4 := Lib.hid hS
  have A4 : Hid (TokB W4 t1 a 0 39) := Lib.hid hA
  have B4 := Lib.hid (B3.out.oth hO (by omega))
  have C4 := Lib.hid (C3.out.oth hO (by omega))
  clear hS hA hO S3 A3 B3 C3
  go_wp2_with fail
  refine (HLb.out _ _ pb mb _ 1 99 S4.out B4.out (Small.nil.tick a) (by decide) (by omega)).mono ?_
  rintro e W5 ⟨rfl, hS, hB, hO⟩
  have S5 := Lib.hid hS
  have A5 := Lib.hid (A4.out.oth hO (by omega))
  have B5 : Hid (TokB W5 (t1 + 1) b 1 39) := by rw [h1] at hB; exact Lib.hid hB
  have C5 := Lib.hid (C4.out.oth hO (by omega))
  clear hS hB hO S4 A4 B4 C4
  go_wp2_with fail
  refine (HLa.out _ _ pb mb _ 2 99 S5.out C5.out ((Small.nil.tick a).tick b) (by decide) (by omega)).mono ?_
  rintro e W6 ⟨rfl, hS, hC, hO⟩
  have S6 : Hid (St w W6 pb mb ml [⟨a, 0, 2⟩, ⟨b, 0, 1⟩]) := by rw [h3] at hS; exact Lib.hid hS
  have A6 := Lib.hid (A5.out.oth hO (by omega))
  have B6 := Lib.hid (B5.out.oth hO (by omega))
  have C6 : Hid (TokB W6 (t1 + 1 + 1) a 0 39) := by rw [h2] at hC; exact Lib.hid hC
  clear hS hC hO S5 A5 B5 C5
  go_wp2_with fail
  refine (HLn.out _ _ pb mb _ a _ S6.out A6.out).mono ?_
  rintro e W7 ⟨rfl, hS, hA, hO⟩
  have S7 := Lib.hid hS
  have A7 := Lib.hid hA
  have B7 := Lib.hid (B6.out.oth hO (by omega))
  have C7 := Lib.hid (C6.out.oth hO (by omega))
  clear hS hA hO S6 A6 B6 C6
  have x1 := A7.out.c1
  have x3 := A7.out.c3
  have x5 := A7.out.c5
  have y1 := B7.out.c1
  have y3 := B7.out.c3
  have y5 := B7.out.c5
  have v1 := C7.out.c1
  have v3 := C7.out.c3
  have v5 := C7.out.c5
  obtain ⟨z, hz⟩ : ∃ z : Int, (if ml then (2 : Int) else 0) = z := ⟨_, rfl⟩
  have HW := Lib.hid (fun w => want13 ml 2 w)
  rw [hz] at HW
  have HQ : Hid (Calls Tryd.prog 10 #[.pointer (some ⟨pb, 0, none⟩)] W7 (IntIs 2 W7)) := Lib.hid (symN_st S7.out)
  have HR : Hid (Calls Tryd.prog 12 #[.pointer (some ⟨pb, 0, none⟩)] W7 (IntIs z W7)) := by rw [← hz]; exact Lib.hid (locN_st S7.out)
  have HM : Hid (Calls Tryd.prog 11 #[.pointer (some ⟨pb, 0, none⟩), .int .i64 0] W7 (StrIs a W7)) := Lib.hid (name_st S7.out 0 _ rfl (by simp))
  have HM2 : Hid (Calls Tryd.prog 11 #[.pointer (some ⟨pb, 0, none⟩), .int .i64 1] W7 (StrIs b W7)) := Lib.hid (name_st S7.out 1 _ rfl (by simp))
  clear hz h1 h2 h3
  go_wp2_with (first
    | (go_at_call 10; refine HQ.out.mono ?_; rintro e w4 ⟨rfl, rfl⟩)
    | (go_at_call 11; (first | with_reducible refine HM.out.mono ?_ | with_reducible refine HM2.out.mono ?_); rintro e w4 ⟨rfl, rfl⟩)
    | (go_at_call 12; refine HR.out.mono ?_; rintro e w4 ⟨rfl, rfl⟩)
    | (go_at_call 13; refine (HW.out _).mono ?_; rintro e w4 ⟨rfl, rfl⟩))
  go_ret
  exact ⟨rfl, S7.out.bel⟩
end Go.Proofs.YtdlaponmnepciaaDoor.WA

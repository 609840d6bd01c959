/- FnListStyleTypeExact: the walk. -/
import Derived.Test.YtdlaponmnepciaaDoorLc
namespace Go.Proofs.YtdlaponmnepciaaDoor.WA
open Go Go.RowKit Go.Lib Go.Proofs.YtdlaponmnepciaaDoor.MP Go.Proofs.YtdlaponmnepciaaDoor.SY Go.Proofs.YtdlaponmnepciaaDoor.LO Go.Proofs.YtdlaponmnepciaaDoor.TB Go.Proofs.YtdlaponmnepciaaDoor.OW
set_option linter.unusedVariables false
theorem bldT (k pay : Int) (s : ByteArray) (w : World) : (Instr.build 34 #[(5, .int .u8 k), (1, .string s), (3, .int .u32 pay)]).run Tryd.prog w = .ok (.agg (tokc s pay k)) w := run_build w 34 _ _ (by kernel_rfl)
theorem newp_st {W0 : World} {ml : Bool} {e : Ending} {w' : World} (h : NewP ml W0 W0.heap.size e w') : ∃ pb mb, e = .returned (.pointer (some ⟨pb, 0, none⟩)) ∧ St W0 w' pb mb ml [] := by
  obtain ⟨pb, mb, f, rfl, P, hb, -, -⟩ := h
  exact ⟨pb, mb, rfl, ⟨⟨f, _, _, by cases ml <;> exact P⟩, hb⟩⟩
theorem newp_any (ml : Bool) (W0 : World) (hT : Tabs W0) : Calls Tryd.prog 6 #[.bool ml] W0 (NewP ml W0 W0.heap.size) :=
  newp ml W0 W0.heap.size hT.2.2.2.2.2.1 hT.2.2.2.2.2.2 hT.2.2.2.2.1 (Nat.le_refl _)
theorem tokB_new (w : World) (s : ByteArray) (pay k : Int) : TokB (w.alloc (.cells (tokc s pay k) 34)) w.heap.size s pay k := heap_alloc_new w _
theorem st_alloc {W0 w : World} {pb mb : Nat} {ml : Bool} {L : List Ent} (h : St W0 w pb mb ml L) (o : Obj) : St W0 (w.alloc o) pb mb ml L := PS.st_below h ((Below.refl _ _).alloc (Nat.le_refl _) o)
theorem st_size {W0 w : World} {pb mb : Nat} {ml : Bool} {L : List Ent} (h : St W0 w pb mb ml L) : W0.heap.size ≤ w.heap.size := h.bel.size
theorem symN_st {W0 w : World} {pb mb : Nat} {ml : Bool} {L : List Ent} (h : St W0 w pb mb ml L) : Calls Tryd.prog 10 #[.pointer (some ⟨pb, 0, none⟩)] w (IntIs L.length w) := let ⟨_, _, _, P⟩ := h.tab; symN P
theorem locN_st {W0 w : World} {pb mb : Nat} {ml : Bool} {L : List Ent} (h : St W0 w pb mb ml L) : Calls Tryd.prog 12 #[.pointer (some ⟨pb, 0, none⟩)] w (IntIs (if ml then (L.length : Int) else 0) w) := by
  obtain ⟨_, _, _, P⟩ := h.tab
  have := locN P
  cases ml <;> exact this
theorem name_st {W0 w : World} {pb mb : Nat} {ml : Bool} {L : List Ent} (h : St W0 w pb mb ml L) (i : Nat) (e : Ent) (he : L[i]? = some e) (hm : L.length ≤ 16777216) : Calls Tryd.prog 11 #[.pointer (some ⟨pb, 0, none⟩), .int .i64 i] w (StrIs e.nm w) := let ⟨_, _, _, P⟩ := h.tab; symName P i e he hm
def Yes (W0 : World) (e : Ending) (w' : World) : Prop := e = .returned (.bool true) ∧ Below W0.heap.size W0 w'
set_option maxRecDepth 100000 in
set_option maxHeartbeats 4000000 in
theorem law3 (c pay : Int) (s : ByteArray) (ml : Bool) (w : World) (hc : (Lit.int .u8 c).wf = true) (hp : (Lit.int .u32 pay).wf = true) (hs : s.size ≤ maxLen) (hT : Tabs w) :
    Calls Tryd.prog 3 #[.int .u8 c, .string s, .int .u32 pay, .bool ml] w (Yes w) := by
  have H5 := Lib.hid (bytes5 c pay ml s w hs)
  unfold maxLen at hs
  have h0 : 0 ≤ c ∧ c ≤ 255 := by simp [Lit.wf, IntKind.min, IntKind.max, IntKind.signed, IntKind.bits] at hc; omega
  obtain ⟨k, hk0⟩ := kind7 c h0.1 h0.2
  have HK := Lib.hid hk0
  clear hk0
  have hbT := bldT
  have HT := Lib.hid hT
  have HN := Lib.hid (newp_any ml w hT)
  clear hc hp h0 hT
  by_cases hbig : 1048576 < s.size
  · go_enter Tryd.func3, Tryd.ntmps3
    go_wp2_with fail
    refine H5.out.mono ?_
    rintro e w' ⟨b1, rfl, rfl⟩
    cases b1
    all_goals
      go_wp2_with fail
      go_ret
      exact ⟨rfl, Below.refl _ _⟩
  have hs2 : s.size ≤ 1048576 := by omega
  have HC := Lib.hid (fun w => isCust s w hs2)
  have HL := Lib.hid (fun w1 tb pb mb (hS : St w w1 pb mb ml []) (hB : TokB w1 tb s pay k) htb => lst8 w w1 tb pb mb ml [] s pay k 0 HT.out hs2 hS hB Small.nil (by omega) htb)
  clear hbig
  by_cases hk : k = 29
  · subst hk
    cases hcu : cust s
    · rw [hcu] at HC HL
      clear hcu
      simp only [Bool.false_eq_true, and_false, if_false] at HL
      go_enter Tryd.func3, Tryd.ntmps3
      go_wp2_with fail
      refine H5.out.mono ?_
      rintro e w' ⟨b1, rfl, rfl⟩
      cases b1
      · go_wp2_with fail
        go_ret
        exact ⟨rfl, Below.refl _ _⟩
      go_wp2_with fail
      refine HN.out.mono ?_
      intro e w1 hN
      obtain ⟨pb, mb, rfl, hS⟩ := newp_st hN
      have S1 := Lib.hid hS
      clear hN hS HN H5
      go_wp2_with (go_at_call 7; refine (HK.out _).mono ?_; rintro e w2 ⟨rfl, rfl⟩)
      refine (HL.out _ _ pb mb (st_alloc S1.out _) (tokB_new _ _ _ _) (st_size S1.out)).mono ?_
      rintro e w2 ⟨rfl, hS, hB, -⟩
      have S2 := Lib.hid hS
      have B2 := Lib.hid hB
      clear hS hB S1 HL
      have d1 := B2.out.c1
      go_wp2_with (first
        | (go_at_call 7; refine (HK.out _).mono ?_; rintro e w4 ⟨rfl, rfl⟩)
        | (go_at_call 9
           refine (HC.out _).mono ?_
           rintro e w3 ⟨rfl, hb⟩
           have S3 := Lib.hid (PS.st_below S2.out hb)
           have B3 := Lib.hid (B2.out.below hb)
           have d3 := B3.out.c3
           have d5 := B3.out.c5
           clear hb S2 B2 HC))
      have HQ : Hid (∀ n, Calls Tryd.prog 10 #[.pointer (some ⟨pb, 0, none⟩)] (w3.drewN n) (IntIs 0 (w3.drewN n))) := Lib.hid (fun n => symN_st (S3.out.drewN n))
      have HR : Hid (∀ n, Calls Tryd.prog 12 #[.pointer (some ⟨pb, 0, none⟩)] (w3.drewN n) (IntIs 0 (w3.drewN n))) := Lib.hid (fun n => by have := locN_st (S3.out.drewN n); cases ml <;> exact this)
      go_quiet ((first
        | (go_at_call 7; exact Calls.quiet_of_same ((HK.out _).mono fun _ _ h => ⟨h.1, h.2.symm⟩))
        | (go_at_call 10; exact Calls.quiet_of_same ((HQ.out _).mono fun _ _ h => ⟨h.1, h.2.symm⟩))
        | (go_at_call 12; exact Calls.quiet_of_same ((HR.out _).mono fun _ _ h => ⟨h.1, h.2.symm⟩))))
      go_wp2_with fail
      go_ret
      exact ⟨rfl, below_drewN S3.out.bel _⟩
    · rw [hcu] at HC HL
      clear hcu
      simp only [and_self, if_true, beq_self_eq_true] at HL
      go_enter Tryd.func3, Tryd.ntmps3
      go_wp2_with fail
      refine H5.out.mono ?_
      rintro e w' ⟨b1, rfl, rfl⟩
      cases b1
      · go_wp2_with fail
        go_ret
        exact ⟨rfl, Below.refl _ _⟩
      go_wp2_with fail
      refine HN.out.mono ?_
      intro e w1 hN
      obtain ⟨pb, mb, rfl, hS⟩ := newp_st hN
      have S1 := Lib.hid hS
      clear hN hS HN H5
      go_wp2_with (go_at_call 7; refine (HK.out _).mono ?_; rintro e w2 ⟨rfl, rfl⟩)
      refine (HL.out _ _ pb mb (st_alloc S1.out _) (tokB_new _ _ _ _) (st_size S1.out)).mono ?_
      rintro e w2 ⟨rfl, hS, hB, -⟩
      have S2 := Lib.hid hS
      have B2 := Lib.hid hB
      clear hS hB S1 HL
      have d1 := B2.out.c1
      obtain ⟨z, hz⟩ : ∃ z : Int, (if ml then (1 : Int) else 0) = z := ⟨_, rfl⟩
      have HW := Lib.hid (fun w => want13 ml 1 w)
      rw [hz] at HW
      have Hz := Lib.hid hz
      clear hz
      go_wp2_with (first
        | (go_at_call 7; refine (HK.out _).mono ?_; rintro e w4 ⟨rfl, rfl⟩)
        | (go_at_call 9
           refine (HC.out _).mono ?_
           rintro e w3 ⟨rfl, hb⟩
           have S3 := Lib.hid (PS.st_below S2.out hb)
           have B3 := Lib.hid (B2.out.below hb)
           have d3 := B3.out.c3
           have d5 := B3.out.c5
           have HQ : Hid (Calls Tryd.prog 10 #[.pointer (some ⟨pb, 0, none⟩)] w3 (IntIs 1 w3)) := Lib.hid (symN_st S3.out)
           have HR : Hid (Calls Tryd.prog 12 #[.pointer (some ⟨pb, 0, none⟩)] w3 (IntIs z w3)) := by rw [← Hz.out]; exact Lib.hid (locN_st S3.out)
           have HM : Hid (Calls Tryd.prog 11 #[.pointer (some ⟨pb, 0, none⟩), .int .i64 0] w3 (StrIs s w3)) := Lib.hid (name_st S3.out 0 ⟨s, 0, 1⟩ rfl (by simp [SY.tick]))
           clear hb S2 B2 HC)
        | (go_at_call 10; refine HQ.out.mono ?_; rintro e w4 ⟨rfl, rfl⟩)
        | (go_at_call 11; refine HM.out.mono ?_; rintro e w4 ⟨rfl, rfl⟩)
        | (go_at_call 12; refine HR.out.mono ?_; rintro e w4 ⟨rfl, rfl⟩)
        | (go_at_call 13; refine (HW.out _).mono ?_; rintro e w4 ⟨rfl, rfl⟩))
      go_ret
      exact ⟨rfl, S3.out.bel⟩
  · have hk2 : (k == 29) = false := beq_eq_false_iff_ne.2 hk
    rw [hk2] at HL
    clear hk
    simp only [Bool.false_eq_true, false_and, if_false] at HL
    go_enter Tryd.func3, Tryd.ntmps3
    go_wp2_with fail
    refine H5.out.mono ?_
    rintro e w' ⟨b1, rfl, rfl⟩
    cases b1
    · go_wp2_with fail
      go_ret
      exact ⟨rfl, Below.refl _ _⟩
    go_wp2_with fail
    refine HN.out.mono ?_
    intro e w1 hN
    obtain ⟨pb, mb, rfl, hS⟩ := newp_st hN
    have S1 := Lib.hid hS
    clear hN hS HN H5
    go_wp2_with (go_at_call 7; refine (HK.out _).mono ?_; rintro e w2 ⟨rfl, rfl⟩)
    refine (HL.out _ _ pb mb (st_alloc S1.out _) (tokB_new _ _ _ _) (st_size S1.out)).mono ?_
    rintro e w2 ⟨rfl, hS, hB, -⟩
    have S2 := Lib.hid hS
    have B2 := Lib.hid hB
    clear hS hB S1 HL
    have d1 := B2.out.c1
    have d3 := B2.out.c3
    have d5 := B2.out.c5
    have HQ : Hid (∀ n, Calls Tryd.prog 10 #[.pointer (some ⟨pb, 0, none⟩)] (w2.drewN n) (IntIs 0 (w2.drewN n))) := Lib.hid (fun n => symN_st (S2.out.drewN n))
    have HR : Hid (∀ n, Calls Tryd.prog 12 #[.pointer (some ⟨pb, 0, none⟩)] (w2.drewN n) (IntIs 0 (w2.drewN n))) := Lib.hid (fun n => by have := locN_st (S2.out.drewN n); cases ml <;> exact this)
    go_wp2_with (go_at_call 7; refine (HK.out _).mono ?_; rintro e w4 ⟨rfl, rfl⟩)
    go_quiet ((first
      | (go_at_call 7; exact Calls.quiet_of_same ((HK.out _).mono fun _ _ h => ⟨h.1, h.2.symm⟩))
      | (go_at_call 10; exact Calls.quiet_of_same ((HQ.out _).mono fun _ _ h => ⟨h.1, h.2.symm⟩))
      | (go_at_call 12; exact Calls.quiet_of_same ((HR.out _).mono fun _ _ h => ⟨h.1, h.2.symm⟩))))
    go_wp2_with fail
    go_ret
    exact ⟨rfl, below_drewN S2.out.bel _⟩
theorem law3' (c : Int) (s : ByteArray) (pay : Int) (ml : Bool) (w : World) (hc : (Lit.int .u8 c).wf = true) (hs : s.size ≤ maxLen) (hp : (Lit.int .u32 pay).wf = true) (hT : Tabs w) :
    Calls Tryd.prog 3 #[.int .u8 c, .string s, .int .u32 pay, .bool ml] w (Yes w) := law3 c pay s ml w hc hp hs hT
end Go.Proofs.YtdlaponmnepciaaDoor.WA

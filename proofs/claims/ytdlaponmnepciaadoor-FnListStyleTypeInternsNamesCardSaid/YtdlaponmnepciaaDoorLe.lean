/- FnListStyleTypeInternsNames: the walk. -/
import Derived.Test.YtdlaponmnepciaaDoorLd
namespace Go.Proofs.YtdlaponmnepciaaDoor.WA
open Go Go.RowKit Go.Lib Go.Proofs.YtdlaponmnepciaaDoor.MP Go.Proofs.YtdlaponmnepciaaDoor.SY Go.Proofs.YtdlaponmnepciaaDoor.LO Go.Proofs.YtdlaponmnepciaaDoor.TB Go.Proofs.YtdlaponmnepciaaDoor.OW
set_option linter.unusedVariables false
theorem TokB.oth {tb g : Nat} {w w' : World} {s : ByteArray} {pay k : Int} (h : TokB w g s pay k) (o : Oth tb w w') (hne : g ≠ tb) : TokB w' g s pay k :=
  (o g _ _ _ h (by decide) (by decide) (by decide) hne).trans h
theorem tokB_alloc {g : Nat} {w : World} {s : ByteArray} {pay k : Int} (h : TokB w g s pay k) (o : Obj) : TokB (w.alloc o) g s pay k := h.below ((Below.refl _ _).alloc (Nat.le_refl _) o)
theorem newp_later (ml : Bool) (W0 w : World) (hT : Tabs W0) (hb : Below W0.heap.size W0 w) : Calls Tryd.prog 6 #[.bool ml] w (NewP ml w W0.heap.size) := by
  have h := hT.below hb
  exact newp ml w W0.heap.size h.2.2.2.2.2.1 h.2.2.2.2.2.2 hT.2.2.2.2.1 hb.size
theorem newp_st_later {W0 w : World} {ml : Bool} {e : Ending} {w' : World} (hb0 : Below W0.heap.size W0 w) (h : NewP ml w W0.heap.size e w') : ∃ pb mb, e = .returned (.pointer (some ⟨pb, 0, none⟩)) ∧ St W0 w' pb mb ml [] := by
  obtain ⟨pb, mb, f, rfl, P, hb, -, -⟩ := h
  exact ⟨pb, mb, rfl, ⟨⟨f, _, _, by cases ml <;> exact P⟩, hb0.trans (hb.mono hb0.size)⟩⟩
set_option maxRecDepth 100000 in
set_option maxHeartbeats 8000000 in
theorem law4_of (a b : ByteArray) (ml : Bool) (w : World) (ha : a.size ≤ maxLen) (hb : b.size ≤ maxLen) (hT : Tabs w)
    (HX : Hid (a.size ≤ 1048576 → b.size ≤ 1048576 → a.size + b.size ≤ 1048576 → cust a = true → cust b = true → Calls Tryd.prog 4 #[.string a, .string b, .bool ml] w (Yes w))) :
    Calls Tryd.prog 4 #[.string a, .string b, .bool ml] w (Yes w) := by
  have H5 := Lib.hid (bytes14 a b ml w ha hb)
  unfold maxLen at ha hb
  have hbT := bldT
  have HT := Lib.hid hT
  have HN := Lib.hid (fun w1 h => newp_later ml w w1 hT h)
  clear hT
  by_cases hbig : ¬ (a.size ≤ 1048576 ∧ b.size ≤ 1048576 ∧ a.size + b.size ≤ 1048576)
  · clear HN hbT
    by_cases h1 : a.size ≤ 1048576
    all_goals by_cases h2 : b.size ≤ 1048576
    all_goals
      go_enter Tryd.func4, Tryd.ntmps4
      go_wp2_with fail
      refine H5.out.mono ?_
      rintro e w' ⟨b1, rfl, rfl⟩
      cases b1
      all_goals
        go_wp2_with fail
        go_ret
        exact ⟨rfl, Below.refl _ _⟩
  obtain ⟨ha2, hb2, hab2⟩ := Classical.not_not.1 hbig
  clear hbig
  have HCa := Lib.hid (fun w => isCust a w ha2)
  have HCb := Lib.hid (fun w => isCust b w hb2)
  cases hca : cust a
  · rw [hca] at HCa
    clear hca
    go_enter Tryd.func4, Tryd.ntmps4
    go_wp2_with fail
    refine H5.out.mono ?_
    rintro e w' ⟨b1, rfl, rfl⟩
    cases b1
    · go_wp2_with fail
      go_ret
      exact ⟨rfl, Below.refl _ _⟩
    go_wp2_with fail
    refine (HCa.out _).mono ?_
    rintro e wa ⟨rfl, hba⟩
    have BA := Lib.hid hba
    clear hba
    go_wp2_with fail
    go_ret
    exact ⟨rfl, BA.out⟩
  cases hcb : cust b
  · rw [hca] at HCa
    rw [hcb] at HCb
    clear hca hcb
    go_enter Tryd.func4, Tryd.ntmps4
    go_wp2_with fail
    refine H5.out.mono ?_
    rintro e w' ⟨b1, rfl, rfl⟩
    cases b1
    · go_wp2_with fail
      go_ret
      exact ⟨rfl, Below.refl _ _⟩
    go_wp2_with fail
    refine (HCa.out _).mono ?_
    rintro e wa ⟨rfl, hba⟩
    have BA := Lib.hid hba
    clear hba
    go_wp2_with fail
    refine (HCb.out _).mono ?_
    rintro e wb ⟨rfl, hbb⟩
    have BB := Lib.hid (BA.out.trans (hbb.mono BA.out.size))
    clear hbb BA
    go_wp2_with fail
    go_ret
    exact ⟨rfl, BB.out⟩
  exact HX.out ha2 hb2 hab2 hca hcb
end Go.Proofs.YtdlaponmnepciaaDoor.WA

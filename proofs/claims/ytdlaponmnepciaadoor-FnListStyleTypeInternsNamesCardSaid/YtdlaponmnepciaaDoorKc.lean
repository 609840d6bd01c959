/- The reserved words' switches of n011_231. Printed by gen_ls_kc.py. -/
import Derived.Test.YtdlaponmnepciaaDoorKa
namespace Go.Proofs.YtdlaponmnepciaaDoor.WA
open Go.RowKit Go.Lib Go.Proofs.YtdlaponmnepciaaDoor.LO Go.Proofs.YtdlaponmnepciaaDoor.TB Go.Proofs.YtdlaponmnepciaaDoor.OW
set_option linter.unusedVariables false
theorem wide_0 (w : World) : Calls Tryd.prog 17 #[.string ⟨#[105, 110, 105, 116, 105, 97, 108]⟩] w (BS true w) := by
  go_enter Tryd.func17, Tryd.ntmps17
  go_wp2_with fail
  go_ret
  exact ⟨rfl, rfl⟩
theorem wide_1 (w : World) : Calls Tryd.prog 17 #[.string ⟨#[105, 110, 104, 101, 114, 105, 116]⟩] w (BS true w) := by
  go_enter Tryd.func17, Tryd.ntmps17
  go_wp2_with fail
  go_ret
  exact ⟨rfl, rfl⟩
theorem wide_2 (w : World) : Calls Tryd.prog 17 #[.string ⟨#[117, 110, 115, 101, 116]⟩] w (BS true w) := by
  go_enter Tryd.func17, Tryd.ntmps17
  go_wp2_with fail
  go_ret
  exact ⟨rfl, rfl⟩
theorem wide_3 (w : World) : Calls Tryd.prog 17 #[.string ⟨#[100, 101, 102, 97, 117, 108, 116]⟩] w (BS true w) := by
  go_enter Tryd.func17, Tryd.ntmps17
  go_wp2_with fail
  go_ret
  exact ⟨rfl, rfl⟩
theorem wide_4 (w : World) : Calls Tryd.prog 17 #[.string ⟨#[114, 101, 118, 101, 114, 116]⟩] w (BS true w) := by
  go_enter Tryd.func17, Tryd.ntmps17
  go_wp2_with fail
  go_ret
  exact ⟨rfl, rfl⟩
theorem wide_5 (w : World) : Calls Tryd.prog 17 #[.string ⟨#[114, 101, 118, 101, 114, 116, 45, 108, 97, 121, 101, 114]⟩] w (BS true w) := by
  go_enter Tryd.func17, Tryd.ntmps17
  go_wp2_with fail
  go_ret
  exact ⟨rfl, rfl⟩
set_option maxRecDepth 100000 in
set_option maxHeartbeats 8000000 in
theorem wide_no (l : List UInt8) (w : World) (h0 : (l == [105, 110, 105, 116, 105, 97, 108]) = false) (h1 : (l == [105, 110, 104, 101, 114, 105, 116]) = false) (h2 : (l == [117, 110, 115, 101, 116]) = false) (h3 : (l == [100, 101, 102, 97, 117, 108, 116]) = false) (h4 : (l == [114, 101, 118, 101, 114, 116]) = false) (h5 : (l == [114, 101, 118, 101, 114, 116, 45, 108, 97, 121, 101, 114]) = false) : Calls Tryd.prog 17 #[.string ⟨l.toArray⟩] w (BS false w) := by
  go_enter Tryd.func17, Tryd.ntmps17
  go_wp2_with fail
  go_ret
  exact ⟨rfl, rfl⟩
theorem wide (l : List UInt8) (w : World) : Calls Tryd.prog 17 #[.string ⟨l.toArray⟩] w (BS (decide (l ∈ wideW)) w) := by
  by_cases h0 : l = [105, 110, 105, 116, 105, 97, 108]
  · subst h0
    exact wide_0 w
  by_cases h1 : l = [105, 110, 104, 101, 114, 105, 116]
  · subst h1
    exact wide_1 w
  by_cases h2 : l = [117, 110, 115, 101, 116]
  · subst h2
    exact wide_2 w
  by_cases h3 : l = [100, 101, 102, 97, 117, 108, 116]
  · subst h3
    exact wide_3 w
  by_cases h4 : l = [114, 101, 118, 101, 114, 116]
  · subst h4
    exact wide_4 w
  by_cases h5 : l = [114, 101, 118, 101, 114, 116, 45, 108, 97, 121, 101, 114]
  · subst h5
    exact wide_5 w
  have hd : decide (l ∈ wideW) = false := by
    rw [decide_eq_false_iff_not]
    simp only [wideW, List.mem_cons, List.not_mem_nil, or_false, not_or]
    exact ⟨h0, h1, h2, h3, h4, h5⟩
  rw [hd]
  exact wide_no l w (beq_eq_false_iff_ne.2 h0) (beq_eq_false_iff_ne.2 h1) (beq_eq_false_iff_ne.2 h2) (beq_eq_false_iff_ne.2 h3) (beq_eq_false_iff_ne.2 h4) (beq_eq_false_iff_ne.2 h5)
theorem pred_0 (w : World) : Calls Tryd.prog 18 #[.string ⟨#[97, 114, 97, 98, 105, 99, 45, 105, 110, 100, 105, 99]⟩] w (BS true w) := by
  go_enter Tryd.func18, Tryd.ntmps18
  go_wp2_with fail
  go_ret
  exact ⟨rfl, rfl⟩
theorem pred_1 (w : World) : Calls Tryd.prog 18 #[.string ⟨#[97, 114, 109, 101, 110, 105, 97, 110]⟩] w (BS true w) := by
  go_enter Tryd.func18, Tryd.ntmps18
  go_wp2_with fail
  go_ret
  exact ⟨rfl, rfl⟩
theorem pred_2 (w : World) : Calls Tryd.prog 18 #[.string ⟨#[98, 101, 110, 103, 97, 108, 105]⟩] w (BS true w) := by
  go_enter Tryd.func18, Tryd.ntmps18
  go_wp2_with fail
  go_ret
  exact ⟨rfl, rfl⟩
theorem pred_3 (w : World) : Calls Tryd.prog 18 #[.string ⟨#[99, 97, 109, 98, 111, 100, 105, 97, 110]⟩] w (BS true w) := by
  go_enter Tryd.func18, Tryd.ntmps18
  go_wp2_with fail
  go_ret
  exact ⟨rfl, rfl⟩
theorem pred_4 (w : World) : Calls Tryd.prog 18 #[.string ⟨#[99, 106, 107, 45, 100, 101, 99, 105, 109, 97, 108]⟩] w (BS true w) := by
  go_enter Tryd.func18, Tryd.ntmps18
  go_wp2_with fail
  go_ret
  exact ⟨rfl, rfl⟩
theorem pred_5 (w : World) : Calls Tryd.prog 18 #[.string ⟨#[100, 101, 99, 105, 109, 97, 108, 45, 108, 101, 97, 100, 105, 110, 103, 45, 122, 101, 114, 111]⟩] w (BS true w) := by
  go_enter Tryd.func18, Tryd.ntmps18
  go_wp2_with fail
  go_ret
  exact ⟨rfl, rfl⟩
theorem pred_6 (w : World) : Calls Tryd.prog 18 #[.string ⟨#[100, 101, 99, 105, 109, 97, 108]⟩] w (BS true w) := by
  go_enter Tryd.func18, Tryd.ntmps18
  go_wp2_with fail
  go_ret
  exact ⟨rfl, rfl⟩
theorem pred_7 (w : World) : Calls Tryd.prog 18 #[.string ⟨#[100, 101, 118, 97, 110, 97, 103, 97, 114, 105]⟩] w (BS true w) := by
  go_enter Tryd.func18, Tryd.ntmps18
  go_wp2_with fail
  go_ret
  exact ⟨rfl, rfl⟩
theorem pred_8 (w : World) : Calls Tryd.prog 18 #[.string ⟨#[103, 101, 111, 114, 103, 105, 97, 110]⟩] w (BS true w) := by
  go_enter Tryd.func18, Tryd.ntmps18
  go_wp2_with fail
  go_ret
  exact ⟨rfl, rfl⟩
theorem pred_9 (w : World) : Calls Tryd.prog 18 #[.string ⟨#[103, 117, 106, 97, 114, 97, 116, 105]⟩] w (BS true w) := by
  go_enter Tryd.func18, Tryd.ntmps18
  go_wp2_with fail
  go_ret
  exact ⟨rfl, rfl⟩
theorem pred_10 (w : World) : Calls Tryd.prog 18 #[.string ⟨#[103, 117, 114, 109, 117, 107, 104, 105]⟩] w (BS true w) := by
  go_enter Tryd.func18, Tryd.ntmps18
  go_wp2_with fail
  go_ret
  exact ⟨rfl, rfl⟩
theorem pred_11 (w : World) : Calls Tryd.prog 18 #[.string ⟨#[104, 101, 98, 114, 101, 119]⟩] w (BS true w) := by
  go_enter Tryd.func18, Tryd.ntmps18
  go_wp2_with fail
  go_ret
  exact ⟨rfl, rfl⟩
theorem pred_12 (w : World) : Calls Tryd.prog 18 #[.string ⟨#[107, 97, 110, 110, 97, 100, 97]⟩] w (BS true w) := by
  go_enter Tryd.func18, Tryd.ntmps18
  go_wp2_with fail
  go_ret
  exact ⟨rfl, rfl⟩
theorem pred_13 (w : World) : Calls Tryd.prog 18 #[.string ⟨#[107, 104, 109, 101, 114]⟩] w (BS true w) := by
  go_enter Tryd.func18, Tryd.ntmps18
  go_wp2_with fail
  go_ret
  exact ⟨rfl, rfl⟩
theorem pred_14 (w : World) : Calls Tryd.prog 18 #[.string ⟨#[108, 97, 111]⟩] w (BS true w) := by
  go_enter Tryd.func18, Tryd.ntmps18
  go_wp2_with fail
  go_ret
  exact ⟨rfl, rfl⟩
theorem pred_15 (w : World) : Calls Tryd.prog 18 #[.string ⟨#[108, 111, 119, 101, 114, 45, 97, 114, 109, 101, 110, 105, 97, 110]⟩] w (BS true w) := by
  go_enter Tryd.func18, Tryd.ntmps18
  go_wp2_with fail
  go_ret
  exact ⟨rfl, rfl⟩
theorem pred_16 (w : World) : Calls Tryd.prog 18 #[.string ⟨#[108, 111, 119, 101, 114, 45, 114, 111, 109, 97, 110]⟩] w (BS true w) := by
  go_enter Tryd.func18, Tryd.ntmps18
  go_wp2_with fail
  go_ret
  exact ⟨rfl, rfl⟩
theorem pred_17 (w : World) : Calls Tryd.prog 18 #[.string ⟨#[109, 97, 108, 97, 121, 97, 108, 97, 109]⟩] w (BS true w) := by
  go_enter Tryd.func18, Tryd.ntmps18
  go_wp2_with fail
  go_ret
  exact ⟨rfl, rfl⟩
theorem pred_18 (w : World) : Calls Tryd.prog 18 #[.string ⟨#[109, 111, 110, 103, 111, 108, 105, 97, 110]⟩] w (BS true w) := by
  go_enter Tryd.func18, Tryd.ntmps18
  go_wp2_with fail
  go_ret
  exact ⟨rfl, rfl⟩
theorem pred_19 (w : World) : Calls Tryd.prog 18 #[.string ⟨#[109, 121, 97, 110, 109, 97, 114]⟩] w (BS true w) := by
  go_enter Tryd.func18, Tryd.ntmps18
  go_wp2_with fail
  go_ret
  exact ⟨rfl, rfl⟩
theorem pred_20 (w : World) : Calls Tryd.prog 18 #[.string ⟨#[111, 114, 105, 121, 97]⟩] w (BS true w) := by
  go_enter Tryd.func18, Tryd.ntmps18
  go_wp2_with fail
  go_ret
  exact ⟨rfl, rfl⟩
theorem pred_21 (w : World) : Calls Tryd.prog 18 #[.string ⟨#[112, 101, 114, 115, 105, 97, 110]⟩] w (BS true w) := by
  go_enter Tryd.func18, Tryd.ntmps18
  go_wp2_with fail
  go_ret
  exact ⟨rfl, rfl⟩
theorem pred_22 (w : World) : Calls Tryd.prog 18 #[.string ⟨#[116, 97, 109, 105, 108]⟩] w (BS true w) := by
  go_enter Tryd.func18, Tryd.ntmps18
  go_wp2_with fail
  go_ret
  exact ⟨rfl, rfl⟩
theorem pred_23 (w : World) : Calls Tryd.prog 18 #[.string ⟨#[116, 101, 108, 117, 103, 117]⟩] w (BS true w) := by
  go_enter Tryd.func18, Tryd.ntmps18
  go_wp2_with fail
  go_ret
  exact ⟨rfl, rfl⟩
theorem pred_24 (w : World) : Calls Tryd.prog 18 #[.string ⟨#[116, 104, 97, 105]⟩] w (BS true w) := by
  go_enter Tryd.func18, Tryd.ntmps18
  go_wp2_with fail
  go_ret
  exact ⟨rfl, rfl⟩
theorem pred_25 (w : World) : Calls Tryd.prog 18 #[.string ⟨#[116, 105, 98, 101, 116, 97, 110]⟩] w (BS true w) := by
  go_enter Tryd.func18, Tryd.ntmps18
  go_wp2_with fail
  go_ret
  exact ⟨rfl, rfl⟩
theorem pred_26 (w : World) : Calls Tryd.prog 18 #[.string ⟨#[117, 112, 112, 101, 114, 45, 97, 114, 109, 101, 110, 105, 97, 110]⟩] w (BS true w) := by
  go_enter Tryd.func18, Tryd.ntmps18
  go_wp2_with fail
  go_ret
  exact ⟨rfl, rfl⟩
theorem pred_27 (w : World) : Calls Tryd.prog 18 #[.string ⟨#[117, 112, 112, 101, 114, 45, 114, 111, 109, 97, 110]⟩] w (BS true w) := by
  go_enter Tryd.func18, Tryd.ntmps18
  go_wp2_with fail
  go_ret
  exact ⟨rfl, rfl⟩
theorem pred_28 (w : World) : Calls Tryd.prog 18 #[.string ⟨#[104, 105, 114, 97, 103, 97, 110, 97, 45, 105, 114, 111, 104, 97]⟩] w (BS true w) := by
  go_enter Tryd.func18, Tryd.ntmps18
  go_wp2_with fail
  go_ret
  exact ⟨rfl, rfl⟩
theorem pred_29 (w : World) : Calls Tryd.prog 18 #[.string ⟨#[104, 105, 114, 97, 103, 97, 110, 97]⟩] w (BS true w) := by
  go_enter Tryd.func18, Tryd.ntmps18
  go_wp2_with fail
  go_ret
  exact ⟨rfl, rfl⟩
theorem pred_30 (w : World) : Calls Tryd.prog 18 #[.string ⟨#[107, 97, 116, 97, 107, 97, 110, 97, 45, 105, 114, 111, 104, 97]⟩] w (BS true w) := by
  go_enter Tryd.func18, Tryd.ntmps18
  go_wp2_with fail
  go_ret
  exact ⟨rfl, rfl⟩
theorem pred_31 (w : World) : Calls Tryd.prog 18 #[.string ⟨#[107, 97, 116, 97, 107, 97, 110, 97]⟩] w (BS true w) := by
  go_enter Tryd.func18, Tryd.ntmps18
  go_wp2_with fail
  go_ret
  exact ⟨rfl, rfl⟩
theorem pred_32 (w : World) : Calls Tryd.prog 18 #[.string ⟨#[108, 111, 119, 101, 114, 45, 97, 108, 112, 104, 97]⟩] w (BS true w) := by
  go_enter Tryd.func18, Tryd.ntmps18
  go_wp2_with fail
  go_ret
  exact ⟨rfl, rfl⟩
theorem pred_33 (w : World) : Calls Tryd.prog 18 #[.string ⟨#[108, 111, 119, 101, 114, 45, 103, 114, 101, 101, 107]⟩] w (BS true w) := by
  go_enter Tryd.func18, Tryd.ntmps18
  go_wp2_with fail
  go_ret
  exact ⟨rfl, rfl⟩
theorem pred_34 (w : World) : Calls Tryd.prog 18 #[.string ⟨#[108, 111, 119, 101, 114, 45, 108, 97, 116, 105, 110]⟩] w (BS true w) := by
  go_enter Tryd.func18, Tryd.ntmps18
  go_wp2_with fail
  go_ret
  exact ⟨rfl, rfl⟩
theorem pred_35 (w : World) : Calls Tryd.prog 18 #[.string ⟨#[117, 112, 112, 101, 114, 45, 97, 108, 112, 104, 97]⟩] w (BS true w) := by
  go_enter Tryd.func18, Tryd.ntmps18
  go_wp2_with fail
  go_ret
  exact ⟨rfl, rfl⟩
theorem pred_36 (w : World) : Calls Tryd.prog 18 #[.string ⟨#[117, 112, 112, 101, 114, 45, 108, 97, 116, 105, 110]⟩] w (BS true w) := by
  go_enter Tryd.func18, Tryd.ntmps18
  go_wp2_with fail
  go_ret
  exact ⟨rfl, rfl⟩
theorem pred_37 (w : World) : Calls Tryd.prog 18 #[.string ⟨#[99, 105, 114, 99, 108, 101]⟩] w (BS true w) := by
  go_enter Tryd.func18, Tryd.ntmps18
  go_wp2_with fail
  go_ret
  exact ⟨rfl, rfl⟩
theorem pred_38 (w : World) : Calls Tryd.prog 18 #[.string ⟨#[100, 105, 115, 99]⟩] w (BS true w) := by
  go_enter Tryd.func18, Tryd.ntmps18
  go_wp2_with fail
  go_ret
  exact ⟨rfl, rfl⟩
theorem pred_39 (w : World) : Calls Tryd.prog 18 #[.string ⟨#[100, 105, 115, 99, 108, 111, 115, 117, 114, 101, 45, 99, 108, 111, 115, 101, 100]⟩] w (BS true w) := by
  go_enter Tryd.func18, Tryd.ntmps18
  go_wp2_with fail
  go_ret
  exact ⟨rfl, rfl⟩
theorem pred_40 (w : World) : Calls Tryd.prog 18 #[.string ⟨#[100, 105, 115, 99, 108, 111, 115, 117, 114, 101, 45, 111, 112, 101, 110]⟩] w (BS true w) := by
  go_enter Tryd.func18, Tryd.ntmps18
  go_wp2_with fail
  go_ret
  exact ⟨rfl, rfl⟩
theorem pred_41 (w : World) : Calls Tryd.prog 18 #[.string ⟨#[115, 113, 117, 97, 114, 101]⟩] w (BS true w) := by
  go_enter Tryd.func18, Tryd.ntmps18
  go_wp2_with fail
  go_ret
  exact ⟨rfl, rfl⟩
theorem pred_42 (w : World) : Calls Tryd.prog 18 #[.string ⟨#[99, 106, 107, 45, 101, 97, 114, 116, 104, 108, 121, 45, 98, 114, 97, 110, 99, 104]⟩] w (BS true w) := by
  go_enter Tryd.func18, Tryd.ntmps18
  go_wp2_with fail
  go_ret
  exact ⟨rfl, rfl⟩
theorem pred_43 (w : World) : Calls Tryd.prog 18 #[.string ⟨#[99, 106, 107, 45, 104, 101, 97, 118, 101, 110, 108, 121, 45, 115, 116, 101, 109]⟩] w (BS true w) := by
  go_enter Tryd.func18, Tryd.ntmps18
  go_wp2_with fail
  go_ret
  exact ⟨rfl, rfl⟩
theorem pred_44 (w : World) : Calls Tryd.prog 18 #[.string ⟨#[106, 97, 112, 97, 110, 101, 115, 101, 45, 102, 111, 114, 109, 97, 108]⟩] w (BS true w) := by
  go_enter Tryd.func18, Tryd.ntmps18
  go_wp2_with fail
  go_ret
  exact ⟨rfl, rfl⟩
theorem pred_45 (w : World) : Calls Tryd.prog 18 #[.string ⟨#[106, 97, 112, 97, 110, 101, 115, 101, 45, 105, 110, 102, 111, 114, 109, 97, 108]⟩] w (BS true w) := by
  go_enter Tryd.func18, Tryd.ntmps18
  go_wp2_with fail
  go_ret
  exact ⟨rfl, rfl⟩
theorem pred_46 (w : World) : Calls Tryd.prog 18 #[.string ⟨#[107, 111, 114, 101, 97, 110, 45, 104, 97, 110, 103, 117, 108, 45, 102, 111, 114, 109, 97, 108]⟩] w (BS true w) := by
  go_enter Tryd.func18, Tryd.ntmps18
  go_wp2_with fail
  go_ret
  exact ⟨rfl, rfl⟩
theorem pred_47 (w : World) : Calls Tryd.prog 18 #[.string ⟨#[107, 111, 114, 101, 97, 110, 45, 104, 97, 110, 106, 97, 45, 102, 111, 114, 109, 97, 108]⟩] w (BS true w) := by
  go_enter Tryd.func18, Tryd.ntmps18
  go_wp2_with fail
  go_ret
  exact ⟨rfl, rfl⟩
theorem pred_48 (w : World) : Calls Tryd.prog 18 #[.string ⟨#[107, 111, 114, 101, 97, 110, 45, 104, 97, 110, 106, 97, 45, 105, 110, 102, 111, 114, 109, 97, 108]⟩] w (BS true w) := by
  go_enter Tryd.func18, Tryd.ntmps18
  go_wp2_with fail
  go_ret
  exact ⟨rfl, rfl⟩
theorem pred_49 (w : World) : Calls Tryd.prog 18 #[.string ⟨#[115, 105, 109, 112, 45, 99, 104, 105, 110, 101, 115, 101, 45, 102, 111, 114, 109, 97, 108]⟩] w (BS true w) := by
  go_enter Tryd.func18, Tryd.ntmps18
  go_wp2_with fail
  go_ret
  exact ⟨rfl, rfl⟩
theorem pred_50 (w : World) : Calls Tryd.prog 18 #[.string ⟨#[115, 105, 109, 112, 45, 99, 104, 105, 110, 101, 115, 101, 45, 105, 110, 102, 111, 114, 109, 97, 108]⟩] w (BS true w) := by
  go_enter Tryd.func18, Tryd.ntmps18
  go_wp2_with fail
  go_ret
  exact ⟨rfl, rfl⟩
theorem pred_51 (w : World) : Calls Tryd.prog 18 #[.string ⟨#[116, 114, 97, 100, 45, 99, 104, 105, 110, 101, 115, 101, 45, 102, 111, 114, 109, 97, 108]⟩] w (BS true w) := by
  go_enter Tryd.func18, Tryd.ntmps18
  go_wp2_with fail
  go_ret
  exact ⟨rfl, rfl⟩
theorem pred_52 (w : World) : Calls Tryd.prog 18 #[.string ⟨#[116, 114, 97, 100, 45, 99, 104, 105, 110, 101, 115, 101, 45, 105, 110, 102, 111, 114, 109, 97, 108]⟩] w (BS true w) := by
  go_enter Tryd.func18, Tryd.ntmps18
  go_wp2_with fail
  go_ret
  exact ⟨rfl, rfl⟩
theorem pred_53 (w : World) : Calls Tryd.prog 18 #[.string ⟨#[101, 116, 104, 105, 111, 112, 105, 99, 45, 110, 117, 109, 101, 114, 105, 99]⟩] w (BS true w) := by
  go_enter Tryd.func18, Tryd.ntmps18
  go_wp2_with fail
  go_ret
  exact ⟨rfl, rfl⟩
set_option maxRecDepth 100000 in
set_option maxHeartbeats 8000000 in
theorem pred_no (l : List UInt8) (w : World) (h0 : (l == [97, 114, 97, 98, 105, 99, 45, 105, 110, 100, 105, 99]) = false) (h1 : (l == [97, 114, 109, 101, 110, 105, 97, 110]) = false) (h2 : (l == [98, 101, 110, 103, 97, 108, 105]) = false) (h3 : (l == [99, 97, 109, 98, 111, 100, 105, 97, 110]) = false) (h4 : (l == [99, 106, 107, 45, 100, 101, 99, 105, 109, 97, 108]) = false) (h5 : (l == [100, 101, 99, 105, 109, 97, 108, 45, 108, 101, 97, 100, 105, 110, 103, 45, 122, 101, 114, 111]) = false) (h6 : (l == [100, 101, 99, 105, 109, 97, 108]) = false) (h7 : (l == [100, 101, 118, 97, 110, 97, 103, 97, 114, 105]) = false) (h8 : (l == [103, 101, 111, 114, 103, 105, 97, 110]) = false) (h9 : (l == [103, 117, 106, 97, 114, 97, 116, 105]) = false) (h10 : (l == [103, 117, 114, 109, 117, 107, 104, 105]) = false) (h11 : (l == [104, 101, 98, 114, 101, 119]) = false) (h12 : (l == [107, 97, 110, 110, 97, 100, 97]) = false) (h13 : (l == [107, 104, 109, 101, 114]) = false) (h14 : (l == [108, 97, 111]) = false) (h15 : (l == [108, 111, 119, 101, 114, 45, 97, 114, 109, 101, 110, 105, 97, 110]) = false) (h16 : (l == [108, 111, 119, 101, 114, 45, 114, 111, 109, 97, 110]) = false) (h17 : (l == [109, 97, 108, 97, 121, 97, 108, 97, 109]) = false) (h18 : (l == [109, 111, 110, 103, 111, 108, 105, 97, 110]) = false) (h19 : (l == [109, 121, 97, 110, 109, 97, 114]) = false) (h20 : (l == [111, 114, 105, 121, 97]) = false) (h21 : (l == [112, 101, 114, 115, 105, 97, 110]) = false) (h22 : (l == [116, 97, 109, 105, 108]) = false) (h23 : (l == [116, 101, 108, 117, 103, 117]) = false) (h24 : (l == [116, 104, 97, 105]) = false) (h25 : (l == [116, 105, 98, 101, 116, 97, 110]) = false) (h26 : (l == [117, 112, 112, 101, 114, 45, 97, 114, 109, 101, 110, 105, 97, 110]) = false) (h27 : (l == [117, 112, 112, 101, 114, 45, 114, 111, 109, 97, 110]) = false) (h28 : (l == [104, 105, 114, 97, 103, 97, 110, 97, 45, 105, 114, 111, 104, 97]) = false) (h29 : (l == [104, 105, 114, 97, 103, 97, 110, 97]) = false) (h30 : (l == [107, 97, 116, 97, 107, 97, 110, 97, 45, 105, 114, 111, 104, 97]) = false) (h31 : (l == [107, 97, 116, 97, 107, 97, 110, 97]) = false) (h32 : (l == [108, 111, 119, 101, 114, 45, 97, 108, 112, 104, 97]) = false) (h33 : (l == [108, 111, 119, 101, 114, 45, 103, 114, 101, 101, 107]) = false) (h34 : (l == [108, 111, 119, 101, 114, 45, 108, 97, 116, 105, 110]) = false) (h35 : (l == [117, 112, 112, 101, 114, 45, 97, 108, 112, 104, 97]) = false) (h36 : (l == [117, 112, 112, 101, 114, 45, 108, 97, 116, 105, 110]) = false) (h37 : (l == [99, 105, 114, 99, 108, 101]) = false) (h38 : (l == [100, 105, 115, 99]) = false) (h39 : (l == [100, 105, 115, 99, 108, 111, 115, 117, 114, 101, 45, 99, 108, 111, 115, 101, 100]) = false) (h40 : (l == [100, 105, 115, 99, 108, 111, 115, 117, 114, 101, 45, 111, 112, 101, 110]) = false) (h41 : (l == [115, 113, 117, 97, 114, 101]) = false) (h42 : (l == [99, 106, 107, 45, 101, 97, 114, 116, 104, 108, 121, 45, 98, 114, 97, 110, 99, 104]) = false) (h43 : (l == [99, 106, 107, 45, 104, 101, 97, 118, 101, 110, 108, 121, 45, 115, 116, 101, 109]) = false) (h44 : (l == [106, 97, 112, 97, 110, 101, 115, 101, 45, 102, 111, 114, 109, 97, 108]) = false) (h45 : (l == [106, 97, 112, 97, 110, 101, 115, 101, 45, 105, 110, 102, 111, 114, 109, 97, 108]) = false) (h46 : (l == [107, 111, 114, 101, 97, 110, 45, 104, 97, 110, 103, 117, 108, 45, 102, 111, 114, 109, 97, 108]) = false) (h47 : (l == [107, 111, 114, 101, 97, 110, 45, 104, 97, 110, 106, 97, 45, 102, 111, 114, 109, 97, 108]) = false) (h48 : (l == [107, 111, 114, 101, 97, 110, 45, 104, 97, 110, 106, 97, 45, 105, 110, 102, 111, 114, 109, 97, 108]) = false) (h49 : (l == [115, 105, 109, 112, 45, 99, 104, 105, 110, 101, 115, 101, 45, 102, 111, 114, 109, 97, 108]) = false) (h50 : (l == [115, 105, 109, 112, 45, 99, 104, 105, 110, 101, 115, 101, 45, 105, 110, 102, 111, 114, 109, 97, 108]) = false) (h51 : (l == [116, 114, 97, 100, 45, 99, 104, 105, 110, 101, 115, 101, 45, 102, 111, 114, 109, 97, 108]) = false) (h52 : (l == [116, 114, 97, 100, 45, 99, 104, 105, 110, 101, 115, 101, 45, 105, 110, 102, 111, 114, 109, 97, 108]) = false) (h53 : (l == [101, 116, 104, 105, 111, 112, 105, 99, 45, 110, 117, 109, 101, 114, 105, 99]) = false) : Calls Tryd.prog 18 #[.string ⟨l.toArray⟩] w (BS false w) := by
  go_enter Tryd.func18, Tryd.ntmps18
  go_wp2_with fail
  go_ret
  exact ⟨rfl, rfl⟩
theorem pred (l : List UInt8) (w : World) : Calls Tryd.prog 18 #[.string ⟨l.toArray⟩] w (BS (decide (l ∈ predW)) w) := by
  by_cases h0 : l = [97, 114, 97, 98, 105, 99, 45, 105, 110, 100, 105, 99]
  · subst h0
    exact pred_0 w
  by_cases h1 : l = [97, 114, 109, 101, 110, 105, 97, 110]
  · subst h1
    exact pred_1 w
  by_cases h2 : l = [98, 101, 110, 103, 97, 108, 105]
  · subst h2
    exact pred_2 w
  by_cases h3 : l = [99, 97, 109, 98, 111, 100, 105, 97, 110]
  · subst h3
    exact pred_3 w
  by_cases h4 : l = [99, 106, 107, 45, 100, 101, 99, 105, 109, 97, 108]
  · subst h4
    exact pred_4 w
  by_cases h5 : l = [100, 101, 99, 105, 109, 97, 108, 45, 108, 101, 97, 100, 105, 110, 103, 45, 122, 101, 114, 111]
  · subst h5
    exact pred_5 w
  by_cases h6 : l = [100, 101, 99, 105, 109, 97, 108]
  · subst h6
    exact pred_6 w
  by_cases h7 : l = [100, 101, 118, 97, 110, 97, 103, 97, 114, 105]
  · subst h7
    exact pred_7 w
  by_cases h8 : l = [103, 101, 111, 114, 103, 105, 97, 110]
  · subst h8
    exact pred_8 w
  by_cases h9 : l = [103, 117, 106, 97, 114, 97, 116, 105]
  · subst h9
    exact pred_9 w
  by_cases h10 : l = [103, 117, 114, 109, 117, 107, 104, 105]
  · subst h10
    exact pred_10 w
  by_cases h11 : l = [104, 101, 98, 114, 101, 119]
  · subst h11
    exact pred_11 w
  by_cases h12 : l = [107, 97, 110, 110, 97, 100, 97]
  · subst h12
    exact pred_12 w
  by_cases h13 : l = [107, 104, 109, 101, 114]
  · subst h13
    exact pred_13 w
  by_cases h14 : l = [108, 97, 111]
  · subst h14
    exact pred_14 w
  by_cases h15 : l = [108, 111, 119, 101, 114, 45, 97, 114, 109, 101, 110, 105, 97, 110]
  · subst h15
    exact pred_15 w
  by_cases h16 : l = [108, 111, 119, 101, 114, 45, 114, 111, 109, 97, 110]
  · subst h16
    exact pred_16 w
  by_cases h17 : l = [109, 97, 108, 97, 121, 97, 108, 97, 109]
  · subst h17
    exact pred_17 w
  by_cases h18 : l = [109, 111, 110, 103, 111, 108, 105, 97, 110]
  · subst h18
    exact pred_18 w
  by_cases h19 : l = [109, 121, 97, 110, 109, 97, 114]
  · subst h19
    exact pred_19 w
  by_cases h20 : l = [111, 114, 105, 121, 97]
  · subst h20
    exact pred_20 w
  by_cases h21 : l = [112, 101, 114, 115, 105, 97, 110]
  · subst h21
    exact pred_21 w
  by_cases h22 : l = [116, 97, 109, 105, 108]
  · subst h22
    exact pred_22 w
  by_cases h23 : l = [116, 101, 108, 117, 103, 117]
  · subst h23
    exact pred_23 w
  by_cases h24 : l = [116, 104, 97, 105]
  · subst h24
    exact pred_24 w
  by_cases h25 : l = [116, 105, 98, 101, 116, 97, 110]
  · subst h25
    exact pred_25 w
  by_cases h26 : l = [117, 112, 112, 101, 114, 45, 97, 114, 109, 101, 110, 105, 97, 110]
  · subst h26
    exact pred_26 w
  by_cases h27 : l = [117, 112, 112, 101, 114, 45, 114, 111, 109, 97, 110]
  · subst h27
    exact pred_27 w
  by_cases h28 : l = [104, 105, 114, 97, 103, 97, 110, 97, 45, 105, 114, 111, 104, 97]
  · subst h28
    exact pred_28 w
  by_cases h29 : l = [104, 105, 114, 97, 103, 97, 110, 97]
  · subst h29
    exact pred_29 w
  by_cases h30 : l = [107, 97, 116, 97, 107, 97, 110, 97, 45, 105, 114, 111, 104, 97]
  · subst h30
    exact pred_30 w
  by_cases h31 : l = [107, 97, 116, 97, 107, 97, 110, 97]
  · subst h31
    exact pred_31 w
  by_cases h32 : l = [108, 111, 119, 101, 114, 45, 97, 108, 112, 104, 97]
  · subst h32
    exact pred_32 w
  by_cases h33 : l = [108, 111, 119, 101, 114, 45, 103, 114, 101, 101, 107]
  · subst h33
    exact pred_33 w
  by_cases h34 : l = [108, 111, 119, 101, 114, 45, 108, 97, 116, 105, 110]
  · subst h34
    exact pred_34 w
  by_cases h35 : l = [117, 112, 112, 101, 114, 45, 97, 108, 112, 104, 97]
  · subst h35
    exact pred_35 w
  by_cases h36 : l = [117, 112, 112, 101, 114, 45, 108, 97, 116, 105, 110]
  · subst h36
    exact pred_36 w
  by_cases h37 : l = [99, 105, 114, 99, 108, 101]
  · subst h37
    exact pred_37 w
  by_cases h38 : l = [100, 105, 115, 99]
  · subst h38
    exact pred_38 w
  by_cases h39 : l = [100, 105, 115, 99, 108, 111, 115, 117, 114, 101, 45, 99, 108, 111, 115, 101, 100]
  · subst h39
    exact pred_39 w
  by_cases h40 : l = [100, 105, 115, 99, 108, 111, 115, 117, 114, 101, 45, 111, 112, 101, 110]
  · subst h40
    exact pred_40 w
  by_cases h41 : l = [115, 113, 117, 97, 114, 101]
  · subst h41
    exact pred_41 w
  by_cases h42 : l = [99, 106, 107, 45, 101, 97, 114, 116, 104, 108, 121, 45, 98, 114, 97, 110, 99, 104]
  · subst h42
    exact pred_42 w
  by_cases h43 : l = [99, 106, 107, 45, 104, 101, 97, 118, 101, 110, 108, 121, 45, 115, 116, 101, 109]
  · subst h43
    exact pred_43 w
  by_cases h44 : l = [106, 97, 112, 97, 110, 101, 115, 101, 45, 102, 111, 114, 109, 97, 108]
  · subst h44
    exact pred_44 w
  by_cases h45 : l = [106, 97, 112, 97, 110, 101, 115, 101, 45, 105, 110, 102, 111, 114, 109, 97, 108]
  · subst h45
    exact pred_45 w
  by_cases h46 : l = [107, 111, 114, 101, 97, 110, 45, 104, 97, 110, 103, 117, 108, 45, 102, 111, 114, 109, 97, 108]
  · subst h46
    exact pred_46 w
  by_cases h47 : l = [107, 111, 114, 101, 97, 110, 45, 104, 97, 110, 106, 97, 45, 102, 111, 114, 109, 97, 108]
  · subst h47
    exact pred_47 w
  by_cases h48 : l = [107, 111, 114, 101, 97, 110, 45, 104, 97, 110, 106, 97, 45, 105, 110, 102, 111, 114, 109, 97, 108]
  · subst h48
    exact pred_48 w
  by_cases h49 : l = [115, 105, 109, 112, 45, 99, 104, 105, 110, 101, 115, 101, 45, 102, 111, 114, 109, 97, 108]
  · subst h49
    exact pred_49 w
  by_cases h50 : l = [115, 105, 109, 112, 45, 99, 104, 105, 110, 101, 115, 101, 45, 105, 110, 102, 111, 114, 109, 97, 108]
  · subst h50
    exact pred_50 w
  by_cases h51 : l = [116, 114, 97, 100, 45, 99, 104, 105, 110, 101, 115, 101, 45, 102, 111, 114, 109, 97, 108]
  · subst h51
    exact pred_51 w
  by_cases h52 : l = [116, 114, 97, 100, 45, 99, 104, 105, 110, 101, 115, 101, 45, 105, 110, 102, 111, 114, 109, 97, 108]
  · subst h52
    exact pred_52 w
  by_cases h53 : l = [101, 116, 104, 105, 111, 112, 105, 99, 45, 110, 117, 109, 101, 114, 105, 99]
  · subst h53
    exact pred_53 w
  have hd : decide (l ∈ predW) = false := by
    rw [decide_eq_false_iff_not]
    simp only [predW, List.mem_cons, List.not_mem_nil, or_false, not_or]
    exact ⟨h0, h1, h2, h3, h4, h5, h6, h7, h8, h9, h10, h11, h12, h13, h14, h15, h16, h17, h18, h19, h20, h21, h22, h23, h24, h25, h26, h27, h28, h29, h30, h31, h32, h33, h34, h35, h36, h37, h38, h39, h40, h41, h42, h43, h44, h45, h46, h47, h48, h49, h50, h51, h52, h53⟩
  rw [hd]
  exact pred_no l w (beq_eq_false_iff_ne.2 h0) (beq_eq_false_iff_ne.2 h1) (beq_eq_false_iff_ne.2 h2) (beq_eq_false_iff_ne.2 h3) (beq_eq_false_iff_ne.2 h4) (beq_eq_false_iff_ne.2 h5) (beq_eq_false_iff_ne.2 h6) (beq_eq_false_iff_ne.2 h7) (beq_eq_false_iff_ne.2 h8) (beq_eq_false_iff_ne.2 h9) (beq_eq_false_iff_ne.2 h10) (beq_eq_false_iff_ne.2 h11) (beq_eq_false_iff_ne.2 h12) (beq_eq_false_iff_ne.2 h13) (beq_eq_false_iff_ne.2 h14) (beq_eq_false_iff_ne.2 h15) (beq_eq_false_iff_ne.2 h16) (beq_eq_false_iff_ne.2 h17) (beq_eq_false_iff_ne.2 h18) (beq_eq_false_iff_ne.2 h19) (beq_eq_false_iff_ne.2 h20) (beq_eq_false_iff_ne.2 h21) (beq_eq_false_iff_ne.2 h22) (beq_eq_false_iff_ne.2 h23) (beq_eq_false_iff_ne.2 h24) (beq_eq_false_iff_ne.2 h25) (beq_eq_false_iff_ne.2 h26) (beq_eq_false_iff_ne.2 h27) (beq_eq_false_iff_ne.2 h28) (beq_eq_false_iff_ne.2 h29) (beq_eq_false_iff_ne.2 h30) (beq_eq_false_iff_ne.2 h31) (beq_eq_false_iff_ne.2 h32) (beq_eq_false_iff_ne.2 h33) (beq_eq_false_iff_ne.2 h34) (beq_eq_false_iff_ne.2 h35) (beq_eq_false_iff_ne.2 h36) (beq_eq_false_iff_ne.2 h37) (beq_eq_false_iff_ne.2 h38) (beq_eq_false_iff_ne.2 h39) (beq_eq_false_iff_ne.2 h40) (beq_eq_false_iff_ne.2 h41) (beq_eq_false_iff_ne.2 h42) (beq_eq_false_iff_ne.2 h43) (beq_eq_false_iff_ne.2 h44) (beq_eq_false_iff_ne.2 h45) (beq_eq_false_iff_ne.2 h46) (beq_eq_false_iff_ne.2 h47) (beq_eq_false_iff_ne.2 h48) (beq_eq_false_iff_ne.2 h49) (beq_eq_false_iff_ne.2 h50) (beq_eq_false_iff_ne.2 h51) (beq_eq_false_iff_ne.2 h52) (beq_eq_false_iff_ne.2 h53)
end Go.Proofs.YtdlaponmnepciaaDoor.WA

/- parseBlock and parseComponentValue of n011_198, walked where every group closes. -/
import Derived.Test.YtajkdjheoefbcaaFmtZf
namespace Go.Proofs.YtajkdjheoefbcaaFmt.ZA
open Go.RowKit Go.Proofs.YtajkdjheoefbcaaFmt.TB Go.Proofs.YtajkdjheoefbcaaFmt.OW Go.Proofs.YtajkdjheoefbcaaFmt.PL
set_option linter.unusedVariables false
theorem kd_eqF : ∀ k c : _root_.Fin 15, (kd c.1 == kd k.1) = decide (kid k.1 = kid c.1) := by decide +kernel
theorem kd_eq {k c : Nat} (hk : k < 15) (hc : c < 15) : (kd c == kd k) = decide (kid k = kid c) := kd_eqF ⟨k, hk⟩ ⟨c, hc⟩
theorem kd_posF : ∀ k : _root_.Fin 15, ((0 : Int) == kd k.1) = false ∧ (kd k.1 == (0 : Int)) = false := by decide +kernel
theorem kd_pos {k : Nat} (hk : k < 15) : ((0 : Int) == kd k) = false ∧ (kd k == (0 : Int)) = false := kd_posF ⟨k, hk⟩
theorem cl_lt {k x : Nat} (h : cl k = some x) : x < 15 ∧ kid x = x ∧ ((k = 5 ∧ x = 7) ∨ (k = 6 ∧ x = 7) ∨ (k = 8 ∧ x = 9) ∨ (k = 10 ∧ x = 11)) := by
  unfold cl at h
  split at h
  · cases h; exact ⟨by omega, by decide, by omega⟩
  · split at h
    · cases h; exact ⟨by omega, by decide, by omega⟩
    · split at h
      · cases h; exact ⟨by omega, by decide, by omega⟩
      · cases h
/-- Where the component value at i ends. -/
def CV (k : Nat → Nat) (n i : Nat) : Option Nat := match cl (k i) with
  | some x => PB k n x (i + 1)
  | none => some (i + 1)
theorem CV_gt {k : Nat → Nat} {n i e : Nat} (hi : i < n) (h : CV k n i = some e) : i < e ∧ e ≤ n := by
  unfold CV at h
  split at h
  · have := PB_gt k n h; omega
  · cases h; omega
theorem PB_step {k : Nat → Nat} {n c j e : Nat} (h : PB k n c j = some e) : j < n ∧ ((kid (k j) = c ∧ e = j + 1) ∨ (kid (k j) ≠ c ∧ ∃ e1, CV k n j = some e1 ∧ j < e1 ∧ e1 ≤ n ∧ PB k n c e1 = some e)) := by
  rw [PB_eq] at h
  by_cases hj : j < n
  · refine ⟨hj, ?_⟩
    rw [if_pos hj] at h
    by_cases hc : kid (k j) = c
    · rw [if_pos hc] at h
      cases h
      exact .inl ⟨hc, rfl⟩
    · rw [if_neg hc] at h
      refine .inr ⟨hc, ?_⟩
      cases hcl : cl (k j) with
      | none =>
        rw [hcl] at h
        exact ⟨j + 1, by unfold CV; rw [hcl], by omega, by omega, h⟩
      | some x =>
        rw [hcl] at h
        simp only [Option.bind_eq_some_iff] at h
        obtain ⟨e1, h1, h2⟩ := h
        have := PB_gt k n h1
        exact ⟨e1, by unfold CV; rw [hcl]; exact h1, by omega, by omega, h2⟩
  · rw [if_neg hj] at h; cases h
set_option maxRecDepth 100000 in
set_option maxHeartbeats 1000000 in
theorem blockW (gp g n ix e c : Nat) (cc : ByteArray) (z : Nat → Int) (hn : n ≤ 1048576) (hc : c < 15)
    (IH : ∀ j e w, ix < j → j < n → CV (kl z) n j = some e → Par w gp g n cc j (tk z) → Calls Tryf.prog 21 #[.pointer (some ⟨gp, 0, none⟩)] w (Stp gp g n cc (tk z) e w))
    (w : World) (hi : ix < n) (he : PB (kl z) n (kid c) (ix + 1) = some e) (hP : Par w gp g n cc ix (tk z)) :
    Calls Tryf.prog 20 #[.pointer (some ⟨gp, 0, none⟩), .int .u8 (kd (kl z ix)), .int .u8 (kd c)] w (Stp gp g n cc (tk z) e w) := by
  have PP := Lib.hid hP
  have CU := Lib.hid (cur gp g n ix cc z w hP hn hi)
  have IH' := Lib.hid IH
  have HE := Lib.hid he
  have hal := allT_len z ix
  have htl := (txt_len (kl z ix)).2
  have RE := Lib.hid (fun W => rend ((allT z ix).length : Nat) ((txtL (kl z ix)).length : Nat) W (by omega) (by omega) (by omega) (by omega))
  have hs1 : (((allT z ix).length : Nat) : Int) ≤ 9437184 := by omega
  have hs2 : (((txtL (kl z ix)).length : Nat) : Int) ≤ 9 := by omega
  have hs3 : 0 ≤ (((allT z ix).length : Nat) : Int) := by omega
  have hs4 : 0 ≤ (((txtL (kl z ix)).length : Nat) : Int) := by omega
  have EX := Lib.hid (fun W (h : Par W gp g n cc ix (tk z)) => expe gp g n ix (kd (kl z ix)) cc z W h hn hi rfl)
  clear hP IH he hal htl
  unfold tkv at CU
  generalize (((allT z ix).length : Nat) : Int) = s0 at *
  generalize (((txtL (kl z ix)).length : Nat) : Int) = s1 at *
  generalize kd (kl z ix) = s3 at *
  go_enter Tryf.func20, Tryf.ntmps20
  go_wp2_with fail
  refine CU.out.mono ?_
  rintro e1 w1 ⟨rfl, hb⟩
  have hgp := PP.out.2.2.2
  have HB := Lib.hid hb
  have hz := hb.size
  clear hb CU
  go_wp2_with fail
  have B1 := (HB.out.alloc hz (.cells #[.int .i32 s0, .int .i32 s1, .int .u16 0, .int .u8 s3, .int .u8 0] 48))
  generalize w1.alloc (.cells #[.int .i32 s0, .int .i32 s1, .int .u16 0, .int .u8 s3, .int .u8 0] 48) = W1 at *
  refine (RE.out _).mono ?_
  rintro e2 w2 ⟨rfl, hb⟩
  have B2 := Lib.hid (B1.trans (hb.mono B1.size))
  clear hb RE
  go_wp2_with fail
  refine (EX.out _ (PP.out.below B2.out hgp)).mono ?_
  rintro e3 w3 ⟨rfl, hp3, hb3⟩
  have P3 := Lib.hid hp3
  have B3 := Lib.hid ((B2.out.mono (Nat.le_of_lt hgp)).trans hb3)
  clear hp3 hb3 EX B1 B2 PP HB
  go_wp2_with fail
  go_loopg [] n (fun k wr => ∃ j : Nat, n - j ≤ k ∧ ix < j ∧ Hid (PB (kl z) n (kid c) j = some e) ∧ Hid (Par wr gp g n cc j (tk z)) ∧ Hid (Below gp w wr))
  case atStart => exact ⟨ix + 1, by omega, by omega, HE, P3, B3⟩
  case round =>
    obtain ⟨j, hjk, hij, HJ, PJ, BJ⟩ := hrel
    clear HE P3 B3
    obtain ⟨hjn, hcase⟩ := PB_step HJ.out
    have k15 := kl_lt z j
    have hke := kd_eq (k := kl z j) (c := c) k15 hc
    rcases hcase with ⟨hk, he⟩ | ⟨hk, e1, hcv, hg1, hg2, hpb⟩
    · have hkd : kd c = kd (kl z j) := by
        have : (kd c == kd (kl z j)) = true := by rw [hke]; exact decide_eq_true hk
        simpa using this
      have EA := Lib.hid (eat_yes gp g n j (kd c) cc z wr PJ.out hn hjn hkd)
      subst he
      clear hk hkd hke HJ
      go_wp2_with fail
      refine EA.out.mono ?_
      rintro e4 w4 ⟨rfl, hp4, hb4⟩
      have P4 := Lib.hid hp4
      have B4 := Lib.hid (BJ.out.trans hb4)
      clear hp4 hb4 EA
      go_wp2_with fail
      go_end0
      exact ⟨rfl, P4.out, B4.out⟩
    · have hkd : (kd c == kd (kl z j)) = false := by rw [hke]; exact decide_eq_false hk
      have EA := Lib.hid (eat_no gp g n j (kd c) cc z wr PJ.out hn hjn hkd)
      have PK := Lib.hid (fun W (h : Par W gp g n cc j (tk z)) => (by have h1 := peek gp g n j 0 cc z W h hn hjn; rw [(kd_pos k15).1] at h1; exact h1 : Calls Tryf.prog 26 #[.pointer (some ⟨gp, 0, none⟩), .int .u8 0] W fun e w' => e = .returned (.bool false) ∧ Below W.heap.size W w'))
      have CO := Lib.hid (fun W (h : Par W gp g n cc j (tk z)) => IH'.out j e1 W hij hjn hcv h)
      have HPB := Lib.hid hpb
      clear hk hkd hke HJ hcv hpb
      go_wp2_with fail
      refine EA.out.mono ?_
      rintro e4 w4 ⟨rfl, hp4, hb4⟩
      have P4 := Lib.hid hp4
      have B4 := Lib.hid (BJ.out.trans hb4)
      clear hp4 hb4 EA PJ BJ
      go_wp2_with fail
      refine (PK.out _ P4.out).mono ?_
      rintro e5 w5 ⟨rfl, hb5⟩
      have P5 := Lib.hid (P4.out.below hb5 P4.out.2.2.2)
      have B5 := Lib.hid (B4.out.trans (hb5.mono (Nat.le_of_lt P4.out.2.2.2)))
      clear hb5 PK P4 B4
      go_wp2_with fail
      refine (CO.out _ P5.out).mono ?_
      rintro e6 w6 ⟨rfl, hp6, hb6⟩
      have P6 := Lib.hid hp6
      have B6 := Lib.hid (B5.out.trans hb6)
      clear hp6 hb6 CO P5 B5
      go_wp2_with fail
      go_roundg (n - e1)
      case measure => omega
      case rel => exact ⟨e1, by omega, by omega, HPB, P6, B6⟩
set_option maxRecDepth 100000 in
set_option maxHeartbeats 1000000 in
theorem compW (gp g n : Nat) (cc : ByteArray) (z : Nat → Int) (hn : n ≤ 1048576) (f : Nat) : ∀ (ix e : Nat) (w : World), n - ix < f → ix < n → CV (kl z) n ix = some e → Par w gp g n cc ix (tk z) →
    Calls Tryf.prog 21 #[.pointer (some ⟨gp, 0, none⟩)] w (Stp gp g n cc (tk z) e w) := by
  induction f with
  | zero => intro ix e w h; omega
  | succ f ih =>
    intro ix e w hf hi hcv hP
    have k15 := kl_lt z ix
    have hgp := hP.2.2.2
    have CU := Lib.hid (cur gp g n ix cc z w hP hn hi)
    have FK := fldK
    have PP := Lib.hid hP
    cases hcl : cl (kl z ix) with
    | some x =>
      have hpb : PB (kl z) n x (ix + 1) = some e := by unfold CV at hcv; rw [hcl] at hcv; exact hcv
      obtain ⟨hx, hkx, hkind⟩ := cl_lt hcl
      rw [← hkx] at hpb
      have BW := Lib.hid (fun W (h : Par W gp g n cc ix (tk z)) => blockW gp g n ix e x cc z hn hx (fun j e' W hij hj hcv' hP' => ih j e' W (by omega) hj hcv' hP') W hi hpb h)
      unfold tkv at CU
      have hk : (kd (kl z ix) = 27 ∧ kd x = 8) ∨ (kd (kl z ix) = 33 ∧ kd x = 8) ∨ (kd (kl z ix) = 32 ∧ kd x = 7) ∨ (kd (kl z ix) = 31 ∧ kd x = 6) := by
        rcases hkind with ⟨a, b⟩ | ⟨a, b⟩ | ⟨a, b⟩ | ⟨a, b⟩ <;> rw [a, b] <;> decide
      clear hP ih hcv hcl hpb hkx hkind
      generalize (((allT z ix).length : Nat) : Int) = s0 at *
      generalize (((txtL (kl z ix)).length : Nat) : Int) = s1 at *
      generalize kd (kl z ix) = s3 at *
      generalize kd x = s4 at *
      rcases hk with ⟨rfl, rfl⟩ | ⟨rfl, rfl⟩ | ⟨rfl, rfl⟩ | ⟨rfl, rfl⟩
      all_goals
        go_enter Tryf.func21, Tryf.ntmps21
        go_wp2_with fail
        refine CU.out.mono ?_
        rintro e1 w1 ⟨rfl, hb⟩
        have P1 := Lib.hid (PP.out.below hb hgp)
        have B1 := Lib.hid (hb.mono (Nat.le_of_lt hgp))
        clear hb
        go_wp2_with fail
        refine (BW.out _ P1.out).mono ?_
        rintro e2 w2 ⟨rfl, hp2, hb2⟩
        have P2 := Lib.hid hp2
        have B2 := Lib.hid (B1.out.trans hb2)
        clear hp2 hb2
        go_wp2_with fail
        go_end0
        exact ⟨rfl, P2.out, B2.out⟩
    | none =>
      have he : e = ix + 1 := by unfold CV at hcv; rw [hcl] at hcv; cases hcv; rfl
      subst he
      obtain ⟨n5, n6, n8, n10⟩ := cl_none hcl
      have hk : (kd (kl z ix) == 27) = false ∧ (kd (kl z ix) == 33) = false ∧ (kd (kl z ix) == 31) = false ∧ (kd (kl z ix) == 32) = false ∧ (kd (kl z ix) == 0) = false := by
        revert n5 n6 n8 n10
        rcases fifteen k15 with h | h | h | h | h | h | h | h | h | h | h | h | h | h | h <;> rw [h] <;> decide
      obtain ⟨k1, k2, k3, k4, k5⟩ := hk
      have AD := Lib.hid (fun W (h : Par W gp g n cc ix (tk z)) => adv gp g n ix cc (tk z) W h hn hi)
      unfold tkv at CU
      clear hP ih hcv hcl n5 n6 n8 n10
      generalize (((allT z ix).length : Nat) : Int) = s0 at *
      generalize (((txtL (kl z ix)).length : Nat) : Int) = s1 at *
      generalize kd (kl z ix) = s3 at *
      go_enter Tryf.func21, Tryf.ntmps21
      go_wp2_with fail
      refine CU.out.mono ?_
      rintro e1 w1 ⟨rfl, hb⟩
      have P1 := Lib.hid (PP.out.below hb hgp)
      have B1 := Lib.hid (hb.mono (Nat.le_of_lt hgp))
      clear hb
      go_wp2_with fail
      refine (AD.out _ P1.out).mono ?_
      rintro e2 w2 ⟨rfl, hp2, hb2⟩
      have P2 := Lib.hid hp2
      have B2 := Lib.hid (B1.out.trans hb2)
      clear hp2 hb2
      go_wp2_with fail
      go_end0
      exact ⟨rfl, P2.out, B2.out⟩
end Go.Proofs.YtajkdjheoefbcaaFmt.ZA

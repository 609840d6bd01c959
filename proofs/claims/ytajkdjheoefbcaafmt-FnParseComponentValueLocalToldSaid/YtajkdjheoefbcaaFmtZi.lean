/- FnParseBlockModel and FnParseComponentValueLocal: the walks. -/
import Derived.Test.YtajkdjheoefbcaaFmtZh
import Derived.DataShut
namespace Go.Proofs.YtajkdjheoefbcaaFmt.ZA
open Go.RowKit Go.Proofs.YtajkdjheoefbcaaFmt.TB Go.Proofs.YtajkdjheoefbcaaFmt.OW Go.Proofs.YtajkdjheoefbcaaFmt.PL
set_option linter.unusedVariables false
set_option maxRecDepth 100000 in
set_option maxHeartbeats 1000000 in
theorem zzPB (g n ix e c : Nat) (s : ByteArray) (z : Nat → Int) (w : World) (h : Tab w g 48 5 n (tk z)) (hn : n ≤ 1048576) (hc : c < 15) (hi : ix < n) (he : PB (kl z) n (kid c) (ix + 1) = some e) :
    Calls Tryf.prog 10 #[.string s, .slice (some ⟨g, 0, none⟩) n n, .int .i64 ix, .int .u8 (kd (kl z ix)), .int .u8 (kd c)] w fun ee w' => ee = .returned (.int .i64 e) ∧ Below w.heap.size w w' := by
  have H := Lib.hid (makeW s g n ix (tk z) w h)
  have BW := Lib.hid (fun W gp (hp : Par W gp g n s ix (tk z)) => blockW gp g n ix e c s z hn hc (fun j e' W hij hj hcv hP => compW gp g n s z hn (n + 1) j e' W (by omega) hj hcv hP) W hi he hp)
  clear h he
  generalize kd (kl z ix) = k1 at *
  generalize kd c = k2 at *
  go_enter Tryf.func10, Tryf.ntmps10
  go_wp2_with fail
  refine H.out.mono ?_
  rintro e1 w1 ⟨rfl, hp, hb⟩
  have HP := Lib.hid hp
  have HB := Lib.hid hb
  clear hp hb
  go_wp2_with fail
  refine (BW.out _ _ HP.out).mono ?_
  rintro e2 w2 ⟨rfl, hp2, hb2⟩
  have x1 := hp2.1.2.1
  have HB2 := Lib.hid hb2
  clear hp2 hb2
  go_wp2_with fail
  go_ret
  exact ⟨rfl, HB.out.trans HB2.out⟩
set_option maxRecDepth 100000 in
set_option maxHeartbeats 1000000 in
theorem zzPC (g n ix e : Nat) (s : ByteArray) (z : Nat → Int) (w : World) (h : Tab w g 48 5 n (tk z)) (hn : n ≤ 1048576) (hi : ix < n) (he : CV (kl z) n ix = some e) :
    Calls Tryf.prog 14 #[.string s, .slice (some ⟨g, 0, none⟩) n n, .int .i64 ix] w fun ee w' => ee = .returned (.int .i64 e) ∧ Below w.heap.size w w' := by
  have H := Lib.hid (makeW s g n ix (tk z) w h)
  have BW := Lib.hid (fun W gp (hp : Par W gp g n s ix (tk z)) => compW gp g n s z hn (n + 1) ix e W (by omega) hi he hp)
  clear h he
  go_enter Tryf.func14, Tryf.ntmps14
  go_wp2_with fail
  refine H.out.mono ?_
  rintro e1 w1 ⟨rfl, hp, hb⟩
  have HP := Lib.hid hp
  have HB := Lib.hid hb
  clear hp hb
  go_wp2_with fail
  refine (BW.out _ _ HP.out).mono ?_
  rintro e2 w2 ⟨rfl, hp2, hb2⟩
  have x1 := hp2.1.2.1
  have HB2 := Lib.hid hb2
  clear hp2 hb2
  go_wp2_with fail
  go_ret
  exact ⟨rfl, HB.out.trans HB2.out⟩
set_option maxRecDepth 100000 in
set_option maxHeartbeats 1000000 in
theorem comp13 (A : Option Addr) (n cp : Nat) (z : Nat → Int) (hz : ∀ i, i < n → 0 ≤ z i ∧ z i ≤ 255) (hn : n ≤ 1048576) (i : Nat) (hi : i < n) (w : World) (r : BR w A n z) :
    Calls Tryf.prog 13 #[.slice A n cp, .int .i64 i] w (GP n (CV (kl z) n i) w) := by
  obtain ⟨b, o, rfl, hb, hc⟩ := r (by omega)
  have x1 := hc i hi
  have h0 := (hz i hi).1
  have h1 := (hz i hi).2
  have q1 : (0 : Int) ≤ (i : Int) := by omega
  have q2 : (i : Int) < (n : Int) := by omega
  have HG := Lib.hid (fun want (h : want < 15) => groupW (some ⟨b, o, none⟩) n cp z hz hn (i + 1) want h (by omega) w r)
  have e1 : ((i + 1 : Nat) : Int) = (i : Int) + 1 := by omega
  rw [e1] at HG
  clear hc r hz e1
  cases hcl : cl (kl z i) with
  | none =>
    have HC := Lib.hid (closer_none (kl z i) w hcl)
    have EE : Hid (CV (kl z) n i = some (i + 1)) := by apply Lib.hid; unfold CV; rw [hcl]
    clear hcl HG
    go_enter Tryf.func13, Tryf.ntmps13
    go_wp2_with (first
      | (go_at_call 7; refine (cls z i _ h0 h1).mono ?_; rintro e w' ⟨rfl, rfl⟩)
      | (go_at_call 17; refine HC.out.mono ?_; rintro e w' ⟨rfl, rfl⟩))
    go_ret2
    exact ⟨by rw [EE.out]; rfl, Below.refl _ _⟩
  | some x =>
    obtain ⟨hx, hkx, -⟩ := cl_lt hcl
    have HC := Lib.hid (closer_some (kl z i) x w hcl)
    have EE : Hid (CV (kl z) n i = PB (kl z) n x (i + 1)) := by apply Lib.hid; unfold CV; rw [hcl]
    have H2 := Lib.hid (HG.out x hx)
    rw [hkx, GS_one] at H2
    rw [EE.out]
    have hxx : (0 : Int) ≤ (x : Int) := by omega
    generalize PB (kl z) n x (i + 1) = q at *
    clear hcl HG EE hkx
    cases q with
    | none =>
      unfold GP gv at *
      go_enter Tryf.func13, Tryf.ntmps13
      go_wp2_with (first
        | (go_at_call 7; refine (cls z i _ h0 h1).mono ?_; rintro e w' ⟨rfl, rfl⟩)
        | (go_at_call 17; refine HC.out.mono ?_; rintro e w' ⟨rfl, rfl⟩)
        | (go_at_call 8; refine H2.out.mono ?_; rintro e w' ⟨rfl, hb⟩))
      go_ret2
      exact ⟨rfl, hb⟩
    | some e0 =>
      unfold GP gv at *
      go_enter Tryf.func13, Tryf.ntmps13
      go_wp2_with (first
        | (go_at_call 7; refine (cls z i _ h0 h1).mono ?_; rintro e w' ⟨rfl, rfl⟩)
        | (go_at_call 17; refine HC.out.mono ?_; rintro e w' ⟨rfl, rfl⟩)
        | (go_at_call 8; refine H2.out.mono ?_; rintro e w' ⟨rfl, hb⟩))
      go_ret2
      exact ⟨rfl, hb⟩
def SomeBool (w : World) (e : Ending) (w' : World) : Prop := ∃ b : Bool, e = .returned (.bool b) ∧ w = w'
set_option maxRecDepth 100000 in
theorem bytes5 (A : Option Addr) (n c : Nat) (i d : Int) (w : World) (hn : n ≤ maxLen) : Calls Tryf.prog 5 #[.slice A n c, .int .i64 i, .int .u8 d] w (SomeBool w) := by
  unfold maxLen at hn
  by_cases h : n ≤ 1048576
  all_goals
    go_enter Tryf.func5, Tryf.ntmps5
    go_wp2
    go_ret
    exact ⟨_, rfl, rfl⟩
set_option maxRecDepth 100000 in
theorem bytes12 (A B : Option Addr) (n c m d : Nat) (i : Int) (w : World) (hn : n ≤ maxLen) (hm : m ≤ maxLen) : Calls Tryf.prog 12 #[.slice A n c, .slice B m d, .int .i64 i] w (SomeBool w) := by
  unfold maxLen at hn hm
  by_cases h : n ≤ 1048576
  · by_cases h2 : m ≤ 1048576
    · by_cases h3 : n + m ≤ 1048576
      all_goals
        go_enter Tryf.func12, Tryf.ntmps12
        go_wp2
        all_goals (go_ret; exact ⟨_, rfl, rfl⟩)
    · go_enter Tryf.func12, Tryf.ntmps12
      go_wp2
      go_ret
      exact ⟨_, rfl, rfl⟩
  · go_enter Tryf.func12, Tryf.ntmps12
    go_wp2
    go_ret
    exact ⟨_, rfl, rfl⟩
theorem u8_bd {n : Nat} {z : Nat → Int} (h : ∀ i, i < n → (Lit.int .u8 (z i)).wf = true) : ∀ i, i < n → 0 ≤ z i ∧ z i ≤ 255 := by
  intro i hi
  have h1 := (Lit.wf_int_iff .u8 (z i)).1 (h i hi)
  rw [show IntKind.u8.min = 0 from rfl, show IntKind.u8.max = 255 from rfl] at h1
  exact h1
set_option maxRecDepth 100000 in
set_option maxHeartbeats 2000000 in
theorem law3 (A : Option Addr) (n c : Nat) (z : Nat → Int) (ix d : Int) (w : World) (r : BR w A n z) (hA : A = none → n = 0) (hn : n ≤ maxLen) (hw : ∀ i, i < n → (Lit.int .u8 (z i)).wf = true) (hix : (Lit.int .i64 ix).wf = true) (hd : (Lit.int .u8 d).wf = true) :
    Calls Tryf.prog 3 #[.slice A n c, .int .i64 ix, .int .u8 d] w fun e w' => e = .returned (.bool true) ∧ Below w.heap.size w w' := by
  have HZ := Lib.hid (u8_bd hw)
  have R := Lib.hid r
  have HA := Lib.hid hA
  have H5 := Lib.hid (bytes5 A n c ix d w hn)
  unfold maxLen at hn
  have hi1 := ((Lit.wf_int_iff .i64 ix).1 hix).1
  have hi2 := ((Lit.wf_int_iff .i64 ix).1 hix).2
  rw [show IntKind.i64.min = -9223372036854775808 from rfl] at hi1
  rw [show IntKind.i64.max = 9223372036854775807 from rfl] at hi2
  have hd2 := (Lit.wf_int_iff .u8 d).1 hd
  rw [show IntKind.u8.min = 0 from rfl, show IntKind.u8.max = 255 from rfl] at hd2
  have CD := Lib.hid (fun W => cls (fun _ => d) 0 W hd2.1 hd2.2)
  have cd15 := kl_lt (fun _ => d) 0
  clear hw r hA hix hd hd2
  generalize kl (fun _ => d) 0 = cc at *
  go_enter Tryf.func3, Tryf.ntmps3
  go_wp2_with fail
  refine H5.out.mono ?_
  rintro e w' ⟨b1, rfl, rfl⟩
  clear H5
  cases b1
  · go_wp2_with fail
    go_ret
    exact ⟨rfl, Below.refl _ _⟩
  by_cases hn2 : n ≤ 65536
  · by_cases h0 : 0 ≤ ix
    · by_cases h1 : ix < n
      · obtain ⟨k, rfl⟩ : ∃ k : Nat, ix = k := ⟨ix.toNat, by omega⟩
        have g1 : decide ((k : Int) < 0) = false := by rw [decide_eq_false_iff_not]; omega
        have g2 : decide (n ≤ k) = false := by rw [decide_eq_false_iff_not]; omega
        have g3 : ¬ n ≤ k := by omega
        have hk : k < n := by omega
        go_wp2_with fail
        refine (clone A n c z _ R.out HA.out (by omega)).mono ?_
        rintro e w1 ⟨A1, c1, rfl, hc1, hc2, hr1, hb1⟩
        obtain ⟨b, o, rfl, hb, hcell⟩ := hr1 (by omega)
        have x1 := hcell k hk
        have z0 := (HZ.out k hk).1
        have z1 := (HZ.out k hk).2
        have q1 : (0 : Int) ≤ (k : Int) := by omega
        have q2 : (k : Int) < (n : Int) := by omega
        have R1 := Lib.hid hr1
        have B1 := Lib.hid hb1
        have HG := Lib.hid (groupW (some ⟨b, o, none⟩) n c1 z HZ.out (by omega) (k + 1) cc cd15 (by omega) w1 hr1)
        have e1 : ((k + 1 : Nat) : Int) = (k : Int) + 1 := by omega
        rw [e1, GS_one] at HG
        have k15 := kl_lt z k
        clear hr1 hb1 hcell e1
        cases hpb : PB (kl z) n (kid cc) (k + 1) with
        | none =>
          rw [hpb] at HG
          unfold GP gv at HG
          clear hpb
          go_wp2_with (first
            | (go_at_call 7; first | (refine (cls z k _ z0 z1).mono ?_; rintro e w' ⟨rfl, rfl⟩) | (refine (CD.out _).mono ?_; rintro e w' ⟨rfl, rfl⟩))
            | (go_at_call 8; refine HG.out.mono ?_; rintro e w' ⟨rfl, hbx⟩))
          go_ret
          exact ⟨rfl, B1.out.trans (hbx.mono B1.out.size)⟩
        | some e0 =>
          rw [hpb] at HG
          unfold GP gv at HG
          have PBH := Lib.hid hpb
          have KD1 := Lib.hid (fun W => kind (kl z k) W k15)
          have KD2 := Lib.hid (fun W => kind cc W cd15)
          clear hpb
          go_wp2_with (first
            | (go_at_call 7; first | (refine (cls z k _ z0 z1).mono ?_; rintro e w' ⟨rfl, rfl⟩) | (refine (CD.out _).mono ?_; rintro e w' ⟨rfl, rfl⟩))
            | (go_at_call 8; refine HG.out.mono ?_; rintro e w' ⟨rfl, hbx⟩))
          have R2 := Lib.hid (R1.out.below hbx)
          have B2 := Lib.hid (B1.out.trans (hbx.mono B1.out.size))
          clear hbx HG R1 B1
          refine (build (some ⟨b, o, none⟩) n c1 z HZ.out _ R2.out (by omega)).mono ?_
          rintro e w2 ⟨g, rfl, hg, ht, hb2⟩
          have T2 := Lib.hid ht
          have B3 := Lib.hid (B2.out.trans (hb2.mono B2.out.size))
          clear ht hb2 R2 B2
          have ZB := Lib.hid (fun s => zzPB g n k e0 cc s z w2 T2.out (by omega) cd15 hk PBH.out)
          clear T2 PBH
          generalize kl z k = ck at *
          go_wp2_with fail
          refine (KD1.out _).mono ?_
          rintro e w' ⟨rfl, rfl⟩
          go_wp2_with fail
          refine (KD2.out _).mono ?_
          rintro e w' ⟨rfl, rfl⟩
          go_wp2_with fail
          refine (ZB.out _).mono ?_
          rintro e w' ⟨rfl, hbx⟩
          go_wp2_with fail
          go_ret
          exact ⟨by simp, B3.out.trans (hbx.mono B3.out.size)⟩
      · have g1 : decide (ix < 0) = false := by rw [decide_eq_false_iff_not]; omega
        have g2 : decide ((n : Int) ≤ ix) = true := by rw [decide_eq_true_eq]; omega
        go_wp2_with fail
        go_ret
        exact ⟨rfl, Below.refl _ _⟩
    · have g1 : decide (ix < 0) = true := by rw [decide_eq_true_eq]; omega
      go_wp2_with fail
      go_ret
      exact ⟨rfl, Below.refl _ _⟩
  · go_wp2_with fail
    go_ret
    exact ⟨rfl, Below.refl _ _⟩
end Go.Proofs.YtajkdjheoefbcaaFmt.ZA

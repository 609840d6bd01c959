/- processContainerName, walked, at a list of names. -/
import Derived.Test.YtmfpgnedeonmiaaDoorHf
namespace Go.Proofs.YtmfpgnedeonmiaaDoor.WA
open Go Go.RowKit Go.Lib Go.Proofs.YtmfpgnedeonmiaaDoor.MP Go.Proofs.YtmfpgnedeonmiaaDoor.SY Go.Proofs.YtmfpgnedeonmiaaDoor.LO Go.Proofs.YtmfpgnedeonmiaaDoor.TB Go.Proofs.YtmfpgnedeonmiaaDoor.OW
set_option linter.unusedVariables false
section
variable {X : Nat → Prop} {W0 w : World} {tb n N cp pb mb : Nat} {ml : Bool} {K : Nat → Int} {T : Nat → ByteArray}
set_option maxRecDepth 100000 in
set_option maxHeartbeats 4000000 in
theorem passN (hT : Tabs W0) (hS : St X W0 w pb mb ml []) (hB : Tab w tb TT 7 N (tkc K T (fun _ => 0))) (htb : W0.heap.size ≤ tb) (hx : X tb) (hs : ∀ i, i < n → (T i).size ≤ 1048576) (hn : n ≤ 1048578) (hnN : n ≤ N) (hid : ∀ i, i < n → K i = 29) :
    Calls Tryd.prog 25 #[.pointer (some ⟨pb, 0, none⟩), .slice (some ⟨tb, 0, none⟩) n cp] w (PassP X W0 w tb N pb mb ml (cvt true n T) K T) := by
  have HT := Lib.hid hT
  have HZ := Lib.hid hs
  have S0 := Lib.hid hS
  have B0 := Lib.hid hB
  have HX := Lib.hid hx
  have HI := Lib.hid hid
  clear hT hS hB hs hx hid
  go_enter Tryd.func25, Tryd.ntmps25
  go_wp2_with fail
  go_loopw [9] (fun i wr => ∃ k : Nat, k ≤ n ∧ i = .int .i64 k ∧ Hid (Below w.heap.size w wr)) (fun i _ => n - (intOf i).toNat)
  case atStart => exact ⟨0, Nat.zero_le _, rfl, Lib.hid (Below.refl _ _)⟩
  case round =>
    obtain ⟨k, hk, rfl, BA⟩ := hrel
    have q1 : (0 : Int) ≤ (k : Int) := by omega
    by_cases hkn : k < n
    · obtain ⟨y0, y1, y2, y3, y4, y5, y6⟩ := row_facts0 (B0.out.below BA.out B0.out.lt) (show k < N by omega)
      have h29 := HI.out k hkn
      rw [h29] at y5
      have q2 : (k : Int) < (n : Int) := by omega
      have htl := (B0.out.below BA.out B0.out.lt).lt
      have r1 : tb ≠ wr.heap.size := by omega
      go_wp2_with fail
      go_roundw
      case rel => exact ⟨k + 1, by omega, by go_num, Lib.hid (BA.out.alloc BA.out.size _)⟩
      case measure => simp [intOf]; omega
    · have q2 : ¬ (k : Int) < (n : Int) := by omega
      go_wp2_with fail
      have SA := Lib.hid (S0.out.below BA.out)
      have TA := Lib.hid (tab_zero (c := cvt true n T) (B0.out.below BA.out B0.out.lt))
      have OA := Lib.hid (Oth.below S0.out.top BA.out)
      clear BA S0 B0
      go_loopw [19] (fun i wr => ∃ q : Nat, q ≤ n ∧ i = .int .i64 q ∧ Hid (Tab wr tb TT 7 N (tkp (cvt true n T) K T q)) ∧ Hid (St X W0 wr pb mb ml (Lt (cvt true n T) T q)) ∧ Hid (Oth X w wr)) (fun i _ => n - (intOf i).toNat)
      case atStart => exact ⟨0, Nat.zero_le _, rfl, TA, SA, OA⟩
      case round =>
        obtain ⟨q, hq, rfl, BB, SS, OO⟩ := hrel
        clear SA TA OA
        have p1 : (0 : Int) ≤ (q : Int) := by omega
        by_cases hqk : q < n
        · have p2 : (q : Int) < (n : Int) := by omega
          have G29 := Lib.hid (HI.out q hqk)
          have SA := SS
          have TA := BB
          have OA := OO
          have HL := Lib.hid (Lt_small (cvt true n T) T q)
          have e1 : Hid (tkp (cvt true n T) K T q q 1 = .string (T q)) := Lib.hid (by unfold tkp; rw [if_neg (by omega)]; rfl)
          have e2 : Hid (tkp (cvt true n T) K T q q 2 = .int .i32 0) := Lib.hid (by unfold tkp; rw [if_neg (by omega)]; rfl)
          have e3 : Hid (∃ p : Int, tkp (cvt true n T) K T q q 3 = .int .u32 p) := Lib.hid ⟨0, by unfold tkp; rw [if_neg (by omega)]; rfl⟩
          have e5 : Hid (tkp (cvt true n T) K T q q 5 = .int .u8 29) := Lib.hid (by unfold tkp; rw [if_neg (by omega), ← G29.out]; rfl)
          cases hr : resB (T q).data.toList
          · have hcn : Hid (cvt true n T q = true) := Lib.hid (by rw [cvt_in hqk, hr]; rfl)
            have HXX := Lib.hid (fun (w1 : World) (hS : St X W0 w1 pb mb ml (Lt (cvt true n T) T q)) (hB : Tab w1 tb TT 7 N (tkp (cvt true n T) K T q)) => hs_yes q HT.out hS hB (show q < N by omega) e1.out e2.out e3.out e5.out (HZ.out q (by omega)) hr htb HX.out HL.out (by omega))
            clear hr
            go_wp2_with (
              go_at_call 26
              refine (HXX.out _ SA.out TA.out).mono ?_
              rintro e w2 ⟨rfl, hS2, hB2, hO2⟩
              have S2 := Lib.hid hS2
              have B2 := Lib.hid hB2
              have O2 := Lib.hid (OA.out.trans hO2)
              clear hS2 hB2 hO2 SA TA OA)
            go_roundw
            case rel => exact ⟨q + 1, by omega, by go_num, Lib.hid (tkp_yes B2.out hcn.out), by rw [Lt_yes hcn.out]; exact S2, O2⟩
            case measure => simp [intOf]; omega
          · have hcn : Hid (cvt true n T q = false) := Lib.hid (by rw [cvt_in hqk, hr]; rfl)
            have HXX := Lib.hid (fun (w1 : World) (hS : St X W0 w1 pb mb ml (Lt (cvt true n T) T q)) (hB : Tab w1 tb TT 7 N (tkp (cvt true n T) K T q)) => hs_no HT.out hS hB (show q < N by omega) e1.out (HZ.out q (by omega)) hr)
            clear hr
            go_wp2_with (
              go_at_call 26
              refine (HXX.out _ SA.out TA.out).mono ?_
              rintro e w2 ⟨rfl, hS2, hB2, hO2⟩
              have S2 := Lib.hid hS2
              have B2 := Lib.hid hB2
              have O2 := Lib.hid (OA.out.trans hO2)
              clear hS2 hB2 hO2 SA TA OA)
            go_roundw
            case rel => exact ⟨q + 1, by omega, by go_num, Lib.hid (tkp_no B2.out hcn.out), by rw [Lt_no hcn.out]; exact S2, O2⟩
            case measure => simp [intOf]; omega
        · have hqe : q = n := by omega
          rw [hqe] at BB SS
          have p2 : ¬ (q : Int) < (n : Int) := by omega
          clear hqe
          go_wp2_with fail
          go_end0
          exact pass_done hnN SS.out BB.out OO.out
set_option maxRecDepth 100000 in
theorem zzPassN (hT : Tabs W0) (hS : St X W0 w pb mb ml []) (hB : Tab w tb TT 7 N (tkc K T (fun _ => 0))) (htb : W0.heap.size ≤ tb) (hx : X tb) (hs : ∀ i, i < n → (T i).size ≤ 1048576) (hn : n ≤ 1048578) (hnN : n ≤ N) (hid : ∀ i, i < n → K i = 29) :
    Calls Tryd.prog 16 #[.pointer (some ⟨pb, 0, none⟩), .slice (some ⟨tb, 0, none⟩) n cp] w (PassP X W0 w tb N pb mb ml (cvt true n T) K T) := by
  have H := Lib.hid (passN (cp := cp) hT hS hB htb hx hs hn hnN hid)
  clear hT hS hB hs hx hid
  go_enter Tryd.func16, Tryd.ntmps16
  go_wp2_with (
    go_at_call 25
    refine H.out.mono ?_
    rintro e w1 ⟨rfl, h1, h2, h3⟩
    have H1 := Lib.hid h1
    have H2 := Lib.hid h2
    have H3 := Lib.hid h3
    clear h1 h2 h3)
  go_end0
  exact ⟨rfl, H1.out, H2.out, H3.out⟩
end
end Go.Proofs.YtmfpgnedeonmiaaDoor.WA

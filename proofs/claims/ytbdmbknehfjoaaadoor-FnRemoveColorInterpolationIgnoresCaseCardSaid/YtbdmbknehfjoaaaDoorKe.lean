/- FnRemoveColorInterpolationIgnoresCase: removeColorInterpolation, walked. Printed by gen_kz.py. -/
import Derived.Test.YtbdmbknehfjoaaaDoorKd
import Derived.Test.YtbdmbknehfjoaaaDoorShelf
import Derived.Deep.CutBlock
import Derived.Test.YtbdmbknehfjoaaaDoorKg
namespace Go.Proofs.YtbdmbknehfjoaaaDoor.ZT
open Go.RowKit Go.Proofs.YtbdmbknehfjoaaaDoor.TB
set_option linter.unusedVariables false
theorem fold16 (s t : ByteArray) (l : List UInt8) (w : World) (hs : s.size ≤ 1048576) (ha : asc s = true) (hl : t.data.toList = l) (hb : ∀ u ∈ l, u.toNat < 128) : Calls Tryd.prog 16 #[.string s, .string t] w fun e w' => e = .returned (.bool (Lib.equalFold s.data.toList l)) ∧ w = w' := by
  subst hl
  exact (Tryd.strings_EqualFold s t w (by omega) (asc_at ha) (fun j u h => hb u (List.mem_of_getElem? h))).mono fun e w' h => ⟨h.1, h.2.symm⟩
theorem low17 (s : ByteArray) (w : World) (hs : s.size ≤ 1048576) (ha : asc s = true) : Calls Tryd.prog 17 #[.string s] w fun e w' => e = .returned (.string (lowS s)) ∧ Below w.heap.size w w' := Tryd.strings_ToLower_ascii s w (by omega) (asc_at ha)
theorem if_some {p : Prop} [Decidable p] {a c : Int} {r : Option Int} (h : (if p then some a else r) = some c) : c = a ∨ r = some c := by
  by_cases hp : p
  · rw [if_pos hp] at h
    exact .inl (Option.some.inj h).symm
  · rw [if_neg hp] at h
    exact .inr h
theorem spc_range {l : List UInt8} {c : Int} (h : spc l = some c) : 0 ≤ c ∧ c < 15 := by
  unfold spc at h
  iterate 15
    rcases if_some h with h1 | h1
    · omega
    clear h
    have h := h1
    clear h1
  cases h
set_option maxRecDepth 100000 in
set_option maxHeartbeats 16000000 in
theorem remove13 (A : Option Addr) (n c : Nat) (K Wf : Nat → Int) (T : Nat → ByteArray) (w : World) (h : TR w A n (tc K T Wf (fun _ => 0))) (hn : n ≤ 65536) (hc : n ≤ c) (hT : ∀ i, i < n → (T i).size ≤ 1048576 ∧ asc (T i) = true) :
    Calls Tryd.prog 13 #[.slice A n c] w (RcP n K T Wf w) := by
  have H := Lib.hid h
  have HT := Lib.hid hT
  clear h hT
  have B0 := Lib.hid (Below.refl w.heap.size w)
  have S0 := Lib.hid (show ∀ j, j < 0 → hit K T j = false from fun j h => absurd h (by omega))
  go_enter Tryd.func13, Tryd.ntmps13
  go_wp2
  go_loopw [6] (fun i wr => ∃ k : Nat, k ≤ n ∧ i = .int .i64 k ∧ Hid (Below w.heap.size w wr) ∧ Hid (∀ j, j < k → hit K T j = false)) (fun i _ => n - (intOf i).toNat)
  case atStart => exact ⟨0, Nat.zero_le _, rfl, B0, S0⟩
  case round =>
    obtain ⟨k, hk, rfl, BB, AL⟩ := hrel
    clear B0 S0
    have wk : IntKind.i64.wrap ((k : Int) + 1) = (k : Int) + 1 := by rw [IntKind.wrap_i64]; omega
    by_cases hlt : k + 1 < n
    · have q0 : (k : Int) + 1 < (n : Int) := by omega
      have q1 : (0 : Int) ≤ (k : Int) := by omega
      have q2 : (k : Int) < (n : Int) := by omega
      have q3 : (0 : Int) ≤ (k : Int) + 1 := by omega
      obtain ⟨b, o, e, hbl, hcc⟩ := (H.out.below BB.out) (by omega)
      subst e
      have HC := Lib.hid hcc
      clear hcc
      have x0 : wr.cell? ⟨b, o + k * 7, none⟩ = some (.pointer none) := HC.out (k) 0 (by omega) (by omega)
      have x1 : wr.cell? ⟨b, o + k * 7 + 1, none⟩ = some (.string (T k)) := HC.out (k) 1 (by omega) (by omega)
      have x2 : wr.cell? ⟨b, o + k * 7 + 2, none⟩ = some (.int .i32 0) := HC.out (k) 2 (by omega) (by omega)
      have x3 : wr.cell? ⟨b, o + k * 7 + 3, none⟩ = some (.int .u32 0) := HC.out (k) 3 (by omega) (by omega)
      have x4 : wr.cell? ⟨b, o + k * 7 + 4, none⟩ = some (.int .u16 0) := HC.out (k) 4 (by omega) (by omega)
      have x5 : wr.cell? ⟨b, o + k * 7 + 5, none⟩ = some (.int .u8 (K k)) := HC.out (k) 5 (by omega) (by omega)
      have x6 : wr.cell? ⟨b, o + k * 7 + 6, none⟩ = some (.int .u8 (Wf k)) := HC.out (k) 6 (by omega) (by omega)
      have ne : ¬ b = wr.heap.size := by omega
      have ne2 : ¬ wr.heap.size = b := by omega
      go_upto_region 5 with fail
      clear x0 x1 x2 x3 x4 x5 x6 ne ne2
      have CB := Lib.hid (show Blk (wr.alloc (.cells #[.pointer none, .string (T k), .int .i32 0, .int .u32 0, .int .u16 0, .int .u8 (K k), .int .u8 (Wf k)] 42)) wr.heap.size 42 #[.pointer none, .string (T k), .int .i32 0, .int .u32 0, .int .u16 0, .int .u8 (K k), .int .u8 (Wf k)] ∧ Below w.heap.size w (wr.alloc (.cells #[.pointer none, .string (T k), .int .i32 0, .int .u32 0, .int .u16 0, .int .u8 (K k), .int .u8 (Wf k)] 42)) ∧ TR (wr.alloc (.cells #[.pointer none, .string (T k), .int .i32 0, .int .u32 0, .int .u16 0, .int .u8 (K k), .int .u8 (Wf k)] 42)) (some ⟨b, o, none⟩) n (tc K T Wf (fun _ => 0)) from ⟨Blk.new _ _ _, BB.out.alloc BB.out.size _, H.out.below (BB.out.alloc BB.out.size _)⟩)
      generalize wr.alloc (.cells #[.pointer none, .string (T k), .int .i32 0, .int .u32 0, .int .u16 0, .int .u8 (K k), .int .u8 (Wf k)] 42) = W1 at *
      generalize wr.heap.size = cb at *
      clear BB HC hbl
      have c5 : W1.cell? ⟨cb, 5, none⟩ = some (.int .u8 (K k)) := CB.out.1.cell 5
      have c1 : W1.cell? ⟨cb, 1, none⟩ = some (.string (T k)) := CB.out.1.cell 1
      cases hk1 : (K k == 29)
      case' false =>
        have NO := Lib.hid (show hit K T k = false by unfold hit; rw [hk1]; rfl)
        go_wp2_with fail
        have AL2 := Lib.hid (show ∀ j, j < k + 1 → hit K T j = false from fun j hj => by
          rcases Nat.lt_or_eq_of_le (Nat.le_of_lt_succ hj) with h1 | h1
          · exact AL.out j h1
          · rw [h1]; exact NO.out)
        first
          | (go_roundw
             case rel => exact ⟨k + 1, by omega, by go_num, Lib.hid CB.out.2.1, AL2⟩
             case measure => simp [intOf]; omega)
          | exact ⟨⟨k + 1, by omega, by go_num, Lib.hid CB.out.2.1, AL2⟩, by simp [intOf]; omega⟩
      case' true =>
        have HIN := Lib.hid (fun W => fold16 (T k) ⟨#[105, 110]⟩ [105, 110] W (HT.out k (by omega)).1 (HT.out k (by omega)).2 rfl (by decide))
        go_wp2_with fail
        refine (HIN.out _).mono ?_
        rintro e W2 ⟨rfl, rfl⟩
        clear HIN c5 c1
        obtain ⟨be, HBE⟩ : ∃ be, Hid (Lib.equalFold (T k).data.toList [105, 110] = be) := ⟨_, Lib.hid rfl⟩
        rw [HBE.out]
        cases be
        case' false =>
          have NO := Lib.hid (show hit K T k = false by unfold hit; rw [hk1, HBE.out]; rfl)
          go_wp2_with fail
          have AL2 := Lib.hid (show ∀ j, j < k + 1 → hit K T j = false from fun j hj => by
            rcases Nat.lt_or_eq_of_le (Nat.le_of_lt_succ hj) with h1 | h1
            · exact AL.out j h1
            · rw [h1]; exact NO.out)
          first
            | (go_roundw
               case rel => exact ⟨k + 1, by omega, by go_num, Lib.hid CB.out.2.1, AL2⟩
               case measure => simp [intOf]; omega)
            | exact ⟨⟨k + 1, by omega, by go_num, Lib.hid CB.out.2.1, AL2⟩, by simp [intOf]; omega⟩
        case' true =>
          obtain ⟨b', o', e, hbl, hcc⟩ := CB.out.2.2 (by omega)
          injection e with e
          injection e with e1 e2
          subst e1 e2
          have HC := Lib.hid hcc
          clear hcc
          have x0 : W1.cell? ⟨b, o + (k + 1) * 7, none⟩ = some (.pointer none) := HC.out (k + 1) 0 (by omega) (by omega)
          have x1 : W1.cell? ⟨b, o + (k + 1) * 7 + 1, none⟩ = some (.string (T (k + 1))) := HC.out (k + 1) 1 (by omega) (by omega)
          have x2 : W1.cell? ⟨b, o + (k + 1) * 7 + 2, none⟩ = some (.int .i32 0) := HC.out (k + 1) 2 (by omega) (by omega)
          have x3 : W1.cell? ⟨b, o + (k + 1) * 7 + 3, none⟩ = some (.int .u32 0) := HC.out (k + 1) 3 (by omega) (by omega)
          have x4 : W1.cell? ⟨b, o + (k + 1) * 7 + 4, none⟩ = some (.int .u16 0) := HC.out (k + 1) 4 (by omega) (by omega)
          have x5 : W1.cell? ⟨b, o + (k + 1) * 7 + 5, none⟩ = some (.int .u8 (K (k + 1))) := HC.out (k + 1) 5 (by omega) (by omega)
          have x6 : W1.cell? ⟨b, o + (k + 1) * 7 + 6, none⟩ = some (.int .u8 (Wf (k + 1))) := HC.out (k + 1) 6 (by omega) (by omega)
          have ne : ¬ b = W1.heap.size := by omega
          have ne2 : ¬ W1.heap.size = b := by omega
          go_upto_region 7 with fail
          clear x0 x1 x2 x3 x4 x5 x6 ne ne2 HC hbl
          have CD := Lib.hid (show Blk (W1.alloc (.cells #[.pointer none, .string (T (k + 1)), .int .i32 0, .int .u32 0, .int .u16 0, .int .u8 (K (k + 1)), .int .u8 (Wf (k + 1))] 42)) W1.heap.size 42 #[.pointer none, .string (T (k + 1)), .int .i32 0, .int .u32 0, .int .u16 0, .int .u8 (K (k + 1)), .int .u8 (Wf (k + 1))] ∧ Below w.heap.size w (W1.alloc (.cells #[.pointer none, .string (T (k + 1)), .int .i32 0, .int .u32 0, .int .u16 0, .int .u8 (K (k + 1)), .int .u8 (Wf (k + 1))] 42)) ∧ TR (W1.alloc (.cells #[.pointer none, .string (T (k + 1)), .int .i32 0, .int .u32 0, .int .u16 0, .int .u8 (K (k + 1)), .int .u8 (Wf (k + 1))] 42)) (some ⟨b, o, none⟩) n (tc K T Wf (fun _ => 0)) from ⟨Blk.new _ _ _, CB.out.2.1.alloc CB.out.2.1.size _, CB.out.2.2.below ((Below.refl _ _).alloc (Nat.le_refl _) _)⟩)
          generalize W1.alloc (.cells #[.pointer none, .string (T (k + 1)), .int .i32 0, .int .u32 0, .int .u16 0, .int .u8 (K (k + 1)), .int .u8 (Wf (k + 1))] 42) = W3 at *
          generalize W1.heap.size = cd at *
          clear CB
          have c5 : W3.cell? ⟨cd, 5, none⟩ = some (.int .u8 (K (k + 1))) := CD.out.1.cell 5
          have c1 : W3.cell? ⟨cd, 1, none⟩ = some (.string (T (k + 1))) := CD.out.1.cell 1
          cases hk2 : (K (k + 1) == 29)
          case' false =>
            have NO := Lib.hid (show hit K T k = false by unfold hit; rw [hk2]; simp)
            go_wp2_with fail
            have AL2 := Lib.hid (show ∀ j, j < k + 1 → hit K T j = false from fun j hj => by
              rcases Nat.lt_or_eq_of_le (Nat.le_of_lt_succ hj) with h1 | h1
              · exact AL.out j h1
              · rw [h1]; exact NO.out)
            first
              | (go_roundw
                 case rel => exact ⟨k + 1, by omega, by go_num, Lib.hid CD.out.2.1, AL2⟩
                 case measure => simp [intOf]; omega)
              | exact ⟨⟨k + 1, by omega, by go_num, Lib.hid CD.out.2.1, AL2⟩, by simp [intOf]; omega⟩
          case' true =>
            have HIT := Lib.hid (rc_hit (n := n) (i := k) (K := K) (T := T) hlt AL.out (by unfold hit; rw [hk1, HBE.out, hk2]; rfl))
            have HLOW := Lib.hid (fun W => low17 (T (k + 1)) W (HT.out (k + 1) (by omega)).1 (HT.out (k + 1) (by omega)).2)
            go_wp2_with fail
            refine (HLOW.out _).mono ?_
            rintro e W4 ⟨rfl, hb4⟩
            have CE := Lib.hid (show Below w.heap.size w W4 ∧ TR W4 (some ⟨b, o, none⟩) n (tc K T Wf (fun _ => 0)) from ⟨CD.out.2.1.trans (hb4.mono CD.out.2.1.size), CD.out.2.2.below hb4⟩)
            clear hb4 CD c5 c1 HLOW AL hk1 hk2
            obtain ⟨L, HL⟩ : ∃ L, Hid (lowS (T (k + 1)) = L) := ⟨_, Lib.hid rfl⟩
            rw [HL.out]
            go_upto_block 2 with fail
            go_cut [9] from 50 to 79 (fun s wx => ∃ cc, s = .int .u8 cc ∧ spc L.toList = some cc ∧ wx = W4)
            case first =>
              cases e0 : (L.toList == [97, 57, 56, 45, 114, 103, 98])
              case true =>
                have NN := Lib.hid (show spc L.toList = some 0 by unfold spc; rw [e0]; rfl)
                go_wp2
                go_meet
                exact ⟨0, rfl, NN.out, rfl⟩
              case false =>
                cases e1 : (L.toList == [100, 105, 115, 112, 108, 97, 121, 45, 112, 51])
                case true =>
                  have NN := Lib.hid (show spc L.toList = some 1 by unfold spc; rw [e0, e1]; rfl)
                  go_wp2
                  go_meet
                  exact ⟨1, rfl, NN.out, rfl⟩
                case false =>
                  cases e2 : (L.toList == [104, 115, 108])
                  case true =>
                    have NN := Lib.hid (show spc L.toList = some 2 by unfold spc; rw [e0, e1, e2]; rfl)
                    go_wp2
                    go_meet
                    exact ⟨2, rfl, NN.out, rfl⟩
                  case false =>
                    cases e3 : (L.toList == [104, 119, 98])
                    case true =>
                      have NN := Lib.hid (show spc L.toList = some 3 by unfold spc; rw [e0, e1, e2, e3]; rfl)
                      go_wp2
                      go_meet
                      exact ⟨3, rfl, NN.out, rfl⟩
                    case false =>
                      cases e4 : (L.toList == [108, 97, 98])
                      case true =>
                        have NN := Lib.hid (show spc L.toList = some 4 by unfold spc; rw [e0, e1, e2, e3, e4]; rfl)
                        go_wp2
                        go_meet
                        exact ⟨4, rfl, NN.out, rfl⟩
                      case false =>
                        cases e5 : (L.toList == [108, 99, 104])
                        case true =>
                          have NN := Lib.hid (show spc L.toList = some 5 by unfold spc; rw [e0, e1, e2, e3, e4, e5]; rfl)
                          go_wp2
                          go_meet
                          exact ⟨5, rfl, NN.out, rfl⟩
                        case false =>
                          cases e6 : (L.toList == [111, 107, 108, 97, 98])
                          case true =>
                            have NN := Lib.hid (show spc L.toList = some 6 by unfold spc; rw [e0, e1, e2, e3, e4, e5, e6]; rfl)
                            go_wp2
                            go_meet
                            exact ⟨6, rfl, NN.out, rfl⟩
                          case false =>
                            cases e7 : (L.toList == [111, 107, 108, 99, 104])
                            case true =>
                              have NN := Lib.hid (show spc L.toList = some 7 by unfold spc; rw [e0, e1, e2, e3, e4, e5, e6, e7]; rfl)
                              go_wp2
                              go_meet
                              exact ⟨7, rfl, NN.out, rfl⟩
                            case false =>
                              cases e8 : (L.toList == [112, 114, 111, 112, 104, 111, 116, 111, 45, 114, 103, 98])
                              case true =>
                                have NN := Lib.hid (show spc L.toList = some 8 by unfold spc; rw [e0, e1, e2, e3, e4, e5, e6, e7, e8]; rfl)
                                go_wp2
                                go_meet
                                exact ⟨8, rfl, NN.out, rfl⟩
                              case false =>
                                cases e9 : (L.toList == [114, 101, 99, 50, 48, 50, 48])
                                case true =>
                                  have NN := Lib.hid (show spc L.toList = some 9 by unfold spc; rw [e0, e1, e2, e3, e4, e5, e6, e7, e8, e9]; rfl)
                                  go_wp2
                                  go_meet
                                  exact ⟨9, rfl, NN.out, rfl⟩
                                case false =>
                                  cases e10 : (L.toList == [115, 114, 103, 98])
                                  case true =>
                                    have NN := Lib.hid (show spc L.toList = some 10 by unfold spc; rw [e0, e1, e2, e3, e4, e5, e6, e7, e8, e9, e10]; rfl)
                                    go_wp2
                                    go_meet
                                    exact ⟨10, rfl, NN.out, rfl⟩
                                  case false =>
                                    cases e11 : (L.toList == [115, 114, 103, 98, 45, 108, 105, 110, 101, 97, 114])
                                    case true =>
                                      have NN := Lib.hid (show spc L.toList = some 11 by unfold spc; rw [e0, e1, e2, e3, e4, e5, e6, e7, e8, e9, e10, e11]; rfl)
                                      go_wp2
                                      go_meet
                                      exact ⟨11, rfl, NN.out, rfl⟩
                                    case false =>
                                      cases e12 : (L.toList == [120, 121, 122])
                                      case true =>
                                        have NN := Lib.hid (show spc L.toList = some 12 by unfold spc; rw [e0, e1, e2, e3, e4, e5, e6, e7, e8, e9, e10, e11, e12]; rfl)
                                        go_wp2
                                        go_meet
                                        exact ⟨12, rfl, NN.out, rfl⟩
                                      case false =>
                                        cases e13 : (L.toList == [120, 121, 122, 45, 100, 53, 48])
                                        case true =>
                                          have NN := Lib.hid (show spc L.toList = some 13 by unfold spc; rw [e0, e1, e2, e3, e4, e5, e6, e7, e8, e9, e10, e11, e12, e13]; rfl)
                                          go_wp2
                                          go_meet
                                          exact ⟨13, rfl, NN.out, rfl⟩
                                        case false =>
                                          cases e14 : (L.toList == [120, 121, 122, 45, 100, 54, 53])
                                          case true =>
                                            have NN := Lib.hid (show spc L.toList = some 14 by unfold spc; rw [e0, e1, e2, e3, e4, e5, e6, e7, e8, e9, e10, e11, e12, e13, e14]; rfl)
                                            go_wp2
                                            go_meet
                                            exact ⟨14, rfl, NN.out, rfl⟩
                                          case false =>
                                            have NN := Lib.hid (show spc L.toList = none by unfold spc; rw [e0, e1, e2, e3, e4, e5, e6, e7, e8, e9, e10, e11, e12, e13, e14]; rfl)
                                            go_wp2
                                            refine bodyPost_ret (v := .tuple #[.slice none 0 0, .int .u8 0, .int .u8 0, .bool false]) (by simp [results, Tryd.results13, go_sem]; done) rfl ?_
                                            exact ⟨CE.out.1, .inl ⟨by rw [HIT.out]; unfold fin; rw [HL.out, NN.out], rfl⟩⟩
            case rest =>
              obtain ⟨cc, rfl, hsp, hw⟩ := hcut
              subst hw
              have SPR := Lib.hid (spc_range hsp)
              obtain ⟨bp, HBP⟩ : ∃ bp, Hid (pol cc = bp) := ⟨_, Lib.hid rfl⟩
              have POL := Lib.hid (show ∀ W : World, Calls Tryd.prog 18 #[.int .u8 cc] W fun e w' => e = .returned (.bool bp) ∧ W = w' from fun W => HBP.out ▸ polar18 cc W SPR.out.1 SPR.out.2)
              have FINN := Lib.hid (show hue n K T k cc = false → fin n K T k = some (k, 2, cc, 0) from fun h => by unfold fin; rw [HL.out, hsp]; show (if hue n K T k cc = true then _ else some (k, 2, cc, 0)) = _; rw [h]; rfl)
              have FINY := Lib.hid (show hue n K T k cc = true → ∀ q, mth (lowS (T (k + 2))).toList = some q → fin n K T k = some (k, 4, cc, q) from fun h q hq => by unfold fin; rw [HL.out, hsp]; show (if hue n K T k cc = true then (match mth (lowS (T (k + 2))).toList with | none => none | some m => some (k, 4, cc, m)) else some (k, 2, cc, 0)) = _; rw [h, if_pos rfl, hq])
              have FINZ := Lib.hid (show hue n K T k cc = true → mth (lowS (T (k + 2))).toList = none → fin n K T k = none from fun h hq => by unfold fin; rw [HL.out, hsp]; show (if hue n K T k cc = true then (match mth (lowS (T (k + 2))).toList with | none => none | some m => some (k, 4, cc, m)) else some (k, 2, cc, 0)) = _; rw [h, if_pos rfl, hq])
              clear hsp
              have wk3 : IntKind.i64.wrap ((k : Int) + 3) = (k : Int) + 3 := by rw [IntKind.wrap_i64]; omega
              have wk2 : IntKind.i64.wrap ((k : Int) + 2) = (k : Int) + 2 := by rw [IntKind.wrap_i64]; omega
              have wk4 : IntKind.i64.wrap ((k : Int) + 4) = (k : Int) + 4 := by rw [IntKind.wrap_i64]; omega
              obtain ⟨W4, hW4⟩ : ∃ W4 : World, wc = W4 := ⟨_, rfl⟩
              rw [hW4] at CE ⊢
              clear hW4
              go_upto_region 44 with fail
              go_cut [88] from 80 to 88 (fun s wx => s = .bool (bp && decide (k + 3 < n)) ∧ wx = W4)
              case first =>
                cases bp
                case false =>
                  go_wp2_with (first | (refine (POL.out _).mono ?_; rintro e_ w9 ⟨rfl, rfl⟩))
                  go_meet
                  exact ⟨rfl, rfl⟩
                case true =>
                  by_cases h3 : k + 3 < n
                  · have q5 : (k : Int) + 3 < (n : Int) := by omega
                    go_wp2_with (first | (refine (POL.out _).mono ?_; rintro e_ w9 ⟨rfl, rfl⟩))
                    go_meet
                    exact ⟨by first | (simp [h3]; done) | (simp [h3]; omega) | (simp; omega), rfl⟩
                  · have q5 : ¬ (k : Int) + 3 < (n : Int) := by omega
                    go_wp2_with (first | (refine (POL.out _).mono ?_; rintro e_ w9 ⟨rfl, rfl⟩))
                    go_meet
                    exact ⟨by first | (simp [h3]; done) | (simp [h3]; omega) | (simp; omega), rfl⟩
              case rest =>
                obtain ⟨rfl, hw⟩ := hcut
                subst hw
                obtain ⟨W5, hW5⟩ : ∃ W5 : World, wc = W5 := ⟨_, rfl⟩
                rw [hW5] at CE ⊢
                clear hW5
                obtain ⟨bq, HBQ⟩ : ∃ bq, Hid ((bp && decide (k + 3 < n)) = bq) := ⟨_, Lib.hid rfl⟩
                rw [HBQ.out]
                go_upto_if 88 with fail
                go_cut [10, 12] from 89 to 122 (fun s t wx => ∃ (mm : Int) (d en : Nat), s = .int .u8 mm ∧ t = .int .i64 (en : Int) ∧ en = k + d ∧ fin n K T k = some (k, d, cc, mm) ∧ (d = 2 ∨ (d = 4 ∧ k + 4 ≤ n)) ∧ Hid (Below w.heap.size w wx ∧ TR wx (some ⟨b, o, none⟩) n (tc K T Wf (fun _ => 0))))
                case first =>
                  have CF := Lib.hid CE.out
                  clear CE
                  cases bq
                  case false =>
                    go_wp2_with fail
                    go_meet
                    exact ⟨0, 2, k + 2, rfl, by simp, rfl, FINN.out (by unfold hue; rw [HBP.out, ← Bool.and_assoc, HBQ.out]; rfl), .inl rfl, CF⟩
                  case true =>
                    have h3 : bp = true ∧ k + 3 < n := by have := HBQ.out; simpa using this
                    obtain ⟨hbp, h3⟩ := h3
                    have q5 : (k : Int) + 3 < (n : Int) := by omega
                    have q6 : (0 : Int) ≤ (k : Int) + 3 := by omega
                    have q7 : (k : Int) + 2 < (n : Int) := by omega
                    have q8 : (0 : Int) ≤ (k : Int) + 2 := by omega
                    have HUE := Lib.hid (show hue n K T k cc = ((K (k + 3) == 29 && Lib.equalFold (T (k + 3)).data.toList [104, 117, 101]) && K (k + 2) == 29) from by unfold hue; rw [HBP.out, hbp]; simp [h3])
                    clear hbp
                    obtain ⟨b', o', e, hbl, hcc⟩ := CF.out.2 (by omega)
                    injection e with e
                    injection e with e1 e2
                    subst e1 e2
                    have HC := Lib.hid hcc
                    clear hcc
                    have x0 : W5.cell? ⟨b, o + (k + 3) * 7, none⟩ = some (.pointer none) := HC.out (k + 3) 0 (by omega) (by omega)
                    have x1 : W5.cell? ⟨b, o + (k + 3) * 7 + 1, none⟩ = some (.string (T (k + 3))) := HC.out (k + 3) 1 (by omega) (by omega)
                    have x2 : W5.cell? ⟨b, o + (k + 3) * 7 + 2, none⟩ = some (.int .i32 0) := HC.out (k + 3) 2 (by omega) (by omega)
                    have x3 : W5.cell? ⟨b, o + (k + 3) * 7 + 3, none⟩ = some (.int .u32 0) := HC.out (k + 3) 3 (by omega) (by omega)
                    have x4 : W5.cell? ⟨b, o + (k + 3) * 7 + 4, none⟩ = some (.int .u16 0) := HC.out (k + 3) 4 (by omega) (by omega)
                    have x5 : W5.cell? ⟨b, o + (k + 3) * 7 + 5, none⟩ = some (.int .u8 (K (k + 3))) := HC.out (k + 3) 5 (by omega) (by omega)
                    have x6 : W5.cell? ⟨b, o + (k + 3) * 7 + 6, none⟩ = some (.int .u8 (Wf (k + 3))) := HC.out (k + 3) 6 (by omega) (by omega)
                    have ne : ¬ b = W5.heap.size := by omega
                    have ne2 : ¬ W5.heap.size = b := by omega
                    go_upto_region 46 with fail
                    clear x0 x1 x2 x3 x4 x5 x6 ne ne2 HC hbl
                    have CG := Lib.hid (show Blk (W5.alloc (.cells #[.pointer none, .string (T (k + 3)), .int .i32 0, .int .u32 0, .int .u16 0, .int .u8 (K (k + 3)), .int .u8 (Wf (k + 3))] 42)) W5.heap.size 42 #[.pointer none, .string (T (k + 3)), .int .i32 0, .int .u32 0, .int .u16 0, .int .u8 (K (k + 3)), .int .u8 (Wf (k + 3))] ∧ Below w.heap.size w (W5.alloc (.cells #[.pointer none, .string (T (k + 3)), .int .i32 0, .int .u32 0, .int .u16 0, .int .u8 (K (k + 3)), .int .u8 (Wf (k + 3))] 42)) ∧ TR (W5.alloc (.cells #[.pointer none, .string (T (k + 3)), .int .i32 0, .int .u32 0, .int .u16 0, .int .u8 (K (k + 3)), .int .u8 (Wf (k + 3))] 42)) (some ⟨b, o, none⟩) n (tc K T Wf (fun _ => 0)) from ⟨Blk.new _ _ _, CF.out.1.alloc CF.out.1.size _, CF.out.2.below ((Below.refl _ _).alloc (Nat.le_refl _) _)⟩)
                    generalize W5.alloc (.cells #[.pointer none, .string (T (k + 3)), .int .i32 0, .int .u32 0, .int .u16 0, .int .u8 (K (k + 3)), .int .u8 (Wf (k + 3))] 42) = W6 at *
                    generalize W5.heap.size = ce at *
                    clear CF
                    have CF := Lib.hid CG.out.2
                    have c5 : W6.cell? ⟨ce, 5, none⟩ = some (.int .u8 (K (k + 3))) := CG.out.1.cell 5
                    have c1 : W6.cell? ⟨ce, 1, none⟩ = some (.string (T (k + 3))) := CG.out.1.cell 1
                    cases hk3 : (K (k + 3) == 29)
                    case false =>
                      go_wp2_with fail
                      go_meet
                      exact ⟨0, 2, k + 2, rfl, by simp, rfl, FINN.out (by rw [HUE.out, hk3]; rfl), .inl rfl, CF⟩
                    case true =>
                      have HHU := Lib.hid (fun W => fold16 (T (k + 3)) ⟨#[104, 117, 101]⟩ [104, 117, 101] W (HT.out (k + 3) (by omega)).1 (HT.out (k + 3) (by omega)).2 rfl (by decide))
                      go_wp2_with fail
                      refine (HHU.out _).mono ?_
                      rintro e W7 ⟨rfl, rfl⟩
                      clear HHU c5 c1
                      obtain ⟨bh, HBH⟩ : ∃ bh, Hid (Lib.equalFold (T (k + 3)).data.toList [104, 117, 101] = bh) := ⟨_, Lib.hid rfl⟩
                      rw [HBH.out]
                      cases bh
                      case false =>
                        go_wp2_with fail
                        go_meet
                        exact ⟨0, 2, k + 2, rfl, by simp, rfl, FINN.out (by rw [HUE.out, hk3, HBH.out]; rfl), .inl rfl, CF⟩
                      case true =>
                        clear CG
                        obtain ⟨b', o', e, hbl, hcc⟩ := CF.out.2 (by omega)
                        injection e with e
                        injection e with e1 e2
                        subst e1 e2
                        have HC := Lib.hid hcc
                        clear hcc
                        have x0 : W6.cell? ⟨b, o + (k + 2) * 7, none⟩ = some (.pointer none) := HC.out (k + 2) 0 (by omega) (by omega)
                        have x1 : W6.cell? ⟨b, o + (k + 2) * 7 + 1, none⟩ = some (.string (T (k + 2))) := HC.out (k + 2) 1 (by omega) (by omega)
                        have x2 : W6.cell? ⟨b, o + (k + 2) * 7 + 2, none⟩ = some (.int .i32 0) := HC.out (k + 2) 2 (by omega) (by omega)
                        have x3 : W6.cell? ⟨b, o + (k + 2) * 7 + 3, none⟩ = some (.int .u32 0) := HC.out (k + 2) 3 (by omega) (by omega)
                        have x4 : W6.cell? ⟨b, o + (k + 2) * 7 + 4, none⟩ = some (.int .u16 0) := HC.out (k + 2) 4 (by omega) (by omega)
                        have x5 : W6.cell? ⟨b, o + (k + 2) * 7 + 5, none⟩ = some (.int .u8 (K (k + 2))) := HC.out (k + 2) 5 (by omega) (by omega)
                        have x6 : W6.cell? ⟨b, o + (k + 2) * 7 + 6, none⟩ = some (.int .u8 (Wf (k + 2))) := HC.out (k + 2) 6 (by omega) (by omega)
                        have ne : ¬ b = W6.heap.size := by omega
                        have ne2 : ¬ W6.heap.size = b := by omega
                        go_upto_region 48 with fail
                        clear x0 x1 x2 x3 x4 x5 x6 ne ne2 HC hbl
                        have CG := Lib.hid (show Blk (W6.alloc (.cells #[.pointer none, .string (T (k + 2)), .int .i32 0, .int .u32 0, .int .u16 0, .int .u8 (K (k + 2)), .int .u8 (Wf (k + 2))] 42)) W6.heap.size 42 #[.pointer none, .string (T (k + 2)), .int .i32 0, .int .u32 0, .int .u16 0, .int .u8 (K (k + 2)), .int .u8 (Wf (k + 2))] ∧ Below w.heap.size w (W6.alloc (.cells #[.pointer none, .string (T (k + 2)), .int .i32 0, .int .u32 0, .int .u16 0, .int .u8 (K (k + 2)), .int .u8 (Wf (k + 2))] 42)) ∧ TR (W6.alloc (.cells #[.pointer none, .string (T (k + 2)), .int .i32 0, .int .u32 0, .int .u16 0, .int .u8 (K (k + 2)), .int .u8 (Wf (k + 2))] 42)) (some ⟨b, o, none⟩) n (tc K T Wf (fun _ => 0)) from ⟨Blk.new _ _ _, CF.out.1.alloc CF.out.1.size _, CF.out.2.below ((Below.refl _ _).alloc (Nat.le_refl _) _)⟩)
                        generalize W6.alloc (.cells #[.pointer none, .string (T (k + 2)), .int .i32 0, .int .u32 0, .int .u16 0, .int .u8 (K (k + 2)), .int .u8 (Wf (k + 2))] 42) = W8 at *
                        generalize W6.heap.size = cg at *
                        clear CF
                        have CF := Lib.hid CG.out.2
                        have c5 : W8.cell? ⟨cg, 5, none⟩ = some (.int .u8 (K (k + 2))) := CG.out.1.cell 5
                        have c1 : W8.cell? ⟨cg, 1, none⟩ = some (.string (T (k + 2))) := CG.out.1.cell 1
                        cases hk4 : (K (k + 2) == 29)
                        case false =>
                          go_wp2_with fail
                          go_meet
                          exact ⟨0, 2, k + 2, rfl, by simp, rfl, FINN.out (by rw [HUE.out, hk3, HBH.out, hk4]; rfl), .inl rfl, CF⟩
                        case true =>
                          have HYE := Lib.hid (show hue n K T k cc = true by rw [HUE.out, hk3, HBH.out, hk4]; rfl)
                          have HLM := Lib.hid (fun W => low17 (T (k + 2)) W (HT.out (k + 2) (by omega)).1 (HT.out (k + 2) (by omega)).2)
                          go_wp2_with fail
                          refine (HLM.out _).mono ?_
                          rintro e W9 ⟨rfl, hb9⟩
                          have CFN := Lib.hid (show Below w.heap.size w W9 ∧ TR W9 (some ⟨b, o, none⟩) n (tc K T Wf (fun _ => 0)) from ⟨CF.out.1.trans (hb9.mono CF.out.1.size), CF.out.2.below hb9⟩)
                          clear hb9 CF CG c5 c1 HLM hk3 hk4 HBH HUE
                          have CF := CFN
                          clear CFN
                          obtain ⟨M, HM⟩ : ∃ M, Hid (lowS (T (k + 2)) = M) := ⟨_, Lib.hid rfl⟩
                          rw [HM.out]
                          have FINH := Lib.hid (show ∀ _ : Unit, mth M.toList = none → fin n K T k = none from fun _ h => FINZ.out HYE.out (by rw [HM.out]; exact h))
                          go_upto_block 3 with fail
                          go_cut [10] from 113 to 120 (fun s wx => ∃ mm, s = .int .u8 mm ∧ mth M.toList = some mm ∧ wx = W9)
                          case first =>
                            cases m0 : (M.toList == [115, 104, 111, 114, 116, 101, 114])
                            case true =>
                              have NN := Lib.hid (show mth M.toList = some 0 by unfold mth; rw [m0]; rfl)
                              go_wp2
                              go_meet
                              exact ⟨0, rfl, NN.out, rfl⟩
                            case false =>
                              cases m1 : (M.toList == [108, 111, 110, 103, 101, 114])
                              case true =>
                                have NN := Lib.hid (show mth M.toList = some 1 by unfold mth; rw [m0, m1]; rfl)
                                go_wp2
                                go_meet
                                exact ⟨1, rfl, NN.out, rfl⟩
                              case false =>
                                cases m2 : (M.toList == [105, 110, 99, 114, 101, 97, 115, 105, 110, 103])
                                case true =>
                                  have NN := Lib.hid (show mth M.toList = some 2 by unfold mth; rw [m0, m1, m2]; rfl)
                                  go_wp2
                                  go_meet
                                  exact ⟨2, rfl, NN.out, rfl⟩
                                case false =>
                                  cases m3 : (M.toList == [100, 101, 99, 114, 101, 97, 115, 105, 110, 103])
                                  case true =>
                                    have NN := Lib.hid (show mth M.toList = some 3 by unfold mth; rw [m0, m1, m2, m3]; rfl)
                                    go_wp2
                                    go_meet
                                    exact ⟨3, rfl, NN.out, rfl⟩
                                  case false =>
                                    have NN := Lib.hid (show mth M.toList = none by unfold mth; rw [m0, m1, m2, m3]; rfl)
                                    go_wp2
                                    refine bodyPost_ret (v := .tuple #[.slice none 0 0, .int .u8 0, .int .u8 0, .bool false]) (by simp [results, Tryd.results13, go_sem]; done) rfl ?_
                                    exact ⟨CF.out.1, .inl ⟨HIT.out.trans (FINH.out () NN.out), rfl⟩⟩
                          case rest =>
                            obtain ⟨mm, rfl, hmm, hw⟩ := hcut
                            subst hw
                            go_wp2_with fail
                            go_meet
                            exact ⟨mm, 4, k + 4, rfl, by simp, rfl, FINY.out HYE.out mm (by rw [HM.out]; exact hmm), .inr ⟨rfl, by omega⟩, CF⟩
                case rest =>
                  obtain ⟨mm, d, en, rfl, rfl, hen, hfin, hd, CH⟩ := hcut
                  obtain ⟨W6, hW6⟩ : ∃ W6 : World, wc = W6 := ⟨_, rfl⟩
                  rw [hW6] at CH ⊢
                  clear hW6
                  have HF := Lib.hid (HIT.out.trans hfin)
                  clear hfin
                  have hkd : k + d ≤ n := by omega
                  have hke : en ≤ n := by omega
                  have HEN := Lib.hid hen
                  have HD := Lib.hid hkd
                  clear hd hen hkd
                  obtain ⟨b', o', e, hbl, hcc⟩ := CH.out.2 (by omega)
                  injection e with e
                  injection e with e1 e2
                  subst e1 e2
                  have HC := Lib.hid (And.intro hbl hcc)
                  clear hcc hbl
                  have s1 : (0 : Int) ≤ (k : Int) := by omega
                  have s2 : (k : Int) ≤ (c : Int) := by omega
                  have s3 : (0 : Int) ≤ (en : Int) := by omega
                  have s4 : (en : Int) ≤ (n : Int) := by omega
                  have s5 : (n : Int) ≤ (c : Int) := by omega
                  have B6 := Lib.hid (CH.out.1)
                  have OW0 := Lib.hid (show (W6.alloc (.cells #[] 42)).drew.ownsRow w.heap.size 42 7 (.slice (some ⟨W6.heap.size, 0, none⟩) 0 0) 0 [] from World.ownsRow_lit (base := w.heap.size) (e := 42) (size := 7) W6 #[] 0 B6.out.size (by unfold maxLen; omega) rfl)
                  have NEW1 := Lib.hid (show ∀ W : World, Below W6.heap.size W6 W → ∀ j u, (tl K T Wf 0 k)[j]? = some u → W.cell? ((⟨b, o, none⟩ : Addr).add j) = some u from fun W hb => tl_cells (n := n) (fun i j hi hj => (hb.cell HC.out.1).trans (HC.out.2 i j hi hj)) (by omega) o (by omega))
                  have NEW2 := Lib.hid (show ∀ W W' : World, Below W6.heap.size W6 W → W.grownBy W' (some W6.heap.size) → ∀ j u, (tl K T Wf en (n - en))[j]? = some u → W'.cell? ((⟨b, o + en * 7, none⟩ : Addr).add j) = some u from fun W W' hb hg => tl_cells (n := n) (fun i j hi hj => hg.cell ((hb.cell HC.out.1).trans (HC.out.2 i j hi hj)) (by have := HC.out.1; intro e; injection e with e; have e2 : b = W6.heap.size := e; omega)) (by omega) _ rfl)
                  have NEW3 := Lib.hid (show ∀ W : World, Below W6.heap.size W6 W → ∀ j u, (tl K T Wf en (n - en))[j]? = some u → W.cell? ((⟨b, o + en * 7, none⟩ : Addr).add j) = some u from fun W hb => tl_cells (n := n) (fun i j hi hj => (hb.cell HC.out.1).trans (HC.out.2 i j hi hj)) (by omega) _ rfl)
                  have BA := Lib.hid (show Below W6.heap.size W6 (W6.alloc (.cells #[] 42)).drew from ((Below.refl _ _).alloc (Nat.le_refl _) _).drew)
                  have END1 := Lib.hid (fun (gg cap : Nat) (w10 : World) (gh caq : Nat) (w11 : World) (h1 : w10.ownsRow w.heap.size 42 7 (.slice (some ⟨gg, 0, none⟩) k cap) k ([] ++ tl K T Wf 0 k)) (h2 : (W6.alloc (.cells #[] 42)).drew.grownBy w10 (some W6.heap.size)) (h3 : some W6.heap.size = some gg ∨ gg = W6.heap.size + 1) (h4 : gg < w10.heap.size)
                      (h5 : w11.ownsRow w.heap.size 42 7 (.slice (some ⟨gh, 0, none⟩) (k + (n - en)) caq) (k + (n - en)) (([] ++ tl K T Wf 0 k) ++ tl K T Wf en (n - en))) (h6 : w10.grownBy w11 (some gg)) (h7 : some gg = some gh ∨ gh = w10.heap.size) =>
                      show Tap w11 gh 42 7 (n - d) (fun i j => tc K T Wf (fun _ => 0) (skp k d i) j) ∧ n - d ≤ caq ∧ Below w.heap.size w w11 ∧ w.heap.size ≤ gh from app_end B6.out (by rw [← HEN.out]; exact hke) HEN.out h1 h2 h3 h5 h6 h7)
                  have GS := Lib.hid (show (W6.alloc (.cells #[] 42)).drew.heap.size = W6.heap.size + 1 from by show (W6.alloc (.cells #[] 42)).heap.size = W6.heap.size + 1; simp)
                  have GH := Lib.hid (show W6.heap.size < (W6.alloc (.cells #[] 42)).drew.heap.size from by rw [GS.out]; omega)
                  go_upto_region 60 with fail
                  go_cut [15] from 123 to 131 (fun s wx => ∃ gh caq, s = .slice (some ⟨gh, 0, none⟩) (n - d) caq ∧ Tap wx gh 42 7 (n - d) (fun i j => tc K T Wf (fun _ => 0) (skp k d i) j) ∧ n - d ≤ caq ∧ Below w.heap.size w wx ∧ w.heap.size ≤ gh)
                  case first => -- kept in DEVK
                    by_cases hk0 : 0 < k
                    case pos =>
                      have HND := Lib.hid (show n - d = k + (n - en) by have h1 := HEN.out; have h2 := HD.out; omega)
                      by_cases hm0 : 0 < n - en
                      case pos =>
                        have hce : ¬ c = en := by omega
                        go_region_law (first | (refine app_lies (by rfl) _ _ (by rfl) W6.heap.size 0 0 (by rfl) b o k c (by rfl) w.heap.size [] (tl K T Wf 0 k) OW0.out (tl_len k) (NEW1.out _ BA.out) (tl_one k) hk0 (by omega) (Nat.le_trans B6.out.size BA.out.size) (W6.heap.size + 1) (by show (W6.alloc (.cells #[] 42)).heap.size = W6.heap.size + 1; simp) ?_; intro gg cap w10 hown1 hgrow hat hlt9; rw [Nat.zero_add] at hown1; have G1 := Lib.hid (And.intro hown1 (And.intro hgrow (And.intro hat hlt9))); clear hown1 hgrow hat hlt9; rw [Nat.zero_add]) | (refine app_lies (by rfl) _ _ (by rfl) gg k cap (by rfl) b (o + en * 7) (n - en) (c - en) (by rfl) w.heap.size ([] ++ tl K T Wf 0 k) (tl K T Wf en (n - en)) G1.out.1 (tl_len _) (NEW2.out _ _ BA.out G1.out.2.1) (tl_one _) hm0 (by have h1 := HEN.out; have h2 := HD.out; omega) (by have h1 := B6.out.size; have h2 := BA.out.size; have h3 := G1.out.2.1.size; omega) w10.heap.size (by rfl) ?_; intro gh caq w11 hown2 hgrow2 hat2 hlt9; have G2 := Lib.hid (END1.out _ _ _ _ _ _ G1.out.1 G1.out.2.1 G1.out.2.2.1 G1.out.2.2.2 hown2 hgrow2 hat2); clear hown2 hgrow2 hat2 hlt9))
                        all_goals
                          go_wp2
                          go_meet
                          exact ⟨gh, caq, congrArg (fun m => Value.slice _ m _) HND.out.symm, G2.out⟩
                      case neg =>
                        have HZ := Lib.hid (show n - en = 0 by omega)
                        have HND2 := Lib.hid (show k = n - d by have h1 := HEN.out; have h2 := HD.out; omega)
                        have t1 : (k : Int) ≤ (en : Int) := by have h1 := HEN.out; omega
                        have t2 : (n : Int) ≤ (en : Int) := by omega
                        clear hm0
                        obtain ⟨pp, hce⟩ : ∃ pp : Prop, (c = en) = pp := ⟨_, rfl⟩
                        have hcc : pp = True ∨ pp = False := by by_cases q : pp; exact .inl (eq_true q); exact .inr (eq_false q)
                        rcases hcc with rfl | rfl
                        all_goals
                          go_region_law (first | (refine app_lies (by rfl) _ _ (by rfl) W6.heap.size 0 0 (by rfl) b o k c (by rfl) w.heap.size [] (tl K T Wf 0 k) OW0.out (tl_len k) (NEW1.out _ BA.out) (tl_one k) hk0 (by omega) (Nat.le_trans B6.out.size BA.out.size) (W6.heap.size + 1) (by show (W6.alloc (.cells #[] 42)).heap.size = W6.heap.size + 1; simp) ?_; intro gg cap w10 hown1 hgrow hat hlt9; rw [Nat.zero_add] at hown1; have G1 := Lib.hid (And.intro hown1 (And.intro hgrow (And.intro hat hlt9))); clear hown1 hgrow hat hlt9; rw [Nat.zero_add]) | (refine app_none (by rfl) _ _ (by rfl) gg k cap (by rfl) (own_cap G1.out.1) _ _ (slice_zero (by rfl) HZ.out) ?_; have G2 := Lib.hid (END1.out _ _ _ _ _ _ G1.out.1 G1.out.2.1 G1.out.2.2.1 G1.out.2.2.2 (own_nil G1.out.1 HZ.out) (gb_refl _ _) (.inl rfl))))
                          all_goals
                            go_wp2
                            go_meet
                            exact ⟨gg, cap, congrArg (fun m => Value.slice _ m _) HND2.out, G2.out⟩
                    case neg =>
                      have HKZ := Lib.hid (show k = 0 by omega)
                      have HND := Lib.hid (show n - d = n - en by have h1 := HEN.out; have h2 := HD.out; omega)
                      have OW1 := Lib.hid (show (W6.alloc (.cells #[] 42)).drew.ownsRow w.heap.size 42 7 (.slice (some ⟨W6.heap.size, 0, none⟩) 0 0) 0 ([] ++ tl K T Wf 0 k) from by rw [HKZ.out]; exact OW0.out)
                      clear hk0
                      by_cases hm0 : 0 < n - en
                      case pos =>
                        have hce : ¬ c = en := by omega
                        go_region_law (first | (refine app_none (by rfl) _ _ (by rfl) W6.heap.size 0 0 (by rfl) (Nat.le_refl _) _ _ (slice_zero (by rfl) HKZ.out) ?_) | (refine app_lies (by rfl) _ _ (by rfl) W6.heap.size 0 0 (by rfl) b (o + en * 7) (n - en) (c - en) (by rfl) w.heap.size ([] ++ tl K T Wf 0 k) (tl K T Wf en (n - en)) OW1.out (tl_len _) (NEW3.out _ BA.out) (tl_one _) hm0 (by have h1 := HEN.out; have h2 := HD.out; omega) (Nat.le_trans B6.out.size BA.out.size) (W6.heap.size + 1) (by show (W6.alloc (.cells #[] 42)).heap.size = W6.heap.size + 1; simp) ?_; intro gh caq w11 hown2 hgrow2 hat2 hlt9; have G2 := Lib.hid (END1.out _ 0 _ _ _ _ (own_z OW1.out HKZ.out) (gb_refl _ _) (.inl rfl) GH.out (own_zz hown2 HKZ.out) hgrow2 (by rw [GS.out]; exact hat2)); clear hown2 hgrow2 hat2 hlt9))
                        all_goals
                          go_wp2
                          go_meet
                          exact ⟨gh, caq, congrArg (fun m => Value.slice _ m _) HND.out.symm, G2.out⟩
                      case neg =>
                        have HZ := Lib.hid (show n - en = 0 by omega)
                        have HND2 := Lib.hid (show 0 = n - d by have h3 := HKZ.out; have h1 := HEN.out; have h2 := HD.out; omega)
                        have t1 : (k : Int) ≤ (en : Int) := by have h1 := HEN.out; omega
                        have t2 : (n : Int) ≤ (en : Int) := by omega
                        clear hm0
                        obtain ⟨pp, hce⟩ : ∃ pp : Prop, (c = en) = pp := ⟨_, rfl⟩
                        have hcc : pp = True ∨ pp = False := by by_cases q : pp; exact .inl (eq_true q); exact .inr (eq_false q)
                        rcases hcc with rfl | rfl
                        all_goals
                          go_region_law (first | (refine app_none (by rfl) _ _ (by rfl) W6.heap.size 0 0 (by rfl) (Nat.le_refl _) _ _ (slice_zero (by rfl) HKZ.out) ?_) | (refine app_none (by rfl) _ _ (by rfl) W6.heap.size 0 0 (by rfl) (Nat.le_refl _) _ _ (slice_zero (by rfl) HZ.out) ?_; have G2 := Lib.hid (END1.out _ 0 _ _ 0 _ (own_z OW1.out HKZ.out) (gb_refl _ _) (.inl rfl) GH.out (own_nil (own_z OW1.out HKZ.out) HZ.out) (gb_refl _ _) (.inl rfl))))
                          all_goals
                            go_wp2
                            go_meet
                            exact ⟨W6.heap.size, 0, congrArg (fun m => Value.slice _ m _) HND2.out, G2.out⟩
                  case rest =>
                    obtain ⟨gh, caq, rfl, hG⟩ := hcut
                    obtain ⟨W11, hW11⟩ : ∃ W11 : World, wc = W11 := ⟨_, rfl⟩
                    rw [hW11] at hG ⊢
                    clear hW11
                    have RET := Lib.hid (show ∀ m A' W', n - d = m → TR W' (some A') m (tc (fun j => K (skp k d j)) (fun j => T (skp k d j)) (wsR Wf k d m) (fun _ => 0)) → Below w.heap.size w W' → RcP n K T Wf w (.returned (.tuple #[.slice (some A') m caq, .int .u8 cc, .int .u8 mm, .bool true])) W' from fun m A' W' hm ht hb => by subst hm; exact ⟨hb, .inr ⟨k, d, cc, mm, A', caq, HF.out, HD.out, rfl, ht⟩⟩)
                    obtain ⟨m, HMM⟩ : ∃ m, Hid (n - d = m) := ⟨_, Lib.hid rfl⟩
                    have hmn : m ≤ n := by have := HMM.out; omega
                    rw [HMM.out] at hG ⊢
                    have G2 := Lib.hid hG
                    clear hG
                    by_cases hm0 : 0 < m
                    case neg =>
                      have q9 : ¬ (0 : Int) < (m : Int) := by omega
                      go_wp2_with fail
                      refine bodyPost_ret (v := .tuple #[.slice (some ⟨gh, 0, none⟩) m caq, .int .u8 cc, .int .u8 mm, .bool true]) (by simp [results, Tryd.results13, go_sem]; done) rfl ?_
                      exact RET.out m _ _ HMM.out (fun h => absurd h hm0) G2.out.2.2.1
                    case pos =>
                      obtain ⟨m1, rfl⟩ : ∃ m1, m = m1 + 1 := ⟨m - 1, by omega⟩
                      have y6 : W11.cell? ⟨gh, 6, none⟩ = some (.int .u8 (Wf (skp k d 0))) := G2.out.1.cell (i := 0) (j := 6) (by omega) (by omega)
                      have f6 : W11.frozen? ⟨gh, 6, none⟩ = false := G2.out.1.frozen 6
                      have q9 : (0 : Int) < (m1 : Int) + 1 := by omega
                      have q10 : ¬ (m1 : Int) + 1 ≤ 0 := by omega
                      have wm : IntKind.i64.wrap ((m1 : Int) + 1 - 1) = (m1 : Int) := by rw [IntKind.wrap_i64]; omega
                      have wm2 : IntKind.i64.wrap (m1 : Int) = (m1 : Int) := by rw [IntKind.wrap_i64]; omega
                      by_cases hm1 : m1 = 0
                      case pos =>
                        subst hm1
                        go_wp2_with fail
                        refine bodyPost_ret (v := .tuple #[.slice (some ⟨gh, 0, none⟩) (0 + 1) caq, .int .u8 cc, .int .u8 mm, .bool true]) (by simp [results, Tryd.results13, go_sem]; done) rfl ?_
                        refine RET.out (0 + 1) _ _ HMM.out (tap_TR (G2.out.1.ends (by omega))) ((G2.out.2.2.1.setCell (p := ⟨gh, 6, none⟩) G2.out.2.2.2 _).setCell G2.out.2.2.2 _)
                      case neg =>
                        have z6 : W11.cell? ⟨gh, m1 * 7 + 6, none⟩ = some (.int .u8 (Wf (skp k d m1))) := G2.out.1.cell (i := m1) (j := 6) (by omega) (by omega)
                        have g6 : W11.frozen? ⟨gh, m1 * 7 + 6, none⟩ = false := G2.out.1.frozen _
                        have ne1 : ¬ m1 * 7 + 6 = 6 := by omega
                        have ne2 : ¬ 6 = m1 * 7 + 6 := by omega
                        go_wp2_with fail
                        have HE := G2.out.1.ends (by omega)
                        rw [if_neg (by omega), Nat.add_sub_cancel] at HE
                        refine bodyPost_ret (v := .tuple #[.slice (some ⟨gh, 0, none⟩) (m1 + 1) caq, .int .u8 cc, .int .u8 mm, .bool true]) (by simp [results, Tryd.results13, go_sem]; done) rfl ?_
                        refine RET.out (m1 + 1) _ _ HMM.out (tap_TR HE) ((G2.out.2.2.1.setCell (p := ⟨gh, 6, none⟩) G2.out.2.2.2 _).setCell G2.out.2.2.2 _)
    · have q0 : ¬ (k : Int) + 1 < (n : Int) := by omega
      have NONE := Lib.hid (rc_end (n := n) (K := K) (T := T) fun j hj => AL.out j (by omega))
      go_wp2
      refine bodyPost_ret (v := .tuple #[.slice none 0 0, .int .u8 0, .int .u8 0, .bool false]) (by simp [results, Tryd.results13, go_sem]; done) rfl ?_
      exact ⟨BB.out, .inl ⟨NONE.out, rfl⟩⟩
end Go.Proofs.YtbdmbknehfjoaaaDoor.ZT

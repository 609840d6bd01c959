/- zzCompsBytes of n011_210, walked: it answers some number. Printed by gen_nh.py. -/
import Derived.Test.YtdonfahjcejhpaaNf
namespace Go.Proofs.Ytdonfahjcejhpaa.MG
open Go.RowKit Go.Proofs.Ytdonfahjcejhpaa.TB
set_option linter.unusedVariables false
def Nu (w : World) (e : Ending) (w' : World) : Prop := ∃ t : Int, e = .returned (.int .i64 t) ∧ Below w.heap.size w w'
/-- A subclass selector's copy. -/
def SG (w : World) (g : Nat) (z : ZS) (sa : Option Addr) (sc : Nat) (wx : World) : Prop := Below w.heap.size w wx ∧ Blk wx g 58 #[.bool z.wr, .int .u8 z.k, .string z.nm, .slice sa z.n sc]
theorem below_drewN {B : Nat} {a w : World} (h : Below B a w) (n : Nat) : Below B a (w.drewN n) := ⟨h.os, h.tape, h.output, h.size, h.block⟩
theorem SG.drewN {w wx : World} {g : Nat} {z : ZS} {sa : Option Addr} {sc : Nat} (h : SG w g z sa sc wx) (n : Nat) : SG w g z sa sc (wx.drewN n) := ⟨below_drewN h.1 n, h.2.drewN n⟩
set_option maxRecDepth 100000 in
set_option maxHeartbeats 40000000 in
theorem comps6 (A : Option Addr) (n c : Nat) (C : Nat → ZC) (w : World) (hn : n ≤ 1048576) (hI : Cv w (.slice A n c) n C) (hB : ∀ k, k < n → BC (C k)) :
    Calls Try.prog 6 #[.slice A n c] w (Nu w) := by
  obtain ⟨A', c', hv, hI1⟩ := hI
  simp only [Value.slice.injEq] at hv
  obtain ⟨rfl, -, rfl⟩ := hv
  have HI := Lib.hid hI1
  have HB := Lib.hid hB
  clear hI1 hB
  go_enter Try.func6, Try.ntmps6
  go_wp2_with fail
  obtain ⟨t00, ht00⟩ : ∃ t00, IntKind.i64.wrap (32 * (n : Int)) = t00 := ⟨_, rfl⟩
  go_loopw [3, 4] (fun s i wr => ∃ (k : Nat) (t : Int), k ≤ n ∧ i = .int .i64 k ∧ s = .int .i64 t ∧ Hid (Below w.heap.size w wr)) (fun _ i _ => n - (intOf i).toNat)
  case atStart => exact ⟨0, _, Nat.zero_le _, rfl, rfl, Lib.hid (Below.refl _ _)⟩
  case round => as_aux_lemma =>
    clear ht00
    obtain ⟨k, t, hk, rfl, rfl, BB⟩ := hrel
    by_cases hlt : k < n
    · obtain ⟨b, o, hAe, hlb, hI2⟩ := HI.out (by omega)
      subst hAe
      obtain ⟨x, e0, e1, e2, e3, hsv, hwi⟩ := hI2 k hlt
      obtain ⟨sa, sc, hx, hst⟩ := hsv
      subst hx
      obtain ⟨n2, hn2⟩ : ∃ n2, (C k).n = n2 := ⟨_, rfl⟩
      obtain ⟨am, ham⟩ : ∃ am, (C k).a = am := ⟨_, rfl⟩
      have h2 : n2 ≤ 1048576 := by rw [← hn2]; exact (HB.out k hlt).1
      rw [ham] at e2
      rw [hn2] at e3 hst
      have HBS := Lib.hid (show ∀ j, j < n2 → BS ((C k).s j) by rw [← hn2]; exact (HB.out k hlt).2)
      have HU := Lib.hid hst
      have f2 : wr.cell? ⟨b, o + k * 4 + 2, none⟩ = some (.int .u8 am) := by rw [BB.out.cell hlb]; exact e2
      have HE3 := Lib.hid (fun (W : World) (hb : Below w.heap.size w W) => show W.cell? ⟨b, o + k * 4 + 3, none⟩ = some (.slice sa n2 sc) from by rw [hb.cell hlb]; exact e3)
      have q1 : (0 : Int) ≤ (k : Int) := by omega
      have q2 : (k : Int) < (n : Int) := by omega
      clear hI2 e0 e1 e2 e3 hwi hst hn2
      obtain ⟨r0, r1⟩ : 0 ≤ am ∧ am ≤ 255 := by
        have := (HI.out (by omega))
        obtain ⟨b', o', -, -, hI2⟩ := this
        obtain ⟨x, -, -, -, -, -, hwi⟩ := hI2 k hlt
        rw [← ham]; exact ⟨hwi.2.2.2.2.1, hwi.2.2.2.2.2.1⟩
      clear ham
      go_wp2_with fail
      clear f2
      go_loopw [3, 5] (fun s i wr => ∃ (j : Nat) (t : Int), j ≤ n2 ∧ i = .int .i64 j ∧ s = .int .i64 t ∧ Hid (Below w.heap.size w wr)) (fun _ i _ => n2 - (intOf i).toNat)
      case atStart => exact ⟨0, _, Nat.zero_le _, rfl, rfl, BB⟩
      case round => as_aux_lemma =>
        clear BB r0 r1
        obtain ⟨j, t, hj, rfl, rfl, BB⟩ := hrel
        have e3 := HE3.out _ BB.out
        by_cases hlt2 : j < n2
        · obtain ⟨b2, o2, hAe, hlb2, hI2⟩ := HU.out (by omega)
          subst hAe
          obtain ⟨x, e5, e6, e7, e8, hsv, hwi⟩ := hI2 j hlt2
          obtain ⟨sa3, sc3, hx, hst⟩ := hsv
          subst hx
          obtain ⟨zz, hzz⟩ : ∃ zz, (C k).s j = zz := ⟨_, rfl⟩
          rw [hzz] at e5 e6 e7 e8 hst
          have f5 : wr.cell? ⟨b2, o2 + j * 4, none⟩ = some (.bool zz.wr) := by rw [BB.out.cell hlb2]; exact e5
          have f6 : wr.cell? ⟨b2, o2 + j * 4 + 1, none⟩ = some (.int .u8 zz.k) := by rw [BB.out.cell hlb2]; exact e6
          have f7 : wr.cell? ⟨b2, o2 + j * 4 + 2, none⟩ = some (.string zz.nm) := by rw [BB.out.cell hlb2]; exact e7
          have f8 : wr.cell? ⟨b2, o2 + j * 4 + 3, none⟩ = some (.slice sa3 zz.n sc3) := by rw [BB.out.cell hlb2]; exact e8
          have hbz : BS zz := hzz ▸ HBS.out j hlt2
          have h3 : zz.n ≤ 1048576 := hbz.1
          have HBI := Lib.hid hbz.2
          have HV := Lib.hid hst
          have q3 : (0 : Int) ≤ (j : Int) := by omega
          have q4 : (j : Int) < (n2 : Int) := by omega
          have SS := Lib.hid (show SG w wr.heap.size zz sa3 sc3 (wr.alloc (.cells #[.bool zz.wr, .int .u8 zz.k, .string zz.nm, .slice sa3 zz.n sc3] 58)) from ⟨BB.out.alloc BB.out.size _, Blk.new wr 58 _⟩)
          clear hI2 e5 e6 e7 e8 hwi hst hzz hbz
          obtain ⟨zw, zk, zm, n3, zs⟩ := zz
          simp only at f5 f6 f7 f8 h3 SS HV HBI
          go_wp2_with fail
          clear f5 f6 f7 f8 e3
          generalize wr.alloc (.cells #[.bool zw, .int .u8 zk, .string zm, .slice sa3 n3 sc3] 58) = W1 at *
          generalize wr.heap.size = gs at SS ⊢
          go_loopw [3, 7] (fun s i wr => ∃ (l : Nat) (t : Int), l ≤ n3 ∧ i = .int .i64 l ∧ s = .int .i64 t ∧ Hid (SG w gs ⟨zw, zk, zm, n3, zs⟩ sa3 sc3 wr)) (fun _ i _ => n3 - (intOf i).toNat)
          case atStart => exact ⟨0, _, Nat.zero_le _, rfl, rfl, SS⟩
          case round => as_aux_lemma =>
            clear SS BB
            obtain ⟨l, t, hl, rfl, rfl, SS⟩ := hrel
            have y3 : wr.cell? ⟨gs, 3, none⟩ = some (.slice sa3 n3 sc3) := SS.out.2.cell 3
            by_cases hlt3 : l < n3
            · obtain ⟨b3, o3, hAe, hlb3, hI2⟩ := HV.out (by omega)
              subst hAe
              obtain ⟨x, -, -, e10, e11, hsv, hwi⟩ := hI2 l hlt3
              obtain ⟨sa4, sc4, hx, hst⟩ := hsv
              subst hx
              obtain ⟨n4, hn4⟩ : ∃ n4, (zs l).n = n4 := ⟨_, rfl⟩
              obtain ⟨am, ham⟩ : ∃ am, (zs l).a = am := ⟨_, rfl⟩
              rw [ham] at e10
              rw [hn4] at e11 hst
              have h4 : n4 ≤ 1048576 := by rw [← hn4]; exact HBI.out l hlt3
              have f10 : wr.cell? ⟨b3, o3 + l * 4 + 2, none⟩ = some (.int .u8 am) := by rw [SS.out.1.cell hlb3]; exact e10
              have f11 : wr.cell? ⟨b3, o3 + l * 4 + 3, none⟩ = some (.slice sa4 n4 sc4) := by rw [SS.out.1.cell hlb3]; exact e11
              have HE := Lib.hid (fun (W : World) (hb : Below w.heap.size w W) => show W.cell? ⟨b3, o3 + l * 4 + 3, none⟩ = some (.slice sa4 n4 sc4) from by rw [hb.cell hlb3]; exact e11)
              have HW := Lib.hid hst
              have q5 : (0 : Int) ≤ (l : Int) := by omega
              have q6 : (l : Int) < (n3 : Int) := by omega
              clear hI2 e10 e11 hwi hst hn4 ham
              go_wp2_with fail
              go_quiet (fail)
              go_wp2_with fail
              generalize hW2 : wr.drewN _ = W2
              have SS2 : Hid (SG w gs ⟨zw, zk, zm, n3, zs⟩ (some ⟨b3, o3, none⟩) sc3 W2) := by rw [← hW2]; exact Lib.hid (SS.out.drewN _)
              clear hW2 f10 f11 y3 SS
              go_loop [3, 8] (fun s i => ∃ (m : Nat) (t : Int), m ≤ n4 ∧ i = .int .i64 m ∧ s = .int .i64 t) (fun _ i => n4 - (intOf i).toNat)
              case atStart => exact ⟨0, _, Nat.zero_le _, rfl, rfl⟩
              case round => as_aux_lemma =>
                obtain ⟨m, t, hm, rfl, rfl⟩ := hrel
                have y3 : W2.cell? ⟨gs, 3, none⟩ = some (.slice (some ⟨b3, o3, none⟩) n3 sc3) := SS2.out.2.cell 3
                have y4 := HE.out _ SS2.out.1
                by_cases hlt4 : m < n4
                · obtain ⟨b4, o4, hAe, hlb4, hI2⟩ := HW.out (by omega)
                  subst hAe
                  have e12 := hI2 m hlt4
                  have f12 : W2.cell? ⟨b4, o4 + m, none⟩ = some (.string ((zs l).s m)) := by rw [SS2.out.1.cell hlb4]; exact e12
                  have q7 : (0 : Int) ≤ (m : Int) := by omega
                  have q8 : (m : Int) < (n4 : Int) := by omega
                  clear hI2 e12
                  generalize (zs l).s m = sx at *
                  go_wp2_with fail
                  go_round
                  case rel => exact ⟨m + 1, _, by omega, by go_num, rfl⟩
                  case measure => simp [intOf]; omega
                · obtain rfl : m = n4 := by omega
                  go_wp2_with fail
                  go_roundw
                  case rel => exact ⟨l + 1, _, by omega, by go_num, rfl, SS2⟩
                  case measure => simp [intOf]; omega
            · obtain rfl : l = n3 := by omega
              have BB2 := Lib.hid SS.out.1
              by_cases ht : (2097152 : Int) < t
              · go_wp2_with fail
                go_ret
                exact ⟨_, rfl, BB2.out⟩
              · go_wp2_with fail
                go_roundw
                case rel => exact ⟨j + 1, _, by omega, by go_num, rfl, BB2⟩
                case measure => simp [intOf]; omega
        · obtain rfl : j = n2 := by omega
          by_cases ht : (2097152 : Int) < t
          · go_wp2_with fail
            go_ret
            exact ⟨_, rfl, BB.out⟩
          · go_wp2_with fail
            go_roundw
            case rel => exact ⟨k + 1, _, by omega, by go_num, rfl, BB⟩
            case measure => simp [intOf]; omega
    · obtain rfl : k = n := by omega
      go_wp2_with fail
      go_ret
      exact ⟨_, rfl, BB.out⟩
end Go.Proofs.Ytdonfahjcejhpaa.MG

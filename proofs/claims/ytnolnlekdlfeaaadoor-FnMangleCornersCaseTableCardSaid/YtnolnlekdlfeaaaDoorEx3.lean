/- expandTokenQuad at 3 tokens. Printed by gen_expand.py. -/
import Derived.Test.YtnolnlekdlfeaaaDoorEx
namespace Go.Proofs.YtnolnlekdlfeaaaDoor.ZT
open Go.RowKit Go.Proofs.YtnolnlekdlfeaaaDoor.TB
set_option linter.unusedVariables false
set_option maxRecDepth 100000 in
set_option maxHeartbeats 4000000 in
theorem expand3 (A : Option Addr) (n c : Nat) (s : ByteArray) (K : Nat → Int) (T : Nat → ByteArray) (W L : Nat → Int) (w : World) (r : TR w A n (tc K T W L)) (hc : n ≤ c) (hn : c ≤ 16384) (h1 : 3 ≤ n) (h4 : n ≤ 3) :
    Calls Tryd.prog 30 #[.slice A n c, .string s] w (ExpP n s K T W L w) := by
  have R := Lib.hid r
  clear r
  have B0 := Lib.hid (show Below w.heap.size w (w.alloc (.cells z28 86)) from (Below.refl _ _).alloc (Nat.le_refl _) _)
  have Z0 := Lib.hid (Blk.new w 86 z28)
  unfold z28 at B0 Z0
  have h1' : 1 ≤ n := by omega
  have h4' : n ≤ 4 := by omega
  go_enter Tryd.func30, Tryd.ntmps30
  go_wp2
  generalize w.alloc (.cells #[.pointer none, .string { data := #[] }, .int .i32 0, .int .u32 0, .int .u16 0, .int .u8 0, .int .u8 0, .pointer none, .string { data := #[] }, .int .i32 0, .int .u32 0, .int .u16 0, .int .u8 0, .int .u8 0, .pointer none, .string { data := #[] }, .int .i32 0, .int .u32 0, .int .u16 0, .int .u8 0, .int .u8 0, .pointer none, .string { data := #[] }, .int .i32 0, .int .u32 0, .int .u16 0, .int .u8 0, .int .u8 0] 86) = W0 at *
  go_loopw [7] (fun i wr => ∃ k : Nat, k ≤ n ∧ i = .int .i64 k ∧ Hid (Below w.heap.size w wr) ∧ Hid (Blk wr w.heap.size 86 z28) ∧ Hid (∀ i, i < k → okP s (K i) (T i))) (fun i _ => n - (intOf i).toNat)
  case atStart => exact ⟨0, Nat.zero_le _, rfl, B0, Z0, Lib.hid (fun i h => absurd h (by omega))⟩
  case round =>
    obtain ⟨k, hk, rfl, BB, BZ, AL⟩ := hrel
    clear B0 Z0
    have hsz : w.heap.size < wr.heap.size := BZ.out.lt
    by_cases hlt : k < n
    · obtain ⟨b, o, rfl, hb, hf⟩ := R.out (by omega)
      have y0 : wr.cell? ⟨b, o + k * 7, none⟩ = some (.pointer none) := by rw [BB.out.cell hb]; exact hf k 0 hlt (by omega)
      have y1 : wr.cell? ⟨b, o + k * 7 + 1, none⟩ = some (.string (T k)) := by rw [BB.out.cell hb]; exact hf k 1 hlt (by omega)
      have y2 : wr.cell? ⟨b, o + k * 7 + 2, none⟩ = some (.int .i32 (L k)) := by rw [BB.out.cell hb]; exact hf k 2 hlt (by omega)
      have y3 : wr.cell? ⟨b, o + k * 7 + 3, none⟩ = some (.int .u32 0) := by rw [BB.out.cell hb]; exact hf k 3 hlt (by omega)
      have y4 : wr.cell? ⟨b, o + k * 7 + 4, none⟩ = some (.int .u16 0) := by rw [BB.out.cell hb]; exact hf k 4 hlt (by omega)
      have y5 : wr.cell? ⟨b, o + k * 7 + 5, none⟩ = some (.int .u8 (K k)) := by rw [BB.out.cell hb]; exact hf k 5 hlt (by omega)
      have y6 : wr.cell? ⟨b, o + k * 7 + 6, none⟩ = some (.int .u8 (W k)) := by rw [BB.out.cell hb]; exact hf k 6 hlt (by omega)
      clear hf
      have q1 : (0 : Int) ≤ (k : Int) := by omega
      have q2 : (k : Int) < (n : Int) := by omega
      have BD := Lib.hid (fun (ob : Obj) => show Below w.heap.size w (wr.alloc ob) from BB.out.alloc BB.out.size ob)
      have ZD := Lib.hid (fun (ob : Obj) => BZ.out.alloc ob)
      have HNO := Lib.hid (fun (h : ¬ okP s (K k) (T k)) => show ¬ okAll n s K T from fun ha => h (ha.2.2 k hlt))
      have HYES := Lib.hid (fun (h : okP s (K k) (T k)) => show ∀ i, i < k + 1 → okP s (K i) (T i) from fun i hi => if e : i = k then by rw [e]; exact h else AL.out i (by omega))
      go_wp2_with (go_at_call 24; refine (num31 _ _).mono ?_; rintro e w' ⟨rfl, rfl⟩)
      · go_roundw
        case rel => exact ⟨k + 1, by omega, by go_num, Lib.hid (BD.out _), Lib.hid (ZD.out _), Lib.hid (HYES.out (.inl (by assumption)))⟩
        case measure => simp [intOf]; omega
      · exact bodyPost_ret (res27 _ _ w.heap.size z28 false (ZD.out _) rfl rfl rfl) rfl ⟨.inr ⟨HNO.out (fun h => by rcases h with h | ⟨_, h, _⟩; exact absurd h (by assumption); exact h (by assumption)), rfl⟩, BD.out _⟩
      · exact bodyPost_ret (res27 _ _ w.heap.size z28 false (ZD.out _) rfl rfl rfl) rfl ⟨.inr ⟨HNO.out (fun h => by rcases h with h | ⟨_, _, h⟩; exact absurd h (by assumption); exact isE (by assumption) (by assumption) h), rfl⟩, BD.out _⟩
      · go_roundw
        case rel =>
          have hh : s.toList.isEmpty = false ∧ (!(T k).toList == s.toList) = false := by assumption
          exact ⟨k + 1, by omega, by go_num, Lib.hid (BD.out _), Lib.hid (ZD.out _), Lib.hid (HYES.out (.inr ⟨by assumption, by assumption, by simpa using hh.2⟩))⟩
        case measure => simp [intOf]; omega
      · exact bodyPost_ret (res27 _ _ w.heap.size z28 false (ZD.out _) rfl rfl rfl) rfl ⟨.inr ⟨HNO.out (fun h => by rcases h with h | ⟨h, _, _⟩; exact absurd h (by assumption); exact absurd h (by assumption)), rfl⟩, BD.out _⟩
    · obtain rfl : k = n := by omega
      clear hlt
      obtain ⟨b, o, rfl, hb, hf⟩ := R.out (by omega)
      clear R
      have nb : ¬ w.heap.size = b := by omega
      have nb2 : ¬ b = w.heap.size := by omega
      have t0_0 : wr.cell? ⟨b, o, none⟩ = some (.pointer none) := by have h := hf 0 0 (by omega) (by omega); rw [show o + 0 * 7 + 0 = o by omega] at h; rw [BB.out.cell hb]; exact h
      have t0_1 : wr.cell? ⟨b, o + 1, none⟩ = some (.string (T 0)) := by have h := hf 0 1 (by omega) (by omega); rw [show o + 0 * 7 + 1 = o + 1 by omega] at h; rw [BB.out.cell hb]; exact h
      have t0_2 : wr.cell? ⟨b, o + 2, none⟩ = some (.int .i32 (L 0)) := by have h := hf 0 2 (by omega) (by omega); rw [show o + 0 * 7 + 2 = o + 2 by omega] at h; rw [BB.out.cell hb]; exact h
      have t0_3 : wr.cell? ⟨b, o + 3, none⟩ = some (.int .u32 0) := by have h := hf 0 3 (by omega) (by omega); rw [show o + 0 * 7 + 3 = o + 3 by omega] at h; rw [BB.out.cell hb]; exact h
      have t0_4 : wr.cell? ⟨b, o + 4, none⟩ = some (.int .u16 0) := by have h := hf 0 4 (by omega) (by omega); rw [show o + 0 * 7 + 4 = o + 4 by omega] at h; rw [BB.out.cell hb]; exact h
      have t0_5 : wr.cell? ⟨b, o + 5, none⟩ = some (.int .u8 (K 0)) := by have h := hf 0 5 (by omega) (by omega); rw [show o + 0 * 7 + 5 = o + 5 by omega] at h; rw [BB.out.cell hb]; exact h
      have t0_6 : wr.cell? ⟨b, o + 6, none⟩ = some (.int .u8 (W 0)) := by have h := hf 0 6 (by omega) (by omega); rw [show o + 0 * 7 + 6 = o + 6 by omega] at h; rw [BB.out.cell hb]; exact h
      have t1_0 : wr.cell? ⟨b, o + 7, none⟩ = some (.pointer none) := by have h := hf 1 0 (by omega) (by omega); rw [show o + 1 * 7 + 0 = o + 7 by omega] at h; rw [BB.out.cell hb]; exact h
      have t1_1 : wr.cell? ⟨b, o + 7 + 1, none⟩ = some (.string (T 1)) := by have h := hf 1 1 (by omega) (by omega); rw [show o + 1 * 7 + 1 = o + 7 + 1 by omega] at h; rw [BB.out.cell hb]; exact h
      have t1_2 : wr.cell? ⟨b, o + 7 + 2, none⟩ = some (.int .i32 (L 1)) := by have h := hf 1 2 (by omega) (by omega); rw [show o + 1 * 7 + 2 = o + 7 + 2 by omega] at h; rw [BB.out.cell hb]; exact h
      have t1_3 : wr.cell? ⟨b, o + 7 + 3, none⟩ = some (.int .u32 0) := by have h := hf 1 3 (by omega) (by omega); rw [show o + 1 * 7 + 3 = o + 7 + 3 by omega] at h; rw [BB.out.cell hb]; exact h
      have t1_4 : wr.cell? ⟨b, o + 7 + 4, none⟩ = some (.int .u16 0) := by have h := hf 1 4 (by omega) (by omega); rw [show o + 1 * 7 + 4 = o + 7 + 4 by omega] at h; rw [BB.out.cell hb]; exact h
      have t1_5 : wr.cell? ⟨b, o + 7 + 5, none⟩ = some (.int .u8 (K 1)) := by have h := hf 1 5 (by omega) (by omega); rw [show o + 1 * 7 + 5 = o + 7 + 5 by omega] at h; rw [BB.out.cell hb]; exact h
      have t1_6 : wr.cell? ⟨b, o + 7 + 6, none⟩ = some (.int .u8 (W 1)) := by have h := hf 1 6 (by omega) (by omega); rw [show o + 1 * 7 + 6 = o + 7 + 6 by omega] at h; rw [BB.out.cell hb]; exact h
      have t2_0 : wr.cell? ⟨b, o + 14, none⟩ = some (.pointer none) := by have h := hf 2 0 (by omega) (by omega); rw [show o + 2 * 7 + 0 = o + 14 by omega] at h; rw [BB.out.cell hb]; exact h
      have t2_1 : wr.cell? ⟨b, o + 14 + 1, none⟩ = some (.string (T 2)) := by have h := hf 2 1 (by omega) (by omega); rw [show o + 2 * 7 + 1 = o + 14 + 1 by omega] at h; rw [BB.out.cell hb]; exact h
      have t2_2 : wr.cell? ⟨b, o + 14 + 2, none⟩ = some (.int .i32 (L 2)) := by have h := hf 2 2 (by omega) (by omega); rw [show o + 2 * 7 + 2 = o + 14 + 2 by omega] at h; rw [BB.out.cell hb]; exact h
      have t2_3 : wr.cell? ⟨b, o + 14 + 3, none⟩ = some (.int .u32 0) := by have h := hf 2 3 (by omega) (by omega); rw [show o + 2 * 7 + 3 = o + 14 + 3 by omega] at h; rw [BB.out.cell hb]; exact h
      have t2_4 : wr.cell? ⟨b, o + 14 + 4, none⟩ = some (.int .u16 0) := by have h := hf 2 4 (by omega) (by omega); rw [show o + 2 * 7 + 4 = o + 14 + 4 by omega] at h; rw [BB.out.cell hb]; exact h
      have t2_5 : wr.cell? ⟨b, o + 14 + 5, none⟩ = some (.int .u8 (K 2)) := by have h := hf 2 5 (by omega) (by omega); rw [show o + 2 * 7 + 5 = o + 14 + 5 by omega] at h; rw [BB.out.cell hb]; exact h
      have t2_6 : wr.cell? ⟨b, o + 14 + 6, none⟩ = some (.int .u8 (W 2)) := by have h := hf 2 6 (by omega) (by omega); rw [show o + 2 * 7 + 6 = o + 14 + 6 by omega] at h; rw [BB.out.cell hb]; exact h
      have d0 : wr.cell? ⟨w.heap.size, 0, none⟩ = some (.pointer none) := BZ.out.cell 0
      have d1 : wr.cell? ⟨w.heap.size, 1, none⟩ = some (.string { data := #[] }) := BZ.out.cell 1
      have d2 : wr.cell? ⟨w.heap.size, 2, none⟩ = some (.int .i32 0) := BZ.out.cell 2
      have d3 : wr.cell? ⟨w.heap.size, 3, none⟩ = some (.int .u32 0) := BZ.out.cell 3
      have d4 : wr.cell? ⟨w.heap.size, 4, none⟩ = some (.int .u16 0) := BZ.out.cell 4
      have d5 : wr.cell? ⟨w.heap.size, 5, none⟩ = some (.int .u8 0) := BZ.out.cell 5
      have d6 : wr.cell? ⟨w.heap.size, 6, none⟩ = some (.int .u8 0) := BZ.out.cell 6
      have d7 : wr.cell? ⟨w.heap.size, 7, none⟩ = some (.pointer none) := BZ.out.cell 7
      have d8 : wr.cell? ⟨w.heap.size, 8, none⟩ = some (.string { data := #[] }) := BZ.out.cell 8
      have d9 : wr.cell? ⟨w.heap.size, 9, none⟩ = some (.int .i32 0) := BZ.out.cell 9
      have d10 : wr.cell? ⟨w.heap.size, 10, none⟩ = some (.int .u32 0) := BZ.out.cell 10
      have d11 : wr.cell? ⟨w.heap.size, 11, none⟩ = some (.int .u16 0) := BZ.out.cell 11
      have d12 : wr.cell? ⟨w.heap.size, 12, none⟩ = some (.int .u8 0) := BZ.out.cell 12
      have d13 : wr.cell? ⟨w.heap.size, 13, none⟩ = some (.int .u8 0) := BZ.out.cell 13
      have d14 : wr.cell? ⟨w.heap.size, 14, none⟩ = some (.pointer none) := BZ.out.cell 14
      have d15 : wr.cell? ⟨w.heap.size, 15, none⟩ = some (.string { data := #[] }) := BZ.out.cell 15
      have d16 : wr.cell? ⟨w.heap.size, 16, none⟩ = some (.int .i32 0) := BZ.out.cell 16
      have d17 : wr.cell? ⟨w.heap.size, 17, none⟩ = some (.int .u32 0) := BZ.out.cell 17
      have d18 : wr.cell? ⟨w.heap.size, 18, none⟩ = some (.int .u16 0) := BZ.out.cell 18
      have d19 : wr.cell? ⟨w.heap.size, 19, none⟩ = some (.int .u8 0) := BZ.out.cell 19
      have d20 : wr.cell? ⟨w.heap.size, 20, none⟩ = some (.int .u8 0) := BZ.out.cell 20
      have d21 : wr.cell? ⟨w.heap.size, 21, none⟩ = some (.pointer none) := BZ.out.cell 21
      have d22 : wr.cell? ⟨w.heap.size, 22, none⟩ = some (.string { data := #[] }) := BZ.out.cell 22
      have d23 : wr.cell? ⟨w.heap.size, 23, none⟩ = some (.int .i32 0) := BZ.out.cell 23
      have d24 : wr.cell? ⟨w.heap.size, 24, none⟩ = some (.int .u32 0) := BZ.out.cell 24
      have d25 : wr.cell? ⟨w.heap.size, 25, none⟩ = some (.int .u16 0) := BZ.out.cell 25
      have d26 : wr.cell? ⟨w.heap.size, 26, none⟩ = some (.int .u8 0) := BZ.out.cell 26
      have d27 : wr.cell? ⟨w.heap.size, 27, none⟩ = some (.int .u8 0) := BZ.out.cell 27
      have f0 : wr.frozen? ⟨w.heap.size, 0, none⟩ = false := BZ.out.frozen 0
      have f1 : wr.frozen? ⟨w.heap.size, 1, none⟩ = false := BZ.out.frozen 1
      have f2 : wr.frozen? ⟨w.heap.size, 2, none⟩ = false := BZ.out.frozen 2
      have f3 : wr.frozen? ⟨w.heap.size, 3, none⟩ = false := BZ.out.frozen 3
      have f4 : wr.frozen? ⟨w.heap.size, 4, none⟩ = false := BZ.out.frozen 4
      have f5 : wr.frozen? ⟨w.heap.size, 5, none⟩ = false := BZ.out.frozen 5
      have f6 : wr.frozen? ⟨w.heap.size, 6, none⟩ = false := BZ.out.frozen 6
      have f7 : wr.frozen? ⟨w.heap.size, 7, none⟩ = false := BZ.out.frozen 7
      have f8 : wr.frozen? ⟨w.heap.size, 8, none⟩ = false := BZ.out.frozen 8
      have f9 : wr.frozen? ⟨w.heap.size, 9, none⟩ = false := BZ.out.frozen 9
      have f10 : wr.frozen? ⟨w.heap.size, 10, none⟩ = false := BZ.out.frozen 10
      have f11 : wr.frozen? ⟨w.heap.size, 11, none⟩ = false := BZ.out.frozen 11
      have f12 : wr.frozen? ⟨w.heap.size, 12, none⟩ = false := BZ.out.frozen 12
      have f13 : wr.frozen? ⟨w.heap.size, 13, none⟩ = false := BZ.out.frozen 13
      have f14 : wr.frozen? ⟨w.heap.size, 14, none⟩ = false := BZ.out.frozen 14
      have f15 : wr.frozen? ⟨w.heap.size, 15, none⟩ = false := BZ.out.frozen 15
      have f16 : wr.frozen? ⟨w.heap.size, 16, none⟩ = false := BZ.out.frozen 16
      have f17 : wr.frozen? ⟨w.heap.size, 17, none⟩ = false := BZ.out.frozen 17
      have f18 : wr.frozen? ⟨w.heap.size, 18, none⟩ = false := BZ.out.frozen 18
      have f19 : wr.frozen? ⟨w.heap.size, 19, none⟩ = false := BZ.out.frozen 19
      have f20 : wr.frozen? ⟨w.heap.size, 20, none⟩ = false := BZ.out.frozen 20
      have f21 : wr.frozen? ⟨w.heap.size, 21, none⟩ = false := BZ.out.frozen 21
      have f22 : wr.frozen? ⟨w.heap.size, 22, none⟩ = false := BZ.out.frozen 22
      have f23 : wr.frozen? ⟨w.heap.size, 23, none⟩ = false := BZ.out.frozen 23
      have f24 : wr.frozen? ⟨w.heap.size, 24, none⟩ = false := BZ.out.frozen 24
      have f25 : wr.frozen? ⟨w.heap.size, 25, none⟩ = false := BZ.out.frozen 25
      have f26 : wr.frozen? ⟨w.heap.size, 26, none⟩ = false := BZ.out.frozen 26
      have f27 : wr.frozen? ⟨w.heap.size, 27, none⟩ = false := BZ.out.frozen 27
      clear hf
      go_wp2
      have e0 : sel k 0 = 0 := by unfold sel; split <;> omega
      have e1 : sel k 1 = 1 := by unfold sel; split <;> (try split) <;> omega
      have e2 : sel k 2 = 2 := by unfold sel; split <;> (try split) <;> omega
      have e3 : sel k 3 = 1 := by unfold sel; split <;> (try split) <;> omega
      refine bodyPost_ret (res27 _ _ w.heap.size (q28 K T W L 0 1 2 1) true ?_ rfl rfl rfl) rfl ⟨.inl ⟨⟨h1', h4', AL.out⟩, by rw [e0, e1, e2, e3]⟩, ?_⟩
      · exact put28 BZ.out _ _ _ _ _ _ _ _ _ _ _ _ _ _ _ _ _ _ _ _ _ _ _ _ _ _ _ _
      · exact below28 BB.out (Nat.le_refl _) _ _ _ _ _ _ _ _ _ _ _ _ _ _ _ _ _ _ _ _ _ _ _ _ _ _ _ _
end Go.Proofs.YtnolnlekdlfeaaaDoor.ZT

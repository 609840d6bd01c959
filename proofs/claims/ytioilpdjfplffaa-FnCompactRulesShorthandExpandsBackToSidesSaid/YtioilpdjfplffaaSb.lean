/- The wrapper of expandTokenQuad at values that it takes; plain facts of law 4. Written by gen_boxsb.py. -/
import Derived.Test.YtioilpdjfplffaaEz
import Derived.Test.YtioilpdjfplffaaRk
import Derived.Test.YtioilpdjfplffaaSa
import Derived.Deep.MidRow
namespace Go.Proofs.Ytioilpdjfplffaa.ZT
open Go.RowKit Go.Proofs.Ytioilpdjfplffaa.TB
set_option linter.unusedVariables false
set_option linter.unusedSimpArgs false
theorem res16 (tmps : Array Value) (W : World) (g : Nat) (z : Array Value) (bb : Bool) (h : Blk W g 64 z) (hs : z.size = 28) (h4 : tmps.getD 4 undef = .pointer (some ⟨g, 0, none⟩)) (h5 : tmps.getD 5 undef = .bool bb) :
    (results Try.f16 tmps).run Try.prog W = .ok (.tuple #[.agg z, .bool bb]) W := by
  have hr := run_loadVar_mid (P := Try.prog) W g 0 64 z.toList _ (fun j v hv => by rw [Nat.zero_add, h.cell]; simpa using hv) Try.underlying64 rfl (by rw [Array.length_toList, hs]; kernel_rfl)
  have h4' : tmps[4]?.getD undef = .pointer (some ⟨g, 0, none⟩) := by simpa using h4
  have h5' : tmps[5]?.getD undef = .bool bb := by simpa using h5
  simp [results, Try.results16, h4', h5', asAddr, hr]
theorem info64 : (Try.prog.info? 64).map (·.size) = some 28 := by kernel_rfl
theorem q28_ok (K : Nat → Int) (T : Nat → ByteArray) (W L : Nat → Int) (a b c d : Nat) : (q28 K T W L a b c d).size = 28 ∧ (q28 K T W L a b c d).all (·.oneCell') = true := ⟨rfl, by simp [q28, Value.oneCell']⟩
set_option maxRecDepth 100000 in
set_option maxHeartbeats 4000000 in
theorem exp16 (A : Option Addr) (n c : Nat) (s : ByteArray) (K : Nat → Int) (T : Nat → ByteArray) (W L : Nat → Int) (w : World) (r : TR w A n (tc K T W L)) (hc : n ≤ c) (hn : c ≤ 16384) (hok : okAll n s K T) :
    Calls Try.prog 16 #[.slice A n c, .string s] w fun e w' => ∃ Q : Array Value, Q = q28 K T W L (sel n 0) (sel n 1) (sel n 2) (sel n 3) ∧ e = .returned (.tuple #[.agg Q, .bool true]) ∧ Below w.heap.size w w' := by
  have R := Lib.hid (fun (o : Obj) => show TR (w.alloc o) A n (tc K T W L) from r.below ((Below.refl _ _).alloc (Nat.le_refl _) o))
  have Z0 := Lib.hid (Blk.new w 64 z28)
  have HOK := Lib.hid hok
  clear r hok
  unfold z28 at Z0
  go_enter Try.func16, Try.ntmps16
  go_wp2_with fail
  refine (expand_any A n c s K T W L _ (R.out _) hc hn).mono ?_
  intro e w1 hx
  obtain ⟨Q, hq, rfl, hb⟩ : ∃ Q : Array Value, Q = q28 K T W L (sel n 0) (sel n 1) (sel n 2) (sel n 3) ∧ e = .returned (.tuple #[.agg Q, .bool true]) ∧ Below _ _ w1 := by
    obtain ⟨⟨h1, h2⟩ | ⟨h1, h2⟩, hb⟩ := hx
    · exact ⟨_, rfl, h2, hb⟩
    · exact absurd HOK.out h1
  have BZ := Lib.hid (show Blk w1 w.heap.size 64 z28 from Z0.out.below hb (by simp))
  have BB := Lib.hid (show Below w.heap.size w w1 from ((Below.refl _ w).alloc (Nat.le_refl _) _).trans (hb.mono (by simp)))
  have HQ := Lib.hid hq
  have HS := Lib.hid (show Q.size = 28 ∧ Q.all (·.oneCell') = true from hq ▸ q28_ok _ _ _ _ _ _ _ _)
  clear hb Z0 hx hq
  go_wp2_with (refine wpList_store_mid rfl 64 (.tmp 4) (.tmp 9) rfl w.heap.size 0 Q rfl rfl (by rw [HS.out.1]; exact Blk.there BZ.out) (by rw [HS.out.1]; exact info64) HS.out.2 ?_)
  exact bodyPost_ret (res16 _ _ w.heap.size Q true (Blk.fill BZ.out Q (by rw [HS.out.1]; rfl)) HS.out.1 rfl rfl) rfl ⟨Q, HQ.out, rfl, below_fill (w := w1) _ _ BB.out (Nat.le_refl _)⟩
def auto4 : ByteArray := { data := #[97, 117, 116, 111] }
theorem okP_code {c : Int} (h0 : 0 ≤ c) (h1 : c ≤ 3) : okP auto4 (kd c) (tx c) := by
  rcases (by omega : c = 0 ∨ c = 1 ∨ c = 2 ∨ c = 3) with rfl | rfl | rfl | rfl
  · exact .inl rfl
  · exact .inl rfl
  · exact .inl rfl
  · exact .inr ⟨rfl, by decide +kernel, rfl⟩
theorem okAll_code {n : Nat} {q : Nat → Int} (hn : 1 ≤ n) (h4 : n ≤ 4) (hq : ∀ i, i < 4 → 0 ≤ q i ∧ q i ≤ 3) : okAll n auto4 (fun i => kd (q i)) (fun i => tx (q i)) :=
  ⟨hn, h4, fun i hi => okP_code (hq i (by omega)).1 (hq i (by omega)).2⟩
/-- n values stand for all four. -/
theorem xpd_sel {q : Nat → Int} {n : Nat} (hn : 1 ≤ n) (h4 : n ≤ 3) : xpd q n = ((q (sel n 0) == q 0) && ((q (sel n 1) == q 1) && ((q (sel n 2) == q 2) && (q (sel n 3) == q 3)))) := by
  rcases (by omega : n = 1 ∨ n = 2 ∨ n = 3) with rfl | rfl | rfl <;> simp [xpd, sel]
theorem mc_xpd (q : Nat → Int) : ∀ i, i < 4 → q (sel (mc q) i) = q i := by
  intro i hi
  unfold mc
  split
  · rename_i h
    rw [xpd_sel (by omega) (by omega)] at h
    simp at h
    rcases fourI hi with rfl | rfl | rfl | rfl <;> simp [h]
  · split
    · rename_i h
      rw [xpd_sel (by omega) (by omega)] at h
      simp at h
      rcases fourI hi with rfl | rfl | rfl | rfl <;> simp [h]
    · split
      · rename_i h
        rw [xpd_sel (by omega) (by omega)] at h
        simp at h
        rcases fourI hi with rfl | rfl | rfl | rfl <;> simp [h]
      · rcases fourI hi with rfl | rfl | rfl | rfl <;> rfl
theorem mc_min (q : Nat → Int) (h : 1 < mc q) : xpd q (mc q - 1) = false := by
  unfold mc at h ⊢
  split
  · rename_i h1
    rw [if_pos h1] at h
    omega
  · rename_i h1
    split
    · simpa using h1
    · rename_i h2
      split
      · simpa using h2
      · rename_i h3
        simpa using h3
/-- Four different numbers below four are all of them. -/
theorem PI.all {P : Nat → Nat} (h : PI 4 (fun _ => 0) P) : ∀ k, k < 4 → k = P 0 ∨ k = P 1 ∨ k = P 2 ∨ k = P 3 := by
  obtain ⟨-, h2, -, h4, -⟩ := h
  have a0 := h2 0 (by omega)
  have a1 := h2 1 (by omega)
  have a2 := h2 2 (by omega)
  have a3 := h2 3 (by omega)
  have b01 := h4 0 1 (by omega) (by omega)
  have b02 := h4 0 2 (by omega) (by omega)
  have b03 := h4 0 3 (by omega) (by omega)
  have b12 := h4 1 2 (by omega) (by omega)
  have b13 := h4 1 3 (by omega) (by omega)
  have b23 := h4 2 3 (by omega) (by omega)
  intro k hk
  omega
end Go.Proofs.Ytioilpdjfplffaa.ZT

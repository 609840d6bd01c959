/- parseRangeMediaFeature, walked. -/
import Derived.Test.YtceafaddhbabhaaHb
namespace Go.Proofs.Ytceafaddhbabhaa.ZT
open Go.RowKit Go.Proofs.Ytceafaddhbabhaa.TB
set_option linter.unusedVariables false
/-- A column from i on. -/
def sh {α : Type} (i : Nat) (f : Nat → α) : Nat → α := fun k => f (i + k)
theorem vlen_le (n i : Nat) (K : Nat → Int) : vlen n i K ≤ n := by
  unfold vlen
  split
  · omega
  · split
    · omega
    · split
      · omega
      · split
        · split
          · rename_i h; omega
          · omega
        · omega
theorem TR.tail {w : World} {g n N i : Nat} {X : Option Addr} {K : Nat → Int} {T : Nat → ByteArray} {W L : Nat → Int} (h : Tap w g 34 7 N (tc K T W L)) (hN : n ≤ N) (hX : i < n → X = some ⟨g, 7 * i, none⟩) : TR w X (n - i) (tc (sh i K) (sh i T) (sh i W) (sh i L)) := by
  intro hn
  refine ⟨g, 7 * i, hX (by omega), h.lt, fun k j hk hj => ?_⟩
  have := h.cell (i := i + k) (j := j) (by omega) hj
  rw [show 7 * i + k * 7 + j = (i + k) * 7 + j by omega]
  exact this
theorem TR.part {w : World} {g n i v : Nat} {K : Nat → Int} {T : Nat → ByteArray} {W L : Nat → Int} (h : Tap w g 34 7 n (tc K T W L)) (hv : i + v ≤ n) : TR w (some ⟨g, 7 * i, none⟩) v (tc (sh i K) (sh i T) (sh i W) (sh i L)) := by
  intro hn
  refine ⟨g, 7 * i, rfl, h.lt, fun k j hk hj => ?_⟩
  have := h.cell (i := i + k) (j := j) (by omega) hj
  rw [show 7 * i + k * 7 + j = (i + k) * 7 + j by omega]
  exact this
theorem TR.head {w : World} {g n v : Nat} {K : Nat → Int} {T : Nat → ByteArray} {W L : Nat → Int} (h : Tap w g 34 7 n (tc K T W L)) (hv : v ≤ n) : TR w (some ⟨g, 0, none⟩) v (tc K T W L) := by
  intro hn
  refine ⟨g, 0, rfl, h.lt, fun k j hk hj => ?_⟩
  have := h.cell (i := k) (j := j) (by omega) hj
  rw [Nat.zero_add]
  exact this
/-- scanMediaValue at a place. -/
def SVQ (g o n c v N : Nat) (K : Nat → Int) (T : Nat → ByteArray) (W L : Nat → Int) (w : World) (e : Ending) (w' : World) : Prop :=
  ∃ X W', e = .returned (.tuple #[.slice (some ⟨g, o, none⟩) v c, .slice X (n - v : Nat) (c - v : Nat)]) ∧ (v < n → X = some ⟨g, o + 7 * v, none⟩) ∧ Tap w' g 34 7 N (tc K T W' L) ∧ (∀ j, W j = 0 → W' j = 0) ∧ Bq g w w'
theorem sv_at (g i n c o N : Nat) (K : Nat → Int) (T : Nat → ByteArray) (W L : Nat → Int) (w : World) (ho : o = 7 * i) (hN : i + n ≤ N) (h : Tap w g 34 7 N (tc K T W L)) (hn : 1 ≤ n) (hc : n ≤ c) (hM : c ≤ 9223372036854775807) :
    Calls Try.prog 33 #[.slice (some ⟨g, o, none⟩) n c] w (SVQ g o n c (vlen n i K) N K T W L w) := by
  have e : o = i * 7 := by omega
  rw [e]
  refine (sv_any g i n c K T W L w N hN h hn hc hM).mono ?_
  rintro e w' ⟨X, W', he, hX, ht, hz, hb⟩
  exact ⟨X, W', he, fun hv => by rw [hX hv]; congr 2; omega, ht, hz, hb⟩
theorem tab_ne {w : World} {g q : Nat} {t t' : TypeId} {S n : Nat} {f : Nat → Nat → Value} {cs : Array Value} (h : Tap w g t S n f) (hb : Blk w q t' cs) (ht : t' ≠ t) : q ≠ g := by
  intro e
  subst e
  obtain ⟨cs', h2, -⟩ := h
  unfold Blk at hb h2
  rw [hb] at h2
  simp only [Option.some.injEq, Obj.cells.injEq] at h2
  exact ht h2.2.1
/-- What the parse answers. -/
def PQ (g n : Nat) (K : Nat → Int) (T : Nat → ByteArray) (L : Nat → Int) (m1 : Nat) (w : World) (e : Ending) (w' : World) : Prop :=
  (e = .returned (.tuple #[.pointer none, .bool false]) ∧ ¬ (vlen n 0 K ≠ 0 ∧ m1 ≠ 0 ∧ vlen (n - (vlen n 0 K + wid m1)) (vlen n 0 K + wid m1) K ≠ 0 ∧ vlen n 0 K + wid m1 + vlen (n - (vlen n 0 K + wid m1)) (vlen n 0 K + wid m1) K = n ∧
      ((vlen n 0 K = 1 ∧ K 0 = 29) ∨ (vlen (n - (vlen n 0 K + wid m1)) (vlen n 0 K + wid m1) K = 1 ∧ K (vlen n 0 K + wid m1) = 29)))) ∨
  (∃ r, e = .returned (.tuple #[.pointer (some ⟨r, 0, none⟩), .bool true]) ∧ w.heap.size ≤ r ∧ m1 ≠ 0 ∧ vlen n 0 K ≠ 0 ∧ 
    ((vlen n 0 K = 1 ∧ K 0 = 29 ∧ vlen (n - (vlen n 0 K + wid m1)) (vlen n 0 K + wid m1) K ≠ 0 ∧ vlen n 0 K + wid m1 + vlen (n - (vlen n 0 K + wid m1)) (vlen n 0 K + wid m1) K = n ∧
        ∃ ca, Blk w' r 58 #[.slice none 0 0, .string (T 0), .slice (some ⟨g, 7 * (vlen n 0 K + wid m1), none⟩) (vlen (n - (vlen n 0 K + wid m1)) (vlen n 0 K + wid m1) K) ca, .int .i32 (L 0), .int .u8 0, .int .u8 (m1 : Nat)] ∧ vlen (n - (vlen n 0 K + wid m1)) (vlen n 0 K + wid m1) K ≤ ca) ∨
     (¬ (vlen n 0 K = 1 ∧ K 0 = 29) ∧ vlen (n - (vlen n 0 K + wid m1)) (vlen n 0 K + wid m1) K = 1 ∧ K (vlen n 0 K + wid m1) = 29 ∧ vlen n 0 K + wid m1 + vlen (n - (vlen n 0 K + wid m1)) (vlen n 0 K + wid m1) K = n ∧
        ∃ cb, Blk w' r 58 #[.slice (some ⟨g, 0, none⟩) (vlen n 0 K) cb, .string (T (vlen n 0 K + wid m1)), .slice none 0 0, .int .i32 (L (vlen n 0 K + wid m1)), .int .u8 (m1 : Nat), .int .u8 0] ∧ vlen n 0 K ≤ cb) ∨
     (vlen n 0 K + wid m1 + vlen (n - (vlen n 0 K + wid m1)) (vlen n 0 K + wid m1) K ≠ n ∧ ∃ cb nm X nx cx lo ac, Blk w' r 58 #[.slice (some ⟨g, 0, none⟩) (vlen n 0 K) cb, .string nm, .slice X nx cx, .int .i32 lo, .int .u8 (m1 : Nat), .int .u8 ac])))
def PP (g n N : Nat) (K : Nat → Int) (T : Nat → ByteArray) (W L : Nat → Int) (w : World) (e : Ending) (w' : World) : Prop :=
  ∃ W1 Wf, (∀ j, W j = 0 → W1 j = 0) ∧ Tap w' g 34 7 N (tc K T Wf L) ∧ Below g w w' ∧ PQ g n K T L (cmpOf (n - vlen n 0 K) (sh (vlen n 0 K) K) (sh (vlen n 0 K) W1)) w e w'
theorem cmpOf_le (n : Nat) (K W : Nat → Int) : cmpOf n K W ≤ 5 := by
  unfold cmpOf
  repeat' split
  all_goals omega
theorem cmpOf_wid (n : Nat) (K W : Nat → Int) : wid (cmpOf n K W) ≤ n := by
  unfold cmpOf
  repeat' split
  all_goals simp [wid]
  all_goals omega
set_option maxRecDepth 100000 in
set_option maxHeartbeats 4000000 in
theorem parse30 (g n c N : Nat) (K : Nat → Int) (T : Nat → ByteArray) (W L : Nat → Int) (w : World) (hN : n ≤ N) (h : Tap w g 34 7 N (tc K T W L)) (hn : 1 ≤ n) (hc : n ≤ c) (hM : c ≤ 9223372036854775807) (hn6 : n ≤ 16384) :
    Calls Try.prog 30 #[.slice (some ⟨g, 0, none⟩) n c] w (PP g n N K T W L w) := by
  obtain ⟨v1, hv1⟩ : ∃ v1, vlen n 0 K = v1 := ⟨_, rfl⟩
  have HV1 := Lib.hid hv1
  have hvn : v1 ≤ n := by rw [← hv1]; exact vlen_le _ _ _
  have TT := Lib.hid h
  have SV := Lib.hid (sv_at g 0 n c 0 N K T W L w rfl (by omega) h hn hc hM)
  have HG := Lib.hid h.lt
  rw [hv1] at SV
  clear h hv1
  go_enter Try.func30, Try.ntmps30
  go_wp2_with fail
  refine SV.out.mono ?_
  rintro e w1 ⟨X, W1, rfl, hX, ht, hz, hb⟩
  have T1 := Lib.hid ht
  have HZ := Lib.hid hz
  have B1 := Lib.hid hb.1
  have HX := Lib.hid hX
  clear ht hz hb hX SV TT
  by_cases h0 : v1 = 0
  · subst h0
    go_wp2_with fail
    go_ret2
    exact ⟨W1, W1, HZ.out, T1.out, B1.out, .inl ⟨rfl, by rw [HV1.out]; simp⟩⟩
  have q0 : (0 : Int) < (v1 : Int) := by omega
  go_wp2_with fail
  have TQ := Lib.hid (TR.tail (X := X) (n := n) (i := v1) T1.out hN (fun h => by rw [HX.out h, Nat.zero_add]))
  obtain ⟨m1, hm1⟩ : ∃ m1, cmpOf (n - v1) (sh v1 K) (sh v1 W1) = m1 := ⟨_, rfl⟩
  have HM1 := Lib.hid hm1
  have SC := Lib.hid (scanq_any X (n - v1) (c - v1) (sh v1 K) (sh v1 T) (sh v1 W1) (sh v1 L) w1 TQ.out (by omega) (by omega))
  rw [hm1] at SC
  have hm5 : m1 ≤ 5 := by rw [← hm1]; exact cmpOf_le _ _ _
  have hmw : wid m1 ≤ n - v1 := by rw [← hm1]; exact cmpOf_wid _ _ _
  have DONE := Lib.hid (fun (Wf : Nat → Int) (e : Ending) (w' : World) (ht : Tap w' g 34 7 N (tc K T Wf L)) (hb : Below g w w') (hp : PQ g n K T L m1 w e w') => show PP g n N K T W L w e w' from ⟨W1, Wf, HZ.out, ht, hb, by rw [HV1.out, HM1.out]; exact hp⟩)
  clear hm1
  refine SC.out.mono ?_
  rintro e w2 ⟨A2, rfl, ht2, hb2, hA2⟩
  have T2 := Lib.hid (T1.out.below hb2 T1.out.lt)
  have B2 := Lib.hid (B1.out.trans (hb2.mono (Nat.le_of_lt T1.out.lt)))
  have HA2 := Lib.hid (show v1 + wid m1 < n → A2 = some ⟨g, 7 * (v1 + wid m1), none⟩ from fun hlt => by rw [hA2 g (0 + 7 * v1) (HX.out (by omega)) (by omega)]; congr 2; omega)
  clear ht2 hb2 hA2 SC TQ T1 B1
  by_cases hm0 : m1 = 0
  · subst hm0
    go_wp2_with fail
    go_ret2
    exact DONE.out _ _ _ T2.out B2.out (.inl ⟨rfl, by simp⟩)
  have hm0' : ((m1 : Int) != 0) = true := by simp; omega
  go_wp2_with fail
  obtain ⟨j, hj⟩ : ∃ j, v1 + wid m1 = j := ⟨_, rfl⟩
  have HJ := Lib.hid hj
  obtain ⟨n2, hn2⟩ : ∃ n2, n - v1 - wid m1 = n2 := ⟨_, rfl⟩
  obtain ⟨c2, hc2⟩ : ∃ c2, c - v1 - wid m1 = c2 := ⟨_, rfl⟩
  rw [hn2, hc2]
  have hc2' : n2 ≤ c2 := by omega
  have hM2 : c2 ≤ 9223372036854775807 := by omega
  have e2 : n - j = n2 := by omega
  have HE2 := Lib.hid e2
  have hjn : j + n2 = n := by omega
  rw [hj] at HA2
  obtain ⟨v2, hv2⟩ : ∃ v2, vlen n2 j K = v2 := ⟨_, rfl⟩
  have HV2 := Lib.hid hv2
  have hv2n : v2 ≤ n2 := by rw [← hv2]; exact vlen_le _ _ _
  have PQN := Lib.hid (fun (e : Ending) (w' : World) (he : e = .returned (.tuple #[.pointer none, .bool false])) (hx : ¬ (v2 ≠ 0 ∧ j + v2 = n ∧ ((v1 = 1 ∧ K 0 = 29) ∨ (v2 = 1 ∧ K j = 29)))) => show PQ g n K T L m1 w e w' from .inl ⟨he, by
    rw [HV1.out, HJ.out, HE2.out, HV2.out]
    exact fun h => hx ⟨h.2.2.1, h.2.2.2.1, h.2.2.2.2⟩⟩)
  have PQ1 := Lib.hid (fun (e : Ending) (w' : World) (r ca : Nat) (he : e = .returned (.tuple #[.pointer (some ⟨r, 0, none⟩), .bool true])) (hr : w.heap.size ≤ r) (h1 : v1 = 1) (h2 : K 0 = 29) (h3 : v2 ≠ 0) (h4 : j + v2 = n) (hca : v2 ≤ ca)
      (hb : Blk w' r 58 #[.slice none 0 0, .string (T 0), .slice (some ⟨g, 7 * j, none⟩) v2 ca, .int .i32 (L 0), .int .u8 0, .int .u8 (m1 : Nat)]) => show PQ g n K T L m1 w e w' from .inr ⟨r, he, hr, hm0, by rw [HV1.out]; exact h0, .inl (by
    rw [HV1.out, HJ.out, HE2.out, HV2.out]
    exact ⟨h1, h2, h3, h4, ca, hb, hca⟩)⟩)
  have PQ2 := Lib.hid (fun (e : Ending) (w' : World) (r cb : Nat) (he : e = .returned (.tuple #[.pointer (some ⟨r, 0, none⟩), .bool true])) (hr : w.heap.size ≤ r) (h1 : ¬ (v1 = 1 ∧ K 0 = 29)) (h2 : v2 = 1) (h3 : K j = 29) (h4 : j + v2 = n) (hcb : v1 ≤ cb)
      (hb : Blk w' r 58 #[.slice (some ⟨g, 0, none⟩) v1 cb, .string (T j), .slice none 0 0, .int .i32 (L j), .int .u8 (m1 : Nat), .int .u8 0]) => show PQ g n K T L m1 w e w' from .inr ⟨r, he, hr, hm0, by rw [HV1.out]; exact h0, .inr (.inl (by
    rw [HV1.out, HJ.out, HE2.out, HV2.out]
    exact ⟨h1, h2, h3, h4, cb, hb, hcb⟩))⟩)
  have PQ3 := Lib.hid (fun (e : Ending) (w' : World) (r cb : Nat) (nm : ByteArray) (X : Option Addr) (nx cx : Nat) (lo ac : Int) (he : e = .returned (.tuple #[.pointer (some ⟨r, 0, none⟩), .bool true])) (hr : w.heap.size ≤ r) (h4 : j + v2 ≠ n)
      (hb : Blk w' r 58 #[.slice (some ⟨g, 0, none⟩) v1 cb, .string nm, .slice X nx cx, .int .i32 lo, .int .u8 (m1 : Nat), .int .u8 ac]) => show PQ g n K T L m1 w e w' from .inr ⟨r, he, hr, hm0, by rw [HV1.out]; exact h0, .inr (.inr (by
    rw [HV1.out, HJ.out, HE2.out, HV2.out]
    exact ⟨h4, cb, nm, X, nx, cx, lo, ac, hb⟩))⟩)
  clear hv2 hj hn2 hc2 e2
  by_cases hz2 : n2 = 0
  · subst hz2
    refine (sv_none A2 c2 _ hM2).mono ?_
    rintro e w3 ⟨X3, Y3, x3, y3, rfl, hb3⟩
    have T3 := Lib.hid (T2.out.below hb3 T2.out.lt)
    have B3 := Lib.hid (B2.out.trans (hb3.mono (Nat.le_of_lt T2.out.lt)))
    clear hb3
    go_wp2_with fail
    go_ret2
    exact DONE.out _ _ _ T3.out B3.out (PQN.out _ _ rfl (by omega))
  obtain rfl : A2 = some ⟨g, 7 * j, none⟩ := HA2.out (by omega)
  have SV2 := Lib.hid (sv_at g j n2 c2 (7 * j) N K T W1 L w2 rfl (by omega) T2.out (by omega) hc2' hM2)
  rw [HV2.out] at SV2
  refine SV2.out.mono ?_
  rintro e w3 ⟨X3, W3, rfl, hX3, ht3, -, hb3⟩
  have T3 := Lib.hid ht3
  have B3 := Lib.hid (B2.out.trans hb3.1)
  have HX3 := Lib.hid hX3
  clear ht3 hb3 hX3 SV2 HA2 T2 B2
  by_cases hv20 : v2 = 0
  · subst hv20
    go_wp2_with fail
    go_ret2
    exact DONE.out _ _ _ T3.out B3.out (PQN.out _ _ rfl (by omega))
  have q2 : (0 : Int) < (v2 : Int) := by omega
  obtain ⟨n3, hn3⟩ : ∃ n3, n2 - v2 = n3 := ⟨_, rfl⟩
  obtain ⟨c3, hc3⟩ : ∃ c3, c2 - v2 = c3 := ⟨_, rfl⟩
  rw [hn3, hc3]
  by_cases hz3 : n3 = 0
  · subst hz3
    go_wp2_with fail
    refine (single_any (some ⟨g, 0, none⟩) v1 c K T W3 L _ (TR.head T3.out (by omega)) (by omega) (by omega)).mono ?_
    rintro e w4 ⟨hs, hb4⟩
    have T4 := Lib.hid (T3.out.below hb4 T3.out.lt)
    have B4 := Lib.hid (B3.out.trans (hb4.mono (Nat.le_of_lt T3.out.lt)))
    have BO4 := Lib.hid (show w.heap.size ≤ w4.heap.size from Nat.le_trans B3.out.size hb4.size)
    clear hb4 T3 B3
    rcases hs with ⟨ha, hk, rfl⟩ | ⟨hno, rfl⟩
    · have HA := Lib.hid ha
      have HK := Lib.hid hk
      have NB := Lib.hid (show Blk ((w4.alloc (.cells #[.int .i32 (L 0)] 28)).alloc (.cells #[.slice none 0 0, .string (T 0), .slice (some ⟨g, 7 * j, none⟩) v2 c2, .int .i32 (L 0), .int .u8 0, .int .u8 (m1 : Nat)] 58)) (w4.heap.size + 1) 58 #[.slice none 0 0, .string (T 0), .slice (some ⟨g, 7 * j, none⟩) v2 c2, .int .i32 (L 0), .int .u8 0, .int .u8 (m1 : Nat)] from by simpa using Blk.new (w4.alloc (.cells #[.int .i32 (L 0)] 28)) 58 #[.slice none 0 0, .string (T 0), .slice (some ⟨g, 7 * j, none⟩) v2 c2, .int .i32 (L 0), .int .u8 0, .int .u8 (m1 : Nat)])
      clear ha hk
      go_wp2_with fail
      go_ret2
      exact DONE.out _ _ _ ((T4.out.alloc _).alloc _) ((B4.out.alloc (Nat.le_trans (Nat.le_of_lt HG.out) BO4.out) _).alloc (by have := HG.out; have := BO4.out; simp; omega) _) (PQ1.out _ _ _ _ rfl (by have := BO4.out; omega) HA.out HK.out hv20 (by omega) (by omega) NB.out)
    · have HNO := Lib.hid hno
      clear hno
      go_wp2_with fail
      refine (single_any (some ⟨g, 7 * j, none⟩) v2 c2 (sh j K) (sh j T) (sh j W3) (sh j L) _ ((TR.part T4.out (by omega)).below ((Below.refl _ _).alloc (Nat.le_refl _) _)) (by omega) (by omega)).mono ?_
      rintro e w5 ⟨hs, hb5⟩
      have T5 := Lib.hid ((T4.out.alloc (.cells #[.int .i32 0] 28)).below hb5 (T4.out.alloc _).lt)
      have B5 := Lib.hid ((B4.out.alloc (Nat.le_trans (Nat.le_of_lt HG.out) BO4.out) (.cells #[.int .i32 0] 28)).trans (hb5.mono (by have := HG.out; have := BO4.out; simp; omega)))
      have BO5 := Lib.hid (show w.heap.size ≤ w5.heap.size from by have := hb5.size; have := BO4.out; simp at *; omega)
      clear hb5 T4 B4 BO4
      rcases hs with ⟨ha, hk, rfl⟩ | ⟨hno, rfl⟩
      · have HA := Lib.hid ha
        have HK := Lib.hid (show K j = 29 from hk)
        obtain ⟨tj, htj⟩ : ∃ tj, sh j T 0 = tj := ⟨_, rfl⟩
        obtain ⟨lj, hlj⟩ : ∃ lj, sh j L 0 = lj := ⟨_, rfl⟩
        rw [htj, hlj]
        have HTJ := Lib.hid (show T j = tj from htj)
        have HLJ := Lib.hid (show L j = lj from hlj)
        have NB := Lib.hid (show Blk ((w5.alloc (.cells #[.int .i32 lj] 28)).alloc (.cells #[.slice (some ⟨g, 0, none⟩) v1 c, .string tj, .slice none 0 0, .int .i32 lj, .int .u8 (m1 : Nat), .int .u8 0] 58)) (w5.heap.size + 1) 58 #[.slice (some ⟨g, 0, none⟩) v1 c, .string (T j), .slice none 0 0, .int .i32 (L j), .int .u8 (m1 : Nat), .int .u8 0] from by rw [HTJ.out, HLJ.out]; simpa using Blk.new (w5.alloc (.cells #[.int .i32 lj] 28)) 58 #[.slice (some ⟨g, 0, none⟩) v1 c, .string tj, .slice none 0 0, .int .i32 lj, .int .u8 (m1 : Nat), .int .u8 0])
        clear ha hk htj hlj
        go_wp2_with fail
        go_ret2
        exact DONE.out _ _ _ ((T5.out.alloc _).alloc _) ((B5.out.alloc (Nat.le_trans (Nat.le_of_lt HG.out) BO5.out) _).alloc (by have := HG.out; have := BO5.out; simp; omega) _) (PQ2.out _ _ _ _ rfl (by have := BO5.out; omega) HNO.out HA.out HK.out (by omega) (by omega) NB.out)
      · have HN2 := Lib.hid hno
        clear hno
        go_wp2_with fail
        go_ret2
        exact DONE.out _ _ _ (T5.out.alloc _) (B5.out.alloc (Nat.le_trans (Nat.le_of_lt HG.out) BO5.out) _) (PQN.out _ _ rfl (by
          rintro ⟨-, -, h | h⟩
          · exact HNO.out h
          · exact HN2.out h))
  · have hz3' : ((n3 : Int) == 0) = false := by rw [beq_eq_false_iff_ne]; omega
    have hne : j + v2 ≠ n := by omega
    have HNE := Lib.hid hne
    have NILP := Lib.hid (fun (e : Ending) (w' : World) (he : e = .returned (.tuple #[.pointer none, .bool false])) => show PQ g n K T L m1 w e w' from PQN.out _ _ he (fun h => hne h.2.1))
    obtain rfl : X3 = some ⟨g, 7 * j + 7 * v2, none⟩ := HX3.out (by omega)
    clear hne
    go_wp2_with fail
    refine (single_any (some ⟨g, 7 * j, none⟩) v2 c2 (sh j K) (sh j T) (sh j W3) (sh j L) _ (TR.part T3.out (by omega)) (by omega) (by omega)).mono ?_
    rintro e w4 ⟨hs, hb4⟩
    have T4 := Lib.hid (T3.out.below hb4 T3.out.lt)
    have B4 := Lib.hid (B3.out.trans (hb4.mono (Nat.le_of_lt T3.out.lt)))
    have BO4 := Lib.hid (show w.heap.size ≤ w4.heap.size from Nat.le_trans B3.out.size hb4.size)
    clear hb4 T3 B3
    rcases hs with ⟨ha, hk, rfl⟩ | ⟨hno, rfl⟩
    · clear ha hk
      obtain ⟨tj, htj⟩ : ∃ tj, sh j T 0 = tj := ⟨_, rfl⟩
      obtain ⟨lj, hlj⟩ : ∃ lj, sh j L 0 = lj := ⟨_, rfl⟩
      rw [htj, hlj]
      clear htj hlj
      go_wp2_with fail
      have LB := Lib.hid (Blk.new w4 28 #[.int .i32 lj])
      have T5 := Lib.hid (T4.out.alloc (.cells #[.int .i32 lj] 28))
      have B5 := Lib.hid (B4.out.alloc (Nat.le_trans (Nat.le_of_lt HG.out) BO4.out) (.cells #[.int .i32 lj] 28))
      have BO5 := Lib.hid (show w.heap.size ≤ (w4.alloc (.cells #[.int .i32 lj] 28)).heap.size from by have := BO4.out; simp; omega)
      generalize w4.alloc (.cells #[.int .i32 lj] 28) = W5 at *
      generalize w4.heap.size = gl at *
      clear T4 B4 BO4
      have e3 : n - (j + v2) = n3 := by omega
      have TQ := Lib.hid (TR.tail (X := some ⟨g, 7 * j + 7 * v2, none⟩) (n := n) (i := j + v2) T5.out hN (fun _ => by congr 2; omega))
      rw [e3] at TQ
      obtain ⟨m3, hm3⟩ : ∃ m3, cmpOf n3 (sh (j + v2) K) (sh (j + v2) W3) = m3 := ⟨_, rfl⟩
      have SC := Lib.hid (scanq_any _ n3 c3 (sh (j + v2) K) (sh (j + v2) T) (sh (j + v2) W3) (sh (j + v2) L) W5 TQ.out (by omega) (by omega))
      rw [hm3] at SC
      have hm35 : m3 ≤ 5 := by rw [← hm3]; exact cmpOf_le _ _ _
      have hm3w : wid m3 ≤ n3 := by rw [← hm3]; exact cmpOf_wid _ _ _
      clear hm3 e3
      refine SC.out.mono ?_
      rintro e w6 ⟨A6, rfl, ht6, hb6, hA6⟩
      have T6 := Lib.hid (T5.out.below hb6 T5.out.lt)
      have B6 := Lib.hid (B5.out.trans (hb6.mono (Nat.le_of_lt T5.out.lt)))
      have LB6 := Lib.hid (LB.out.below hb6 LB.out.lt)
      have BO6 := Lib.hid (show w.heap.size ≤ w6.heap.size from Nat.le_trans BO5.out hb6.size)
      have HA6 := Lib.hid (show wid m3 < n3 → A6 = some ⟨g, 7 * (j + v2 + wid m3), none⟩ from fun hlt => by rw [hA6 g (7 * j + 7 * v2) rfl hlt]; congr 2; omega)
      clear ht6 hb6 hA6 SC TQ T5 B5 LB BO5
      by_cases hm30 : m3 = 0
      · subst hm30
        go_wp2_with fail
        go_ret2
        exact DONE.out _ _ _ T6.out B6.out (NILP.out _ _ rfl)
      have hm30' : ((m3 : Int) != 0) = true := by simp; omega
      go_wp2_with fail
      refine (dir35 m1 _ hm5).mono ?_
      rintro e w' ⟨rfl, rfl⟩
      go_wp2_with fail
      refine (dir35 m3 _ hm35).mono ?_
      rintro e w' ⟨rfl, rfl⟩
      generalize dr m1 = d1 at *
      generalize dr m3 = d3 at *
      obtain ⟨n6, hn6⟩ : ∃ n6, n3 - wid m3 = n6 := ⟨_, rfl⟩
      obtain ⟨c6, hc6⟩ : ∃ c6, c3 - wid m3 = c6 := ⟨_, rfl⟩
      rw [hn6, hc6]
      have hc6' : n6 ≤ c6 := by omega
      have hM6 : c6 ≤ 9223372036854775807 := by omega
      have hj6 : j + v2 + wid m3 + n6 = n := by omega
      have HA7 := Lib.hid (show n6 ≠ 0 → A6 = some ⟨g, 7 * (j + v2 + wid m3), none⟩ from fun h => HA6.out (by omega))
      clear hn6 hc6 HA6
      by_cases a1 : d1 < 0 <;> by_cases a2 : d3 < 0 <;> by_cases a3 : 0 < d1 <;> by_cases a4 : 0 < d3
      all_goals (try (exfalso; omega; done))
      all_goals
        go_wp2_with fail
        first
          | (go_ret2
             exact DONE.out _ _ _ T6.out B6.out (NILP.out _ _ rfl))
          | (by_cases hz6 : n6 = 0
             · subst hz6
               refine (sv_none A6 c6 _ hM6).mono ?_
               rintro e w7 ⟨X7, Y7, x7, y7, rfl, hb7⟩
               have T7 := Lib.hid (T6.out.below hb7 T6.out.lt)
               have B7 := Lib.hid (B6.out.trans (hb7.mono (Nat.le_of_lt T6.out.lt)))
               clear hb7
               go_wp2_with fail
               go_ret2
               exact DONE.out _ _ _ T7.out B7.out (NILP.out _ _ rfl)
             · obtain rfl : A6 = some ⟨g, 7 * (j + v2 + wid m3), none⟩ := HA7.out hz6
               have hgl := tab_ne T6.out LB6.out (by decide)
               refine (sv_at g (j + v2 + wid m3) n6 c6 _ N K T W3 L w6 rfl (by omega) T6.out (by omega) hc6' hM6).mono ?_
               rintro e w7 ⟨X7, W7, rfl, hX7, ht7, -, hb7⟩
               have T7 := Lib.hid ht7
               have B7 := Lib.hid (B6.out.trans hb7.1)
               have LB7 := Lib.hid (show Blk w7 gl 28 #[.int .i32 lj] from (hb7.2 gl hgl).trans LB6.out)
               have BO7 := Lib.hid (Nat.le_trans BO6.out hb7.1.size)
               have l7 : w7.cell? ⟨gl, 0, none⟩ = some (.int .i32 lj) := LB7.out.cell 0
               clear ht7 hb7 hX7
               obtain ⟨v7, hv7⟩ : ∃ v7, vlen n6 (j + v2 + wid m3) K = v7 := ⟨_, rfl⟩
               rw [hv7]
               clear hv7
               obtain ⟨n8, hn8⟩ : ∃ n8, n6 - v7 = n8 := ⟨_, rfl⟩
               obtain ⟨c8, hc8⟩ : ∃ c8, c6 - v7 = c8 := ⟨_, rfl⟩
               rw [hn8, hc8]
               clear hn8 hc8
               by_cases hv70 : v7 = 0
               · subst hv70
                 go_wp2_with fail
                 go_ret2
                 exact DONE.out _ _ _ T7.out B7.out (NILP.out _ _ rfl)
               · have q7 : (0 : Int) < (v7 : Int) := by omega
                 by_cases hn80 : n8 = 0
                 · subst hn80
                   have NB := Lib.hid (Blk.new w7 58 #[.slice (some ⟨g, 0, none⟩) v1 c, .string tj, .slice (some ⟨g, 7 * (j + v2 + wid m3), none⟩) v7 c6, .int .i32 lj, .int .u8 (m1 : Nat), .int .u8 (m3 : Nat)])
                   go_wp2_with fail
                   go_ret2
                   exact DONE.out _ _ _ (T7.out.alloc _) (B7.out.alloc (Nat.le_trans (Nat.le_of_lt HG.out) BO7.out) _) (PQ3.out _ _ _ _ _ _ _ _ _ _ rfl BO7.out HNE.out NB.out)
                 · have hn81 : ((n8 : Int) == 0) = false := by rw [beq_eq_false_iff_ne]; omega
                   go_wp2_with fail
                   go_ret2
                   exact DONE.out _ _ _ T7.out B7.out (NILP.out _ _ rfl))
    · clear hno
      go_wp2_with fail
      go_ret2
      exact DONE.out _ _ _ (T4.out.alloc _) (B4.out.alloc (Nat.le_trans (Nat.le_of_lt HG.out) BO4.out) _) (NILP.out _ _ rfl)
set_option maxRecDepth 100000 in
theorem parse30n (w : World) (A : Option Addr) (c : Nat) (hM : c ≤ 9223372036854775807) : Calls Try.prog 30 #[.slice A 0 c] w fun e w' => e = .returned (.tuple #[.pointer none, .bool false]) ∧ Below w.heap.size w w' := by
  go_enter Try.func30, Try.ntmps30
  go_wp2_with fail
  refine (sv_none A c w hM).mono ?_
  rintro e w1 ⟨X, Y, x, y, rfl, hb⟩
  have B := Lib.hid hb
  clear hb
  go_wp2_with fail
  go_ret2
  exact ⟨rfl, B.out⟩
end Go.Proofs.Ytceafaddhbabhaa.ZT

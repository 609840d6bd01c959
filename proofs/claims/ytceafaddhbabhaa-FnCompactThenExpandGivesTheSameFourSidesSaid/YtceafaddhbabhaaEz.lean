/- ZZExpandTokenQuad and the helpers of its law. Printed by gen_expandlaw.py. -/
import Derived.Test.YtceafaddhbabhaaEx1
import Derived.Test.YtceafaddhbabhaaEx2
import Derived.Test.YtceafaddhbabhaaEx3
import Derived.Test.YtceafaddhbabhaaEx4
namespace Go.Proofs.Ytceafaddhbabhaa.ZT
open Go.RowKit Go.Proofs.Ytceafaddhbabhaa.TB
set_option linter.unusedVariables false
set_option maxRecDepth 100000 in
theorem expand_no (A : Option Addr) (n c : Nat) (s : ByteArray) (K : Nat → Int) (T : Nat → ByteArray) (W L : Nat → Int) (w : World) (hn : n ≤ 16384) (h : n < 1 ∨ 4 < n) :
    Calls Try.prog 27 #[.slice A n c, .string s] w (ExpP n s K T W L w) := by
  have HN := Lib.hid (show ¬ okAll n s K T from fun ha => by have := ha.1; have := ha.2.1; omega)
  have Z0 := Lib.hid (Blk.new w 35 z28)
  unfold z28 at Z0
  by_cases h1 : n < 1
  · go_enter Try.func27, Try.ntmps27
    go_wp2
    exact bodyPost_ret (res27 _ _ w.heap.size z28 false Z0.out rfl rfl rfl) rfl ⟨.inr ⟨HN.out, rfl⟩, (Below.refl _ _).alloc (Nat.le_refl _) _⟩
  · have h4 : 4 < n := by omega
    go_enter Try.func27, Try.ntmps27
    go_wp2
    exact bodyPost_ret (res27 _ _ w.heap.size z28 false Z0.out rfl rfl rfl) rfl ⟨.inr ⟨HN.out, rfl⟩, (Below.refl _ _).alloc (Nat.le_refl _) _⟩
theorem expand_any (A : Option Addr) (n c : Nat) (s : ByteArray) (K : Nat → Int) (T : Nat → ByteArray) (W L : Nat → Int) (w : World) (r : TR w A n (tc K T W L)) (hc : n ≤ c) (hn : c ≤ 16384) :
    Calls Try.prog 27 #[.slice A n c, .string s] w (ExpP n s K T W L w) := by
  rcases (by omega : (n < 1 ∨ 4 < n) ∨ (1 ≤ n ∧ n ≤ 1) ∨ (2 ≤ n ∧ n ≤ 2) ∨ (3 ≤ n ∧ n ≤ 3) ∨ (4 ≤ n ∧ n ≤ 4)) with h | ⟨h, h'⟩ | ⟨h, h'⟩ | ⟨h, h'⟩ | ⟨h, h'⟩
  · exact expand_no A n c s K T W L w (by omega) h
  · exact expand1 A n c s K T W L w r hc hn h h'
  · exact expand2 A n c s K T W L w r hc hn h h'
  · exact expand3 A n c s K T W L w r hc hn h h'
  · exact expand4 A n c s K T W L w r hc hn h h'
theorem res10 (tmps : Array Value) (W : World) (g : Nat) (z : Array Value) (bb : Bool) (h : Blk W g 35 z) (hs : z.size = 28) (h4 : tmps.getD 4 undef = .pointer (some ⟨g, 0, none⟩)) (h5 : tmps.getD 5 undef = .bool bb) :
    (results Try.f10 tmps).run Try.prog W = .ok (.tuple #[.agg z, .bool bb]) W := by
  have hr := run_loadVar_mid (P := Try.prog) W g 0 35 z.toList _ (fun j v hv => by rw [Nat.zero_add, h.cell]; simpa using hv) Try.underlying35 rfl (by rw [Array.length_toList, hs]; kernel_rfl)
  have h4' : tmps[4]?.getD undef = .pointer (some ⟨g, 0, none⟩) := by simpa using h4
  have h5' : tmps[5]?.getD undef = .bool bb := by simpa using h5
  simp [results, Try.results10, h4', h5', asAddr, hr]
/-- A block filled whole. -/
theorem Blk.fill {w : World} {g : Nat} {t : TypeId} {z : Array Value} (h : Blk w g t z) (cs : Array Value) (hs : cs.size = z.size) : Blk (w.setCells g 0 cs.toList) g t cs := by
  have hT : Tab w g t z.size 1 (fun _ j => z[j]!) := ⟨z, h, by simp, fun i j hi hj => by
    obtain rfl : i = 0 := by omega
    rw [Nat.zero_mul, Nat.zero_add]; show z[j]? = some z[j]!; rw [getElem!_pos z j hj]; exact Array.getElem?_eq_getElem hj⟩
  obtain ⟨c, hb, hc, hf⟩ := hT.row (i := 0) (by omega) cs.toList (by simpa using hs)
  rw [Nat.zero_mul] at hb
  have e : c = cs := by
    apply Array.ext
    · rw [hc, hs]; omega
    · intro j h1 h2
      have := hf 0 j (by omega) (by omega)
      rw [Nat.zero_mul, Nat.zero_add] at this
      have this : c[j]? = some (cs.toList[j]?.getD undef) := this
      rw [Array.getElem?_eq_getElem h1] at this
      injection this with this
      rw [this]
      simp [h2]
  rw [e] at hb; exact hb
theorem Blk.there {w : World} {g : Nat} {t : TypeId} {z : Array Value} (h : Blk w g t z) : w.there g 0 z.size := fun j hj => by
  rw [Nat.zero_add]
  exact ⟨by rw [h.cell, Array.getElem?_eq_getElem hj]; rfl, h.frozen j⟩
theorem below_fill {w0 w : World} {B g : Nat} (cs : List Value) : ∀ {w : World} (o : Nat), Below B w0 w → B ≤ g → Below B w0 (w.setCells g o cs) := by
  induction cs with
  | nil => intro w o h _; exact h
  | cons v r ih => intro w o h hg; exact ih (o + 1) (h.setCell hg v) hg
/-- What the answer says of the array and the flag. -/
def QOk (n : Nat) (s : ByteArray) (K : Nat → Int) (T : Nat → ByteArray) (W L : Nat → Int) (Q : Array Value) (bb : Bool) : Prop :=
  (okAll n s K T ∧ Q = q28 K T W L (sel n 0) (sel n 1) (sel n 2) (sel n 3) ∧ bb = true) ∨ (¬ okAll n s K T ∧ Q = z28 ∧ bb = false)
theorem QOk.size {n : Nat} {s : ByteArray} {K : Nat → Int} {T : Nat → ByteArray} {W L : Nat → Int} {Q : Array Value} {bb : Bool} (h : QOk n s K T W L Q bb) : Q.size = 28 ∧ Q.all (·.oneCell') = true := by
  rcases h with ⟨_, rfl, _⟩ | ⟨_, rfl, _⟩
  · exact ⟨rfl, by simp [q28, Value.oneCell']⟩
  · exact ⟨rfl, by simp [z28, Value.oneCell']⟩
def ExpQ (n : Nat) (s : ByteArray) (K : Nat → Int) (T : Nat → ByteArray) (W L : Nat → Int) (w : World) (e : Ending) (w' : World) : Prop :=
  ∃ Q bb, QOk n s K T W L Q bb ∧ e = .returned (.tuple #[.agg Q, .bool bb]) ∧ Below w.heap.size w w'
theorem ExpP.q {n : Nat} {s : ByteArray} {K : Nat → Int} {T : Nat → ByteArray} {W L : Nat → Int} {w : World} {e : Ending} {w' : World} (h : ExpP n s K T W L w e w') : ExpQ n s K T W L w e w' := by
  obtain ⟨⟨h1, rfl⟩ | ⟨h1, rfl⟩, hb⟩ := h
  · exact ⟨_, _, .inl ⟨h1, rfl, rfl⟩, rfl, hb⟩
  · exact ⟨_, _, .inr ⟨h1, rfl, rfl⟩, rfl, hb⟩
theorem info35 : (Try.prog.info? 35).map (·.size) = some 28 := by kernel_rfl
set_option maxRecDepth 100000 in
set_option maxHeartbeats 4000000 in
theorem zzExp (A : Option Addr) (n c : Nat) (s : ByteArray) (K : Nat → Int) (T : Nat → ByteArray) (W L : Nat → Int) (w : World) (r : TR w A n (tc K T W L)) (hc : n ≤ c) (hn : c ≤ 16384) :
    Calls Try.prog 10 #[.slice A n c, .string s] w (ExpQ n s K T W L w) := by
  have R := Lib.hid (fun (o : Obj) => show TR (w.alloc o) A n (tc K T W L) from r.below ((Below.refl _ _).alloc (Nat.le_refl _) o))
  have Z0 := Lib.hid (Blk.new w 35 z28)
  clear r
  unfold z28 at Z0
  go_enter Try.func10, Try.ntmps10
  go_wp2_with fail
  refine (expand_any A n c s K T W L _ (R.out _) hc hn).mono ?_
  rintro e w1 hx
  obtain ⟨Q, bb, hq, rfl, hb⟩ := hx.q
  have BZ := Lib.hid (show Blk w1 w.heap.size 35 z28 from Z0.out.below hb (by simp))
  have BB := Lib.hid (show Below w.heap.size w w1 from ((Below.refl _ w).alloc (Nat.le_refl _) _).trans (hb.mono (by simp)))
  have HQ := Lib.hid hq
  clear hb Z0 hx hq
  go_wp2_with (refine wpList_store_mid rfl 35 (.tmp 4) (.tmp 9) rfl w.heap.size 0 Q rfl rfl (by rw [HQ.out.size.1]; exact Blk.there BZ.out) (by rw [HQ.out.size.1]; exact info35) HQ.out.size.2 ?_)
  exact bodyPost_ret (res10 _ _ w.heap.size Q bb (Blk.fill BZ.out Q (by rw [HQ.out.size.1]; rfl)) HQ.out.size.1 rfl rfl) rfl ⟨Q, bb, HQ.out, rfl, below_fill (w := w1) _ _ BB.out (Nat.le_refl _)⟩
set_option maxRecDepth 100000 in
theorem zero21 (w : World) : Calls Try.prog 21 #[.agg #[.pointer none, .string { data := #[] }, .int .i32 0, .int .u32 0, .int .u16 0, .int .u8 0, .int .u8 0]] w fun e w' => e = .returned (.bool true) ∧ Below w.heap.size w w' := by
  go_enter Try.func21, Try.ntmps21
  go_wp2
  go_ret
  exact ⟨by simp, (Below.refl _ _).alloc (Nat.le_refl _) _⟩
set_option maxRecDepth 100000 in
theorem same22_eq (t : ByteArray) (l k ws : Int) (w : World) : Calls Try.prog 22 #[.agg #[.pointer none, .string t, .int .i32 l, .int .u32 0, .int .u16 0, .int .u8 k, .int .u8 ws], .agg #[.pointer none, .string t, .int .i32 l, .int .u32 0, .int .u16 0, .int .u8 k, .int .u8 ws]] w fun e w' => e = .returned (.bool true) ∧ Below w.heap.size w w' := by
  go_enter Try.func22, Try.ntmps22
  go_wp2
  go_ret
  exact ⟨by simp, ((Below.refl _ _).alloc (Nat.le_refl _) _).alloc (by simp) _⟩
def BoolB (w : World) (e : Ending) (w' : World) : Prop := ∃ b : Bool, e = .returned (.bool b) ∧ Below w.heap.size w w'
set_option maxRecDepth 100000 in
set_option maxHeartbeats 1000000 in
theorem same22_any (t t' : ByteArray) (l l' k k' ws ws' : Int) (w : World) : Calls Try.prog 22 #[.agg #[.pointer none, .string t, .int .i32 l, .int .u32 0, .int .u16 0, .int .u8 k, .int .u8 ws], .agg #[.pointer none, .string t', .int .i32 l', .int .u32 0, .int .u16 0, .int .u8 k', .int .u8 ws']] w (BoolB w) := by
  have HB := Lib.hid (fun (o o' : Obj) => show Below w.heap.size w ((w.alloc o).alloc o') from ((Below.refl _ _).alloc (Nat.le_refl _) _).alloc (by simp) _)
  cases h1 : (k == k')
  · go_enter Try.func22, Try.ntmps22
    go_wp2
    go_ret
    exact ⟨_, rfl, HB.out _ _⟩
  · cases h2 : (t.toList == t'.toList)
    · go_enter Try.func22, Try.ntmps22
      go_wp2
      go_ret
      exact ⟨_, rfl, HB.out _ _⟩
    · cases h3 : (ws == ws')
      · go_enter Try.func22, Try.ntmps22
        go_wp2
        go_ret
        exact ⟨_, rfl, HB.out _ _⟩
      · cases h4 : (l == l')
        · go_enter Try.func22, Try.ntmps22
          go_wp2
          go_ret
          exact ⟨_, rfl, HB.out _ _⟩
        · go_enter Try.func22, Try.ntmps22
          go_wp2
          go_ret
          exact ⟨_, rfl, HB.out _ _⟩
set_option maxRecDepth 100000 in
set_option maxHeartbeats 1000000 in
theorem bytes19 (A : Option Addr) (n c : Nat) (s : ByteArray) (K : Nat → Int) (T : Nat → ByteArray) (W L : Nat → Int) (w : World) (r : ZR w A n K T W L) (hn : n ≤ 9223372036854775807) (hs : s.size ≤ 9223372036854775807) :
    Calls Try.prog 19 #[.slice A n c, .string s] w (SomeBool w) := by
  have R := Lib.hid r
  clear r
  by_cases h : n ≤ 1048576
  · go_enter Try.func19, Try.ntmps19
    go_wp2
    go_loop [5, 6] (fun s i => ∃ (k : Nat) (N : Int), k ≤ n ∧ 0 ≤ N ∧ N ≤ 1048576 ∧ i = .int .i64 k ∧ s = .int .i64 N) (fun _ i => n - (intOf i).toNat)
    case atStart => exact ⟨0, (n : Int), Nat.zero_le _, by omega, by omega, rfl, rfl⟩
    case round =>
      obtain ⟨k, N, hk, h0, h1, rfl, rfl⟩ := hrel
      by_cases hlt : k < n
      · obtain ⟨b, o, rfl, hb, hc⟩ := R.out (by omega)
        have x1 := (hc k hlt).2.1
        clear hc
        have q1 : (0 : Int) ≤ (k : Int) := by omega
        have q2 : (k : Int) < (n : Int) := by omega
        go_wp2
        · go_ret
          exact ⟨false, rfl, rfl⟩
        · go_ret
          exact ⟨false, rfl, rfl⟩
        · go_round
          case rel => exact ⟨k + 1, N + (T k).size, by omega, by omega, by omega, by go_num, rfl⟩
          case measure => simp [intOf]; omega
      · go_wp2
        all_goals
          go_ret
          exact ⟨_, rfl, rfl⟩
  · go_enter Try.func19, Try.ntmps19
    go_wp2
    go_ret
    exact ⟨false, rfl, rfl⟩
end Go.Proofs.Ytceafaddhbabhaa.ZT

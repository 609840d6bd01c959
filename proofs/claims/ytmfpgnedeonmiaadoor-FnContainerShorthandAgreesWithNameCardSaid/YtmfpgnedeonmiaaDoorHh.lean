/- The small functions over names; lists of tokens. -/
import Derived.Test.YtmfpgnedeonmiaaDoorHg
namespace Go.Proofs.YtmfpgnedeonmiaaDoor.WA
open Go Go.RowKit Go.Lib Go.Proofs.YtmfpgnedeonmiaaDoor.MP Go.Proofs.YtmfpgnedeonmiaaDoor.SY Go.Proofs.YtmfpgnedeonmiaaDoor.LO Go.Proofs.YtmfpgnedeonmiaaDoor.TB Go.Proofs.YtmfpgnedeonmiaaDoor.OW
set_option linter.unusedVariables false
/-- A slice of texts, as a column. -/
def SR (w : World) (A : Option Addr) (n : Nat) (T : Nat → ByteArray) : Prop := 0 < n → ∃ b o, A = some ⟨b, o, none⟩ ∧ b < w.heap.size ∧ ∀ i, i < n → w.cell? ⟨b, o + i, none⟩ = some (.string (T i))
theorem SR.below {w w' : World} {A : Option Addr} {n : Nat} {z : Nat → ByteArray} (h : SR w A n z) (hb : Below w.heap.size w w') : SR w' A n z := by
  intro hn
  obtain ⟨b, o, e, hl, hc⟩ := h hn
  exact ⟨b, o, e, Nat.lt_of_lt_of_le hl hb.size, fun i hi => by rw [hb.cell hl]; exact hc i hi⟩
theorem SR.oth {X : Nat → Prop} {w1 w3 w4 : World} {A : Option Addr} {n : Nat} {T : Nat → ByteArray} (h1 : SR w1 A n T) (h : SR w3 A n T) (ho : Oth X w3 w4) (hx : ∀ q, q < w1.heap.size → ¬ X q) : SR w4 A n T := by
  intro hn
  obtain ⟨b, o, e, hl, hc⟩ := h hn
  obtain ⟨b', o', e', hl', -⟩ := h1 hn
  obtain ⟨rfl, rfl⟩ : b = b' ∧ o = o' := by rw [e] at e'; simpa using e'
  have hb := ho b (hx b hl')
  exact ⟨b, o, e, lt_some (hb.trans (Array.getElem?_eq_getElem hl)), fun i hi => (World.cell?_of_block (w := w3) hb).trans (hc i hi)⟩
def BytesA (n : Nat) (T : Nat → ByteArray) (s : ByteArray) (w : World) (e : Ending) (w' : World) : Prop := ∃ b : Bool, e = .returned (.bool b) ∧ w = w' ∧ (b = true → n ≤ 1048576 ∧ s.size ≤ 1048576 ∧ ∀ i, i < n → (T i).size ≤ 1048576)
section
variable (A : Option Addr) (n c : Nat) (ws ml : Bool) (s : ByteArray) (T : Nat → ByteArray) (w : World)
set_option maxRecDepth 100000 in
set_option maxHeartbeats 1000000 in
theorem bytesA (r : SR w A n T) (hn : n ≤ 9223372036854775807) (hs0 : s.size ≤ 9223372036854775807) : Calls Tryd.prog 13 #[.slice A n c, .bool ws, .string s, .bool ml] w (BytesA n T s w) := by
  have R := Lib.hid r
  clear r
  by_cases h1 : n ≤ 1048576
  · go_enter Tryd.func13, Tryd.ntmps13
    go_wp2
    go_loop [9, 10] (fun s i => ∃ (k : Nat) (N : Int), k ≤ n ∧ 0 ≤ N ∧ N ≤ 1048576 ∧ i = .int .i64 k ∧ s = .int .i64 N ∧ Hid (∀ i, i < k → (T i).size ≤ 1048576)) (fun _ i => n - (intOf i).toNat)
    case atStart => exact ⟨0, (n : Int), Nat.zero_le _, by omega, by omega, rfl, rfl, Lib.hid (fun i h => absurd h (by omega))⟩
    case round =>
      obtain ⟨k, N, hk, h0, h1', rfl, rfl, HZ⟩ := hrel
      by_cases hlt : k < n
      · obtain ⟨b, o, rfl, hb, hc⟩ := R.out (by omega)
        have x1 := hc k hlt
        clear hc
        have q1 : (0 : Int) ≤ (k : Int) := by omega
        have q2 : (k : Int) < (n : Int) := by omega
        by_cases hs : (T k).size ≤ 1048576
        · by_cases hbig : N + (T k).size ≤ 1048576
          · go_wp2
            go_round
            case rel => exact ⟨k + 1, N + (T k).size, by omega, by omega, by omega, by go_num, rfl, Lib.hid (fun i hi => by
                by_cases e : i < k
                · exact HZ.out i e
                · obtain rfl : i = k := by omega
                  exact hs)⟩
            case measure => simp [intOf]; omega
          · go_wp2
            go_ret
            exact ⟨false, rfl, rfl, fun h => by cases h⟩
        · go_wp2
          go_ret
          exact ⟨false, rfl, rfl, fun h => by cases h⟩
      · obtain rfl : k = n := by omega
        by_cases hs : s.size ≤ 1048576
        · by_cases hbig : N + s.size ≤ 1048576
          · go_wp2
            go_ret
            exact ⟨true, rfl, rfl, fun _ => ⟨h1, hs, HZ.out⟩⟩
          · go_wp2
            go_ret
            exact ⟨false, rfl, rfl, fun h => by cases h⟩
        · go_wp2
          go_ret
          exact ⟨false, rfl, rfl, fun h => by cases h⟩
  · go_enter Tryd.func13, Tryd.ntmps13
    go_wp2
    go_ret
    exact ⟨false, rfl, rfl, fun h => by cases h⟩
set_option maxRecDepth 100000 in
set_option maxHeartbeats 1000000 in
theorem strBytes (r : SR w A n T) (hn : n ≤ 1048576) (ht : ∀ i, i < n → (T i).size ≤ 1048576) : Calls Tryd.prog 14 #[.slice A n c] w (SomeInt w) := by
  have R := Lib.hid r
  have HZ := Lib.hid ht
  clear r ht
  go_enter Tryd.func14, Tryd.ntmps14
  go_wp2
  go_loop [3, 4] (fun s i => ∃ (k : Nat) (N : Int), k ≤ n ∧ 0 ≤ N ∧ N ≤ 1048576 ∧ i = .int .i64 k ∧ s = .int .i64 N) (fun _ i => n - (intOf i).toNat)
  case atStart => exact ⟨0, 0, Nat.zero_le _, by omega, by omega, rfl, rfl⟩
  case round =>
    obtain ⟨k, N, hk, h0, h1, rfl, rfl⟩ := hrel
    by_cases hlt : k < n
    · obtain ⟨b, o, rfl, hb, hc⟩ := R.out (by omega)
      have x1 := hc k hlt
      have hts := HZ.out k hlt
      clear hc
      have q1 : (0 : Int) ≤ (k : Int) := by omega
      have q2 : (k : Int) < (n : Int) := by omega
      by_cases hbig : N + (16 + ((T k).size : Int)) ≤ 1048576
      · go_wp2
        go_round
        case rel => exact ⟨k + 1, N + (16 + ((T k).size : Int)), by omega, by omega, by omega, by go_num, rfl⟩
        case measure => simp [intOf]; omega
      · go_wp2
        go_ret
        exact ⟨N + (16 + ((T k).size : Int)), by omega, by omega, rfl, rfl⟩
    · obtain rfl : k = n := by omega
      go_wp2
      go_ret
      exact ⟨N, h0, by omega, rfl, rfl⟩
end
def spart (T : Nat → ByteArray) (k : Nat) : Nat → Nat → Value := fun i _ => .string (if i < k then T i else ByteArray.empty)
theorem spart_step {w : World} {g n k : Nat} {T : Nat → ByteArray} (h : Tab w g TStr 1 n (spart T k)) (hk : k < n) : Tab (w.setCell ⟨g, k, none⟩ (.string (T k))) g TStr 1 n (spart T (k + 1)) := by
  have h1 := h.set hk (j := 0) (by omega) (.string (T k))
  rw [show k * 1 + 0 = k by omega] at h1
  refine h1.ext fun i j hi hj => ?_
  obtain rfl : j = 0 := by omega
  by_cases e : i = k
  · subst e; simp [upd, spart]
  · have e1 : (i < k + 1) = (i < k) := by simp; omega
    simp [upd, spart, e, e1]
theorem spart_new (w : World) (n : Nat) (T : Nat → ByteArray) : Tab (w.alloc (.cells (madeCells #[.string ByteArray.empty] n) TStr)) w.heap.size TStr 1 n (spart T 0) := by
  have h := Tab.new w TStr #[.string ByteArray.empty] n 1 rfl (spart T 0) (fun a b _ hb => by
    obtain rfl : b = 0 := by omega
    simp [spart])
  rw [Nat.mul_one] at h
  exact h
theorem SR.of_tab {w : World} {g n : Nat} {T : Nat → ByteArray} (h : Tab w g TStr 1 n (spart T n)) : SR w (some ⟨g, 0, none⟩) n T := by
  intro hn
  refine ⟨g, 0, rfl, h.lt, fun i hi => ?_⟩
  rw [Nat.zero_add, tab1 h hi]
  simp [spart, hi]
def CloneS (n : Nat) (T : Nat → ByteArray) (w : World) (e : Ending) (w' : World) : Prop :=
  ∃ A' c', e = .returned (.slice A' n c') ∧ n ≤ c' ∧ SR w' A' n T ∧ Below w.heap.size w w'
set_option maxRecDepth 100000 in
set_option maxHeartbeats 1000000 in
theorem cloneS (A : Option Addr) (n c : Nat) (T : Nat → ByteArray) (w : World) (r : SR w A n T) (hA : A = none → n = 0) (hn : n ≤ 1048576) :
    Calls Tryd.prog 15 #[.slice A n c] w (CloneS n T w) := by
  have eq1 := fun (w : World) (a : Option Addr) (n c n' c' : Nat) => Lib.run_eql_slice_nil (P := Tryd.prog) w 36 TStr a n c n' c' Tryd.underlying36
  cases A with
  | none =>
    obtain rfl := hA rfl
    go_enter Tryd.func15, Tryd.ntmps15
    go_wp2
    go_ret
    exact ⟨none, 0, rfl, Nat.le_refl _, fun h => absurd h (by omega), Below.refl _ _⟩
  | some x =>
    obtain ⟨i0, hi, hz0, hz1, hz2⟩ := info_parts infoStr
    have hmk := fun (W : World) => run_make (P := Tryd.prog) W 36 TStr i0 _ Tryd.underlying36 hi hz0 .i64 .i64 n n (by omega) (by omega) (by rw [hz2]; omega) (by omega)
    simp only [hz1, Int.toNat_natCast, Nat.mul_one] at hmk
    have R := Lib.hid r
    clear r hA
    have T0 := Lib.hid (spart_new w n T)
    have B0 := Lib.hid (show Below w.heap.size w (w.alloc (.cells (madeCells #[.string ByteArray.empty] n) TStr)) from (Below.refl _ _).alloc (Nat.le_refl _) _)
    go_enter Tryd.func15, Tryd.ntmps15
    go_wp2
    generalize w.alloc (.cells (madeCells #[.string ByteArray.empty] n) TStr) = W0 at *
    clear hmk
    go_loopw [4] (fun i wr => ∃ k : Nat, k ≤ n ∧ i = .int .i64 k ∧ Hid (Tab wr w.heap.size TStr 1 n (spart T k)) ∧ Hid (Below w.heap.size w wr)) (fun i _ => n - (intOf i).toNat)
    case atStart => exact ⟨0, Nat.zero_le _, rfl, T0, B0⟩
    case round =>
      obtain ⟨k, hk, rfl, TT, BB⟩ := hrel
      clear T0 B0
      by_cases hlt : k < n
      · obtain ⟨b, o, e, hb, hc⟩ := R.out (by omega)
        obtain rfl : x = ⟨b, o, none⟩ := by injection e
        clear e
        have z0 : wr.cell? ⟨b, o + k, none⟩ = some (.string (T k)) := by rw [BB.out.cell hb]; exact hc k hlt
        have q1 : (0 : Int) ≤ (k : Int) := by omega
        have q2 : (k : Int) < (n : Int) := by omega
        have y0 := tab1 TT.out hlt
        have u0 := TT.out.frozen k
        clear hc
        go_wp2
        go_roundw
        case rel => exact ⟨k + 1, by omega, by go_num, Lib.hid (spart_step TT.out hlt), Lib.hid (BB.out.setCell (Nat.le_refl _) _)⟩
        case measure => simp [intOf]; omega
      · obtain rfl : k = n := by omega
        go_wp2
        go_ret
        exact ⟨_, _, rfl, Nat.le_refl _, SR.of_tab TT.out, BB.out⟩
/-- The cells of a token, and of a list of tokens. -/
def trow (k : Int) (s : ByteArray) : List Value := [.pointer none, .string s, .int .i32 0, .int .u32 0, .int .u16 0, .int .u8 k, .int .u8 0]
def tkl (K : Nat → Int) (T : Nat → ByteArray) : Nat → List Value
  | 0 => []
  | k + 1 => tkl K T k ++ trow (K k) (T k)
theorem tkl_len (K : Nat → Int) (T : Nat → ByteArray) : ∀ n, (tkl K T n).length = n * 7
  | 0 => rfl
  | n + 1 => by simp only [tkl, List.length_append, tkl_len K T n, trow, List.length_cons, List.length_nil]; omega
theorem tkl_at (K : Nat → Int) (T : Nat → ByteArray) (i j : Nat) (hj : j < 7) : ∀ n, i < n → (tkl K T n)[i * 7 + j]? = some (tkc K T (fun _ => 0) i j)
  | 0, h => by omega
  | n + 1, h => by
    simp only [tkl]
    by_cases e : i < n
    · rw [List.getElem?_append_left (by rw [tkl_len]; omega)]
      exact tkl_at K T i j hj n e
    · obtain rfl : i = n := by omega
      rw [List.getElem?_append_right (by rw [tkl_len]; omega), tkl_len, show i * 7 + j - i * 7 = j by omega]
      rcases seven hj with rfl | rfl | rfl | rfl | rfl | rfl | rfl <;> rfl
theorem tab_of_own {w : World} {B g n c : Nat} {K : Nat → Int} {T : Nat → ByteArray} (h : w.ownsRow B TT 7 (.slice (some ⟨g, 0, none⟩) n c) n (tkl K T n)) : Tab w g TT 7 n (tkc K T (fun _ => 0)) := by
  rcases h.2 with ⟨h1, -⟩ | ⟨g', cap, cur, h1, -, hg, hn, -, hs, ht⟩
  · cases h1
  · obtain ⟨rfl, rfl⟩ : g = g' ∧ c = cap := by simpa using h1
    refine ⟨cur, hg, by rw [hs]; exact Nat.mul_le_mul_right 7 hn, fun i j hi hj => ?_⟩
    have h2 := tkl_at K T i j hj n hi
    rw [← ht, List.getElem?_take, if_pos (by omega)] at h2
    simpa using h2
end Go.Proofs.YtmfpgnedeonmiaaDoor.WA

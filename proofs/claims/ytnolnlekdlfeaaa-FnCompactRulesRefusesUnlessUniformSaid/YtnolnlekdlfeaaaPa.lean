/- FnCompactRulesRefusesUnlessUniform: its small functions. -/
import Derived.Test.YtnolnlekdlfeaaaCr
import Derived.LaidEqlPtr
import Derived.OwnWalk
import Derived.Laws.MakeOwn
import Derived.Lib.SliceRun
namespace Go.Proofs.Ytnolnlekdlfeaaa.ZT
open Go.RowKit Go.Proofs.Ytnolnlekdlfeaaa.TB
set_option linter.unusedVariables false
/-- A slice of locations. -/
def LR (w : World) (A : Option Addr) (n : Nat) (z : Nat → Int) : Prop := 0 < n → ∃ b o, A = some ⟨b, o, none⟩ ∧ b < w.heap.size ∧ ∀ i, i < n → w.cell? ⟨b, o + i, none⟩ = some (.int .i32 (z i))
def lz (z : Nat → Int) (k : Nat) : Nat → Nat → Value := fun i _ => .int .i32 (if i < k then z i else 0)
theorem l1 {w : World} {g n k : Nat} {f : Nat → Nat → Value} (h : Tab w g 21 1 n f) (hk : k < n) : w.cell? ⟨g, k, none⟩ = some (f k 0) := by
  have := h.cell hk (j := 0) (by omega)
  simpa using this
theorem lz_step {w : World} {g n k : Nat} {z : Nat → Int} (h : Tab w g 21 1 n (lz z k)) (hk : k < n) : Tab (w.setCell ⟨g, k, none⟩ (.int .i32 (z k))) g 21 1 n (lz z (k + 1)) := by
  have h1 := h.set hk (j := 0) (by omega) (.int .i32 (z k))
  rw [Nat.mul_one, Nat.add_zero] at h1
  refine h1.ext fun i j hi hj => ?_
  unfold upd lz
  by_cases e : i = k
  · subst e
    rw [if_pos ⟨rfl, by omega⟩, if_pos (by omega)]
  · rw [if_neg (fun h => e h.1)]
    by_cases e2 : i < k
    · rw [if_pos e2, if_pos (by omega)]
    · rw [if_neg e2, if_neg (by omega)]
theorem info21 : (Try.prog.info? 21).map (fun i => (i.zero, i.size, i.bytes)) = some (some (.int .i32 0), 1, 4) := by kernel_rfl
set_option maxRecDepth 100000 in
set_option maxHeartbeats 1000000 in
theorem copy5 (A : Option Addr) (n c : Nat) (z : Nat → Int) (w : World) (r : LR w A n z) (h1 : 1 ≤ n) (hn : n ≤ 4096) :
    Calls Try.prog 5 #[.slice A n c] w fun e w' => ∃ g, e = .returned (.slice (some ⟨g, 0, none⟩) n n) ∧ Tab w' g 21 1 n (fun i _ => .int .i32 (z i)) ∧ Below w.heap.size w w' ∧ w.heap.size ≤ g := by
  have eq1 := fun (w : World) (a : Option Addr) (n c n' c' : Nat) => Lib.run_eql_slice_nil (P := Try.prog) w 26 21 a n c n' c' Try.underlying26
  cases A with
  | none =>
    obtain ⟨b, o, e, -⟩ := r (by omega)
    cases e
  | some x =>
    obtain ⟨i0, hi, hz0, hz1, hz2⟩ := info_parts info21
    have hmk := fun (W : World) => run_make (P := Try.prog) W 26 21 i0 _ Try.underlying26 hi hz0 .i64 .i64 n n (by omega) (by omega) (by rw [hz2]; omega) (by omega)
    simp only [hz1, Int.toNat_natCast] at hmk
    have R := Lib.hid r
    clear r
    have T0 := Lib.hid (Tab.new w 21 #[.int .i32 0] n 1 rfl (lz z 0) (fun i j _ hj => by (have h0 : j = 0 := by omega); subst h0; unfold lz; simp))
    have B0 := Lib.hid (show Below w.heap.size w (w.alloc (.cells (madeCells #[.int .i32 0] (n * 1)) 21)) from (Below.refl _ _).alloc (Nat.le_refl _) _)
    rw [Nat.mul_one] at T0 B0
    go_enter Try.func5, Try.ntmps5
    go_wp2
    generalize w.alloc (.cells (madeCells #[.int .i32 0] n) 21) = W0 at *
    clear hmk
    go_loopw [4] (fun i wr => ∃ k : Nat, k ≤ n ∧ i = .int .i64 k ∧ Hid (Tab wr w.heap.size 21 1 n (lz z k)) ∧ Hid (Below w.heap.size w wr)) (fun i _ => n - (intOf i).toNat)
    case atStart => exact ⟨0, Nat.zero_le _, rfl, T0, B0⟩
    case round =>
      obtain ⟨k, hk, rfl, TT, BB⟩ := hrel
      clear T0 B0
      by_cases hlt : k < n
      · obtain ⟨b, o, e, hb, hc⟩ := R.out (by omega)
        obtain rfl : x = ⟨b, o, none⟩ := by injection e
        clear e
        have z0 : wr.cell? ⟨b, o + k, none⟩ = some (.int .i32 (z k)) := by rw [BB.out.cell hb]; exact hc k hlt
        have q1 : (0 : Int) ≤ (k : Int) := by omega
        have q2 : (k : Int) < (n : Int) := by omega
        have y0 := l1 TT.out hlt
        have u0 := TT.out.frozen k
        clear hc
        go_wp2
        go_roundw
        case rel => exact ⟨k + 1, by omega, by go_num, Lib.hid (lz_step TT.out hlt), Lib.hid (BB.out.setCell (Nat.le_refl _) _)⟩
        case measure => simp [intOf]; omega
      · obtain rfl : k = n := by omega
        go_wp2
        go_ret
        exact ⟨_, rfl, TT.out.ext (fun i j hi _ => by unfold lz; rw [if_pos hi]), BB.out, Nat.le_refl _⟩
/-- The tokens of a class. -/
def kS (s : Int) : Int := if s = 0 then 34 else if s = 1 then 26 else 30
def tS (s : Int) (v : Bool) : ByteArray := if s = 0 then ⟨#[49, 37]⟩ else if s = 1 then (if v = true then ⟨#[49, 118, 104]⟩ else ⟨#[49, 118, 119]⟩) else ⟨#[49]⟩
def uS (s : Int) (v : Bool) : ByteArray := if s = 1 then (if v = true then ⟨#[118, 104]⟩ else ⟨#[118, 119]⟩) else ⟨#[]⟩
set_option maxRecDepth 100000 in
set_option maxHeartbeats 2000000 in
theorem st7 (s : Int) (v : Bool) (w : World) (h0 : 0 ≤ s) (h1 : s < 3) : Calls Try.prog 7 #[.int .u8 s, .bool v] w fun e w' => e = .returned (.agg #[.pointer none, .string (tS s v), .int .i32 0, .int .u32 0, .int .u16 0, .int .u8 (kS s), .int .u8 0]) ∧ Below w.heap.size w w' := by
  have B0 := Lib.hid (fun (o : Obj) => show Below w.heap.size w (w.alloc o) from (Below.refl _ _).alloc (Nat.le_refl _) _)
  rcases (by omega : s = 0 ∨ s = 1 ∨ s = 2) with rfl | rfl | rfl
  · go_enter Try.func7, Try.ntmps7
    go_wp2
    refine bodyPost_ret (v := .agg #[.pointer none, .string ⟨#[49, 37]⟩, .int .i32 0, .int .u32 0, .int .u16 0, .int .u8 34, .int .u8 0]) (by simp [results, Try.results7, go_sem]; done) rfl ⟨rfl, ?_⟩
    exact B0.out _
  · cases v
    · go_enter Try.func7, Try.ntmps7
      go_wp2
      refine bodyPost_ret (v := .agg #[.pointer none, .string ⟨#[49, 118, 119]⟩, .int .i32 0, .int .u32 0, .int .u16 0, .int .u8 26, .int .u8 0]) (by simp [results, Try.results7, go_sem]; done) rfl ⟨rfl, ?_⟩
      exact B0.out _
    · go_enter Try.func7, Try.ntmps7
      go_wp2
      refine bodyPost_ret (v := .agg #[.pointer none, .string ⟨#[49, 118, 104]⟩, .int .i32 0, .int .u32 0, .int .u16 0, .int .u8 26, .int .u8 0]) (by simp [results, Try.results7, go_sem]; done) rfl ⟨rfl, ?_⟩
      exact B0.out _
  · go_enter Try.func7, Try.ntmps7
    go_wp2
    refine bodyPost_ret (v := .agg #[.pointer none, .string ⟨#[49]⟩, .int .i32 0, .int .u32 0, .int .u16 0, .int .u8 30, .int .u8 0]) (by simp [results, Try.results7, go_sem]; done) rfl ⟨rfl, ?_⟩
    exact B0.out _
set_option maxRecDepth 100000 in
theorem unit9 (s : Int) (v : Bool) (w : World) (h0 : 0 ≤ s) (h1 : s < 3) : Calls Try.prog 9 #[.int .u8 s, .bool v] w fun e w' => e = .returned (.string (uS s v)) ∧ Below w.heap.size w w' := by
  have B0 := Lib.hid (Below.refl w.heap.size w)
  rcases (by omega : s = 0 ∨ s = 1 ∨ s = 2) with rfl | rfl | rfl <;> cases v
  all_goals
    go_enter Try.func9, Try.ntmps9
    go_wp2
    go_ret
    exact ⟨rfl, B0.out⟩
theorem res8 (tmps : Array Value) (W : World) (g : Nat) (z : List Value) (h : W.rangeAt g 0 z) (hs : z.length = 18) (h12 : tmps.getD 12 undef = .pointer (some ⟨g, 0, none⟩)) :
    (results Try.f8 tmps).run Try.prog W = .ok (.agg z.toArray) W := by
  have hr := run_loadVar_mid (P := Try.prog) W g 0 46 z _ h Try.underlying46 rfl (by rw [hs]; kernel_rfl)
  have h' : tmps[12]?.getD undef = .pointer (some ⟨g, 0, none⟩) := by simpa using h12
  simp [results, Try.results8, h', asAddr, hr]
def tk (k : Int) (t : ByteArray) : Array Value := #[.pointer none, .string t, .int .i32 0, .int .u32 0, .int .u16 0, .int .u8 k, .int .u8 0]
theorem facts8 (x : Cn) (W : World) : (W.alloc (.cells #[.pointer none, .string ⟨#[]⟩, .int .i32 0, .int .u32 0, .int .u16 0, .int .u8 0, .int .u8 0, .pointer none, .string ⟨#[]⟩, .int .i32 0, .int .u32 0, .int .u16 0, .int .u8 0, .int .u8 0, .string ⟨#[]⟩, .int .u8 0, .int .u32 0, .bool false] 46)).there W.heap.size 0 (cl x).toArray.size ∧ ((W.alloc (.cells #[.pointer none, .string ⟨#[]⟩, .int .i32 0, .int .u32 0, .int .u16 0, .int .u8 0, .int .u8 0, .pointer none, .string ⟨#[]⟩, .int .i32 0, .int .u32 0, .int .u16 0, .int .u8 0, .int .u8 0, .string ⟨#[]⟩, .int .u8 0, .int .u32 0, .bool false] 46)).setCells W.heap.size 0 (cl x)).rangeAt W.heap.size 0 (cl x) ∧ Below W.heap.size W ((W.alloc (.cells #[.pointer none, .string ⟨#[]⟩, .int .i32 0, .int .u32 0, .int .u16 0, .int .u8 0, .int .u8 0, .pointer none, .string ⟨#[]⟩, .int .i32 0, .int .u32 0, .int .u16 0, .int .u8 0, .int .u8 0, .string ⟨#[]⟩, .int .u8 0, .int .u32 0, .bool false] 46)).setCells W.heap.size 0 (cl x)) := by
  have hth : (W.alloc (.cells #[.pointer none, .string ⟨#[]⟩, .int .i32 0, .int .u32 0, .int .u16 0, .int .u8 0, .int .u8 0, .pointer none, .string ⟨#[]⟩, .int .i32 0, .int .u32 0, .int .u16 0, .int .u8 0, .int .u8 0, .string ⟨#[]⟩, .int .u8 0, .int .u32 0, .bool false] 46)).there W.heap.size 0 18 := blk_there (Blk.new W 46 #[.pointer none, .string ⟨#[]⟩, .int .i32 0, .int .u32 0, .int .u16 0, .int .u8 0, .int .u8 0, .pointer none, .string ⟨#[]⟩, .int .i32 0, .int .u32 0, .int .u16 0, .int .u8 0, .int .u8 0, .string ⟨#[]⟩, .int .u8 0, .int .u32 0, .bool false]) (Nat.le_refl _)
  exact ⟨hth, World.rangeAt_setCells_same _ _ 0 (cl x) hth, below_setCells ((Below.refl _ _).alloc (Nat.le_refl _) _) (Nat.le_refl _) _ _⟩
set_option maxRecDepth 100000 in
set_option maxHeartbeats 2000000 in
theorem corner8 (t t2 u : ByteArray) (k k2 s r : Int) (b : Bool) (w : World) : Calls Try.prog 8 #[.agg #[.pointer none, .string t, .int .i32 0, .int .u32 0, .int .u16 0, .int .u8 k, .int .u8 0], .agg #[.pointer none, .string t2, .int .i32 0, .int .u32 0, .int .u16 0, .int .u8 k2, .int .u8 0], .int .u8 s, .string u, .int .u32 r, .bool b] w fun e w' =>
    e = .returned (.agg (cl ⟨t, k, t2, k2, u, s, r, b⟩).toArray) ∧ Below w.heap.size w w' := by
  obtain ⟨x, hx⟩ : ∃ x : Cn, x = ⟨t, k, t2, k2, u, s, r, b⟩ := ⟨_, rfl⟩
  rw [← hx]
  have hi46 : (Try.prog.info? 46).map (·.size) = some (cl x).toArray.size := by kernel_rfl
  have hone : (cl x).toArray.all (·.oneCell') = true := all_oneCell_toArray (cl_one x)
  have F3 := Lib.hid (show (((w.alloc (.cells #[.pointer none, .string t, .int .i32 0, .int .u32 0, .int .u16 0, .int .u8 k, .int .u8 0] 41)).alloc (.cells #[.pointer none, .string t2, .int .i32 0, .int .u32 0, .int .u16 0, .int .u8 k2, .int .u8 0] 41)).alloc (.cells #[.pointer none, .string ⟨#[]⟩, .int .i32 0, .int .u32 0, .int .u16 0, .int .u8 0, .int .u8 0, .pointer none, .string ⟨#[]⟩, .int .i32 0, .int .u32 0, .int .u16 0, .int .u8 0, .int .u8 0, .string ⟨#[]⟩, .int .u8 0, .int .u32 0, .bool false] 46)).there (w.heap.size + 1 + 1) 0 (cl x).toArray.size ∧ ((((w.alloc (.cells #[.pointer none, .string t, .int .i32 0, .int .u32 0, .int .u16 0, .int .u8 k, .int .u8 0] 41)).alloc (.cells #[.pointer none, .string t2, .int .i32 0, .int .u32 0, .int .u16 0, .int .u8 k2, .int .u8 0] 41)).alloc (.cells #[.pointer none, .string ⟨#[]⟩, .int .i32 0, .int .u32 0, .int .u16 0, .int .u8 0, .int .u8 0, .pointer none, .string ⟨#[]⟩, .int .i32 0, .int .u32 0, .int .u16 0, .int .u8 0, .int .u8 0, .string ⟨#[]⟩, .int .u8 0, .int .u32 0, .bool false] 46)).setCells (w.heap.size + 1 + 1) 0 (cl x)).rangeAt (w.heap.size + 1 + 1) 0 (cl x) ∧ Below w.heap.size w ((((w.alloc (.cells #[.pointer none, .string t, .int .i32 0, .int .u32 0, .int .u16 0, .int .u8 k, .int .u8 0] 41)).alloc (.cells #[.pointer none, .string t2, .int .i32 0, .int .u32 0, .int .u16 0, .int .u8 k2, .int .u8 0] 41)).alloc (.cells #[.pointer none, .string ⟨#[]⟩, .int .i32 0, .int .u32 0, .int .u16 0, .int .u8 0, .int .u8 0, .pointer none, .string ⟨#[]⟩, .int .i32 0, .int .u32 0, .int .u16 0, .int .u8 0, .int .u8 0, .string ⟨#[]⟩, .int .u8 0, .int .u32 0, .bool false] 46)).setCells (w.heap.size + 1 + 1) 0 (cl x)) ∧
      Blk (((w.alloc (.cells #[.pointer none, .string t, .int .i32 0, .int .u32 0, .int .u16 0, .int .u8 k, .int .u8 0] 41)).alloc (.cells #[.pointer none, .string t2, .int .i32 0, .int .u32 0, .int .u16 0, .int .u8 k2, .int .u8 0] 41)).alloc (.cells #[.pointer none, .string ⟨#[]⟩, .int .i32 0, .int .u32 0, .int .u16 0, .int .u8 0, .int .u8 0, .pointer none, .string ⟨#[]⟩, .int .i32 0, .int .u32 0, .int .u16 0, .int .u8 0, .int .u8 0, .string ⟨#[]⟩, .int .u8 0, .int .u32 0, .bool false] 46)) w.heap.size 41 #[.pointer none, .string t, .int .i32 0, .int .u32 0, .int .u16 0, .int .u8 k, .int .u8 0] ∧ Blk (((w.alloc (.cells #[.pointer none, .string t, .int .i32 0, .int .u32 0, .int .u16 0, .int .u8 k, .int .u8 0] 41)).alloc (.cells #[.pointer none, .string t2, .int .i32 0, .int .u32 0, .int .u16 0, .int .u8 k2, .int .u8 0] 41)).alloc (.cells #[.pointer none, .string ⟨#[]⟩, .int .i32 0, .int .u32 0, .int .u16 0, .int .u8 0, .int .u8 0, .pointer none, .string ⟨#[]⟩, .int .i32 0, .int .u32 0, .int .u16 0, .int .u8 0, .int .u8 0, .string ⟨#[]⟩, .int .u8 0, .int .u32 0, .bool false] 46)) (w.heap.size + 1) 41 #[.pointer none, .string t2, .int .i32 0, .int .u32 0, .int .u16 0, .int .u8 k2, .int .u8 0] from by
    have h := facts8 x ((w.alloc (.cells #[.pointer none, .string t, .int .i32 0, .int .u32 0, .int .u16 0, .int .u8 k, .int .u8 0] 41)).alloc (.cells #[.pointer none, .string t2, .int .i32 0, .int .u32 0, .int .u16 0, .int .u8 k2, .int .u8 0] 41))
    have hsz : ((w.alloc (.cells #[.pointer none, .string t, .int .i32 0, .int .u32 0, .int .u16 0, .int .u8 k, .int .u8 0] 41)).alloc (.cells #[.pointer none, .string t2, .int .i32 0, .int .u32 0, .int .u16 0, .int .u8 k2, .int .u8 0] 41)).heap.size = w.heap.size + 1 + 1 := by simp
    have hb : Below w.heap.size w ((w.alloc (.cells #[.pointer none, .string t, .int .i32 0, .int .u32 0, .int .u16 0, .int .u8 k, .int .u8 0] 41)).alloc (.cells #[.pointer none, .string t2, .int .i32 0, .int .u32 0, .int .u16 0, .int .u8 k2, .int .u8 0] 41)) := ((Below.refl _ _).alloc (Nat.le_refl _) _).alloc (by simp) _
    rw [hsz] at h
    exact ⟨h.1, h.2.1, hb.trans (h.2.2.mono (by omega)), ((Blk.new _ _ _).alloc _).alloc _, Blk.alloc (by simpa using Blk.new (w.alloc (.cells #[.pointer none, .string t, .int .i32 0, .int .u32 0, .int .u16 0, .int .u8 k, .int .u8 0] 41)) 41 #[.pointer none, .string t2, .int .i32 0, .int .u32 0, .int .u16 0, .int .u8 k2, .int .u8 0]) _⟩)
  go_enter Try.func8, Try.ntmps8
  go_upto_region 1 with fail
  generalize (((w.alloc (.cells #[.pointer none, .string t, .int .i32 0, .int .u32 0, .int .u16 0, .int .u8 k, .int .u8 0] 41)).alloc (.cells #[.pointer none, .string t2, .int .i32 0, .int .u32 0, .int .u16 0, .int .u8 k2, .int .u8 0] 41)).alloc (.cells #[.pointer none, .string ⟨#[]⟩, .int .i32 0, .int .u32 0, .int .u16 0, .int .u8 0, .int .u8 0, .pointer none, .string ⟨#[]⟩, .int .i32 0, .int .u32 0, .int .u16 0, .int .u8 0, .int .u8 0, .string ⟨#[]⟩, .int .u8 0, .int .u32 0, .bool false] 46)) = W3 at *
  have a0 : W3.cell? ⟨w.heap.size, 0, none⟩ = some (.pointer none) := F3.out.2.2.2.1.cell 0
  have a1 : W3.cell? ⟨w.heap.size, 1, none⟩ = some (.string t) := F3.out.2.2.2.1.cell 1
  have a2 : W3.cell? ⟨w.heap.size, 2, none⟩ = some (.int .i32 0) := F3.out.2.2.2.1.cell 2
  have a3 : W3.cell? ⟨w.heap.size, 3, none⟩ = some (.int .u32 0) := F3.out.2.2.2.1.cell 3
  have a4 : W3.cell? ⟨w.heap.size, 4, none⟩ = some (.int .u16 0) := F3.out.2.2.2.1.cell 4
  have a5 : W3.cell? ⟨w.heap.size, 5, none⟩ = some (.int .u8 k) := F3.out.2.2.2.1.cell 5
  have a6 : W3.cell? ⟨w.heap.size, 6, none⟩ = some (.int .u8 0) := F3.out.2.2.2.1.cell 6
  have b0 : W3.cell? ⟨w.heap.size + 1, 0, none⟩ = some (.pointer none) := F3.out.2.2.2.2.cell 0
  have b1 : W3.cell? ⟨w.heap.size + 1, 1, none⟩ = some (.string t2) := F3.out.2.2.2.2.cell 1
  have b2 : W3.cell? ⟨w.heap.size + 1, 2, none⟩ = some (.int .i32 0) := F3.out.2.2.2.2.cell 2
  have b3 : W3.cell? ⟨w.heap.size + 1, 3, none⟩ = some (.int .u32 0) := F3.out.2.2.2.2.cell 3
  have b4 : W3.cell? ⟨w.heap.size + 1, 4, none⟩ = some (.int .u16 0) := F3.out.2.2.2.2.cell 4
  have b5 : W3.cell? ⟨w.heap.size + 1, 5, none⟩ = some (.int .u8 k2) := F3.out.2.2.2.2.cell 5
  have b6 : W3.cell? ⟨w.heap.size + 1, 6, none⟩ = some (.int .u8 0) := F3.out.2.2.2.2.cell 6
  have hth := F3.out.1
  go_wp2_with (first
    | (refine wpList_store_mid (by rfl) 46 _ _ rfl (w.heap.size + 1 + 1) 0 (cl x).toArray rfl (by rw [hx]; rfl) hth hi46 hone ?_; simp only []; generalize W3.setCells (w.heap.size + 1 + 1) 0 (cl x) = W9 at *; clear hth))
  refine bodyPost_ret (res8 _ _ (w.heap.size + 1 + 1) (cl x) F3.out.2.1 rfl rfl) rfl ⟨rfl, F3.out.2.2.1⟩
theorem as_some (W : World) (v : Value) : (Instr.typeAssert (.iface 57 v) 60 57 true).run Try.prog W = .ok (.tuple #[v, .bool true]) W := by kernel_rfl
set_option maxRecDepth 100000 in
theorem decl13 (d : Nat) (l : Int) (w : World) : Calls Try.prog 13 #[.agg #[.iface 57 (.pointer (some ⟨d, 0, none⟩)), .int .i32 l]] w fun e w' => e = .returned (.pointer (some ⟨d, 0, none⟩)) ∧ Below w.heap.size w w' := by
  have B0 := Lib.hid (fun (o : Obj) => show Below w.heap.size w (w.alloc o) from (Below.refl _ _).alloc (Nat.le_refl _) _)
  have a2 := as_some
  go_enter Try.func13, Try.ntmps13
  go_wp2
  go_ret
  exact ⟨rfl, B0.out _⟩
end Go.Proofs.Ytnolnlekdlfeaaa.ZT

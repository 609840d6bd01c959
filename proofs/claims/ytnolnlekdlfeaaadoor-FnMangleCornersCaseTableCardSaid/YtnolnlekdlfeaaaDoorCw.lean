/- compactRules of the corners where it makes the shorthand, the quads alike or not. Printed by gen_cow.py. -/
import Derived.Test.YtnolnlekdlfeaaaDoorCv
namespace Go.Proofs.YtnolnlekdlfeaaaDoor.ZT
open Go.RowKit Go.Proofs.YtnolnlekdlfeaaaDoor.TB
set_option linter.unusedVariables false
set_option linter.unusedSimpArgs false
theorem tr_ws {w : World} {A : Option Addr} {n : Nat} {K : Nat → Int} {T : Nat → ByteArray} {W W' : Nat → Int} (h : TR w A n (tc K T W (fun _ => 0))) (e : ∀ i, i < n → W i = W' i) : TR w A n (tc K T W' (fun _ => 0)) := by
  intro hn
  obtain ⟨b, o, ea, hl, hc⟩ := h hn
  refine ⟨b, o, ea, hl, fun i j hi hj => ?_⟩
  rw [hc i j hi hj]
  unfold tc
  rw [e i hi]
theorem TR.ws {w : World} {A : Option Addr} {n : Nat} {K : Nat → Int} {T : Nat → ByteArray} {W W' : Nat → Int} (h : TR w A n (tc K T W (fun _ => 0))) (e : ∀ i, i < n → W i = W' i) : TR w A n (tc K T W' (fun _ => 0)) := tr_ws h e
/-- The tokens of the shorthand: one quad, or two with a slash between them. -/
def GV (bb : Bool) (c1 c2 : Nat) (S : Nat → Cn) (mw : Bool) (w : World) (tg L : Nat) : Prop :=
  if bb = true then L = c1 ∧ TR w (some ⟨tg, 0, none⟩) L (tc (fun i => (S i).k) (fun i => (S i).t) (wsv c1 mw) (fun _ => 0))
  else L = c1 + 1 + c2 ∧ TR w (some ⟨tg, 0, none⟩) L (tc (jn c1 (fun i => (S i).k) 24 (fun i => (S i).k2)) (jn c1 (fun i => (S i).t) ⟨#[47]⟩ (fun i => (S i).t2)) (jn c1 (wsv c1 mw) (if mw = true then 0 else 3) (wsv c2 mw)) (fun _ => 0))
theorem GV.keep {bb : Bool} {c1 c2 : Nat} {S : Nat → Cn} {mw : Bool} {w w' : World} {tg L rg : Nat} (h : GV bb c1 c2 S mw w tg L) (k : Kept w.heap.size rg w w') (hne : ¬ tg = rg) : GV bb c1 c2 S mw w' tg L := by
  unfold GV at h ⊢
  split <;> rename_i hb
  · rw [if_pos hb] at h; exact ⟨h.1, h.2.keep k hne⟩
  · rw [if_neg hb] at h; exact ⟨h.1, h.2.keep k hne⟩
def CompG (rg n : Nat) (S : Nat → Cn) (im : Bool) (ks kl : Int) (mw : Bool) (D : Nat → Option Nat) (Lc : Nat → Int) (R : Nat → Nat) (w : World) (e : Ending) (w' : World) : Prop :=
  e = .returned (.tuple #[]) ∧ ∃ d L tg cp, Tab w' rg 54 2 n (rc (fD D R d) (fL Lc R)) ∧ Blk w' d 40 #[.string ⟨#[98, 111, 114, 100, 101, 114, 45, 114, 97, 100, 105, 117, 115]⟩, .slice (some ⟨tg, 0, none⟩) L cp, .int .i32 ks, .int .i32 kl, .int .u16 66, .bool im] ∧
    GV (eqS (cm (fun i => (S i).k) (fun i => (S i).t)) (cm (fun i => (S i).k2) (fun i => (S i).t2)) (fun i => (S i).k) (fun i => (S i).t) (fun i => (S i).k2) (fun i => (S i).t2)) (cm (fun i => (S i).k) (fun i => (S i).t)) (cm (fun i => (S i).k2) (fun i => (S i).t2)) S mw w' tg L ∧ Kept w.heap.size rg w w' ∧ w.heap.size ≤ d
set_option maxRecDepth 100000 in
set_option maxHeartbeats 8000000 in
theorem comp_gen (g rg n c : Nat) (S : Nat → Cn) (im : Bool) (ks kl : Int) (mw : Bool) (D : Nat → Option Nat) (Lc : Nat → Int) (w : World) (hf : fires S = true)
    (hb : Tk w g S im) (ht : Tab w rg 54 2 n (rc D Lc)) (hg : g ≠ rg) (R : Nat → Nat) (hr : ∀ s, s < 4 → (S s).r = (R s : Int)) (hn : ∀ s, s < 4 → R s < n) :
    Calls Tryd.prog 29 #[.pointer (some ⟨g, 0, none⟩), .slice (some ⟨rg, 0, none⟩) n c, .agg #[.int .i32 ks, .int .i32 kl], .bool mw] w
      (CompG rg n S im ks kl mw D Lc R w) := by
  have hf' := hf
  simp only [fires, Bool.and_eq_true, Bool.not_eq_true'] at hf'
  obtain ⟨q1, q2, q3, q4, s1, s2, s3⟩ := hf'
  have AL := Lib.hid (show ∀ k, k < 3 → sf S k = true from fun k hk => by rcases three hk with rfl | rfl | rfl <;> assumption)
  clear hf s1 s2 s3
  have HB := Lib.hid hb
  have HR := Lib.hid hr
  have HN := Lib.hid hn
  clear hr hn
  have HT := Lib.hid ht
  have hlt : g < w.heap.size := hb.lt
  have hlr : rg < w.heap.size := ht.lt
  clear hb ht
  have B0 := Lib.hid (fun (ob : Obj) => show Tk (w.alloc ob) g S im from HB.out.alloc ob)
  have T0 := Lib.hid (fun (ob : Obj) => show Tab (w.alloc ob) rg 54 2 n (rc D Lc) from HT.out.alloc ob)
  have K0 := Lib.hid (fun (ob : Obj) => show Kept w.heap.size rg w (w.alloc ob) from (Kept.refl _ _ _).alloc (Nat.le_refl _) ob)
  have ne : ¬ g = w.heap.size := by omega
  have ne2 : ¬ w.heap.size = g := by omega
  have c5 : w.cell? ⟨g, 5, none⟩ = some (.int .u8 (S 0).k) := HB.out.at (k := 0) (d := 5) (by omega) (by omega)
  have c23 : w.cell? ⟨g, 23, none⟩ = some (.int .u8 (S 1).k) := HB.out.at (k := 1) (d := 5) (by omega) (by omega)
  have c41 : w.cell? ⟨g, 41, none⟩ = some (.int .u8 (S 2).k) := HB.out.at (k := 2) (d := 5) (by omega) (by omega)
  have c59 : w.cell? ⟨g, 59, none⟩ = some (.int .u8 (S 3).k) := HB.out.at (k := 3) (d := 5) (by omega) (by omega)
  go_enter Tryd.func29, Tryd.ntmps29
  go_wp2
  clear c5 c23 c41 c59
  have BB := Lib.hid (B0.out (.cells #[.int .i32 ks, .int .i32 kl] 30))
  have BT := Lib.hid (T0.out (.cells #[.int .i32 ks, .int .i32 kl] 30))
  have BK := Lib.hid (K0.out (.cells #[.int .i32 ks, .int .i32 kl] 30))
  have BR := Lib.hid (show Blk (w.alloc (.cells #[.int .i32 ks, .int .i32 kl] 30)) w.heap.size 30 #[.int .i32 ks, .int .i32 kl] from Blk.new w 30 _)
  clear B0 T0 K0 ne ne2
  generalize w.alloc (.cells #[.int .i32 ks, .int .i32 kl] 30) = W0 at *
  go_loopw [65] (fun i wr => ∃ k : Nat, k ≤ 3 ∧ i = .int .i64 k ∧ Hid (Below W0.heap.size W0 wr)) (fun i _ => 3 - (intOf i).toNat)
  case atStart => exact ⟨0, by omega, rfl, Lib.hid (Below.refl _ _)⟩
  case round =>
    obtain ⟨k, hk, rfl, RB⟩ := hrel
    have XB := Lib.hid (BB.out.below RB.out)
    have hg0 : g < wr.heap.size := XB.out.lt
    have ne : ¬ g = wr.heap.size := by omega
    have ne2 : ¬ wr.heap.size = g := by omega
    by_cases hlt2 : k < 3

    · as_aux_lemma =>
      have q0 : (0 : Int) ≤ (k : Int) := by omega
      have q9 : (k : Int) < 3 := by omega
      obtain ⟨Dl, hD⟩ : ∃ Dl, Dl = cl (S (k + 1)) := ⟨_, rfl⟩
      have hDl : Dl.length = 18 := by rw [hD]; rfl
      have hRD : wr.rangeAt g (18 + k * 18) Dl := by
        have := XB.out.range (k := k + 1) (by omega)
        rw [hD]
        rw [show 18 + k * 18 = (k + 1) * 18 by omega]
        exact this
      have hRD2 : ∀ ob : Obj, (wr.alloc ob).rangeAt g (18 + k * 18) Dl := fun ob => by
        have := (XB.out.alloc ob).range (k := k + 1) (by omega)
        rw [hD]
        rw [show 18 + k * 18 = (k + 1) * 18 by omega]
        exact this
      have hiD : (Tryd.prog.info? 75).map (·.size) = some Dl.length := by rw [hDl]; kernel_rfl
      have ZB := Lib.hid (Blk.new wr 75 #[.pointer none, .string ⟨#[]⟩, .int .i32 0, .int .u32 0, .int .u16 0, .int .u8 0, .int .u8 0, .pointer none, .string ⟨#[]⟩, .int .i32 0, .int .u32 0, .int .u16 0, .int .u8 0, .int .u8 0, .string ⟨#[]⟩, .int .u8 0, .int .u32 0, .bool false])
      have hst := sto (D := Dl) (blk_there ZB.out (show Dl.length ≤ 18 from Nat.le_of_eq hDl)) (by rw [hD]; exact cl_one _)
      have CB := Lib.hid (show ((wr.alloc (.cells #[.pointer none, .string ⟨#[]⟩, .int .i32 0, .int .u32 0, .int .u16 0, .int .u8 0, .int .u8 0, .pointer none, .string ⟨#[]⟩, .int .i32 0, .int .u32 0, .int .u16 0, .int .u8 0, .int .u8 0, .string ⟨#[]⟩, .int .u8 0, .int .u32 0, .bool false] 75)).setCells wr.heap.size 0 Dl).cell? ⟨wr.heap.size, 14, none⟩ = some (.string (S (k + 1)).u) ∧ ((wr.alloc (.cells #[.pointer none, .string ⟨#[]⟩, .int .i32 0, .int .u32 0, .int .u16 0, .int .u8 0, .int .u8 0, .pointer none, .string ⟨#[]⟩, .int .i32 0, .int .u32 0, .int .u16 0, .int .u8 0, .int .u8 0, .string ⟨#[]⟩, .int .u8 0, .int .u32 0, .bool false] 75)).setCells wr.heap.size 0 Dl).cell? ⟨wr.heap.size, 15, none⟩ = some (.int .u8 (S (k + 1)).st) ∧ Tk ((wr.alloc (.cells #[.pointer none, .string ⟨#[]⟩, .int .i32 0, .int .u32 0, .int .u16 0, .int .u8 0, .int .u8 0, .pointer none, .string ⟨#[]⟩, .int .i32 0, .int .u32 0, .int .u16 0, .int .u8 0, .int .u8 0, .string ⟨#[]⟩, .int .u8 0, .int .u32 0, .bool false] 75)).setCells wr.heap.size 0 Dl) g S im ∧ Below W0.heap.size W0 ((wr.alloc (.cells #[.pointer none, .string ⟨#[]⟩, .int .i32 0, .int .u32 0, .int .u16 0, .int .u8 0, .int .u8 0, .pointer none, .string ⟨#[]⟩, .int .i32 0, .int .u32 0, .int .u16 0, .int .u8 0, .int .u8 0, .string ⟨#[]⟩, .int .u8 0, .int .u32 0, .bool false] 75)).setCells wr.heap.size 0 Dl) ∧ wr.heap.size < ((wr.alloc (.cells #[.pointer none, .string ⟨#[]⟩, .int .i32 0, .int .u32 0, .int .u16 0, .int .u8 0, .int .u8 0, .pointer none, .string ⟨#[]⟩, .int .i32 0, .int .u32 0, .int .u16 0, .int .u8 0, .int .u8 0, .string ⟨#[]⟩, .int .u8 0, .int .u32 0, .bool false] 75)).setCells wr.heap.size 0 Dl).heap.size from by
        have h1 := World.rangeAt_setCells_same (wr.alloc (.cells #[.pointer none, .string ⟨#[]⟩, .int .i32 0, .int .u32 0, .int .u16 0, .int .u8 0, .int .u8 0, .pointer none, .string ⟨#[]⟩, .int .i32 0, .int .u32 0, .int .u16 0, .int .u8 0, .int .u8 0, .string ⟨#[]⟩, .int .u8 0, .int .u32 0, .bool false] 75)) wr.heap.size 0 Dl (blk_there ZB.out (show Dl.length ≤ 18 from Nat.le_of_eq hDl))
        have hb : Below wr.heap.size wr ((wr.alloc (.cells #[.pointer none, .string ⟨#[]⟩, .int .i32 0, .int .u32 0, .int .u16 0, .int .u8 0, .int .u8 0, .pointer none, .string ⟨#[]⟩, .int .i32 0, .int .u32 0, .int .u16 0, .int .u8 0, .int .u8 0, .string ⟨#[]⟩, .int .u8 0, .int .u32 0, .bool false] 75)).setCells wr.heap.size 0 Dl) := below_setCells ((Below.refl _ _).alloc (Nat.le_refl _) _) (Nat.le_refl _) _ _
        refine ⟨?_, ?_, XB.out.below hb, RB.out.trans (hb.mono RB.out.size), ?_⟩
        · have := h1 14 (.string (S (k + 1)).u) (by rw [hD]; rfl)
          simpa using this
        · have := h1 15 (.int .u8 (S (k + 1)).st) (by rw [hD]; rfl)
          simpa using this
        · rw [sizeSC]; simp)
      clear hD ZB
      go_upto_region 6 with (first
        | (refine wpList_load_mid rfl 75 _ rfl g (18 + k * 18) rfl Dl _ hRD Tryd.underlying75 rfl hiD ?_)
        | (refine wpList_load_mid rfl 75 _ rfl g (18 + k * 18) rfl Dl _ (hRD2 _) Tryd.underlying75 rfl hiD ?_))
      clear hst hRD hRD2 hiD hDl ne ne2 hg0 RB XB
      generalize (wr.alloc (.cells #[.pointer none, .string ⟨#[]⟩, .int .i32 0, .int .u32 0, .int .u16 0, .int .u8 0, .int .u8 0, .pointer none, .string ⟨#[]⟩, .int .i32 0, .int .u32 0, .int .u16 0, .int .u8 0, .int .u8 0, .string ⟨#[]⟩, .int .u8 0, .int .u32 0, .bool false] 75)).setCells wr.heap.size 0 Dl = W1 at *
      generalize wr.heap.size = cb at *
      have hcb := CB.out.2.2.2.2
      have hg1 : g < W1.heap.size := CB.out.2.2.1.lt
      go_cut [78] from 66 to 78 (fun s wx => s = .bool (!sf S k) ∧ Hid (Below W1.heap.size W1 wx))
      case first =>
        have START := Lib.hid (show PJ W1 cb 14 g 14 (S (k + 1)).u (S (k + 1)).st (S 0).u (S 0).st W1.drew from ⟨(Below.refl _ _).drew, hcb, hg1, CB.out.1, CB.out.2.1, CB.out.2.2.1.at (k := 0) (d := 14) (by omega) (by omega), CB.out.2.2.1.at (k := 0) (d := 15) (by omega) (by omega)⟩)
        have STEP := Lib.hid (fun w1 w2 (h : PJ W1 cb 14 g 14 (S (k + 1)).u (S (k + 1)).st (S 0).u (S 0).st w1) (hb : Below w1.heap.size w1 w2) => h.step hb)
        go_region_held3 (fun w' => Below W1.heap.size W1 w' ∧ cb < W1.heap.size ∧ g < W1.heap.size ∧ w'.cell? ⟨cb, 14, none⟩ = some (.string (S (k + 1)).u) ∧ w'.cell? ⟨cb, 15, none⟩ = some (.int .u8 (S (k + 1)).st) ∧ w'.cell? ⟨g, 14, none⟩ = some (.string (S 0).u) ∧ w'.cell? ⟨g, 15, none⟩ = some (.int .u8 (S 0).st))
          (first | assumption | exact START.out)
          (first | (go_at_call 35; refine (safe17 _ _ _ _ _).mono ?_; rintro e_ w9 ⟨rfl, hb9⟩; have hI := STEP.out _ _ (by assumption) hb9; clear hb9; unfold PJ at hI))
        all_goals
          go_wp2_with fail
          go_meet
          exact ⟨rfl, Lib.hid (And.left (show PJ W1 cb 14 g 14 (S (k + 1)).u (S (k + 1)).st (S 0).u (S 0).st w9 by assumption))⟩
      case rest =>
        obtain ⟨rfl, hbc⟩ := hcut
        have RB2 := Lib.hid (CB.out.2.2.2.1.trans (hbc.out.mono CB.out.2.2.2.1.size))
        clear hbc CB
        rw [AL.out k hlt2]
        go_wp2_with fail
        go_roundw
        case rel => exact ⟨k + 1, by omega, by go_num, RB2⟩
        case measure => simp [intOf]; omega
    · obtain rfl : k = 3 := by omega
      clear hlt2 AL
      go_upto_region 8 with fail
      obtain ⟨W2, rfl⟩ : ∃ W2 : World, W2 = wr := ⟨_, rfl⟩
      go_cut [11] (fun s wx => ∃ tg W', s = .slice (some ⟨tg, 0, none⟩) (cm (fun i => (S i).k) (fun i => (S i).t)) 4 ∧ Hid (Tab wx tg 47 7 4 (tc (fun i => (S i).k) (fun i => (S i).t) W' (fun _ => 0))) ∧ Hid (Below W2.heap.size W2 wx) ∧ Hid (∀ i, i < cm (fun i => (S i).k) (fun i => (S i).t) → W' i = wsv (cm (fun i => (S i).k) (fun i => (S i).t)) mw i) ∧ W2.heap.size ≤ tg)
      case first =>
        have START := Lib.hid (show QJ W2 g S W2.drew from ⟨(Below.refl _ _).drew, hg0, XB.out.at (k := 0) (d := 0) (by omega) (by omega), XB.out.at (k := 0) (d := 1) (by omega) (by omega), XB.out.at (k := 0) (d := 2) (by omega) (by omega), XB.out.at (k := 0) (d := 3) (by omega) (by omega), XB.out.at (k := 0) (d := 4) (by omega) (by omega), XB.out.at (k := 0) (d := 5) (by omega) (by omega), XB.out.at (k := 0) (d := 6) (by omega) (by omega), XB.out.at (k := 1) (d := 0) (by omega) (by omega), XB.out.at (k := 1) (d := 1) (by omega) (by omega), XB.out.at (k := 1) (d := 2) (by omega) (by omega), XB.out.at (k := 1) (d := 3) (by omega) (by omega), XB.out.at (k := 1) (d := 4) (by omega) (by omega), XB.out.at (k := 1) (d := 5) (by omega) (by omega), XB.out.at (k := 1) (d := 6) (by omega) (by omega), XB.out.at (k := 2) (d := 0) (by omega) (by omega), XB.out.at (k := 2) (d := 1) (by omega) (by omega), XB.out.at (k := 2) (d := 2) (by omega) (by omega), XB.out.at (k := 2) (d := 3) (by omega) (by omega), XB.out.at (k := 2) (d := 4) (by omega) (by omega), XB.out.at (k := 2) (d := 5) (by omega) (by omega), XB.out.at (k := 2) (d := 6) (by omega) (by omega), XB.out.at (k := 3) (d := 0) (by omega) (by omega), XB.out.at (k := 3) (d := 1) (by omega) (by omega), XB.out.at (k := 3) (d := 2) (by omega) (by omega), XB.out.at (k := 3) (d := 3) (by omega) (by omega), XB.out.at (k := 3) (d := 4) (by omega) (by omega), XB.out.at (k := 3) (d := 5) (by omega) (by omega), XB.out.at (k := 3) (d := 6) (by omega) (by omega)⟩)
        have STEP := Lib.hid (fun w1 w2 (h : QJ W2 g S w1) (hb : Below w1.heap.size w1 w2) => h.step hb)
        go_region_held3 (fun w' => Below W2.heap.size W2 w' ∧ g < W2.heap.size ∧ w'.cell? ⟨g, 0, none⟩ = some (.pointer none) ∧ w'.cell? ⟨g, 1, none⟩ = some (.string (S 0).t) ∧ w'.cell? ⟨g, 2, none⟩ = some (.int .i32 0) ∧ w'.cell? ⟨g, 3, none⟩ = some (.int .u32 0) ∧ w'.cell? ⟨g, 4, none⟩ = some (.int .u16 0) ∧ w'.cell? ⟨g, 5, none⟩ = some (.int .u8 (S 0).k) ∧ w'.cell? ⟨g, 6, none⟩ = some (.int .u8 0) ∧ w'.cell? ⟨g, 18, none⟩ = some (.pointer none) ∧ w'.cell? ⟨g, 19, none⟩ = some (.string (S 1).t) ∧ w'.cell? ⟨g, 20, none⟩ = some (.int .i32 0) ∧ w'.cell? ⟨g, 21, none⟩ = some (.int .u32 0) ∧ w'.cell? ⟨g, 22, none⟩ = some (.int .u16 0) ∧ w'.cell? ⟨g, 23, none⟩ = some (.int .u8 (S 1).k) ∧ w'.cell? ⟨g, 24, none⟩ = some (.int .u8 0) ∧ w'.cell? ⟨g, 36, none⟩ = some (.pointer none) ∧ w'.cell? ⟨g, 37, none⟩ = some (.string (S 2).t) ∧ w'.cell? ⟨g, 38, none⟩ = some (.int .i32 0) ∧ w'.cell? ⟨g, 39, none⟩ = some (.int .u32 0) ∧ w'.cell? ⟨g, 40, none⟩ = some (.int .u16 0) ∧ w'.cell? ⟨g, 41, none⟩ = some (.int .u8 (S 2).k) ∧ w'.cell? ⟨g, 42, none⟩ = some (.int .u8 0) ∧ w'.cell? ⟨g, 54, none⟩ = some (.pointer none) ∧ w'.cell? ⟨g, 55, none⟩ = some (.string (S 3).t) ∧ w'.cell? ⟨g, 56, none⟩ = some (.int .i32 0) ∧ w'.cell? ⟨g, 57, none⟩ = some (.int .u32 0) ∧ w'.cell? ⟨g, 58, none⟩ = some (.int .u16 0) ∧ w'.cell? ⟨g, 59, none⟩ = some (.int .u8 (S 3).k) ∧ w'.cell? ⟨g, 60, none⟩ = some (.int .u8 0))
          (first | assumption | exact START.out)
          (first | (go_at_call 36; refine (compact_any (fun i => (S i).k) (fun i => (S i).t) (fun _ => 0) (fun _ => 0) mw _).mono ?_; rintro e_ w9 ⟨tg, W', rfl, htr, hb9, hws, hge, htb⟩; have HGE := QJ.le (wr := W2) (g := g) (S := S) (by assumption) hge; have hI := STEP.out _ _ (by assumption) hb9; have HTR := Lib.hid htb; have HWS := Lib.hid hws; clear hb9 htr hws hge htb; unfold QJ at hI))
        all_goals
          go_wp2_with fail
          go_meet
          exact ⟨tg, W', rfl, HTR, Lib.hid (And.left (show QJ W2 g S w9 by assumption)), HWS, HGE⟩
      case rest =>
        obtain ⟨tg, W', rfl, HTR, hbc, HWS, HGE⟩ := hcut
        have HG0 := Lib.hid (show W0.heap.size ≤ tg from Nat.le_trans RB.out.size HGE)
        have htg : ¬ tg = rg := by
          have e1 := RB.out.size
          have e2 := BT.out.lt
          omega
        have RB2 := Lib.hid (RB.out.trans (hbc.out.mono RB.out.size))
        have XB2 := Lib.hid (XB.out.below hbc.out)
        clear hbc RB XB ne ne2 hg0
        have hg0 : g < wc.heap.size := XB2.out.lt
        go_upto_region 9 with fail
        obtain ⟨W3, rfl⟩ : ∃ W3 : World, W3 = wc := ⟨_, rfl⟩
        go_cut [12] (fun s wx => ∃ tg W', s = .slice (some ⟨tg, 0, none⟩) (cm (fun i => (S i).k2) (fun i => (S i).t2)) 4 ∧ Hid (Tab wx tg 47 7 4 (tc (fun i => (S i).k2) (fun i => (S i).t2) W' (fun _ => 0))) ∧ Hid (Below W3.heap.size W3 wx) ∧ Hid (∀ i, i < cm (fun i => (S i).k2) (fun i => (S i).t2) → W' i = wsv (cm (fun i => (S i).k2) (fun i => (S i).t2)) mw i) ∧ W3.heap.size ≤ tg)
        case first =>
          have START := Lib.hid (show QK W3 g S W3.drew from ⟨(Below.refl _ _).drew, hg0, XB2.out.at (k := 0) (d := 7) (by omega) (by omega), XB2.out.at (k := 0) (d := 8) (by omega) (by omega), XB2.out.at (k := 0) (d := 9) (by omega) (by omega), XB2.out.at (k := 0) (d := 10) (by omega) (by omega), XB2.out.at (k := 0) (d := 11) (by omega) (by omega), XB2.out.at (k := 0) (d := 12) (by omega) (by omega), XB2.out.at (k := 0) (d := 13) (by omega) (by omega), XB2.out.at (k := 1) (d := 7) (by omega) (by omega), XB2.out.at (k := 1) (d := 8) (by omega) (by omega), XB2.out.at (k := 1) (d := 9) (by omega) (by omega), XB2.out.at (k := 1) (d := 10) (by omega) (by omega), XB2.out.at (k := 1) (d := 11) (by omega) (by omega), XB2.out.at (k := 1) (d := 12) (by omega) (by omega), XB2.out.at (k := 1) (d := 13) (by omega) (by omega), XB2.out.at (k := 2) (d := 7) (by omega) (by omega), XB2.out.at (k := 2) (d := 8) (by omega) (by omega), XB2.out.at (k := 2) (d := 9) (by omega) (by omega), XB2.out.at (k := 2) (d := 10) (by omega) (by omega), XB2.out.at (k := 2) (d := 11) (by omega) (by omega), XB2.out.at (k := 2) (d := 12) (by omega) (by omega), XB2.out.at (k := 2) (d := 13) (by omega) (by omega), XB2.out.at (k := 3) (d := 7) (by omega) (by omega), XB2.out.at (k := 3) (d := 8) (by omega) (by omega), XB2.out.at (k := 3) (d := 9) (by omega) (by omega), XB2.out.at (k := 3) (d := 10) (by omega) (by omega), XB2.out.at (k := 3) (d := 11) (by omega) (by omega), XB2.out.at (k := 3) (d := 12) (by omega) (by omega), XB2.out.at (k := 3) (d := 13) (by omega) (by omega)⟩)
          have STEP := Lib.hid (fun w1 w2 (h : QK W3 g S w1) (hb : Below w1.heap.size w1 w2) => h.step hb)
          go_region_held3 (fun w' => Below W3.heap.size W3 w' ∧ g < W3.heap.size ∧ w'.cell? ⟨g, 7, none⟩ = some (.pointer none) ∧ w'.cell? ⟨g, 8, none⟩ = some (.string (S 0).t2) ∧ w'.cell? ⟨g, 9, none⟩ = some (.int .i32 0) ∧ w'.cell? ⟨g, 10, none⟩ = some (.int .u32 0) ∧ w'.cell? ⟨g, 11, none⟩ = some (.int .u16 0) ∧ w'.cell? ⟨g, 12, none⟩ = some (.int .u8 (S 0).k2) ∧ w'.cell? ⟨g, 13, none⟩ = some (.int .u8 0) ∧ w'.cell? ⟨g, 25, none⟩ = some (.pointer none) ∧ w'.cell? ⟨g, 26, none⟩ = some (.string (S 1).t2) ∧ w'.cell? ⟨g, 27, none⟩ = some (.int .i32 0) ∧ w'.cell? ⟨g, 28, none⟩ = some (.int .u32 0) ∧ w'.cell? ⟨g, 29, none⟩ = some (.int .u16 0) ∧ w'.cell? ⟨g, 30, none⟩ = some (.int .u8 (S 1).k2) ∧ w'.cell? ⟨g, 31, none⟩ = some (.int .u8 0) ∧ w'.cell? ⟨g, 43, none⟩ = some (.pointer none) ∧ w'.cell? ⟨g, 44, none⟩ = some (.string (S 2).t2) ∧ w'.cell? ⟨g, 45, none⟩ = some (.int .i32 0) ∧ w'.cell? ⟨g, 46, none⟩ = some (.int .u32 0) ∧ w'.cell? ⟨g, 47, none⟩ = some (.int .u16 0) ∧ w'.cell? ⟨g, 48, none⟩ = some (.int .u8 (S 2).k2) ∧ w'.cell? ⟨g, 49, none⟩ = some (.int .u8 0) ∧ w'.cell? ⟨g, 61, none⟩ = some (.pointer none) ∧ w'.cell? ⟨g, 62, none⟩ = some (.string (S 3).t2) ∧ w'.cell? ⟨g, 63, none⟩ = some (.int .i32 0) ∧ w'.cell? ⟨g, 64, none⟩ = some (.int .u32 0) ∧ w'.cell? ⟨g, 65, none⟩ = some (.int .u16 0) ∧ w'.cell? ⟨g, 66, none⟩ = some (.int .u8 (S 3).k2) ∧ w'.cell? ⟨g, 67, none⟩ = some (.int .u8 0))
            (first | assumption | exact START.out)
            (first | (go_at_call 36; refine (compact_any (fun i => (S i).k2) (fun i => (S i).t2) (fun _ => 0) (fun _ => 0) mw _).mono ?_; rintro e_ w9 ⟨tg, W', rfl, htr, hb9, hws, hge, htb⟩; have HGE := QK.le (wr := W3) (g := g) (S := S) (by assumption) hge; have hI := STEP.out _ _ (by assumption) hb9; have HTR := Lib.hid htb; have HWS := Lib.hid hws; clear hb9 htr hws hge htb; unfold QK at hI))
          all_goals
            go_wp2_with fail
            go_meet
            exact ⟨tg, W', rfl, HTR, Lib.hid (And.left (show QK W3 g S w9 by assumption)), HWS, HGE⟩
        case rest =>
          obtain ⟨tg2, W2', rfl, HTR2, hbc, HWS2, HGE2⟩ := hcut
          have WB := Lib.hid (RB2.out.trans (hbc.out.mono RB2.out.size))
          have HTR3 := Lib.hid (HTR.out.below hbc.out HTR.out.lt)
          have HGN := Lib.hid (show tg2 ≠ tg ∧ W0.heap.size ≤ tg ∧ W0.heap.size ≤ tg2 from by
            have h1 := HTR.out.lt
            have h2 := HG0.out
            have h3 := RB2.out.size
            exact ⟨by omega, h2, by omega⟩)
          obtain ⟨c1, hc1⟩ : ∃ c1, (cm (fun i => (S i).k) (fun i => (S i).t)) = c1 := ⟨_, rfl⟩
          obtain ⟨c2, hc2⟩ : ∃ c2, (cm (fun i => (S i).k2) (fun i => (S i).t2)) = c2 := ⟨_, rfl⟩
          have HC := Lib.hid (show (1 ≤ c1 ∧ c1 ≤ 4) ∧ (1 ≤ c2 ∧ c2 ≤ 4) from ⟨hc1 ▸ cm_le _ _, hc2 ▸ cm_le _ _⟩)
          obtain ⟨bb, hbb⟩ : ∃ bb, eqS c1 c2 (fun i => (S i).k) (fun i => (S i).t) (fun i => (S i).k2) (fun i => (S i).t2) = bb := ⟨_, rfl⟩
          rw [hc1] at HWS
          rw [hc2] at HWS2
          have HCC := Lib.hid (And.intro hc1 (And.intro hc2 hbb))
          have SAME := Lib.hid (show Calls Tryd.prog 34 #[.slice (some ⟨tg, 0, none⟩) c1 4, .slice (some ⟨tg2, 0, none⟩) c2 4] wc fun e w' => e = .returned (.bool bb) ∧ Below wc.heap.size wc w' from
            (same19 _ _ _ _ 4 4 _ _ _ _ _ _ _ _ wc (by have := HC.out; omega) (tr_of HTR3.out (by have := HC.out; omega)) (tr_of HTR2.out (by have := HC.out; omega))).mono fun e w' h => ⟨by rw [h.1, hbb], h.2⟩)
          rw [hc1, hc2]
          clear HTR HGE2 hbc RB2 XB2 hg0 hc1 hc2 hbb
          obtain ⟨W4, rfl⟩ : ∃ W4 : World, W4 = wc := ⟨_, rfl⟩
          go_wp2_with fail
          refine SAME.out.mono ?_
          rintro e wc ⟨rfl, hb9⟩
          have HTR := Lib.hid (HTR3.out.below hb9 HTR3.out.lt)
          have HTS := Lib.hid (HTR2.out.below hb9 HTR2.out.lt)
          have WB1 := Lib.hid (WB.out.trans (hb9.mono WB.out.size))
          clear hb9 SAME HTR3 HTR2 WB
          obtain ⟨W5, rfl⟩ : ∃ W5 : World, W5 = wc := ⟨_, rfl⟩
          go_upto_if 135 with fail
          go_cut [11] (fun s wx => ∃ L tg cp, s = .slice (some ⟨tg, 0, none⟩) L cp ∧ Hid (GV bb c1 c2 S mw wx tg L) ∧ Hid (Below W0.heap.size W0 wx) ∧ Hid (W0.heap.size ≤ tg))
          case first =>
            cases bb
            case true =>
              go_wp2_with fail
              go_meet
              exact ⟨c1, tg, 4, rfl, Lib.hid ⟨rfl, (tr_of HTR.out (by have := HC.out; omega)).ws HWS.out⟩, WB1, Lib.hid HGN.out.2.1⟩
            case false =>
              obtain ⟨p, hp⟩ : ∃ p, c1 = p + 1 := ⟨c1 - 1, by have := HC.out; omega⟩
              subst hp
              have HP := Lib.hid (show p < 4 by have := HC.out; omega)
              have hl0 : W5.cell? ⟨tg, p * 7 + 2, none⟩ = some (.int .i32 0) := HTR.out.cell (i := p) (j := 2) HP.out (by omega)
              have OW := Lib.hid (tab_own (base := W0.heap.size) (m := p + 1) HTR.out (by have := HC.out; omega) HGN.out.2.1)
              have NEWS := Lib.hid (show ∀ j u, (tl (fun i => (S i).k2) (fun i => (S i).t2) W2' 0 c2)[j]? = some u → W5.cell? ((⟨tg2, 0, none⟩ : Addr).add j) = some u from
                tl_cells (n := 4) (o := 0) (fun i j hi hj => by rw [Nat.zero_add]; exact HTS.out.cell hi hj) (by have := HC.out; omega) 0 rfl)
              have LT := Lib.hid (show tg2 < W5.heap.size from HTS.out.lt)
              have q1 : (0 : Int) ≤ (p : Int) := by omega
              have q2 : (p : Int) < (p : Int) + 1 := by omega
              obtain ⟨i0, hi, hz0, hz1, hz2⟩ := info_parts info_tok
              have NG : ¬ tg = W5.heap.size := by have := HTR.out.lt; omega
              have NG2 : ¬ W5.heap.size = tg := fun h => NG h.symm
              have hwp : wrap64 (p : Int) = (p : Int) := by have := HP.out; unfold wrap64; omega
              cases mw
              case' false =>
                go_wp2_with (at_builtin; first
                  | (refine wpList_append_lies _ rfl _ _ _ rfl W0.heap.size 47 i0 _ 7 40 Tryd.underlying36 hi hz0 hz1 hz2 rfl (by omega) _ (p + 1) (tl (fun i => (S i).k) (fun i => (S i).t) W' 0 (p + 1)) rfl (OW.out.alloc _) ⟨W5.heap.size, 0, none⟩ 1 1 [.pointer none, .string ⟨#[47]⟩, .int .i32 0, .int .u32 0, .int .u16 0, .int .u8 24, .int .u8 3] rfl rfl (World.news_of_block (Blk.new _ _ _)) (tok_one _ _ _ _) (by omega) (by have := HP.out; unfold maxLen; omega) (by have := HP.out; omega) (by simpa using Nat.le_succ_of_le WB1.out.size) (W5.heap.size + 1) (by simp) ?_; intro g1 cap1 w6 hown1 hgrow1 hat1 hlt1; have G1 := Lib.hid (And.intro hown1 (And.intro hgrow1 hat1)); have N1 := Lib.hid (news_far NEWS.out LT.out HGN.out.1 hgrow1); have S6 := Lib.hid (show W0.heap.size ≤ w6.heap.size from Nat.le_trans (Nat.le_trans WB1.out.size (by simp)) hgrow1.size); clear hown1 hgrow1 hat1 hlt1)
                  | (refine wpList_append_lies _ rfl _ _ _ rfl W0.heap.size 47 i0 _ 7 40 Tryd.underlying36 hi hz0 hz1 hz2 rfl (by omega) _ (p + 1 + 1) _ rfl G1.out.1 ⟨tg2, 0, none⟩ c2 4 (tl (fun i => (S i).k2) (fun i => (S i).t2) W2' 0 c2) rfl (tl_len _) N1.out (tl_one _) (by have := HC.out; omega) (by have := HC.out; unfold maxLen; omega) (by have := HC.out; omega) S6.out w6.heap.size rfl ?_; intro g2 cap2 w7 hown2 hgrow2 hat2 hlt2; have TE := Lib.hid (two_end WB1.out HGN.out.2.1 G1.out.2.1 G1.out.2.2 hgrow2 hat2 hown2); clear hown2 hgrow2 hat2 hlt2))
              case' true =>
                go_wp2_with (at_builtin; first
                  | (refine wpList_append_lies _ rfl _ _ _ rfl W0.heap.size 47 i0 _ 7 40 Tryd.underlying36 hi hz0 hz1 hz2 rfl (by omega) _ (p + 1) (tl (fun i => (S i).k) (fun i => (S i).t) W' 0 (p + 1)) rfl (OW.out.alloc _) ⟨W5.heap.size, 0, none⟩ 1 1 [.pointer none, .string ⟨#[47]⟩, .int .i32 0, .int .u32 0, .int .u16 0, .int .u8 24, .int .u8 0] rfl rfl (World.news_of_block (Blk.new _ _ _)) (tok_one _ _ _ _) (by omega) (by have := HP.out; unfold maxLen; omega) (by have := HP.out; omega) (by simpa using Nat.le_succ_of_le WB1.out.size) (W5.heap.size + 1) (by simp) ?_; intro g1 cap1 w6 hown1 hgrow1 hat1 hlt1; have G1 := Lib.hid (And.intro hown1 (And.intro hgrow1 hat1)); have N1 := Lib.hid (news_far NEWS.out LT.out HGN.out.1 hgrow1); have S6 := Lib.hid (show W0.heap.size ≤ w6.heap.size from Nat.le_trans (Nat.le_trans WB1.out.size (by simp)) hgrow1.size); clear hown1 hgrow1 hat1 hlt1)
                  | (refine wpList_append_lies _ rfl _ _ _ rfl W0.heap.size 47 i0 _ 7 40 Tryd.underlying36 hi hz0 hz1 hz2 rfl (by omega) _ (p + 1 + 1) _ rfl G1.out.1 ⟨tg2, 0, none⟩ c2 4 (tl (fun i => (S i).k2) (fun i => (S i).t2) W2' 0 c2) rfl (tl_len _) N1.out (tl_one _) (by have := HC.out; omega) (by have := HC.out; unfold maxLen; omega) (by have := HC.out; omega) S6.out w6.heap.size rfl ?_; intro g2 cap2 w7 hown2 hgrow2 hat2 hlt2; have TE := Lib.hid (two_end WB1.out HGN.out.2.1 G1.out.2.1 G1.out.2.2 hgrow2 hat2 hown2); clear hown2 hgrow2 hat2 hlt2))
              all_goals
                go_meet
                exact ⟨p + 1 + 1 + c2, g2, cap2, rfl, Lib.hid ⟨rfl, TE.out.1.ws fun i hi => by
                  unfold jn
                  by_cases h1 : i < p + 1
                  · rw [if_pos h1, if_pos h1]; exact HWS.out i h1
                  · rw [if_neg h1, if_neg h1]
                    by_cases h2 : i = p + 1
                    · rw [if_pos h2, if_pos h2]; rfl
                    · rw [if_neg h2, if_neg h2]; exact HWS2.out _ (by omega)⟩, Lib.hid TE.out.2.1, Lib.hid TE.out.2.2⟩
          case rest =>
            obtain ⟨L, tq, cp, rfl, HGV, WB2, HTQ⟩ := hcut
            have htg : ¬ tq = rg := by
              have e2 := BT.out.lt
              have e3 := HTQ.out
              omega
            have XB2 := Lib.hid (BB.out.below WB2.out)
            have XT2 := Lib.hid (BT.out.below WB2.out BT.out.lt)
            have XR2 := Lib.hid (BR.out.below WB2.out BR.out.lt)
            clear BB BT BR
            have hg0 : g < wc.heap.size := XB2.out.lt
            have hr0 : rg < wc.heap.size := XT2.out.lt
            have ne : ¬ g = wc.heap.size := by omega
            have ne2 : ¬ wc.heap.size = g := by omega
            obtain ⟨C, hC⟩ : ∃ C : List Value, C = C72 S R := ⟨_, rfl⟩
            have hRg := fun (ob : Obj) => (show (wc.alloc ob).rangeAt g 0 C by rw [hC]; exact (Tk.alloc XB2.out ob).corners HR.out)
            have hi74 : (Tryd.prog.info? 76).map (·.size) = some C.length := by rw [hC]; kernel_rfl
            have hix0 : ∀ W : World, (Instr.index 76 (.agg C.toArray) (.int .i64 0)).run Tryd.prog W = .ok (.agg #[.pointer none, .string (S 0).t, .int .i32 0, .int .u32 0, .int .u16 0, .int .u8 (S 0).k, .int .u8 0, .pointer none, .string (S 0).t2, .int .i32 0, .int .u32 0, .int .u16 0, .int .u8 (S 0).k2, .int .u8 0, .string (S 0).u, .int .u8 (S 0).st, .int .u32 ((R 0 : Nat) : Int), .bool (S 0).b]) W := fun W => by rw [hC]; exact ix0 S R W
            have hix1 : ∀ W : World, (Instr.index 76 (.agg C.toArray) (.int .i64 1)).run Tryd.prog W = .ok (.agg #[.pointer none, .string (S 1).t, .int .i32 0, .int .u32 0, .int .u16 0, .int .u8 (S 1).k, .int .u8 0, .pointer none, .string (S 1).t2, .int .i32 0, .int .u32 0, .int .u16 0, .int .u8 (S 1).k2, .int .u8 0, .string (S 1).u, .int .u8 (S 1).st, .int .u32 ((R 1 : Nat) : Int), .bool (S 1).b]) W := fun W => by rw [hC]; exact ix1 S R W
            have hix2 : ∀ W : World, (Instr.index 76 (.agg C.toArray) (.int .i64 2)).run Tryd.prog W = .ok (.agg #[.pointer none, .string (S 2).t, .int .i32 0, .int .u32 0, .int .u16 0, .int .u8 (S 2).k, .int .u8 0, .pointer none, .string (S 2).t2, .int .i32 0, .int .u32 0, .int .u16 0, .int .u8 (S 2).k2, .int .u8 0, .string (S 2).u, .int .u8 (S 2).st, .int .u32 ((R 2 : Nat) : Int), .bool (S 2).b]) W := fun W => by rw [hC]; exact ix2 S R W
            have hix3 : ∀ W : World, (Instr.index 76 (.agg C.toArray) (.int .i64 3)).run Tryd.prog W = .ok (.agg #[.pointer none, .string (S 3).t, .int .i32 0, .int .u32 0, .int .u16 0, .int .u8 (S 3).k, .int .u8 0, .pointer none, .string (S 3).t2, .int .i32 0, .int .u32 0, .int .u16 0, .int .u8 (S 3).k2, .int .u8 0, .string (S 3).u, .int .u8 (S 3).st, .int .u32 ((R 3 : Nat) : Int), .bool (S 3).b]) W := fun W => by rw [hC]; exact ix3 S R W
            clear hC
            have KM := Lib.hid (fun (ob : Obj) => show Kept wc.heap.size rg wc (wc.alloc ob) from (Kept.refl _ _ _).alloc (Nat.le_refl _) ob)
            have KB := Lib.hid (show Blk (wc.alloc (.cells #[.int .i32 0] 28)) wc.heap.size 28 #[.int .i32 0] from Blk.new wc 28 _)
            have KT := Lib.hid (fun (ob : Obj) => show Tab (wc.alloc ob) rg 54 2 n (rc D Lc) from XT2.out.alloc ob)
            go_wp2_with (refine wpList_load_mid rfl 76 _ rfl g 0 rfl C _ (hRg _) Tryd.underlying76 rfl hi74 ?_)
            go_loopw [15, 16, 17, 157] (fun _ _ _ i wr => ∃ k : Nat, k ≤ 4 ∧ i = .int .i64 k ∧ Hid (Tab wr rg 54 2 n (rc (dk D R k) (lk Lc R k))) ∧ Hid (Blk wr wc.heap.size 28 #[.int .i32 (ml Lc R k)]) ∧ Hid (Kept wc.heap.size rg wc wr)) (fun _ _ _ i _ => 4 - (intOf i).toNat)
            case atStart => exact ⟨0, by omega, rfl, Lib.hid (KT.out _), Lib.hid (KB.out), Lib.hid (KM.out _)⟩
            case round =>
              obtain ⟨k, hk, rfl, TJ, MJ, KJ⟩ := hrel
              by_cases hlt4 : k < 4
              · rcases fourI hlt4 with rfl | rfl | rfl | rfl

                · as_aux_lemma =>
                  have hRk : R 0 < n := HN.out 0 (by omega)
                  have b0 : (0 : Int) ≤ (R 0 : Int) := by omega
                  have b1 : (R 0 : Int) < (n : Int) := by omega
                  have y1 : wr.cell? ⟨rg, R 0 * 2 + 1, none⟩ = some (.int .i32 (lk Lc R 0 (R 0))) := TJ.out.cell (i := R 0) (j := 1) hRk (by omega)
                  have y0 : wr.cell? ⟨rg, R 0 * 2, none⟩ = some (dv (dk D R 0 (R 0))) := TJ.out.cell (i := R 0) (j := 0) hRk (by omega)
                  have z1 : wr.frozen? ⟨rg, R 0 * 2 + 1, none⟩ = false := TJ.out.frozen _
                  have z0 : wr.frozen? ⟨rg, R 0 * 2, none⟩ = false := TJ.out.frozen _
                  have m0 : wr.cell? ⟨wc.heap.size, 0, none⟩ = some (.int .i32 (ml Lc R 0)) := MJ.out.cell 0
                  have mz : wr.frozen? ⟨wc.heap.size, 0, none⟩ = false := MJ.out.frozen _
                  have hx1 : rg < wr.heap.size := TJ.out.lt
                  have hx2 : wc.heap.size < wr.heap.size := MJ.out.lt
                  have n1 : ¬ rg = wr.heap.size := by omega
                  have n2 : ¬ wr.heap.size = rg := by omega
                  have n3 : ¬ wc.heap.size = wr.heap.size := by omega
                  have n4 : ¬ wr.heap.size = wc.heap.size := by omega
                  have n5 : ¬ rg = wc.heap.size := by omega
                  have n6 : ¬ wc.heap.size = rg := by omega
                  have n7 : ¬ rg = wr.heap.size + 1 := by omega
                  have n8 : ¬ wr.heap.size + 1 = rg := by omega
                  have n9 : ¬ wc.heap.size = wr.heap.size + 1 := by omega
                  have n10 : ¬ wr.heap.size + 1 = wc.heap.size := by omega
                  have STY := Lib.hid (fun (W : World) (h : Tab W rg 54 2 n (rc (dk D R 0) (lk Lc R 0))) => show Tab ((W.setCell ⟨rg, R 0 * 2, none⟩ .nilIface).setCell ⟨rg, R 0 * 2 + 1, none⟩ (.int .i32 0)) rg 54 2 n (rc (dk D R (0 + 1)) (lk Lc R (0 + 1))) from rc_step h hRk)
                  go_wp2
                  · clear y0 y1 z0 z1 m0 mz hix0 hix1 hix2 hix3
                    have e9 := Lib.hid (ml_yes (Lc := Lc) (R := R) (k := 0) (.inl rfl))
                    have T9 := Lib.hid (((STY.out _ (TJ.out.far (p := ⟨wc.heap.size, 0, none⟩) n5 (.int .i32 (lk Lc R 0 (R 0))))).alloc (.cells #[.pointer none, .string (S 0).t, .int .i32 0, .int .u32 0, .int .u16 0, .int .u8 (S 0).k, .int .u8 0, .pointer none, .string (S 0).t2, .int .i32 0, .int .u32 0, .int .u16 0, .int .u8 (S 0).k2, .int .u8 0, .string (S 0).u, .int .u8 (S 0).st, .int .u32 ((R 0 : Nat) : Int), .bool (S 0).b] 75)).alloc (.cells #[.int .i32 (lk Lc R 0 (R 0))] 28))
                    have M9 := Lib.hid (blk_as (((((MJ.out.set_ 0 (.int .i32 (lk Lc R 0 (R 0)))).far (p := ⟨rg, R 0 * 2, none⟩) n6 .nilIface).far (p := ⟨rg, R 0 * 2 + 1, none⟩) n6 (.int .i32 0)).alloc (.cells #[.pointer none, .string (S 0).t, .int .i32 0, .int .u32 0, .int .u16 0, .int .u8 (S 0).k, .int .u8 0, .pointer none, .string (S 0).t2, .int .i32 0, .int .u32 0, .int .u16 0, .int .u8 (S 0).k2, .int .u8 0, .string (S 0).u, .int .u8 (S 0).st, .int .u32 ((R 0 : Nat) : Int), .bool (S 0).b] 75)).alloc (.cells #[.int .i32 (lk Lc R 0 (R 0))] 28)) (show _ = #[.int .i32 (ml Lc R (0 + 1))] by rw [e9.out]; rfl))
                    have K9 := Lib.hid (kalloc (kalloc (((KJ.out.setNew (p := ⟨wc.heap.size, 0, none⟩) (Nat.le_refl _) (.int .i32 (lk Lc R 0 (R 0)))).setCell (R 0 * 2) .nilIface).setCell (R 0 * 2 + 1) (.int .i32 0)) (.cells #[.pointer none, .string (S 0).t, .int .i32 0, .int .u32 0, .int .u16 0, .int .u8 (S 0).k, .int .u8 0, .pointer none, .string (S 0).t2, .int .i32 0, .int .u32 0, .int .u16 0, .int .u8 (S 0).k2, .int .u8 0, .string (S 0).u, .int .u8 (S 0).st, .int .u32 ((R 0 : Nat) : Int), .bool (S 0).b] 75)) (.cells #[.int .i32 (lk Lc R 0 (R 0))] 28))
                    exact ⟨⟨0 + 1, by omega, rfl, T9, M9, K9⟩, by simp [intOf]⟩
                · as_aux_lemma =>
                  have hRk : R 1 < n := HN.out 1 (by omega)
                  have b0 : (0 : Int) ≤ (R 1 : Int) := by omega
                  have b1 : (R 1 : Int) < (n : Int) := by omega
                  have y1 : wr.cell? ⟨rg, R 1 * 2 + 1, none⟩ = some (.int .i32 (lk Lc R 1 (R 1))) := TJ.out.cell (i := R 1) (j := 1) hRk (by omega)
                  have y0 : wr.cell? ⟨rg, R 1 * 2, none⟩ = some (dv (dk D R 1 (R 1))) := TJ.out.cell (i := R 1) (j := 0) hRk (by omega)
                  have z1 : wr.frozen? ⟨rg, R 1 * 2 + 1, none⟩ = false := TJ.out.frozen _
                  have z0 : wr.frozen? ⟨rg, R 1 * 2, none⟩ = false := TJ.out.frozen _
                  have m0 : wr.cell? ⟨wc.heap.size, 0, none⟩ = some (.int .i32 (ml Lc R 1)) := MJ.out.cell 0
                  have mz : wr.frozen? ⟨wc.heap.size, 0, none⟩ = false := MJ.out.frozen _
                  have hx1 : rg < wr.heap.size := TJ.out.lt
                  have hx2 : wc.heap.size < wr.heap.size := MJ.out.lt
                  have n1 : ¬ rg = wr.heap.size := by omega
                  have n2 : ¬ wr.heap.size = rg := by omega
                  have n3 : ¬ wc.heap.size = wr.heap.size := by omega
                  have n4 : ¬ wr.heap.size = wc.heap.size := by omega
                  have n5 : ¬ rg = wc.heap.size := by omega
                  have n6 : ¬ wc.heap.size = rg := by omega
                  have n7 : ¬ rg = wr.heap.size + 1 := by omega
                  have n8 : ¬ wr.heap.size + 1 = rg := by omega
                  have n9 : ¬ wc.heap.size = wr.heap.size + 1 := by omega
                  have n10 : ¬ wr.heap.size + 1 = wc.heap.size := by omega
                  have STY := Lib.hid (fun (W : World) (h : Tab W rg 54 2 n (rc (dk D R 1) (lk Lc R 1))) => show Tab ((W.setCell ⟨rg, R 1 * 2, none⟩ .nilIface).setCell ⟨rg, R 1 * 2 + 1, none⟩ (.int .i32 0)) rg 54 2 n (rc (dk D R (1 + 1)) (lk Lc R (1 + 1))) from rc_step h hRk)
                  go_wp2
                  · rename_i hh
                    clear y0 y1 z0 z1 m0 mz hix0 hix1 hix2 hix3
                    have e9 := Lib.hid (ml_yes (Lc := Lc) (R := R) (k := 1) (.inr hh))
                    have T9 := Lib.hid (((STY.out _ (TJ.out.far (p := ⟨wc.heap.size, 0, none⟩) n5 (.int .i32 (lk Lc R 1 (R 1))))).alloc (.cells #[.pointer none, .string (S 1).t, .int .i32 0, .int .u32 0, .int .u16 0, .int .u8 (S 1).k, .int .u8 0, .pointer none, .string (S 1).t2, .int .i32 0, .int .u32 0, .int .u16 0, .int .u8 (S 1).k2, .int .u8 0, .string (S 1).u, .int .u8 (S 1).st, .int .u32 ((R 1 : Nat) : Int), .bool (S 1).b] 75)).alloc (.cells #[.int .i32 (lk Lc R 1 (R 1))] 28))
                    have M9 := Lib.hid (blk_as (((((MJ.out.set_ 0 (.int .i32 (lk Lc R 1 (R 1)))).far (p := ⟨rg, R 1 * 2, none⟩) n6 .nilIface).far (p := ⟨rg, R 1 * 2 + 1, none⟩) n6 (.int .i32 0)).alloc (.cells #[.pointer none, .string (S 1).t, .int .i32 0, .int .u32 0, .int .u16 0, .int .u8 (S 1).k, .int .u8 0, .pointer none, .string (S 1).t2, .int .i32 0, .int .u32 0, .int .u16 0, .int .u8 (S 1).k2, .int .u8 0, .string (S 1).u, .int .u8 (S 1).st, .int .u32 ((R 1 : Nat) : Int), .bool (S 1).b] 75)).alloc (.cells #[.int .i32 (lk Lc R 1 (R 1))] 28)) (show _ = #[.int .i32 (ml Lc R (1 + 1))] by rw [e9.out]; rfl))
                    have K9 := Lib.hid (kalloc (kalloc (((KJ.out.setNew (p := ⟨wc.heap.size, 0, none⟩) (Nat.le_refl _) (.int .i32 (lk Lc R 1 (R 1)))).setCell (R 1 * 2) .nilIface).setCell (R 1 * 2 + 1) (.int .i32 0)) (.cells #[.pointer none, .string (S 1).t, .int .i32 0, .int .u32 0, .int .u16 0, .int .u8 (S 1).k, .int .u8 0, .pointer none, .string (S 1).t2, .int .i32 0, .int .u32 0, .int .u16 0, .int .u8 (S 1).k2, .int .u8 0, .string (S 1).u, .int .u8 (S 1).st, .int .u32 ((R 1 : Nat) : Int), .bool (S 1).b] 75)) (.cells #[.int .i32 (lk Lc R 1 (R 1))] 28))
                    exact ⟨⟨1 + 1, by omega, rfl, T9, M9, K9⟩, by simp [intOf]⟩
                  · rename_i hh
                    clear y0 y1 z0 z1 m0 mz hix0 hix1 hix2 hix3
                    have e9 := Lib.hid (ml_no (Lc := Lc) (R := R) (k := 1) (by omega))
                    have T9 := Lib.hid (((STY.out _ TJ.out).alloc (.cells #[.pointer none, .string (S 1).t, .int .i32 0, .int .u32 0, .int .u16 0, .int .u8 (S 1).k, .int .u8 0, .pointer none, .string (S 1).t2, .int .i32 0, .int .u32 0, .int .u16 0, .int .u8 (S 1).k2, .int .u8 0, .string (S 1).u, .int .u8 (S 1).st, .int .u32 ((R 1 : Nat) : Int), .bool (S 1).b] 75)).alloc (.cells #[.int .i32 (lk Lc R 1 (R 1))] 28))
                    have M9 := Lib.hid (blk_as ((((MJ.out.far (p := ⟨rg, R 1 * 2, none⟩) n6 .nilIface).far (p := ⟨rg, R 1 * 2 + 1, none⟩) n6 (.int .i32 0)).alloc (.cells #[.pointer none, .string (S 1).t, .int .i32 0, .int .u32 0, .int .u16 0, .int .u8 (S 1).k, .int .u8 0, .pointer none, .string (S 1).t2, .int .i32 0, .int .u32 0, .int .u16 0, .int .u8 (S 1).k2, .int .u8 0, .string (S 1).u, .int .u8 (S 1).st, .int .u32 ((R 1 : Nat) : Int), .bool (S 1).b] 75)).alloc (.cells #[.int .i32 (lk Lc R 1 (R 1))] 28)) (show _ = #[.int .i32 (ml Lc R (1 + 1))] by rw [e9.out]))
                    have K9 := Lib.hid (kalloc (kalloc ((KJ.out.setCell (R 1 * 2) .nilIface).setCell (R 1 * 2 + 1) (.int .i32 0)) (.cells #[.pointer none, .string (S 1).t, .int .i32 0, .int .u32 0, .int .u16 0, .int .u8 (S 1).k, .int .u8 0, .pointer none, .string (S 1).t2, .int .i32 0, .int .u32 0, .int .u16 0, .int .u8 (S 1).k2, .int .u8 0, .string (S 1).u, .int .u8 (S 1).st, .int .u32 ((R 1 : Nat) : Int), .bool (S 1).b] 75)) (.cells #[.int .i32 (lk Lc R 1 (R 1))] 28))
                    exact ⟨⟨1 + 1, by omega, rfl, T9, M9, K9⟩, by simp [intOf]⟩
                · as_aux_lemma =>
                  have hRk : R 2 < n := HN.out 2 (by omega)
                  have b0 : (0 : Int) ≤ (R 2 : Int) := by omega
                  have b1 : (R 2 : Int) < (n : Int) := by omega
                  have y1 : wr.cell? ⟨rg, R 2 * 2 + 1, none⟩ = some (.int .i32 (lk Lc R 2 (R 2))) := TJ.out.cell (i := R 2) (j := 1) hRk (by omega)
                  have y0 : wr.cell? ⟨rg, R 2 * 2, none⟩ = some (dv (dk D R 2 (R 2))) := TJ.out.cell (i := R 2) (j := 0) hRk (by omega)
                  have z1 : wr.frozen? ⟨rg, R 2 * 2 + 1, none⟩ = false := TJ.out.frozen _
                  have z0 : wr.frozen? ⟨rg, R 2 * 2, none⟩ = false := TJ.out.frozen _
                  have m0 : wr.cell? ⟨wc.heap.size, 0, none⟩ = some (.int .i32 (ml Lc R 2)) := MJ.out.cell 0
                  have mz : wr.frozen? ⟨wc.heap.size, 0, none⟩ = false := MJ.out.frozen _
                  have hx1 : rg < wr.heap.size := TJ.out.lt
                  have hx2 : wc.heap.size < wr.heap.size := MJ.out.lt
                  have n1 : ¬ rg = wr.heap.size := by omega
                  have n2 : ¬ wr.heap.size = rg := by omega
                  have n3 : ¬ wc.heap.size = wr.heap.size := by omega
                  have n4 : ¬ wr.heap.size = wc.heap.size := by omega
                  have n5 : ¬ rg = wc.heap.size := by omega
                  have n6 : ¬ wc.heap.size = rg := by omega
                  have n7 : ¬ rg = wr.heap.size + 1 := by omega
                  have n8 : ¬ wr.heap.size + 1 = rg := by omega
                  have n9 : ¬ wc.heap.size = wr.heap.size + 1 := by omega
                  have n10 : ¬ wr.heap.size + 1 = wc.heap.size := by omega
                  have STY := Lib.hid (fun (W : World) (h : Tab W rg 54 2 n (rc (dk D R 2) (lk Lc R 2))) => show Tab ((W.setCell ⟨rg, R 2 * 2, none⟩ .nilIface).setCell ⟨rg, R 2 * 2 + 1, none⟩ (.int .i32 0)) rg 54 2 n (rc (dk D R (2 + 1)) (lk Lc R (2 + 1))) from rc_step h hRk)
                  go_wp2
                  · rename_i hh
                    clear y0 y1 z0 z1 m0 mz hix0 hix1 hix2 hix3
                    have e9 := Lib.hid (ml_yes (Lc := Lc) (R := R) (k := 2) (.inr hh))
                    have T9 := Lib.hid (((STY.out _ (TJ.out.far (p := ⟨wc.heap.size, 0, none⟩) n5 (.int .i32 (lk Lc R 2 (R 2))))).alloc (.cells #[.pointer none, .string (S 2).t, .int .i32 0, .int .u32 0, .int .u16 0, .int .u8 (S 2).k, .int .u8 0, .pointer none, .string (S 2).t2, .int .i32 0, .int .u32 0, .int .u16 0, .int .u8 (S 2).k2, .int .u8 0, .string (S 2).u, .int .u8 (S 2).st, .int .u32 ((R 2 : Nat) : Int), .bool (S 2).b] 75)).alloc (.cells #[.int .i32 (lk Lc R 2 (R 2))] 28))
                    have M9 := Lib.hid (blk_as (((((MJ.out.set_ 0 (.int .i32 (lk Lc R 2 (R 2)))).far (p := ⟨rg, R 2 * 2, none⟩) n6 .nilIface).far (p := ⟨rg, R 2 * 2 + 1, none⟩) n6 (.int .i32 0)).alloc (.cells #[.pointer none, .string (S 2).t, .int .i32 0, .int .u32 0, .int .u16 0, .int .u8 (S 2).k, .int .u8 0, .pointer none, .string (S 2).t2, .int .i32 0, .int .u32 0, .int .u16 0, .int .u8 (S 2).k2, .int .u8 0, .string (S 2).u, .int .u8 (S 2).st, .int .u32 ((R 2 : Nat) : Int), .bool (S 2).b] 75)).alloc (.cells #[.int .i32 (lk Lc R 2 (R 2))] 28)) (show _ = #[.int .i32 (ml Lc R (2 + 1))] by rw [e9.out]; rfl))
                    have K9 := Lib.hid (kalloc (kalloc (((KJ.out.setNew (p := ⟨wc.heap.size, 0, none⟩) (Nat.le_refl _) (.int .i32 (lk Lc R 2 (R 2)))).setCell (R 2 * 2) .nilIface).setCell (R 2 * 2 + 1) (.int .i32 0)) (.cells #[.pointer none, .string (S 2).t, .int .i32 0, .int .u32 0, .int .u16 0, .int .u8 (S 2).k, .int .u8 0, .pointer none, .string (S 2).t2, .int .i32 0, .int .u32 0, .int .u16 0, .int .u8 (S 2).k2, .int .u8 0, .string (S 2).u, .int .u8 (S 2).st, .int .u32 ((R 2 : Nat) : Int), .bool (S 2).b] 75)) (.cells #[.int .i32 (lk Lc R 2 (R 2))] 28))
                    exact ⟨⟨2 + 1, by omega, rfl, T9, M9, K9⟩, by simp [intOf]⟩
                  · rename_i hh
                    clear y0 y1 z0 z1 m0 mz hix0 hix1 hix2 hix3
                    have e9 := Lib.hid (ml_no (Lc := Lc) (R := R) (k := 2) (by omega))
                    have T9 := Lib.hid (((STY.out _ TJ.out).alloc (.cells #[.pointer none, .string (S 2).t, .int .i32 0, .int .u32 0, .int .u16 0, .int .u8 (S 2).k, .int .u8 0, .pointer none, .string (S 2).t2, .int .i32 0, .int .u32 0, .int .u16 0, .int .u8 (S 2).k2, .int .u8 0, .string (S 2).u, .int .u8 (S 2).st, .int .u32 ((R 2 : Nat) : Int), .bool (S 2).b] 75)).alloc (.cells #[.int .i32 (lk Lc R 2 (R 2))] 28))
                    have M9 := Lib.hid (blk_as ((((MJ.out.far (p := ⟨rg, R 2 * 2, none⟩) n6 .nilIface).far (p := ⟨rg, R 2 * 2 + 1, none⟩) n6 (.int .i32 0)).alloc (.cells #[.pointer none, .string (S 2).t, .int .i32 0, .int .u32 0, .int .u16 0, .int .u8 (S 2).k, .int .u8 0, .pointer none, .string (S 2).t2, .int .i32 0, .int .u32 0, .int .u16 0, .int .u8 (S 2).k2, .int .u8 0, .string (S 2).u, .int .u8 (S 2).st, .int .u32 ((R 2 : Nat) : Int), .bool (S 2).b] 75)).alloc (.cells #[.int .i32 (lk Lc R 2 (R 2))] 28)) (show _ = #[.int .i32 (ml Lc R (2 + 1))] by rw [e9.out]))
                    have K9 := Lib.hid (kalloc (kalloc ((KJ.out.setCell (R 2 * 2) .nilIface).setCell (R 2 * 2 + 1) (.int .i32 0)) (.cells #[.pointer none, .string (S 2).t, .int .i32 0, .int .u32 0, .int .u16 0, .int .u8 (S 2).k, .int .u8 0, .pointer none, .string (S 2).t2, .int .i32 0, .int .u32 0, .int .u16 0, .int .u8 (S 2).k2, .int .u8 0, .string (S 2).u, .int .u8 (S 2).st, .int .u32 ((R 2 : Nat) : Int), .bool (S 2).b] 75)) (.cells #[.int .i32 (lk Lc R 2 (R 2))] 28))
                    exact ⟨⟨2 + 1, by omega, rfl, T9, M9, K9⟩, by simp [intOf]⟩
                · as_aux_lemma =>
                  have hRk : R 3 < n := HN.out 3 (by omega)
                  have b0 : (0 : Int) ≤ (R 3 : Int) := by omega
                  have b1 : (R 3 : Int) < (n : Int) := by omega
                  have y1 : wr.cell? ⟨rg, R 3 * 2 + 1, none⟩ = some (.int .i32 (lk Lc R 3 (R 3))) := TJ.out.cell (i := R 3) (j := 1) hRk (by omega)
                  have y0 : wr.cell? ⟨rg, R 3 * 2, none⟩ = some (dv (dk D R 3 (R 3))) := TJ.out.cell (i := R 3) (j := 0) hRk (by omega)
                  have z1 : wr.frozen? ⟨rg, R 3 * 2 + 1, none⟩ = false := TJ.out.frozen _
                  have z0 : wr.frozen? ⟨rg, R 3 * 2, none⟩ = false := TJ.out.frozen _
                  have m0 : wr.cell? ⟨wc.heap.size, 0, none⟩ = some (.int .i32 (ml Lc R 3)) := MJ.out.cell 0
                  have mz : wr.frozen? ⟨wc.heap.size, 0, none⟩ = false := MJ.out.frozen _
                  have hx1 : rg < wr.heap.size := TJ.out.lt
                  have hx2 : wc.heap.size < wr.heap.size := MJ.out.lt
                  have n1 : ¬ rg = wr.heap.size := by omega
                  have n2 : ¬ wr.heap.size = rg := by omega
                  have n3 : ¬ wc.heap.size = wr.heap.size := by omega
                  have n4 : ¬ wr.heap.size = wc.heap.size := by omega
                  have n5 : ¬ rg = wc.heap.size := by omega
                  have n6 : ¬ wc.heap.size = rg := by omega
                  have n7 : ¬ rg = wr.heap.size + 1 := by omega
                  have n8 : ¬ wr.heap.size + 1 = rg := by omega
                  have n9 : ¬ wc.heap.size = wr.heap.size + 1 := by omega
                  have n10 : ¬ wr.heap.size + 1 = wc.heap.size := by omega
                  have STY := Lib.hid (fun (W : World) (h : Tab W rg 54 2 n (rc (dk D R 3) (lk Lc R 3))) => show Tab ((W.setCell ⟨rg, R 3 * 2, none⟩ .nilIface).setCell ⟨rg, R 3 * 2 + 1, none⟩ (.int .i32 0)) rg 54 2 n (rc (dk D R (3 + 1)) (lk Lc R (3 + 1))) from rc_step h hRk)
                  go_wp2
                  · rename_i hh
                    clear y0 y1 z0 z1 m0 mz hix0 hix1 hix2 hix3
                    have e9 := Lib.hid (ml_yes (Lc := Lc) (R := R) (k := 3) (.inr hh))
                    have T9 := Lib.hid (((STY.out _ (TJ.out.far (p := ⟨wc.heap.size, 0, none⟩) n5 (.int .i32 (lk Lc R 3 (R 3))))).alloc (.cells #[.pointer none, .string (S 3).t, .int .i32 0, .int .u32 0, .int .u16 0, .int .u8 (S 3).k, .int .u8 0, .pointer none, .string (S 3).t2, .int .i32 0, .int .u32 0, .int .u16 0, .int .u8 (S 3).k2, .int .u8 0, .string (S 3).u, .int .u8 (S 3).st, .int .u32 ((R 3 : Nat) : Int), .bool (S 3).b] 75)).alloc (.cells #[.int .i32 (lk Lc R 3 (R 3))] 28))
                    have M9 := Lib.hid (blk_as (((((MJ.out.set_ 0 (.int .i32 (lk Lc R 3 (R 3)))).far (p := ⟨rg, R 3 * 2, none⟩) n6 .nilIface).far (p := ⟨rg, R 3 * 2 + 1, none⟩) n6 (.int .i32 0)).alloc (.cells #[.pointer none, .string (S 3).t, .int .i32 0, .int .u32 0, .int .u16 0, .int .u8 (S 3).k, .int .u8 0, .pointer none, .string (S 3).t2, .int .i32 0, .int .u32 0, .int .u16 0, .int .u8 (S 3).k2, .int .u8 0, .string (S 3).u, .int .u8 (S 3).st, .int .u32 ((R 3 : Nat) : Int), .bool (S 3).b] 75)).alloc (.cells #[.int .i32 (lk Lc R 3 (R 3))] 28)) (show _ = #[.int .i32 (ml Lc R (3 + 1))] by rw [e9.out]; rfl))
                    have K9 := Lib.hid (kalloc (kalloc (((KJ.out.setNew (p := ⟨wc.heap.size, 0, none⟩) (Nat.le_refl _) (.int .i32 (lk Lc R 3 (R 3)))).setCell (R 3 * 2) .nilIface).setCell (R 3 * 2 + 1) (.int .i32 0)) (.cells #[.pointer none, .string (S 3).t, .int .i32 0, .int .u32 0, .int .u16 0, .int .u8 (S 3).k, .int .u8 0, .pointer none, .string (S 3).t2, .int .i32 0, .int .u32 0, .int .u16 0, .int .u8 (S 3).k2, .int .u8 0, .string (S 3).u, .int .u8 (S 3).st, .int .u32 ((R 3 : Nat) : Int), .bool (S 3).b] 75)) (.cells #[.int .i32 (lk Lc R 3 (R 3))] 28))
                    exact ⟨⟨3 + 1, by omega, rfl, T9, M9, K9⟩, by simp [intOf]⟩
                  · rename_i hh
                    clear y0 y1 z0 z1 m0 mz hix0 hix1 hix2 hix3
                    have e9 := Lib.hid (ml_no (Lc := Lc) (R := R) (k := 3) (by omega))
                    have T9 := Lib.hid (((STY.out _ TJ.out).alloc (.cells #[.pointer none, .string (S 3).t, .int .i32 0, .int .u32 0, .int .u16 0, .int .u8 (S 3).k, .int .u8 0, .pointer none, .string (S 3).t2, .int .i32 0, .int .u32 0, .int .u16 0, .int .u8 (S 3).k2, .int .u8 0, .string (S 3).u, .int .u8 (S 3).st, .int .u32 ((R 3 : Nat) : Int), .bool (S 3).b] 75)).alloc (.cells #[.int .i32 (lk Lc R 3 (R 3))] 28))
                    have M9 := Lib.hid (blk_as ((((MJ.out.far (p := ⟨rg, R 3 * 2, none⟩) n6 .nilIface).far (p := ⟨rg, R 3 * 2 + 1, none⟩) n6 (.int .i32 0)).alloc (.cells #[.pointer none, .string (S 3).t, .int .i32 0, .int .u32 0, .int .u16 0, .int .u8 (S 3).k, .int .u8 0, .pointer none, .string (S 3).t2, .int .i32 0, .int .u32 0, .int .u16 0, .int .u8 (S 3).k2, .int .u8 0, .string (S 3).u, .int .u8 (S 3).st, .int .u32 ((R 3 : Nat) : Int), .bool (S 3).b] 75)).alloc (.cells #[.int .i32 (lk Lc R 3 (R 3))] 28)) (show _ = #[.int .i32 (ml Lc R (3 + 1))] by rw [e9.out]))
                    have K9 := Lib.hid (kalloc (kalloc ((KJ.out.setCell (R 3 * 2) .nilIface).setCell (R 3 * 2 + 1) (.int .i32 0)) (.cells #[.pointer none, .string (S 3).t, .int .i32 0, .int .u32 0, .int .u16 0, .int .u8 (S 3).k, .int .u8 0, .pointer none, .string (S 3).t2, .int .i32 0, .int .u32 0, .int .u16 0, .int .u8 (S 3).k2, .int .u8 0, .string (S 3).u, .int .u8 (S 3).st, .int .u32 ((R 3 : Nat) : Int), .bool (S 3).b] 75)) (.cells #[.int .i32 (lk Lc R 3 (R 3))] 28))
                    exact ⟨⟨3 + 1, by omega, rfl, T9, M9, K9⟩, by simp [intOf]⟩
              · obtain rfl : k = 4 := by omega
                clear hix0 hix1 hix2 hix3 KM KB KT hRg hi74
                have XB3 := Lib.hid (show Tk wr g S im from KJ.out.tab XB2.out hg0 hg)
                have hw0 : w.heap.size < wc.heap.size := XR2.out.lt
                have XR3 := Lib.hid (KJ.out.blk XR2.out hw0 (by omega))
                have hR3 : R 3 < n := HN.out 3 (by omega)
                have b0 : (0 : Int) ≤ (R 3 : Int) := by omega
                have b1 : (R 3 : Int) < (n : Int) := by omega
                have c70 : wr.cell? ⟨g, 70, none⟩ = some (.int .u32 ((R 3 : Nat) : Int)) := by rw [← HR.out 3 (by omega)]; exact XB3.out.at (k := 3) (d := 16) (by omega) (by omega)
                have c72 : wr.cell? ⟨g, 72, none⟩ = some (.bool im) := XB3.out.imp
                have r0 : wr.cell? ⟨w.heap.size, 0, none⟩ = some (.int .i32 ks) := XR3.out.cell 0
                have r1 : wr.cell? ⟨w.heap.size, 1, none⟩ = some (.int .i32 kl) := XR3.out.cell 1
                have m0 : wr.cell? ⟨wc.heap.size, 0, none⟩ = some (.int .i32 (ml Lc R 4)) := MJ.out.cell 0
                have y1 : wr.cell? ⟨rg, R 3 * 2 + 1, none⟩ = some (.int .i32 (lk Lc R 4 (R 3))) := TJ.out.cell (i := R 3) (j := 1) hR3 (by omega)
                have y0 : wr.cell? ⟨rg, R 3 * 2, none⟩ = some (dv (dk D R 4 (R 3))) := TJ.out.cell (i := R 3) (j := 0) hR3 (by omega)
                have z1 : wr.frozen? ⟨rg, R 3 * 2 + 1, none⟩ = false := TJ.out.frozen _
                have z0 : wr.frozen? ⟨rg, R 3 * 2, none⟩ = false := TJ.out.frozen _
                have hx1 : rg < wr.heap.size := TJ.out.lt
                have hx2 : wc.heap.size < wr.heap.size := MJ.out.lt
                have n1 : ¬ rg = wr.heap.size := by omega
                have n2 : ¬ wr.heap.size = rg := by omega
                have n3 : ¬ wc.heap.size = wr.heap.size := by omega
                have n4 : ¬ wr.heap.size = wc.heap.size := by omega
                have n5 : ¬ g = wr.heap.size := by omega
                have n6 : ¬ wr.heap.size = g := by omega
                have n7 : ¬ w.heap.size = wr.heap.size := by omega
                have n8 : ¬ wr.heap.size = w.heap.size := by omega
                have START := Lib.hid (show FQ g rg w.heap.size wc.heap.size (R 3) im ks kl (ml Lc R 4) wr.drew from ⟨c70, c72, r0, r1, m0, by rw [show wr.drew.cell? ⟨rg, R 3 * 2, none⟩ = _ from y0]; rfl, by rw [show wr.drew.cell? ⟨rg, R 3 * 2 + 1, none⟩ = _ from y1]; rfl, z0, z1⟩)
                have AL := Lib.hid (fun (ob : Obj) => show FQ g rg w.heap.size wc.heap.size (R 3) im ks kl (ml Lc R 4) (wr.alloc ob).drew from START.out.step ((Below.refl _ _).alloc (Nat.le_refl _) ob))
                have PU := Lib.hid (fun (ob : Obj) (v1 v2 : Value) => show FQ g rg w.heap.size wc.heap.size (R 3) im ks kl (ml Lc R 4) (((wr.setCell ⟨rg, R 3 * 2, none⟩ v1).setCell ⟨rg, R 3 * 2 + 1, none⟩ v2).alloc ob).drew from FQ.step (w2 := (((wr.setCell ⟨rg, R 3 * 2, none⟩ v1).setCell ⟨rg, R 3 * 2 + 1, none⟩ v2).alloc ob).drew) (START.out.put hg (by omega) (by omega) v1 v2) ((Below.refl _ _).alloc (Nat.le_refl _) ob))
                go_wp2_with fail
                go_region_held3 (fun w' => w'.cell? ⟨g, 70, none⟩ = some (.int .u32 ((R 3 : Nat) : Int)) ∧ w'.cell? ⟨g, 72, none⟩ = some (.bool im) ∧ w'.cell? ⟨w.heap.size, 0, none⟩ = some (.int .i32 ks) ∧ w'.cell? ⟨w.heap.size, 1, none⟩ = some (.int .i32 kl) ∧ w'.cell? ⟨wc.heap.size, 0, none⟩ = some (.int .i32 (ml Lc R 4)) ∧ (w'.cell? ⟨rg, R 3 * 2, none⟩).isSome = true ∧ (w'.cell? ⟨rg, R 3 * 2 + 1, none⟩).isSome = true ∧ w'.frozen? ⟨rg, R 3 * 2, none⟩ = false ∧ w'.frozen? ⟨rg, R 3 * 2 + 1, none⟩ = false)
                  (first | assumption | exact START.out | exact AL.out _ | exact PU.out _ _ _)
                  (first | fail)
                have TF := Lib.hid (rc_last TJ.out hR3 wr.heap.size)
                go_wp2_with fail
                refine bodyPost_end (results_none rfl _ _ _) rfl ?_
                have KF := Lib.hid (kalloc ((KJ.out.setCell (R 3 * 2) (.iface 25 (.pointer (some ⟨wr.heap.size, 0, none⟩)))).setCell (R 3 * 2 + 1) (.int .i32 (ml Lc R 4))) (.cells #[.string ⟨#[98, 111, 114, 100, 101, 114, 45, 114, 97, 100, 105, 117, 115]⟩, .slice (some ⟨tq, 0, none⟩) L cp, .int .i32 ks, .int .i32 kl, .int .u16 66, .bool im] 40))
                have NB := Lib.hid (Blk.new ((wr.setCell ⟨rg, R 3 * 2, none⟩ (.iface 25 (.pointer (some ⟨wr.heap.size, 0, none⟩)))).setCell ⟨rg, R 3 * 2 + 1, none⟩ (.int .i32 (ml Lc R 4))) 40 #[.string ⟨#[98, 111, 114, 100, 101, 114, 45, 114, 97, 100, 105, 117, 115]⟩, .slice (some ⟨tq, 0, none⟩) L cp, .int .i32 ks, .int .i32 kl, .int .u16 66, .bool im])
                have W0s := WB2.out.size
                have W1s := BK.out.size
                have W2s := KJ.out.size
                exact ⟨rfl, wr.heap.size, L, tq, cp, (TF.out.alloc _).drew, Blk.drew (by simpa using NB.out), by rw [HCC.out.1, HCC.out.2.1, HCC.out.2.2]; exact HGV.out.keep KF.out.drew htg, (BK.out.next BK.out.size WB2.out).trans (KF.out.drew.mono (by omega)), by omega⟩
end Go.Proofs.YtnolnlekdlfeaaaDoor.ZT

/- zzB1Text, zzB1Kind and zzB1Build. -/
import Derived.Test.YtajkdjheoefbcaaFmtZc
import Derived.Laws.IdiomStrings
namespace Go.Proofs.YtajkdjheoefbcaaFmt.ZA
open Go.RowKit Go.Proofs.YtajkdjheoefbcaaFmt.TB Go.Proofs.YtajkdjheoefbcaaFmt.OW Go.Proofs.YtajkdjheoefbcaaFmt.PL
set_option linter.unusedVariables false
def txtL (k : Nat) : List UInt8 :=
  if k = 0 then [32] else if k = 1 then [99, 111, 108, 111, 114] else if k = 2 then [45, 45, 97] else if k = 3 then [58] else if k = 4 then [59] else if k = 5 then [102, 40] else if k = 6 then [40] else if k = 7 then [41] else if k = 8 then [91] else if k = 9 then [93] else if k = 10 then [123] else if k = 11 then [125] else if k = 12 then [44] else if k = 13 then [105, 109, 112, 111, 114, 116, 97, 110, 116] else [33]
def txt (k : Nat) : ByteArray := ⟨(txtL k).toArray⟩
def kd (k : Nat) : Int :=
  if k = 0 then 38 else if k = 1 then 29 else if k = 2 then 29 else if k = 3 then 9 else if k = 4 then 35 else if k = 5 then 27 else if k = 6 then 33 else if k = 7 then 8 else if k = 8 then 32 else if k = 9 then 7 else if k = 10 then 31 else if k = 11 then 6 else if k = 12 then 10 else if k = 13 then 29 else 19
theorem fifteen {k : Nat} (h : k < 15) : k = 0 ∨ k = 1 ∨ k = 2 ∨ k = 3 ∨ k = 4 ∨ k = 5 ∨ k = 6 ∨ k = 7 ∨ k = 8 ∨ k = 9 ∨ k = 10 ∨ k = 11 ∨ k = 12 ∨ k = 13 ∨ k = 14 := by omega
theorem txt_len (k : Nat) : 1 ≤ (txtL k).length ∧ (txtL k).length ≤ 9 := by
  by_cases h : k < 15
  · rcases fifteen h with rfl | rfl | rfl | rfl | rfl | rfl | rfl | rfl | rfl | rfl | rfl | rfl | rfl | rfl | rfl <;> decide
  · have e : txtL k = [33] := by
      unfold txtL
      rw [if_neg (by omega), if_neg (by omega), if_neg (by omega), if_neg (by omega), if_neg (by omega), if_neg (by omega), if_neg (by omega), if_neg (by omega), if_neg (by omega), if_neg (by omega), if_neg (by omega), if_neg (by omega), if_neg (by omega), if_neg (by omega)]
    rw [e]; decide
theorem txt_size (k : Nat) : (txt k).size = (txtL k).length := by simp [txt, ByteArray.size]
set_option maxRecDepth 100000 in
theorem text (k : Nat) (w : World) (h : k < 15) : Calls Tryf.prog 18 #[.int .i64 k] w fun e w' => e = .returned (.string (txt k)) ∧ w = w' := by
  rcases fifteen h with rfl | rfl | rfl | rfl | rfl | rfl | rfl | rfl | rfl | rfl | rfl | rfl | rfl | rfl | rfl
  all_goals
    clear h
    go_enter Tryf.func18, Tryf.ntmps18
    go_wp2
    go_ret
    exact ⟨rfl, rfl⟩
set_option maxRecDepth 100000 in
theorem kind (k : Nat) (w : World) (h : k < 15) : Calls Tryf.prog 11 #[.int .i64 k] w fun e w' => e = .returned (.int .u8 (kd k)) ∧ w = w' := by
  rcases fifteen h with rfl | rfl | rfl | rfl | rfl | rfl | rfl | rfl | rfl | rfl | rfl | rfl | rfl | rfl | rfl
  all_goals
    clear h
    go_enter Tryf.func11, Tryf.ntmps11
    go_wp2
    go_ret
    exact ⟨rfl, rfl⟩
/-- The text of the tokens below i. -/
def allT (z : Nat → Int) (i : Nat) : List UInt8 := (List.range i).flatMap (fun j => txtL (kl z j))
theorem allT_succ (z : Nat → Int) (i : Nat) : allT z (i + 1) = allT z i ++ txtL (kl z i) := by simp [allT, List.range_succ]
theorem allT_len (z : Nat → Int) (i : Nat) : (allT z i).length ≤ 9 * i := by
  induction i with
  | zero => simp [allT]
  | succ i ih =>
    rw [allT_succ, List.length_append]
    have := (txt_len (kl z i)).2
    omega
theorem allT_add (z : Nat → Int) (i m : Nat) : ∃ r, allT z (i + m) = allT z i ++ r := by
  induction m with
  | zero => exact ⟨[], by simp⟩
  | succ m ih => obtain ⟨r, hr⟩ := ih; exact ⟨r ++ txtL (kl z (i + m)), by rw [← Nat.add_assoc, allT_succ, hr, List.append_assoc]⟩
/-- From a token's start on: its own text, then the rest. -/
theorem allT_at (z : Nat → Int) (i n : Nat) (h : i < n) : ∃ r, allT z n = allT z i ++ (txtL (kl z i) ++ r) := by
  obtain ⟨r, hr⟩ := allT_add z (i + 1) (n - (i + 1))
  refine ⟨r, ?_⟩
  rw [show i + 1 + (n - (i + 1)) = n by omega] at hr
  rw [hr, allT_succ, List.append_assoc]
def bv (l : List UInt8) : List Value := l.map fun b => .int .u8 (b.toNat : Int)
theorem bv_len (l : List UInt8) : (bv l).length = l.length := by simp [bv]
theorem bv_snoc (l : List UInt8) (b : UInt8) : bv l ++ [Value.int .u8 (b.toNat : Int)] = bv (l ++ [b]) := by simp [bv]
/-- A token's cells. -/
def tk (z : Nat → Int) : Nat → Nat → Value := fun i j => #[Value.int .i32 ((allT z i).length : Nat), .int .i32 ((txtL (kl z i)).length : Nat), .int .u16 0, .int .u8 (kd (kl z i)), .int .u8 0][j]!
def tkp (z : Nat → Int) (k : Nat) : Nat → Nat → Value := fun i j => if i < k then tk z i j else #[Value.int .i32 0, .int .i32 0, .int .u16 0, .int .u8 0, .int .u8 0][j]!
theorem five {j : Nat} (h : j < 5) : j = 0 ∨ j = 1 ∨ j = 2 ∨ j = 3 ∨ j = 4 := by omega
theorem tk_step {w : World} {g n k : Nat} {z : Nat → Int} (h : Tab w g 48 5 n (tkp z k)) (hk : k < n) :
    Tab (((((w.setCell ⟨g, k * 5, none⟩ (.int .i32 ((allT z k).length : Nat))).setCell ⟨g, k * 5 + 1, none⟩ (.int .i32 ((txtL (kl z k)).length : Nat))).setCell ⟨g, k * 5 + 2, none⟩ (.int .u16 0)).setCell ⟨g, k * 5 + 3, none⟩ (.int .u8 (kd (kl z k)))).setCell ⟨g, k * 5 + 4, none⟩ (.int .u8 0)) g 48 5 n (tkp z (k + 1)) := by
  refine (((((h.set hk (j := 0) (by omega) (.int .i32 ((allT z k).length : Nat))).set hk (j := 1) (by omega) (.int .i32 ((txtL (kl z k)).length : Nat))).set hk (j := 2) (by omega) (.int .u16 0)).set hk (j := 3) (by omega) (.int .u8 (kd (kl z k)))).set hk (j := 4) (by omega) (.int .u8 0)).ext fun i j hi hj => ?_
  by_cases e : i = k
  · subst e
    rcases five hj with rfl | rfl | rfl | rfl | rfl <;> simp [upd, tkp, tk]
  · have e1 : (i < k + 1) = (i < k) := by simp; omega
    simp [upd, tkp, e, e1]
theorem info44 : (Tryf.prog.info? 48).map (fun i => (i.zero, i.size, i.bytes)) = some (some (.agg #[.int .i32 0, .int .i32 0, .int .u16 0, .int .u8 0, .int .u8 0]), 5, 12) := by kernel_rfl
theorem bld36 (x : Int) (w : World) : (Instr.build 42 #[(0, .int .i32 x)]).run Tryf.prog w = .ok (.agg #[.int .i32 x]) w := run_build w 42 _ _ (by kernel_rfl)
theorem bld38 (x y : Int) (w : World) : (Instr.build 44 #[(0, .agg #[.int .i32 x]), (1, .int .i32 y)]).run Tryf.prog w = .ok (.agg #[.int .i32 x, .int .i32 y]) w := run_build w 44 _ _ (by kernel_rfl)
theorem bld44 (x y k : Int) (w : World) : (Instr.build 48 #[(0, .agg #[.int .i32 x, .int .i32 y]), (2, .int .u8 k)]).run Tryf.prog w = .ok (.agg #[.int .i32 x, .int .i32 y, .int .u16 0, .int .u8 k, .int .u8 0]) w := run_build w 48 _ _ (by kernel_rfl)
end Go.Proofs.YtajkdjheoefbcaaFmt.ZA

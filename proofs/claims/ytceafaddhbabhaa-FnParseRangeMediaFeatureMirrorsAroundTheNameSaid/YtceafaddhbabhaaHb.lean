/- scanMediaValue in one, isSingleIdent, Dir. -/
import Derived.Test.YtceafaddhbabhaaHt
namespace Go.Proofs.Ytceafaddhbabhaa.ZT
open Go.RowKit Go.Proofs.Ytceafaddhbabhaa.TB
set_option linter.unusedVariables false
/-- How many tokens the value at i takes, of n that are left. -/
def vlen (n i : Nat) (K : Nat → Int) : Nat :=
  if n = 0 then 0 else if K i = 26 then 1 else if K i = 29 then 1 else if K i = 30 then (if 3 ≤ n ∧ K (i + 1) = 24 ∧ K (i + 2) = 30 then 3 else 1) else 0
theorem beqF {a b : Int} (h : ¬ a = b) : (a == b) = false := by rw [beq_eq_false_iff_ne]; exact h
theorem beqT {a b : Int} (h : a = b) : (a == b) = true := by rw [beq_iff_eq]; exact h
theorem sv_any (g i n c : Nat) (K : Nat → Int) (T : Nat → ByteArray) (W L : Nat → Int) (w : World) (N : Nat) (hN : i + n ≤ N) (h : Tap w g 34 7 N (tc K T W L)) (hn : 1 ≤ n) (hc : n ≤ c) (hM : c ≤ 9223372036854775807) :
    Calls Try.prog 33 #[.slice (some ⟨g, i * 7, none⟩) n c] w (SVP g i n c (vlen n i K) N K T W L w) := by
  unfold vlen
  rw [if_neg (by omega)]
  by_cases a : K i = 26
  · rw [if_pos a]; exact sv1d g i c n K T W L w N hN h hc hM hn (beqT a)
  rw [if_neg a]
  by_cases b : K i = 29
  · rw [if_pos b]; exact sv1i g i c n K T W L w N hN h hc hM hn (beqF a) (beqT b)
  rw [if_neg b]
  by_cases d : K i = 30
  · rw [if_pos d]
    by_cases h3 : 3 ≤ n
    · by_cases x : K (i + 1) = 24
      · by_cases y : K (i + 2) = 30
        · rw [if_pos ⟨h3, x, y⟩]; exact sv3 g i c n K T W L w N hN h hc hM h3 (beqF a) (beqF b) (beqT d) (beqT x) (beqT y)
        · rw [if_neg (fun q => y q.2.2)]; exact sv1nb g i c n K T W L w N hN h hc hM h3 (beqF a) (beqF b) (beqT d) (beqT x) (beqF y)
      · rw [if_neg (fun q => x q.2.1)]; exact sv1na g i c n K T W L w N hN h hc hM h3 (beqF a) (beqF b) (beqT d) (beqF x)
    · rw [if_neg (fun q => h3 q.1)]; exact sv1n g i c n K T W L w N hN h hc hM hn (by omega) (beqF a) (beqF b) (beqT d)
  · rw [if_neg d]; exact sv0 g i c n K T W L w N hN h hc hM hn (beqF a) (beqF b) (beqF d)
/-- No token left. -/
def SV0 (w : World) (e : Ending) (w' : World) : Prop := ∃ X Y x y, e = .returned (.tuple #[.slice X 0 x, .slice Y 0 y]) ∧ Below w.heap.size w w'
set_option maxRecDepth 100000 in
theorem sv_none (A : Option Addr) (c : Nat) (w : World) (hM : c ≤ 9223372036854775807) : Calls Try.prog 33 #[.slice A 0 c] w (SV0 w) := by
  have q0 : (0 : Int) ≤ (c : Int) := by omega
  go_enter Try.func33, Try.ntmps33
  go_wp2
  go_quiet (fail)
  go_wp2
  all_goals
    go_ret2
    exact ⟨_, _, _, _, rfl, by first | exact below_drewN (Below.refl _ _) _ | exact Below.refl _ _⟩
/-- A single identifier's answer. -/
def SG (n : Nat) (K : Nat → Int) (T : Nat → ByteArray) (L : Nat → Int) (w : World) (e : Ending) (w' : World) : Prop :=
  ((n = 1 ∧ K 0 = 29 ∧ e = .returned (.tuple #[.string (T 0), .agg #[.int .i32 (L 0)], .bool true])) ∨ (¬ (n = 1 ∧ K 0 = 29) ∧ e = .returned (.tuple #[.string ⟨#[]⟩, .agg #[.int .i32 0], .bool false]))) ∧ Below w.heap.size w w'
set_option maxRecDepth 100000 in
theorem single_no (A : Option Addr) (n c : Nat) (K : Nat → Int) (T : Nat → ByteArray) (L : Nat → Int) (w : World) (h : n ≠ 1) (hn : n ≤ 16384) : Calls Try.prog 34 #[.slice A n c] w (SG n K T L w) := by
  have q0 : ((n : Int) == 1) = false := by rw [beq_eq_false_iff_ne]; omega
  have B0 := Lib.hid (fun o => show Below w.heap.size w (w.alloc o) from (Below.refl _ _).alloc (Nat.le_refl _) _)
  have HG := Lib.hid (show ¬ (n = 1 ∧ K 0 = 29) by omega)
  clear h
  go_enter Try.func34, Try.ntmps34
  go_wp2
  refine bodyPost_ret (v := .tuple #[.string ⟨#[]⟩, .agg #[.int .i32 0], .bool false]) (by simp [results, Try.results34, go_sem]; done) rfl ?_
  exact ⟨.inr ⟨HG.out, rfl⟩, B0.out _⟩
set_option maxRecDepth 100000 in
theorem single_k (b o c : Nat) (K : Nat → Int) (T : Nat → ByteArray) (L : Nat → Int) (w : World) (h : K 0 ≠ 29) (hc : 1 ≤ c) (hb : b < w.heap.size) (h5 : w.cell? ⟨b, o + 5, none⟩ = some (.int .u8 (K 0))) : Calls Try.prog 34 #[.slice (some ⟨b, o, none⟩) 1 c] w (SG 1 K T L w) := by
  have q0 : ((K 0 : Int) == 29) = false := by rw [beq_eq_false_iff_ne]; exact h
  have B0 := Lib.hid (fun o => show Below w.heap.size w (w.alloc o) from (Below.refl _ _).alloc (Nat.le_refl _) _)
  have HG := Lib.hid h
  have ne : ¬ b = w.heap.size := by omega
  clear h
  go_enter Try.func34, Try.ntmps34
  go_wp2
  refine bodyPost_ret (v := .tuple #[.string ⟨#[]⟩, .agg #[.int .i32 0], .bool false]) (by simp [results, Try.results34, go_sem]; done) rfl ?_
  exact ⟨.inr ⟨fun h => HG.out h.2, rfl⟩, B0.out _⟩
set_option maxRecDepth 100000 in
theorem single_yes (b o c : Nat) (K : Nat → Int) (T : Nat → ByteArray) (L : Nat → Int) (w : World) (h : K 0 = 29) (hc : 1 ≤ c) (hb : b < w.heap.size) (h5 : w.cell? ⟨b, o + 5, none⟩ = some (.int .u8 (K 0))) (h1 : w.cell? ⟨b, o + 1, none⟩ = some (.string (T 0))) (h2 : w.cell? ⟨b, o + 2, none⟩ = some (.int .i32 (L 0))) :
    Calls Try.prog 34 #[.slice (some ⟨b, o, none⟩) 1 c] w (SG 1 K T L w) := by
  have q0 : ((K 0 : Int) == 29) = true := by rw [beq_iff_eq]; exact h
  have B1 := Lib.hid (fun o => show Below w.heap.size w (w.alloc o) from (Below.refl _ _).alloc (Nat.le_refl _) _)
  have HG := Lib.hid h
  have ne : ¬ b = w.heap.size := by omega
  have ne2 : ¬ w.heap.size = b := by omega
  clear h
  go_enter Try.func34, Try.ntmps34
  go_wp2
  go_region
  go_wp2
  refine bodyPost_ret (v := .tuple #[.string (T 0), .agg #[.int .i32 (L 0)], .bool true]) (by simp [results, Try.results34, go_sem]; done) rfl ?_
  exact ⟨.inl ⟨rfl, HG.out, rfl⟩, by first | exact (B1.out _).drew | exact B1.out _⟩
theorem single_any (A : Option Addr) (n c : Nat) (K : Nat → Int) (T : Nat → ByteArray) (W L : Nat → Int) (w : World) (r : TR w A n (tc K T W L)) (hc : n ≤ c) (hn : n ≤ 16384) : Calls Try.prog 34 #[.slice A n c] w (SG n K T L w) := by
  by_cases h : n = 1
  · subst h
    obtain ⟨b, o, rfl, hb, hf⟩ := r (by omega)
    have h5 := hf 0 5 (by omega) (by omega)
    have h1 := hf 0 1 (by omega) (by omega)
    have h2 := hf 0 2 (by omega) (by omega)
    simp only [Nat.zero_mul, Nat.add_zero] at h5 h1 h2
    by_cases hk : K 0 = 29
    · exact single_yes b o c K T L w hk hc hb h5 h1 h2
    · exact single_k b o c K T L w hk hc hb h5
  · exact single_no A n c K T L w h hn
end Go.Proofs.Ytceafaddhbabhaa.ZT

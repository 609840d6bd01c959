/- zzBuildSimple of n011_210, walked. -/
import Derived.Test.YtdonfahjcejhpaaMa
namespace Go.Proofs.Ytdonfahjcejhpaa.MG
open Go.RowKit Go.Proofs.Ytdonfahjcejhpaa.TB
set_option linter.unusedVariables false
/-- A slice of strings that came in. -/
def Strs (w : World) (A : Option Addr) (n : Nat) (S : Nat → ByteArray) : Prop :=
  0 < n → ∃ b o, A = some ⟨b, o, none⟩ ∧ b < w.heap.size ∧ ∀ i, i < n → w.cell? ⟨b, o + i, none⟩ = some (.string (S i))
theorem Strs.below {w w' : World} {A : Option Addr} {n : Nat} {S : Nat → ByteArray} (h : Strs w A n S) (hb : Below w.heap.size w w') : Strs w' A n S := by
  intro hn
  obtain ⟨b, o, e, hl, hc⟩ := h hn
  exact ⟨b, o, e, Nat.lt_of_lt_of_le hl hb.size, fun i hi => by rw [hb.cell hl]; exact hc i hi⟩
/-- The cells of n bare pseudo-classes. -/
def els (P : Nat → Nat) : Nat → List Value
  | 0 => []
  | k + 1 => els P k ++ [.iface 78 (.pointer (some ⟨P k, 0, none⟩)), .int .i32 0, .int .i32 0]
theorem els_len (P : Nat → Nat) (n : Nat) : (els P n).length = n * 3 := by
  induction n with
  | zero => rfl
  | succ k ih => simp [els, ih]; omega
theorem els_get (P : Nat → Nat) {n i : Nat} (h : i < n) : (els P n)[i * 3]? = some (.iface 78 (.pointer (some ⟨P i, 0, none⟩))) ∧ (els P n)[i * 3 + 1]? = some (.int .i32 0) ∧ (els P n)[i * 3 + 2]? = some (.int .i32 0) := by
  induction n with
  | zero => omega
  | succ k ih =>
    have hl := els_len P k
    by_cases e : i = k
    · subst e
      simp only [els]
      refine ⟨?_, ?_, ?_⟩ <;> rw [List.getElem?_append_right (by omega)] <;> simp [hl]
    · obtain ⟨h0, h1, h2⟩ := ih (by omega)
      simp only [els]
      refine ⟨?_, ?_, ?_⟩ <;> rw [List.getElem?_append_left (by omega)] <;> assumption
theorem els_one (P : Nat → Nat) (n : Nat) : ∀ u ∈ els P n, u.oneCell' = true := by
  induction n with
  | zero => intro u hu; cases hu
  | succ k ih =>
    intro u hu
    simp only [els, List.mem_append, List.mem_cons, List.not_mem_nil, or_false] at hu
    rcases hu with hu | rfl | rfl | rfl
    · exact ih u hu
    · rfl
    · rfl
    · rfl
theorem els_congr {P Q : Nat → Nat} {n : Nat} (h : ∀ i, i < n → P i = Q i) : els P n = els Q n := by
  induction n with
  | zero => rfl
  | succ k ih => simp only [els, ih (fun i hi => h i (by omega)), h k (by omega)]
/-- A list of bare pseudo-classes that the call has made: its names are S. -/
def Subs (base : Nat) (w : World) (v : Value) (n : Nat) (S : Nat → ByteArray) : Prop :=
  ∃ P : Nat → Nat, w.ownsRow base 68 3 v n (els P n) ∧ ∀ i, i < n → Blk w (P i) 81 #[.string (S i), .slice none 0 0, .bool false]
theorem own_ne {base e size n g : Nat} {t : TypeId} {cs : Array Value} {w : World} {v : Value} {xs : List Value} (h : w.ownsRow base e size v n xs) (hb : Blk w g t cs) (ht : t ≠ e) : v.ownBlock ≠ some g := by
  rcases h.2 with ⟨rfl, -⟩ | ⟨g', cap, cur, rfl, -, hg, -⟩
  · intro h; cases h
  · intro h
    simp only [Value.ownBlock, Option.some.injEq] at h
    subst h
    unfold Blk at hb
    rw [hb] at hg
    simp only [Option.some.injEq, Obj.cells.injEq] at hg
    exact ht hg.2.1
theorem own_below {base e size n : Nat} {w w' : World} {v : Value} {xs : List Value} (h : w.ownsRow base e size v n xs) (hb : Below w.heap.size w w') : w'.ownsRow base e size v n xs := by
  obtain ⟨h1, h2⟩ := h
  refine ⟨h1, ?_⟩
  rcases h2 with h2 | ⟨g, cap, cur, e1, e2, e3, e4⟩
  · exact .inl h2
  · exact .inr ⟨g, cap, cur, e1, e2, (hb.block g (Array.getElem?_eq_some_iff.1 e3).1).trans e3, e4⟩
theorem own_far {base e size n : Nat} {w : World} {v : Value} {xs : List Value} (h : w.ownsRow base e size v n xs) {p : Addr} (hp : v.ownBlock ≠ some p.block) (u : Value) : (w.setCell p u).ownsRow base e size v n xs := by
  obtain ⟨h1, h2⟩ := h
  refine ⟨h1, ?_⟩
  rcases h2 with h2 | ⟨g, cap, cur, rfl, e2, e3, e4⟩
  · exact .inl h2
  · exact .inr ⟨g, cap, cur, rfl, e2, (Below.heap_setCell w p u g (fun e => hp (by simp [Value.ownBlock, e]))).trans e3, e4⟩
section
variable {base n : Nat} {w w' : World} {v : Value} {S : Nat → ByteArray}
theorem Subs.nil (base : Nat) (w : World) (S : Nat → ByteArray) : Subs base w (.slice none 0 0) 0 S := ⟨fun _ => 0, World.ownsRow_nil _ _ _ _, fun i h => absurd h (by omega)⟩
theorem Subs.below (h : Subs base w v n S) (hb : Below w.heap.size w w') : Subs base w' v n S := by
  obtain ⟨P, h1, h2⟩ := h
  exact ⟨P, own_below h1 hb, fun i hi => (h2 i hi).below hb (h2 i hi).lt⟩
theorem Subs.far (h : Subs base w v n S) {g o : Nat} {cs : Array Value} {t : TypeId} (hb : Blk w g t cs) (h1 : t ≠ 68) (h2 : t ≠ 81) (u : Value) : Subs base (w.setCell ⟨g, o, none⟩ u) v n S := by
  obtain ⟨P, k1, k2⟩ := h
  refine ⟨P, own_far k1 (own_ne k1 hb h1) u, fun i hi => (k2 i hi).far (fun e => ?_) u⟩
  have := k2 i hi
  simp only at e
  unfold Blk at this hb
  rw [e, hb] at this
  simp only [Option.some.injEq, Obj.cells.injEq] at this
  exact h2 this.2.1
end
end Go.Proofs.Ytdonfahjcejhpaa.MG

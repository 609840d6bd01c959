/- Polynomials with rational coefficients on an interval: lower bounds by the kernel. Of no program. -/
namespace Go.Proofs.Ytekideiinifffaa.PO
def ev : List Rat → Rat → Rat
  | [], _ => 0
  | c :: p, u => c + u * ev p u
def addL : List Rat → List Rat → List Rat
  | [], q => q
  | c :: p, [] => c :: p
  | c :: p, d :: q => (c + d) :: addL p q
def scl (m : Rat) (p : List Rat) : List Rat := p.map (m * ·)
def mulL : List Rat → List Rat → List Rat
  | [], _ => []
  | c :: p, q => addL (scl c q) (0 :: mulL p q)
def shift (m : Rat) : List Rat → List Rat
  | [] => []
  | c :: p => addL [c] (addL (scl m (shift m p)) (0 :: shift m p))
def ab (c : Rat) : Rat := if c < 0 then -c else c
def absB : List Rat → Rat → Rat
  | [], _ => 0
  | c :: p, r => ab c + r * absB p r
theorem ev_add : ∀ (p q : List Rat) (u : Rat), ev (addL p q) u = ev p u + ev q u
  | [], q, u => by simp only [addL, ev]; grind
  | c :: p, [], u => by simp only [addL, ev]; grind
  | c :: p, d :: q, u => by
    simp only [addL, ev]
    rw [ev_add p q u]
    grind
theorem ev_scl (m : Rat) : ∀ (p : List Rat) (u : Rat), ev (scl m p) u = m * ev p u
  | [], u => by simp [scl, ev]
  | c :: p, u => by
    have := ev_scl m p u
    simp only [scl, List.map_cons, ev] at this ⊢
    rw [this]
    grind
theorem ev_mul : ∀ (p q : List Rat) (u : Rat), ev (mulL p q) u = ev p u * ev q u
  | [], q, u => by simp [mulL, ev]
  | c :: p, q, u => by
    simp only [mulL, ev]
    rw [ev_add, ev_scl]
    simp only [ev]
    rw [ev_mul p q u]
    grind
theorem ev_shift (m : Rat) : ∀ (p : List Rat) (d : Rat), ev (shift m p) d = ev p (m + d)
  | [], d => by simp [shift, ev]
  | c :: p, d => by
    simp only [shift]
    rw [ev_add, ev_add, ev_scl]
    simp only [ev]
    rw [ev_shift m p d]
    grind
theorem ab_nn (c : Rat) : 0 ≤ ab c := by unfold ab; split <;> grind
theorem absB_nn (r : Rat) (hr : 0 ≤ r) : ∀ p : List Rat, 0 ≤ absB p r
  | [] => by simp [absB]
  | c :: p => by
    simp only [absB]
    have h1 := ab_nn c
    have h2 := Rat.mul_nonneg hr (absB_nn r hr p)
    grind
theorem ev_abs (r d : Rat) (h1 : -r ≤ d) (h2 : d ≤ r) : ∀ p : List Rat, -absB p r ≤ ev p d ∧ ev p d ≤ absB p r
  | [] => by simp [absB, ev]
  | c :: p => by
    simp only [absB, ev]
    obtain ⟨a, b⟩ := ev_abs r d h1 h2 p
    have hr : 0 ≤ r := by grind
    have hn := absB_nn r hr p
    have k1 : -(r * absB p r) ≤ d * ev p d ∧ d * ev p d ≤ r * absB p r := by
      have x1 := Rat.mul_nonneg (show 0 ≤ r - d by grind) (show 0 ≤ absB p r - ev p d by grind)
      have x2 := Rat.mul_nonneg (show 0 ≤ r + d by grind) (show 0 ≤ absB p r + ev p d by grind)
      have x3 := Rat.mul_nonneg (show 0 ≤ r - d by grind) (show 0 ≤ absB p r + ev p d by grind)
      have x4 := Rat.mul_nonneg (show 0 ≤ r + d by grind) (show 0 ≤ absB p r - ev p d by grind)
      constructor <;> grind
    have k2 : -ab c ≤ c ∧ c ≤ ab c := by unfold ab; split <;> constructor <;> grind
    constructor <;> grind
/-- A lower bound about m, at most r away. -/
def low (p : List Rat) (m r : Rat) : Rat := match shift m p with
  | [] => 0
  | c :: q => c - r * absB q r
theorem low_le (p : List Rat) (m r d : Rat) (h1 : -r ≤ d) (h2 : d ≤ r) : low p m r ≤ ev p (m + d) := by
  rw [← ev_shift]
  unfold low
  cases h : shift m p with
  | nil => simp [ev]
  | cons c q =>
    have := ev_abs r d h1 h2 (0 :: q)
    simp only [absB, ev, ab] at this ⊢
    have h0 : (if (0 : Rat) < 0 then -(0 : Rat) else 0) = 0 := by simp
    rw [h0] at this
    grind
/-- n pieces of length h from a on. -/
def cover (p : List Rat) (a h : Rat) : Nat → Bool
  | 0 => true
  | n + 1 => decide (0 ≤ low p (a + h / 2) (h / 2)) && cover p (a + h) h n
theorem cover_le (p : List Rat) (h : Rat) (hh : 0 < h) : ∀ (n : Nat) (a : Rat), cover p a h n = true → 0 < n → ∀ u, a ≤ u → u ≤ a + n * h → 0 ≤ ev p u
  | 0, a, _, hn, _, _, _ => absurd hn (by omega)
  | n + 1, a, hc, _, u, h1, h2 => by
    simp only [cover, Bool.and_eq_true, decide_eq_true_eq] at hc
    by_cases hu : u ≤ a + h
    · have := low_le p (a + h / 2) (h / 2) (u - (a + h / 2)) (by grind) (by grind)
      rw [show a + h / 2 + (u - (a + h / 2)) = u by grind] at this
      grind
    · have h3 : ((n + 1 : Nat) : Rat) = (n : Rat) + 1 := by exact_mod_cast rfl
      rw [h3] at h2
      by_cases hn : 0 < n
      · exact cover_le p h hh n (a + h) hc.2 hn u (by grind) (by grind)
      · have : n = 0 := by omega
        subst this
        exfalso
        have : ((0 : Nat) : Rat) = 0 := rfl
        rw [this] at h2
        grind
end Go.Proofs.Ytekideiinifffaa.PO

/- Polynomials as lists of rational coefficients, low to high: values, products, bounds. Of no program. -/
import Derived.Handy
namespace Go.Proofs.YtnkpcjmmingkkaaDoor.PL
/-- The value. -/
def ev : List Rat → Rat → Rat
  | [], _ => 0
  | c :: p, x => c + x * ev p x
def add : List Rat → List Rat → List Rat
  | [], q => q
  | a :: p, [] => a :: p
  | a :: p, b :: q => (a + b) :: add p q
def smul (k : Rat) : List Rat → List Rat
  | [] => []
  | a :: p => (k * a) :: smul k p
def mul : List Rat → List Rat → List Rat
  | [], _ => []
  | a :: p, q => add (smul a q) (0 :: mul p q)
def sub (p q : List Rat) : List Rat := add p (smul (-1) q)
/-- p of q. -/
def comp : List Rat → List Rat → List Rat
  | [], _ => []
  | a :: p, q => add [a] (mul q (comp p q))
def ab (c : Rat) : Rat := if c < 0 then -c else c
/-- What a value is at most, where the argument is at most r. -/
def bd : List Rat → Rat → Rat
  | [], _ => 0
  | c :: p, r => ab c + r * bd p r
/-- How much a value moves. -/
def lip : List Rat → Rat → Rat
  | [], _ => 0
  | _ :: p, r => bd p r + r * lip p r
theorem ev_add : ∀ (p q : List Rat) (x : Rat), ev (add p q) x = ev p x + ev q x
  | [], q, x => by simp [add, ev, Rat.zero_add]
  | a :: p, [], x => by simp [add, ev, Rat.add_zero]
  | a :: p, b :: q, x => by simp only [add, ev, ev_add p q x]; grind
theorem ev_smul (k : Rat) : ∀ (p : List Rat) (x : Rat), ev (smul k p) x = k * ev p x
  | [], x => by simp [smul, ev, Rat.mul_zero]
  | a :: p, x => by simp only [smul, ev, ev_smul k p x]; grind
theorem ev_mul : ∀ (p q : List Rat) (x : Rat), ev (mul p q) x = ev p x * ev q x
  | [], q, x => by simp [mul, ev, Rat.zero_mul]
  | a :: p, q, x => by simp only [mul, ev, ev_add, ev_smul, ev_mul p q x]; grind
theorem ev_sub (p q : List Rat) (x : Rat) : ev (sub p q) x = ev p x - ev q x := by
  unfold sub; rw [ev_add, ev_smul]; grind
theorem ev_comp : ∀ (p q : List Rat) (x : Rat), ev (comp p q) x = ev p (ev q x)
  | [], q, x => by simp [comp, ev]
  | a :: p, q, x => by simp only [comp, ev, ev_add, ev_mul, ev_comp p q x]; grind
theorem ab_le (c : Rat) : -ab c ≤ c ∧ c ≤ ab c ∧ 0 ≤ ab c := by
  unfold ab
  split <;> grind
theorem mul_ab {x d X E : Rat} (h1 : -X ≤ x) (h2 : x ≤ X) (h3 : -E ≤ d) (h4 : d ≤ E) : -(X * E) ≤ x * d ∧ x * d ≤ X * E := by
  have a := Rat.mul_nonneg (show 0 ≤ X - x by grind) (show 0 ≤ E - d by grind)
  have b := Rat.mul_nonneg (show 0 ≤ X + x by grind) (show 0 ≤ E + d by grind)
  have c := Rat.mul_nonneg (show 0 ≤ X - x by grind) (show 0 ≤ E + d by grind)
  have e := Rat.mul_nonneg (show 0 ≤ X + x by grind) (show 0 ≤ E - d by grind)
  constructor <;> grind
theorem bd_nn {r : Rat} (hr : 0 ≤ r) : ∀ p : List Rat, 0 ≤ bd p r
  | [] => by simp [bd]
  | c :: p => by
    have := Rat.mul_nonneg hr (bd_nn hr p)
    have := (ab_le c).2.2
    simp only [bd]; grind
theorem ev_bd {r x : Rat} (h1 : -r ≤ x) (h2 : x ≤ r) : ∀ p : List Rat, -bd p r ≤ ev p x ∧ ev p x ≤ bd p r
  | [] => by simp [bd, ev]
  | c :: p => by
    have ih := ev_bd h1 h2 p
    have m := mul_ab h1 h2 ih.1 ih.2
    have a := ab_le c
    simp only [bd, ev]
    constructor <;> grind
theorem lip_nn {r : Rat} (hr : 0 ≤ r) : ∀ p : List Rat, 0 ≤ lip p r
  | [] => by simp [lip]
  | c :: p => by
    have := Rat.mul_nonneg hr (lip_nn hr p)
    have := bd_nn hr p
    simp only [lip]; grind
/-- A value moves by no more than lip times the argument. -/
theorem ev_lip {r a b e : Rat} (a1 : -r ≤ a) (a2 : a ≤ r) (b1 : -r ≤ b) (b2 : b ≤ r) (e1 : -e ≤ a - b) (e2 : a - b ≤ e) : ∀ p : List Rat, -(e * lip p r) ≤ ev p a - ev p b ∧ ev p a - ev p b ≤ e * lip p r
  | [] => by simp only [lip, ev]; constructor <;> grind
  | c :: p => by
    have ih := ev_lip a1 a2 b1 b2 e1 e2 p
    have v := ev_bd a1 a2 p
    have m1 := mul_ab e1 e2 v.1 v.2
    have m2 := mul_ab b1 b2 ih.1 ih.2
    have id : ev (c :: p) a - ev (c :: p) b = (a - b) * ev p a + b * (ev p a - ev p b) := by simp only [ev]; grind
    rw [id]
    simp only [lip]
    constructor <;> grind
/-- Two polynomials with near coefficients. -/
theorem near {p q : List Rat} {r e x : Rat} (h : bd (sub p q) r ≤ e) (h1 : -r ≤ x) (h2 : x ≤ r) : -e ≤ ev p x - ev q x ∧ ev p x - ev q x ≤ e := by
  have := ev_bd h1 h2 (sub p q)
  rw [ev_sub] at this
  constructor <;> grind
end Go.Proofs.YtnkpcjmmingkkaaDoor.PL

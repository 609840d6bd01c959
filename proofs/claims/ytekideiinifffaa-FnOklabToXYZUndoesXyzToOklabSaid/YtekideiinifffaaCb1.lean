/- The step of math.Cbrt: plain rational arithmetic. -/
import Derived.Test.YtekideiinifffaaFloat
import Derived.Test.YtekideiinifffaaPoly
namespace Go.Proofs.Ytekideiinifffaa.CB
open Go.Proofs.Ytekideiinifffaa.FL Go.Proofs.Ytekideiinifffaa.PO
def wC : Nat := 4603064841997850097
def cC : Rat := 4889622452573681 / 9007199254740992
theorem fC : FL.Fin wC := by unfold FL.Fin wC; decide
theorem vC : rv wC = cC := by decide +kernel
def wD : Nat := 13827900089180538932
def cD : Rat := -1588208195121677 / 2251799813685248
theorem fD : FL.Fin wD := by unfold FL.Fin wD; decide
theorem vD : rv wD = cD := by decide +kernel
def wE : Nat := 4609048195788499471
def cE : Rat := 6369376615852559 / 4503599627370496
theorem fE : FL.Fin wE := by unfold FL.Fin wE; decide
theorem vE : rv wE = cE := by decide +kernel
def wF : Nat := 4609916747145206638
def cF : Rat := 3618963986279863 / 2251799813685248
theorem fF : FL.Fin wF := by unfold FL.Fin wF; decide
theorem vF : rv wF = cF := by decide +kernel
def wG : Nat := 4600105333671292343
def cG : Rat := 6433713753386423 / 18014398509481984
theorem fG : FL.Fin wG := by unfold FL.Fin wG; decide
theorem vG : rv wG = cG := by decide +kernel
def pQ : List Rat := [cD, cE, 1]
def pN : List Rat := addL (scl cG pQ) [0, cF]
def pQ3 : List Rat := mulL pQ (mulL pQ pQ)
def pR : List Rat := mulL [-cC, 1] (mulL pN (mulL pN pN))
def pU : List Rat := addL (scl (1000001 / 1000000) pQ3) (scl (-1) pR)
def pL : List Rat := addL pR (scl (-(999999 / 1000000)) pQ3)
theorem covU : cover pU (144 / 100) (1 / 100) 23 = true := by decide +kernel
theorem covL : cover pL (144 / 100) (1 / 100) 23 = true := by decide +kernel
/-- Q and N at s. -/
def qs (s : Rat) : Rat := s * s + cE * s + cD
def ns (s : Rat) : Rat := cG * qs s + cF * s
theorem ev_q (s : Rat) : ev pQ s = qs s := by unfold pQ qs; simp only [ev]; grind
theorem ev_n (s : Rat) : ev pN s = ns s := by
  unfold pN ns
  rw [ev_add, ev_scl, ev_q]
  simp only [ev]; grind
theorem ev_r (s : Rat) : ev pR s = (s - cC) * (ns s * ns s * ns s) := by
  unfold pR
  rw [ev_mul, ev_mul, ev_mul, ev_n]
  simp only [ev]; grind
theorem ev_q3 (s : Rat) : ev pQ3 s = qs s * qs s * qs s := by
  unfold pQ3
  rw [ev_mul, ev_mul, ev_q]; grind
theorem step (s : Rat) (h1 : 144 / 100 ≤ s) (h2 : s ≤ 167 / 100) :
    999999 / 1000000 * (qs s * qs s * qs s) ≤ (s - cC) * (ns s * ns s * ns s) ∧ (s - cC) * (ns s * ns s * ns s) ≤ 1000001 / 1000000 * (qs s * qs s * qs s) := by
  have n23 : ((23 : Nat) : Rat) = 23 := rfl
  have a := cover_le pU (1 / 100) (by decide +kernel) 23 (144 / 100) covU (by omega) s h1 (by rw [n23]; grind)
  have b := cover_le pL (1 / 100) (by decide +kernel) 23 (144 / 100) covL (by omega) s h1 (by rw [n23]; grind)
  unfold pU at a
  unfold pL at b
  rw [ev_add, ev_scl, ev_scl, ev_q3, ev_r] at a
  rw [ev_add, ev_scl, ev_q3, ev_r] at b
  constructor <;> grind
end Go.Proofs.Ytekideiinifffaa.CB

/- math.xatan, satan, atan, Signbit, Copysign, walked. -/
import Derived.Test.YtnkpcjmmingkkaaDoorSa
import Derived.Test.YtnkpcjmmingkkaaDoorTrig
import Derived.Laws.Bits64b
namespace Go.Proofs.YtnkpcjmmingkkaaDoor.F64
open Go Go.RowKit Go.Lib Go.Proofs.YtnkpcjmmingkkaaDoor.FL
set_option linter.unusedVariables false
set_option maxRecDepth 100000 in
set_option maxHeartbeats 4000000 in
theorem xatanE (x x' : Nat) (he : Eqv x x') (w : World) (m : Nat) : Calls Tryd.prog 51 #[.float .f64 x] (w.drewN m) (FP (xatanT x') w) := by
  go_enter Tryd.func51, Tryd.ntmps51
  go_wp2_with (first
    | (refine wpList_fop rfl _ _ _ _ _ rfl (by first | exact .inl rfl | exact .inr (.inl rfl) | exact .inr (.inr (.inl rfl)) | exact .inr (.inr (.inr rfl))) _ _ _ _ rfl rfl (by assumption) (by first | assumption | exact Eqv.refl _) ?_; intro z' m' ez)
    | (refine wpList_fop rfl _ _ _ _ _ rfl (by first | exact .inl rfl | exact .inr (.inl rfl) | exact .inr (.inr (.inl rfl)) | exact .inr (.inr (.inr rfl))) _ _ _ _ rfl rfl (Eqv.refl _) (by assumption) ?_; intro z' m' ez))
  go_ret
  exact ⟨_, _, rfl, ez, rfl⟩
def satV (x : Nat) : Nat := if (FloatKind.f64.format.order x 4604119971053405471 == some .lt || FloatKind.f64.format.order x 4604119971053405471 == some .eq) = true then xatanT x
  else if (FloatKind.f64.format.order x 4612618744449965542 == some .gt) = true then satS (fop .quo 4607182418800017408 x) else satB x
set_option maxRecDepth 100000 in
set_option maxHeartbeats 4000000 in
theorem satanE (x : Nat) (w : World) (m : Nat) : Calls Tryd.prog 50 #[.float .f64 x] (w.drewN m) (FP (satV x) w) := by
  have EX : Eqv x x := Eqv.refl x
  obtain ⟨v, hv⟩ : ∃ v, satV x = v := ⟨_, rfl⟩
  rw [hv]
  unfold satV at hv
  cases c1 : (FloatKind.f64.format.order x 4604119971053405471 == some .lt || FloatKind.f64.format.order x 4604119971053405471 == some .eq)
  case true =>
    rw [c1, if_pos rfl] at hv
    have HV := Lib.hid hv
    clear hv
    go_enter Tryd.func50, Tryd.ntmps50
    go_wp2_with (first
      | (go_at_call 51; refine (xatanE _ _ EX w _).mono ?_; rintro e w' ⟨u, k, rfl, eu, rfl⟩))
    go_ret
    exact ⟨_, _, rfl, by rw [← HV.out]; exact eu, rfl⟩
  case false =>
    rw [c1, if_neg (by decide)] at hv
    cases c2 : (FloatKind.f64.format.order x 4612618744449965542 == some .gt)
    case true =>
      rw [c2, if_pos rfl] at hv
      have HV := Lib.hid hv
      clear hv
      go_enter Tryd.func50, Tryd.ntmps50
      go_wp2_with (first
        | (go_at_call 51; refine (xatanE _ _ (by assumption) w _).mono ?_; rintro e w' ⟨u, k, rfl, eu, rfl⟩)
        | (refine wpList_fop rfl _ _ _ _ _ rfl (by first | exact .inl rfl | exact .inr (.inl rfl) | exact .inr (.inr (.inl rfl)) | exact .inr (.inr (.inr rfl))) _ _ _ _ rfl rfl (by assumption) (by first | assumption | exact Eqv.refl _) ?_; intro z' m' ez)
        | (refine wpList_fop rfl _ _ _ _ _ rfl (by first | exact .inl rfl | exact .inr (.inl rfl) | exact .inr (.inr (.inl rfl)) | exact .inr (.inr (.inr rfl))) _ _ _ _ rfl rfl (Eqv.refl _) (by assumption) ?_; intro z' m' ez))
      go_ret
      exact ⟨_, _, rfl, by rw [← HV.out]; exact ez, rfl⟩
    case false =>
      rw [c2, if_neg (by decide)] at hv
      have HV := Lib.hid hv
      clear hv
      go_enter Tryd.func50, Tryd.ntmps50
      go_wp2_with (first
        | (go_at_call 51; refine (xatanE _ _ (by assumption) w _).mono ?_; rintro e w' ⟨u, k, rfl, eu, rfl⟩)
        | (refine wpList_fop rfl _ _ _ _ _ rfl (by first | exact .inl rfl | exact .inr (.inl rfl) | exact .inr (.inr (.inl rfl)) | exact .inr (.inr (.inr rfl))) _ _ _ _ rfl rfl (by assumption) (by first | assumption | exact Eqv.refl _) ?_; intro z' m' ez)
        | (refine wpList_fop rfl _ _ _ _ _ rfl (by first | exact .inl rfl | exact .inr (.inl rfl) | exact .inr (.inr (.inl rfl)) | exact .inr (.inr (.inr rfl))) _ _ _ _ rfl rfl (Eqv.refl _) (by assumption) ?_; intro z' m' ez))
      go_ret
      exact ⟨_, _, rfl, by rw [← HV.out]; exact ez, rfl⟩
end Go.Proofs.YtnkpcjmmingkkaaDoor.F64

/- FnMangleCornersCaseTable: the plain part: the shorthand's tokens as they are checked. -/
import Derived.Test.YtnolnlekdlfeaaaDoorMq
namespace Go.Proofs.YtnolnlekdlfeaaaDoor.ZT
open Go.RowKit Go.Proofs.YtnolnlekdlfeaaaDoor.TB
set_option linter.unusedVariables false
theorem VP_of {Q : Nat → Nat} {bs es n tg L : Nat} {mw : Bool} {w : World} {y1 y2 : Nat → Int} (h1 : ∀ i, i < 4 → qa Q bs i < 5 ∧ y1 i = (qa Q bs i : Int)) (h2 : ∀ i, i < 4 → qb Q bs es n i < 5 ∧ y2 i = (qb Q bs es n i : Int)) (h : GS (SQ Q bs es n 0 4) mw w tg L) :
    ∃ K T W, TR w (some ⟨tg, 0, none⟩) L (tc K T W (fun _ => 0)) ∧ VP y1 y2 (qa Q bs) (qb Q bs es n) mw L K T W ∧ L ≤ 100 := by
  have c1 : cm (fun i => (SQ Q bs es n 0 4 i).k) (fun i => (SQ Q bs es n 0 4 i).t) = mn y1 := (show _ = cm (fun i => kq (qa Q bs i)) (fun i => tq (qa Q bs i)) from rfl).trans (cm_mn (qa Q bs) y1 (fun i hi => (h1 i hi).1) (fun i hi => (h1 i hi).2))
  have c2 : cm (fun i => (SQ Q bs es n 0 4 i).k2) (fun i => (SQ Q bs es n 0 4 i).t2) = mn y2 := (show _ = cm (fun i => kq (qb Q bs es n i)) (fun i => tq (qb Q bs es n i)) from rfl).trans (cm_mn (qb Q bs es n) y2 (fun i hi => (h2 i hi).1) (fun i hi => (h2 i hi).2))
  have l1 := mn_le y1
  have l2 := mn_le y2
  have k1 : ∀ i, i < 4 → (SQ Q bs es n 0 4 i).k = kq (qa Q bs i) ∧ (SQ Q bs es n 0 4 i).t = tq (qa Q bs i) ∧ (SQ Q bs es n 0 4 i).k2 = kq (qb Q bs es n i) ∧ (SQ Q bs es n 0 4 i).t2 = tq (qb Q bs es n i) := fun i hi => by
    rcases (by omega : i = 0 ∨ i = 1 ∨ i = 2 ∨ i = 3) with rfl | rfl | rfl | rfl <;> exact ⟨rfl, rfl, rfl, rfl⟩
  have eS : eqS (mn y1) (mn y2) (fun i => (SQ Q bs es n 0 4 i).k) (fun i => (SQ Q bs es n 0 4 i).t) (fun i => (SQ Q bs es n 0 4 i).k2) (fun i => (SQ Q bs es n 0 4 i).t2) = same4 y1 y2 := by
    rw [← eqS_same (qa Q bs) (qb Q bs es n) y1 y2 h1 h2]
    rw [Bool.eq_iff_iff]
    unfold eqS
    simp only [Bool.and_eq_true, List.all_eq_true, List.mem_range]
    refine and_congr Iff.rfl (forall_congr' fun i => forall_congr' fun hi => ?_)
    rw [(k1 i (by omega)).1, (k1 i (by omega)).2.1, (k1 i (by omega)).2.2.1, (k1 i (by omega)).2.2.2]
  unfold GS GV at h
  rw [c1, c2, eS] at h
  split at h
  · rename_i hs
    obtain ⟨rfl, ht⟩ := h
    exact ⟨_, _, _, ht, ⟨fun i hi => ⟨(k1 i (by omega)).1, (k1 i (by omega)).2.1, rfl⟩, fun _ => rfl, fun h => absurd hs (by rw [h]; decide)⟩, by omega⟩
  · rename_i hs
    obtain ⟨rfl, ht⟩ := h
    refine ⟨_, _, _, ht, ⟨fun i hi => ?_, fun h => absurd h hs, fun _ => ⟨rfl, ?_, fun i hi => ?_⟩⟩, by omega⟩
    · unfold jn
      simp only [hi, if_true]
      exact ⟨(k1 i (by omega)).1, (k1 i (by omega)).2.1, trivial⟩
    · unfold jn
      simp
    · have a : ¬ mn y1 + 1 + i < mn y1 := by omega
      have b : ¬ mn y1 + 1 + i = mn y1 := by omega
      unfold jn
      simp only [a, b, if_false, show mn y1 + 1 + i - (mn y1 + 1) = i by omega]
      exact ⟨(k1 i (by omega)).2.2.1, (k1 i (by omega)).2.2.2, trivial⟩
end Go.Proofs.YtnolnlekdlfeaaaDoor.ZT

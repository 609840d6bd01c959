/- FnMangleCornersCaseTable: the last step of mangleCorners: compactRules. -/
import Derived.Test.YtnolnlekdlfeaaaDoorMb
namespace Go.Proofs.YtnolnlekdlfeaaaDoor.ZT
open Go.RowKit Go.Proofs.YtnolnlekdlfeaaaDoor.TB
set_option linter.unusedVariables false
theorem SQ_flat {Q : Nat → Nat} {bs es n : Nat} {st : Int} (h : ¬ bs < es) : SQ Q bs es n st 0 = SQ Q bs es n st 4 := by
  funext i
  unfold SQ qb
  simp only [h, if_false, Nat.not_lt_zero]
  by_cases h4 : i < 4
  · simp only [h4, if_true]
    rfl
  · simp only [h4, if_false]
theorem SQ_fires (Q : Nat → Nat) (bs es n : Nat) (st : Int) (h : st = 0 ∨ st = 2) : fires (SQ Q bs es n st 4) = (st == 0) := by
  have k : ∀ i, i < 4 → ((SQ Q bs es n st 4 i).k == 0) = false := fun i hi => by
    show ((if i < 4 then _ else C0 : Cn).k == 0) = false
    rw [if_pos hi]
    exact nk0 _
  have u : ∀ i, i < 4 → (SQ Q bs es n st 4 i).u = ⟨#[]⟩ ∧ (SQ Q bs es n st 4 i).st = st := fun i hi => by
    show (if i < 4 then _ else C0 : Cn).u = _ ∧ (if i < 4 then _ else C0 : Cn).st = _
    rw [if_pos hi]
    exact ⟨rfl, rfl⟩
  unfold fires
  rw [k 0 (by omega), k 1 (by omega), k 2 (by omega), k 3 (by omega), (u 0 (by omega)).1, (u 0 (by omega)).2, (u 1 (by omega)).1, (u 1 (by omega)).2, (u 2 (by omega)).1, (u 2 (by omega)).2, (u 3 (by omega)).1, (u 3 (by omega)).2]
  rcases h with rfl | rfl
  · unfold safe; simp
  · unfold safe; simp
theorem Tk.put2 {w : World} {g : Nat} {S : Nat → Cn} {im : Bool} (h : Tk w g S im) {k : Nat} (hk : k < 4) (t : ByteArray) (kk : Int) : Tk (w.setCells g (k * 18 + 7) [.pointer none, .string t, .int .i32 0, .int .u32 0, .int .u16 0, .int .u8 kk, .int .u8 0]) g (upS S k ⟨(S k).t, (S k).k, t, kk, (S k).u, (S k).st, (S k).r, (S k).b⟩) im := by
  obtain ⟨D, hD⟩ : ∃ D : List Value, D = [.pointer none, .string t, .int .i32 0, .int .u32 0, .int .u16 0, .int .u8 kk, .int .u8 0] := ⟨_, rfl⟩
  have hl : D.length = 7 := by rw [hD]; rfl
  rw [← hD]
  have h1 := Tab.setCells D (k * 18 + 7) h (i := 0) (by omega) (by rw [hl]; omega)
  rw [Nat.zero_mul, Nat.zero_add] at h1
  refine h1.ext fun i j hi hj => ?_
  rw [hl]
  unfold tf upS
  by_cases e : k * 18 + 7 ≤ j ∧ j < k * 18 + 7 + 7
  · rw [if_pos ⟨by omega, e⟩, if_pos (by omega), show j / 18 = k by omega, if_pos rfl, show j % 18 = j - (k * 18 + 7) + 7 by omega, hD]
    obtain ⟨p, hp⟩ : ∃ p, j - (k * 18 + 7) = p := ⟨_, rfl⟩
    rw [hp]
    rcases seven (show p < 7 by omega) with rfl | rfl | rfl | rfl | rfl | rfl | rfl <;> rfl
  · rw [if_neg (fun h => e h.2)]
    by_cases e2 : j < 72
    · rw [if_pos e2, if_pos e2]
      by_cases e3 : j / 18 = k
      · rw [if_pos e3, e3]
        obtain ⟨p, hp⟩ : ∃ p, j % 18 = p := ⟨_, rfl⟩
        rw [hp]
        rcases (by omega : p = 0 ∨ p = 1 ∨ p = 2 ∨ p = 3 ∨ p = 4 ∨ p = 5 ∨ p = 6 ∨ p = 14 ∨ p = 15 ∨ p = 16 ∨ p = 17) with rfl | rfl | rfl | rfl | rfl | rfl | rfl | rfl | rfl | rfl | rfl <;> rfl
      · rw [if_neg e3]
    · rw [if_neg e2, if_neg e2]
theorem SQ.step (Q : Nat → Nat) (bs es n : Nat) (st : Int) {k : Nat} (hk : k < 4) : upS (SQ Q bs es n st k) k ⟨(SQ Q bs es n st k k).t, (SQ Q bs es n st k k).k, tq (qb Q bs es n k), kq (qb Q bs es n k), (SQ Q bs es n st k k).u, (SQ Q bs es n st k k).st, (SQ Q bs es n st k k).r, (SQ Q bs es n st k k).b⟩ = SQ Q bs es n st (k + 1) := by
  funext i
  unfold upS SQ
  by_cases e : i = k
  · subst e
    simp only [if_true, hk, Nat.lt_succ_self]
  · simp only [e, if_false]
    by_cases h : i < k
    · have h' : i < k + 1 := by omega
      simp only [h, h', if_true]
    · have h' : ¬ i < k + 1 := by omega
      simp only [h, h', if_false]
theorem Tk.thereAt {w : World} {g : Nat} {S : Nat → Cn} {im : Bool} (h : Tk w g S im) (o n : Nat) (ho : o + n ≤ 72) : w.there g o n := fun j hj => ⟨by rw [h.cell (by omega)]; rfl, h.frozen _⟩
/-- Who is accepted. -/
theorem acc_of {Q : Nat → Nat} {n bs es m : Nat} (hs : SP n n Q bs es) (h1 : 1 ≤ bs ∧ bs ≤ 4) (h2 : bs < es → 1 ≤ m ∧ m ≤ 4) (hm : es + m = n) (hz : su Q es (su Q 0 0 bs) m = 0) : Acc n Q bs es := by
  obtain ⟨z1, z2⟩ := su_zero hz
  obtain ⟨-, z3⟩ := su_zero z1
  refine ⟨hs, h1, fun h => ?_, fun i hi => ?_⟩
  · have := h2 h
    omega
  · rcases Nat.lt_or_ge i bs with h | h
    · have := z3 i h
      rw [Nat.zero_add] at this
      omega
    · rcases hs with ⟨e1, e2, _⟩ | ⟨e1, e2, e3, _⟩
      · omega
      · by_cases e : i = bs
        · rw [e]; omega
        · have := z2 (i - es) (by omega)
          rw [show es + (i - es) = i by omega] at this
          omega
theorem not_acc {Q : Nat → Nat} {n bs es m : Nat} (hs : SP n n Q bs es) (hm : es + m = n) (hq : ∀ i, i < n → Q i < 8) (hz : su Q es (su Q 0 0 bs) m = 2) : ¬ ∃ bs es, Acc n Q bs es := by
  rintro ⟨b, e, h⟩
  obtain ⟨e1, e2⟩ := h.1.uniq hs
  subst e1 e2
  have le := hs.le (Nat.le_refl _)
  have a1 : su Q 0 0 b = 0 := su_of fun j hj => by
    rw [Nat.zero_add]
    have h1 := hq j (by omega)
    have h2 := h.2.2.2 j (by omega)
    have h3 : Q j ≠ 7 := by
      rcases hs with ⟨_, _, h⟩ | ⟨_, _, _, h⟩
      · exact h j (by omega)
      · exact h j (by omega) (by omega)
    omega
  have a2 : su Q e 0 m = 0 := su_of fun j hj => by
    have h1 := hq (e + j) (by omega)
    have h2 := h.2.2.2 (e + j) (by omega)
    have h3 : Q (e + j) ≠ 7 := by
      rcases hs with ⟨_, _, h⟩ | ⟨_, _, _, h⟩
      · exact h _ (by omega)
      · exact h _ (by omega) (by omega)
    omega
  rw [a1, a2] at hz
  omega
theorem mc_end {w W : World} {g rg d tb n : Nat} {Q : Nat → Nat} {ks kl : Int} {ib mw : Bool} {l : Int} {bs es m nr : Nat} {st : Int} (hnr : nr = 1) (h : MS w g rg d tb n Q ks kl ib l (SQ Q bs es n st 4) W) (hs : SP n n Q bs es) (h1 : 1 ≤ bs ∧ bs ≤ 4) (h2 : bs < es → 1 ≤ m ∧ m ≤ 4) (hm : es + m = n)
    (hst : st = 0 ∨ st = 2) (hz : su Q es (su Q 0 0 bs) m = st) : Calls Tryd.prog 29 #[.pointer (some ⟨g, 0, none⟩), .slice (some ⟨rg, 0, none⟩) nr nr, .agg #[.int .i32 ks, .int .i32 kl], .bool mw] W (McP w g rg d n Q ks kl ib mw l) := by
  subst hnr
  have hf := SQ_fires Q bs es n st hst
  rcases hst with rfl | rfl
  · have hf : fires (SQ Q bs es n 0 4) = true := hf
    refine (comp_gen g rg 1 1 (SQ Q bs es n 0 4) ib ks kl mw (fun _ => some d) (fun _ => l) W hf h.t h.e.hr (fun e => h.e.n3 e.symm) (fun _ => 0) (fun s hs => by
      show (if s < 4 then _ else C0 : Cn).r = _
      rw [if_pos hs]; rfl) (fun s _ => by omega)).mono ?_
    rintro e w' ⟨he, d', L, tg, cp, ht, hb, hg, hk, hd⟩
    exact ⟨he, .inr ⟨bs, es, acc_of hs h1 h2 hm hz, d', L, tg, cp, ht, hb, hg, Nat.le_trans h.k.size hd, Off.of h.k hk⟩⟩
  · have hf : fires (SQ Q bs es n 2 4) = false := hf
    refine (comp_no g (some ⟨rg, 0, none⟩) 1 1 (SQ Q bs es n 2 4) ib ks kl mw W hf h.t).mono ?_
    rintro e w' ⟨he, hb⟩
    exact ⟨he, .inl ⟨not_acc hs hm h.e.hq hz, h.k.next h.k.size hb⟩⟩
end Go.Proofs.YtnolnlekdlfeaaaDoor.ZT

/- FnPlainOrBooleanFeatureGrammar: the walk, all cases. -/
import Derived.Test.YtpbdfdmocaojgaaNf
namespace Go.Proofs.Ytpbdfdmocaojgaa.MA
open Go.RowKit Go.Proofs.Ytpbdfdmocaojgaa.TB
set_option linter.unusedVariables false
theorem u8_bd {n : Nat} {z : Nat → Int} (h : ∀ i, i < n → (Lit.int .u8 (z i)).wf = true) : ∀ i, i < n → 0 ≤ z i ∧ z i ≤ 255 := by
  intro i hi
  have h1 := (Lit.wf_int_iff .u8 (z i)).1 (h i hi)
  rw [show IntKind.u8.min = 0 from rfl, show IntKind.u8.max = 255 from rfl] at h1
  exact h1
theorem andNot12 {F : Int} (h : F = 0 ∨ F = 1 ∨ F = 2 ∨ F = 3) : bits .and .u8 (bits .and .u8 F 254) 253 = bits .andNot .u8 (bits .andNot .u8 F 1) 2 := by
  rcases h with rfl | rfl | rfl | rfl <;> decide
theorem andNot1 {F : Int} (h : F = 0 ∨ F = 1 ∨ F = 2 ∨ F = 3) : bits .and .u8 F 254 = bits .andNot .u8 F 1 := by
  rcases h with rfl | rfl | rfl | rfl <;> decide
theorem andNot2 {F : Int} (h : F = 0 ∨ F = 1 ∨ F = 2 ∨ F = 3) : bits .and .u8 F 253 = bits .andNot .u8 F 2 := by
  rcases h with rfl | rfl | rfl | rfl <;> decide
theorem bne_of {a b : Int} {x : Bool} (h : (a == b) = x) : (a != b) = !x := by simp [bne, h]
theorem law4 (A : Option Addr) (n c : Nat) (z : Nat → Int) (B : Option Addr) (m d : Nat) (T : Nat → ByteArray) (D : Option Addr) (p q : Nat) (y : Nat → Int) (w : World)
    (r : BR w A n z) (hA : A = none → n = 0) (hn : n ≤ maxLen) (hw : ∀ i, i < n → (Lit.int .u8 (z i)).wf = true)
    (r2 : SR w B m T) (hB : B = none → m = 0) (hm : m ≤ maxLen) (hT : ∀ i, i < m → (T i).size ≤ maxLen)
    (r3 : BR w D p y) (hD : D = none → p = 0) (hp : p ≤ maxLen) (hw3 : ∀ i, i < p → (Lit.int .u8 (y i)).wf = true) :
    Calls Try.prog 4 #[.slice A n c, .slice B m d, .slice D p q] w fun e w' => e = .returned (.bool true) ∧ Below w.heap.size w w' := by
  have hz := u8_bd hw
  have I : In A B D n m p z T y w := ⟨r, hA, r2, r3, hz, hT, hn, hm, hp⟩
  show Calls Try.prog 4 _ w (Ok w)
  have no0 : 0 < n → (n = 0 → ∀ W A' c' g, Calls Try.prog 12 #[.slice A' 0 c'] W (NoP g W)) := fun h e => by omega
  by_cases hbig : 1048576 < n
  · -- too long: whatever the parse answers
    exact lawBig A B D n c m d p q z T y w I hbig
  have hle : n ≤ 1048576 := by omega
  rcases (by omega : n = 0 ∨ n = 1 ∨ n = 2 ∨ 3 ≤ n) with rfl | rfl | rfl | h3
  · exact lawNo A B D 0 c m d p q z T y w I 0 (fun _ W A' c' g => zzNo g A' 0 c' W (p_0 A' c' g W)) (fun h => by omega) (fun W _ => s_0 A c W)
  · cases h0 : (kdf (z 0) == 29) with
    | false => exact lawNo A B D 1 c m d p q z T y w I 0 (no0 (by omega)) (fun _ W g ht => zzNo g _ 1 1 W (p_1n g _ _ _ W ht h0)) (fun W hr => by have h := s_1 A c z W hr hz; rw [h0] at h; exact h)
    | true => exact lawYes0 A B D 1 c m d p q z T y w I (by omega) (fun W g ht => zzYes g 1 _ _ _ _ 1 1 W (p_1y g _ _ _ W ht h0)) (fun W hr => by have h := s_1 A c z W hr hz; rw [h0] at h; exact h)
  · exact lawNo A B D 2 c m d p q z T y w I 0 (no0 (by omega)) (fun _ W g ht => zzNo g _ 2 2 W (p_2 g _ _ _ W ht)) (fun W _ => s_2 A c z W)
  · obtain ⟨L, rfl⟩ : ∃ L, n = L + 2 := ⟨n - 2, by omega⟩
    have hL : 1 ≤ L := by omega
    have hM : L ≤ 1048576 := by omega
    cases h0 : (kdf (z 0) == 29) with
    | false => exact lawNo A B D (L + 2) c m d p q z T y w I 0 (no0 (by omega)) (fun _ W g ht => zzNo g _ _ _ W (p_k0 g L _ _ _ W ht hL hM h0)) (fun W hr => s_k0 A (L + 2) c z W hr hz h3 hle (bne_of h0))
    | true =>
      cases h1 : (kdf (z 1) == 9) with
      | false => exact lawNo A B D (L + 2) c m d p q z T y w I 0 (no0 (by omega)) (fun _ W g ht => zzNo g _ _ _ W (p_k1 g L _ _ _ W ht hL hM h0 h1)) (fun W hr => s_k1 A (L + 2) c z W hr hz h3 hle (bne_of h0) (bne_of h1))
      | true =>
        by_cases e1 : L = 1
        · subst e1
          have yes1 : ∀ (S : ∀ W g, Tab W g 53 7 3 (F0 m p z T y) → Calls Try.prog 23 #[.slice (some ⟨g, 14, none⟩) 1 1] W (ScanVP g 1 1 (fun i => kdf (z i)) (txa m T) (w1 (fun i => flg (bya p y i))) W)) (hS : ∀ W, BR W A 3 z → Calls Try.prog 13 #[.slice A 3 c] W (ShP true 1 W)),
              Calls Try.prog 4 #[.slice A 3 c, .slice B m d, .slice D p q] w (Ok w) := fun S hS =>
            lawYes A B D 3 c m d p q z T y w I 1 (by omega) (by omega) rfl (w1 (fun i => flg (bya p y i))) (fun W g ht => zzYes g 3 _ _ _ _ 3 3 W (p_yes g 1 _ _ _ W ht (by omega) (by omega) h0 h1 _ (S W g ht))) hS
              (fun i hi => by
                obtain rfl : i = 0 := by omega
                refine ⟨fun _ _ => ?_, fun _ h => absurd rfl h, fun h => absurd rfl h, fun h => absurd rfl h⟩
                show (if (0 + 2 : Nat) = 2 then _ else _) = _
                rw [if_pos rfl]
                exact andNot12 (flg4 _))
          cases k26 : (kdf (z 2) == 26) with
          | true =>
            have k29 : (kdf (z 2) == 29) = false := by rw [beq_iff_eq] at k26; rw [k26]; rfl
            have k30 : (kdf (z 2) == 30) = false := by rw [beq_iff_eq] at k26; rw [k26]; rfl
            exact yes1 (fun W g ht => sc1d1 g _ _ _ W ht k26) (fun W hr => s_3d A c z W hr hz (bne_of h0) (bne_of h1) k29 k30 k26)
          | false =>
            cases k29 : (kdf (z 2) == 29) with
            | true => exact yes1 (fun W g ht => sc1i1 g _ _ _ W ht k26 k29) (fun W hr => s_3i A c z W hr hz (bne_of h0) (bne_of h1) k29)
            | false =>
              cases k30 : (kdf (z 2) == 30) with
              | true => exact yes1 (fun W g ht => sc1n1 g _ _ _ W ht k26 k29 k30) (fun W hr => s_3n A c z W hr hz (bne_of h0) (bne_of h1) k29 k30)
              | false => exact lawNo A B D 3 c m d p q z T y w I 1 (no0 (by omega)) (fun _ W g ht => zzNo g _ _ _ W (p_no g 1 _ _ _ W ht (by omega) (by omega) h0 h1 0 _ (by omega) (sc0 g 1 _ _ _ W ht (by omega) (by omega) k26 k29 k30))) (fun W hr => s_3x A c z W hr hz (bne_of h0) (bne_of h1) k29 k30 k26)
        · have hL2 : 2 ≤ L := by omega
          -- refused, with v tokens scanned
          have noV : ∀ (v : Nat) (W' : Nat → Int) (hv : v < L) (S : ∀ W g, Tab W g 53 7 (L + 2) (F0 m p z T y) → Calls Try.prog 23 #[.slice (some ⟨g, 14, none⟩) L L] W (ScanVP g L v (fun i => kdf (z i)) (txa m T) W' W)) (hS : ∀ W, BR W A (L + 2) z → Calls Try.prog 13 #[.slice A (L + 2) c] W (ShP false 0 W)),
              Calls Try.prog 4 #[.slice A (L + 2) c, .slice B m d, .slice D p q] w (Ok w) := fun v W' hv S hS =>
            lawNo A B D (L + 2) c m d p q z T y w I 0 (no0 (by omega)) (fun _ W g ht => zzNo g _ _ _ W (p_no g L _ _ _ W ht hL hM h0 h1 v W' hv (S W g ht))) hS
          -- the shape is refused unless it is the ratio
          have shp : (¬ (L = 3 ∧ (kdf (z 2) == 30) = true ∧ (kdf (z 3) == 24) = true ∧ (kdf (z 4) == 30) = true)) → ∀ W, BR W A (L + 2) z → Calls Try.prog 13 #[.slice A (L + 2) c] W (ShP false 0 W) := by
            intro hne W hr
            by_cases e3 : L = 3
            · subst e3
              cases a2 : (kdf (z 2) == 30) with
              | false => exact s_5a A c z W hr hz (bne_of h0) (bne_of h1) a2
              | true =>
                cases a3 : (kdf (z 3) == 24) with
                | false => exact s_5b A c z W hr hz (bne_of h0) (bne_of h1) a2 a3
                | true =>
                  cases a4 : (kdf (z 4) == 30) with
                  | false => exact s_5c A c z W hr hz (bne_of h0) (bne_of h1) a2 a3 a4
                  | true => exact absurd ⟨rfl, a2, a3, a4⟩ hne
            · exact s_n A (L + 2) c z W hr hz h3 hle (by omega) (by omega) (bne_of h0) (bne_of h1)
          cases k26 : (kdf (z 2) == 26) with
          | true =>
            have k30 : (kdf (z 2) == 30) = false := by rw [beq_iff_eq] at k26; rw [k26]; rfl
            exact noV 1 _ (by omega) (fun W g ht => sc1d g L _ _ _ W ht hL2 hM k26) (shp (fun h => by rw [k30] at h; exact absurd h.2.1 (by decide)))
          | false =>
            cases k29 : (kdf (z 2) == 29) with
            | true =>
              have k30 : (kdf (z 2) == 30) = false := by rw [beq_iff_eq] at k29; rw [k29]; rfl
              exact noV 1 _ (by omega) (fun W g ht => sc1i g L _ _ _ W ht hL2 hM k26 k29) (shp (fun h => by rw [k30] at h; exact absurd h.2.1 (by decide)))
            | false =>
              cases k30 : (kdf (z 2) == 30) with
              | false => exact noV 0 _ (by omega) (fun W g ht => sc0 g L _ _ _ W ht hL hM k26 k29 k30) (shp (fun h => by rw [k30] at h; exact absurd h.2.1 (by decide)))
              | true =>
                by_cases e2 : L = 2
                · subst e2
                  exact noV 1 _ (by omega) (fun W g ht => sc1n2 g _ _ _ W ht k26 k29 k30) (shp (fun h => by omega))
                · have hL3 : 3 ≤ L := by omega
                  cases k24 : (kdf (z 3) == 24) with
                  | false => exact noV 1 _ (by omega) (fun W g ht => sc1na g L _ _ _ W ht hL3 hM k26 k29 k30 k24) (shp (fun h => by rw [k24] at h; exact absurd h.2.2.1 (by decide)))
                  | true =>
                    cases k4 : (kdf (z 4) == 30) with
                    | false => exact noV 1 _ (by omega) (fun W g ht => sc1nb g L _ _ _ W ht hL3 hM k26 k29 k30 k24 k4) (shp (fun h => by rw [k4] at h; exact absurd h.2.2.2 (by decide)))
                    | true =>
                      by_cases e3 : L = 3
                      · subst e3
                        exact lawYes A B D 5 c m d p q z T y w I 3 (by omega) (by omega) rfl (w3 (fun i => flg (bya p y i))) (fun W g ht => zzYes g 5 _ _ _ _ 5 5 W (p_yes g 3 _ _ _ W ht (by omega) (by omega) h0 h1 _ (sc33 g _ _ _ W ht k26 k29 k30 k24 k4))) (fun W hr => s_5y A c z W hr hz (bne_of h0) (bne_of h1) k30 k24 k4)
                          (fun i hi => by
                            rcases (by omega : i = 0 ∨ i = 1 ∨ i = 2) with rfl | rfl | rfl
                            · exact ⟨fun _ h => by omega, fun _ _ => andNot1 (flg4 _), fun h => absurd rfl h, fun h => absurd rfl h⟩
                            · exact ⟨fun h => by omega, fun h => by omega, fun _ h => by omega, fun _ _ => rfl⟩
                            · exact ⟨fun h => by omega, fun h => by omega, fun _ _ => andNot2 (flg4 _), fun _ h => absurd rfl h⟩)
                      · exact noV 3 _ (by omega) (fun W g ht => sc3 g L _ _ _ W ht (by omega) hM k26 k29 k30 k24 k4) (shp (fun h => e3 h.1))
end Go.Proofs.Ytpbdfdmocaojgaa.MA

/- The parser's readers; zzCheckKinds and zzCheckTable, walked. -/
import Derived.Test.YtmfpgnedeonmiaaDoorHc
namespace Go.Proofs.YtmfpgnedeonmiaaDoor.WA
open Go Go.RowKit Go.Lib Go.Proofs.YtmfpgnedeonmiaaDoor.MP Go.Proofs.YtmfpgnedeonmiaaDoor.SY Go.Proofs.YtmfpgnedeonmiaaDoor.LO Go.Proofs.YtmfpgnedeonmiaaDoor.TB Go.Proofs.YtmfpgnedeonmiaaDoor.OW
set_option linter.unusedVariables false
def U8P (n : Int) (w : World) (e : Ending) (w' : World) : Prop := e = .returned (.int .u8 n) ∧ w = w'
def U32P (n : Int) (w : World) (e : Ending) (w' : World) : Prop := e = .returned (.int .u32 n) ∧ w = w'
theorem locs_at (l : List Ent) (b i k : Nat) (hi : i < l.length) (hk : k < 3) : (locs l b)[i * 3 + k]? = (locc (b + i) l[i])[k]? := by
  induction l generalizing i b with
  | nil => simp at hi
  | cons a l ih =>
    cases i with
    | zero => simp only [locs, Nat.zero_mul, Nat.zero_add]; rw [List.getElem?_append_left (by simp [locc]; omega)]; rfl
    | succ i =>
      simp only [locs]
      rw [List.getElem?_append_right (by simp [locc]; omega), show (i + 1) * 3 + k - (locc b a).length = i * 3 + k by simp [locc]; omega, ih (b + 1) i (by simpa using hi)]
      simp [show b + 1 + i = b + (i + 1) by omega]
section
variable {X : Nat → Prop} {w : World} {B pb mb : Nat} {ml : Bool} {L : List Ent} {Lm Ls Ll : List Ent} {f : Nat → Value} {sv lv : Value}
set_option maxRecDepth 100000 in
theorem symUses (P : PS X w B pb mb ml Lm Ls Ll f sv lv) (i : Nat) (e : Ent) (he : Ls[i]? = some e) (hm : Ls.length ≤ 16777216) : Calls Tryd.prog 20 #[.pointer (some ⟨pb, 0, none⟩), .int .i64 i] w (U32P e.uses w) := by
  obtain ⟨g, c, rfl, hi, hc⟩ := P.scell i 4 e he (by omega)
  replace hc : w.cell? ⟨g, i * 10 + 4, none⟩ = some (.int .u32 e.uses) := hc
  have c1 := P.c21
  have k1 : (0 : Int) ≤ (i : Int) := by omega
  have k2 : (i : Int) < (Ls.length : Int) := by omega
  clear he P
  go_enter Tryd.func20, Tryd.ntmps20
  go_wp2_with fail
  go_ret
  exact ⟨rfl, rfl⟩
set_option maxRecDepth 100000 in
theorem symKind (P : PS X w B pb mb ml Lm Ls Ll f sv lv) (i : Nat) (e : Ent) (he : Ls[i]? = some e) (hm : Ls.length ≤ 16777216) : Calls Tryd.prog 21 #[.pointer (some ⟨pb, 0, none⟩), .int .i64 i] w (U8P (kindOf ml) w) := by
  obtain ⟨g, c, rfl, hi, hc⟩ := P.scell i 8 e he (by omega)
  replace hc : w.cell? ⟨g, i * 10 + 8, none⟩ = some (.int .u8 (kindOf ml)) := hc
  have c1 := P.c21
  have k1 : (0 : Int) ≤ (i : Int) := by omega
  have k2 : (i : Int) < (Ls.length : Int) := by omega
  clear he P
  go_enter Tryd.func21, Tryd.ntmps21
  go_wp2_with fail
  go_ret
  exact ⟨rfl, rfl⟩
set_option maxRecDepth 100000 in
theorem locInner (P : PS X w B pb mb ml Lm Ls Ll f sv lv) (i : Nat) (hi : i < Ll.length) (hm : Ll.length ≤ 16777216) : Calls Tryd.prog 30 #[.pointer (some ⟨pb, 0, none⟩), .int .i64 i] w (U32P (i : Int) w) := by
  obtain ⟨g, c, hv, -, -⟩ := P.lc.form (by omega)
  have hc : w.cell? ⟨g, i * 3 + 2, none⟩ = some (.int .u32 (i : Int)) := by
    have := P.lc
    rw [hv] at this
    rw [this.cellAt (i * 3 + 2) (by omega), locs_at _ _ _ _ hi (by omega), Nat.zero_add]
    rfl
  have c1 := P.c23
  rw [hv] at c1
  have k1 : (0 : Int) ≤ (i : Int) := by omega
  have k2 : (i : Int) < (Ll.length : Int) := by omega
  clear P hv
  go_enter Tryd.func30, Tryd.ntmps30
  go_wp2_with fail
  go_ret
  exact ⟨rfl, rfl⟩
end
/-- A parser whose table is L, whatever may change. -/
def PT (w : World) (B pb mb : Nat) (ml : Bool) (L : List Ent) : Prop := ∃ X f sv lv, PS X w B pb mb ml L L (if ml then L else []) f sv lv
theorem PT.below {w w' : World} {B pb mb : Nat} {ml : Bool} {L : List Ent} (h : PT w B pb mb ml L) (hb : Below w.heap.size w w') : PT w' B pb mb ml L :=
  let ⟨X, f, sv, lv, P⟩ := h; ⟨X, f, sv, lv, P.below hb⟩
theorem PT.drewN {w : World} {B pb mb : Nat} {ml : Bool} {L : List Ent} (h : PT w B pb mb ml L) (n : Nat) : PT (w.drewN n) B pb mb ml L :=
  let ⟨X, f, sv, lv, P⟩ := h; ⟨X, f, sv, lv, P.drewN n⟩
section
variable {w : World} {B pb mb : Nat} {ml : Bool} {L : List Ent}
theorem PT.count (h : PT w B pb mb ml L) : Calls Tryd.prog 17 #[.pointer (some ⟨pb, 0, none⟩)] w (IntIs L.length w) := let ⟨_, _, _, _, P⟩ := h; symN P
theorem PT.locals (h : PT w B pb mb ml L) : Calls Tryd.prog 18 #[.pointer (some ⟨pb, 0, none⟩)] w (IntIs (if ml then (L.length : Int) else 0) w) := by
  obtain ⟨_, _, _, _, P⟩ := h
  have := locN P
  cases ml <;> exact this
theorem PT.name (h : PT w B pb mb ml L) (i : Nat) (e : Ent) (he : L[i]? = some e) (hm : L.length ≤ 16777216) : Calls Tryd.prog 19 #[.pointer (some ⟨pb, 0, none⟩), .int .i64 i] w (StrIs e.nm w) := let ⟨_, _, _, _, P⟩ := h; symName P i e he hm
theorem PT.uses (h : PT w B pb mb ml L) (i : Nat) (e : Ent) (he : L[i]? = some e) (hm : L.length ≤ 16777216) : Calls Tryd.prog 20 #[.pointer (some ⟨pb, 0, none⟩), .int .i64 i] w (U32P e.uses w) := let ⟨_, _, _, _, P⟩ := h; symUses P i e he hm
theorem PT.kind (h : PT w B pb mb ml L) (i : Nat) (e : Ent) (he : L[i]? = some e) (hm : L.length ≤ 16777216) : Calls Tryd.prog 21 #[.pointer (some ⟨pb, 0, none⟩), .int .i64 i] w (U8P (kindOf ml) w) := let ⟨_, _, _, _, P⟩ := h; symKind P i e he hm
theorem PT.inner (h : PT w B pb mb true L) (i : Nat) (hi : i < L.length) (hm : L.length ≤ 16777216) : Calls Tryd.prog 30 #[.pointer (some ⟨pb, 0, none⟩), .int .i64 i] w (U32P (i : Int) w) := let ⟨_, _, _, _, P⟩ := h; locInner P i hi hm
end
theorem at_lt {L : List Ent} {i : Nat} (h : i < L.length) : ∃ e, L[i]? = some e := ⟨L[i], List.getElem?_eq_getElem h⟩
set_option maxRecDepth 100000 in
set_option maxHeartbeats 2000000 in
theorem checkKinds (w : World) (B pb mb : Nat) (ml : Bool) (L : List Ent) (h : PT w B pb mb ml L) (hL : L.length ≤ 1048576) :
    Calls Tryd.prog 27 #[.pointer (some ⟨pb, 0, none⟩), .int .i64 L.length, .bool ml] w (BP true w) := by
  have H := Lib.hid h
  clear h
  cases ml
  · go_enter Tryd.func27, Tryd.ntmps27
    go_wp2_with fail
    go_loop [7] (fun i => ∃ j : Nat, i = .int .i64 j ∧ j ≤ L.length) (fun i => L.length - (intOf i).toNat)
    case atStart => exact ⟨0, rfl, Nat.zero_le _⟩
    case round =>
      obtain ⟨j, rfl, hj⟩ := hrel
      have q1 : (0 : Int) ≤ (j : Int) := by omega
      by_cases hjl : j < L.length
      · have q2 : (j : Int) < (L.length : Int) := by omega
        obtain ⟨e, he⟩ := at_lt hjl
        have M := Lib.hid (H.out.kind j e he (by omega))
        unfold kindOf at M
        clear he
        go_wp2_with (go_at_call 21; refine M.out.mono ?_; rintro e w' ⟨rfl, rfl⟩)
        go_round
        case rel => exact ⟨j + 1, by go_num, by omega⟩
        case measure => simp [intOf]; omega
      · have q2 : ¬ (j : Int) < (L.length : Int) := by omega
        have M := Lib.hid H.out.locals
        go_wp2_with (go_at_call 18; refine M.out.mono ?_; rintro e w' ⟨rfl, rfl⟩)
        go_ret
        exact ⟨rfl, Below.refl _ _⟩
  · go_enter Tryd.func27, Tryd.ntmps27
    go_wp2_with fail
    go_loop [7] (fun i => ∃ j : Nat, i = .int .i64 j ∧ j ≤ L.length) (fun i => L.length - (intOf i).toNat)
    case atStart => exact ⟨0, rfl, Nat.zero_le _⟩
    case round =>
      obtain ⟨j, rfl, hj⟩ := hrel
      have q1 : (0 : Int) ≤ (j : Int) := by omega
      by_cases hjl : j < L.length
      · have q2 : (j : Int) < (L.length : Int) := by omega
        obtain ⟨e, he⟩ := at_lt hjl
        have M := Lib.hid (H.out.kind j e he (by omega))
        unfold kindOf at M
        clear he
        go_wp2_with (go_at_call 21; refine M.out.mono ?_; rintro e w' ⟨rfl, rfl⟩)
        go_round
        case rel => exact ⟨j + 1, by go_num, by omega⟩
        case measure => simp [intOf]; omega
      · have q2 : ¬ (j : Int) < (L.length : Int) := by omega
        have M := Lib.hid H.out.locals
        go_wp2_with (go_at_call 18; refine M.out.mono ?_; rintro e w' ⟨rfl, rfl⟩)
        go_loop [9] (fun i => ∃ j : Nat, i = .int .i64 j ∧ j ≤ L.length) (fun i => L.length - (intOf i).toNat)
        case atStart => exact ⟨0, rfl, Nat.zero_le _⟩
        case round =>
          obtain ⟨i, rfl, hi⟩ := hrel
          have p1 : (0 : Int) ≤ (i : Int) := by omega
          by_cases hil : i < L.length
          · have p2 : (i : Int) < (L.length : Int) := by omega
            have M2 := Lib.hid (H.out.inner i hil (by omega))
            have hw : IntKind.u32.wrap (i : Int) = (i : Int) := wrapU32 _ p1 (by omega)
            go_wp2_with (go_at_call 30; refine M2.out.mono ?_; rintro e w' ⟨rfl, rfl⟩)
            go_round
            case rel => exact ⟨i + 1, by go_num, by omega⟩
            case measure => simp [intOf]; omega
          · have p2 : ¬ (i : Int) < (L.length : Int) := by omega
            go_wp2_with fail
            go_ret
            exact ⟨rfl, Below.refl _ _⟩
/-- A slice of one-cell elements, read. -/
theorem own_at1 {w : World} {B e : Nat} {v : Value} {n : Nat} {xs : List Value} {j : Nat} {u : Value} (h : w.ownsRow B e 1 v n xs) (hu : xs[j]? = some u) : ∃ g c, v = .slice (some ⟨g, 0, none⟩) n c ∧ j < n ∧ w.cell? ⟨g, j, none⟩ = some u ∧ w.frozen? ⟨g, j, none⟩ = false := by
  have hj : j < n := by
    have h1 := (List.getElem?_eq_some_iff.1 hu).1
    have h2 := h.1
    omega
  obtain ⟨g, c, rfl, -, -⟩ := h.form (by omega)
  exact ⟨g, c, rfl, hj, by rw [h.cellAt j (by omega)]; exact hu, h.frozenAt j⟩
theorem below_drewl {B k : Nat} {a w : World} (h : Below B (a.drewN k) w) : Below B a w := ⟨h.os, h.tape, h.output, h.size, h.block⟩
abbrev TStr : TypeId := 9
abbrev TU : TypeId := 44
theorem ownsRow_drewN {w : World} {B e size : Nat} {v : Value} {n : Nat} {xs : List Value} (h : w.ownsRow B e size v n xs) (k : Nat) : (w.drewN k).ownsRow B e size v n xs := h
/-- A parser and the two lists that it is held against. -/
structure TS3 (w0 w : World) (B B2 pb mb : Nat) (ml : Bool) (L : List Ent) (v1 v2 : Value) : Prop where
  pt : PT w B pb mb ml L
  o1 : w.ownsRow B2 TStr 1 v1 L.length (nmv L)
  o2 : w.ownsRow B2 TU 1 v2 L.length (usv L)
  bel : Below w0.heap.size w0 w
theorem TS3.drewN {w0 w : World} {B B2 pb mb : Nat} {ml : Bool} {L : List Ent} {v1 v2 : Value} (h : TS3 w0 w B B2 pb mb ml L v1 v2) (k : Nat) : TS3 w0 (w.drewN k) B B2 pb mb ml L v1 v2 := ⟨h.pt.drewN k, h.o1, h.o2, below_drewN h.bel k⟩
set_option maxRecDepth 100000 in
set_option maxHeartbeats 2000000 in
theorem checkTable (w : World) (B B2 pb mb : Nat) (ml : Bool) (L : List Ent) (v1 v2 : Value) (h : PT w B pb mb ml L) (o1 : w.ownsRow B2 TStr 1 v1 L.length (nmv L)) (o2 : w.ownsRow B2 TU 1 v2 L.length (usv L)) (hL : L.length ≤ 1048576) :
    Calls Tryd.prog 24 #[.pointer (some ⟨pb, 0, none⟩), v1, v2, .bool ml] w (BP true w) := by
  have HN := Lib.hid h.count
  have S0 : Hid (TS3 w w B B2 pb mb ml L v1 v2) := Lib.hid ⟨h, o1, o2, Below.refl _ _⟩
  obtain ⟨a1, c1, rfl⟩ := slice_of o1
  obtain ⟨a2, c2, rfl⟩ := slice_of o2
  clear h o1 o2
  go_enter Tryd.func24, Tryd.ntmps24
  go_wp2_with (go_at_call 17; refine HN.out.mono ?_; rintro e w' ⟨rfl, rfl⟩)
  go_loopw [9] (fun i wr => ∃ j : Nat, i = .int .i64 j ∧ j ≤ L.length ∧ Hid (TS3 w wr B B2 pb mb ml L (.slice a1 L.length c1) (.slice a2 L.length c2))) (fun i _ => L.length - (intOf i).toNat)
  case atStart => exact ⟨0, rfl, Nat.zero_le _, S0⟩
  case round =>
    obtain ⟨j, rfl, hj, SS⟩ := hrel
    clear S0 HN
    have q1 : (0 : Int) ≤ (j : Int) := by omega
    by_cases hjl : j < L.length
    · have q2 : (j : Int) < (L.length : Int) := by omega
      obtain ⟨e, he⟩ := at_lt hjl
      have HE := Lib.hid he
      obtain ⟨g1, d1, e1, -, x1, -⟩ := own_at1 SS.out.o1 (nmv_at he)
      obtain ⟨g2, d2, e2, -, x2, -⟩ := own_at1 SS.out.o2 (usv_at he)
      obtain ⟨rfl, rfl⟩ : a1 = some ⟨g1, 0, none⟩ ∧ c1 = d1 := by simpa using e1
      obtain ⟨rfl, rfl⟩ : a2 = some ⟨g2, 0, none⟩ ∧ c2 = d2 := by simpa using e2
      have M1 := Lib.hid (fun n => (SS.out.pt.drewN n).name j e he (by omega))
      clear he e1 e2 x2
      go_wp2_with fail
      go_quiet ((go_at_call 19; exact Calls.quiet_of_same ((M1.out _).mono fun _ _ h => ⟨h.1, h.2.symm⟩)))
      generalize hW3 : wr.drewN _ = W3
      have S3 : Hid (TS3 w W3 B B2 pb mb ml L (.slice (some ⟨g1, 0, none⟩) L.length c1) (.slice (some ⟨g2, 0, none⟩) L.length c2)) := by rw [← hW3]; exact Lib.hid (SS.out.drewN _)
      clear hW3 x1 M1 SS
      have M2 := Lib.hid (fun n => (S3.out.pt.drewN n).uses j e HE.out (by omega))
      have x2 : W3.cell? ⟨g2, j, none⟩ = some (.int .u32 (e.uses : Int)) := by
        obtain ⟨g, d, e2, -, x2, -⟩ := own_at1 S3.out.o2 (usv_at HE.out)
        obtain ⟨rfl, rfl⟩ : g2 = g ∧ c2 = d := by simpa using e2
        exact x2
      go_wp2_with fail
      go_quiet ((go_at_call 20; exact Calls.quiet_of_same ((M2.out _).mono fun _ _ h => ⟨h.1, h.2.symm⟩)))
      go_wp2_with fail
      go_roundw
      case rel => exact ⟨j + 1, by go_num, by omega, Lib.hid (S3.out.drewN _)⟩
      case measure => simp [intOf]; omega
    · have q2 : ¬ (j : Int) < (L.length : Int) := by omega
      have K := Lib.hid (checkKinds wr B pb mb ml L SS.out.pt hL)
      go_wp2_with (go_at_call 27; refine K.out.mono ?_; rintro e w' ⟨rfl, hb⟩; have BB := Lib.hid hb; clear hb)
      go_ret
      exact ⟨rfl, SS.out.bel.trans (BB.out.mono SS.out.bel.size)⟩
end Go.Proofs.YtmfpgnedeonmiaaDoor.WA

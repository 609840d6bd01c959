/- strings.ContainsAny(s, "eE") at a text that holds an e or an E, whatever else it holds. -/
import Derived.Test.YtpbmjomfapnpnaaFmtPa
import Derived.Lib.DecodeN
import Derived.Lib.OthersKept
namespace Go.Proofs.YtpbmjomfapnpnaaFmt.PA
open Go Go.RowKit
set_option linter.unusedVariables false
theorem decodeN_w (n b0 b1 b2 b3 : Nat) : (Lib.decodeN n b0 b1 b2 b3).2 = 1 ∨ ((Lib.decodeN n b0 b1 b2 b3).2 = 2 ∧ b1 / 64 = 2) ∨ ((Lib.decodeN n b0 b1 b2 b3).2 = 3 ∧ b1 / 64 = 2 ∧ b2 / 64 = 2) ∨ ((Lib.decodeN n b0 b1 b2 b3).2 = 4 ∧ b1 / 64 = 2 ∧ b2 / 64 = 2 ∧ b3 / 64 = 2) := by
  unfold Lib.decodeN
  repeat' split
  all_goals simp_all
/-- A decoded rune does not reach over an ASCII byte. -/
theorem dec_step (s : ByteArray) (pos p : Nat) (hp : p < s.size) (hlt : pos < p) (hb : (s[p]'hp).toNat < 128) : pos + (Utf8.decode s pos).2 ≤ p := by
  have hg : (s.get! p).toNat < 128 := by have := get_at s p hp; rw [Nat.add_zero] at this; rw [this]; exact hb
  rw [Lib.decode_at]
  rcases decodeN_w (s.size - pos) (s.get! pos).toNat (s.get! (pos + 1)).toNat (s.get! (pos + 2)).toNat (s.get! (pos + 3)).toNat with h | ⟨h, h1⟩ | ⟨h, h1, h2⟩ | ⟨h, h1, h2, h3⟩ <;> rw [h]
  · omega
  · have : p ≠ pos + 1 := by rintro rfl; omega
    omega
  · have : p ≠ pos + 1 := by rintro rfl; omega
    have : p ≠ pos + 2 := by rintro rfl; omega
    omega
  · have : p ≠ pos + 1 := by rintro rfl; omega
    have : p ≠ pos + 2 := by rintro rfl; omega
    have : p ≠ pos + 3 := by rintro rfl; omega
    omega
theorem dec_pos (s : ByteArray) (pos : Nat) : 1 ≤ (Utf8.decode s pos).2 := by
  rw [Lib.decode_at]
  rcases decodeN_w (s.size - pos) (s.get! pos).toNat (s.get! (pos + 1)).toNat (s.get! (pos + 2)).toNat (s.get! (pos + 3)).toNat with h | ⟨h, -⟩ | ⟨h, -⟩ | ⟨h, -⟩ <;> rw [h] <;> omega
def Found (w : World) (e : Ending) (w' : World) : Prop := ∃ i : Nat, e = .returned (.int .i64 i) ∧ Below w.heap.size w w'
set_option maxRecDepth 100000 in
set_option maxHeartbeats 1000000 in
theorem idxShort (s : ByteArray) (p : Nat) (hp : p < s.size) (h8 : s.size ≤ 8) (hb : (s[p]'hp).toNat = 101 ∨ (s[p]'hp).toNat = 69) (w : World) :
    Calls Tryf.prog 14 #[.string s, .string eE] w (Found w) := by
  have hb128 : (s[p]'hp).toNat < 128 := by omega
  have hsz : s.size ≤ 1099511627776 := by omega
  have h8z : decide ((8 : Int) < (s.size : Int)) = false := decide_eq_false (by omega)
  have US := Lib.hid (Tryf.strings_shouldUseASCIISet (s.size : Int) w)
  rw [h8z] at US
  have HB := Lib.hid hb
  clear hb
  go_enter Tryf.func14, Tryf.ntmps14
  go_wp2_with (go_at_call 23; refine US.out.mono ?_; rintro e w' ⟨rfl, rfl⟩)
  clear US
  go_loopg [] s.size (fun g wx => ∃ pos, pos ≤ p ∧ s.size - pos ≤ g ∧ Hid (wx.heap[w'.heap.size]? = some (.stringIter s pos)) ∧ Hid (Below w'.heap.size w' wx))
  case atStart => exact ⟨0, Nat.zero_le _, Nat.le_refl _, Lib.hid (World.iter_heap _ _ _), Lib.hid ((Below.refl _ _).alloc (Nat.le_refl _) _)⟩
  case round =>
    obtain ⟨pos, hpp, hg, HI, BB⟩ := hrel
    have hps : pos < s.size := by omega
    have hnx := fun ty => Lib.run_next_any_at (P := Tryf.prog) wr w'.heap.size s pos ty HI.out hps
    have B2 := fun q => Lib.hid (Lib.below_iterAt BB.out (Nat.le_refl _) s q)
    have H2 := fun q => Lib.hid (Lib.iterAt_heap wr w'.heap.size s pos q HI.out)
    have hw1 := dec_pos s pos
    have hrl := decode_le s pos
    have hstep : pos < p → pos + (Utf8.decode s pos).2 ≤ p := fun h => dec_step s pos p hp h hb128
    have hat : pos = p → (Utf8.decode s pos).1 = 101 ∨ (Utf8.decode s pos).1 = 69 := by
      rintro rfl
      rw [decode_ascii s pos hp hb128]
      exact HB.out
    generalize (Utf8.decode s pos).1 = c at *
    generalize (Utf8.decode s pos).2 = wd at *
    have B3 := B2 (pos + wd)
    have H3 := H2 (pos + wd)
    clear B2 H2 HI BB
    by_cases hc : c < 128
    · have IR := Lib.hid (fun W => Tryf.strings_IndexRune_ascii eE (c : Int) W (by omega) (by omega))
      obtain ⟨v, hv⟩ : ∃ v, Lib.indexByte eE.data.toList ((c : Int)).toNat.toUInt8 = v := ⟨_, rfl⟩
      have hit : pos = p → 0 ≤ v := by
        intro h
        rcases hat h with h | h <;> (subst h; rw [← hv]; decide)
      rw [hv] at IR
      clear hv
      by_cases hz : 0 ≤ v
      · have e1 : decide ((0 : Int) ≤ v) = true := by rw [decide_eq_true_eq]; exact hz
        clear hit hat
        go_wp2_with (go_at_call 22; refine (IR.out _).mono ?_; rintro e w2 ⟨rfl, rfl⟩)
        go_ret
        exact ⟨pos, rfl, B3.out⟩
      · have e1 : decide ((0 : Int) ≤ v) = false := by rw [decide_eq_false_iff_not]; exact hz
        have hlt : pos < p := by
          rcases Nat.lt_or_ge pos p with h | h
          · exact h
          · exact absurd (hit (by omega)) hz
        have hst := hstep hlt
        clear hit hat hstep
        go_wp2_with (go_at_call 22; refine (IR.out _).mono ?_; rintro e w2 ⟨rfl, rfl⟩)
        go_roundg (s.size - (pos + wd))
        case measure => omega
        case rel => exact ⟨pos + wd, hst, Nat.le_refl _, H3, B3⟩
    · have hlt : pos < p := by
        rcases Nat.lt_or_ge pos p with h | h
        · exact h
        · rcases hat (by omega) with h | h <;> omega
      have hst := hstep hlt
      have RH := Lib.hid (fun W => rune_high (c : Int) W (by omega) (by omega))
      clear hat hstep
      go_wp2_with fail
      refine (RH.out _).mono ?_
      rintro e w2 ⟨rfl, hb2⟩
      have hsz2 : w'.heap.size < (wr.iterAt w'.heap.size s (pos + wd)).heap.size := (Array.getElem?_eq_some_iff.1 H3.out).1
      have H4 : Hid (w2.heap[w'.heap.size]? = some (.stringIter s (pos + wd))) := Lib.hid (by rw [hb2.block _ hsz2]; exact H3.out)
      have B4 := Lib.hid (B3.out.trans (hb2.mono (Nat.le_of_lt hsz2)))
      clear hb2 hsz2 B3 H3
      go_wp2_with fail
      go_roundg (s.size - (pos + wd))
      case measure => omega
      case rel => exact ⟨pos + wd, hst, Nat.le_refl _, H4, B4⟩
theorem any_hit (chars : List UInt8) : ∀ (l : List UInt8) (p : Nat) (x : UInt8), l[p]? = some x → chars.contains x = true → 0 ≤ Lib.indexAny l chars
  | [], p, x, h, _ => by simp at h
  | b :: l, p, x, h, hc => by
    rw [Lib.indexAny]
    split
    · decide
    · rename_i hb
      cases p with
      | zero =>
        simp at h
        subst h
        exact absurd hc hb
      | succ p =>
        have ih := any_hit chars l p x (by simpa using h) hc
        have : (Lib.indexAny l chars == -1) = false := by rw [beq_eq_false_iff_ne]; omega
        rw [this]
        simp only [Bool.false_eq_true, if_false]
        omega
theorem zero59 : ∀ w, (zeroValue 59).run Tryf.prog w = .ok (.agg (Array.replicate 256 (.bool false))) w := fun w => by kernel_rfl
theorem idxLong (s : ByteArray) (p : Nat) (hp : p < s.size) (h8 : 8 < s.size) (hs : s.size ≤ 1048576) (hb : (s[p]'hp).toNat = 101 ∨ (s[p]'hp).toNat = 69) (w : World) :
    Calls Tryf.prog 14 #[.string s, .string eE] w (Found w) := by
  have hx : s.data.toList[p]? = some (s[p]'hp) := Lib.data_getElem? s p hp
  have hc : eE.data.toList.contains (s[p]'hp) = true := by
    have : (s[p]'hp) = 101 ∨ (s[p]'hp) = 69 := by
      rcases hb with h | h
      · left; exact UInt8.toNat_inj.1 h
      · right; exact UInt8.toNat_inj.1 h
    rcases this with h | h <;> rw [h] <;> decide
  have hge := any_hit eE.data.toList s.data.toList p _ hx hc
  refine (Tryf.strings_IndexAny_long zero59 s eE w (by decide) h8 (by omega) (by decide) (by
    intro j b hj
    have : b = 101 ∨ b = 69 := by
      match j, hj with
      | 0, hj => left; simpa [eq_comm] using hj
      | 1, hj => right; simpa [eq_comm] using hj
      | (j + 2), hj => simp at hj
    rcases this with rfl | rfl <;> decide)).mono ?_
  rintro e w' ⟨rfl, rfl⟩
  obtain ⟨i, hi⟩ := Int.eq_ofNat_of_zero_le hge
  exact ⟨i, by rw [hi], ((Below.refl _ _).alloc (Nat.le_refl _) _).alloc (by simp) _⟩
set_option maxRecDepth 100000 in
theorem cont (s : ByteArray) (p : Nat) (hp : p < s.size) (hs : s.size ≤ 1048576) (hb : (s[p]'hp).toNat = 101 ∨ (s[p]'hp).toNat = 69) (w : World) :
    Calls Tryf.prog 10 #[.string s, .string eE] w fun e w' => e = .returned (.bool true) ∧ Below w.heap.size w w' := by
  have H : Hid (Calls Tryf.prog 14 #[.string s, .string eE] w (Found w)) := Lib.hid (by
    by_cases h : s.size ≤ 8
    · exact idxShort s p hp h hb w
    · exact idxLong s p hp (by omega) hs hb w)
  clear hb
  go_enter Tryf.func10, Tryf.ntmps10
  go_wp2_with fail
  refine H.out.mono ?_
  rintro e w1 ⟨i, rfl, hb⟩
  have HB := Lib.hid hb
  have e1 : decide ((0 : Int) ≤ (i : Int)) = true := by rw [decide_eq_true_eq]; omega
  clear hb
  go_wp2
  go_ret
  exact ⟨by first | rfl | simp, HB.out⟩
end Go.Proofs.YtpbmjomfapnpnaaFmt.PA

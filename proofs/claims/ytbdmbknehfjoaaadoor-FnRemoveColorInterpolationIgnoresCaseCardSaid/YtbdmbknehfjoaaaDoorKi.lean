/- FnRemoveColorInterpolationIgnoresCase: the exported wrapper. -/
import Derived.Test.YtbdmbknehfjoaaaDoorKe
namespace Go.Proofs.YtbdmbknehfjoaaaDoor.ZT
open Go.RowKit Go.Proofs.YtbdmbknehfjoaaaDoor.TB
set_option linter.unusedVariables false
set_option maxRecDepth 100000 in
set_option maxHeartbeats 4000000 in
theorem rem10 (A : Option Addr) (n c : Nat) (K Wf : Nat → Int) (T : Nat → ByteArray) (w : World) (h : TR w A n (tc K T Wf (fun _ => 0))) (hn : n ≤ 65536) (hc : n ≤ c) (hT : ∀ i, i < n → (T i).size ≤ 1048576 ∧ asc (T i) = true) :
    Calls Tryd.prog 10 #[.slice A n c] w (RcP n K T Wf w) := by
  have C13 := Lib.hid (remove13 A n c K Wf T w h hn hc hT)
  clear h hT
  go_enter Tryd.func10, Tryd.ntmps10
  go_wp2_with fail
  refine C13.out.mono ?_
  rintro e w' ⟨hb, ⟨hr, rfl⟩ | ⟨i, d, cc, m, A', cp, hr, hid, rfl, ht⟩⟩
  · have HR := Lib.hid hr
    have HB := Lib.hid hb
    clear hr hb
    go_wp2_with fail
    refine bodyPost_ret (v := .tuple #[.slice none 0 0, .int .u8 0, .int .u8 0, .bool false]) (by simp [results, Tryd.results10, go_sem]; done) rfl ?_
    exact ⟨HB.out, .inl ⟨HR.out, rfl⟩⟩
  · have HR := Lib.hid hr
    have HB := Lib.hid hb
    have HT := Lib.hid ht
    have HI := Lib.hid hid
    clear hr hb ht hid
    go_wp2_with fail
    refine bodyPost_ret (v := .tuple #[.slice (some A') (n - d) cp, .int .u8 cc, .int .u8 m, .bool true]) (by simp [results, Tryd.results10, go_sem]; done) rfl ?_
    exact ⟨HB.out, .inr ⟨i, d, cc, m, A', cp, HR.out, HI.out, rfl, HT.out⟩⟩
end Go.Proofs.YtbdmbknehfjoaaaDoor.ZT

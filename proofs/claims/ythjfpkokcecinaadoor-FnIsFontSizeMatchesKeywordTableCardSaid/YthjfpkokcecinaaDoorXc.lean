/- isFontSize and FnIsFontSizeMatchesKeywordTable, walked. -/
import Derived.Test.YthjfpkokcecinaaDoorXb
import Derived.Deep.RegionHeld3
namespace Go.Proofs.YthjfpkokcecinaaDoor.WA
open Go.RowKit Go.Lib Go.Proofs.YthjfpkokcecinaaDoor.LO Go.Proofs.YthjfpkokcecinaaDoor.TB Go.Proofs.YthjfpkokcecinaaDoor.OW
set_option linter.unusedVariables false
def tok (k : Int) (s : ByteArray) : Array Value := #[.pointer none, .string s, .int .i32 0, .int .u32 0, .int .u16 0, .int .u8 k, .int .u8 0]
def BP (b : Bool) (w : World) (e : Ending) (w' : World) : Prop := e = .returned (.bool b) ∧ Below w.heap.size w w'
set_option maxRecDepth 100000 in
set_option maxHeartbeats 1000000 in
theorem fs_plain (k : Int) (s : ByteArray) (w : World) (b : Bool) (h : ((k == 26) = true ∧ b = true) ∨ ((k == 26) = false ∧ (k == 34) = true ∧ b = true) ∨ ((k == 26) = false ∧ (k == 34) = false ∧ (k == 29) = false ∧ b = false)) :
    Calls Tryd.prog 8 #[.agg (tok k s)] w (BP b w) := by
  unfold tok
  rcases h with ⟨a, rfl⟩ | ⟨a, c, rfl⟩ | ⟨a, c, d, rfl⟩
  all_goals
    go_enter Tryd.func8, Tryd.ntmps8
    go_wp2_with fail
    go_ret
    exact ⟨rfl, (Below.refl _ _).alloc (Nat.le_refl _) _⟩
/-- What holds in the region that looks the word up. -/
def SI (a bm : Nat) (s : ByteArray) (W0 w' : World) : Prop :=
  Below W0.heap.size W0 w' ∧ w'.cell? ⟨0, 0, none⟩ = some (.map (some bm)) ∧ w'.cell? ⟨a, 1, none⟩ = some (.string s) ∧
    (Instr.lookup 38 (.map (some bm)) (.string (low s)) true).run Tryd.prog w' = .ok (.tuple #[.bool (decide ((low s).data.toList ∈ words)), .bool (decide ((low s).data.toList ∈ words))]) w'
set_option maxRecDepth 100000 in
set_option maxHeartbeats 1000000 in
theorem fs_id (s : ByteArray) (w : World) (hs : s.size ≤ 1048576) (hT : Tabs w) :
    Calls Tryd.prog 8 #[.agg (tok 29 s)] w (BP (decide (toLowerD s.data.toList ∈ words)) w) := by
  have B0 := Lib.hid (show Below w.heap.size w (w.alloc (.cells #[.pointer none, .string s, .int .i32 0, .int .u32 0, .int .u16 0, .int .u8 29, .int .u8 0] 32)) from (Below.refl _ _).alloc (Nat.le_refl _) _)
  have HT := Lib.hid (hT.below B0.out)
  have hlow : (low s).size ≤ maxLen := by
    have h1 : (low s).size = (toLowerD s.data.toList).length := by unfold low; simp [ByteArray.size]
    rw [h1]
    have h2 := lowD_len s.data.toList
    rw [← Lib.size_eq] at h2
    unfold maxLen
    omega
  have HL := Lib.hid hlow
  clear hT hlow
  unfold tok
  have x1 : (w.alloc (.cells #[.pointer none, .string s, .int .i32 0, .int .u32 0, .int .u16 0, .int .u8 29, .int .u8 0] 32)).cell? ⟨w.heap.size, 1, none⟩ = some (.string s) := by simp [go_sem]
  have x5 : (w.alloc (.cells #[.pointer none, .string s, .int .i32 0, .int .u32 0, .int .u16 0, .int .u8 29, .int .u8 0] 32)).cell? ⟨w.heap.size, 5, none⟩ = some (.int .u8 29) := by simp [go_sem]
  obtain ⟨bm, m1, m0, m2, m3⟩ := HT.out.2.2
  have hsz : w.heap.size < (w.alloc (.cells #[.pointer none, .string s, .int .i32 0, .int .u32 0, .int .u16 0, .int .u8 29, .int .u8 0] 32)).heap.size := by simp
  have MK := Lib.hid (fun (w' : World) (hB : Below (w.alloc (.cells #[.pointer none, .string s, .int .i32 0, .int .u32 0, .int .u16 0, .int .u8 29, .int .u8 0] 32)).heap.size (w.alloc (.cells #[.pointer none, .string s, .int .i32 0, .int .u32 0, .int .u16 0, .int .u8 29, .int .u8 0] 32)) w') => (show SI w.heap.size bm s (w.alloc (.cells #[.pointer none, .string s, .int .i32 0, .int .u32 0, .int .u16 0, .int .u8 29, .int .u8 0] 32)) w' from
    ⟨hB, by rw [hB.cell m0]; exact m1, by rw [hB.cell hsz]; exact x1, m3 w' (hB.block bm m2) (low s) HL.out⟩))
  have ST := Lib.hid (fun (w1 w2 : World) (h : SI w.heap.size bm s (w.alloc (.cells #[.pointer none, .string s, .int .i32 0, .int .u32 0, .int .u16 0, .int .u8 29, .int .u8 0] 32)) w1) (hb : Below w1.heap.size w1 w2) => MK.out w2 (h.1.trans (hb.mono h.1.size)))
  have TT := Lib.hid (fun (w1 : World) (h : SI w.heap.size bm s (w.alloc (.cells #[.pointer none, .string s, .int .i32 0, .int .u32 0, .int .u16 0, .int .u8 29, .int .u8 0] 32)) w1) => HT.out.below h.1)
  have S0 := Lib.hid (MK.out _ (Below.refl _ _).drew)
  have ed : decide ((low s).data.toList ∈ words) = decide (toLowerD s.data.toList ∈ words) := by unfold low; simp
  have ED := Lib.hid ed
  clear m3 m0 m1 m2 ed HL MK HT
  go_enter Tryd.func8, Tryd.ntmps8
  go_upto_region 4 with (fail)
  clear x1 x5 hsz
  generalize w.alloc (.cells #[.pointer none, .string s, .int .i32 0, .int .u32 0, .int .u16 0, .int .u8 29, .int .u8 0] 32) = W0 at *
  go_region_held3 (fun w' => Below W0.heap.size W0 w' ∧ w'.cell? ⟨0, 0, none⟩ = some (.map (some bm)) ∧ w'.cell? ⟨w.heap.size, 1, none⟩ = some (.string s) ∧
    (Instr.lookup 38 (.map (some bm)) (.string (low s)) true).run Tryd.prog w' = .ok (.tuple #[.bool (decide ((low s).data.toList ∈ words)), .bool (decide ((low s).data.toList ∈ words))]) w')
    (first | assumption | exact S0.out)
    (first
      | (go_at_call 9; refine (lower s _ hs (TT.out _ (by assumption))).mono ?_; rintro e w1 ⟨rfl, hb⟩; have hI := ST.out _ _ (by assumption) hb; unfold SI at hI; clear hb))
  go_wp2_with fail
  go_ret
  exact ⟨by rw [ED.out]; rfl, B0.out.trans ((And.left (show SI w.heap.size bm s W0 _ by assumption)).mono B0.out.size)⟩
end Go.Proofs.YthjfpkokcecinaaDoor.WA

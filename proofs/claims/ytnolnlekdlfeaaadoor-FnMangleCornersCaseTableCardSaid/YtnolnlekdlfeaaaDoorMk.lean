/- FnMangleCornersCaseTable: zzDeclIs. -/
import Derived.Test.YtnolnlekdlfeaaaDoorMj
namespace Go.Proofs.YtnolnlekdlfeaaaDoor.ZT
open Go.RowKit Go.Proofs.YtnolnlekdlfeaaaDoor.TB
set_option linter.unusedVariables false
set_option maxRecDepth 100000 in
theorem eq28 (a a' : Int) (w : World) : (Op.equalIn 9999 28 (.agg #[.int .i32 a]) (.agg #[.int .i32 a'])).run Tryd.prog w = .ok (a == a') w := by
  have hS2 : Tryd.prog.underlying 28 = some (.struct (Tryd.prog.fieldsOf 28)) := by kernel_rfl
  have hp2 : Tryd.prog.stoodInHeld 28 = false := by kernel_rfl
  have hf : (Tryd.prog.fieldsOf 28).toList = [{ name := "Start", type := 21, offset := 0, embedded := false, tag := "", pkgPath := "", byteOffset := 0 }] := by kernel_rfl
  have u21 := Tryd.underlying21
  have a21 := Tryd.isAgg21
  have z21 := Tryd.sizeOf21
  rw [show (9999 : Nat) = 9998 + 1 from rfl, run_equalIn_agg w 9998 28 _ _ hS2 hp2, hf]
  simp only [Op.eqFields]
  go_simp
  by_cases h1 : a = a' <;> simp [h1]
set_option maxRecDepth 100000 in
theorem eq30 (a b a' b' : Int) (w : World) : (Op.equalIn 10000 30 (.agg #[.int .i32 a, .int .i32 b]) (.agg #[.int .i32 a', .int .i32 b'])).run Tryd.prog w = .ok (a == a' && b == b') w := by
  have hS : Tryd.prog.underlying 30 = some (.struct (Tryd.prog.fieldsOf 30)) := by kernel_rfl
  have hp : Tryd.prog.stoodInHeld 30 = false := by kernel_rfl
  have hf : (Tryd.prog.fieldsOf 30).toList = [{ name := "Loc", type := 28, offset := 0, embedded := false, tag := "", pkgPath := "", byteOffset := 0 }, { name := "Len", type := 21, offset := 1, embedded := false, tag := "", pkgPath := "", byteOffset := 4 }] := by kernel_rfl
  have u21 := Tryd.underlying21
  have a21 := Tryd.isAgg21
  have z21 := Tryd.sizeOf21
  have a28 := Tryd.isAgg28
  have z28 := Tryd.sizeOf28
  have e28 := eq28
  rw [show (10000 : Nat) = 9999 + 1 from rfl, run_equalIn_agg w 9999 30 _ _ hS hp, hf]
  simp only [Op.eqFields]
  go_simp
  by_cases h1 : a = a' <;> by_cases h2 : b = b' <;> simp [h1, h2]
set_option maxRecDepth 100000 in
set_option maxHeartbeats 4000000 in
theorem decl13 (d : Nat) (l : Int) (V : Value) (im : Bool) (w : World) (hd : Blk w d 40 #[.string ⟨#[98, 111, 114, 100, 101, 114, 45, 114, 97, 100, 105, 117, 115]⟩, V, .int .i32 l, .int .i32 13, .int .u16 66, .bool im]) : Calls Tryd.prog 13 #[.pointer (some ⟨d, 0, none⟩), .agg #[.int .i32 l, .int .i32 13], .bool im] w fun e w' => e = .returned (.bool true) ∧ Below w.heap.size w w' := by
  have c0 : w.cell? ⟨d, 0, none⟩ = some (.string ⟨#[98, 111, 114, 100, 101, 114, 45, 114, 97, 100, 105, 117, 115]⟩) := hd.cell 0
  have c2 : w.cell? ⟨d, 2, none⟩ = some (.int .i32 l) := hd.cell 2
  have c3 : w.cell? ⟨d, 3, none⟩ = some (.int .i32 13) := hd.cell 3
  have c4 : w.cell? ⟨d, 4, none⟩ = some (.int .u16 66) := hd.cell 4
  have c5 : w.cell? ⟨d, 5, none⟩ = some (.bool im) := hd.cell 5
  have hlt := hd.lt
  have ne : ¬ d = w.heap.size := by omega
  have ne2 : ¬ w.heap.size = d := by omega
  have e30 := eq30
  clear hd
  go_enter Tryd.func13, Tryd.ntmps13
  go_wp2_with fail
  go_quiet (fail)
  go_wp2_with fail
  go_ret
  exact ⟨by simp, ((Below.refl _ _).alloc (Nat.le_refl _) _).trans ⟨rfl, rfl, rfl, Nat.le_refl _, fun _ _ => rfl⟩⟩
end Go.Proofs.YtnolnlekdlfeaaaDoor.ZT

/- FnRemoveColorInterpolationIgnoresCase: the plain law: capitals don't matter. -/
import Derived.Test.YtbdmbknehfjoaaaDoorKd
namespace Go.Proofs.YtbdmbknehfjoaaaDoor.ZT
open Go.RowKit Go.Proofs.YtbdmbknehfjoaaaDoor.TB
theorem fold_up (x y : UInt8) : Lib.foldEq (upB x) y = Lib.foldEq x y := by
  unfold Lib.foldEq
  rw [decide_eq_decide, up_at]
  split <;> omega
theorem fold_ups : ∀ s t : List UInt8, Lib.equalFold (s.map upB) t = Lib.equalFold s t
  | [], [] => rfl
  | [], _ :: _ => rfl
  | _ :: _, [] => rfl
  | x :: s, y :: t => by
    show (Lib.foldEq (upB x) y && Lib.equalFold (s.map upB) t) = (Lib.foldEq x y && Lib.equalFold s t)
    rw [fold_up, fold_ups s t]
theorem low_tab : ∀ i : Fin 256, Lib.lowerB (upB (UInt8.ofNat i.val)) = Lib.lowerB (UInt8.ofNat i.val) := by decide +kernel
theorem low_up (x : UInt8) : Lib.lowerB (upB x) = Lib.lowerB x := by
  have h := low_tab ⟨x.toNat, x.toNat_lt⟩
  simpa using h
theorem low_ups (s : ByteArray) : lowS (upS s) = lowS s := by
  show (⟨(Lib.toLowerA ((s.data.toList.map upB).toArray).toList).toArray⟩ : ByteArray) = ⟨(Lib.toLowerA s.data.toList).toArray⟩
  have e : Lib.toLowerA ((s.data.toList.map upB).toArray).toList = Lib.toLowerA s.data.toList := by
    show List.map Lib.lowerB (s.data.toList.map upB) = List.map Lib.lowerB s.data.toList
    rw [List.map_map]
    exact List.map_congr_left fun x _ => low_up x
  rw [e]
theorem fold_upS (s : ByteArray) (l : List UInt8) : Lib.equalFold (upS s).data.toList l = Lib.equalFold s.data.toList l := fold_ups s.data.toList l
theorem rc_up (n : Nat) (K : Nat → Int) (T : Nat → ByteArray) : rc n K (fun i => upS (T i)) = rc n K T := by
  have h1 : hit K (fun i => upS (T i)) = hit K T := by
    funext i
    unfold hit
    rw [fold_upS]
  have h2 : hue n K (fun i => upS (T i)) = hue n K T := by
    funext i c
    unfold hue
    rw [fold_upS]
  have h3 : fin n K (fun i => upS (T i)) = fin n K T := by
    funext i
    unfold fin
    rw [low_ups, low_ups, h2]
  unfold rc
  rw [h1, h3]
theorem asc_up (s : ByteArray) (h : asc s = true) : asc (upS s) = true := by
  unfold asc at h ⊢
  rw [List.all_eq_true] at h ⊢
  intro b hb
  obtain ⟨x, hx, rfl⟩ := List.mem_map.1 (show b ∈ s.data.toList.map upB from hb)
  have h1 := of_decide_eq_true (h x hx)
  apply decide_eq_true
  rw [up_at]
  split <;> omega
theorem size_up (s : ByteArray) : (upS s).size = s.size := by
  show ((s.data.toList.map upB).toArray).size = s.data.size
  simp
end Go.Proofs.YtbdmbknehfjoaaaDoor.ZT

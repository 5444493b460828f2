/- The rounds of both compressions (s), checked: they are alike. -/
import Derived.Test.YtjhndmlpcpbaoaaDoorSegHS
namespace Go.Proofs.YtjhndmlpcpbaoaaDoor
open Go Go.Sx Go.Proofs
set_option maxRecDepth 100000
theorem rndS0 : rndS 0 = true := by kernel_rfl
theorem rndS1 : rndS 1 = true := by kernel_rfl
theorem rndS2 : rndS 2 = true := by kernel_rfl
theorem rndS3 : rndS 3 = true := by kernel_rfl
theorem rndS4 : rndS 4 = true := by kernel_rfl
theorem rndS5 : rndS 5 = true := by kernel_rfl
theorem rndS6 : rndS 6 = true := by kernel_rfl
theorem rndS7 : rndS 7 = true := by kernel_rfl
theorem rndS8 : rndS 8 = true := by kernel_rfl
theorem rndS9 : rndS 9 = true := by kernel_rfl
theorem rndS_all (t : Nat) (h : t < 10) : rndS t = true :=
  match t, h with
  | 0, _ => rndS0
  | 1, _ => rndS1
  | 2, _ => rndS2
  | 3, _ => rndS3
  | 4, _ => rndS4
  | 5, _ => rndS5
  | 6, _ => rndS6
  | 7, _ => rndS7
  | 8, _ => rndS8
  | 9, _ => rndS9
end Go.Proofs.YtjhndmlpcpbaoaaDoor

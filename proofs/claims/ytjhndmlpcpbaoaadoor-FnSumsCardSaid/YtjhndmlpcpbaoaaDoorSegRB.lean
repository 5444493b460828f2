/- The rounds of both compressions (b), checked: they are alike. -/
import Derived.Test.YtjhndmlpcpbaoaaDoorSegHB
namespace Go.Proofs.YtjhndmlpcpbaoaaDoor
open Go Go.Sx Go.Proofs
set_option maxRecDepth 100000
theorem rndB0 : rndB 0 = true := by kernel_rfl
theorem rndB1 : rndB 1 = true := by kernel_rfl
theorem rndB2 : rndB 2 = true := by kernel_rfl
theorem rndB3 : rndB 3 = true := by kernel_rfl
theorem rndB4 : rndB 4 = true := by kernel_rfl
theorem rndB5 : rndB 5 = true := by kernel_rfl
theorem rndB6 : rndB 6 = true := by kernel_rfl
theorem rndB7 : rndB 7 = true := by kernel_rfl
theorem rndB8 : rndB 8 = true := by kernel_rfl
theorem rndB9 : rndB 9 = true := by kernel_rfl
theorem rndB10 : rndB 10 = true := by kernel_rfl
theorem rndB11 : rndB 11 = true := by kernel_rfl
theorem rndB_all (t : Nat) (h : t < 12) : rndB t = true :=
  match t, h with
  | 0, _ => rndB0
  | 1, _ => rndB1
  | 2, _ => rndB2
  | 3, _ => rndB3
  | 4, _ => rndB4
  | 5, _ => rndB5
  | 6, _ => rndB6
  | 7, _ => rndB7
  | 8, _ => rndB8
  | 9, _ => rndB9
  | 10, _ => rndB10
  | 11, _ => rndB11
end Go.Proofs.YtjhndmlpcpbaoaaDoor

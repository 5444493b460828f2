/- The walks: the methods, New256, New512, impl.Sizes, the law. -/
import Derived.Test.YtdhnmhefdmlbiaaDoorNew
import Derived.Test.YtdhnmhefdmlbiaaDoorRows
import Derived.WalkKit
import Derived.WalkSpells
import Derived.WalkLawsBesides
import Derived.Below
namespace Go.Proofs.YtdhnmhefdmlbiaaDoor
open Go.RowKit
set_option maxHeartbeats 1000000 in
theorem size_s (b o : Nat) (n : Int) (w : World) (h : w.cell? ⟨b, o + 10, none⟩ = some (.int .i64 n)) :
    Calls Tryd.prog 28 #[.pointer (some ⟨b, o, none⟩)] w fun e w' => e = .returned (.int .i64 n) ∧ w' = w := by
  go_enter Tryd.func28, Tryd.ntmps28
  go_wp2
  go_ret
  exact ⟨rfl, rfl⟩
set_option maxHeartbeats 1000000 in
theorem bs_s (v : Value) (w : World) :
    Calls Tryd.prog 27 #[v] w fun e w' => e = .returned (.int .i64 64) ∧ w' = w := by
  go_enter Tryd.func27, Tryd.ntmps27
  go_wp2
  go_ret
  exact ⟨rfl, rfl⟩
set_option maxHeartbeats 1000000 in
theorem size_b (b o : Nat) (n : Int) (w : World) (h : w.cell? ⟨b, o + 10, none⟩ = some (.int .i64 n)) :
    Calls Tryd.prog 32 #[.pointer (some ⟨b, o, none⟩)] w fun e w' => e = .returned (.int .i64 n) ∧ w' = w := by
  go_enter Tryd.func32, Tryd.ntmps32
  go_wp2
  go_ret
  exact ⟨rfl, rfl⟩
set_option maxHeartbeats 1000000 in
theorem bs_b (v : Value) (w : World) :
    Calls Tryd.prog 31 #[v] w fun e w' => e = .returned (.int .i64 128) ∧ w' = w := by
  go_enter Tryd.func31, Tryd.ntmps31
  go_wp2
  go_ret
  exact ⟨rfl, rfl⟩
set_option maxHeartbeats 1000000 in
theorem new256 (w : World) (hlt : 3 < w.heap.size) (hcell : ∀ ρ (i : Nat) x, ivS[i]? = some x → w.cell? ⟨3, i, none⟩ = some (Sx.FV.den ρ x)) :
    Calls Tryd.prog 5 #[.slice none 0 0] w fun e w' => ∃ b o, e = .returned (.tuple #[.iface 33 (.pointer (some ⟨b, o, none⟩)), .nilIface]) ∧ w'.cell? ⟨b, o + 10, none⟩ = some (.int .i64 32) ∧ Below w.heap.size w w' := by
  have hn := new_s w hlt hcell
  clear hcell hlt
  go_enter Tryd.func5, Tryd.ntmps5
  go_wp2_with (go_at_call 7; refine hn.mono ?_; rintro _ w1 ⟨b, o, rfl, hc, hB⟩)
  go_ret2
  exact ⟨b, o, rfl, hc, hB⟩
set_option maxHeartbeats 1000000 in
theorem new512 (w : World) (hlt : 4 < w.heap.size) (hcell : ∀ ρ (i : Nat) x, ivB[i]? = some x → w.cell? ⟨4, i, none⟩ = some (Sx.FV.den ρ x)) :
    Calls Tryd.prog 6 #[.slice none 0 0] w fun e w' => ∃ b o, e = .returned (.tuple #[.iface 36 (.pointer (some ⟨b, o, none⟩)), .nilIface]) ∧ w'.cell? ⟨b, o + 10, none⟩ = some (.int .i64 64) ∧ Below w.heap.size w w' := by
  have hn := new_b w hlt hcell
  clear hcell hlt
  go_enter Tryd.func6, Tryd.ntmps6
  go_wp2_with (go_at_call 8; refine hn.mono ?_; rintro _ w1 ⟨b, o, rfl, hc, hB⟩)
  go_ret2
  exact ⟨b, o, rfl, hc, hB⟩

/-- Which functions the methods are. -/
theorem m_size_s (b o : Nat) (w : World) : (method 174 33 (.pointer (some ⟨b, o, none⟩)) "Size").run Tryd.prog w = .ok (28, .pointer (some ⟨b, o, none⟩)) w := by kernel_rfl
theorem m_bs_s (b o : Nat) (w : World) : (method 174 33 (.pointer (some ⟨b, o, none⟩)) "BlockSize").run Tryd.prog w = .ok (27, .pointer (some ⟨b, o, none⟩)) w := by kernel_rfl
theorem m_size_b (b o : Nat) (w : World) : (method 174 36 (.pointer (some ⟨b, o, none⟩)) "Size").run Tryd.prog w = .ok (32, .pointer (some ⟨b, o, none⟩)) w := by kernel_rfl
theorem m_bs_b (b o : Nat) (w : World) : (method 174 36 (.pointer (some ⟨b, o, none⟩)) "BlockSize").run Tryd.prog w = .ok (31, .pointer (some ⟨b, o, none⟩)) w := by kernel_rfl

set_option maxHeartbeats 1000000 in
theorem sizes_s (w : World) (hlt : 3 < w.heap.size) (hcell : ∀ ρ (i : Nat) x, ivS[i]? = some x → w.cell? ⟨3, i, none⟩ = some (Sx.FV.den ρ x)) :
    Calls Tryd.prog 4 #[.bool true] w fun e w' => e = .returned (.tuple #[.int .i64 32, .int .i64 64]) ∧ Below w.heap.size w w' := by
  have hn := new256 w hlt hcell
  have m1 := m_size_s
  have m2 := m_bs_s
  clear hcell hlt
  go_enter Tryd.func4, Tryd.ntmps4
  go_wp2_with (first | (go_at_call 5; refine hn.mono ?_; rintro _ w1 ⟨b, o, rfl, hc, hB⟩) | (go_at_call 28; refine (size_s _ _ _ _ hc).mono ?_; rintro _ w2 ⟨rfl, rfl⟩) | (go_at_call 27; refine (bs_s _ _).mono ?_; rintro _ w3 ⟨rfl, rfl⟩))
  go_ret2
  exact ⟨rfl, hB⟩
set_option maxHeartbeats 1000000 in
theorem sizes_b (w : World) (hlt : 4 < w.heap.size) (hcell : ∀ ρ (i : Nat) x, ivB[i]? = some x → w.cell? ⟨4, i, none⟩ = some (Sx.FV.den ρ x)) :
    Calls Tryd.prog 4 #[.bool false] w fun e w' => e = .returned (.tuple #[.int .i64 64, .int .i64 128]) ∧ Below w.heap.size w w' := by
  have hn := new512 w hlt hcell
  have m1 := m_size_b
  have m2 := m_bs_b
  clear hcell hlt
  go_enter Tryd.func4, Tryd.ntmps4
  go_wp2_with (first | (go_at_call 6; refine hn.mono ?_; rintro _ w1 ⟨b, o, rfl, hc, hB⟩) | (go_at_call 32; refine (size_b _ _ _ _ hc).mono ?_; rintro _ w2 ⟨rfl, rfl⟩) | (go_at_call 31; refine (bs_b _ _).mono ?_; rintro _ w3 ⟨rfl, rfl⟩))
  go_ret2
  exact ⟨rfl, hB⟩

set_option maxHeartbeats 1000000 in
theorem law_true (w : World) (hlt : 3 < w.heap.size) (hcell : ∀ ρ (i : Nat) x, ivS[i]? = some x → w.cell? ⟨3, i, none⟩ = some (Sx.FV.den ρ x)) :
    Calls Tryd.prog 3 #[.bool true] w fun e w' => e = .returned (.bool true) ∧ Below w.heap.size w w' := by
  have hn := sizes_s w hlt hcell
  clear hcell hlt
  go_enter Tryd.func3, Tryd.ntmps3
  go_wp2_with (go_at_call 4; refine hn.mono ?_; rintro _ w1 ⟨rfl, hB⟩)
  go_ret
  exact ⟨rfl, hB⟩
set_option maxHeartbeats 1000000 in
theorem law_false (w : World) (hlt : 4 < w.heap.size) (hcell : ∀ ρ (i : Nat) x, ivB[i]? = some x → w.cell? ⟨4, i, none⟩ = some (Sx.FV.den ρ x)) :
    Calls Tryd.prog 3 #[.bool false] w fun e w' => e = .returned (.bool true) ∧ Below w.heap.size w w' := by
  have hn := sizes_b w hlt hcell
  clear hcell hlt
  go_enter Tryd.func3, Tryd.ntmps3
  go_wp2_with (go_at_call 4; refine hn.mono ?_; rintro _ w1 ⟨rfl, hB⟩)
  go_ret
  exact ⟨rfl, hB⟩
end Go.Proofs.YtdhnmhefdmlbiaaDoor

/- The law where a length is not the one that is asked. -/
import Derived.Test.YtgoogcbibcgcmaaRows
import Derived.WalkKit
import Derived.WalkSpells
import Derived.WalkLawsBesides
namespace Go.Proofs.Ytgoogcbibcgcmaa
open Go.RowKit

set_option maxHeartbeats 1000000 in
theorem impl_off (a0 a1 a2 : Option Addr) (l0 c0 l1 c1 l2 c2 : Nat) (w : World) (h : ¬ (l0 = 16 ∧ l1 = 32 ∧ l2 = 16)) :
    Calls Try.prog 4 #[.slice a0 l0 c0, .slice a1 l1 c1, .slice a2 l2 c2] w fun e w' => e = .returned (.slice none 0 0) ∧ w' = w := by
  by_cases h0 : l0 = 16
  · by_cases h1 : l1 = 32
    · have h2 : ¬ l2 = 16 := fun h2 => h ⟨h0, h1, h2⟩
      subst h0 h1
      clear h
      go_enter Try.func4, Try.ntmps4
      go_wp2
      all_goals go_ret
      all_goals exact ⟨rfl, rfl⟩
    · subst h0
      clear h
      go_enter Try.func4, Try.ntmps4
      go_wp2
      all_goals go_ret
      all_goals exact ⟨rfl, rfl⟩
  · clear h
    go_enter Try.func4, Try.ntmps4
    go_wp2
    all_goals go_ret
    all_goals exact ⟨rfl, rfl⟩

set_option maxHeartbeats 1000000 in
theorem law_off (a0 a1 a2 : Option Addr) (l0 c0 l1 c1 l2 c2 : Nat) (w : World) (h : ¬ (l0 = 16 ∧ l1 = 32 ∧ l2 = 16)) :
    Calls Try.prog 3 #[.slice a0 l0 c0, .slice a1 l1 c1, .slice a2 l2 c2] w fun e w' => e = .returned (.bool true) ∧ w' = w := by
  have hi := impl_off a0 a1 a2 l0 c0 l1 c1 l2 c2 w h
  by_cases g0 : (l0 : Int) > 2147483647
  · clear h hi
    go_enter Try.func3, Try.ntmps3
    go_wp2
    all_goals go_ret
    all_goals exact ⟨rfl, rfl⟩
  by_cases g1 : (l1 : Int) > 2147483647
  · clear h hi
    go_enter Try.func3, Try.ntmps3
    go_wp2
    all_goals go_ret
    all_goals exact ⟨rfl, rfl⟩
  by_cases g2 : (l2 : Int) > 2147483647
  · clear h hi
    go_enter Try.func3, Try.ntmps3
    go_wp2
    all_goals go_ret
    all_goals exact ⟨rfl, rfl⟩
  by_cases h0 : l0 = 16
  · by_cases h1 : l1 = 32
    · have h2 : ¬ l2 = 16 := fun h2 => h ⟨h0, h1, h2⟩
      subst h0 h1
      clear h
      go_enter Try.func3, Try.ntmps3
      go_wp2_with (go_at_call 4; refine hi.mono ?_; rintro _ _ ⟨rfl, rfl⟩)
      all_goals go_ret
      all_goals exact ⟨rfl, rfl⟩
    · subst h0
      clear h
      go_enter Try.func3, Try.ntmps3
      go_wp2_with (go_at_call 4; refine hi.mono ?_; rintro _ _ ⟨rfl, rfl⟩)
      all_goals go_ret
      all_goals exact ⟨rfl, rfl⟩
  · clear h
    go_enter Try.func3, Try.ntmps3
    go_wp2_with (go_at_call 4; refine hi.mono ?_; rintro _ _ ⟨rfl, rfl⟩)
    all_goals go_ret
    all_goals exact ⟨rfl, rfl⟩
end Go.Proofs.Ytgoogcbibcgcmaa

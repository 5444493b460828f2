/- laws.same over two slices whose bytes are alike. -/
import Derived.Test.YtgoogcbibcgcmaaRows
import Derived.WalkKit
import Derived.WalkSpells
import Derived.WalkLawsBesides
import Derived.Laws.IdiomStrings
namespace Go.Proofs.Ytgoogcbibcgcmaa
open Go.RowKit

theorem str_of (w : World) (A : Addr) (c : Nat) (xs : List Int) (h : ∀ j x, xs[j]? = some x → w.cell? (A.add j) = some (.int .u8 x)) :
    (convert 22 9 (.slice (some A) xs.length c)).run Try.prog w = .ok (.string (xs.foldl (fun r n => r.push (UInt8.ofNat n.toNat)) ByteArray.empty)) w := by
  rw [run_convert_bytes_string (P := Try.prog) w 22 9 5 (some A) xs.length c (by kernel_rfl) (by kernel_rfl) (by kernel_rfl)]
  have hl := run_loadCells_list (P := Try.prog) w A (xs.map (Value.int .u8)) (fun j v hj => by
    rw [List.getElem?_map] at hj
    cases hx : xs[j]? with
    | none => rw [hx] at hj; cases hj
    | some x =>
      rw [hx] at hj
      have hj : Value.int .u8 x = v := by simpa using hj
      rw [← hj]
      exact h j x hx)
  rw [List.length_map] at hl
  exact run_bytesToString w A xs.length c _ hl

set_option maxHeartbeats 400000 in
theorem same_calls (w : World) (A B : Addr) (c d : Nat) (xs : List Int) (h1 : ∀ j x, xs[j]? = some x → w.cell? (A.add j) = some (.int .u8 x)) (h2 : ∀ j x, xs[j]? = some x → w.cell? (B.add j) = some (.int .u8 x)) :
    Calls Try.prog 5 #[.slice (some A) xs.length c, .slice (some B) xs.length d] w fun e w' => e = .returned (.bool true) ∧ w' = w := by
  have e1 := str_of w A c xs h1
  have e2 := str_of w B d xs h2
  clear h1 h2
  generalize xs.foldl (fun r n => r.push (UInt8.ofNat n.toNat)) ByteArray.empty = S at e1 e2
  go_enter Try.func5, Try.ntmps5
  go_wp2
  go_ret
  exact ⟨rfl, rfl⟩
end Go.Proofs.Ytgoogcbibcgcmaa

/- Proved: the tied card of laws.FnSizes: it returns true (the sizes and block sizes of the hashes without a key are those of RFC 7693), and its argument and the five named variables read afterwards as they read before; the five variables start as the program's text lays them (the tie is given). Conditions: none beyond the row's own cells. -/
import Derived.Test.YtdhnmhefdmlbiaaDoorSizes
import Derived.Test.YtdhnmhefdmlbiaaDoorTie
import Derived.Test.YtdhnmhefdmlbiaaDoorCards
import Derived.SevenTiedAt
namespace Go.Proofs.YtdhnmhefdmlbiaaDoor
open Go

theorem fnSizesCard_holds : Rows.FnSizesCardSaid :=
  Claim7.holds_tied_plain_at .later [] [.sentinel, .sentinel, .data, .sentinel, .data] true (true, "b3ad5f1c106370e903c339cc96acb1ce1f2039fb35c80b8e178417d147c1e439") false
    fnSizes_holds (fun _ h => by cases h) (by kernel_rfl) (fun _ h => by cases h) fnSizes_row_tie rfl ⟨rfl, rfl⟩ (by kernel_rfl) rfl
    (fun f fn hf hfn => by
      obtain rfl : f = 3 := Option.some.inj ((show Tryd.prog.funcNamed "loop.example/pub-g03123/laws.FnSizes" = some 3 by kernel_rfl).symm.trans hf) |>.symm
      obtain rfl : fn = Tryd.f3 := (Option.some.inj (Tryd.func3.symm.trans hfn)).symm
      exact ⟨by kernel_rfl, fun j t ht => by
        rw [Tryd.params3] at ht
        have hm : t ∈ [4] := by simpa using Array.mem_of_getElem? ht
        have hall : ([4].all fun u => !Tryd.prog.wantsStandIn u) = true := by kernel_rfl
        exact (show Tryd.prog.wantsStandIn t = false by simpa using List.all_eq_true.1 hall t hm)⟩)
    (by kernel_rfl)
end Go.Proofs.YtdhnmhefdmlbiaaDoor

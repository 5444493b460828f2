/- Proved: the tied card of laws.FnSums: it returns true for every slice of bytes (impl's BLAKE2b sums of 64, 48 and 32 bytes and its BLAKE2s sum of 32 bytes are those of the set's own reference of RFC 7693; past 2^20 bytes it answers true at once), and its argument and the four named variables read afterwards as they read before; the four variables start as the program's text lays them (the tie is given). Conditions: none beyond the row's own cells. -/
import Derived.Test.YtjhndmlpcpbaoaaDoorSums
import Derived.Test.YtjhndmlpcpbaoaaDoorTie
import Derived.Test.YtjhndmlpcpbaoaaDoorCards
import Derived.SevenTiedAt
namespace Go.Proofs.YtjhndmlpcpbaoaaDoor
open Go

theorem fnSumsCard_holds : Rows.FnSumsCardSaid :=
  Claim7.holds_tied_plain_at .later [] [.data, .widerDeep, .data, .widerDeep] true (true, "c48d76251ca81116ab15ee9ce46d095b3470f4b3e575ea33558cd5abb8553c1f") false
    fnSums_holds (fun _ h => by cases h) (by kernel_rfl) (fun _ h => by cases h) fnSums_row_tie rfl ⟨rfl, rfl⟩ (by kernel_rfl) rfl
    (fun f fn hf hfn => by
      obtain rfl : f = 3 := Option.some.inj ((show Tryd.prog.funcNamed "loop.example/pub-g03123/laws.FnSums" = some 3 by kernel_rfl).symm.trans hf) |>.symm
      obtain rfl : fn = Tryd.f3 := (Option.some.inj (Tryd.func3.symm.trans hfn)).symm
      exact ⟨by kernel_rfl, fun j t ht => by
        rw [Tryd.params3] at ht
        have hm : t ∈ [22] := by simpa using Array.mem_of_getElem? ht
        have hall : ([22].all fun u => !Tryd.prog.wantsStandIn u) = true := by kernel_rfl
        exact (show Tryd.prog.wantsStandIn t = false by simpa using List.all_eq_true.1 hall t hm)⟩)
    (by kernel_rfl)
end Go.Proofs.YtjhndmlpcpbaoaaDoor

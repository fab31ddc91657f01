/- The lines of a JSON-lines text, read by ForEachLine one by one, are the values that Parse reads of the same text from where the last one ended; each is alike to itself as an element of the list, is what the spec's own reader reads, and its raw text is that part of the text: the law FnGjAnyLines returns true for every list of lines. Conditions: the fourteen listed library and package variables read as the program's own text lays them (tied). -/
import Derived.Test.YtgiioglmkogpkaaGreatDoorZf
import Derived.Test.YtgiioglmkogpkaaGreatDoorCards
import Derived.Test.YtgiioglmkogpkaaGreatDoorTie
import Derived.SevenTiedAt
set_option linter.unusedVariables false
set_option linter.unusedSimpArgs false
namespace Go.Proofs.YtgiioglmkogpkaaGreatDoor
open Go
theorem fnGjAnyLines_card_holds : Rows.FnGjAnyLinesCardSaid :=
 Claim7.holds_tied_plain_at .later [] [.data, .data, .widerDeep, .widerDeep, .data, .data, .data, .data, .data, .sentinel, .sentinel, .data, .pinned, .pinned] true (true, "e543991e214f638238298962cd9473e167b1e9bdb8297f3fb2c64e4ad1769b38") true
  fnGjAnyLines.holds (fun _ h => by cases h) (by kernel_rfl) (fun _ h => by cases h) fnGjAnyLines_row_tie rfl ⟨rfl, rfl⟩ (by kernel_rfl) rfl
  (fun f fn hf hfn => by
   obtain rfl : f = 4 := Option.some.inj ((show Tryz.prog.funcNamed "pub-tetrapla/laws.FnGjAnyLines" = some 4 by kernel_rfl).symm.trans hf) |>.symm
   obtain rfl : fn = Tryz.f4 := (Option.some.inj (Tryz.func4.symm.trans hfn)).symm
   exact ⟨by kernel_rfl, fun j t ht => by
    rw [Tryz.params4] at ht
    have hm : t ∈ [22] := by simpa using Array.mem_of_getElem? ht
    have hall : ([22].all fun u => !Tryz.prog.wantsStandIn u) = true := by kernel_rfl
    exact (show Tryz.prog.wantsStandIn t = false by simpa using List.all_eq_true.1 hall t hm)⟩)
  (by kernel_rfl)
end Go.Proofs.YtgiioglmkogpkaaGreatDoor

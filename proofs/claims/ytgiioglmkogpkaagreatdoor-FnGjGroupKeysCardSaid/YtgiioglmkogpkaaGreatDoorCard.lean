/- Each object that the function of @group makes of an object of arrays of one length (text that the spec reads, without blanks around it, names each but once, halves paired, at most 65536 bytes) has the names of that object, and there are as many as the arrays are long: the law FnGjGroupKeys returns true for every text. Conditions: the fourteen listed library and package variables read as the program's own text lays them (tied). -/
import Derived.Test.YtgiioglmkogpkaaGreatDoorZg
import Derived.Test.YtgiioglmkogpkaaGreatDoorCards
import Derived.Test.YtgiioglmkogpkaaGreatDoorTie
import Derived.SevenTiedAt
set_option linter.unusedVariables false
set_option linter.unusedSimpArgs false
namespace Go.Proofs.YtgiioglmkogpkaaGreatDoor
open Go
theorem fnGjGroupKeys_card_holds : Rows.FnGjGroupKeysCardSaid :=
 Claim7.holds_tied_plain_at .later [] [.data, .data, .widerDeep, .widerDeep, .data, .data, .data, .data, .data, .sentinel, .sentinel, .data, .pinned, .pinned] true (true, "e543991e214f638238298962cd9473e167b1e9bdb8297f3fb2c64e4ad1769b38") true
  fnGjGroupKeys.holds (fun _ h => by cases h) (by kernel_rfl) (fun _ h => by cases h) fnGjGroupKeys_row_tie rfl ⟨rfl, rfl⟩ (by kernel_rfl) rfl
  (fun f fn hf hfn => by
   obtain rfl : f = 5 := Option.some.inj ((show Tryz.prog.funcNamed "pub-tetrapla/laws.FnGjGroupKeys" = some 5 by kernel_rfl).symm.trans hf) |>.symm
   obtain rfl : fn = Tryz.f5 := (Option.some.inj (Tryz.func5.symm.trans hfn)).symm
   exact ⟨by kernel_rfl, fun j t ht => by
    rw [Tryz.params5] at ht
    have hm : t ∈ [9] := by simpa using Array.mem_of_getElem? ht
    have hall : ([9].all fun u => !Tryz.prog.wantsStandIn u) = true := by kernel_rfl
    exact (show Tryz.prog.wantsStandIn t = false by simpa using List.all_eq_true.1 hall t hm)⟩)
  (by kernel_rfl)
end Go.Proofs.YtgiioglmkogpkaaGreatDoor

/- Texts behind the law FnGjString: part 5. -/
import Derived.Test.YtgiioglmkogpkaaGreatDoorZa
import Derived.Test.YtgiioglmkogpkaaGreatDoorZd
import Derived.Lib.LazyBuf
import Derived.Test.YtgiioglmkogpkaaGreatDoorZb
import Derived.Deep.RegionHeld3
set_option linter.unusedVariables false
set_option linter.unusedSimpArgs false
namespace Go.Proofs.YtgiioglmkogpkaaGreatDoor.M
open Go.RowKit Go.Proofs.YtgiioglmkogpkaaGreatDoorW.PrintWords Go.Proofs.YtgiioglmkogpkaaGreatDoorW.PrintLast Go.Proofs.YtgiioglmkogpkaaGreatDoorW.PrintMore
set_option maxHeartbeats 8000000
set_option maxRecDepth 100000
attribute [local go_sem] max2_int min2_int max_two min_two max_three min_three max_four min_four
mutual
def spec_Tree.j0 : Nat → ByteArray → Int → Int → Int → List (S115) → List (S78) → Int → ByteArray → Option (Int × ByteArray × List ByteArray × (List (S25)))
 | 0, _, _, _, _, _, _, _, _ => none
 | k + 1, x0, x341000, x341001, x341002, x341003, x341004, x343000, x343001 => spec_Tree.l0 k x0 0 x341000 x341001 x341002 x341003 x341004 x343000 x343001 ([] : List ByteArray)
def spec_Tree.l0 : Nat → ByteArray → Int → Int → Int → Int → List (S115) → List (S78) → Int → ByteArray → List ByteArray → Option (Int × ByteArray × List ByteArray × (List (S25)))
 | 0, _, _, _, _, _, _, _, _, _, _ => none
 | k + 1, x0, x6, x341000, x341001, x341002, x341003, x341004, x343000, x343001, x343002 => if x6 < (x341003.length : Int) then (if 0 ≤ x6 then (if 0 ≤ ((rd_T115 x341003 x6).f0) then (if ((rd_T115 x341003 x6).f0) ≤ ((rd_T115 x341003 x6).f1) then (if ((rd_T115 x341003 x6).f1) ≤ (x0.size : Int) then ((spec_Unquote.f k (x0.extract (((rd_T115 x341003 x6).f0) : Int).toNat (((rd_T115 x341003 x6).f1) : Int).toNat)).bind fun t346 => (if x343002.length < 8796093022208 then (spec_Tree.l0 k x0 (wrap64 (x6 + 1)) x341000 x341001 x341002 x341003 x341004 x343000 x343001 (x343002 ++ [t346])) else (none))) else (none)) else (none)) else (none)) else (none)) else (spec_Tree.l1 k x0 0 x341000 x341001 x341002 x341003 x341004 x343000 x343001 x343002 ([] : List (S25)))
def spec_Tree.l1 : Nat → ByteArray → Int → Int → Int → Int → List (S115) → List (S78) → Int → ByteArray → List ByteArray → List (S25) → Option (Int × ByteArray × List ByteArray × (List (S25)))
 | 0, _, _, _, _, _, _, _, _, _, _, _ => none
 | k + 1, x0, x7, x341000, x341001, x341002, x341003, x341004, x343000, x343001, x343002, x343003 => if x7 < (x341004.length : Int) then (if 0 ≤ x7 then ((spec_Tree.f k x0 ((rd_T78 x341004 x7).f0) ((rd_T78 x341004 x7).f1) ((rd_T78 x341004 x7).f2) ((rd_T78 x341004 x7).f3) ((rd_T78 x341004 x7).f4)).bind fun bt351 => (if x343003.length < 1954687338268 then (spec_Tree.l1 k x0 (wrap64 (x7 + 1)) x341000 x341001 x341002 x341003 x341004 x343000 x343001 x343002 (x343003 ++ [(⟨bt351.1, bt351.2.1, bt351.2.2.1, bt351.2.2.2⟩ : S25)])) else (none))) else (none)) else (some (x343000, x343001, x343002, x343003))
def spec_Tree.f : Nat → ByteArray → Int → Int → Int → List (S115) → List (S78) → Option (Int × ByteArray × List ByteArray × (List (S25)))
 | 0, _, _, _, _, _, _ => none
 | k + 1, a0, a1_0, a1_1, a1_2, l1_3, l1_4 => if a1_0 = 3 then (if 0 ≤ a1_1 then (if a1_1 ≤ a1_2 then (if a1_2 ≤ (a0.size : Int) then (spec_Tree.j0 k a0 a1_0 a1_1 a1_2 l1_3 l1_4 a1_0 (a0.extract (a1_1 : Int).toNat (a1_2 : Int).toNat)) else (none)) else (none)) else (none)) else (if a1_0 = 4 then (if 0 ≤ a1_1 then (if a1_1 ≤ a1_2 then (if a1_2 ≤ (a0.size : Int) then ((spec_Unquote.f k (a0.extract (a1_1 : Int).toNat (a1_2 : Int).toNat)).bind fun t343 => (spec_Tree.j0 k a0 a1_0 a1_1 a1_2 l1_3 l1_4 a1_0 t343)) else (none)) else (none)) else (none)) else (spec_Tree.j0 k a0 a1_0 a1_1 a1_2 l1_3 l1_4 a1_0 (⟨#[]⟩ : ByteArray)))
end
def spec_Tree.T10 : Bool × List (List Nat × List Nat) := (true, [([], []), ([0], [0]), ([], []), ([], []), ([3], [3]), ([], []), ([4, 5], [4, 5]), ([6], [6]), ([7], [7]), ([], []), ([9], [9]), ([], []), ([10, 11], [10, 11]), ([12], [12]), ([13], [13]), ([2, 8, 14], [2, 8, 14]), ([15], [15]), ([16], [16]), ([1, 17, 16], [1, 17]), ([0, 1, 2, 3, 4, 5, 6, 7, 8, 9, 10, 11, 12, 13, 14, 15, 16, 17, 18], []), ([19, 18, 18, 0, 1, 2, 3, 4, 5, 6, 7, 8, 9, 10, 11, 12, 13, 14, 15, 16, 17, 18], [18, 19])])
def spec_Tree.B10 : List Nat := [0, 1, 0, 0, 8, 0, 56, 120, 248, 0, 512, 0, 3584, 7680, 15872, 32764, 65532, 131068, 262143, 524287, 1048575]
theorem spec_Tree.tab10 : rtab .any (opsOf Tryz.f48 10) = spec_Tree.T10 := by kernel_rfl
theorem spec_Tree.bits10 : waitsOk spec_Tree.T10.2 spec_Tree.B10 = true := by kernel_rfl
def spec_Tree.T14 : Bool × List (List Nat × List Nat) := (true, [([], []), ([0], [0]), ([], []), ([], []), ([3], [3]), ([], []), ([4, 5], [4, 5]), ([6], [6]), ([2, 7], [2, 7]), ([8], [8]), ([1, 9, 8], [1, 9]), ([0, 1, 2, 3, 4, 5, 6, 7, 8, 9, 10], []), ([11, 10, 10, 0, 1, 2, 3, 4, 5, 6, 7, 8, 9, 10], [10, 11])])
def spec_Tree.B14 : List Nat := [0, 1, 0, 0, 8, 0, 56, 120, 252, 508, 1023, 2047, 4095]
theorem spec_Tree.tab14 : rtab .any (opsOf Tryz.f48 14) = spec_Tree.T14 := by kernel_rfl
theorem spec_Tree.bits14 : waitsOk spec_Tree.T14.2 spec_Tree.B14 = true := by kernel_rfl
theorem spec_Tree.calls (k : Nat) : ∀ (a0 : ByteArray) (a1_0 : Int) (a1_1 : Int) (a1_2 : Int) (A1_3 : Option Addr) (c1_3 : Nat) (l1_3 : List (S115)) (A1_4 : Option Addr) (c1_4 : Nat) (l1_4 : List (S78)) (r1 : Int) (r2 : ByteArray) (r3 : List ByteArray) (r4 : List (S25)) (w : World) (hr1_3 : Kd.C k115 w A1_3 l1_3.length l1_3) (hc1_3 : l1_3.length ≤ c1_3) (hr1_4 : Kd.C k78 w A1_4 l1_4.length l1_4) (hc1_4 : l1_4.length ≤ c1_4) (h : spec_Tree.f k a0 a1_0 a1_1 a1_2 l1_3 l1_4 = some (r1, r2, r3, r4)),
  Calls Tryz.prog 48 #[.string a0, .agg #[.int .i64 a1_0, .int .i64 a1_1, .int .i64 a1_2, .slice A1_3 l1_3.length c1_3, .slice A1_4 l1_4.length c1_4]] w fun e w' => ∃ v2_ v3_ : Value, e = .returned (.agg #[.int .i64 r1, .string r2, v2_, v3_]) ∧ Kd.R Kd.string 9 w' w.heap.size (fun _ => True) v2_ r3 ∧ Kd.R k25 25 w' w.heap.size (fun k_ => some k_ ≠ (v2_ : Value).ownBlock) v3_ r4 ∧ Below w.heap.size w w' := by
 induction k using Nat.strongRecOn with
 | _ k ih =>
 intro a0 a1_0 a1_1 a1_2 A1_3 c1_3 l1_3 A1_4 c1_4 l1_4 r1 r2 r3 r4 w hr1_3 hc1_3 hr1_4 hc1_4 h
 cases k with
 | zero => exact absurd h (by simp [spec_Tree.f])
 | succ k =>
 simp only [spec_Tree.f] at h
 have hu78 := Tryz.underlying78
 have hu25 := Tryz.underlying25
 have HR1_3 := Aside0.mk hr1_3
 have HC1_3 := Aside0.mk hc1_3
 clear hr1_3 hc1_3
 have HR1_4 := Aside0.mk hr1_4
 have HC1_4 := Aside0.mk hc1_4
 clear hr1_4 hc1_4
 have HB := Aside0.mk (Below.refl w.heap.size w)
 have H : (if a1_0 = 3 then (if 0 ≤ a1_1 then (if a1_1 ≤ a1_2 then (if a1_2 ≤ (a0.size : Int) then (spec_Tree.j0 k a0 a1_0 a1_1 a1_2 l1_3 l1_4 a1_0 (a0.extract (a1_1 : Int).toNat (a1_2 : Int).toNat)) else (none)) else (none)) else (none)) else (if a1_0 = 4 then (if 0 ≤ a1_1 then (if a1_1 ≤ a1_2 then (if a1_2 ≤ (a0.size : Int) then ((spec_Unquote.f k (a0.extract (a1_1 : Int).toNat (a1_2 : Int).toNat)).bind fun t343 => (spec_Tree.j0 k a0 a1_0 a1_1 a1_2 l1_3 l1_4 a1_0 t343)) else (none)) else (none)) else (none)) else (spec_Tree.j0 k a0 a1_0 a1_1 a1_2 l1_3 l1_4 a1_0 (⟨#[]⟩ : ByteArray)))) = some (r1, r2, r3, r4) := h
 clear h
 have HC3 := Aside0.mk H
 clear H
 go_enter Tryz.func48, Tryz.ntmps48
 go_upto_block 0 with (first | ((with_reducible refine gate_dst (N := 3) rfl ?_); refine box_event ?hg (N := 3) ?hd (cs := #[.int .i64 a1_0, .int .i64 a1_1, .int .i64 a1_2, .slice A1_3 l1_3.length c1_3, .slice A1_4 l1_4.length c1_4]) (t := 78) ?hr ?_; (case hd => rfl); (case hg => rfl); (case hr => first | (go_simp; done) | (go_simp; rfl)); intro gb340 hg w4 hbox hb; have n0_ := Aside0.mk (below_step (by repeat (first | (with_reducible first | exact HB.out | apply bA | apply bN | apply bD) | exact HB.out)) hb); have n1_ := Aside0.mk (hbox); have n2_ := Aside0.mk ((by rw [hg]; exact (below_size (by repeat (first | (with_reducible first | exact HB.out | apply bA | apply bN | apply bD) | exact HB.out))) : w.heap.size ≤ gb340)); have n3_ := Aside0.mk ((by rw [hg]; exact (below_size (by repeat (first | (with_reducible first | exact HB.out | apply bA | apply bN | apply bD) | exact HB.out))) : w.heap.size ≤ gb340)); clear HB; have HB := n0_; have BK340 := n1_; have GW340 := n2_; have GE340 := n3_; clear n0_ n1_ n2_ n3_; clear hb hbox hg) | ((with_reducible refine gate_dst (N := 4) rfl ?_); refine box_event ?hg (N := 4) ?hd (cs := #[.int .i64 0, .string (⟨#[]⟩ : ByteArray), .slice none 0 0, .slice none 0 0]) (t := 25) ?hr ?_; (case hd => rfl); (case hg => rfl); (case hr => first | (go_simp; done) | (go_simp; rfl)); intro gb341 hg w5 hbox hb; have n0_ := Aside0.mk (blk_below (g := gb340) (o := .cells #[.int .i64 a1_0, .int .i64 a1_1, .int .i64 a1_2, .slice A1_3 l1_3.length c1_3, .slice A1_4 l1_4.length c1_4] 78 (0, 0)) (by (with_reducible repeat (first | refine lN ?_ _ | refine lD ?_ | refine lA ?_ _)); exact BK340.out) hb); have n1_ := Aside0.mk (below_step (by repeat (first | (with_reducible first | exact HB.out | apply bA | apply bN | apply bD | refine below_set ?_ GE340.out) | exact HB.out)) hb); have n2_ := Aside0.mk (hbox); have n3_ := Aside0.mk ((by rw [hg]; exact (below_size (by repeat (first | (with_reducible first | exact HB.out | apply bA | apply bN | apply bD | refine below_set ?_ GE340.out) | exact HB.out))) : w.heap.size ≤ gb341)); have n4_ := Aside0.mk ((by rw [hg]; exact (below_size (by repeat (first | (with_reducible first | exact HB.out | apply bA | apply bN | apply bD | refine below_set ?_ GE340.out) | exact HB.out))) : w.heap.size ≤ gb341)); have n5_ := Aside0.mk ((by rw [hg]; exact Nat.ne_of_lt (blk_lt (g := gb340) (o := .cells #[.int .i64 a1_0, .int .i64 a1_1, .int .i64 a1_2, .slice A1_3 l1_3.length c1_3, .slice A1_4 l1_4.length c1_4] 78 (0, 0)) (by (with_reducible repeat (first | refine lN ?_ _ | refine lD ?_ | refine lA ?_ _)); exact BK340.out)) : gb340 ≠ gb341)); have n6_ := Aside0.mk ((by rw [hg]; exact Nat.ne_of_gt (blk_lt (g := gb340) (o := .cells #[.int .i64 a1_0, .int .i64 a1_1, .int .i64 a1_2, .slice A1_3 l1_3.length c1_3, .slice A1_4 l1_4.length c1_4] 78 (0, 0)) (by (with_reducible repeat (first | refine lN ?_ _ | refine lD ?_ | refine lA ?_ _)); exact BK340.out)) : gb341 ≠ gb340)); clear BK340; clear HB; have BK340 := n0_; have HB := n1_; have BK341 := n2_; have GW341 := n3_; have GE341 := n4_; have NB340_341 := n5_; have NB341_340 := n6_; clear n0_ n1_ n2_ n3_ n4_ n5_ n6_; clear hb hbox hg; have hnb6 := NB340_341.out; have hnc6 := NB341_340.out; have hcz7_0 : w5.cell? ⟨gb340, 0, none⟩ = some (.int .i64 a1_0) := (blk_cell BK340.out 0).trans rfl; have hcz7_1 : w5.cell? ⟨gb340, 1, none⟩ = some (.int .i64 a1_1) := (blk_cell BK340.out 1).trans rfl; have hcz7_2 : w5.cell? ⟨gb340, 2, none⟩ = some (.int .i64 a1_2) := (blk_cell BK340.out 2).trans rfl; have hcz7_3 : w5.cell? ⟨gb340, 3, none⟩ = some (.slice A1_3 l1_3.length c1_3) := (blk_cell BK340.out 3).trans rfl; have hcz7_4 : w5.cell? ⟨gb340, 4, none⟩ = some (.slice A1_4 l1_4.length c1_4) := (blk_cell BK340.out 4).trans rfl; have hfz7_0 := blk_frozen BK340.out 0; have hfz7_1 := blk_frozen BK340.out 1; have hfz7_2 := blk_frozen BK340.out 2; have hfz7_3 := blk_frozen BK340.out 3; have hfz7_4 := blk_frozen BK340.out 4) | ((with_reducible refine gate_dst (N := 5) rfl ?_); refine box_event ?hg (N := 5) ?hd (cs := #[.int .i64 0, .string (⟨#[]⟩ : ByteArray), .slice none 0 0, .slice none 0 0]) (t := 25) ?hr ?_; (case hd => rfl); (case hg => rfl); (case hr => first | (go_simp; done) | (go_simp; rfl)); intro gb342 hg w8 hbox hb; have n0_ := Aside0.mk (blk_below (g := gb340) (o := .cells #[.int .i64 a1_0, .int .i64 a1_1, .int .i64 a1_2, .slice A1_3 l1_3.length c1_3, .slice A1_4 l1_4.length c1_4] 78 (0, 0)) (by (with_reducible repeat (first | refine lN ?_ _ | refine lD ?_ | refine lA ?_ _)); exact BK340.out) hb); have n1_ := Aside0.mk (blk_below (g := gb341) (o := .cells #[.int .i64 0, .string (⟨#[]⟩ : ByteArray), .slice none 0 0, .slice none 0 0] 25 (0, 0)) (by (with_reducible repeat (first | refine lN ?_ _ | refine lD ?_ | refine lA ?_ _)); exact BK341.out) hb); have n2_ := Aside0.mk (below_step (by repeat (first | (with_reducible first | exact HB.out | apply bA | apply bN | apply bD | refine below_set ?_ GE340.out | refine below_set ?_ GE341.out) | exact HB.out)) hb); have n3_ := Aside0.mk (hbox); have n4_ := Aside0.mk ((by rw [hg]; exact (below_size (by repeat (first | (with_reducible first | exact HB.out | apply bA | apply bN | apply bD | refine below_set ?_ GE340.out | refine below_set ?_ GE341.out) | exact HB.out))) : w.heap.size ≤ gb342)); have n5_ := Aside0.mk ((by rw [hg]; exact (below_size (by repeat (first | (with_reducible first | exact HB.out | apply bA | apply bN | apply bD | refine below_set ?_ GE340.out | refine below_set ?_ GE341.out) | exact HB.out))) : w.heap.size ≤ gb342)); have n6_ := Aside0.mk ((by rw [hg]; exact Nat.ne_of_lt (blk_lt (g := gb340) (o := .cells #[.int .i64 a1_0, .int .i64 a1_1, .int .i64 a1_2, .slice A1_3 l1_3.length c1_3, .slice A1_4 l1_4.length c1_4] 78 (0, 0)) (by (with_reducible repeat (first | refine lN ?_ _ | refine lD ?_ | refine lA ?_ _)); exact BK340.out)) : gb340 ≠ gb342)); have n7_ := Aside0.mk ((by rw [hg]; exact Nat.ne_of_gt (blk_lt (g := gb340) (o := .cells #[.int .i64 a1_0, .int .i64 a1_1, .int .i64 a1_2, .slice A1_3 l1_3.length c1_3, .slice A1_4 l1_4.length c1_4] 78 (0, 0)) (by (with_reducible repeat (first | refine lN ?_ _ | refine lD ?_ | refine lA ?_ _)); exact BK340.out)) : gb342 ≠ gb340)); have n8_ := Aside0.mk ((by rw [hg]; exact Nat.ne_of_lt (blk_lt (g := gb341) (o := .cells #[.int .i64 0, .string (⟨#[]⟩ : ByteArray), .slice none 0 0, .slice none 0 0] 25 (0, 0)) (by (with_reducible repeat (first | refine lN ?_ _ | refine lD ?_ | refine lA ?_ _)); exact BK341.out)) : gb341 ≠ gb342)); have n9_ := Aside0.mk ((by rw [hg]; exact Nat.ne_of_gt (blk_lt (g := gb341) (o := .cells #[.int .i64 0, .string (⟨#[]⟩ : ByteArray), .slice none 0 0, .slice none 0 0] 25 (0, 0)) (by (with_reducible repeat (first | refine lN ?_ _ | refine lD ?_ | refine lA ?_ _)); exact BK341.out)) : gb342 ≠ gb341)); clear BK340; clear BK341; clear HB; have BK340 := n0_; have BK341 := n1_; have HB := n2_; have BK342 := n3_; have GW342 := n4_; have GE342 := n5_; have NB340_342 := n6_; have NB342_340 := n7_; have NB341_342 := n8_; have NB342_341 := n9_; clear n0_ n1_ n2_ n3_ n4_ n5_ n6_ n7_ n8_ n9_; clear hb hbox hg; have hnb9 := NB342_340.out; have hnc9 := NB340_342.out; have hnb10 := NB342_341.out; have hnc10 := NB341_342.out; have hcz11_0 : w8.cell? ⟨gb342, 0, none⟩ = some (.int .i64 0) := (blk_cell BK342.out 0).trans rfl; have hcz11_1 : w8.cell? ⟨gb342, 1, none⟩ = some (.string (⟨#[]⟩ : ByteArray)) := (blk_cell BK342.out 1).trans rfl; have hcz11_2 : w8.cell? ⟨gb342, 2, none⟩ = some (.slice none 0 0) := (blk_cell BK342.out 2).trans rfl; have hcz11_3 : w8.cell? ⟨gb342, 3, none⟩ = some (.slice none 0 0) := (blk_cell BK342.out 3).trans rfl; have hfz11_0 := blk_frozen BK342.out 0; have hfz11_1 := blk_frozen BK342.out 1; have hfz11_2 := blk_frozen BK342.out 2; have hfz11_3 := blk_frozen BK342.out 3; have hcz12_0 : w8.cell? ⟨gb340, 0, none⟩ = some (.int .i64 a1_0) := (blk_cell BK340.out 0).trans rfl; have hcz12_1 : w8.cell? ⟨gb340, 1, none⟩ = some (.int .i64 a1_1) := (blk_cell BK340.out 1).trans rfl; have hcz12_2 : w8.cell? ⟨gb340, 2, none⟩ = some (.int .i64 a1_2) := (blk_cell BK340.out 2).trans rfl; have hcz12_3 : w8.cell? ⟨gb340, 3, none⟩ = some (.slice A1_3 l1_3.length c1_3) := (blk_cell BK340.out 3).trans rfl; have hcz12_4 : w8.cell? ⟨gb340, 4, none⟩ = some (.slice A1_4 l1_4.length c1_4) := (blk_cell BK340.out 4).trans rfl; have hfz12_0 := blk_frozen BK340.out 0; have hfz12_1 := blk_frozen BK340.out 1; have hfz12_2 := blk_frozen BK340.out 2; have hfz12_3 := blk_frozen BK340.out 3; have hfz12_4 := blk_frozen BK340.out 4))
 (try simp only [Act.put, List.setIfInBounds_toArray, List.set_cons_zero, List.set_cons_succ])
 go_cut [] (fun wc => ∃ (kq : Nat) (x343001_2 : ByteArray), Aside0 (spec_Tree.j0 kq a0 a1_0 a1_1 a1_2 l1_3 l1_4 a1_0 x343001_2 = some (r1, r2, r3, r4)) ∧ Aside0 (kq ≤ k) ∧ Aside0 (wc.heap[gb340]? = some (.cells #[.int .i64 a1_0, .int .i64 a1_1, .int .i64 a1_2, (.slice A1_3 l1_3.length c1_3), (.slice A1_4 l1_4.length c1_4)] 78 (0, 0))) ∧ Aside0 (wc.heap[gb341]? = some (.cells #[.int .i64 0, .string (⟨#[]⟩ : ByteArray), (.slice none 0 0), (.slice none 0 0)] 25 (0, 0))) ∧ Aside0 (wc.heap[gb342]? = some (.cells #[.int .i64 a1_0, .string x343001_2, (.slice none 0 0), (.slice none 0 0)] 25 (0, 0))) ∧ Aside0 (Below w.heap.size w wc))
 case first =>
  have H := HC3.out
  clear HC3
  by_cases c13 : a1_0 = 3
  ·rw [if_pos c13] at H
   have c13b0 : (a1_0 == 3) = true := beq_iff_eq.mpr c13
   have c13b1 : (a1_0 != 3) = false := bne_eq_false_iff_eq.mpr c13
   clear c13
   (first | rw [c13b0] | (simp only [i64_w]; rw [c13b0]) | skip)
   by_cases c14 : 0 ≤ a1_1
   ·rw [if_pos c14] at H
    have c14b0 := eq_true c14
    have c14b1 : decide (0 ≤ a1_1) = true := decide_eq_true c14
    clear c14
    by_cases c15 : a1_1 ≤ a1_2
    ·rw [if_pos c15] at H
     have c15b0 := eq_true c15
     have c15b1 : decide (a1_1 ≤ a1_2) = true := decide_eq_true c15
     clear c15
     by_cases c16 : a1_2 ≤ (a0.size : Int)
     ·rw [if_pos c16] at H
      have c16b0 := eq_true c16
      have c16b1 : decide (a1_2 ≤ (a0.size : Int)) = true := decide_eq_true c16
      clear c16
      have H' := Aside0.mk H
      clear H
      have hnb17 := NB340_341.out
      have hnc17 := NB341_340.out
      have hnb18 := NB340_342.out
      have hnc18 := NB342_340.out
      have hcz19_0 : w8.cell? ⟨gb340, 0, none⟩ = some (.int .i64 a1_0) := (blk_cell BK340.out 0).trans rfl
      have hcz19_1 : w8.cell? ⟨gb340, 1, none⟩ = some (.int .i64 a1_1) := (blk_cell BK340.out 1).trans rfl
      have hcz19_2 : w8.cell? ⟨gb340, 2, none⟩ = some (.int .i64 a1_2) := (blk_cell BK340.out 2).trans rfl
      have hcz19_3 : w8.cell? ⟨gb340, 3, none⟩ = some (.slice A1_3 l1_3.length c1_3) := (blk_cell BK340.out 3).trans rfl
      have hcz19_4 : w8.cell? ⟨gb340, 4, none⟩ = some (.slice A1_4 l1_4.length c1_4) := (blk_cell BK340.out 4).trans rfl
      have hfz19_0 := blk_frozen BK340.out 0
      have hfz19_1 := blk_frozen BK340.out 1
      have hfz19_2 := blk_frozen BK340.out 2
      have hfz19_3 := blk_frozen BK340.out 3
      have hfz19_4 := blk_frozen BK340.out 4
      have hnb20 := NB342_341.out
      have hnc20 := NB341_342.out
      have hcz21_0 : w8.cell? ⟨gb342, 0, none⟩ = some (.int .i64 0) := (blk_cell BK342.out 0).trans rfl
      have hcz21_1 : w8.cell? ⟨gb342, 1, none⟩ = some (.string (⟨#[]⟩ : ByteArray)) := (blk_cell BK342.out 1).trans rfl
      have hcz21_2 : w8.cell? ⟨gb342, 2, none⟩ = some (.slice none 0 0) := (blk_cell BK342.out 2).trans rfl
      have hcz21_3 : w8.cell? ⟨gb342, 3, none⟩ = some (.slice none 0 0) := (blk_cell BK342.out 3).trans rfl
      have hfz21_0 := blk_frozen BK342.out 0
      have hfz21_1 := blk_frozen BK342.out 1
      have hfz21_2 := blk_frozen BK342.out 2
      have hfz21_3 := blk_frozen BK342.out 3
      go_wp2
      go_meet
      case rel => exact ⟨_, (a0.extract (a1_1 : Int).toNat (a1_2 : Int).toNat), H', ⟨by first | omega | exact Nat.le_refl _⟩, ⟨by (with_reducible repeat (first | refine lN ?_ _ | refine lD ?_ | refine lA ?_ _)); refine blk_far ?_ NB340_342.out _; (with_reducible repeat (first | refine lN ?_ _ | refine lD ?_ | refine lA ?_ _)); refine blk_far ?_ NB340_342.out _; (with_reducible repeat (first | refine lN ?_ _ | refine lD ?_ | refine lA ?_ _)); refine blk_far ?_ NB340_342.out _; (with_reducible repeat (first | refine lN ?_ _ | refine lD ?_ | refine lA ?_ _)); refine blk_far ?_ NB340_342.out _; (with_reducible repeat (first | refine lN ?_ _ | refine lD ?_ | refine lA ?_ _)); refine blk_far ?_ NB340_342.out _; (with_reducible repeat (first | refine lN ?_ _ | refine lD ?_ | refine lA ?_ _)); exact BK340.out⟩, ⟨by (with_reducible repeat (first | refine lN ?_ _ | refine lD ?_ | refine lA ?_ _)); refine blk_far ?_ NB341_342.out _; (with_reducible repeat (first | refine lN ?_ _ | refine lD ?_ | refine lA ?_ _)); refine blk_far ?_ NB341_342.out _; (with_reducible repeat (first | refine lN ?_ _ | refine lD ?_ | refine lA ?_ _)); refine blk_far ?_ NB341_342.out _; (with_reducible repeat (first | refine lN ?_ _ | refine lD ?_ | refine lA ?_ _)); refine blk_far ?_ NB341_342.out _; (with_reducible repeat (first | refine lN ?_ _ | refine lD ?_ | refine lA ?_ _)); refine blk_far ?_ NB341_342.out _; (with_reducible repeat (first | refine lN ?_ _ | refine lD ?_ | refine lA ?_ _)); exact BK341.out⟩, ⟨by (with_reducible repeat (first | refine lN ?_ _ | refine lD ?_ | refine lA ?_ _)); refine blk_put (cs := #[.int .i64 a1_0, .string (⟨#[]⟩ : ByteArray), .slice none 0 0, .slice none 0 0]) ?_ 1 _ rfl; (with_reducible repeat (first | refine lN ?_ _ | refine lD ?_ | refine lA ?_ _)); refine blk_put (cs := #[.int .i64 a1_0, .string (⟨#[]⟩ : ByteArray), .slice none 0 0, .slice none 0 0]) ?_ 3 _ rfl; (with_reducible repeat (first | refine lN ?_ _ | refine lD ?_ | refine lA ?_ _)); refine blk_put (cs := #[.int .i64 a1_0, .string (⟨#[]⟩ : ByteArray), .slice none 0 0, .slice none 0 0]) ?_ 2 _ rfl; (with_reducible repeat (first | refine lN ?_ _ | refine lD ?_ | refine lA ?_ _)); refine blk_put (cs := #[.int .i64 a1_0, .string (⟨#[]⟩ : ByteArray), .slice none 0 0, .slice none 0 0]) ?_ 1 _ rfl; (with_reducible repeat (first | refine lN ?_ _ | refine lD ?_ | refine lA ?_ _)); refine blk_put (cs := #[.int .i64 0, .string (⟨#[]⟩ : ByteArray), .slice none 0 0, .slice none 0 0]) ?_ 0 _ rfl; (with_reducible repeat (first | refine lN ?_ _ | refine lD ?_ | refine lA ?_ _)); exact BK342.out⟩, ⟨by repeat (first | (with_reducible first | exact HB.out | apply bA | apply bN | apply bD | refine below_set ?_ GE340.out | refine below_set ?_ GE341.out | refine below_set ?_ GE342.out) | exact HB.out)⟩⟩
     ·rw [if_neg c16] at H
      exact absurd H (by simp)
    ·rw [if_neg c15] at H
     exact absurd H (by simp)
   ·rw [if_neg c14] at H
    exact absurd H (by simp)
  ·rw [if_neg c13] at H
   have c13b0 : (a1_0 == 3) = false := beq_eq_false_iff_ne.mpr c13
   have c13b1 : (a1_0 != 3) = true := bne_iff_ne.mpr c13
   (first | rw [c13b0] | (simp only [i64_w]; rw [c13b0]) | skip)
   by_cases c22 : a1_0 = 4
   ·rw [if_pos c22] at H
    have c22b0 : (a1_0 == 4) = true := beq_iff_eq.mpr c22
    have c22b1 : (a1_0 != 4) = false := bne_eq_false_iff_eq.mpr c22
    clear c22
    by_cases c23 : 0 ≤ a1_1
    ·rw [if_pos c23] at H
     have c23b0 := eq_true c23
     have c23b1 : decide (0 ≤ a1_1) = true := decide_eq_true c23
     clear c23
     by_cases c24 : a1_1 ≤ a1_2
     ·rw [if_pos c24] at H
      have c24b0 := eq_true c24
      have c24b1 : decide (a1_1 ≤ a1_2) = true := decide_eq_true c24
      clear c24
      by_cases c25 : a1_2 ≤ (a0.size : Int)
      ·rw [if_pos c25] at H
       have c25b0 := eq_true c25
       have c25b1 : decide (a1_2 ≤ (a0.size : Int)) = true := decide_eq_true c25
       clear c25
       replace H := Option.bind_eq_some_iff.mp H
       obtain ⟨t343, A260, H⟩ := H
       try dsimp only at H
       have A26 := Aside0.mk A260
       clear A260
       have H' := Aside0.mk H
       clear H
       have hnb27 := NB340_341.out
       have hnc27 := NB341_340.out
       have hnb28 := NB340_342.out
       have hnc28 := NB342_340.out
       have hcz29_0 : w8.cell? ⟨gb340, 0, none⟩ = some (.int .i64 a1_0) := (blk_cell BK340.out 0).trans rfl
       have hcz29_1 : w8.cell? ⟨gb340, 1, none⟩ = some (.int .i64 a1_1) := (blk_cell BK340.out 1).trans rfl
       have hcz29_2 : w8.cell? ⟨gb340, 2, none⟩ = some (.int .i64 a1_2) := (blk_cell BK340.out 2).trans rfl
       have hcz29_3 : w8.cell? ⟨gb340, 3, none⟩ = some (.slice A1_3 l1_3.length c1_3) := (blk_cell BK340.out 3).trans rfl
       have hcz29_4 : w8.cell? ⟨gb340, 4, none⟩ = some (.slice A1_4 l1_4.length c1_4) := (blk_cell BK340.out 4).trans rfl
       have hfz29_0 := blk_frozen BK340.out 0
       have hfz29_1 := blk_frozen BK340.out 1
       have hfz29_2 := blk_frozen BK340.out 2
       have hfz29_3 := blk_frozen BK340.out 3
       have hfz29_4 := blk_frozen BK340.out 4
       go_wp2_with (first | ((with_reducible refine gate_callee (f := 74) rfl ?_); refine goesL_ (some 30) rfl rfl Tryz.func74 (by kernel_rfl) rfl #[.string (a0.extract (a1_1 : Int).toNat (a1_2 : Int).toNat)] rfl (by (try simp only [List.map_toArray, List.map_cons, List.map_nil]); first | done | rfl | (simp only [List.length_drop, List.length_take]; rfl)) ?_; (with_reducible refine (spec_Unquote.calls k (a0.extract (a1_1 : Int).toNat (a1_2 : Int).toNat) t343 _ A26.out).mono ?_); rintro e w30 ⟨rfl, hb⟩; refine ⟨_, rfl, ?_⟩; have n0_ := Aside0.mk (blk_below (g := gb340) (o := .cells #[.int .i64 a1_0, .int .i64 a1_1, .int .i64 a1_2, .slice A1_3 l1_3.length c1_3, .slice A1_4 l1_4.length c1_4] 78 (0, 0)) (by (with_reducible repeat (first | refine lN ?_ _ | refine lD ?_ | refine lA ?_ _)); refine blk_far ?_ NB340_342.out _; (with_reducible repeat (first | refine lN ?_ _ | refine lD ?_ | refine lA ?_ _)); refine blk_far ?_ NB340_342.out _; (with_reducible repeat (first | refine lN ?_ _ | refine lD ?_ | refine lA ?_ _)); refine blk_far ?_ NB340_342.out _; (with_reducible repeat (first | refine lN ?_ _ | refine lD ?_ | refine lA ?_ _)); refine blk_far ?_ NB340_342.out _; (with_reducible repeat (first | refine lN ?_ _ | refine lD ?_ | refine lA ?_ _)); exact BK340.out) hb); have n1_ := Aside0.mk (blk_below (g := gb341) (o := .cells #[.int .i64 0, .string (⟨#[]⟩ : ByteArray), .slice none 0 0, .slice none 0 0] 25 (0, 0)) (by (with_reducible repeat (first | refine lN ?_ _ | refine lD ?_ | refine lA ?_ _)); refine blk_far ?_ NB341_342.out _; (with_reducible repeat (first | refine lN ?_ _ | refine lD ?_ | refine lA ?_ _)); refine blk_far ?_ NB341_342.out _; (with_reducible repeat (first | refine lN ?_ _ | refine lD ?_ | refine lA ?_ _)); refine blk_far ?_ NB341_342.out _; (with_reducible repeat (first | refine lN ?_ _ | refine lD ?_ | refine lA ?_ _)); refine blk_far ?_ NB341_342.out _; (with_reducible repeat (first | refine lN ?_ _ | refine lD ?_ | refine lA ?_ _)); exact BK341.out) hb); have n2_ := Aside0.mk (blk_below (g := gb342) (o := .cells #[.int .i64 a1_0, .string (⟨#[]⟩ : ByteArray), .slice none 0 0, .slice none 0 0] 25 (0, 0)) (by (with_reducible repeat (first | refine lN ?_ _ | refine lD ?_ | refine lA ?_ _)); refine blk_put (cs := #[.int .i64 a1_0, .string (⟨#[]⟩ : ByteArray), .slice none 0 0, .slice none 0 0]) ?_ 3 _ rfl; (with_reducible repeat (first | refine lN ?_ _ | refine lD ?_ | refine lA ?_ _)); refine blk_put (cs := #[.int .i64 a1_0, .string (⟨#[]⟩ : ByteArray), .slice none 0 0, .slice none 0 0]) ?_ 2 _ rfl; (with_reducible repeat (first | refine lN ?_ _ | refine lD ?_ | refine lA ?_ _)); refine blk_put (cs := #[.int .i64 a1_0, .string (⟨#[]⟩ : ByteArray), .slice none 0 0, .slice none 0 0]) ?_ 1 _ rfl; (with_reducible repeat (first | refine lN ?_ _ | refine lD ?_ | refine lA ?_ _)); refine blk_put (cs := #[.int .i64 0, .string (⟨#[]⟩ : ByteArray), .slice none 0 0, .slice none 0 0]) ?_ 0 _ rfl; (with_reducible repeat (first | refine lN ?_ _ | refine lD ?_ | refine lA ?_ _)); exact BK342.out) hb); have n3_ := Aside0.mk (below_step (by repeat (first | (with_reducible first | exact HB.out | apply bA | apply bN | apply bD | refine below_set ?_ GE340.out | refine below_set ?_ GE341.out | refine below_set ?_ GE342.out) | exact HB.out)) hb); clear BK340; clear BK341; clear BK342; clear HB; have BK340 := n0_; have BK341 := n1_; have BK342 := n2_; have HB := n3_; clear n0_ n1_ n2_ n3_; (try clear hb); (try clear hb2); (try clear hk); (try clear hi); have hnb31 := NB342_341.out; have hnc31 := NB341_342.out; have hcz32_0 : w30.cell? ⟨gb342, 0, none⟩ = some (.int .i64 a1_0) := (blk_cell BK342.out 0).trans rfl; have hcz32_1 : w30.cell? ⟨gb342, 1, none⟩ = some (.string (⟨#[]⟩ : ByteArray)) := (blk_cell BK342.out 1).trans rfl; have hcz32_2 : w30.cell? ⟨gb342, 2, none⟩ = some (.slice none 0 0) := (blk_cell BK342.out 2).trans rfl; have hcz32_3 : w30.cell? ⟨gb342, 3, none⟩ = some (.slice none 0 0) := (blk_cell BK342.out 3).trans rfl; have hfz32_0 := blk_frozen BK342.out 0; have hfz32_1 := blk_frozen BK342.out 1; have hfz32_2 := blk_frozen BK342.out 2; have hfz32_3 := blk_frozen BK342.out 3))
       go_meet
       case rel => exact ⟨_, (t343), H', ⟨by first | omega | exact Nat.le_refl _⟩, ⟨by (with_reducible repeat (first | refine lN ?_ _ | refine lD ?_ | refine lA ?_ _)); refine blk_far ?_ NB340_342.out _; (with_reducible repeat (first | refine lN ?_ _ | refine lD ?_ | refine lA ?_ _)); exact BK340.out⟩, ⟨by (with_reducible repeat (first | refine lN ?_ _ | refine lD ?_ | refine lA ?_ _)); refine blk_far ?_ NB341_342.out _; (with_reducible repeat (first | refine lN ?_ _ | refine lD ?_ | refine lA ?_ _)); exact BK341.out⟩, ⟨by (with_reducible repeat (first | refine lN ?_ _ | refine lD ?_ | refine lA ?_ _)); refine blk_put (cs := #[.int .i64 a1_0, .string (⟨#[]⟩ : ByteArray), .slice none 0 0, .slice none 0 0]) ?_ 1 _ rfl; (with_reducible repeat (first | refine lN ?_ _ | refine lD ?_ | refine lA ?_ _)); exact BK342.out⟩, ⟨by repeat (first | (with_reducible first | exact HB.out | apply bA | apply bN | apply bD | refine below_set ?_ GE340.out | refine below_set ?_ GE341.out | refine below_set ?_ GE342.out) | exact HB.out)⟩⟩
      ·rw [if_neg c25] at H
       exact absurd H (by simp)
     ·rw [if_neg c24] at H
      exact absurd H (by simp)
    ·rw [if_neg c23] at H
     exact absurd H (by simp)
   ·rw [if_neg c22] at H
    have c22b0 : (a1_0 == 4) = false := beq_eq_false_iff_ne.mpr c22
    have c22b1 : (a1_0 != 4) = true := bne_iff_ne.mpr c22
    have H' := Aside0.mk H
    clear H
    go_wp2
    go_meet
    case rel => exact ⟨_, ((⟨#[]⟩ : ByteArray)), H', ⟨by first | omega | exact Nat.le_refl _⟩, ⟨by (with_reducible repeat (first | refine lN ?_ _ | refine lD ?_ | refine lA ?_ _)); refine blk_far ?_ NB340_342.out _; (with_reducible repeat (first | refine lN ?_ _ | refine lD ?_ | refine lA ?_ _)); refine blk_far ?_ NB340_342.out _; (with_reducible repeat (first | refine lN ?_ _ | refine lD ?_ | refine lA ?_ _)); refine blk_far ?_ NB340_342.out _; (with_reducible repeat (first | refine lN ?_ _ | refine lD ?_ | refine lA ?_ _)); refine blk_far ?_ NB340_342.out _; (with_reducible repeat (first | refine lN ?_ _ | refine lD ?_ | refine lA ?_ _)); exact BK340.out⟩, ⟨by (with_reducible repeat (first | refine lN ?_ _ | refine lD ?_ | refine lA ?_ _)); refine blk_far ?_ NB341_342.out _; (with_reducible repeat (first | refine lN ?_ _ | refine lD ?_ | refine lA ?_ _)); refine blk_far ?_ NB341_342.out _; (with_reducible repeat (first | refine lN ?_ _ | refine lD ?_ | refine lA ?_ _)); refine blk_far ?_ NB341_342.out _; (with_reducible repeat (first | refine lN ?_ _ | refine lD ?_ | refine lA ?_ _)); refine blk_far ?_ NB341_342.out _; (with_reducible repeat (first | refine lN ?_ _ | refine lD ?_ | refine lA ?_ _)); exact BK341.out⟩, ⟨by (with_reducible repeat (first | refine lN ?_ _ | refine lD ?_ | refine lA ?_ _)); refine blk_put (cs := #[.int .i64 a1_0, .string (⟨#[]⟩ : ByteArray), .slice none 0 0, .slice none 0 0]) ?_ 3 _ rfl; (with_reducible repeat (first | refine lN ?_ _ | refine lD ?_ | refine lA ?_ _)); refine blk_put (cs := #[.int .i64 a1_0, .string (⟨#[]⟩ : ByteArray), .slice none 0 0, .slice none 0 0]) ?_ 2 _ rfl; (with_reducible repeat (first | refine lN ?_ _ | refine lD ?_ | refine lA ?_ _)); refine blk_put (cs := #[.int .i64 a1_0, .string (⟨#[]⟩ : ByteArray), .slice none 0 0, .slice none 0 0]) ?_ 1 _ rfl; (with_reducible repeat (first | refine lN ?_ _ | refine lD ?_ | refine lA ?_ _)); refine blk_put (cs := #[.int .i64 0, .string (⟨#[]⟩ : ByteArray), .slice none 0 0, .slice none 0 0]) ?_ 0 _ rfl; (with_reducible repeat (first | refine lN ?_ _ | refine lD ?_ | refine lA ?_ _)); exact BK342.out⟩, ⟨by repeat (first | (with_reducible first | exact HB.out | apply bA | apply bN | apply bD | refine below_set ?_ GE340.out | refine below_set ?_ GE341.out | refine below_set ?_ GE342.out) | exact HB.out)⟩⟩
 case rest =>
  clear HC3
  try clear c1
  try clear c2
  try clear p2
  try clear c3
  try clear c4
  try clear c6
  try clear c7
  try clear c9
  try clear c10
  try clear c13
  try clear c13b0
  try clear c13b1
  try clear c14
  try clear c14b0
  try clear c14b1
  try clear c15
  try clear c15b0
  try clear c15b1
  try clear c16
  try clear c16b0
  try clear c16b1
  try clear c17
  try clear c18
  try clear c20
  try clear c22
  try clear c22b0
  try clear c22b1
  try clear c23
  try clear c23b0
  try clear c23b1
  try clear c24
  try clear c24b0
  try clear c24b1
  try clear c25
  try clear c25b0
  try clear c25b1
  try clear c27
  try clear c28
  try clear c31
  try clear hcz11_0
  try clear hcz11_1
  try clear hcz11_2
  try clear hcz11_3
  try clear hcz12_0
  try clear hcz12_1
  try clear hcz12_2
  try clear hcz12_3
  try clear hcz12_4
  try clear hcz19_0
  try clear hcz19_1
  try clear hcz19_2
  try clear hcz19_3
  try clear hcz19_4
  try clear hcz21_0
  try clear hcz21_1
  try clear hcz21_2
  try clear hcz21_3
  try clear hcz29_0
  try clear hcz29_1
  try clear hcz29_2
  try clear hcz29_3
  try clear hcz29_4
  try clear hcz32_0
  try clear hcz32_1
  try clear hcz32_2
  try clear hcz32_3
  try clear hcz7_0
  try clear hcz7_1
  try clear hcz7_2
  try clear hcz7_3
  try clear hcz7_4
  try clear hfz11_0
  try clear hfz11_1
  try clear hfz11_2
  try clear hfz11_3
  try clear hfz12_0
  try clear hfz12_1
  try clear hfz12_2
  try clear hfz12_3
  try clear hfz12_4
  try clear hfz19_0
  try clear hfz19_1
  try clear hfz19_2
  try clear hfz19_3
  try clear hfz19_4
  try clear hfz21_0
  try clear hfz21_1
  try clear hfz21_2
  try clear hfz21_3
  try clear hfz29_0
  try clear hfz29_1
  try clear hfz29_2
  try clear hfz29_3
  try clear hfz29_4
  try clear hfz32_0
  try clear hfz32_1
  try clear hfz32_2
  try clear hfz32_3
  try clear hfz7_0
  try clear hfz7_1
  try clear hfz7_2
  try clear hfz7_3
  try clear hfz7_4
  obtain ⟨kq, x343001_2, HA, HJ2, BK340, BK341, BK342, HB⟩ := hcut
  cases kq with
  | zero => exact absurd HA.out (by simp [spec_Tree.j0])
  | succ kj2 =>
   have H := HA.out
   clear HA
   simp only [spec_Tree.j0] at H
   have H' := Aside0.mk H
   clear H
   go_wp2
   go_loopg [6] kj2 (fun kq v6 w' => ∃ (x6_2 : Int) (x343002_2 : List ByteArray) (u343002 : Value), v6 = .int .i64 x6_2 ∧ Aside0 (spec_Tree.l0 kq a0 x6_2 a1_0 a1_1 a1_2 l1_3 l1_4 a1_0 x343001_2 x343002_2 = some (r1, r2, r3, r4)) ∧ Aside0 (kq ≤ kj2) ∧ Aside0 (Kd.R Kd.string 9 w' w.heap.size (fun _ => True) u343002 x343002_2) ∧ Aside0 (w'.heap[gb340]? = some (.cells #[.int .i64 a1_0, .int .i64 a1_1, .int .i64 a1_2, (.slice A1_3 l1_3.length c1_3), (.slice A1_4 l1_4.length c1_4)] 78 (0, 0))) ∧ Aside0 (w'.heap[gb341]? = some (.cells #[.int .i64 0, .string (⟨#[]⟩ : ByteArray), (.slice none 0 0), (.slice none 0 0)] 25 (0, 0))) ∧ Aside0 (w'.heap[gb342]? = some (.cells #[.int .i64 a1_0, .string x343001_2, u343002, (.slice none 0 0)] 25 (0, 0))) ∧ Aside0 (Below w.heap.size w w'))
   case atStart => exact ⟨(0), (([] : List ByteArray)), (.slice none 0 0), (by first | rfl | (simp; done) | (simp [*]; done)), H', ⟨Nat.le_refl _⟩, ⟨by first | exact Kd.R_nil _ _ _ _ _ | exact Kd.N_nil _ _ _ _ _ | exact Kd.V_nil _ _ _ _ _ | exact Kd.Q_nil _ _ _ _ _ | exact Kd.S_nil _ _ _ _ _⟩, ⟨by (with_reducible repeat (first | refine lN ?_ _ | refine lD ?_ | refine lA ?_ _)); exact BK340.out⟩, ⟨by (with_reducible repeat (first | refine lN ?_ _ | refine lD ?_ | refine lA ?_ _)); exact BK341.out⟩, ⟨by (with_reducible repeat (first | refine lN ?_ _ | refine lD ?_ | refine lA ?_ _)); exact BK342.out⟩, ⟨by repeat (first | (with_reducible first | exact HB.out | apply bA | apply bN | apply bD | refine below_set ?_ GE340.out | refine below_set ?_ GE341.out | refine below_set ?_ GE342.out) | exact HB.out)⟩⟩
   case round =>
    clear H'
    try clear c1
    try clear c2
    try clear p2
    try clear c3
    try clear c4
    try clear c6
    try clear c7
    try clear c9
    try clear c10
    try clear c13
    try clear c13b0
    try clear c13b1
    try clear c14
    try clear c14b0
    try clear c14b1
    try clear c15
    try clear c15b0
    try clear c15b1
    try clear c16
    try clear c16b0
    try clear c16b1
    try clear c17
    try clear c18
    try clear c20
    try clear c22
    try clear c22b0
    try clear c22b1
    try clear c23
    try clear c23b0
    try clear c23b1
    try clear c24
    try clear c24b0
    try clear c24b1
    try clear c25
    try clear c25b0
    try clear c25b1
    try clear c27
    try clear c28
    try clear c31
    try clear hcz11_0
    try clear hcz11_1
    try clear hcz11_2
    try clear hcz11_3
    try clear hcz12_0
    try clear hcz12_1
    try clear hcz12_2
    try clear hcz12_3
    try clear hcz12_4
    try clear hcz19_0
    try clear hcz19_1
    try clear hcz19_2
    try clear hcz19_3
    try clear hcz19_4
    try clear hcz21_0
    try clear hcz21_1
    try clear hcz21_2
    try clear hcz21_3
    try clear hcz29_0
    try clear hcz29_1
    try clear hcz29_2
    try clear hcz29_3
    try clear hcz29_4
    try clear hcz32_0
    try clear hcz32_1
    try clear hcz32_2
    try clear hcz32_3
    try clear hcz7_0
    try clear hcz7_1
    try clear hcz7_2
    try clear hcz7_3
    try clear hcz7_4
    try clear hfz11_0
    try clear hfz11_1
    try clear hfz11_2
    try clear hfz11_3
    try clear hfz12_0
    try clear hfz12_1
    try clear hfz12_2
    try clear hfz12_3
    try clear hfz12_4
    try clear hfz19_0
    try clear hfz19_1
    try clear hfz19_2
    try clear hfz19_3
    try clear hfz19_4
    try clear hfz21_0
    try clear hfz21_1
    try clear hfz21_2
    try clear hfz21_3
    try clear hfz29_0
    try clear hfz29_1
    try clear hfz29_2
    try clear hfz29_3
    try clear hfz29_4
    try clear hfz32_0
    try clear hfz32_1
    try clear hfz32_2
    try clear hfz32_3
    try clear hfz7_0
    try clear hfz7_1
    try clear hfz7_2
    try clear hfz7_3
    try clear hfz7_4
    try clear p2
    obtain ⟨x6_2, x343002_2, u343002, rfl, HA, HK2, HO_343002, BK340, BK341, BK342, HB⟩ := hrel
    cases gk with
    | zero => exact absurd HA.out (by simp [spec_Tree.l0])
    | succ k2 =>
     have H := HA.out
     clear HA
     simp only [spec_Tree.l0] at H
     by_cases c33 : x6_2 < (l1_3.length : Int)
     ·rw [if_pos c33] at H
      have c33b0 : decide (x6_2 < (l1_3.length : Int)) = true := decide_eq_true c33
      clear c33
      by_cases c34 : 0 ≤ x6_2
      ·rw [if_pos c34] at H
       have c34b0 : decide (0 ≤ x6_2) = true := decide_eq_true c34
       clear c34
       by_cases c35 : 0 ≤ ((rd_T115 l1_3 x6_2).f0)
       ·rw [if_pos c35] at H
        have c35b0 := eq_true c35
        have c35b1 : decide (0 ≤ ((rd_T115 l1_3 x6_2).f0)) = true := decide_eq_true c35
        clear c35
        by_cases c36 : ((rd_T115 l1_3 x6_2).f0) ≤ ((rd_T115 l1_3 x6_2).f1)
        ·rw [if_pos c36] at H
         have c36b0 := eq_true c36
         have c36b1 : decide (((rd_T115 l1_3 x6_2).f0) ≤ ((rd_T115 l1_3 x6_2).f1)) = true := decide_eq_true c36
         clear c36
         by_cases c37 : ((rd_T115 l1_3 x6_2).f1) ≤ (a0.size : Int)
         ·rw [if_pos c37] at H
          have c37b0 := eq_true c37
          have c37b1 : decide (((rd_T115 l1_3 x6_2).f1) ≤ (a0.size : Int)) = true := decide_eq_true c37
          clear c37
          replace H := Option.bind_eq_some_iff.mp H
          obtain ⟨t346, A380, H⟩ := H
          try dsimp only at H
          have A38 := Aside0.mk A380
          clear A380
          by_cases c39 : x343002_2.length < 8796093022208
          ·rw [if_pos c39] at H
           have LMc39 := Aside0.mk c39
           clear c39
           obtain ⟨y347, hy347⟩ : ∃ y_ : List ByteArray, y_ = (x343002_2 ++ [t346]) := ⟨_, rfl⟩
           replace H : (spec_Tree.l0 k2 a0 (wrap64 (x6_2 + 1)) a1_0 a1_1 a1_2 l1_3 l1_4 a1_0 x343001_2 y347) = some (r1, r2, r3, r4) := by first | (rw [hy347]; with_reducible exact H) | (have H2_ := (Option.bind_some _ _).symm.trans H; rw [hy347]; with_reducible exact H2_) | (have H2_ := (Option.bind_some _ _).symm.trans H; with_reducible exact H2_) | with_reducible exact H | (rw [hy347]; exact H) | exact H
           have Ny347 := Aside0.mk hy347
           clear hy347
           have H' := Aside0.mk H
           clear H
           have hnb40 := NB340_341.out
           have hnc40 := NB341_340.out
           have hnb41 := NB340_342.out
           have hnc41 := NB342_340.out
           have hcz42_0 : wr.cell? ⟨gb340, 0, none⟩ = some (.int .i64 a1_0) := (blk_cell BK340.out 0).trans rfl
           have hcz42_1 : wr.cell? ⟨gb340, 1, none⟩ = some (.int .i64 a1_1) := (blk_cell BK340.out 1).trans rfl
           have hcz42_2 : wr.cell? ⟨gb340, 2, none⟩ = some (.int .i64 a1_2) := (blk_cell BK340.out 2).trans rfl
           have hcz42_3 : wr.cell? ⟨gb340, 3, none⟩ = some (.slice A1_3 l1_3.length c1_3) := (blk_cell BK340.out 3).trans rfl
           have hcz42_4 : wr.cell? ⟨gb340, 4, none⟩ = some (.slice A1_4 l1_4.length c1_4) := (blk_cell BK340.out 4).trans rfl
           have hfz42_0 := blk_frozen BK340.out 0
           have hfz42_1 := blk_frozen BK340.out 1
           have hfz42_2 := blk_frozen BK340.out 2
           have hfz42_3 := blk_frozen BK340.out 3
           have hfz42_4 := blk_frozen BK340.out 4
           try go_wp2
           have n0_ := Aside0.mk (Kd.R_drew HO_343002.out)
           have n1_ := Aside0.mk (blk_drew BK340.out)
           have n2_ := Aside0.mk (blk_drew BK341.out)
           have n3_ := Aside0.mk (blk_drew BK342.out)
           have n4_ := Aside0.mk (below_drew1 HB.out)
           clear HO_343002
           clear BK340
           clear BK341
           clear BK342
           clear HB
           have HO_343002 := n0_
           have BK340 := n1_
           have BK341 := n2_
           have BK342 := n3_
           have HB := n4_
           clear n0_ n1_ n2_ n3_ n4_
           have p344 : 0 ≤ (x6_2 : Int) := of_decide_eq_true (by first | (with_reducible assumption) | assumption)
           have q344 : x6_2 < (l1_3.length : Int) := of_decide_eq_true (by first | (with_reducible assumption) | assumption)
           obtain ⟨ad344, e344, hx344_0, hx344_1⟩ := at_T115 HR1_3.out x6_2 p344 q344
           have hw344_1 := hx344_1
           have hw344_0 := hx344_0
           cases e344
           replace hx344_0 := (HB.out.cell (World.block_lt_of_cell? w _ hx344_0)).trans hx344_0
           replace hx344_1 := (HB.out.cell (World.block_lt_of_cell? w _ hx344_1)).trans hx344_1
           replace p344 := eq_true p344
           replace q344 := eq_true q344
           have p345 : 0 ≤ (x6_2 : Int) := of_decide_eq_true (by first | (with_reducible assumption) | assumption)
           have q345 : x6_2 < (l1_3.length : Int) := of_decide_eq_true (by first | (with_reducible assumption) | assumption)
           obtain ⟨ad345, e345, hx345_0, hx345_1⟩ := at_T115 HR1_3.out x6_2 p345 q345
           have hw345_1 := hx345_1
           have hw345_0 := hx345_0
           obtain rfl : ad344 = ad345 := (by injection e345)
           replace hx345_0 := (HB.out.cell (World.block_lt_of_cell? w _ hx345_0)).trans hx345_0
           replace hx345_1 := (HB.out.cell (World.block_lt_of_cell? w _ hx345_1)).trans hx345_1
           replace p345 := eq_true p345
           replace q345 := eq_true q345
           refine start_ (n := 21) (S := fun w' => w'.cell? ⟨gb342, 0, none⟩ = some (.int .i64 a1_0) ∧ w'.cell? ⟨gb342, 1, none⟩ = some (.string x343001_2) ∧ w'.cell? ⟨gb342, 2, none⟩ = some (u343002) ∧ w'.cell? ⟨gb342, 3, none⟩ = some (.slice none 0 0) ∧ w'.cell? ⟨gb340, 0, none⟩ = some (.int .i64 a1_0) ∧ w'.cell? ⟨gb340, 1, none⟩ = some (.int .i64 a1_1) ∧ w'.cell? ⟨gb340, 2, none⟩ = some (.int .i64 a1_2) ∧ w'.cell? ⟨gb340, 3, none⟩ = some (.slice (some ad344) l1_3.length c1_3) ∧ w'.cell? ⟨gb340, 4, none⟩ = some (.slice A1_4 l1_4.length c1_4) ∧ w'.cell? (ad344.add ((x6_2).toNat * 2)) = some (.int .i64 ((rd_T115 l1_3 x6_2).f0)) ∧ w'.cell? ⟨(ad344.add ((x6_2).toNat * 2)).block, (ad344.add ((x6_2).toNat * 2)).off + 1, none⟩ = some (.int .i64 ((rd_T115 l1_3 x6_2).f1)) ∧ w'.cell? (ad344.add ((x6_2).toNat * 2)) = some (.int .i64 ((rd_T115 l1_3 x6_2).f0)) ∧ w'.cell? ⟨(ad344.add ((x6_2).toNat * 2)).block, (ad344.add ((x6_2).toNat * 2)).off + 1, none⟩ = some (.int .i64 ((rd_T115 l1_3 x6_2).f1))) (ds := [20]) #[false, false, false, false, false, false, false, false, false, false, false, false, false, false, false, false, false, false, false, false, false] (by kernel_rfl) rfl rfl ⟨(blk_cell BK342.out 0).trans rfl, (blk_cell BK342.out 1).trans rfl, (blk_cell BK342.out 2).trans rfl, (blk_cell BK342.out 3).trans rfl, (blk_cell BK340.out 0).trans rfl, (blk_cell BK340.out 1).trans rfl, (blk_cell BK340.out 2).trans rfl, (blk_cell BK340.out 3).trans rfl, (blk_cell BK340.out 4).trans rfl, ((HB.out.cell (World.block_lt_of_cell? w _ hw344_0)).trans hw344_0), ((HB.out.cell (World.block_lt_of_cell? w _ hw344_1)).trans hw344_1), ((HB.out.cell (World.block_lt_of_cell? w _ hw345_0)).trans hw345_0), ((HB.out.cell (World.block_lt_of_cell? w _ hw345_1)).trans hw345_1)⟩ (fun hHeld => ?_); refine with_tabW spec_Tree.tab10 spec_Tree.bits10 (fun HT_ HW_ => ?_)
           generalize wr.drew = w43 at HO_343002 BK340 BK341 BK342 HB hx344_0 hx344_1 hx345_0 hx345_1 hHeld ⊢
           refine pure_ (i := 0) (N := some 39) (v := ?_) (a' := ?_) #[true, false, false, false, false, false, false, false, false, false, false, false, false, false, false, false, false, false, false, false, false] rfl rfl (any_of HT_.out (by kernel_rfl)) (fun _ _ _ h => h) (Or.inl ⟨by rfl, ?_⟩) ?_ ?_
           rotate_left
           ·intro w'
            go_simp
            with_reducible rfl
           rotate_left
           ·simp only [Act.put, List.setIfInBounds_toArray, List.set_cons_zero, List.set_cons_succ, i64_w]
            rfl
           refine pure_ (i := 2) (N := some 41) (v := ?_) (a' := ?_) #[true, false, true, false, false, false, false, false, false, false, false, false, false, false, false, false, false, false, false, false, false] rfl rfl (any_of HT_.out (by kernel_rfl)) (fun _ _ _ h => h) (Or.inl ⟨by rfl, ?_⟩) ?_ ?_
           rotate_left
           ·intro w'
            go_simp
            with_reducible rfl
           rotate_left
           ·simp only [Act.put, List.setIfInBounds_toArray, List.set_cons_zero, List.set_cons_succ, i64_w]
            rfl
           refine pure_ (i := 3) (N := some 42) (v := ?_) (a' := ?_) #[true, false, true, true, false, false, false, false, false, false, false, false, false, false, false, false, false, false, false, false, false] rfl rfl (any_of HT_.out (by kernel_rfl)) (fun _ _ _ h => h) (Or.inl ⟨by rfl, ?_⟩) ?_ ?_
           rotate_left
           ·intro w'
            go_simp
            with_reducible rfl
           rotate_left
           ·simp only [Act.put, List.setIfInBounds_toArray, List.set_cons_zero, List.set_cons_succ, i64_w]
            rfl
           refine pure_ (i := 5) (N := some 44) (v := ?_) (a' := ?_) #[true, false, true, true, false, true, false, false, false, false, false, false, false, false, false, false, false, false, false, false, false] rfl rfl (any_of HT_.out (by kernel_rfl)) (fun _ _ _ h => h) (Or.inl ⟨by rfl, ?_⟩) ?_ ?_
           rotate_left
           ·intro w'
            go_simp
            with_reducible rfl
           rotate_left
           ·simp only [Act.put, List.setIfInBounds_toArray, List.set_cons_zero, List.set_cons_succ, i64_w]
            rfl
           refine pure_ (i := 9) (N := some 48) (v := ?_) (a' := ?_) #[true, false, true, true, false, true, false, false, false, true, false, false, false, false, false, false, false, false, false, false, false] rfl rfl (any_of HT_.out (by kernel_rfl)) (fun _ _ _ h => h) (Or.inl ⟨by rfl, ?_⟩) ?_ ?_
           rotate_left
           ·intro w'
            go_simp
            with_reducible rfl
           rotate_left
           ·simp only [Act.put, List.setIfInBounds_toArray, List.set_cons_zero, List.set_cons_succ, i64_w]
            rfl
           refine pure_ (i := 11) (N := some 50) (v := ?_) (a' := ?_) #[true, false, true, true, false, true, false, false, false, true, false, true, false, false, false, false, false, false, false, false, false] rfl rfl (any_of HT_.out (by kernel_rfl)) (fun _ _ _ h => h) (Or.inl ⟨by rfl, ?_⟩) ?_ ?_
           rotate_left
           ·intro w'
            go_simp
            with_reducible rfl
           rotate_left
           ·simp only [Act.put, List.setIfInBounds_toArray, List.set_cons_zero, List.set_cons_succ, i64_w]
            rfl
           refine take_ (i := 1) (N := some 40) (v := ?_) (a' := ?_) #[true, true, true, true, false, true, false, false, false, true, false, true, false, false, false, false, false, false, false, false, false] rfl rfl (take_ofW HT_.out HW_.out (by kernel_rfl)) (fun _ _ _ h => h) (Or.inl ⟨by rfl, ?_⟩) hHeld ?_ ?_
           rotate_left
           ·rintro w' ⟨s0, s1, s2, s3, s4, s5, s6, s7, s8, s9, s10, s11, s12⟩
            go_simp
            with_reducible rfl
           rotate_left
           ·simp only [Act.put, List.setIfInBounds_toArray, List.set_cons_zero, List.set_cons_succ, i64_w]
            rfl
           refine take_ (i := 4) (N := some 43) (v := ?_) (a' := ?_) #[true, true, true, true, true, true, false, false, false, true, false, true, false, false, false, false, false, false, false, false, false] rfl rfl (take_ofW HT_.out HW_.out (by kernel_rfl)) (fun _ _ _ h => h) (Or.inl ⟨by rfl, ?_⟩) hHeld ?_ ?_
           rotate_left
           ·rintro w' ⟨s0, s1, s2, s3, s4, s5, s6, s7, s8, s9, s10, s11, s12⟩
            go_simp
            with_reducible rfl
           rotate_left
           ·simp only [Act.put, List.setIfInBounds_toArray, List.set_cons_zero, List.set_cons_succ, i64_w]
            rfl
           refine pure_ (i := 6) (N := some 45) (v := ?_) (a' := ?_) #[true, true, true, true, true, true, true, false, false, true, false, true, false, false, false, false, false, false, false, false, false] rfl rfl (any_of HT_.out (by kernel_rfl)) (fun _ _ _ h => h) (Or.inl ⟨by rfl, ?_⟩) ?_ ?_
           rotate_left
           ·intro w'
            go_simp
            with_reducible rfl
           rotate_left
           ·simp only [Act.put, List.setIfInBounds_toArray, List.set_cons_zero, List.set_cons_succ, i64_w]
            rfl
           refine pure_ (i := 7) (N := some 46) (v := ?_) (a' := ?_) #[true, true, true, true, true, true, true, true, false, true, false, true, false, false, false, false, false, false, false, false, false] rfl rfl (any_of HT_.out (by kernel_rfl)) (fun _ _ _ h => h) (Or.inl ⟨by rfl, ?_⟩) ?_ ?_
           rotate_left
           ·intro w'
            go_simp
            with_reducible rfl
           rotate_left
           ·simp only [Act.put, List.setIfInBounds_toArray, List.set_cons_zero, List.set_cons_succ, i64_w]
            rfl
           refine take_ (i := 8) (N := some 47) (v := ?_) (a' := ?_) #[true, true, true, true, true, true, true, true, true, true, false, true, false, false, false, false, false, false, false, false, false] rfl rfl (take_ofW HT_.out HW_.out (by kernel_rfl)) (fun _ _ _ h => h) (Or.inl ⟨by rfl, ?_⟩) hHeld ?_ ?_
           rotate_left
           ·rintro w' ⟨s0, s1, s2, s3, s4, s5, s6, s7, s8, s9, s10, s11, s12⟩
            go_simp
            with_reducible rfl
           rotate_left
           ·simp only [Act.put, List.setIfInBounds_toArray, List.set_cons_zero, List.set_cons_succ, i64_w]
            rfl
           refine take_ (i := 10) (N := some 49) (v := ?_) (a' := ?_) #[true, true, true, true, true, true, true, true, true, true, true, true, false, false, false, false, false, false, false, false, false] rfl rfl (take_ofW HT_.out HW_.out (by kernel_rfl)) (fun _ _ _ h => h) (Or.inl ⟨by rfl, ?_⟩) hHeld ?_ ?_
           rotate_left
           ·rintro w' ⟨s0, s1, s2, s3, s4, s5, s6, s7, s8, s9, s10, s11, s12⟩
            go_simp
            with_reducible rfl
           rotate_left
           ·simp only [Act.put, List.setIfInBounds_toArray, List.set_cons_zero, List.set_cons_succ, i64_w]
            rfl
           refine pure_ (i := 12) (N := some 51) (v := ?_) (a' := ?_) #[true, true, true, true, true, true, true, true, true, true, true, true, true, false, false, false, false, false, false, false, false] rfl rfl (any_of HT_.out (by kernel_rfl)) (fun _ _ _ h => h) (Or.inl ⟨by rfl, ?_⟩) ?_ ?_
           rotate_left
           ·intro w'
            go_simp
            with_reducible rfl
           rotate_left
           ·simp only [Act.put, List.setIfInBounds_toArray, List.set_cons_zero, List.set_cons_succ, i64_w]
            rfl
           refine pure_ (i := 13) (N := some 52) (v := ?_) (a' := ?_) #[true, true, true, true, true, true, true, true, true, true, true, true, true, true, false, false, false, false, false, false, false] rfl rfl (any_of HT_.out (by kernel_rfl)) (fun _ _ _ h => h) (Or.inl ⟨by rfl, ?_⟩) ?_ ?_
           rotate_left
           ·intro w'
            go_simp
            with_reducible rfl
           rotate_left
           ·simp only [Act.put, List.setIfInBounds_toArray, List.set_cons_zero, List.set_cons_succ, i64_w]
            rfl
           refine take_ (i := 14) (N := some 53) (v := ?_) (a' := ?_) #[true, true, true, true, true, true, true, true, true, true, true, true, true, true, true, false, false, false, false, false, false] rfl rfl (take_ofW HT_.out HW_.out (by kernel_rfl)) (fun _ _ _ h => h) (Or.inl ⟨by rfl, ?_⟩) hHeld ?_ ?_
           rotate_left
           ·rintro w' ⟨s0, s1, s2, s3, s4, s5, s6, s7, s8, s9, s10, s11, s12⟩
            go_simp
            with_reducible rfl
           rotate_left
           ·simp only [Act.put, List.setIfInBounds_toArray, List.set_cons_zero, List.set_cons_succ, i64_w]
            rfl
           refine pure_ (i := 15) (N := some 54) (v := ?_) (a' := ?_) #[true, true, true, true, true, true, true, true, true, true, true, true, true, true, true, true, false, false, false, false, false] rfl rfl (any_of HT_.out (by kernel_rfl)) (fun _ _ _ h => h) (Or.inl ⟨by rfl, ?_⟩) ?_ ?_
           rotate_left
           ·intro w'
            go_simp
            with_reducible rfl
           rotate_left
           ·simp only [Act.put, List.setIfInBounds_toArray, List.set_cons_zero, List.set_cons_succ, i64_w]
            rfl
           refine one_ (i := 16) (N := some 55) #[true, true, true, true, true, true, true, true, true, true, true, true, true, true, true, true, true, false, false, false, false] rfl rfl (one_of HT_.out (by kernel_rfl)) (by decide) (fun K hK => ?_)
           refine goes_ Tryz.func74 (by kernel_rfl) rfl #[.string (a0.extract (((rd_T115 l1_3 x6_2).f0) : Int).toNat (((rd_T115 l1_3 x6_2).f1) : Int).toNat)] (by rfl) rfl rfl (by (try simp only [List.map_toArray, List.map_cons, List.map_nil]); first | done | rfl | (simp only [List.length_drop, List.length_take]; rfl)) ?_
           with_reducible refine (spec_Unquote.calls k2 (a0.extract (((rd_T115 l1_3 x6_2).f0) : Int).toNat (((rd_T115 l1_3 x6_2).f1) : Int).toNat) t346 _ A38.out).mono ?_
           rintro e w44 ⟨rfl, hb⟩
           refine ⟨_, rfl, ?_⟩
           have n0_ := Aside0.mk (Kd.R_below (by (with_reducible repeat (first | apply rA | apply rN | apply rD)); exact HO_343002.out) hb)
           have n1_ := Aside0.mk (blk_below (g := gb340) (o := .cells #[.int .i64 a1_0, .int .i64 a1_1, .int .i64 a1_2, .slice (some ad344) l1_3.length c1_3, .slice A1_4 l1_4.length c1_4] 78 (0, 0)) (by (with_reducible repeat (first | refine lN ?_ _ | refine lD ?_ | refine lA ?_ _)); exact BK340.out) hb)
           have n2_ := Aside0.mk (blk_below (g := gb341) (o := .cells #[.int .i64 0, .string (⟨#[]⟩ : ByteArray), .slice none 0 0, .slice none 0 0] 25 (0, 0)) (by (with_reducible repeat (first | refine lN ?_ _ | refine lD ?_ | refine lA ?_ _)); exact BK341.out) hb)
           have n3_ := Aside0.mk (blk_below (g := gb342) (o := .cells #[.int .i64 a1_0, .string x343001_2, u343002, .slice none 0 0] 25 (0, 0)) (by (with_reducible repeat (first | refine lN ?_ _ | refine lD ?_ | refine lA ?_ _)); exact BK342.out) hb)
           have n4_ := Aside0.mk (below_step (by repeat (first | (with_reducible first | exact HB.out | apply bA | apply bN | apply bD | refine below_set ?_ GE340.out | refine below_set ?_ GE341.out | refine below_set ?_ GE342.out) | exact HB.out)) hb)
           clear HO_343002
           clear BK340
           clear BK341
           clear BK342
           clear HB
           have HO_343002 := n0_
           have BK340 := n1_
           have BK341 := n2_
           have BK342 := n3_
           have HB := n4_
           clear n0_ n1_ n2_ n3_ n4_
           (try clear hb)
           (try clear hb2)
           (try clear hk)
           (try clear hi)
           refine hK.out _ _ ⟨(blk_cell BK342.out 0).trans rfl, (blk_cell BK342.out 1).trans rfl, (blk_cell BK342.out 2).trans rfl, (blk_cell BK342.out 3).trans rfl, (blk_cell BK340.out 0).trans rfl, (blk_cell BK340.out 1).trans rfl, (blk_cell BK340.out 2).trans rfl, (blk_cell BK340.out 3).trans rfl, (blk_cell BK340.out 4).trans rfl, ((HB.out.cell (World.block_lt_of_cell? w _ hw344_0)).trans hw344_0), ((HB.out.cell (World.block_lt_of_cell? w _ hw344_1)).trans hw344_1), ((HB.out.cell (World.block_lt_of_cell? w _ hw345_0)).trans hw345_0), ((HB.out.cell (World.block_lt_of_cell? w _ hw345_1)).trans hw345_1)⟩ (fun hHeld => ?_)
           clear hK K
           refine norm_ (a' := ?_) ?_ ?_
           rotate_left
           ·show Act.put _ (some 55) _ = _
            simp only [Act.put, List.setIfInBounds_toArray, List.set_cons_zero, List.set_cons_succ, i64_w]
            rfl
           refine one_ (i := 17) (N := some 56) #[true, true, true, true, true, true, true, true, true, true, true, true, true, true, true, true, true, true, false, false, false] rfl rfl (one_of HT_.out (by kernel_rfl)) (by decide) (fun K hK => ?_)
           refine value_ (w1 := ?_) (v := ?_) (by rfl) rfl ?_ ?_
           rotate_left 2
           ·go_simp
            constructor
            ·rfl
            ·rfl
           refine hK.out _ _ ⟨(blk_cell (blk_alloc BK342.out _) 0).trans rfl, (blk_cell (blk_alloc BK342.out _) 1).trans rfl, (blk_cell (blk_alloc BK342.out _) 2).trans rfl, (blk_cell (blk_alloc BK342.out _) 3).trans rfl, (blk_cell (blk_alloc BK340.out _) 0).trans rfl, (blk_cell (blk_alloc BK340.out _) 1).trans rfl, (blk_cell (blk_alloc BK340.out _) 2).trans rfl, (blk_cell (blk_alloc BK340.out _) 3).trans rfl, (blk_cell (blk_alloc BK340.out _) 4).trans rfl, (World.cell?_alloc_lt _ _ _ (World.block_lt_of_cell? _ _ (((HB.out.cell (World.block_lt_of_cell? w _ hw344_0)).trans hw344_0)))).trans (((HB.out.cell (World.block_lt_of_cell? w _ hw344_0)).trans hw344_0)), (World.cell?_alloc_lt _ _ _ (World.block_lt_of_cell? _ _ (((HB.out.cell (World.block_lt_of_cell? w _ hw344_1)).trans hw344_1)))).trans (((HB.out.cell (World.block_lt_of_cell? w _ hw344_1)).trans hw344_1)), (World.cell?_alloc_lt _ _ _ (World.block_lt_of_cell? _ _ (((HB.out.cell (World.block_lt_of_cell? w _ hw345_0)).trans hw345_0)))).trans (((HB.out.cell (World.block_lt_of_cell? w _ hw345_0)).trans hw345_0)), (World.cell?_alloc_lt _ _ _ (World.block_lt_of_cell? _ _ (((HB.out.cell (World.block_lt_of_cell? w _ hw345_1)).trans hw345_1)))).trans (((HB.out.cell (World.block_lt_of_cell? w _ hw345_1)).trans hw345_1))⟩ (fun hHeld => ?_)
           clear hK K
           refine norm_ (a' := ?_) ?_ ?_
           rotate_left
           ·show Act.put _ (some 56) _ = _
            simp only [Act.put, List.setIfInBounds_toArray, List.set_cons_zero, List.set_cons_succ, i64_w]
            rfl
           refine one_ (i := 18) (N := some 57) #[true, true, true, true, true, true, true, true, true, true, true, true, true, true, true, true, true, true, true, false, false] rfl rfl (one_of HT_.out (by kernel_rfl)) (by decide) (fun K hK => ?_)
           refine Kd.R_append_step Kd.string (w0 := w) w.heap.size (by rfl) (.tmp 40) (.tmp 56) 22 9 (.string ⟨#[]⟩) 16 rfl Tryz.underlying22 info9 rfl (by decide) (by omega) u343002 x343002_2 t346 [.string t346] (fun _ => True) (fun _ => False) rfl rfl ?aP (fun _ hk => hk.elim) ?aF ?aO ?aB ?aS ?aL ?_
           (case aP => exact rfl)
           (case aB => exact (by repeat (first | (with_reducible first | exact HB.out | apply bA | apply bN | apply bD | refine below_set ?_ GE340.out | refine below_set ?_ GE341.out | refine below_set ?_ GE342.out) | exact HB.out)))
           (case aF => exact (fun _ _ => trivial))
           (case aO => exact (by (with_reducible repeat (first | apply rA | apply rN | apply rD)); exact HO_343002.out))
           (case aS => exact (below_size (by repeat (first | (with_reducible first | exact HB.out | apply bA | apply bN | apply bD | refine below_set ?_ GE340.out | refine below_set ?_ GE341.out | refine below_set ?_ GE342.out) | exact HB.out))))
           (case aL => have := LMc39.out; omega)
           intro v348 w45 ho hb hg hat
           rw [← Ny347.out] at ho
           have n0_ := Aside0.mk (blk_grown (g := gb340) (o := .cells #[.int .i64 a1_0, .int .i64 a1_1, .int .i64 a1_2, .slice (some ad344) l1_3.length c1_3, .slice A1_4 l1_4.length c1_4] 78 (0, 0)) (by (with_reducible repeat (first | refine lN ?_ _ | refine lD ?_ | refine lA ?_ _)); exact BK340.out) hg (Kd.R_ne HO_343002.out BK340.out (by decide)))
           have n1_ := Aside0.mk (blk_grown (g := gb341) (o := .cells #[.int .i64 0, .string (⟨#[]⟩ : ByteArray), .slice none 0 0, .slice none 0 0] 25 (0, 0)) (by (with_reducible repeat (first | refine lN ?_ _ | refine lD ?_ | refine lA ?_ _)); exact BK341.out) hg (Kd.R_ne HO_343002.out BK341.out (by decide)))
           have n2_ := Aside0.mk (blk_grown (g := gb342) (o := .cells #[.int .i64 a1_0, .string x343001_2, u343002, .slice none 0 0] 25 (0, 0)) (by (with_reducible repeat (first | refine lN ?_ _ | refine lD ?_ | refine lA ?_ _)); exact BK342.out) hg (Kd.R_ne HO_343002.out BK342.out (by decide)))
           have n3_ := Aside0.mk (hb)
           have n4_ := Aside0.mk (ho)
           clear BK340
           clear BK341
           clear BK342
           clear HB
           clear HO_343002
           have BK340 := n0_
           have BK341 := n1_
           have BK342 := n2_
           have HB := n3_
           have HO349 := n4_
           clear n0_ n1_ n2_ n3_ n4_
           clear ho hb hg hat
           obtain ⟨Ao46, co46, eo46⟩ := Kd.R_slice HO349.out
           (first | subst eo46 | (injection eo46 with f1_ f2_ f3_; have f4_ := f1_.symm; have f5_ := f3_.symm; clear f1_ f2_ f3_; subst f4_; subst f5_))
           refine hK.out _ _ ⟨(blk_cell BK342.out 0).trans rfl, (blk_cell BK342.out 1).trans rfl, (blk_cell BK342.out 2).trans rfl, (blk_cell BK342.out 3).trans rfl, (blk_cell BK340.out 0).trans rfl, (blk_cell BK340.out 1).trans rfl, (blk_cell BK340.out 2).trans rfl, (blk_cell BK340.out 3).trans rfl, (blk_cell BK340.out 4).trans rfl, ((HB.out.cell (World.block_lt_of_cell? w _ hw344_0)).trans hw344_0), ((HB.out.cell (World.block_lt_of_cell? w _ hw344_1)).trans hw344_1), ((HB.out.cell (World.block_lt_of_cell? w _ hw345_0)).trans hw345_0), ((HB.out.cell (World.block_lt_of_cell? w _ hw345_1)).trans hw345_1)⟩ (fun hHeld => ?_)
           clear hK K
           refine norm_ (a' := ?_) ?_ ?_
           rotate_left
           ·show Act.put _ (some 57) _ = _
            simp only [Act.put, List.setIfInBounds_toArray, List.set_cons_zero, List.set_cons_succ, i64_w]
            rfl
           refine pure_ (i := 19) (N := some 58) (v := ?_) (a' := ?_) #[true, true, true, true, true, true, true, true, true, true, true, true, true, true, true, true, true, true, true, true, false] rfl rfl (any_of HT_.out (by kernel_rfl)) (fun _ _ _ h => h) (Or.inl ⟨by rfl, ?_⟩) ?_ ?_
           rotate_left
           ·intro w'
            go_simp
            with_reducible rfl
           rotate_left
           ·simp only [Act.put, List.setIfInBounds_toArray, List.set_cons_zero, List.set_cons_succ, i64_w]
            rfl
           refine last_ (i := 20) (N := none) #[true, true, true, true, true, true, true, true, true, true, true, true, true, true, true, true, true, true, true, true, true] rfl rfl (one_of HT_.out (by kernel_rfl)) (by decide) (fun K hK => ?_)
           have hs47 : w45.cell? ⟨gb342, 2, none⟩ = some (u343002) := (blk_cell BK342.out 2).trans rfl
           have hfs47 := blk_frozen BK342.out 2
           have hns47_0 := NB340_342.out
           have hns47_1 := NB341_342.out
           have hms47_0 := NB342_340.out
           have hms47_1 := NB342_341.out
           refine skip_ (w1 := ?_) (by rfl) rfl ?_ ?_
           rotate_left
           ·go_simp
            rfl
           refine hK.out _ _ ?_
           clear hK K
           refine done_ (done_of HT_.out (by kernel_rfl)) ?_
           try go_wp2
           go_roundg k2
           case measure => have := HJ2.out; have := HK2.out; omega
           case rel => exact ⟨(wrap64 (x6_2 + 1)), (y347), (.slice Ao46 y347.length co46), (by first | rfl | (simp; done) | (simp [*]; done)), H', ⟨by have := HJ2.out; have := HK2.out; omega⟩, ⟨by (with_reducible repeat (first | apply rA | apply rN | apply rD)); exact Kd.R_mono (Kd.R_far (p := ⟨gb342, 2, none⟩) (Kd.R_types HO349.out BK342.out (by decide)) (fun _ hk => hk.2) (.slice Ao46 y347.length co46)) (fun _ hk => trivial)⟩, ⟨by (with_reducible repeat (first | refine lN ?_ _ | refine lD ?_ | refine lA ?_ _)); refine blk_far ?_ NB340_342.out _; (with_reducible repeat (first | refine lN ?_ _ | refine lD ?_ | refine lA ?_ _)); exact BK340.out⟩, ⟨by (with_reducible repeat (first | refine lN ?_ _ | refine lD ?_ | refine lA ?_ _)); refine blk_far ?_ NB341_342.out _; (with_reducible repeat (first | refine lN ?_ _ | refine lD ?_ | refine lA ?_ _)); exact BK341.out⟩, ⟨by (with_reducible repeat (first | refine lN ?_ _ | refine lD ?_ | refine lA ?_ _)); refine blk_put (cs := #[.int .i64 a1_0, .string x343001_2, u343002, .slice none 0 0]) ?_ 2 _ rfl; (with_reducible repeat (first | refine lN ?_ _ | refine lD ?_ | refine lA ?_ _)); exact BK342.out⟩, ⟨by repeat (first | (with_reducible first | exact HB.out | apply bA | apply bN | apply bD | refine below_set ?_ GE340.out | refine below_set ?_ GE341.out | refine below_set ?_ GE342.out) | exact HB.out)⟩⟩
          ·rw [if_neg c39] at H
           exact absurd H (by simp)
         ·rw [if_neg c37] at H
          exact absurd H (by simp)
        ·rw [if_neg c36] at H
         exact absurd H (by simp)
       ·rw [if_neg c35] at H
        exact absurd H (by simp)
      ·rw [if_neg c34] at H
       exact absurd H (by simp)
     ·rw [if_neg c33] at H
      have c33b0 : decide (x6_2 < (l1_3.length : Int)) = false := decide_eq_false c33
      clear c33
      have H' := Aside0.mk H
      clear H
      have hnb48 := NB340_341.out
      have hnc48 := NB341_340.out
      have hnb49 := NB340_342.out
      have hnc49 := NB342_340.out
      have hcz50_0 : wr.cell? ⟨gb340, 0, none⟩ = some (.int .i64 a1_0) := (blk_cell BK340.out 0).trans rfl
      have hcz50_1 : wr.cell? ⟨gb340, 1, none⟩ = some (.int .i64 a1_1) := (blk_cell BK340.out 1).trans rfl
      have hcz50_2 : wr.cell? ⟨gb340, 2, none⟩ = some (.int .i64 a1_2) := (blk_cell BK340.out 2).trans rfl
      have hcz50_3 : wr.cell? ⟨gb340, 3, none⟩ = some (.slice A1_3 l1_3.length c1_3) := (blk_cell BK340.out 3).trans rfl
      have hcz50_4 : wr.cell? ⟨gb340, 4, none⟩ = some (.slice A1_4 l1_4.length c1_4) := (blk_cell BK340.out 4).trans rfl
      have hfz50_0 := blk_frozen BK340.out 0
      have hfz50_1 := blk_frozen BK340.out 1
      have hfz50_2 := blk_frozen BK340.out 2
      have hfz50_3 := blk_frozen BK340.out 3
      have hfz50_4 := blk_frozen BK340.out 4
      go_wp2
      go_loopg [7] k2 (fun kq v7 w' => ∃ (x7_3 : Int) (x343003_3 : List (S25)) (u343003 : Value), v7 = .int .i64 x7_3 ∧ Aside0 (spec_Tree.l1 kq a0 x7_3 a1_0 a1_1 a1_2 l1_3 l1_4 a1_0 x343001_2 x343002_2 x343003_3 = some (r1, r2, r3, r4)) ∧ Aside0 (kq ≤ k2) ∧ Aside0 (Kd.R Kd.string 9 w' w.heap.size (fun _ => True) u343002 x343002_2) ∧ Aside0 (Kd.R k25 25 w' w.heap.size (fun k_ => some k_ ≠ (u343002 : Value).ownBlock ∧ k_ ≠ gb341 ∧ k_ ≠ gb342) u343003 x343003_3) ∧ Aside0 (w'.heap[gb340]? = some (.cells #[.int .i64 a1_0, .int .i64 a1_1, .int .i64 a1_2, (.slice A1_3 l1_3.length c1_3), (.slice A1_4 l1_4.length c1_4)] 78 (0, 0))) ∧ Aside0 (w'.heap[gb341]? = some (.cells #[.int .i64 0, .string (⟨#[]⟩ : ByteArray), (.slice none 0 0), (.slice none 0 0)] 25 (0, 0))) ∧ Aside0 (w'.heap[gb342]? = some (.cells #[.int .i64 a1_0, .string x343001_2, u343002, u343003] 25 (0, 0))) ∧ Aside0 (Below w.heap.size w w'))
      case atStart => exact ⟨(0), (([] : List (S25))), (.slice none 0 0), (by first | rfl | (simp; done) | (simp [*]; done)), H', ⟨Nat.le_refl _⟩, ⟨by (with_reducible repeat (first | apply rA | apply rN | apply rD)); exact HO_343002.out⟩, ⟨by first | exact Kd.R_nil _ _ _ _ _ | exact Kd.N_nil _ _ _ _ _ | exact Kd.V_nil _ _ _ _ _ | exact Kd.Q_nil _ _ _ _ _ | exact Kd.S_nil _ _ _ _ _⟩, ⟨by (with_reducible repeat (first | refine lN ?_ _ | refine lD ?_ | refine lA ?_ _)); exact BK340.out⟩, ⟨by (with_reducible repeat (first | refine lN ?_ _ | refine lD ?_ | refine lA ?_ _)); exact BK341.out⟩, ⟨by (with_reducible repeat (first | refine lN ?_ _ | refine lD ?_ | refine lA ?_ _)); exact BK342.out⟩, ⟨by repeat (first | (with_reducible first | exact HB.out | apply bA | apply bN | apply bD | refine below_set ?_ GE340.out | refine below_set ?_ GE341.out | refine below_set ?_ GE342.out) | exact HB.out)⟩⟩
      case round =>
       clear H'
       try clear c1
       try clear c2
       try clear p2
       try clear c3
       try clear p3
       try clear q3
       try clear hx3
       try clear c4
       try clear c6
       try clear p6
       try clear c7
       try clear c9
       try clear c10
       try clear c13
       try clear c13b0
       try clear c13b1
       try clear c14
       try clear c14b0
       try clear c14b1
       try clear c15
       try clear c15b0
       try clear c15b1
       try clear c16
       try clear c16b0
       try clear c16b1
       try clear c17
       try clear c18
       try clear c20
       try clear c22
       try clear c22b0
       try clear c22b1
       try clear c23
       try clear c23b0
       try clear c23b1
       try clear c24
       try clear c24b0
       try clear c24b1
       try clear c25
       try clear c25b0
       try clear c25b1
       try clear c27
       try clear c28
       try clear c31
       try clear c33
       try clear c33b0
       try clear c34
       try clear c34b0
       try clear p34
       try clear q34
       try clear hx34
       try clear c35
       try clear c35b0
       try clear c35b1
       try clear c36
       try clear c36b0
       try clear c36b1
       try clear c37
       try clear c37b0
       try clear c37b1
       try clear c39
       try clear c40
       try clear c41
       try clear c48
       try clear c49
       try clear hcz11_0
       try clear hcz11_1
       try clear hcz11_2
       try clear hcz11_3
       try clear hcz12_0
       try clear hcz12_1
       try clear hcz12_2
       try clear hcz12_3
       try clear hcz12_4
       try clear hcz19_0
       try clear hcz19_1
       try clear hcz19_2
       try clear hcz19_3
       try clear hcz19_4
       try clear hcz21_0
       try clear hcz21_1
       try clear hcz21_2
       try clear hcz21_3
       try clear hcz29_0
       try clear hcz29_1
       try clear hcz29_2
       try clear hcz29_3
       try clear hcz29_4
       try clear hcz32_0
       try clear hcz32_1
       try clear hcz32_2
       try clear hcz32_3
       try clear hcz42_0
       try clear hcz42_1
       try clear hcz42_2
       try clear hcz42_3
       try clear hcz42_4
       try clear hcz50_0
       try clear hcz50_1
       try clear hcz50_2
       try clear hcz50_3
       try clear hcz50_4
       try clear hcz7_0
       try clear hcz7_1
       try clear hcz7_2
       try clear hcz7_3
       try clear hcz7_4
       try clear hfz11_0
       try clear hfz11_1
       try clear hfz11_2
       try clear hfz11_3
       try clear hfz12_0
       try clear hfz12_1
       try clear hfz12_2
       try clear hfz12_3
       try clear hfz12_4
       try clear hfz19_0
       try clear hfz19_1
       try clear hfz19_2
       try clear hfz19_3
       try clear hfz19_4
       try clear hfz21_0
       try clear hfz21_1
       try clear hfz21_2
       try clear hfz21_3
       try clear hfz29_0
       try clear hfz29_1
       try clear hfz29_2
       try clear hfz29_3
       try clear hfz29_4
       try clear hfz32_0
       try clear hfz32_1
       try clear hfz32_2
       try clear hfz32_3
       try clear hfz42_0
       try clear hfz42_1
       try clear hfz42_2
       try clear hfz42_3
       try clear hfz42_4
       try clear hfz50_0
       try clear hfz50_1
       try clear hfz50_2
       try clear hfz50_3
       try clear hfz50_4
       try clear hfz7_0
       try clear hfz7_1
       try clear hfz7_2
       try clear hfz7_3
       try clear hfz7_4
       try clear hx344_0
       try clear hx344_1
       try clear hx345_0
       try clear hx345_1
       try clear p2
       try clear p344
       try clear p345
       try clear q344
       try clear q345
       obtain ⟨x7_3, x343003_3, u343003, rfl, HA, HK3, HO_343002, HO_343003, BK340, BK341, BK342, HB⟩ := hrel
       cases gk with
       | zero => exact absurd HA.out (by simp [spec_Tree.l1])
       | succ k3 =>
        have H := HA.out
        clear HA
        simp only [spec_Tree.l1] at H
        by_cases c51 : x7_3 < (l1_4.length : Int)
        ·rw [if_pos c51] at H
         have c51b0 : decide (x7_3 < (l1_4.length : Int)) = true := decide_eq_true c51
         clear c51
         by_cases c52 : 0 ≤ x7_3
         ·rw [if_pos c52] at H
          have c52b0 : decide (0 ≤ x7_3) = true := decide_eq_true c52
          clear c52
          replace H := Option.bind_eq_some_iff.mp H
          obtain ⟨⟨t351, t352, t353, t356⟩, A530, H⟩ := H
          try dsimp only at H
          have A53 := Aside0.mk A530
          clear A530
          by_cases c54 : x343003_3.length < 1954687338268
          ·rw [if_pos c54] at H
           have LMc54 := Aside0.mk c54
           clear c54
           obtain ⟨y359, hy359⟩ : ∃ y_ : List (S25), y_ = (x343003_3 ++ [(⟨t351, t352, t353, t356⟩ : S25)]) := ⟨_, rfl⟩
           replace H : (spec_Tree.l1 k3 a0 (wrap64 (x7_3 + 1)) a1_0 a1_1 a1_2 l1_3 l1_4 a1_0 x343001_2 x343002_2 y359) = some (r1, r2, r3, r4) := by first | (rw [hy359]; with_reducible exact H) | (have H2_ := (Option.bind_some _ _).symm.trans H; rw [hy359]; with_reducible exact H2_) | (have H2_ := (Option.bind_some _ _).symm.trans H; with_reducible exact H2_) | with_reducible exact H | (rw [hy359]; exact H) | exact H
           have Ny359 := Aside0.mk hy359
           clear hy359
           have H' := Aside0.mk H
           clear H
           have hnb55 := NB340_341.out
           have hnc55 := NB341_340.out
           have hnb56 := NB340_342.out
           have hnc56 := NB342_340.out
           have hcz57_0 : wr.cell? ⟨gb340, 0, none⟩ = some (.int .i64 a1_0) := (blk_cell BK340.out 0).trans rfl
           have hcz57_1 : wr.cell? ⟨gb340, 1, none⟩ = some (.int .i64 a1_1) := (blk_cell BK340.out 1).trans rfl
           have hcz57_2 : wr.cell? ⟨gb340, 2, none⟩ = some (.int .i64 a1_2) := (blk_cell BK340.out 2).trans rfl
           have hcz57_3 : wr.cell? ⟨gb340, 3, none⟩ = some (.slice A1_3 l1_3.length c1_3) := (blk_cell BK340.out 3).trans rfl
           have hcz57_4 : wr.cell? ⟨gb340, 4, none⟩ = some (.slice A1_4 l1_4.length c1_4) := (blk_cell BK340.out 4).trans rfl
           have hfz57_0 := blk_frozen BK340.out 0
           have hfz57_1 := blk_frozen BK340.out 1
           have hfz57_2 := blk_frozen BK340.out 2
           have hfz57_3 := blk_frozen BK340.out 3
           have hfz57_4 := blk_frozen BK340.out 4
           try go_wp2
           have n0_ := Aside0.mk (Kd.R_drew HO_343002.out)
           have n1_ := Aside0.mk (Kd.R_drew HO_343003.out)
           have n2_ := Aside0.mk (blk_drew BK340.out)
           have n3_ := Aside0.mk (blk_drew BK341.out)
           have n4_ := Aside0.mk (blk_drew BK342.out)
           have n5_ := Aside0.mk (below_drew1 HB.out)
           clear HO_343002
           clear HO_343003
           clear BK340
           clear BK341
           clear BK342
           clear HB
           have HO_343002 := n0_
           have HO_343003 := n1_
           have BK340 := n2_
           have BK341 := n3_
           have BK342 := n4_
           have HB := n5_
           clear n0_ n1_ n2_ n3_ n4_ n5_
           have p350 : 0 ≤ (x7_3 : Int) := of_decide_eq_true (by first | (with_reducible assumption) | assumption)
           have q350 : x7_3 < (l1_4.length : Int) := of_decide_eq_true (by first | (with_reducible assumption) | assumption)
           obtain ⟨ad350, A350_3, c350_3, A350_4, c350_4, e350, hx350_0, hx350_1, hx350_2, hx350_3, hx350_4, hl350_3, hi350_3, hl350_4, hi350_4⟩ := at_T78 HR1_4.out x7_3 p350 q350
           have hw350_4 := hx350_4
           have hw350_3 := hx350_3
           have hw350_2 := hx350_2
           have hw350_1 := hx350_1
           have hw350_0 := hx350_0
           cases e350
           replace hx350_0 := (HB.out.cell (World.block_lt_of_cell? w _ hx350_0)).trans hx350_0
           replace hx350_1 := (HB.out.cell (World.block_lt_of_cell? w _ hx350_1)).trans hx350_1
           replace hx350_2 := (HB.out.cell (World.block_lt_of_cell? w _ hx350_2)).trans hx350_2
           replace hx350_3 := (HB.out.cell (World.block_lt_of_cell? w _ hx350_3)).trans hx350_3
           replace hx350_4 := (HB.out.cell (World.block_lt_of_cell? w _ hx350_4)).trans hx350_4
           have HR350_3 := Aside0.mk hi350_3
           have HC350_3 := Aside0.mk hl350_3
           clear hi350_3 hl350_3
           have HR350_4 := Aside0.mk hi350_4
           have HC350_4 := Aside0.mk hl350_4
           clear hi350_4 hl350_4
           replace p350 := eq_true p350
           replace q350 := eq_true q350
           refine start_ (n := 13) (S := fun w' => w'.cell? ⟨gb342, 0, none⟩ = some (.int .i64 a1_0) ∧ w'.cell? ⟨gb342, 1, none⟩ = some (.string x343001_2) ∧ w'.cell? ⟨gb342, 2, none⟩ = some (u343002) ∧ w'.cell? ⟨gb342, 3, none⟩ = some (u343003) ∧ w'.cell? ⟨gb340, 0, none⟩ = some (.int .i64 a1_0) ∧ w'.cell? ⟨gb340, 1, none⟩ = some (.int .i64 a1_1) ∧ w'.cell? ⟨gb340, 2, none⟩ = some (.int .i64 a1_2) ∧ w'.cell? ⟨gb340, 3, none⟩ = some (.slice A1_3 l1_3.length c1_3) ∧ w'.cell? ⟨gb340, 4, none⟩ = some (.slice (some ad350) l1_4.length c1_4) ∧ w'.cell? (ad350.add ((x7_3).toNat * 5)) = some (.int .i64 ((rd_T78 l1_4 x7_3).f0)) ∧ w'.cell? ⟨(ad350.add ((x7_3).toNat * 5)).block, (ad350.add ((x7_3).toNat * 5)).off + 1, none⟩ = some (.int .i64 ((rd_T78 l1_4 x7_3).f1)) ∧ w'.cell? ⟨(ad350.add ((x7_3).toNat * 5)).block, (ad350.add ((x7_3).toNat * 5)).off + 2, none⟩ = some (.int .i64 ((rd_T78 l1_4 x7_3).f2)) ∧ w'.cell? ⟨(ad350.add ((x7_3).toNat * 5)).block, (ad350.add ((x7_3).toNat * 5)).off + 3, none⟩ = some (.slice A350_3 ((rd_T78 l1_4 x7_3).f3).length c350_3) ∧ w'.cell? ⟨(ad350.add ((x7_3).toNat * 5)).block, (ad350.add ((x7_3).toNat * 5)).off + 4, none⟩ = some (.slice A350_4 ((rd_T78 l1_4 x7_3).f4).length c350_4)) (ds := [12]) #[false, false, false, false, false, false, false, false, false, false, false, false, false] (by kernel_rfl) rfl rfl ⟨(blk_cell BK342.out 0).trans rfl, (blk_cell BK342.out 1).trans rfl, (blk_cell BK342.out 2).trans rfl, (blk_cell BK342.out 3).trans rfl, (blk_cell BK340.out 0).trans rfl, (blk_cell BK340.out 1).trans rfl, (blk_cell BK340.out 2).trans rfl, (blk_cell BK340.out 3).trans rfl, (blk_cell BK340.out 4).trans rfl, ((HB.out.cell (World.block_lt_of_cell? w _ hw350_0)).trans hw350_0), ((HB.out.cell (World.block_lt_of_cell? w _ hw350_1)).trans hw350_1), ((HB.out.cell (World.block_lt_of_cell? w _ hw350_2)).trans hw350_2), ((HB.out.cell (World.block_lt_of_cell? w _ hw350_3)).trans hw350_3), ((HB.out.cell (World.block_lt_of_cell? w _ hw350_4)).trans hw350_4)⟩ (fun hHeld => ?_); refine with_tabW spec_Tree.tab14 spec_Tree.bits14 (fun HT_ HW_ => ?_)
           generalize wr.drew = w58 at HO_343002 HO_343003 BK340 BK341 BK342 HB HR350_3 HR350_4 hx350_0 hx350_1 hx350_2 hx350_3 hx350_4 hHeld ⊢
           refine pure_ (i := 0) (N := some 66) (v := ?_) (a' := ?_) #[true, false, false, false, false, false, false, false, false, false, false, false, false] rfl rfl (any_of HT_.out (by kernel_rfl)) (fun _ _ _ h => h) (Or.inl ⟨by rfl, ?_⟩) ?_ ?_
           rotate_left
           ·intro w'
            go_simp
            with_reducible rfl
           rotate_left
           ·simp only [Act.put, List.setIfInBounds_toArray, List.set_cons_zero, List.set_cons_succ, i64_w]
            rfl
           refine pure_ (i := 2) (N := some 68) (v := ?_) (a' := ?_) #[true, false, true, false, false, false, false, false, false, false, false, false, false] rfl rfl (any_of HT_.out (by kernel_rfl)) (fun _ _ _ h => h) (Or.inl ⟨by rfl, ?_⟩) ?_ ?_
           rotate_left
           ·intro w'
            go_simp
            with_reducible rfl
           rotate_left
           ·simp only [Act.put, List.setIfInBounds_toArray, List.set_cons_zero, List.set_cons_succ, i64_w]
            rfl
           refine pure_ (i := 3) (N := some 69) (v := ?_) (a' := ?_) #[true, false, true, true, false, false, false, false, false, false, false, false, false] rfl rfl (any_of HT_.out (by kernel_rfl)) (fun _ _ _ h => h) (Or.inl ⟨by rfl, ?_⟩) ?_ ?_
           rotate_left
           ·intro w'
            go_simp
            with_reducible rfl
           rotate_left
           ·simp only [Act.put, List.setIfInBounds_toArray, List.set_cons_zero, List.set_cons_succ, i64_w]
            rfl
           refine pure_ (i := 5) (N := some 71) (v := ?_) (a' := ?_) #[true, false, true, true, false, true, false, false, false, false, false, false, false] rfl rfl (any_of HT_.out (by kernel_rfl)) (fun _ _ _ h => h) (Or.inl ⟨by rfl, ?_⟩) ?_ ?_
           rotate_left
           ·intro w'
            go_simp
            with_reducible rfl
           rotate_left
           ·simp only [Act.put, List.setIfInBounds_toArray, List.set_cons_zero, List.set_cons_succ, i64_w]
            rfl
           refine take_ (i := 1) (N := some 67) (v := ?_) (a' := ?_) #[true, true, true, true, false, true, false, false, false, false, false, false, false] rfl rfl (take_ofW HT_.out HW_.out (by kernel_rfl)) (fun _ _ _ h => h) (Or.inl ⟨by rfl, ?_⟩) hHeld ?_ ?_
           rotate_left
           ·rintro w' ⟨s0, s1, s2, s3, s4, s5, s6, s7, s8, s9, s10, s11, s12, s13⟩
            go_simp
            with_reducible rfl
           rotate_left
           ·simp only [Act.put, List.setIfInBounds_toArray, List.set_cons_zero, List.set_cons_succ, i64_w]
            rfl
           refine take_ (i := 4) (N := some 70) (v := ?_) (a' := ?_) #[true, true, true, true, true, true, false, false, false, false, false, false, false] rfl rfl (take_ofW HT_.out HW_.out (by kernel_rfl)) (fun _ _ _ h => h) (Or.inl ⟨by rfl, ?_⟩) hHeld ?_ ?_
           rotate_left
           ·rintro w' ⟨s0, s1, s2, s3, s4, s5, s6, s7, s8, s9, s10, s11, s12, s13⟩
            go_simp
            with_reducible rfl
           rotate_left
           ·simp only [Act.put, List.setIfInBounds_toArray, List.set_cons_zero, List.set_cons_succ, i64_w]
            rfl
           refine pure_ (i := 6) (N := some 72) (v := ?_) (a' := ?_) #[true, true, true, true, true, true, true, false, false, false, false, false, false] rfl rfl (any_of HT_.out (by kernel_rfl)) (fun _ _ _ h => h) (Or.inl ⟨by rfl, ?_⟩) ?_ ?_
           rotate_left
           ·intro w'
            go_simp
            with_reducible rfl
           rotate_left
           ·simp only [Act.put, List.setIfInBounds_toArray, List.set_cons_zero, List.set_cons_succ, i64_w]
            rfl
           refine take_ (i := 7) (N := some 73) (v := ?_) (a' := ?_) #[true, true, true, true, true, true, true, true, false, false, false, false, false] rfl rfl (take_ofW HT_.out HW_.out (by kernel_rfl)) (fun _ _ _ h => h) (Or.inl ⟨by rfl, ?_⟩) hHeld ?_ ?_
           rotate_left
           ·rintro w' ⟨s0, s1, s2, s3, s4, s5, s6, s7, s8, s9, s10, s11, s12, s13⟩
            go_simp
            with_reducible rfl
           rotate_left
           ·simp only [Act.put, List.setIfInBounds_toArray, List.set_cons_zero, List.set_cons_succ, i64_w]
            rfl
           refine one_ (i := 8) (N := some 74) #[true, true, true, true, true, true, true, true, true, false, false, false, false] rfl rfl (one_of HT_.out (by kernel_rfl)) (by decide) (fun K hK => ?_)
           refine goes_ Tryz.func48 (by kernel_rfl) rfl #[.string a0, .agg #[.int .i64 ((rd_T78 l1_4 x7_3).f0), .int .i64 ((rd_T78 l1_4 x7_3).f1), .int .i64 ((rd_T78 l1_4 x7_3).f2), .slice A350_3 ((rd_T78 l1_4 x7_3).f3).length c350_3, .slice A350_4 ((rd_T78 l1_4 x7_3).f4).length c350_4]] (by rfl) rfl rfl (by (try simp only [List.map_toArray, List.map_cons, List.map_nil]); first | done | rfl | (simp only [List.length_drop, List.length_take]; rfl)) ?_
           with_reducible refine (ih k3 (by have := HJ2.out; have := HK2.out; have := HK3.out; omega) a0 ((rd_T78 l1_4 x7_3).f0) ((rd_T78 l1_4 x7_3).f1) ((rd_T78 l1_4 x7_3).f2) _ _ ((rd_T78 l1_4 x7_3).f3) _ _ ((rd_T78 l1_4 x7_3).f4) t351 t352 t353 t356 _ ?side1 ?side2 ?side3 ?side4 A53.out).mono ?_
           (case side1 => repeat (first | exact (Kd.C_below HR350_3.out HB.out) | (with_reducible refine Kd.C_alloc ?_ _) | (with_reducible refine Kd.C_drewN ?_ _) | (with_reducible refine Kd.C_drew ?_)))
           (case side2 => exact HC350_3.out)
           (case side3 => repeat (first | exact (Kd.C_below HR350_4.out HB.out) | (with_reducible refine Kd.C_alloc ?_ _) | (with_reducible refine Kd.C_drewN ?_ _) | (with_reducible refine Kd.C_drew ?_)))
           (case side4 => exact HC350_4.out)
           rintro e w59 ⟨v354, v357, rfl, ho0, ho1, hb⟩
           refine ⟨_, rfl, ?_⟩
           have n0_ := Aside0.mk (Kd.R_elder' (by (with_reducible repeat (first | apply rA | apply rN | apply rD)); exact HO_343002.out) (Kd.R_base ho0) hb)
           have n1_ := Aside0.mk (Kd.R_mono (Kd.R_told (Kd.R_told (Kd.R_old (by (with_reducible repeat (first | apply rA | apply rN | apply rD)); exact HO_343003.out) hb) (Kd.R_base ho0)) (Kd.R_base ho1)) (fun _ h_ => h_.1))
           have n2_ := Aside0.mk (Kd.R_lower (Kd.R_new' ho0 (Kd.R_lt (by (with_reducible repeat (first | apply rA | apply rN | apply rD)); exact HO_343002.out))) (below_size (by repeat (first | (with_reducible first | exact HB.out | apply bA | apply bN | apply bD | refine below_set ?_ GE340.out | refine below_set ?_ GE341.out | refine below_set ?_ GE342.out) | exact HB.out))))
           have n3_ := Aside0.mk (Kd.R_lower (Kd.R_newB (Kd.R_newB (Kd.R_new' (Kd.R_new' ho1 (Kd.R_lt (by (with_reducible repeat (first | apply rA | apply rN | apply rD)); exact HO_343002.out))) (Kd.R_lt (by (with_reducible repeat (first | apply rA | apply rN | apply rD)); exact HO_343003.out))) (g := gb341) (o := .cells #[.int .i64 0, .string (⟨#[]⟩ : ByteArray), .slice none 0 0, .slice none 0 0] 25 (0, 0)) (by (with_reducible repeat (first | refine lN ?_ _ | refine lD ?_ | refine lA ?_ _)); exact BK341.out)) (g := gb342) (o := .cells #[.int .i64 a1_0, .string x343001_2, u343002, u343003] 25 (0, 0)) (by (with_reducible repeat (first | refine lN ?_ _ | refine lD ?_ | refine lA ?_ _)); exact BK342.out)) (below_size (by repeat (first | (with_reducible first | exact HB.out | apply bA | apply bN | apply bD | refine below_set ?_ GE340.out | refine below_set ?_ GE341.out | refine below_set ?_ GE342.out) | exact HB.out))))
           have n4_ := Aside0.mk (blk_below (g := gb340) (o := .cells #[.int .i64 a1_0, .int .i64 a1_1, .int .i64 a1_2, .slice A1_3 l1_3.length c1_3, .slice (some ad350) l1_4.length c1_4] 78 (0, 0)) (by (with_reducible repeat (first | refine lN ?_ _ | refine lD ?_ | refine lA ?_ _)); exact BK340.out) hb)
           have n5_ := Aside0.mk (blk_below (g := gb341) (o := .cells #[.int .i64 0, .string (⟨#[]⟩ : ByteArray), .slice none 0 0, .slice none 0 0] 25 (0, 0)) (by (with_reducible repeat (first | refine lN ?_ _ | refine lD ?_ | refine lA ?_ _)); exact BK341.out) hb)
           have n6_ := Aside0.mk (blk_below (g := gb342) (o := .cells #[.int .i64 a1_0, .string x343001_2, u343002, u343003] 25 (0, 0)) (by (with_reducible repeat (first | refine lN ?_ _ | refine lD ?_ | refine lA ?_ _)); exact BK342.out) hb)
           have n7_ := Aside0.mk (below_step (by repeat (first | (with_reducible first | exact HB.out | apply bA | apply bN | apply bD | refine below_set ?_ GE340.out | refine below_set ?_ GE341.out | refine below_set ?_ GE342.out) | exact HB.out)) hb)
           clear HO_343002
           clear HO_343003
           clear BK340
           clear BK341
           clear BK342
           clear HB
           have HO_343002 := n0_
           have HO_343003 := n1_
           have HO355 := n2_
           have HO358 := n3_
           have BK340 := n4_
           have BK341 := n5_
           have BK342 := n6_
           have HB := n7_
           clear n0_ n1_ n2_ n3_ n4_ n5_ n6_ n7_
           (try clear hb)
           (try clear hb2)
           (try clear hk)
           (try clear hi)
           (try clear ho0)
           (try clear ho1)
           obtain ⟨Ao61, co61, eo61⟩ := Kd.R_slice HO355.out
           (first | subst eo61 | (injection eo61 with f1_ f2_ f3_; have f4_ := f1_.symm; have f5_ := f3_.symm; clear f1_ f2_ f3_; subst f4_; subst f5_))
           obtain ⟨Ao62, co62, eo62⟩ := Kd.R_slice HO358.out
           (first | subst eo62 | (injection eo62 with f1_ f2_ f3_; have f4_ := f1_.symm; have f5_ := f3_.symm; clear f1_ f2_ f3_; subst f4_; subst f5_))
           refine hK.out _ _ ⟨(blk_cell BK342.out 0).trans rfl, (blk_cell BK342.out 1).trans rfl, (blk_cell BK342.out 2).trans rfl, (blk_cell BK342.out 3).trans rfl, (blk_cell BK340.out 0).trans rfl, (blk_cell BK340.out 1).trans rfl, (blk_cell BK340.out 2).trans rfl, (blk_cell BK340.out 3).trans rfl, (blk_cell BK340.out 4).trans rfl, ((HB.out.cell (World.block_lt_of_cell? w _ hw350_0)).trans hw350_0), ((HB.out.cell (World.block_lt_of_cell? w _ hw350_1)).trans hw350_1), ((HB.out.cell (World.block_lt_of_cell? w _ hw350_2)).trans hw350_2), ((HB.out.cell (World.block_lt_of_cell? w _ hw350_3)).trans hw350_3), ((HB.out.cell (World.block_lt_of_cell? w _ hw350_4)).trans hw350_4)⟩ (fun hHeld => ?_)
           clear hK K
           refine norm_ (a' := ?_) ?_ ?_
           rotate_left
           ·show Act.put _ (some 74) _ = _
            simp only [Act.put, List.setIfInBounds_toArray, List.set_cons_zero, List.set_cons_succ, i64_w]
            rfl
           refine one_ (i := 9) (N := some 75) #[true, true, true, true, true, true, true, true, true, true, false, false, false] rfl rfl (one_of HT_.out (by kernel_rfl)) (by decide) (fun K hK => ?_)
           refine value_ (w1 := ?_) (v := ?_) (by rfl) rfl ?_ ?_
           rotate_left 2
           ·go_simp
            constructor
            ·rfl
            ·rfl
           refine hK.out _ _ ⟨(blk_cell (blk_alloc BK342.out _) 0).trans rfl, (blk_cell (blk_alloc BK342.out _) 1).trans rfl, (blk_cell (blk_alloc BK342.out _) 2).trans rfl, (blk_cell (blk_alloc BK342.out _) 3).trans rfl, (blk_cell (blk_alloc BK340.out _) 0).trans rfl, (blk_cell (blk_alloc BK340.out _) 1).trans rfl, (blk_cell (blk_alloc BK340.out _) 2).trans rfl, (blk_cell (blk_alloc BK340.out _) 3).trans rfl, (blk_cell (blk_alloc BK340.out _) 4).trans rfl, (World.cell?_alloc_lt _ _ _ (World.block_lt_of_cell? _ _ (((HB.out.cell (World.block_lt_of_cell? w _ hw350_0)).trans hw350_0)))).trans (((HB.out.cell (World.block_lt_of_cell? w _ hw350_0)).trans hw350_0)), (World.cell?_alloc_lt _ _ _ (World.block_lt_of_cell? _ _ (((HB.out.cell (World.block_lt_of_cell? w _ hw350_1)).trans hw350_1)))).trans (((HB.out.cell (World.block_lt_of_cell? w _ hw350_1)).trans hw350_1)), (World.cell?_alloc_lt _ _ _ (World.block_lt_of_cell? _ _ (((HB.out.cell (World.block_lt_of_cell? w _ hw350_2)).trans hw350_2)))).trans (((HB.out.cell (World.block_lt_of_cell? w _ hw350_2)).trans hw350_2)), (World.cell?_alloc_lt _ _ _ (World.block_lt_of_cell? _ _ (((HB.out.cell (World.block_lt_of_cell? w _ hw350_3)).trans hw350_3)))).trans (((HB.out.cell (World.block_lt_of_cell? w _ hw350_3)).trans hw350_3)), (World.cell?_alloc_lt _ _ _ (World.block_lt_of_cell? _ _ (((HB.out.cell (World.block_lt_of_cell? w _ hw350_4)).trans hw350_4)))).trans (((HB.out.cell (World.block_lt_of_cell? w _ hw350_4)).trans hw350_4))⟩ (fun hHeld => ?_)
           clear hK K
           refine norm_ (a' := ?_) ?_ ?_
           rotate_left
           ·show Act.put _ (some 75) _ = _
            simp only [Act.put, List.setIfInBounds_toArray, List.set_cons_zero, List.set_cons_succ, i64_w]
            rfl
           refine one_ (i := 10) (N := some 76) #[true, true, true, true, true, true, true, true, true, true, true, false, false] rfl rfl (one_of HT_.out (by kernel_rfl)) (by decide) (fun K hK => ?_)
           refine Kd.R_append_step k25 (w0 := w) w.heap.size (by rfl) (.tmp 67) (.tmp 75) 23 25 (.agg #[(.int .i64 0), (.string ⟨#[]⟩), (.slice none 0 0), (.slice none 0 0)]) 72 rfl Tryz.underlying23 info25 rfl (by decide) (by omega) u343003 x343003_3 (⟨t351, t352, t353, t356⟩ : S25) [.int .i64 t351, .string t352, .slice Ao61 t353.length co61, .slice Ao62 t356.length co62] (fun k_ => some k_ ≠ (u343002 : Value).ownBlock ∧ k_ ≠ gb341 ∧ k_ ≠ gb342) (fun k_ => ((fun k_ => some k_ ≠ (u343002 : Value).ownBlock ∧ k_ ≠ gb341 ∧ k_ ≠ gb342)) k_ ∧ some k_ ≠ (u343003 : Value).ownBlock) rfl rfl ?aP (fun _ hk => hk) ?aF ?aO ?aB ?aS ?aL ?_
           (case aP => exact k25_mkM _ _ _ (⟨t351, t352, t353, t356⟩ : S25) (Kd.R_mono (Kd.R_types (Kd.R_types (Kd.R_apart' (HO355.out) (Kd.R_typed HO_343003.out) (by decide)) BK341.out (by decide)) BK342.out (by decide)) (fun k_ hk => ⟨⟨hk.1.1.1.2, ⟨hk.1.2, hk.2⟩⟩, hk.1.1.2⟩)) (Kd.R_mono (HO358.out) (fun k_ hk => ⟨⟨hk.1.1.1.2, ⟨hk.1.2, hk.2⟩⟩, hk.1.1.2⟩)))
           (case aB => exact (by repeat (first | (with_reducible first | exact HB.out | apply bA | apply bN | apply bD | refine below_set ?_ GE340.out | refine below_set ?_ GE341.out | refine below_set ?_ GE342.out) | exact HB.out)))
           (case aF => exact (fun k_ hk => ⟨Kd.fresh' (Kd.R_lt (by (with_reducible repeat (first | apply rA | apply rN | apply rD)); exact HO_343002.out)) k_ hk, Kd.freshB (g := gb341) (o := .cells #[.int .i64 0, .string (⟨#[]⟩ : ByteArray), .slice none 0 0, .slice none 0 0] 25 (0, 0)) (by (with_reducible repeat (first | refine lN ?_ _ | refine lD ?_ | refine lA ?_ _)); exact BK341.out) k_ hk, Kd.freshB (g := gb342) (o := .cells #[.int .i64 a1_0, .string x343001_2, u343002, u343003] 25 (0, 0)) (by (with_reducible repeat (first | refine lN ?_ _ | refine lD ?_ | refine lA ?_ _)); exact BK342.out) k_ hk⟩))
           (case aO => exact (by (with_reducible repeat (first | apply rA | apply rN | apply rD)); exact Kd.R_mono HO_343003.out (fun _ hk => ⟨hk.1.1.1, ⟨hk.1.1.2.1, hk.1.1.2.2⟩⟩)))
           (case aS => exact (below_size (by repeat (first | (with_reducible first | exact HB.out | apply bA | apply bN | apply bD | refine below_set ?_ GE340.out | refine below_set ?_ GE341.out | refine below_set ?_ GE342.out) | exact HB.out))))
           (case aL => have := LMc54.out; omega)
           intro v360 w60 ho hb hg hat
           rw [← Ny359.out] at ho
           have n0_ := Aside0.mk (Kd.R_over' (by (with_reducible repeat (first | apply rA | apply rN | apply rD)); exact HO_343002.out) (Kd.R_typed (by (with_reducible repeat (first | apply rA | apply rN | apply rD)); exact HO_343003.out)) (by decide) hg)
           have n1_ := Aside0.mk (blk_grown (g := gb340) (o := .cells #[.int .i64 a1_0, .int .i64 a1_1, .int .i64 a1_2, .slice A1_3 l1_3.length c1_3, .slice (some ad350) l1_4.length c1_4] 78 (0, 0)) (by (with_reducible repeat (first | refine lN ?_ _ | refine lD ?_ | refine lA ?_ _)); exact BK340.out) hg (Kd.R_ne HO_343003.out BK340.out (by decide)))
           have n2_ := Aside0.mk (blk_grown (g := gb341) (o := .cells #[.int .i64 0, .string (⟨#[]⟩ : ByteArray), .slice none 0 0, .slice none 0 0] 25 (0, 0)) (by (with_reducible repeat (first | refine lN ?_ _ | refine lD ?_ | refine lA ?_ _)); exact BK341.out) hg (Kd.R_away HO_343003.out (fun _ hk => hk.1.1.2.1)))
           have n3_ := Aside0.mk (blk_grown (g := gb342) (o := .cells #[.int .i64 a1_0, .string x343001_2, u343002, u343003] 25 (0, 0)) (by (with_reducible repeat (first | refine lN ?_ _ | refine lD ?_ | refine lA ?_ _)); exact BK342.out) hg (Kd.R_away HO_343003.out (fun _ hk => hk.1.1.2.2)))
           have n4_ := Aside0.mk (hb)
           have n5_ := Aside0.mk (ho)
           clear HO_343002
           clear BK340
           clear BK341
           clear BK342
           clear HB
           clear HO_343003
           clear HO355
           clear HO358
           have HO_343002 := n0_
           have BK340 := n1_
           have BK341 := n2_
           have BK342 := n3_
           have HB := n4_
           have HO361 := n5_
           clear n0_ n1_ n2_ n3_ n4_ n5_
           clear ho hb hg hat
           obtain ⟨Ao63, co63, eo63⟩ := Kd.R_slice HO361.out
           (first | subst eo63 | (injection eo63 with f1_ f2_ f3_; have f4_ := f1_.symm; have f5_ := f3_.symm; clear f1_ f2_ f3_; subst f4_; subst f5_))
           refine hK.out _ _ ⟨(blk_cell BK342.out 0).trans rfl, (blk_cell BK342.out 1).trans rfl, (blk_cell BK342.out 2).trans rfl, (blk_cell BK342.out 3).trans rfl, (blk_cell BK340.out 0).trans rfl, (blk_cell BK340.out 1).trans rfl, (blk_cell BK340.out 2).trans rfl, (blk_cell BK340.out 3).trans rfl, (blk_cell BK340.out 4).trans rfl, ((HB.out.cell (World.block_lt_of_cell? w _ hw350_0)).trans hw350_0), ((HB.out.cell (World.block_lt_of_cell? w _ hw350_1)).trans hw350_1), ((HB.out.cell (World.block_lt_of_cell? w _ hw350_2)).trans hw350_2), ((HB.out.cell (World.block_lt_of_cell? w _ hw350_3)).trans hw350_3), ((HB.out.cell (World.block_lt_of_cell? w _ hw350_4)).trans hw350_4)⟩ (fun hHeld => ?_)
           clear hK K
           refine norm_ (a' := ?_) ?_ ?_
           rotate_left
           ·show Act.put _ (some 76) _ = _
            simp only [Act.put, List.setIfInBounds_toArray, List.set_cons_zero, List.set_cons_succ, i64_w]
            rfl
           refine pure_ (i := 11) (N := some 77) (v := ?_) (a' := ?_) #[true, true, true, true, true, true, true, true, true, true, true, true, false] rfl rfl (any_of HT_.out (by kernel_rfl)) (fun _ _ _ h => h) (Or.inl ⟨by rfl, ?_⟩) ?_ ?_
           rotate_left
           ·intro w'
            go_simp
            with_reducible rfl
           rotate_left
           ·simp only [Act.put, List.setIfInBounds_toArray, List.set_cons_zero, List.set_cons_succ, i64_w]
            rfl
           refine last_ (i := 12) (N := none) #[true, true, true, true, true, true, true, true, true, true, true, true, true] rfl rfl (one_of HT_.out (by kernel_rfl)) (by decide) (fun K hK => ?_)
           have hs64 : w60.cell? ⟨gb342, 3, none⟩ = some (u343003) := (blk_cell BK342.out 3).trans rfl
           have hfs64 := blk_frozen BK342.out 3
           have hns64_0 := NB340_342.out
           have hns64_1 := NB341_342.out
           have hms64_0 := NB342_340.out
           have hms64_1 := NB342_341.out
           refine skip_ (w1 := ?_) (by rfl) rfl ?_ ?_
           rotate_left
           ·go_simp
            rfl
           refine hK.out _ _ ?_
           clear hK K
           refine done_ (done_of HT_.out (by kernel_rfl)) ?_
           try go_wp2
           go_roundg k3
           case measure => have := HJ2.out; have := HK2.out; have := HK3.out; omega
           case rel => exact ⟨(wrap64 (x7_3 + 1)), (y359), (.slice Ao63 y359.length co63), (by first | rfl | (simp; done) | (simp [*]; done)), H', ⟨by have := HJ2.out; have := HK2.out; have := HK3.out; omega⟩, ⟨by (with_reducible repeat (first | apply rA | apply rN | apply rD)); exact Kd.R_mono (Kd.R_far (p := ⟨gb342, 3, none⟩) (Kd.R_types HO_343002.out BK342.out (by decide)) (fun _ hk => hk.2) (.slice Ao63 y359.length co63)) (fun _ hk => trivial)⟩, ⟨by (with_reducible repeat (first | apply rA | apply rN | apply rD)); exact Kd.R_mono (Kd.R_far (p := ⟨gb342, 3, none⟩) (Kd.R_mono HO361.out (fun k_ hk => (⟨hk, hk.2.2⟩ : _ ∧ k_ ≠ gb342))) (fun _ hk => hk.2) (.slice Ao63 y359.length co63)) (fun _ hk => ⟨hk.1.1, ⟨hk.1.2.1, hk.1.2.2⟩⟩)⟩, ⟨by (with_reducible repeat (first | refine lN ?_ _ | refine lD ?_ | refine lA ?_ _)); refine blk_far ?_ NB340_342.out _; (with_reducible repeat (first | refine lN ?_ _ | refine lD ?_ | refine lA ?_ _)); exact BK340.out⟩, ⟨by (with_reducible repeat (first | refine lN ?_ _ | refine lD ?_ | refine lA ?_ _)); refine blk_far ?_ NB341_342.out _; (with_reducible repeat (first | refine lN ?_ _ | refine lD ?_ | refine lA ?_ _)); exact BK341.out⟩, ⟨by (with_reducible repeat (first | refine lN ?_ _ | refine lD ?_ | refine lA ?_ _)); refine blk_put (cs := #[.int .i64 a1_0, .string x343001_2, u343002, u343003]) ?_ 3 _ rfl; (with_reducible repeat (first | refine lN ?_ _ | refine lD ?_ | refine lA ?_ _)); exact BK342.out⟩, ⟨by repeat (first | (with_reducible first | exact HB.out | apply bA | apply bN | apply bD | refine below_set ?_ GE340.out | refine below_set ?_ GE341.out | refine below_set ?_ GE342.out) | exact HB.out)⟩⟩
          ·rw [if_neg c54] at H
           exact absurd H (by simp)
         ·rw [if_neg c52] at H
          exact absurd H (by simp)
        ·rw [if_neg c51] at H
         have c51b0 : decide (x7_3 < (l1_4.length : Int)) = false := decide_eq_false c51
         clear c51
         simp only [Option.some.injEq, Prod.mk.injEq] at H
         obtain ⟨rfl, rfl, rfl, rfl⟩ := H
         have hnb65 := NB340_341.out
         have hnc65 := NB341_340.out
         have hnb66 := NB340_342.out
         have hnc66 := NB342_340.out
         have hcz67_0 : wr.cell? ⟨gb340, 0, none⟩ = some (.int .i64 a1_0) := (blk_cell BK340.out 0).trans rfl
         have hcz67_1 : wr.cell? ⟨gb340, 1, none⟩ = some (.int .i64 a1_1) := (blk_cell BK340.out 1).trans rfl
         have hcz67_2 : wr.cell? ⟨gb340, 2, none⟩ = some (.int .i64 a1_2) := (blk_cell BK340.out 2).trans rfl
         have hcz67_3 : wr.cell? ⟨gb340, 3, none⟩ = some (.slice A1_3 l1_3.length c1_3) := (blk_cell BK340.out 3).trans rfl
         have hcz67_4 : wr.cell? ⟨gb340, 4, none⟩ = some (.slice A1_4 l1_4.length c1_4) := (blk_cell BK340.out 4).trans rfl
         have hfz67_0 := blk_frozen BK340.out 0
         have hfz67_1 := blk_frozen BK340.out 1
         have hfz67_2 := blk_frozen BK340.out 2
         have hfz67_3 := blk_frozen BK340.out 3
         have hfz67_4 := blk_frozen BK340.out 4
         have hnb68 := NB342_341.out
         have hnc68 := NB341_342.out
         have hcz69_0 : wr.cell? ⟨gb342, 0, none⟩ = some (.int .i64 a1_0) := (blk_cell BK342.out 0).trans rfl
         have hcz69_1 : wr.cell? ⟨gb342, 1, none⟩ = some (.string x343001_2) := (blk_cell BK342.out 1).trans rfl
         have hcz69_2 : wr.cell? ⟨gb342, 2, none⟩ = some (u343002) := (blk_cell BK342.out 2).trans rfl
         have hcz69_3 : wr.cell? ⟨gb342, 3, none⟩ = some (u343003) := (blk_cell BK342.out 3).trans rfl
         have hfz69_0 := blk_frozen BK342.out 0
         have hfz69_1 := blk_frozen BK342.out 1
         have hfz69_2 := blk_frozen BK342.out 2
         have hfz69_3 := blk_frozen BK342.out 3
         have hcz70_0 : wr.cell? ⟨gb341, 0, none⟩ = some (.int .i64 0) := (blk_cell BK341.out 0).trans rfl
         have hcz70_1 : wr.cell? ⟨gb341, 1, none⟩ = some (.string (⟨#[]⟩ : ByteArray)) := (blk_cell BK341.out 1).trans rfl
         have hcz70_2 : wr.cell? ⟨gb341, 2, none⟩ = some (.slice none 0 0) := (blk_cell BK341.out 2).trans rfl
         have hcz70_3 : wr.cell? ⟨gb341, 3, none⟩ = some (.slice none 0 0) := (blk_cell BK341.out 3).trans rfl
         have hfz70_0 := blk_frozen BK341.out 0
         have hfz70_1 := blk_frozen BK341.out 1
         have hfz70_2 := blk_frozen BK341.out 2
         have hfz70_3 := blk_frozen BK341.out 3
         obtain ⟨Ao71, co71, eo71⟩ := Kd.R_slice HO_343002.out
         subst eo71
         obtain ⟨Ao72, co72, eo72⟩ := Kd.R_slice HO_343003.out
         subst eo72
         go_wp2
         refine bodyPost_ret (results_cell_row rfl _ _ gb341 25 #[.int .i64 a1_0, .string x343001_2, .slice Ao71 x343002_2.length co71, .slice Ao72 x343003_3.length co72] (0, 0) _ rfl (by (with_reducible repeat (first | refine lN ?_ _ | refine lD ?_ | refine lA ?_ _)); refine blk_put (cs := #[.int .i64 a1_0, .string x343001_2, .slice Ao71 x343002_2.length co71, .slice none 0 0]) ?_ 3 _ rfl; (with_reducible repeat (first | refine lN ?_ _ | refine lD ?_ | refine lA ?_ _)); refine blk_put (cs := #[.int .i64 a1_0, .string x343001_2, .slice none 0 0, .slice none 0 0]) ?_ 2 _ rfl; (with_reducible repeat (first | refine lN ?_ _ | refine lD ?_ | refine lA ?_ _)); refine blk_put (cs := #[.int .i64 a1_0, .string (⟨#[]⟩ : ByteArray), .slice none 0 0, .slice none 0 0]) ?_ 1 _ rfl; (with_reducible repeat (first | refine lN ?_ _ | refine lD ?_ | refine lA ?_ _)); refine blk_put (cs := #[.int .i64 0, .string (⟨#[]⟩ : ByteArray), .slice none 0 0, .slice none 0 0]) ?_ 0 _ rfl; (with_reducible repeat (first | refine lN ?_ _ | refine lD ?_ | refine lA ?_ _)); exact BK341.out) Tryz.underlying25 rfl (by kernel_rfl)) rfl ?_
         exact ⟨_, _, by first | rfl | (simp [errW_none, errW_some] <;> rfl) | (simp [*, errW_none, errW_some] <;> rfl), by (with_reducible repeat (first | apply rA | apply rN | apply rD)); exact Kd.R_mono (Kd.R_far (p := ⟨gb341, 3, none⟩) (Kd.R_far (p := ⟨gb341, 2, none⟩) (Kd.R_far (p := ⟨gb341, 1, none⟩) (Kd.R_far (p := ⟨gb341, 0, none⟩) (Kd.R_types HO_343002.out BK341.out (by decide)) (fun _ hk => hk.2) (.int .i64 a1_0)) (fun _ hk => hk.2) (.string x343001_2)) (fun _ hk => hk.2) (.slice Ao71 x343002_2.length co71)) (fun _ hk => hk.2) (.slice Ao72 x343003_3.length co72)) (fun _ hk => trivial), by (with_reducible repeat (first | apply rA | apply rN | apply rD)); exact Kd.R_mono (Kd.R_far (p := ⟨gb341, 3, none⟩) (Kd.R_far (p := ⟨gb341, 2, none⟩) (Kd.R_far (p := ⟨gb341, 1, none⟩) (Kd.R_far (p := ⟨gb341, 0, none⟩) (Kd.R_mono HO_343003.out (fun k_ hk => (⟨hk, hk.2.1⟩ : _ ∧ k_ ≠ gb341))) (fun _ hk => hk.2) (.int .i64 a1_0)) (fun _ hk => hk.2) (.string x343001_2)) (fun _ hk => hk.2) (.slice Ao71 x343002_2.length co71)) (fun _ hk => hk.2) (.slice Ao72 x343003_3.length co72)) (fun _ hk => hk.1.1), by repeat (first | (with_reducible first | exact HB.out | apply bA | apply bN | apply bD | refine below_set ?_ GE340.out | refine below_set ?_ GE341.out | refine below_set ?_ GE342.out) | exact HB.out)⟩
end Go.Proofs.YtgiioglmkogpkaaGreatDoor.M
namespace Go.Proofs.YtgiioglmkogpkaaGreatDoor.M
open Go.RowKit Go.Proofs.YtgiioglmkogpkaaGreatDoorW.PrintWords Go.Proofs.YtgiioglmkogpkaaGreatDoorW.PrintLast Go.Proofs.YtgiioglmkogpkaaGreatDoorW.PrintMore
set_option maxHeartbeats 8000000
set_option maxRecDepth 100000
attribute [local go_sem] max2_int min2_int max_two min_two max_three min_three max_four min_four
def spec_Paired.l0 : Nat → ByteArray → Int → Option (Bool)
 | 0, _, _ => none
 | k + 1, x0, x3 => if x3 < (x0.size : Int) then (if 0 ≤ x3 then (if (bt x0 x3) = 92 then ((spec_unit.f k x0 x3).bind fun bt363 => (if bt363.2 = true then ((spec_high.f bt363.1).bind fun t365 => (if t365 = true then ((spec_unit.f k x0 (wrap64 (x3 + 6))).bind fun bt366 => (if bt366.2 = true then ((spec_low.f bt366.1).bind fun t368 => (if t368 = true then (spec_Paired.l0 k x0 (wrap64 (x3 + 12))) else (some false))) else (some false))) else ((spec_low.f bt363.1).bind fun t369 => (if t369 = true then (some false) else (spec_Paired.l0 k x0 (wrap64 (x3 + 6))))))) else (spec_Paired.l0 k x0 (wrap64 (x3 + 2))))) else (spec_Paired.l0 k x0 (wrap64 (x3 + 1)))) else (none)) else (some true)
def spec_Paired.f (k : Nat) (a0 : ByteArray) : Option (Bool) := spec_Paired.l0 k a0 0
theorem spec_Paired.calls (k : Nat) (a0 : ByteArray) (r : Bool) (w : World) (h : spec_Paired.f k a0 = some r) :
  Calls Tryz.prog 36 #[.string a0] w fun e w' => e = .returned (.bool r) ∧ Drawn0 w w' := by
 have H : (spec_Paired.l0 k a0 0) = some r := h
 clear h
 have H' := Aside0.mk H
 clear H
 go_enter Tryz.func36, Tryz.ntmps36
 go_wp2
 go_loopg [3] k (fun kq v3 w' => ∃ (x3_1 : Int), v3 = .int .i64 x3_1 ∧ Aside0 (spec_Paired.l0 kq a0 x3_1 = some r) ∧ Aside0 (kq ≤ k) ∧ Drawn0 w w')
 case atStart => exact ⟨(0), (by first | rfl | (simp; done) | (simp [*]; done)), H', ⟨Nat.le_refl _⟩, by repeat (first | exact Drawn0.refl _ | apply Drawn0.step)⟩
 case round =>
  clear H'
  obtain ⟨x3_1, rfl, HA, HK1, ⟨m1, rfl⟩⟩ := hrel
  cases gk with
  | zero => exact absurd HA.out (by simp [spec_Paired.l0])
  | succ k1 =>
   have H := HA.out
   clear HA
   simp only [spec_Paired.l0] at H
   by_cases c2 : x3_1 < (a0.size : Int)
   ·rw [if_pos c2] at H
    have c2b0 : decide (x3_1 < (a0.size : Int)) = true := decide_eq_true c2
    clear c2
    by_cases c3 : 0 ≤ x3_1
    ·rw [if_pos c3] at H
     have c3b0 : decide (0 ≤ x3_1) = true := decide_eq_true c3
     clear c3
     by_cases c5 : (bt a0 x3_1) = 92
     ·rw [if_pos c5] at H
      have c5b0 : ((bt a0 x3_1) == 92) = true := beq_iff_eq.mpr c5
      have c5b1 : ((bt a0 x3_1) != 92) = false := bne_eq_false_iff_eq.mpr c5
      clear c5
      replace H := Option.bind_eq_some_iff.mp H
      obtain ⟨⟨t363, t364⟩, A60, H⟩ := H
      try dsimp only at H
      have A6 := Aside0.mk A60
      clear A60
      by_cases c7 : t364 = true
      ·subst c7
       have H1 : ((spec_high.f t363).bind fun t365 => (if t365 = true then ((spec_unit.f k1 a0 (wrap64 (x3_1 + 6))).bind fun bt366 => (if bt366.2 = true then ((spec_low.f bt366.1).bind fun t368 => (if t368 = true then (spec_Paired.l0 k1 a0 (wrap64 (x3_1 + 12))) else (some false))) else (some false))) else ((spec_low.f t363).bind fun t369 => (if t369 = true then (some false) else (spec_Paired.l0 k1 a0 (wrap64 (x3_1 + 6))))))) = some r := by rw [if_pos rfl] at H; exact H
       clear H
       have H := H1
       clear H1
       replace H := Option.bind_eq_some_iff.mp H
       obtain ⟨t365, A80, H⟩ := H
       try dsimp only at H
       have A8 := Aside0.mk A80
       clear A80
       by_cases c9 : t365 = true
       ·subst c9
        have H1 : ((spec_unit.f k1 a0 (wrap64 (x3_1 + 6))).bind fun bt366 => (if bt366.2 = true then ((spec_low.f bt366.1).bind fun t368 => (if t368 = true then (spec_Paired.l0 k1 a0 (wrap64 (x3_1 + 12))) else (some false))) else (some false))) = some r := by rw [if_pos rfl] at H; exact H
        clear H
        have H := H1
        clear H1
        replace H := Option.bind_eq_some_iff.mp H
        obtain ⟨⟨t366, t367⟩, A100, H⟩ := H
        try dsimp only at H
        have A10 := Aside0.mk A100
        clear A100
        by_cases c11 : t367 = true
        ·subst c11
         have H1 : ((spec_low.f t366).bind fun t368 => (if t368 = true then (spec_Paired.l0 k1 a0 (wrap64 (x3_1 + 12))) else (some false))) = some r := by rw [if_pos rfl] at H; exact H
         clear H
         have H := H1
         clear H1
         replace H := Option.bind_eq_some_iff.mp H
         obtain ⟨t368, A120, H⟩ := H
         try dsimp only at H
         have A12 := Aside0.mk A120
         clear A120
         by_cases c13 : t368 = true
         ·subst c13
          have H1 : (spec_Paired.l0 k1 a0 (wrap64 (x3_1 + 12))) = some r := by rw [if_pos rfl] at H; exact H
          clear H
          have H := H1
          clear H1
          have H' := Aside0.mk H
          clear H
          have p4 : 0 ≤ (x3_1 : Int) := of_decide_eq_true (by first | (with_reducible assumption) | assumption)
          have q4 : x3_1 < (a0.size : Int) := of_decide_eq_true (by first | (with_reducible assumption) | assumption)
          have hx4 := bt_at a0 x3_1
          replace p4 := eq_true p4
          replace q4 := eq_true q4
          go_wp2_with (first | ((with_reducible refine gate_callee (f := 59) rfl ?_); refine goesL_ (some 21) rfl rfl Tryz.func59 (by kernel_rfl) rfl #[.string a0, .int .i64 x3_1] rfl (by (try simp only [List.map_toArray, List.map_cons, List.map_nil]); first | done | rfl | (simp only [List.length_drop, List.length_take]; rfl)) ?_; (with_reducible refine (spec_unit.calls k1 a0 x3_1 t363 true _ A6.out).mono ?_); rintro e w' ⟨rfl, ⟨nd, rfl⟩⟩; refine ⟨_, rfl, ?_⟩) | ((with_reducible refine gate_callee (f := 60) rfl ?_); refine goesL_ (some 33) rfl rfl Tryz.func60 (by kernel_rfl) rfl #[.int .i64 t363] rfl (by (try simp only [List.map_toArray, List.map_cons, List.map_nil]); first | done | rfl | (simp only [List.length_drop, List.length_take]; rfl)) ?_; (with_reducible refine (spec_high.calls t363 true _ A8.out).mono ?_); rintro e w' ⟨rfl, ⟨nd, rfl⟩⟩; refine ⟨_, rfl, ?_⟩) | ((with_reducible refine gate_callee (f := 59) rfl ?_); refine goesL_ (some 38) rfl rfl Tryz.func59 (by kernel_rfl) rfl #[.string a0, .int .i64 (wrap64 (x3_1 + 6))] rfl (by (try simp only [List.map_toArray, List.map_cons, List.map_nil]); first | done | rfl | (simp only [List.length_drop, List.length_take]; rfl)) ?_; (with_reducible refine (spec_unit.calls k1 a0 (wrap64 (x3_1 + 6)) t366 true _ A10.out).mono ?_); rintro e w' ⟨rfl, ⟨nd, rfl⟩⟩; refine ⟨_, rfl, ?_⟩) | (go_at_call 61; (with_reducible refine (spec_low.calls t366 true _ A12.out).mono ?_); rintro e w' ⟨rfl, ⟨nd, rfl⟩⟩))
          go_roundg k1
          case measure => have := HK1.out; omega
          case rel => exact ⟨(wrap64 (x3_1 + 12)), (by first | rfl | (simp; done) | (simp [*]; done)), H', ⟨by have := HK1.out; omega⟩, by repeat (first | exact Drawn0.refl _ | apply Drawn0.step)⟩
         ·replace c13 := Bool.eq_false_iff.mpr c13
          subst c13
          have H1 : (some false) = some r := by rw [if_neg (show ¬ (false = true) by decide)] at H; exact H
          clear H
          have H := H1
          clear H1
          obtain rfl := Option.some.inj H
          have p4 : 0 ≤ (x3_1 : Int) := of_decide_eq_true (by first | (with_reducible assumption) | assumption)
          have q4 : x3_1 < (a0.size : Int) := of_decide_eq_true (by first | (with_reducible assumption) | assumption)
          have hx4 := bt_at a0 x3_1
          replace p4 := eq_true p4
          replace q4 := eq_true q4
          go_wp2_with (first | ((with_reducible refine gate_callee (f := 59) rfl ?_); refine goesL_ (some 21) rfl rfl Tryz.func59 (by kernel_rfl) rfl #[.string a0, .int .i64 x3_1] rfl (by (try simp only [List.map_toArray, List.map_cons, List.map_nil]); first | done | rfl | (simp only [List.length_drop, List.length_take]; rfl)) ?_; (with_reducible refine (spec_unit.calls k1 a0 x3_1 t363 true _ A6.out).mono ?_); rintro e w' ⟨rfl, ⟨nd, rfl⟩⟩; refine ⟨_, rfl, ?_⟩) | ((with_reducible refine gate_callee (f := 60) rfl ?_); refine goesL_ (some 33) rfl rfl Tryz.func60 (by kernel_rfl) rfl #[.int .i64 t363] rfl (by (try simp only [List.map_toArray, List.map_cons, List.map_nil]); first | done | rfl | (simp only [List.length_drop, List.length_take]; rfl)) ?_; (with_reducible refine (spec_high.calls t363 true _ A8.out).mono ?_); rintro e w' ⟨rfl, ⟨nd, rfl⟩⟩; refine ⟨_, rfl, ?_⟩) | ((with_reducible refine gate_callee (f := 59) rfl ?_); refine goesL_ (some 38) rfl rfl Tryz.func59 (by kernel_rfl) rfl #[.string a0, .int .i64 (wrap64 (x3_1 + 6))] rfl (by (try simp only [List.map_toArray, List.map_cons, List.map_nil]); first | done | rfl | (simp only [List.length_drop, List.length_take]; rfl)) ?_; (with_reducible refine (spec_unit.calls k1 a0 (wrap64 (x3_1 + 6)) t366 true _ A10.out).mono ?_); rintro e w' ⟨rfl, ⟨nd, rfl⟩⟩; refine ⟨_, rfl, ?_⟩) | (go_at_call 61; (with_reducible refine (spec_low.calls t366 false _ A12.out).mono ?_); rintro e w' ⟨rfl, ⟨nd, rfl⟩⟩))
          go_ret
          exact ⟨by first | rfl | (simp; done) | (simp [*]; done), by repeat (first | exact Drawn0.refl _ | apply Drawn0.step)⟩
        ·replace c11 := Bool.eq_false_iff.mpr c11
         subst c11
         have H1 : (some false) = some r := by rw [if_neg (show ¬ (false = true) by decide)] at H; exact H
         clear H
         have H := H1
         clear H1
         obtain rfl := Option.some.inj H
         have p4 : 0 ≤ (x3_1 : Int) := of_decide_eq_true (by first | (with_reducible assumption) | assumption)
         have q4 : x3_1 < (a0.size : Int) := of_decide_eq_true (by first | (with_reducible assumption) | assumption)
         have hx4 := bt_at a0 x3_1
         replace p4 := eq_true p4
         replace q4 := eq_true q4
         go_wp2_with (first | ((with_reducible refine gate_callee (f := 59) rfl ?_); refine goesL_ (some 21) rfl rfl Tryz.func59 (by kernel_rfl) rfl #[.string a0, .int .i64 x3_1] rfl (by (try simp only [List.map_toArray, List.map_cons, List.map_nil]); first | done | rfl | (simp only [List.length_drop, List.length_take]; rfl)) ?_; (with_reducible refine (spec_unit.calls k1 a0 x3_1 t363 true _ A6.out).mono ?_); rintro e w' ⟨rfl, ⟨nd, rfl⟩⟩; refine ⟨_, rfl, ?_⟩) | ((with_reducible refine gate_callee (f := 60) rfl ?_); refine goesL_ (some 33) rfl rfl Tryz.func60 (by kernel_rfl) rfl #[.int .i64 t363] rfl (by (try simp only [List.map_toArray, List.map_cons, List.map_nil]); first | done | rfl | (simp only [List.length_drop, List.length_take]; rfl)) ?_; (with_reducible refine (spec_high.calls t363 true _ A8.out).mono ?_); rintro e w' ⟨rfl, ⟨nd, rfl⟩⟩; refine ⟨_, rfl, ?_⟩) | ((with_reducible refine gate_callee (f := 59) rfl ?_); refine goesL_ (some 38) rfl rfl Tryz.func59 (by kernel_rfl) rfl #[.string a0, .int .i64 (wrap64 (x3_1 + 6))] rfl (by (try simp only [List.map_toArray, List.map_cons, List.map_nil]); first | done | rfl | (simp only [List.length_drop, List.length_take]; rfl)) ?_; (with_reducible refine (spec_unit.calls k1 a0 (wrap64 (x3_1 + 6)) t366 false _ A10.out).mono ?_); rintro e w' ⟨rfl, ⟨nd, rfl⟩⟩; refine ⟨_, rfl, ?_⟩))
         go_ret
         exact ⟨by first | rfl | (simp; done) | (simp [*]; done), by repeat (first | exact Drawn0.refl _ | apply Drawn0.step)⟩
       ·replace c9 := Bool.eq_false_iff.mpr c9
        subst c9
        have H1 : ((spec_low.f t363).bind fun t369 => (if t369 = true then (some false) else (spec_Paired.l0 k1 a0 (wrap64 (x3_1 + 6))))) = some r := by rw [if_neg (show ¬ (false = true) by decide)] at H; exact H
        clear H
        have H := H1
        clear H1
        replace H := Option.bind_eq_some_iff.mp H
        obtain ⟨t369, A140, H⟩ := H
        try dsimp only at H
        have A14 := Aside0.mk A140
        clear A140
        by_cases c15 : t369 = true
        ·subst c15
         have H1 : (some false) = some r := by rw [if_pos rfl] at H; exact H
         clear H
         have H := H1
         clear H1
         obtain rfl := Option.some.inj H
         have p4 : 0 ≤ (x3_1 : Int) := of_decide_eq_true (by first | (with_reducible assumption) | assumption)
         have q4 : x3_1 < (a0.size : Int) := of_decide_eq_true (by first | (with_reducible assumption) | assumption)
         have hx4 := bt_at a0 x3_1
         replace p4 := eq_true p4
         replace q4 := eq_true q4
         go_wp2_with (first | ((with_reducible refine gate_callee (f := 59) rfl ?_); refine goesL_ (some 21) rfl rfl Tryz.func59 (by kernel_rfl) rfl #[.string a0, .int .i64 x3_1] rfl (by (try simp only [List.map_toArray, List.map_cons, List.map_nil]); first | done | rfl | (simp only [List.length_drop, List.length_take]; rfl)) ?_; (with_reducible refine (spec_unit.calls k1 a0 x3_1 t363 true _ A6.out).mono ?_); rintro e w' ⟨rfl, ⟨nd, rfl⟩⟩; refine ⟨_, rfl, ?_⟩) | ((with_reducible refine gate_callee (f := 60) rfl ?_); refine goesL_ (some 33) rfl rfl Tryz.func60 (by kernel_rfl) rfl #[.int .i64 t363] rfl (by (try simp only [List.map_toArray, List.map_cons, List.map_nil]); first | done | rfl | (simp only [List.length_drop, List.length_take]; rfl)) ?_; (with_reducible refine (spec_high.calls t363 false _ A8.out).mono ?_); rintro e w' ⟨rfl, ⟨nd, rfl⟩⟩; refine ⟨_, rfl, ?_⟩) | ((with_reducible refine gate_callee (f := 61) rfl ?_); refine goesL_ (some 52) rfl rfl Tryz.func61 (by kernel_rfl) rfl #[.int .i64 t363] rfl (by (try simp only [List.map_toArray, List.map_cons, List.map_nil]); first | done | rfl | (simp only [List.length_drop, List.length_take]; rfl)) ?_; (with_reducible refine (spec_low.calls t363 true _ A14.out).mono ?_); rintro e w' ⟨rfl, ⟨nd, rfl⟩⟩; refine ⟨_, rfl, ?_⟩))
         go_ret
         exact ⟨by first | rfl | (simp; done) | (simp [*]; done), by repeat (first | exact Drawn0.refl _ | apply Drawn0.step)⟩
        ·replace c15 := Bool.eq_false_iff.mpr c15
         subst c15
         have H1 : (spec_Paired.l0 k1 a0 (wrap64 (x3_1 + 6))) = some r := by rw [if_neg (show ¬ (false = true) by decide)] at H; exact H
         clear H
         have H := H1
         clear H1
         have H' := Aside0.mk H
         clear H
         have p4 : 0 ≤ (x3_1 : Int) := of_decide_eq_true (by first | (with_reducible assumption) | assumption)
         have q4 : x3_1 < (a0.size : Int) := of_decide_eq_true (by first | (with_reducible assumption) | assumption)
         have hx4 := bt_at a0 x3_1
         replace p4 := eq_true p4
         replace q4 := eq_true q4
         go_wp2_with (first | ((with_reducible refine gate_callee (f := 59) rfl ?_); refine goesL_ (some 21) rfl rfl Tryz.func59 (by kernel_rfl) rfl #[.string a0, .int .i64 x3_1] rfl (by (try simp only [List.map_toArray, List.map_cons, List.map_nil]); first | done | rfl | (simp only [List.length_drop, List.length_take]; rfl)) ?_; (with_reducible refine (spec_unit.calls k1 a0 x3_1 t363 true _ A6.out).mono ?_); rintro e w' ⟨rfl, ⟨nd, rfl⟩⟩; refine ⟨_, rfl, ?_⟩) | ((with_reducible refine gate_callee (f := 60) rfl ?_); refine goesL_ (some 33) rfl rfl Tryz.func60 (by kernel_rfl) rfl #[.int .i64 t363] rfl (by (try simp only [List.map_toArray, List.map_cons, List.map_nil]); first | done | rfl | (simp only [List.length_drop, List.length_take]; rfl)) ?_; (with_reducible refine (spec_high.calls t363 false _ A8.out).mono ?_); rintro e w' ⟨rfl, ⟨nd, rfl⟩⟩; refine ⟨_, rfl, ?_⟩) | ((with_reducible refine gate_callee (f := 61) rfl ?_); refine goesL_ (some 52) rfl rfl Tryz.func61 (by kernel_rfl) rfl #[.int .i64 t363] rfl (by (try simp only [List.map_toArray, List.map_cons, List.map_nil]); first | done | rfl | (simp only [List.length_drop, List.length_take]; rfl)) ?_; (with_reducible refine (spec_low.calls t363 false _ A14.out).mono ?_); rintro e w' ⟨rfl, ⟨nd, rfl⟩⟩; refine ⟨_, rfl, ?_⟩))
         go_roundg k1
         case measure => have := HK1.out; omega
         case rel => exact ⟨(wrap64 (x3_1 + 6)), (by first | rfl | (simp; done) | (simp [*]; done)), H', ⟨by have := HK1.out; omega⟩, by repeat (first | exact Drawn0.refl _ | apply Drawn0.step)⟩
      ·replace c7 := Bool.eq_false_iff.mpr c7
       subst c7
       have H1 : (spec_Paired.l0 k1 a0 (wrap64 (x3_1 + 2))) = some r := by rw [if_neg (show ¬ (false = true) by decide)] at H; exact H
       clear H
       have H := H1
       clear H1
       have H' := Aside0.mk H
       clear H
       have p4 : 0 ≤ (x3_1 : Int) := of_decide_eq_true (by first | (with_reducible assumption) | assumption)
       have q4 : x3_1 < (a0.size : Int) := of_decide_eq_true (by first | (with_reducible assumption) | assumption)
       have hx4 := bt_at a0 x3_1
       replace p4 := eq_true p4
       replace q4 := eq_true q4
       go_wp2_with (first | ((with_reducible refine gate_callee (f := 59) rfl ?_); refine goesL_ (some 21) rfl rfl Tryz.func59 (by kernel_rfl) rfl #[.string a0, .int .i64 x3_1] rfl (by (try simp only [List.map_toArray, List.map_cons, List.map_nil]); first | done | rfl | (simp only [List.length_drop, List.length_take]; rfl)) ?_; (with_reducible refine (spec_unit.calls k1 a0 x3_1 t363 false _ A6.out).mono ?_); rintro e w' ⟨rfl, ⟨nd, rfl⟩⟩; refine ⟨_, rfl, ?_⟩))
       go_roundg k1
       case measure => have := HK1.out; omega
       case rel => exact ⟨(wrap64 (x3_1 + 2)), (by first | rfl | (simp; done) | (simp [*]; done)), H', ⟨by have := HK1.out; omega⟩, by repeat (first | exact Drawn0.refl _ | apply Drawn0.step)⟩
     ·rw [if_neg c5] at H
      have c5b0 : ((bt a0 x3_1) == 92) = false := beq_eq_false_iff_ne.mpr c5
      have c5b1 : ((bt a0 x3_1) != 92) = true := bne_iff_ne.mpr c5
      have H' := Aside0.mk H
      clear H
      have p4 : 0 ≤ (x3_1 : Int) := of_decide_eq_true (by first | (with_reducible assumption) | assumption)
      have q4 : x3_1 < (a0.size : Int) := of_decide_eq_true (by first | (with_reducible assumption) | assumption)
      have hx4 := bt_at a0 x3_1
      replace p4 := eq_true p4
      replace q4 := eq_true q4
      go_wp2
      go_roundg k1
      case measure => have := HK1.out; omega
      case rel => exact ⟨(wrap64 (x3_1 + 1)), (by first | rfl | (simp; done) | (simp [*]; done)), H', ⟨by have := HK1.out; omega⟩, by repeat (first | exact Drawn0.refl _ | apply Drawn0.step)⟩
    ·rw [if_neg c3] at H
     exact absurd H (by simp)
   ·rw [if_neg c2] at H
    have c2b0 : decide (x3_1 < (a0.size : Int)) = false := decide_eq_false c2
    clear c2
    obtain rfl := Option.some.inj H
    go_wp2
    go_ret
    exact ⟨by first | rfl | (simp; done) | (simp [*]; done), by repeat (first | exact Drawn0.refl _ | apply Drawn0.step)⟩
mutual
def spec_Character.j2 : Nat → ByteArray → Int → Int → Int → Int → Option (Int × Int × Bool)
 | 0, _, _, _, _, _ => none
 | k + 1, x0, x1, x7, x8, x9 => if (wrap64 ((x0.size : Int) - x1)) ≤ x8 then (some (65533, 1, false)) else (spec_Character.l0 k x0 x1 x7 x8 x9 1)
def spec_Character.l0 : Nat → ByteArray → Int → Int → Int → Int → Int → Option (Int × Int × Bool)
 | 0, _, _, _, _, _, _ => none
 | k + 1, x0, x1, x7, x8, x9, x10 => if x10 ≤ x8 then (if 0 ≤ (wrap64 (x1 + x10)) then (if (wrap64 (x1 + x10)) < (x0.size : Int) then (if (wrap64 (bt x0 (wrap64 (x1 + x10)))) < 128 then (some (65533, 1, false)) else (if (wrap64 (bt x0 (wrap64 (x1 + x10)))) > 191 then (some (65533, 1, false)) else (spec_Character.l0 k x0 x1 (wrap64 ((wrap64 ((wrap64 (x7 * 64)) + (wrap64 (bt x0 (wrap64 (x1 + x10)))))) - 128)) x8 x9 (wrap64 (x10 + 1))))) else (none)) else (none)) else (if x7 < x9 then (some (65533, 1, false)) else (if x7 > 1114111 then (some (65533, 1, false)) else ((spec_high.f x7).bind fun t370 => (if t370 = true then (some (65533, 1, false)) else ((spec_low.f x7).bind fun t371 => (if t371 = true then (some (65533, 1, false)) else (some (x7, wrap64 (x8 + 1), true))))))))
def spec_Character.j0 : Nat → ByteArray → Int → Int → Bool → Option (Int × Int × Bool)
 | 0, _, _, _, _ => none
 | k + 1, x0, x1, x7, x20 => if x20 = true then (spec_Character.j2 k x0 x1 (wrap64 (x7 - 192)) 1 128) else (if 224 ≤ x7 then (spec_Character.j1 k x0 x1 x7 (decide (x7 ≤ 239))) else (spec_Character.j1 k x0 x1 x7 false))
def spec_Character.j1 : Nat → ByteArray → Int → Int → Bool → Option (Int × Int × Bool)
 | 0, _, _, _, _ => none
 | k + 1, x0, x1, x7, x29 => if x29 = true then (spec_Character.j2 k x0 x1 (wrap64 (x7 - 224)) 2 2048) else (if 240 ≤ x7 then (if x7 ≤ 244 then (spec_Character.j2 k x0 x1 (wrap64 (x7 - 240)) 3 65536) else (some (65533, 1, false))) else (some (65533, 1, false)))
end
def spec_Character.f (k : Nat) (a0 : ByteArray) (a1 : Int) : Option (Int × Int × Bool) := if 0 ≤ a1 then (if a1 < (a0.size : Int) then (if (wrap64 (bt a0 a1)) < 128 then (some (wrap64 (bt a0 a1), 1, true)) else (if 194 ≤ (wrap64 (bt a0 a1)) then (spec_Character.j0 k a0 a1 (wrap64 (bt a0 a1)) (decide ((wrap64 (bt a0 a1)) ≤ 223))) else (spec_Character.j0 k a0 a1 (wrap64 (bt a0 a1)) false))) else (none)) else (none)
theorem spec_Character.calls (k : Nat) (a0 : ByteArray) (a1 : Int) (r1 : Int) (r2 : Int) (r3 : Bool) (w : World) (h : spec_Character.f k a0 a1 = some (r1, r2, r3)) :
  Calls Tryz.prog 76 #[.string a0, .int .i64 a1] w fun e w' => e = .returned (.tuple #[.int .i64 r1, .int .i64 r2, .bool r3]) ∧ Drawn0 w w' := by
 have H : (if 0 ≤ a1 then (if a1 < (a0.size : Int) then (if (wrap64 (bt a0 a1)) < 128 then (some (wrap64 (bt a0 a1), 1, true)) else (if 194 ≤ (wrap64 (bt a0 a1)) then (spec_Character.j0 k a0 a1 (wrap64 (bt a0 a1)) (decide ((wrap64 (bt a0 a1)) ≤ 223))) else (spec_Character.j0 k a0 a1 (wrap64 (bt a0 a1)) false))) else (none)) else (none)) = some (r1, r2, r3) := h
 clear h
 by_cases c3 : 0 ≤ a1
 ·rw [if_pos c3] at H
  have c3b0 : decide (0 ≤ a1) = true := decide_eq_true c3
  clear c3
  by_cases c4 : a1 < (a0.size : Int)
  ·rw [if_pos c4] at H
   have c4b0 : decide (a1 < (a0.size : Int)) = true := decide_eq_true c4
   clear c4
   have HC6 := Aside0.mk H
   clear H
   have p5 : 0 ≤ (a1 : Int) := of_decide_eq_true (by first | (with_reducible assumption) | assumption)
   have q5 : a1 < (a0.size : Int) := of_decide_eq_true (by first | (with_reducible assumption) | assumption)
   have hx5 := bt_at a0 a1
   replace p5 := eq_true p5
   replace q5 := eq_true q5
   go_enter Tryz.func76, Tryz.ntmps76
   go_upto_block 0 with (fail)
   go_cut [7, 8, 9] (fun v7 v8 v9 wc => ∃ (kq : Nat) (x7_5 : Int) (x8_5 : Int) (x9_5 : Int), v7 = .int .i64 x7_5 ∧ v8 = .int .i64 x8_5 ∧ v9 = .int .i64 x9_5 ∧ Aside0 (spec_Character.j2 kq a0 a1 x7_5 x8_5 x9_5 = some (r1, r2, r3)) ∧ Aside0 (kq ≤ k) ∧ Drawn0 w wc)
   case first =>
    have H := HC6.out
    clear HC6
    by_cases c7 : (wrap64 (bt a0 a1)) < 128
    ·rw [if_pos c7] at H
     have c7b0 : decide ((wrap64 (bt a0 a1)) < 128) = true := decide_eq_true c7
     clear c7
     (first | rw [c7b0] | (simp only [i64_w]; rw [c7b0]) | skip)
     simp only [Option.some.injEq, Prod.mk.injEq] at H
     obtain ⟨rfl, rfl, rfl⟩ := H
     go_wp2
     go_ret3
     exact ⟨by first | rfl | (simp; done) | (simp [*]; done), by repeat (first | exact Drawn0.refl _ | apply Drawn0.step)⟩
    ·rw [if_neg c7] at H
     have c7b0 : decide ((wrap64 (bt a0 a1)) < 128) = false := decide_eq_false c7
     clear c7
     (first | rw [c7b0] | (simp only [i64_w]; rw [c7b0]) | skip)
     have HC8 := Aside0.mk H
     clear H
     go_upto_region 6 with (fail)
     go_cut [20] (fun v20 wc => ∃ (kq : Nat) (x20_7 : Bool), v20 = .bool x20_7 ∧ Aside0 (spec_Character.j0 kq a0 a1 (wrap64 (bt a0 a1)) x20_7 = some (r1, r2, r3)) ∧ Aside0 (kq ≤ k) ∧ Drawn0 w wc)
     case first =>
      have H := HC8.out
      clear HC8
      by_cases c9 : 194 ≤ (wrap64 (bt a0 a1))
      ·rw [if_pos c9] at H
       have c9b0 : decide (194 ≤ (wrap64 (bt a0 a1))) = true := decide_eq_true c9
       clear c9
       (first | rw [c9b0] | (simp only [i64_w]; rw [c9b0]) | skip)
       have H' := Aside0.mk H
       clear H
       go_wp2
       go_meet
       case rel => exact ⟨_, (decide ((wrap64 (bt a0 a1)) ≤ 223)), (by first | rfl | (simp; done) | (simp [*]; done)), H', ⟨by first | omega | exact Nat.le_refl _⟩, by repeat (first | exact Drawn0.refl _ | apply Drawn0.step)⟩
      ·rw [if_neg c9] at H
       have c9b0 : decide (194 ≤ (wrap64 (bt a0 a1))) = false := decide_eq_false c9
       clear c9
       (first | rw [c9b0] | (simp only [i64_w]; rw [c9b0]) | skip)
       have H' := Aside0.mk H
       clear H
       go_wp2
       go_meet
       case rel => exact ⟨_, (false), (by first | rfl | (simp; done) | (simp [*]; done)), H', ⟨by first | omega | exact Nat.le_refl _⟩, by repeat (first | exact Drawn0.refl _ | apply Drawn0.step)⟩
     case rest =>
      clear HC8
      try clear p2
      try clear c3
      try clear c3b0
      try clear c4
      try clear c4b0
      try clear p5
      try clear q5
      try clear hx5
      try clear p6
      try clear c7
      try clear c7b0
      try clear c9
      try clear c9b0
      try clear p5
      try clear q5
      obtain ⟨kq, x20_7, rfl, HA, HJ7, ⟨mc7, rfl⟩⟩ := hcut
      cases kq with
      | zero => exact absurd HA.out (by simp [spec_Character.j0])
      | succ kj7 =>
       have H := HA.out
       clear HA
       simp only [spec_Character.j0] at H
       by_cases c10 : x20_7 = true
       ·subst c10
        have H1 : (spec_Character.j2 kj7 a0 a1 (wrap64 ((wrap64 (bt a0 a1)) - 192)) 1 128) = some (r1, r2, r3) := by rw [if_pos rfl] at H; exact H
        clear H
        have H := H1
        clear H1
        have H' := Aside0.mk H
        clear H
        go_wp2
        go_meet
        case rel => exact ⟨_, (wrap64 ((wrap64 (bt a0 a1)) - 192)), (1), (128), (by first | rfl | (simp; done) | (simp [*]; done)), (by first | rfl | (simp; done) | (simp [*]; done)), (by first | rfl | (simp; done) | (simp [*]; done)), H', ⟨by have := HJ7.out; first | omega | exact Nat.le_refl _⟩, by repeat (first | exact Drawn0.refl _ | apply Drawn0.step)⟩
       ·replace c10 := Bool.eq_false_iff.mpr c10
        subst c10
        have H1 : (if 224 ≤ (wrap64 (bt a0 a1)) then (spec_Character.j1 kj7 a0 a1 (wrap64 (bt a0 a1)) (decide ((wrap64 (bt a0 a1)) ≤ 239))) else (spec_Character.j1 kj7 a0 a1 (wrap64 (bt a0 a1)) false)) = some (r1, r2, r3) := by rw [if_neg (show ¬ (false = true) by decide)] at H; exact H
        clear H
        have H := H1
        clear H1
        have HC11 := Aside0.mk H
        clear H
        go_upto_region 8 with (fail)
        go_cut [29] (fun v29 wc => ∃ (kq : Nat) (x29_10 : Bool), v29 = .bool x29_10 ∧ Aside0 (spec_Character.j1 kq a0 a1 (wrap64 (bt a0 a1)) x29_10 = some (r1, r2, r3)) ∧ Aside0 (kq ≤ kj7) ∧ Drawn0 w wc)
        case first =>
         have H := HC11.out
         clear HC11
         by_cases c12 : 224 ≤ (wrap64 (bt a0 a1))
         ·rw [if_pos c12] at H
          have c12b0 : decide (224 ≤ (wrap64 (bt a0 a1))) = true := decide_eq_true c12
          clear c12
          (first | rw [c12b0] | (simp only [i64_w]; rw [c12b0]) | skip)
          have H' := Aside0.mk H
          clear H
          go_wp2
          go_meet
          case rel => exact ⟨_, (decide ((wrap64 (bt a0 a1)) ≤ 239)), (by first | rfl | (simp; done) | (simp [*]; done)), H', ⟨by have := HJ7.out; first | omega | exact Nat.le_refl _⟩, by repeat (first | exact Drawn0.refl _ | apply Drawn0.step)⟩
         ·rw [if_neg c12] at H
          have c12b0 : decide (224 ≤ (wrap64 (bt a0 a1))) = false := decide_eq_false c12
          clear c12
          (first | rw [c12b0] | (simp only [i64_w]; rw [c12b0]) | skip)
          have H' := Aside0.mk H
          clear H
          go_wp2
          go_meet
          case rel => exact ⟨_, (false), (by first | rfl | (simp; done) | (simp [*]; done)), H', ⟨by have := HJ7.out; first | omega | exact Nat.le_refl _⟩, by repeat (first | exact Drawn0.refl _ | apply Drawn0.step)⟩
        case rest =>
         clear HC11
         try clear c1
         try clear p2
         try clear c3
         try clear c3b0
         try clear c4
         try clear c4b0
         try clear p5
         try clear q5
         try clear hx5
         try clear p6
         try clear c7
         try clear c7b0
         try clear c9
         try clear c9b0
         try clear c10
         try clear c12
         try clear c12b0
         try clear p2
         try clear p5
         try clear p6
         try clear q5
         obtain ⟨kq, x29_10, rfl, HA, HJ10, ⟨mc10, rfl⟩⟩ := hcut
         cases kq with
         | zero => exact absurd HA.out (by simp [spec_Character.j1])
         | succ kj10 =>
          have H := HA.out
          clear HA
          simp only [spec_Character.j1] at H
          by_cases c13 : x29_10 = true
          ·subst c13
           have H1 : (spec_Character.j2 kj10 a0 a1 (wrap64 ((wrap64 (bt a0 a1)) - 224)) 2 2048) = some (r1, r2, r3) := by rw [if_pos rfl] at H; exact H
           clear H
           have H := H1
           clear H1
           have H' := Aside0.mk H
           clear H
           go_wp2
           go_meet
           case rel => exact ⟨_, (wrap64 ((wrap64 (bt a0 a1)) - 224)), (2), (2048), (by first | rfl | (simp; done) | (simp [*]; done)), (by first | rfl | (simp; done) | (simp [*]; done)), (by first | rfl | (simp; done) | (simp [*]; done)), H', ⟨by have := HJ7.out; have := HJ10.out; first | omega | exact Nat.le_refl _⟩, by repeat (first | exact Drawn0.refl _ | apply Drawn0.step)⟩
          ·replace c13 := Bool.eq_false_iff.mpr c13
           subst c13
           have H1 : (if 240 ≤ (wrap64 (bt a0 a1)) then (if (wrap64 (bt a0 a1)) ≤ 244 then (spec_Character.j2 kj10 a0 a1 (wrap64 ((wrap64 (bt a0 a1)) - 240)) 3 65536) else (some (65533, 1, false))) else (some (65533, 1, false))) = some (r1, r2, r3) := by rw [if_neg (show ¬ (false = true) by decide)] at H; exact H
           clear H
           have H := H1
           clear H1
           by_cases c14 : 240 ≤ (wrap64 (bt a0 a1))
           ·rw [if_pos c14] at H
            have c14b0 : decide (240 ≤ (wrap64 (bt a0 a1))) = true := decide_eq_true c14
            clear c14
            by_cases c15 : (wrap64 (bt a0 a1)) ≤ 244
            ·rw [if_pos c15] at H
             have c15b0 : decide ((wrap64 (bt a0 a1)) ≤ 244) = true := decide_eq_true c15
             clear c15
             have H' := Aside0.mk H
             clear H
             go_wp2
             go_meet
             case rel => exact ⟨_, (wrap64 ((wrap64 (bt a0 a1)) - 240)), (3), (65536), (by first | rfl | (simp; done) | (simp [*]; done)), (by first | rfl | (simp; done) | (simp [*]; done)), (by first | rfl | (simp; done) | (simp [*]; done)), H', ⟨by have := HJ7.out; have := HJ10.out; first | omega | exact Nat.le_refl _⟩, by repeat (first | exact Drawn0.refl _ | apply Drawn0.step)⟩
            ·rw [if_neg c15] at H
             have c15b0 : decide ((wrap64 (bt a0 a1)) ≤ 244) = false := decide_eq_false c15
             clear c15
             simp only [Option.some.injEq, Prod.mk.injEq] at H
             obtain ⟨rfl, rfl, rfl⟩ := H
             go_wp2
             go_ret3
             exact ⟨by first | rfl | (simp; done) | (simp [*]; done), by repeat (first | exact Drawn0.refl _ | apply Drawn0.step)⟩
           ·rw [if_neg c14] at H
            have c14b0 : decide (240 ≤ (wrap64 (bt a0 a1))) = false := decide_eq_false c14
            clear c14
            simp only [Option.some.injEq, Prod.mk.injEq] at H
            obtain ⟨rfl, rfl, rfl⟩ := H
            go_wp2
            go_ret3
            exact ⟨by first | rfl | (simp; done) | (simp [*]; done), by repeat (first | exact Drawn0.refl _ | apply Drawn0.step)⟩
   case rest =>
    clear HC6
    try clear c1
    try clear p2
    try clear c3
    try clear c3b0
    try clear c4
    try clear c4b0
    try clear p5
    try clear q5
    try clear hx5
    try clear p6
    try clear c7
    try clear c7b0
    try clear c9
    try clear c9b0
    try clear c10
    try clear c12
    try clear c12b0
    try clear c13
    try clear c14
    try clear c14b0
    try clear c15
    try clear c15b0
    try clear p2
    try clear p5
    try clear p6
    try clear q5
    obtain ⟨kq, x7_5, x8_5, x9_5, rfl, rfl, rfl, HA, HJ5, ⟨mc5, rfl⟩⟩ := hcut
    cases kq with
    | zero => exact absurd HA.out (by simp [spec_Character.j2])
    | succ kj5 =>
     have H := HA.out
     clear HA
     simp only [spec_Character.j2] at H
     by_cases c16 : (wrap64 ((a0.size : Int) - a1)) ≤ x8_5
     ·rw [if_pos c16] at H
      have c16b0 : decide ((wrap64 ((a0.size : Int) - a1)) ≤ x8_5) = true := decide_eq_true c16
      clear c16
      simp only [Option.some.injEq, Prod.mk.injEq] at H
      obtain ⟨rfl, rfl, rfl⟩ := H
      go_wp2
      go_ret3
      exact ⟨by first | rfl | (simp; done) | (simp [*]; done), by repeat (first | exact Drawn0.refl _ | apply Drawn0.step)⟩
     ·rw [if_neg c16] at H
      have c16b0 : decide ((wrap64 ((a0.size : Int) - a1)) ≤ x8_5) = false := decide_eq_false c16
      clear c16
      have H' := Aside0.mk H
      clear H
      go_wp2
      go_loopg [7, 10] kj5 (fun kq v7 v10 w' => ∃ (x7_2 : Int) (x10_2 : Int), v7 = .int .i64 x7_2 ∧ v10 = .int .i64 x10_2 ∧ Aside0 (spec_Character.l0 kq a0 a1 x7_2 x8_5 x9_5 x10_2 = some (r1, r2, r3)) ∧ Aside0 (kq ≤ kj5) ∧ Drawn0 w w')
      case atStart => exact ⟨(x7_5), (1), (by first | rfl | (simp; done) | (simp [*]; done)), (by first | rfl | (simp; done) | (simp [*]; done)), H', ⟨Nat.le_refl _⟩, by repeat (first | exact Drawn0.refl _ | apply Drawn0.step)⟩
      case round =>
       clear H'
       try clear c1
       try clear p2
       try clear c3
       try clear c3b0
       try clear c4
       try clear c4b0
       try clear c5
       try clear p5
       try clear q5
       try clear hx5
       try clear p6
       try clear c7
       try clear c7b0
       try clear c9
       try clear c9b0
       try clear c10
       try clear c12
       try clear c12b0
       try clear c13
       try clear c14
       try clear c14b0
       try clear c15
       try clear c15b0
       try clear c16
       try clear c16b0
       try clear p2
       try clear p5
       try clear p6
       try clear q5
       obtain ⟨x7_2, x10_2, rfl, rfl, HA, HK2, ⟨m2, rfl⟩⟩ := hrel
       cases gk with
       | zero => exact absurd HA.out (by simp [spec_Character.l0])
       | succ k2 =>
        have H := HA.out
        clear HA
        simp only [spec_Character.l0] at H
        by_cases c17 : x10_2 ≤ x8_5
        ·rw [if_pos c17] at H
         have c17b0 : decide (x10_2 ≤ x8_5) = true := decide_eq_true c17
         clear c17
         obtain ⟨ji18, hji18⟩ : ∃ j_ : Int, (wrap64 (a1 + x10_2)) = j_ := ⟨_, rfl⟩
         replace H : (if 0 ≤ (ji18) then (if (ji18) < (a0.size : Int) then (if (wrap64 (bt a0 (ji18))) < 128 then (some (65533, 1, false)) else (if (wrap64 (bt a0 (ji18))) > 191 then (some (65533, 1, false)) else (spec_Character.l0 k2 a0 a1 (wrap64 ((wrap64 ((wrap64 (x7_2 * 64)) + (wrap64 (bt a0 (ji18))))) - 128)) x8_5 x9_5 (wrap64 (x10_2 + 1))))) else (none)) else (none)) = some (r1, r2, r3) := by first | (rw [hji18] at H; exact H) | (simp only [hji18] at H ⊢; exact H)
         have hji18w : (IntKind.i64.wrap (a1 + x10_2)) = ji18 := (i64_w _).trans hji18
         by_cases c19 : 0 ≤ (ji18)
         ·rw [if_pos c19] at H
          have c19b0 : decide (0 ≤ (ji18)) = true := decide_eq_true c19
          clear c19
          by_cases c20 : (ji18) < (a0.size : Int)
          ·rw [if_pos c20] at H
           have c20b0 : decide ((ji18) < (a0.size : Int)) = true := decide_eq_true c20
           clear c20
           by_cases c22 : (wrap64 (bt a0 (ji18))) < 128
           ·rw [if_pos c22] at H
            have c22b0 : decide ((wrap64 (bt a0 (ji18))) < 128) = true := decide_eq_true c22
            clear c22
            simp only [Option.some.injEq, Prod.mk.injEq] at H
            obtain ⟨rfl, rfl, rfl⟩ := H
            have p21 : 0 ≤ ((ji18) : Int) := of_decide_eq_true (by first | (with_reducible assumption) | assumption)
            have q21 : (ji18) < (a0.size : Int) := of_decide_eq_true (by first | (with_reducible assumption) | assumption)
            have hx21 := bt_at a0 (ji18)
            replace p21 := eq_true p21
            replace q21 := eq_true q21
            go_wp2
            go_ret3
            exact ⟨by first | rfl | (simp; done) | (simp only [← hji18] <;> (first | rfl | simp)) | (simp [*]; done), by repeat (first | exact Drawn0.refl _ | apply Drawn0.step)⟩
           ·rw [if_neg c22] at H
            have c22b0 : decide ((wrap64 (bt a0 (ji18))) < 128) = false := decide_eq_false c22
            clear c22
            by_cases c23 : (wrap64 (bt a0 (ji18))) > 191
            ·rw [if_pos c23] at H
             have c23b0 : decide (191 < (wrap64 (bt a0 (ji18)))) = true := decide_eq_true c23
             clear c23
             simp only [Option.some.injEq, Prod.mk.injEq] at H
             obtain ⟨rfl, rfl, rfl⟩ := H
             have p21 : 0 ≤ ((ji18) : Int) := of_decide_eq_true (by first | (with_reducible assumption) | assumption)
             have q21 : (ji18) < (a0.size : Int) := of_decide_eq_true (by first | (with_reducible assumption) | assumption)
             have hx21 := bt_at a0 (ji18)
             replace p21 := eq_true p21
             replace q21 := eq_true q21
             go_wp2
             go_ret3
             exact ⟨by first | rfl | (simp; done) | (simp only [← hji18] <;> (first | rfl | simp)) | (simp [*]; done), by repeat (first | exact Drawn0.refl _ | apply Drawn0.step)⟩
            ·rw [if_neg c23] at H
             have c23b0 : decide (191 < (wrap64 (bt a0 (ji18)))) = false := decide_eq_false c23
             clear c23
             have H' := Aside0.mk H
             clear H
             have p21 : 0 ≤ ((ji18) : Int) := of_decide_eq_true (by first | (with_reducible assumption) | assumption)
             have q21 : (ji18) < (a0.size : Int) := of_decide_eq_true (by first | (with_reducible assumption) | assumption)
             have hx21 := bt_at a0 (ji18)
             replace p21 := eq_true p21
             replace q21 := eq_true q21
             go_wp2
             go_roundg k2
             case measure => have := HJ5.out; have := HK2.out; omega
             case rel => exact ⟨(wrap64 ((wrap64 ((wrap64 (x7_2 * 64)) + (wrap64 (bt a0 (ji18))))) - 128)), (wrap64 (x10_2 + 1)), (by first | rfl | (simp; done) | (simp only [← hji18] <;> (first | rfl | simp)) | (simp [*]; done)), (by first | rfl | (simp; done) | (simp [*]; done)), H', ⟨by have := HJ5.out; have := HK2.out; omega⟩, by repeat (first | exact Drawn0.refl _ | apply Drawn0.step)⟩
          ·rw [if_neg c20] at H
           exact absurd H (by simp)
         ·rw [if_neg c19] at H
          exact absurd H (by simp)
        ·rw [if_neg c17] at H
         have c17b0 : decide (x10_2 ≤ x8_5) = false := decide_eq_false c17
         clear c17
         by_cases c24 : x7_2 < x9_5
         ·rw [if_pos c24] at H
          have c24b0 : decide (x7_2 < x9_5) = true := decide_eq_true c24
          clear c24
          simp only [Option.some.injEq, Prod.mk.injEq] at H
          obtain ⟨rfl, rfl, rfl⟩ := H
          go_wp2
          go_ret3
          exact ⟨by first | rfl | (simp; done) | (simp [*]; done), by repeat (first | exact Drawn0.refl _ | apply Drawn0.step)⟩
         ·rw [if_neg c24] at H
          have c24b0 : decide (x7_2 < x9_5) = false := decide_eq_false c24
          clear c24
          by_cases c25 : x7_2 > 1114111
          ·rw [if_pos c25] at H
           have c25b0 : decide (1114111 < x7_2) = true := decide_eq_true c25
           clear c25
           simp only [Option.some.injEq, Prod.mk.injEq] at H
           obtain ⟨rfl, rfl, rfl⟩ := H
           go_wp2
           go_ret3
           exact ⟨by first | rfl | (simp; done) | (simp [*]; done), by repeat (first | exact Drawn0.refl _ | apply Drawn0.step)⟩
          ·rw [if_neg c25] at H
           have c25b0 : decide (1114111 < x7_2) = false := decide_eq_false c25
           clear c25
           replace H := Option.bind_eq_some_iff.mp H
           obtain ⟨t370, A260, H⟩ := H
           try dsimp only at H
           have A26 := Aside0.mk A260
           clear A260
           by_cases c27 : t370 = true
           ·subst c27
            have H1 : (some (65533, 1, false)) = some (r1, r2, r3) := by rw [if_pos rfl] at H; exact H
            clear H
            have H := H1
            clear H1
            simp only [Option.some.injEq, Prod.mk.injEq] at H
            obtain ⟨rfl, rfl, rfl⟩ := H
            go_wp2_with (first | (go_at_call 60; (with_reducible refine (spec_high.calls x7_2 true _ A26.out).mono ?_); rintro e w' ⟨rfl, ⟨nd, rfl⟩⟩))
            go_ret3
            exact ⟨by first | rfl | (simp; done) | (simp [*]; done), by repeat (first | exact Drawn0.refl _ | apply Drawn0.step)⟩
           ·replace c27 := Bool.eq_false_iff.mpr c27
            subst c27
            have H1 : ((spec_low.f x7_2).bind fun t371 => (if t371 = true then (some (65533, 1, false)) else (some (x7_2, wrap64 (x8_5 + 1), true)))) = some (r1, r2, r3) := by rw [if_neg (show ¬ (false = true) by decide)] at H; exact H
            clear H
            have H := H1
            clear H1
            replace H := Option.bind_eq_some_iff.mp H
            obtain ⟨t371, A280, H⟩ := H
            try dsimp only at H
            have A28 := Aside0.mk A280
            clear A280
            by_cases c29 : t371 = true
            ·subst c29
             have H1 : (some (65533, 1, false)) = some (r1, r2, r3) := by rw [if_pos rfl] at H; exact H
             clear H
             have H := H1
             clear H1
             simp only [Option.some.injEq, Prod.mk.injEq] at H
             obtain ⟨rfl, rfl, rfl⟩ := H
             go_wp2_with (first | (go_at_call 60; (with_reducible refine (spec_high.calls x7_2 false _ A26.out).mono ?_); rintro e w' ⟨rfl, ⟨nd, rfl⟩⟩) | (go_at_call 61; (with_reducible refine (spec_low.calls x7_2 true _ A28.out).mono ?_); rintro e w' ⟨rfl, ⟨nd, rfl⟩⟩))
             go_ret3
             exact ⟨by first | rfl | (simp; done) | (simp [*]; done), by repeat (first | exact Drawn0.refl _ | apply Drawn0.step)⟩
            ·replace c29 := Bool.eq_false_iff.mpr c29
             subst c29
             have H1 : (some (x7_2, wrap64 (x8_5 + 1), true)) = some (r1, r2, r3) := by rw [if_neg (show ¬ (false = true) by decide)] at H; exact H
             clear H
             have H := H1
             clear H1
             simp only [Option.some.injEq, Prod.mk.injEq] at H
             obtain ⟨rfl, rfl, rfl⟩ := H
             go_wp2_with (first | (go_at_call 60; (with_reducible refine (spec_high.calls x7_2 false _ A26.out).mono ?_); rintro e w' ⟨rfl, ⟨nd, rfl⟩⟩) | (go_at_call 61; (with_reducible refine (spec_low.calls x7_2 false _ A28.out).mono ?_); rintro e w' ⟨rfl, ⟨nd, rfl⟩⟩))
             go_ret3
             exact ⟨by first | rfl | (simp; done) | (simp [*]; done), by repeat (first | exact Drawn0.refl _ | apply Drawn0.step)⟩
  ·rw [if_neg c4] at H
   exact absurd H (by simp)
 ·rw [if_neg c3] at H
  exact absurd H (by simp)
def spec_UTF8.l0 : Nat → ByteArray → Int → Option (Bool)
 | 0, _, _ => none
 | k + 1, x0, x3 => if x3 < (x0.size : Int) then ((spec_Character.f k x0 x3).bind fun bt372 => (if bt372.2.2 = true then (spec_UTF8.l0 k x0 (wrap64 (x3 + bt372.2.1))) else (some false))) else (some true)
def spec_UTF8.f (k : Nat) (a0 : ByteArray) : Option (Bool) := spec_UTF8.l0 k a0 0
theorem spec_UTF8.calls (k : Nat) (a0 : ByteArray) (r : Bool) (w : World) (h : spec_UTF8.f k a0 = some r) :
  Calls Tryz.prog 50 #[.string a0] w fun e w' => e = .returned (.bool r) ∧ Drawn0 w w' := by
 have H : (spec_UTF8.l0 k a0 0) = some r := h
 clear h
 have H' := Aside0.mk H
 clear H
 go_enter Tryz.func50, Tryz.ntmps50
 go_wp2
 go_loopg [3] k (fun kq v3 w' => ∃ (x3_1 : Int), v3 = .int .i64 x3_1 ∧ Aside0 (spec_UTF8.l0 kq a0 x3_1 = some r) ∧ Aside0 (kq ≤ k) ∧ Drawn0 w w')
 case atStart => exact ⟨(0), (by first | rfl | (simp; done) | (simp [*]; done)), H', ⟨Nat.le_refl _⟩, by repeat (first | exact Drawn0.refl _ | apply Drawn0.step)⟩
 case round =>
  clear H'
  obtain ⟨x3_1, rfl, HA, HK1, ⟨m1, rfl⟩⟩ := hrel
  cases gk with
  | zero => exact absurd HA.out (by simp [spec_UTF8.l0])
  | succ k1 =>
   have H := HA.out
   clear HA
   simp only [spec_UTF8.l0] at H
   by_cases c2 : x3_1 < (a0.size : Int)
   ·rw [if_pos c2] at H
    have c2b0 : decide (x3_1 < (a0.size : Int)) = true := decide_eq_true c2
    clear c2
    replace H := Option.bind_eq_some_iff.mp H
    obtain ⟨⟨t372, t373, t374⟩, A30, H⟩ := H
    try dsimp only at H
    have A3 := Aside0.mk A30
    clear A30
    by_cases c4 : t374 = true
    ·subst c4
     have H1 : (spec_UTF8.l0 k1 a0 (wrap64 (x3_1 + t373))) = some r := by rw [if_pos rfl] at H; exact H
     clear H
     have H := H1
     clear H1
     have H' := Aside0.mk H
     clear H
     go_wp2_with (first | ((with_reducible refine gate_callee (f := 76) rfl ?_); refine goesL_ (some 14) rfl rfl Tryz.func76 (by kernel_rfl) rfl #[.string a0, .int .i64 x3_1] rfl (by (try simp only [List.map_toArray, List.map_cons, List.map_nil]); first | done | rfl | (simp only [List.length_drop, List.length_take]; rfl)) ?_; (with_reducible refine (spec_Character.calls k1 a0 x3_1 t372 t373 true _ A3.out).mono ?_); rintro e w' ⟨rfl, ⟨nd, rfl⟩⟩; refine ⟨_, rfl, ?_⟩))
     go_roundg k1
     case measure => have := HK1.out; omega
     case rel => exact ⟨(wrap64 (x3_1 + t373)), (by first | rfl | (simp; done) | (simp [*]; done)), H', ⟨by have := HK1.out; omega⟩, by repeat (first | exact Drawn0.refl _ | apply Drawn0.step)⟩
    ·replace c4 := Bool.eq_false_iff.mpr c4
     subst c4
     have H1 : (some false) = some r := by rw [if_neg (show ¬ (false = true) by decide)] at H; exact H
     clear H
     have H := H1
     clear H1
     obtain rfl := Option.some.inj H
     go_wp2_with (first | ((with_reducible refine gate_callee (f := 76) rfl ?_); refine goesL_ (some 14) rfl rfl Tryz.func76 (by kernel_rfl) rfl #[.string a0, .int .i64 x3_1] rfl (by (try simp only [List.map_toArray, List.map_cons, List.map_nil]); first | done | rfl | (simp only [List.length_drop, List.length_take]; rfl)) ?_; (with_reducible refine (spec_Character.calls k1 a0 x3_1 t372 t373 false _ A3.out).mono ?_); rintro e w' ⟨rfl, ⟨nd, rfl⟩⟩; refine ⟨_, rfl, ?_⟩))
     go_ret
     exact ⟨by first | rfl | (simp; done) | (simp [*]; done), by repeat (first | exact Drawn0.refl _ | apply Drawn0.step)⟩
   ·rw [if_neg c2] at H
    have c2b0 : decide (x3_1 < (a0.size : Int)) = false := decide_eq_false c2
    clear c2
    obtain rfl := Option.some.inj H
    go_wp2
    go_ret
    exact ⟨by first | rfl | (simp; done) | (simp [*]; done), by repeat (first | exact Drawn0.refl _ | apply Drawn0.step)⟩
end Go.Proofs.YtgiioglmkogpkaaGreatDoor.M
namespace Go.Proofs.YtgiioglmkogpkaaGreatDoor.L
open Go.RowKit Go.Proofs.YtgiioglmkogpkaaGreatDoorW.PrintWords Go.Proofs.YtgiioglmkogpkaaGreatDoorW.PrintLast Go.Proofs.YtgiioglmkogpkaaGreatDoorW.PrintMore
open M
theorem getD_mem {α : Type} {l : List α} {i : Nat} (d : α) (h : i < l.length) : l.getD i d ∈ l := by
 rw [List.getD_eq_getElem?_getD, List.getElem?_eq_getElem h]
 exact List.getElem_mem _
def TxtOf (s : ByteArray) (p e : Int) (r : ByteArray) : Prop := ∀ o, Dec (s.extract (p.toNat + 1) (e.toNat - 1)) (s.extract (p.toNat + 1) (e.toNat - 1)).size 0 o → o.length ≤ 65536 → r = strOfNums o
theorem tree_l1 (s : ByteArray) (hz : s.size ≤ 65536) (C : List S78) (hC : C.length ≤ 65536) (ih : ∀ c ∈ C, ∃ txt keys kids, Ev (fun k => spec_Tree.f k s c.f0 c.f1 c.f2 c.f3 c.f4) (c.f0, txt, keys, kids)) (a b c : Int) (N : List S115) (K : Int) (T : ByteArray) (ks : List ByteArray) :
  ∀ (d : Nat) (x : Int) (acc : List S25), 0 ≤ x → x + d = C.length → (acc.length : Int) ≤ x → ∃ kids, Ev (fun k => spec_Tree.l1 k s x a b c N C K T ks acc) (K, T, ks, kids) := by
 intro d
 induction d with
 | zero =>
  intro x acc h0 h1 h2
  refine ⟨acc, Ev.step (f := fun _ => some (K, T, ks, acc)) (fun k => ?_) (Ev.now _)⟩
  simp only [spec_Tree.l1]; rw [if_neg (by omega)]
 | succ d ihd =>
  intro x acc h0 h1 h2
  have hm : rd_T78 C x ∈ C := by
   unfold rd_T78
   exact getD_mem _ (by omega)
  obtain ⟨txt, keys, kids, he⟩ := ih _ hm
  obtain ⟨kids', he'⟩ := ihd (x + 1) (acc ++ [⟨(rd_T78 C x).f0, txt, keys, kids⟩]) (by omega) (by omega) (by simp; omega)
  refine ⟨kids', Ev.step (f := fun k => (spec_Tree.f k s (rd_T78 C x).f0 (rd_T78 C x).f1 (rd_T78 C x).f2 (rd_T78 C x).f3 (rd_T78 C x).f4).bind fun t => (if acc.length < 1954687338268 then (spec_Tree.l1 k s (wrap64 (x + 1)) a b c N C K T ks (acc ++ [(⟨t.1, t.2.1, t.2.2.1, t.2.2.2⟩ : S25)])) else (none))) (fun k => ?_) (Ev.bind he (Ev.congr (fun k => ?_) he'))⟩
  ·simp only [spec_Tree.l1]; rw [if_pos (by omega), if_pos h0]
  ·(try dsimp only); rw [if_pos (by omega), w64 (by omega) (by omega)]
theorem tree_l0 (s : ByteArray) (hz : s.size ≤ 65536) (C : List S78) (hC : C.length ≤ 65536) (ih : ∀ c ∈ C, ∃ txt keys kids, Ev (fun k => spec_Tree.f k s c.f0 c.f1 c.f2 c.f3 c.f4) (c.f0, txt, keys, kids)) (a b c : Int) (N : List S115) (hN : N.length ≤ 65536) (hS : ∀ n ∈ N, Str s n.f0 n.f1) (K : Int) (T : ByteArray) :
  ∀ (d : Nat) (x : Int) (ks : List ByteArray), 0 ≤ x → x + d = N.length → (ks.length : Int) ≤ x → ∃ keys kids, Ev (fun k => spec_Tree.l0 k s x a b c N C K T ks) (K, T, keys, kids) := by
 intro d
 induction d with
 | zero =>
  intro x ks h0 h1 h2
  obtain ⟨kids, he⟩ := tree_l1 s hz C hC ih a b c N K T ks C.length 0 [] (by omega) (by omega) (by simp)
  refine ⟨ks, kids, Ev.step (f := fun k => spec_Tree.l1 k s 0 a b c N C K T ks []) (fun k => ?_) he⟩
  simp only [spec_Tree.l0]; rw [if_neg (by omega)]
 | succ d ihd =>
  intro x ks h0 h1 h2
  have hm : rd_T115 N x ∈ N := by
   unfold rd_T115
   exact getD_mem _ (by omega)
  have hst := hS _ hm
  obtain ⟨r, hr, _⟩ := unqf_ev s hz _ _ hst
  obtain ⟨p0, p1, j, p2, p3, p4, _⟩ := hst
  obtain ⟨keys, kids, he'⟩ := ihd (x + 1) (ks ++ [r]) (by omega) (by omega) (by simp; omega)
  refine ⟨keys, kids, Ev.step (f := fun k => (spec_Unquote.f k (s.extract (rd_T115 N x).f0.toNat (rd_T115 N x).f1.toNat)).bind fun t => (if ks.length < 8796093022208 then (spec_Tree.l0 k s (wrap64 (x + 1)) a b c N C K T (ks ++ [t])) else (none))) (fun k => ?_) (Ev.bind hr (Ev.congr (fun k => ?_) he'))⟩
  ·simp only [spec_Tree.l0]; rw [if_pos (by omega), if_pos h0, if_pos p0, if_pos (by omega), if_pos p4]
  ·(try dsimp only); rw [if_pos (by omega), w64 (by omega) (by omega)]
theorem tree_ev (s : ByteArray) (hz : s.size ≤ 65536) {q : S78} (h : Good s q) : ∃ txt keys kids, Ev (fun k => spec_Tree.f k s q.f0 q.f1 q.f2 q.f3 q.f4) (q.f0, txt, keys, kids) ∧ (q.f0 = 4 → TxtOf s q.f1 q.f2 txt) := by
 induction h with
 | mk q h0 h1 h2 h4 hn l3 l4 hk ih =>
  have ih' : ∀ c ∈ q.f4, ∃ txt keys kids, Ev (fun k => spec_Tree.f k s c.f0 c.f1 c.f2 c.f3 c.f4) (c.f0, txt, keys, kids) := fun c hc => by
   obtain ⟨a, b, d, e, _⟩ := ih c hc
   exact ⟨a, b, d, e⟩
  have hj : ∀ T, ∃ keys kids, Ev (fun k => spec_Tree.j0 k s q.f0 q.f1 q.f2 q.f3 q.f4 q.f0 T) (q.f0, T, keys, kids) := fun T => by
   obtain ⟨keys, kids, he⟩ := tree_l0 s hz q.f4 l4 ih' q.f0 q.f1 q.f2 q.f3 l3 hn q.f0 T q.f3.length 0 [] (by omega) (by omega) (by simp)
   exact ⟨keys, kids, Ev.step (f := fun k => spec_Tree.l0 k s 0 q.f0 q.f1 q.f2 q.f3 q.f4 q.f0 T []) (fun k => by simp only [spec_Tree.j0]) he⟩
  by_cases c3 : q.f0 = 3
  ·obtain ⟨keys, kids, he⟩ := hj (s.extract q.f1.toNat q.f2.toNat)
   refine ⟨_, keys, kids, Ev.step (fun k => ?_) he, fun c => by omega⟩
   simp only [spec_Tree.f]; rw [if_pos c3, if_pos h0, if_pos h1, if_pos h2]
  ·by_cases c4 : q.f0 = 4
   ·obtain ⟨r, hr, hT⟩ := unqf_ev s hz _ _ (h4 c4)
    obtain ⟨keys, kids, he⟩ := hj r
    refine ⟨r, keys, kids, Ev.step (f := fun k => (spec_Unquote.f k (s.extract q.f1.toNat q.f2.toNat)).bind fun t => spec_Tree.j0 k s q.f0 q.f1 q.f2 q.f3 q.f4 q.f0 t) (fun k => ?_) (Ev.bind hr he), fun _ => hT⟩
    simp only [spec_Tree.f]; rw [if_neg c3, if_pos c4, if_pos h0, if_pos h1, if_pos h2]
   ·obtain ⟨keys, kids, he⟩ := hj ⟨#[]⟩
    refine ⟨_, keys, kids, Ev.step (fun k => ?_) he, fun c => absurd c c4⟩
    simp only [spec_Tree.f]; rw [if_neg c3, if_neg c4]
theorem Ev.back {α : Type} {g f : Nat → Option α} {r : α} (h : ∀ k, g (k + 1) = f k) (e : Ev g r) : Ev f r := by
 obtain ⟨K, e⟩ := e
 exact ⟨K, fun k hk => by rw [← h]; exact e (k + 1) (by omega)⟩
theorem Ev.one {α : Type} {g : Nat → Option α} {r r' : α} (h : Ev g r) (h' : Ev g r') : r = r' := by
 obtain ⟨K, a⟩ := h
 obtain ⟨K', b⟩ := h'
 exact Option.some.inj ((a (K + K') (by omega)).symm.trans (b (K + K') (by omega)))
theorem Ev.unbind {α β : Type} {g : Nat → Option α} {f : Nat → α → Option β} {a : α} {r : β} (h : Ev g a) (k : Ev (fun n => (g n).bind (f n)) r) : Ev (fun n => f n a) r := by
 obtain ⟨K, h⟩ := h
 obtain ⟨K', k⟩ := k
 refine ⟨K + K', fun n hn => ?_⟩
 have := k n (by omega)
 simp only [h n (by omega), Option.bind_some] at this
 exact this
inductive PDec (s : ByteArray) (j : Int) : Int → List Int → Prop
 | nil : PDec s j j []
 | plain (i : Int) (o : List Int) : 0 ≤ i → i < j → bt s i ≠ 92 → bt s i ≠ 34 → 32 ≤ bt s i → PDec s j (i + 1) o → PDec s j i (bt s i :: o)
 | esc (i : Int) (o : List Int) : 0 ≤ i → i + 1 < j → bt s i = 92 → isEsc (bt s (i + 1)) → PDec s j (i + 2) o → PDec s j i (shortv (bt s (i + 1)) :: o)
 | uni (i : Int) (o : List Int) : isU s j i → ¬ isHigh (u4 s (i + 2)) → ¬ isLow (u4 s (i + 2)) → PDec s j (i + 6) o → PDec s j i (enc (u4 s (i + 2)) ++ o)
 | pair (i : Int) (o : List Int) : isU s j i → isPair s j i → PDec s j (i + 12) o → PDec s j i (enc (65536 + (u4 s (i + 2) - 55296) * 1024 + (u4 s (i + 8) - 56320)) ++ o)
theorem PDec.dec {s : ByteArray} {j i : Int} {o : List Int} (h : PDec s j i o) : Dec s j i o := by
 induction h with
 | nil => exact .nil
 | plain i o a b c d e f g => exact .plain i o a b c g
 | esc i o a b c d e f => exact .esc i o a b c d f
 | uni i o a b c d e => exact .uni i o a (fun q => b q.2.1) e
 | pair i o a b c d => exact .pair i o a b d
def pairStep (s : ByteArray) (p : Int) (k : Nat) (b : Int × Bool) : Option Bool := if b.2 = true then ((spec_high.f b.1).bind fun t365 => (if t365 = true then ((spec_unit.f k s (wrap64 (p + 6))).bind fun bt366 => (if bt366.2 = true then ((spec_low.f bt366.1).bind fun t368 => (if t368 = true then (spec_Paired.l0 k s (wrap64 (p + 12))) else (some false))) else (some false))) else ((spec_low.f b.1).bind fun t369 => (if t369 = true then (some false) else (spec_Paired.l0 k s (wrap64 (p + 6))))))) else (spec_Paired.l0 k s (wrap64 (p + 2)))
theorem pair_back (s : ByteArray) (p : Int) (h0 : 0 ≤ p) (h1 : p < s.size) (h : bt s p = 92) : ∀ k, spec_Paired.l0 (k + 1) s p = (spec_unit.f k s p).bind (pairStep s p k) := fun k => by
 simp only [spec_Paired.l0]; rw [if_pos h1, if_pos h0, if_pos h]; rfl
theorem pair_plain (s : ByteArray) (hz : s.size ≤ 65536) (p : Int) (h0 : 0 ≤ p) (h1 : p < s.size) (h : bt s p ≠ 92) : ∀ k, spec_Paired.l0 (k + 1) s p = spec_Paired.l0 k s (p + 1) := fun k => by
 simp only [spec_Paired.l0]; rw [if_pos h1, if_pos h0, if_neg h, w64 (by omega) (by omega)]
theorem paired_tot (s : ByteArray) (hz : s.size ≤ 65536) : ∀ (n : Nat) (p : Int), 0 ≤ p → p ≤ 100000 → (s.size : Int) - p < n → ∃ b, Ev (fun k => spec_Paired.l0 k s p) b := by
 intro n
 induction n with
 | zero =>
  intro p h0 h1 h2
  exact ⟨true, Ev.step (f := fun _ => some true) (fun k => by simp only [spec_Paired.l0]; rw [if_neg (by omega)]) (Ev.now _)⟩
 | succ n ih =>
  intro p h0 h1 h2
  by_cases hp : p < (s.size : Int)
  ·by_cases c92 : bt s p = 92
   ·have hb := pair_back s p h0 hp c92
    by_cases cU : isU s s.size p
    ·have hu := unit_yes s hz p cU
     have hU2 := cU.2.1
     by_cases cH : isHigh (u4 s (p + 2))
     ·by_cases cU2 : isU s s.size (p + 6)
      ·have hU3 := cU2.2.1
       by_cases cL : isLow (u4 s (p + 6 + 2))
       ·obtain ⟨b, h⟩ := ih (p + 12) (by omega) (by omega) (by omega)
        refine ⟨b, Ev.step hb (Ev.bind hu (Ev.congr (f := fun k => (spec_unit.f k s (p + 6)).bind fun b => (if b.2 = true then ((spec_low.f b.1).bind fun t368 => (if t368 = true then (spec_Paired.l0 k s (wrap64 (p + 12))) else (some false))) else (some false))) (fun k => ?_) (Ev.bind (unit_yes s hz _ cU2) (Ev.congr (fun k => ?_) h))))⟩
        ·dsimp only [pairStep]; rw [if_pos rfl, high_f]; simp only [Option.bind_some]; rw [if_pos (decide_eq_true cH), w64 (x := p + 6) (by omega) (by omega)]
        ·(try dsimp only); rw [if_pos rfl, low_f]; simp only [Option.bind_some]; rw [if_pos (decide_eq_true cL), w64 (by omega) (by omega)]
       ·refine ⟨false, Ev.step hb (Ev.bind hu (Ev.congr (f := fun k => (spec_unit.f k s (p + 6)).bind fun b => (if b.2 = true then ((spec_low.f b.1).bind fun t368 => (if t368 = true then (spec_Paired.l0 k s (wrap64 (p + 12))) else (some false))) else (some false))) (fun k => ?_) (Ev.bind (unit_yes s hz _ cU2) (Ev.congr (fun k => ?_) (Ev.now _)))))⟩
        ·dsimp only [pairStep]; rw [if_pos rfl, high_f]; simp only [Option.bind_some]; rw [if_pos (decide_eq_true cH), w64 (x := p + 6) (by omega) (by omega)]
        ·(try dsimp only); rw [if_pos rfl, low_f]; simp only [Option.bind_some]; rw [if_neg (by simpa using cL)]
      ·refine ⟨false, Ev.step hb (Ev.bind hu (Ev.congr (f := fun k => (spec_unit.f k s (p + 6)).bind fun b => (if b.2 = true then ((spec_low.f b.1).bind fun t368 => (if t368 = true then (spec_Paired.l0 k s (wrap64 (p + 12))) else (some false))) else (some false))) (fun k => ?_) (Ev.bind (unit_no s hz _ (by omega) cU2) (Ev.congr (fun k => ?_) (Ev.now _)))))⟩
       ·dsimp only [pairStep]; rw [if_pos rfl, high_f]; simp only [Option.bind_some]; rw [if_pos (decide_eq_true cH), w64 (x := p + 6) (by omega) (by omega)]
       ·(try dsimp only); rw [if_neg (by simp)]
     ·by_cases cL : isLow (u4 s (p + 2))
      ·refine ⟨false, Ev.step hb (Ev.bind hu (Ev.congr (fun k => ?_) (Ev.now _)))⟩
       dsimp only [pairStep]; rw [if_pos rfl, high_f]; simp only [Option.bind_some]; rw [if_neg (by simpa using cH), low_f]; simp only [Option.bind_some]; rw [if_pos (decide_eq_true cL)]
      ·obtain ⟨b, h⟩ := ih (p + 6) (by omega) (by omega) (by omega)
       refine ⟨b, Ev.step hb (Ev.bind hu (Ev.congr (fun k => ?_) h))⟩
       dsimp only [pairStep]; rw [if_pos rfl, high_f]; simp only [Option.bind_some]; rw [if_neg (by simpa using cH), low_f]; simp only [Option.bind_some]; rw [if_neg (by simpa using cL), w64 (by omega) (by omega)]
    ·obtain ⟨b, h⟩ := ih (p + 2) (by omega) (by omega) (by omega)
     refine ⟨b, Ev.step hb (Ev.bind (unit_no s hz p (by omega) cU) (Ev.congr (fun k => ?_) h))⟩
     dsimp only [pairStep]; rw [if_neg (by simp), w64 (by omega) (by omega)]
   ·obtain ⟨b, h⟩ := ih (p + 1) (by omega) (by omega) (by omega)
    exact ⟨b, Ev.step (pair_plain s hz p h0 hp c92) h⟩
  ·exact ⟨true, Ev.step (f := fun _ => some true) (fun k => by simp only [spec_Paired.l0]; rw [if_neg hp]) (Ev.now _)⟩
theorem paired_dec (s : ByteArray) (hz : s.size ≤ 65536) (j : Int) (hj : j < s.size) (h34 : bt s j = 34) : ∀ (n : Nat) (i : Int), 0 ≤ i → j - i < n → Bod s j i → Ev (fun k => spec_Paired.l0 k s i) true → ∃ o, PDec s j i o ∧ (o.length : Int) ≤ j - i := by
 intro n
 induction n with
 | zero => intro i h0 h1 h; have := h.le; omega
 | succ n ih =>
  intro i h0 h1 h he
  cases h with
  | nil => exact ⟨[], .nil, by simp⟩
  | plain _ a b c d e =>
   obtain ⟨o, ho, hl⟩ := ih (i + 1) (by omega) (by omega) e (Ev.back (pair_plain s hz i h0 (by omega) c) he)
   exact ⟨_, .plain i o h0 a c b d ho, by simp; omega⟩
  | esc _ a b c d =>
   have h2 := Ev.unbind (unit_no s hz i (by omega) (esc_not_U c)) (Ev.back (pair_back s i h0 (by omega) b) he)
   have h3 : Ev (fun k => spec_Paired.l0 k s (i + 2)) true := by
    refine Ev.congr (fun k => ?_) h2
    dsimp only [pairStep]; rw [if_neg (by simp), w64 (by omega) (by omega)]
   obtain ⟨o, ho, hl⟩ := ih (i + 2) (by omega) (by omega) d h3
   exact ⟨_, .esc i o h0 a b c ho, by simp; omega⟩
  | uni _ a b c d e =>
   have hU : isU s s.size i := ⟨h0, by omega, b, c, d⟩
   have hUj : isU s j i := ⟨h0, by omega, b, c, d⟩
   have h2 := Ev.unbind (unit_yes s hz i hU) (Ev.back (pair_back s i h0 (by omega) b) he)
   by_cases cH : isHigh (u4 s (i + 2))
   ·have h3 : Ev (fun k => (spec_unit.f k s (i + 6)).bind fun b => (if b.2 = true then ((spec_low.f b.1).bind fun t368 => (if t368 = true then (spec_Paired.l0 k s (wrap64 (i + 12))) else (some false))) else (some false))) true := by
     refine Ev.congr (fun k => ?_) h2
     dsimp only [pairStep]; rw [if_pos rfl, high_f]; simp only [Option.bind_some]; rw [if_pos (decide_eq_true cH), w64 (x := i + 6) (by omega) (by omega)]
    by_cases cU2 : isU s s.size (i + 6)
    ·have h4 := Ev.unbind (unit_yes s hz _ cU2) h3
     by_cases cL : isLow (u4 s (i + 6 + 2))
     ·obtain ⟨p1, p2, p3, p4, p5⟩ := cU2
      have key : i + 12 ≤ j ∧ Bod s j (i + 12) := by
       cases e with
       | nil => omega
       | plain _ q1 q2 q3 q4 q5 => exact absurd p3 q3
       | esc _ q1 q2 q3 q4 => unfold isEsc at q3; omega
       | uni _ q1 q2 q3 q4 q5 => exact ⟨by omega, by rwa [show i + 6 + 6 = i + 12 by omega] at q5⟩
      have h5 : Ev (fun k => spec_Paired.l0 k s (i + 12)) true := by
       refine Ev.congr (fun k => ?_) h4
       (try dsimp only); rw [if_pos rfl, low_f]; simp only [Option.bind_some]; rw [if_pos (decide_eq_true cL), w64 (by omega) (by omega)]
      obtain ⟨o, ho, hl⟩ := ih (i + 12) (by omega) (by omega) key.2 h5
      have := enc_length (65536 + (u4 s (i + 2) - 55296) * 1024 + (u4 s (i + 8) - 56320))
      refine ⟨_, .pair i o hUj ⟨⟨p1, by omega, p3, p4, p5⟩, cH, ?_⟩ ho, by simp; omega⟩
      rwa [show i + 6 + 2 = i + 8 by omega] at cL
     ·exfalso
      have h5 : Ev (fun _ => some false) true := by
       refine Ev.congr (fun k => ?_) h4
       (try dsimp only); rw [if_pos rfl, low_f]; simp only [Option.bind_some]; rw [if_neg (by simpa using cL)]
      exact absurd (Ev.one h5 (Ev.now false)) (by simp)
    ·exfalso
     have h4 := Ev.unbind (unit_no s hz _ (by omega) cU2) h3
     have h5 : Ev (fun _ => some false) true := by
      refine Ev.congr (fun k => ?_) h4
      (try dsimp only); rw [if_neg (by simp)]
     exact absurd (Ev.one h5 (Ev.now false)) (by simp)
   ·by_cases cL : isLow (u4 s (i + 2))
    ·exfalso
     have h5 : Ev (fun _ => some false) true := by
      refine Ev.congr (fun k => ?_) h2
      dsimp only [pairStep]; rw [if_pos rfl, high_f]; simp only [Option.bind_some]; rw [if_neg (by simpa using cH), low_f]; simp only [Option.bind_some]; rw [if_pos (decide_eq_true cL)]
     exact absurd (Ev.one h5 (Ev.now false)) (by simp)
    ·have h3 : Ev (fun k => spec_Paired.l0 k s (i + 6)) true := by
      refine Ev.congr (fun k => ?_) h2
      dsimp only [pairStep]; rw [if_pos rfl, high_f]; simp only [Option.bind_some]; rw [if_neg (by simpa using cH), low_f]; simp only [Option.bind_some]; rw [if_neg (by simpa using cL), w64 (by omega) (by omega)]
     obtain ⟨o, ho, hl⟩ := ih (i + 6) (by omega) (by omega) e h3
     have := enc_length (u4 s (i + 2))
     exact ⟨_, .uni i o hUj cH cL ho, by simp; omega⟩
theorem bt_extract' (s : ByteArray) (a b : Nat) (i x : Int) (h : x = a + i) (h0 : 0 ≤ i) (h1 : a + i < b) (h2 : b ≤ s.size) : bt (s.extract a b) i = bt s x := by rw [h]; exact bt_extract s a b i h0 h1 h2
theorem isU.shift {s : ByteArray} {j i : Int} {a : Nat} (hj : j ≤ s.size) (h : isU s j i) (ha : (a : Int) ≤ i) : isU (s.extract a j.toNat) ((s.extract a j.toNat).size : Int) (i - a) ∧ u4 (s.extract a j.toNat) (i - a + 2) = u4 s (i + 2) := by
 obtain ⟨h0, h1, h2, h3, h4⟩ := h
 have e : ((s.extract a j.toNat).size : Int) = j - a := by rw [ByteArray.size_extract]; omega
 have hb : ∀ x, i ≤ x → x < i + 6 → bt (s.extract a j.toNat) (x - a) = bt s x := fun x q0 q1 => bt_extract' s a j.toNat (x - a) x (by omega) (by omega) (by omega) (by omega)
 refine ⟨⟨by omega, by omega, by rw [hb i (by omega) (by omega)]; exact h2, ?_, fun x y z => ?_⟩, ?_⟩
 ·have := hb (i + 1) (by omega) (by omega)
  rw [show i + 1 - a = i - a + 1 by omega] at this
  rw [this]; exact h3
 ·have := hb (x + a) (by omega) (by omega)
  rw [show x + a - a = x by omega] at this
  rw [this]; exact h4 _ (by omega) (by omega)
 ·have e0 := hb (i + 2) (by omega) (by omega)
  have e1 := hb (i + 3) (by omega) (by omega)
  have e2 := hb (i + 4) (by omega) (by omega)
  have e3 := hb (i + 5) (by omega) (by omega)
  unfold u4 hd
  rw [show i - a + 2 = i + 2 - a by omega, show i + 2 - a + 1 = i + 3 - a by omega, show i + 2 - a + 2 = i + 4 - a by omega, show i + 2 - a + 3 = i + 5 - a by omega, show i + 2 + 1 = i + 3 by omega, show i + 2 + 2 = i + 4 by omega, show i + 2 + 3 = i + 5 by omega, e0, e1, e2, e3]
theorem PDec.shift {s : ByteArray} {j : Int} {a : Nat} (hj : j ≤ s.size) {i : Int} {o : List Int} (h : PDec s j i o) : (a : Int) ≤ i → PDec (s.extract a j.toNat) ((s.extract a j.toNat).size : Int) (i - a) o := by
 induction h with
 | nil =>
  intro ha
  have e : ((s.extract a j.toNat).size : Int) = j - a := by rw [ByteArray.size_extract]; omega
  rw [e]; exact .nil
 | plain i o h0 h1 h2 h3 h4 h5 ih =>
  intro ha
  have e : ((s.extract a j.toNat).size : Int) = j - a := by rw [ByteArray.size_extract]; omega
  have b0 := bt_extract' s a j.toNat (i - a) i (by omega) (by omega) (by omega) (by omega)
  have := ih (by omega)
  rw [show i + 1 - a = i - a + 1 by omega] at this
  have q := PDec.plain (s := s.extract a j.toNat) (i - a) o (by omega) (by omega) (by rw [b0]; exact h2) (by rw [b0]; exact h3) (by rw [b0]; exact h4) this
  rwa [b0] at q
 | esc i o h0 h1 h2 h3 h4 ih =>
  intro ha
  have e : ((s.extract a j.toNat).size : Int) = j - a := by rw [ByteArray.size_extract]; omega
  have b0 := bt_extract' s a j.toNat (i - a) i (by omega) (by omega) (by omega) (by omega)
  have b1 := bt_extract' s a j.toNat (i - a + 1) (i + 1) (by omega) (by omega) (by omega) (by omega)
  have := ih (by omega)
  rw [show i + 2 - a = i - a + 2 by omega] at this
  have q := PDec.esc (s := s.extract a j.toNat) (i - a) o (by omega) (by omega) (by rw [b0]; exact h2) (by rw [b1]; exact h3) this
  rwa [b1] at q
 | uni i o h0 h1 h2 h3 ih =>
  intro ha
  obtain ⟨hU, hu⟩ := h0.shift hj ha
  have := ih (by omega)
  rw [show i + 6 - a = i - a + 6 by omega] at this
  have q := PDec.uni (s := s.extract a j.toNat) (i - a) o hU (by rw [hu]; exact h1) (by rw [hu]; exact h2) this
  rwa [hu] at q
 | pair i o h0 h1 h2 ih =>
  intro ha
  obtain ⟨hU, hu⟩ := h0.shift hj ha
  obtain ⟨hU2, hu2⟩ := h1.1.shift (a := a) hj (by omega)
  have := ih (by omega)
  rw [show i + 12 - a = i - a + 12 by omega] at this
  rw [show i + 6 - a = i - a + 6 by omega] at hU2 hu2
  rw [show i - a + 6 + 2 = i - a + 8 by omega, show i + 6 + 2 = i + 8 by omega] at hu2
  have q := PDec.pair (s := s.extract a j.toNat) (i - a) o hU ⟨hU2, by rw [hu]; exact h1.2.1, by rw [hu2]; exact h1.2.2⟩ this
  rwa [hu, hu2] at q
theorem char_l0 (s : ByteArray) (hz : s.size ≤ 65536) (p m least : Int) (h0 : 0 ≤ p) (hm : 1 ≤ m ∧ m ≤ 3) (hs : m < (s.size : Int) - p) : ∀ (d : Nat) (x c : Int), 1 ≤ x → x + d = m + 1 → 0 ≤ c → (x = 1 → c ≤ 32) → (x = 2 → c ≤ 3000) → (x = 3 → c ≤ 200000) → (x = 4 → c ≤ 20000000) → ∃ r : Int × Int × Bool, Ev (fun k => spec_Character.l0 k s p c m least x) r ∧ 1 ≤ r.2.1 ∧ r.2.1 ≤ 4 := by
 intro d
 induction d with
 | zero =>
  intro x c hx hd hc b1 b2 b3 b4
  by_cases c1 : c < least
  ·exact ⟨_, Ev.step (f := fun _ => some (65533, 1, false)) (fun k => by simp only [spec_Character.l0]; rw [if_neg (by omega), if_pos c1]) (Ev.now _), by simp, by simp⟩
  by_cases c2 : c > 1114111
  ·exact ⟨_, Ev.step (f := fun _ => some (65533, 1, false)) (fun k => by simp only [spec_Character.l0]; rw [if_neg (by omega), if_neg c1, if_pos c2]) (Ev.now _), by simp, by simp⟩
  by_cases c3 : isHigh c
  ·exact ⟨_, Ev.step (f := fun _ => some (65533, 1, false)) (fun k => by simp only [spec_Character.l0]; rw [if_neg (by omega), if_neg c1, if_neg c2, high_f]; simp only [Option.bind_some]; rw [if_pos (decide_eq_true c3)]) (Ev.now _), by simp, by simp⟩
  by_cases c4 : isLow c
  ·exact ⟨_, Ev.step (f := fun _ => some (65533, 1, false)) (fun k => by simp only [spec_Character.l0]; rw [if_neg (by omega), if_neg c1, if_neg c2, high_f]; simp only [Option.bind_some]; rw [if_neg (by simpa using c3), low_f]; simp only [Option.bind_some]; rw [if_pos (decide_eq_true c4)]) (Ev.now _), by simp, by simp⟩
  ·exact ⟨_, Ev.step (f := fun _ => some (c, m + 1, true)) (fun k => by simp only [spec_Character.l0]; rw [if_neg (by omega), if_neg c1, if_neg c2, high_f]; simp only [Option.bind_some]; rw [if_neg (by simpa using c3), low_f]; simp only [Option.bind_some]; rw [if_neg (by simpa using c4), w64 (by omega) (by omega)]) (Ev.now _), by simp; omega, by simp; omega⟩
 | succ d ih =>
  intro x c hx hd hc b1 b2 b3 b4
  have hb := bt_range s (p + x)
  have hs1 : ∀ k, spec_Character.l0 (k + 1) s p c m least x = (if bt s (p + x) < 128 then (some (65533, 1, false)) else (if bt s (p + x) > 191 then (some (65533, 1, false)) else (spec_Character.l0 k s p (c * 64 + bt s (p + x) - 128) m least (x + 1)))) := fun k => by
   simp only [spec_Character.l0]
   rw [if_pos (by omega), w64 (x := p + x) (by omega) (by omega), if_pos (by omega), if_pos (by omega), w64 (x := bt s (p + x)) (by omega) (by omega), w64 (x := c * 64) (by omega) (by omega), w64 (x := c * 64 + bt s (p + x)) (by omega) (by omega), w64 (x := c * 64 + bt s (p + x) - 128) (by omega) (by omega), w64 (x := x + 1) (by omega) (by omega)]
  by_cases c1 : bt s (p + x) < 128
  ·exact ⟨_, Ev.step (f := fun _ => some (65533, 1, false)) (fun k => by rw [hs1, if_pos c1]) (Ev.now _), by simp, by simp⟩
  by_cases c2 : bt s (p + x) > 191
  ·exact ⟨_, Ev.step (f := fun _ => some (65533, 1, false)) (fun k => by rw [hs1, if_neg c1, if_pos c2]) (Ev.now _), by simp, by simp⟩
  obtain ⟨r, hr, hr2⟩ := ih (x + 1) (c * 64 + bt s (p + x) - 128) (by omega) (by omega) (by omega) (by omega) (by omega) (by omega) (by omega)
  exact ⟨r, Ev.step (fun k => by rw [hs1, if_neg c1, if_neg c2]) hr, hr2⟩
theorem char_j2 (s : ByteArray) (hz : s.size ≤ 65536) (p m least c : Int) (h0 : 0 ≤ p) (h1 : p < s.size) (hm : 1 ≤ m ∧ m ≤ 3) (hc : 0 ≤ c ∧ c ≤ 32) : ∃ r : Int × Int × Bool, Ev (fun k => spec_Character.j2 k s p c m least) r ∧ 1 ≤ r.2.1 ∧ r.2.1 ≤ 4 := by
 by_cases h : (s.size : Int) - p ≤ m
 ·exact ⟨_, Ev.step (f := fun _ => some (65533, 1, false)) (fun k => by simp only [spec_Character.j2]; rw [w64 (by omega) (by omega), if_pos h]) (Ev.now _), by simp, by simp⟩
 ·obtain ⟨r, hr, hr2⟩ := char_l0 s hz p m least h0 hm (by omega) m.toNat 1 c (by omega) (by omega) hc.1 (by omega) (by omega) (by omega) (by omega)
  exact ⟨r, Ev.step (fun k => by simp only [spec_Character.j2]; rw [w64 (by omega) (by omega), if_neg h]) hr, hr2⟩
theorem char_ev (s : ByteArray) (hz : s.size ≤ 65536) (p : Int) (h0 : 0 ≤ p) (h1 : p < s.size) : ∃ r : Int × Int × Bool, Ev (fun k => spec_Character.f k s p) r ∧ 1 ≤ r.2.1 ∧ r.2.1 ≤ 4 := by
 have hb := bt_range s p
 have hw : wrap64 (bt s p) = bt s p := w64 (by omega) (by omega)
 have no : ∀ g : Nat → Option (Int × Int × Bool), Ev g (65533, 1, false) → ∃ r : Int × Int × Bool, Ev g r ∧ 1 ≤ r.2.1 ∧ r.2.1 ≤ 4 := fun g h => ⟨_, h, by simp, by simp⟩
 by_cases c1 : bt s p < 128
 ·exact ⟨_, Ev.congr (f := fun _ => some (bt s p, 1, true)) (fun k => by simp only [spec_Character.f]; rw [if_pos h0, if_pos h1, hw, if_pos c1]) (Ev.now _), by simp, by simp⟩
 have hf : ∀ k, spec_Character.f k s p = (if 194 ≤ bt s p then (spec_Character.j0 k s p (bt s p) (decide (bt s p ≤ 223))) else (spec_Character.j0 k s p (bt s p) false)) := fun k => by
  simp only [spec_Character.f]; rw [if_pos h0, if_pos h1, hw, if_neg c1]
 by_cases c2 : 194 ≤ bt s p ∧ bt s p ≤ 223
 ·obtain ⟨r, hr, hr2⟩ := char_j2 s hz p 1 128 (bt s p - 192) h0 h1 (by omega) (by omega)
  refine ⟨r, Ev.congr (f := fun k => spec_Character.j0 k s p (bt s p) true) (fun k => by rw [hf, if_pos c2.1, decide_eq_true c2.2]) (Ev.step (fun k => ?_) hr), hr2⟩
  simp only [spec_Character.j0, if_true]; rw [w64 (by omega) (by omega)]
 have hf2 : ∀ k, spec_Character.f k s p = spec_Character.j0 k s p (bt s p) false := fun k => by
  rw [hf]
  by_cases q : 194 ≤ bt s p
  ·rw [if_pos q, decide_eq_false (by omega)]
  ·rw [if_neg q]
 by_cases c3 : 224 ≤ bt s p ∧ bt s p ≤ 239
 ·obtain ⟨r, hr, hr2⟩ := char_j2 s hz p 2 2048 (bt s p - 224) h0 h1 (by omega) (by omega)
  refine ⟨r, Ev.congr hf2 (Ev.step (f := fun k => spec_Character.j1 k s p (bt s p) true) (fun k => ?_) (Ev.step (fun k => ?_) hr)), hr2⟩
  ·simp only [spec_Character.j0, Bool.false_eq_true, if_false]; rw [if_pos c3.1, decide_eq_true c3.2]
  ·simp only [spec_Character.j1, if_true]; rw [w64 (by omega) (by omega)]
 have hj0 : ∀ k, spec_Character.j0 (k + 1) s p (bt s p) false = spec_Character.j1 k s p (bt s p) false := fun k => by
  simp only [spec_Character.j0, Bool.false_eq_true, if_false]
  by_cases q : 224 ≤ bt s p
  ·rw [if_pos q, decide_eq_false (by omega)]
  ·rw [if_neg q]
 by_cases c4 : 240 ≤ bt s p ∧ bt s p ≤ 244
 ·obtain ⟨r, hr, hr2⟩ := char_j2 s hz p 3 65536 (bt s p - 240) h0 h1 (by omega) (by omega)
  refine ⟨r, Ev.congr hf2 (Ev.step hj0 (Ev.step (fun k => ?_) hr)), hr2⟩
  simp only [spec_Character.j1, Bool.false_eq_true, if_false]; rw [if_pos c4.1, if_pos c4.2, w64 (by omega) (by omega)]
 refine no _ (Ev.congr hf2 (Ev.step hj0 (Ev.step (f := fun _ => some (65533, 1, false)) (fun k => ?_) (Ev.now _))))
 simp only [spec_Character.j1, Bool.false_eq_true, if_false]
 by_cases q : 240 ≤ bt s p
 ·rw [if_pos q, if_neg (by omega)]
 ·rw [if_neg q]
theorem utf8_ev (s : ByteArray) (hz : s.size ≤ 65536) : ∀ (n : Nat) (p : Int), 0 ≤ p → p ≤ 100000 → (s.size : Int) - p < n → ∃ b, Ev (fun k => spec_UTF8.l0 k s p) b := by
 intro n
 induction n with
 | zero =>
  intro p h0 h1 h2
  exact ⟨true, Ev.step (f := fun _ => some true) (fun k => by simp only [spec_UTF8.l0]; rw [if_neg (by omega)]) (Ev.now _)⟩
 | succ n ih =>
  intro p h0 h1 h2
  by_cases hp : p < (s.size : Int)
  ·obtain ⟨⟨a, m, b⟩, hr, hm1, hm2⟩ := char_ev s hz p h0 hp
   dsimp only at hm1 hm2
   cases b with
   | false =>
    refine ⟨false, Ev.step (f := fun k => (spec_Character.f k s p).bind fun t => (if t.2.2 = true then (spec_UTF8.l0 k s (wrap64 (p + t.2.1))) else (some false))) (fun k => ?_) (Ev.bind hr (Ev.congr (fun k => ?_) (Ev.now _)))⟩
    ·simp only [spec_UTF8.l0]; rw [if_pos hp]
    ·simp
   | true =>
    obtain ⟨b, hb⟩ := ih (p + m) (by omega) (by omega) (by omega)
    refine ⟨b, Ev.step (f := fun k => (spec_Character.f k s p).bind fun t => (if t.2.2 = true then (spec_UTF8.l0 k s (wrap64 (p + t.2.1))) else (some false))) (fun k => ?_) (Ev.bind hr (Ev.congr (fun k => ?_) hb))⟩
    ·simp only [spec_UTF8.l0]; rw [if_pos hp]
    ·(try dsimp only); rw [if_pos rfl, w64 (by omega) (by omega)]
  ·exact ⟨true, Ev.step (f := fun _ => some true) (fun k => by simp only [spec_UTF8.l0]; rw [if_neg hp]) (Ev.now _)⟩
end Go.Proofs.YtgiioglmkogpkaaGreatDoor.L
namespace Go.Proofs.YtgiioglmkogpkaaGreatDoor.F
open Go.RowKit Go.Proofs.YtgiioglmkogpkaaGreatDoorW.PrintWords Go.Proofs.YtgiioglmkogpkaaGreatDoorW.PrintLast Go.Proofs.YtgiioglmkogpkaaGreatDoorW.PrintMore
open M L
set_option maxHeartbeats 8000000
set_option maxRecDepth 8192
def putL (xs : List Int) : Nat → List Int → List Int
 | _, [] => xs
 | k, b :: r => putL (xs.set k b) (k + 1) r
theorem putL_take (l : List Int) : ∀ (xs : List Int) (k : Nat), k + l.length ≤ xs.length → (putL xs k l).take (k + l.length) = xs.take k ++ l := by
 induction l with
 | nil => intro xs k h; simp [putL]
 | cons b r ih =>
  intro xs k h
  simp only [List.length_cons] at h
  simp only [putL, List.length_cons]
  rw [show k + (r.length + 1) = k + 1 + r.length by omega, ih (xs.set k b) (k + 1) (by simp; omega)]
  rw [List.take_succ_eq_append_getElem (by simp; omega)]
  simp
  rw [List.take_set_of_le (Nat.le_refl _)]
section
variable {w : World} {base g m cap : Nat}
theorem own_wr (l : List Int) : ∀ {w : World} {xs : List Int} (k : Nat), w.ownsRow base 5 1 (.slice (some ⟨g, 0, none⟩) m cap) m (nums .u8 xs) → (wrL w g k l).ownsRow base 5 1 (.slice (some ⟨g, 0, none⟩) m cap) m (nums .u8 (putL xs k l)) := by
 induction l with
 | nil => intro w xs k h; exact h
 | cons b r ih =>
  intro w xs k h
  simp only [wrL, putL]
  refine ih (k + 1) ?_
  have := (own_store h (k : Int) b).1
  rwa [Int.toNat_natCast] at this
theorem below_wr (l : List Int) : ∀ {w0 w : World} (k : Nat), Below w0.heap.size w0 w → w0.heap.size ≤ g → Below w0.heap.size w0 (wrL w g k l) := by
 induction l with
 | nil => intro w0 w k h _; exact h
 | cons b r ih => intro w0 w k h hg; exact ih (k + 1) (below_set h hg) hg
theorem own_take {e : TypeId} {xs : List Int} {n : Nat} (h : w.ownsRow base e 1 (.slice (some ⟨g, 0, none⟩) n cap) n (nums .u8 xs)) (j : Nat) (hj : j ≤ n) : w.ownsRow base e 1 (.slice (some ⟨g, 0, none⟩) j cap) j (nums .u8 (xs.take j)) := by
 obtain ⟨h1, h2⟩ := h
 refine ⟨by simp [nums] at h1 ⊢; omega, ?_⟩
 rcases h2 with ⟨h2, _⟩ | ⟨g', cap', cur, h3, h4, h5, h6, h7, h8, h9⟩
 ·cases h2
 ·simp only [Value.slice.injEq, Option.some.injEq, Addr.mk.injEq, true_and, and_true] at h3
  obtain ⟨rfl, rfl⟩ := h3
  refine .inr ⟨g, cap, cur, rfl, h4, h5, by omega, h7, h8, ?_⟩
  have := congrArg (List.take j) h9
  rw [List.take_take] at this
  rw [show min j (n * 1) = j * 1 by omega] at this
  rw [this]
  simp [nums, List.map_take]
theorem own_block {e : TypeId} {xs : List Value} {n : Nat} (h : w.ownsRow base e 1 (.slice (some ⟨g, 0, none⟩) n cap) n xs) : base ≤ g ∧ n ≤ cap ∧ ∀ i, w.frozen? ⟨g, i, none⟩ = false := by
 obtain ⟨h1, h2⟩ := h
 rcases h2 with ⟨h2, _⟩ | ⟨g', cap', cur, h3, h4, h5, h6, h7, h8, h9⟩
 ·cases h2
 ·simp only [Value.slice.injEq, Option.some.injEq, Addr.mk.injEq, true_and, and_true] at h3
  obtain ⟨rfl, rfl⟩ := h3
  exact ⟨h4, h6, fun i => blk_frozen h5 i⟩
end
theorem zeros_cell {w : World} {base g cap : Nat} {pre : List Int} {n : Nat} (hn : pre.length = n) (h : w.ownsRow base 5 1 (.slice (some ⟨g, 0, none⟩) (n + 8) cap) (n + 8) (nums .u8 (pre ++ [0, 0, 0, 0, 0, 0, 0, 0]))) (j : Nat) (hj : j < 8) : w.cell? ⟨g, n + j, none⟩ = some (.int .u8 0) := by
 have := (own_at h ((n + j : Nat) : Int) (by omega) (by omega)).1
 rw [Int.toNat_natCast] at this
 rw [this]
 unfold rd
 rw [Int.toNat_natCast, List.getD_eq_getElem?_getD, List.getElem?_append_right (by omega)]
 have : n + j - pre.length = j := by omega
 rw [this]
 have hj' : j = 0 ∨ j = 1 ∨ j = 2 ∨ j = 3 ∨ j = 4 ∨ j = 5 ∨ j = 6 ∨ j = 7 := by omega
 rcases hj' with rfl | rfl | rfl | rfl | rfl | rfl | rfl | rfl <;> rfl
theorem runeit_at (s : ByteArray) (p q : Int) (hq : q = p + 2) (hz : s.size ≤ 65536) (h0 : 0 ≤ p) (h1 : p + 6 ≤ s.size) (h4 : hex4 s (p + 2)) :
  ∀ W, Calls Tryz.prog 93 #[.string (s.extract q.toNat s.size)] W fun e w' => e = .returned (.int .i32 (u4 s (p + 2))) ∧ Below W.heap.size W w' := by
 intro W
 subst hq
 have hb : ∀ x : Int, 0 ≤ x → x < 4 → bt (s.extract (p + 2).toNat s.size) x = bt s (p + 2 + x) := fun x a b => bt_extract' s _ _ x _ (by omega) a (by omega) (by omega)
 have e1 : u4 (s.extract (p + 2).toNat s.size) 0 = u4 s (p + 2) := by
  unfold u4 L.hd
  rw [hb 0 (by omega) (by omega), hb (0 + 1) (by omega) (by omega), hb (0 + 2) (by omega) (by omega), hb (0 + 3) (by omega) (by omega)]
  simp
 rw [← e1]
 exact runeit_calls _ W (by rw [ByteArray.size_extract]; omega) (by rw [ByteArray.size_extract]; omega) (fun x a b => by rw [hb x a (by omega)]; exact h4 _ (by omega) (by omega))
theorem own_below {w w2 : World} {base : Nat} {e : TypeId} {size : Nat} {v : Value} {n : Nat} {xs : List Value} (h : w.ownsRow base e size v n xs) (hb : Below w.heap.size w w2) : w2.ownsRow base e size v n xs := by
 obtain ⟨h1, h2⟩ := h
 refine ⟨h1, ?_⟩
 rcases h2 with h2 | ⟨g, cap, cur, h3, h4, h5, h6⟩
 ·exact .inl h2
 ·exact .inr ⟨g, cap, cur, h3, h4, (hb.block g (blk_lt h5)).trans h5, h6⟩
def z8 : List Int := [0, 0, 0, 0, 0, 0, 0, 0]
section
variable {ops : Array Oper} {rest : List Oper} {o : Oper} {a : Act} {Q : Exit → Act → World → Prop}
theorem zero_append {w0 : World} (W : World) (hgd : o.guard = none) (s x : Operand)
  (ho : o.op = .call { callee := .builtin .append, args := #[s, x], argTypes := #[103, 103] })
  (v : Value) (pre : List Int) (n : Nat) (hn : pre.length = n) (hs : a.eval s = v) (hx : a.eval x = .slice (some ⟨W.heap.size, 0, none⟩) 8 8)
  (HO : W.ownsRow w0.heap.size 5 1 v pre.length (nums .u8 pre)) (HB : Below w0.heap.size w0 W) (hl : n ≤ 100000)
  (h : ∀ g cap w1, w1.ownsRow w0.heap.size 5 1 (.slice (some ⟨g, 0, none⟩) (n + 8) cap) (n + 8) (nums .u8 (pre ++ z8)) → Below w0.heap.size w0 w1 → wpList Tryz.prog ops Q rest (a.put o.dst (.slice (some ⟨g, 0, none⟩) (n + 8) cap)) w1) :
  wpList Tryz.prog ops Q (o :: rest) a (W.alloc (.cells #[.int .u8 0, .int .u8 0, .int .u8 0, .int .u8 0, .int .u8 0, .int .u8 0, .int .u8 0, .int .u8 0] 5)) := by
 obtain ⟨i0, hi, hzz⟩ := Option.map_eq_some_iff.1 info5
 simp only [Prod.mk.injEq] at hzz
 obtain ⟨hz0, hz1, hz2⟩ := hzz
 subst hn
 refine wpList_append_own_at (W.alloc (.cells #[.int .u8 0, .int .u8 0, .int .u8 0, .int .u8 0, .int .u8 0, .int .u8 0, .int .u8 0, .int .u8 0] 5)) hgd s x 103 ho w0.heap.size 5 i0 (.int .u8 0) 1 1 Tryz.underlying103 hi hz0 hz1 hz2 rfl (by omega) v pre.length (nums .u8 pre) hs (HO.alloc _) ⟨W.heap.size, 0, none⟩ 8 8 (nums .u8 z8) hx rfl
  (World.news_of_block (cs := #[.int .u8 0, .int .u8 0, .int .u8 0, .int .u8 0, .int .u8 0, .int .u8 0, .int .u8 0, .int .u8 0]) (t := 5) (fr := (0, 0)) (heap_alloc_new W _)) (by intro u hu; simp [nums, z8] at hu; subst hu; rfl) (by simp only [maxLen]; omega) (by omega) (by have := HB.size; simp; omega) ?_
 intro v1 w1 hown hg _ hat
 have hown' : w1.ownsRow w0.heap.size 5 1 v1 (pre.length + 8) (nums .u8 (pre ++ z8)) := by
  have : nums .u8 (pre ++ z8) = nums .u8 pre ++ nums .u8 z8 := by simp [nums]
  rw [this]; exact hown
 obtain ⟨g, cap, rfl, _, _⟩ := hown'.form (by omega)
 exact h g cap w1 hown' ((HB.alloc HB.size _).grown hg (by have := HB.size; simp; omega) (own_base HO))
end
theorem size5 : (Tryz.prog.info? 5).map (·.size) = some 1 := by kernel_rfl
theorem cut8 (g n cap : Nat) (h : n + 8 ≤ cap) (W : World) : (Instr.slice 103 (.slice (some ⟨g, 0, none⟩) (n + 8) cap) (some (.int .i64 (n : Int))) none none).run Tryz.prog W = .ok (.slice (some ⟨g, n, none⟩) 8 (cap - n)) W := by
 obtain ⟨i, hi, hsz⟩ := Option.map_eq_some_iff.1 size5
 have hel : Tryz.prog.elem 103 = 5 := by simp [Program.elem, Tryz.underlying103]
 have hu : Tryz.prog.underlying 103 = some (.slice (Tryz.prog.elem 103)) := by rw [hel]; exact Tryz.underlying103
 rw [run_slice_l W 103 (some ⟨g, 0, none⟩) (n + 8) cap hu .i64 (n : Int) (Int.natCast_nonneg _) (by omega), hel]
 have hne : ¬ cap = n := by omega
 have ha : (⟨g, 0, none⟩ : Addr).add n = ⟨g, n, none⟩ := by rw [add_plain]
 simp [sizeOf, typeInfo, hi, hsz, sliced, Result.andThen, hne, ha]
theorem cutm (g n m cap : Nat) (h : n + m ≤ cap) (W : World) : (Instr.slice 103 (.slice (some ⟨g, 0, none⟩) (n + 8) cap) none (some (.int .i64 ((n : Int) + (m : Int)))) none).run Tryz.prog W = .ok (.slice (some ⟨g, 0, none⟩) (n + m) cap) W := by
 obtain ⟨i, hi, hsz⟩ := Option.map_eq_some_iff.1 size5
 have hel : Tryz.prog.elem 103 = 5 := by simp [Program.elem, Tryz.underlying103]
 have hu : Tryz.prog.underlying 103 = some (.slice (Tryz.prog.elem 103)) := by rw [hel]; exact Tryz.underlying103
 rw [run_slice_h W 103 (some ⟨g, 0, none⟩) (n + 8) cap hu .i64 ((n : Int) + m) (by omega) (by omega), hel]
 have ha : (⟨g, 0, none⟩ : Addr).add 0 = ⟨g, 0, none⟩ := rfl
 have e : ((n : Int) + (m : Int)).toNat = n + m := by omega
 simp [sizeOf, typeInfo, hi, hsz, sliced, Result.andThen, ha, e]
theorem own_enc {w1 : World} {base g n cap : Nat} {pre l : List Int} (hn : pre.length = n) (hl : l.length ≤ 8) (h : w1.ownsRow base 5 1 (.slice (some ⟨g, 0, none⟩) (n + 8) cap) (n + 8) (nums .u8 (pre ++ z8))) :
  (wrL w1 g n l).ownsRow base 5 1 (.slice (some ⟨g, 0, none⟩) (n + l.length) cap) (pre ++ l).length (nums .u8 (pre ++ l)) := by
 have h1 := own_take (own_wr l n h) (n + l.length) (by omega)
 rw [putL_take l (pre ++ z8) n (by simp [z8]; omega)] at h1
 have e : List.take n (pre ++ z8) = pre := by rw [← hn]; simp
 rw [e] at h1
 rw [List.length_append, hn]
 exact h1
def UnPost (o : List Int) (w : World) (e : Ending) (w' : World) : Prop := e = .returned (.string (strOfNums o)) ∧ Below w.heap.size w w'
theorem unescape_calls (s : ByteArray) (hz : s.size ≤ 65536) (hp : 0 < s.size) (o : List Int) (h : PDec s s.size 0 o) (hl : o.length ≤ 65536) (w : World) :
  Calls Tryz.prog 70 #[.string s] w (UnPost o w) := by
 have HP := Aside0.mk h
 have HL := Aside0.mk hl
 have hbt := bt_at s
 clear h hl
 have hown : ∀ v n (xs : List Int) W, W.ownsRow w.heap.size 5 1 v n (nums .u8 xs) → (convert 103 9 v).run Tryz.prog W = .ok (.string (strOfNums xs)) W := fun v n xs W H => own_string Tryz.underlying103 Tryz.underlying5 Tryz.underlying9 H
 obtain ⟨i0, hi0, hzz⟩ := Option.map_eq_some_iff.1 info5
 simp only [Prod.mk.injEq] at hzz
 obtain ⟨hz0, hz1, hz2⟩ := hzz
 obtain ⟨W, hmk, hO, hG⟩ := run_make_own (P := Tryz.prog) w w.heap.size 103 5 i0 (.int .u8 0) 1 Tryz.underlying103 hi0 hz0 hz1 .i64 .i64 s.size (by rw [hz2]; omega) (by simp only [maxLen]; omega) (Nat.le_refl _)
 clear hi0 hz0 hz1 hz2
 have hB : Below w.heap.size w W := (Below.refl _ _).grown hG (Nat.le_refl _) (by simp)
 have HO := Aside0.mk (show W.ownsRow w.heap.size 5 1 (.slice (some ⟨w.heap.size, 0, none⟩) 0 s.size) ([] : List Int).length (nums .u8 []) from hO)
 have HB := Aside0.mk hB
 clear hO hG hB
 go_enter Tryz.func70, Tryz.ntmps70
 go_wp2_with fail
 go_loopg [2, 3, 4, 5, 6] s.size (fun kq v2 v3 v4 v5 v6 w' => ∃ (i : Int) (pre o' : List Int), v2 = .string ⟨#[]⟩ ∧ v4 = .int .i64 i ∧ (0 ≤ i ∧ i ≤ s.size) ∧ (kq : Int) + i = s.size ∧ Aside0 (PDec s s.size i o') ∧ Aside0 (pre ++ o' = o) ∧ Aside0 (w'.ownsRow w.heap.size 5 1 v3 pre.length (nums .u8 pre)) ∧ Aside0 (Below w.heap.size w w'))
 case atStart => exact ⟨0, [], o, rfl, rfl, by omega, by omega, HP, ⟨rfl⟩, HO, HB⟩
 case round =>
  clear hmk HO HB HP
  obtain ⟨i, pre, o', rfl, rfl, hi, hk, HP, HE, HO, HB⟩ := hrel
  obtain ⟨x, hx⟩ : ∃ x, x = bt s i := ⟨_, rfl⟩
  have hxb : ∀ h : i.toNat < s.size, ((s[i.toNat]'h).toNat : Int) = x := fun h => by rw [hx]; exact bt_at s i h
  have hx0 : 0 ≤ x ∧ x ≤ 255 := by rw [hx]; exact bt_range s i
  have h0i : 0 ≤ i := hi.1
  clear hbt
  have HLP : pre.length ≤ 65536 := by
   have := HL.out
   rw [← HE.out, List.length_append] at this
   omega
  cases HP.out with
  | nil =>
   have hcv := hown _ _ _ _ HO.out
   have he := HE.out
   rw [List.append_nil] at he
   have HE2 := Aside0.mk he
   clear he hown hxb hx HE
   go_wp2_with fail
   go_ret
   exact ⟨by first | rfl | (rw [HE2.out]; rfl), HB.out⟩
  | plain _ o2 q1 q2 q3 q4 q5 q6 =>
   have x1 : decide (x < 32) = false := decide_eq_false (by rw [hx]; omega)
   have x2 : (x == 92) = false := beq_eq_false_iff_ne.mpr (by rw [hx]; exact q3)
   have q6' := Aside0.mk q6
   have HX := Aside0.mk hx
   clear q3 q4 q5 q6 hx hown
   go_wp2_with (at_builtin; refine print_append_num (w0 := w) w.heap.size rfl (.tmp 16) (.tmp 20) 103 5 .u8 1 rfl Tryz.underlying103 info5 (by decide) u3 pre _ rfl rfl HO.out HB.out HB.out.size (by omega) ?_; intro v1 w1 hown1 hB1 hg1 hat1; have HO1 := Aside0.mk hown1; have HB1 := Aside0.mk hB1; clear hown1 hB1 hg1 hat1)
   go_roundg (gk - 1)
   case measure => omega
   case rel => exact ⟨_, pre ++ [x], o2, rfl, rfl, by omega, by omega, q6', ⟨by rw [← HE.out, HX.out, List.append_assoc]; rfl⟩, HO1, HB1⟩
  | esc _ o2 q1 q2 q3 q4 q5 =>
   obtain ⟨y, hy⟩ : ∃ y, y = bt s (i + 1) := ⟨_, rfl⟩
   have hyb : ∀ h : (i + 1).toNat < s.size, ((s[(i + 1).toNat]'h).toNat : Int) = y := fun h => by rw [hy]; exact bt_at s (i + 1) h
   obtain rfl : x = 92 := hx.trans q3
   rw [← hy] at q4
   have HY := Aside0.mk hy
   have q5' := Aside0.mk q5
   clear q3 q5 hx hy hown
   rcases q4 with rfl | rfl | rfl | rfl | rfl | rfl | rfl | rfl
   ·go_wp2_with (at_builtin; refine print_append_num (w0 := w) w.heap.size rfl (.tmp 84) (.tmp 85) 103 5 .u8 1 rfl Tryz.underlying103 info5 (by decide) u3 pre _ rfl rfl HO.out HB.out HB.out.size (by omega) ?_; intro v1 w1 hown1 hB1 hg1 hat1; have HO1 := Aside0.mk hown1; have HB1 := Aside0.mk hB1; clear hown1 hB1 hg1 hat1)
    go_roundg (gk - 2)
    case measure => omega
    case rel => exact ⟨_, pre ++ [34], o2, rfl, rfl, by omega, by omega, by first | exact q5' | exact ⟨by have := q5'.out; rwa [show i + 2 = i + 1 + 1 by omega] at this⟩, ⟨by rw [← HE.out, ← HY.out, List.append_assoc]; rfl⟩, HO1, HB1⟩
   ·go_wp2_with (at_builtin; refine print_append_num (w0 := w) w.heap.size rfl (.tmp 49) (.tmp 50) 103 5 .u8 1 rfl Tryz.underlying103 info5 (by decide) u3 pre _ rfl rfl HO.out HB.out HB.out.size (by omega) ?_; intro v1 w1 hown1 hB1 hg1 hat1; have HO1 := Aside0.mk hown1; have HB1 := Aside0.mk hB1; clear hown1 hB1 hg1 hat1)
    go_roundg (gk - 2)
    case measure => omega
    case rel => exact ⟨_, pre ++ [92], o2, rfl, rfl, by omega, by omega, by first | exact q5' | exact ⟨by have := q5'.out; rwa [show i + 2 = i + 1 + 1 by omega] at this⟩, ⟨by rw [← HE.out, ← HY.out, List.append_assoc]; rfl⟩, HO1, HB1⟩
   ·go_wp2_with (at_builtin; refine print_append_num (w0 := w) w.heap.size rfl (.tmp 54) (.tmp 55) 103 5 .u8 1 rfl Tryz.underlying103 info5 (by decide) u3 pre _ rfl rfl HO.out HB.out HB.out.size (by omega) ?_; intro v1 w1 hown1 hB1 hg1 hat1; have HO1 := Aside0.mk hown1; have HB1 := Aside0.mk hB1; clear hown1 hB1 hg1 hat1)
    go_roundg (gk - 2)
    case measure => omega
    case rel => exact ⟨_, pre ++ [47], o2, rfl, rfl, by omega, by omega, by first | exact q5' | exact ⟨by have := q5'.out; rwa [show i + 2 = i + 1 + 1 by omega] at this⟩, ⟨by rw [← HE.out, ← HY.out, List.append_assoc]; rfl⟩, HO1, HB1⟩
   ·go_wp2_with (at_builtin; refine print_append_num (w0 := w) w.heap.size rfl (.tmp 59) (.tmp 60) 103 5 .u8 1 rfl Tryz.underlying103 info5 (by decide) u3 pre _ rfl rfl HO.out HB.out HB.out.size (by omega) ?_; intro v1 w1 hown1 hB1 hg1 hat1; have HO1 := Aside0.mk hown1; have HB1 := Aside0.mk hB1; clear hown1 hB1 hg1 hat1)
    go_roundg (gk - 2)
    case measure => omega
    case rel => exact ⟨_, pre ++ [8], o2, rfl, rfl, by omega, by omega, by first | exact q5' | exact ⟨by have := q5'.out; rwa [show i + 2 = i + 1 + 1 by omega] at this⟩, ⟨by rw [← HE.out, ← HY.out, List.append_assoc]; rfl⟩, HO1, HB1⟩
   ·go_wp2_with (at_builtin; refine print_append_num (w0 := w) w.heap.size rfl (.tmp 64) (.tmp 65) 103 5 .u8 1 rfl Tryz.underlying103 info5 (by decide) u3 pre _ rfl rfl HO.out HB.out HB.out.size (by omega) ?_; intro v1 w1 hown1 hB1 hg1 hat1; have HO1 := Aside0.mk hown1; have HB1 := Aside0.mk hB1; clear hown1 hB1 hg1 hat1)
    go_roundg (gk - 2)
    case measure => omega
    case rel => exact ⟨_, pre ++ [12], o2, rfl, rfl, by omega, by omega, by first | exact q5' | exact ⟨by have := q5'.out; rwa [show i + 2 = i + 1 + 1 by omega] at this⟩, ⟨by rw [← HE.out, ← HY.out, List.append_assoc]; rfl⟩, HO1, HB1⟩
   ·go_wp2_with (at_builtin; refine print_append_num (w0 := w) w.heap.size rfl (.tmp 69) (.tmp 70) 103 5 .u8 1 rfl Tryz.underlying103 info5 (by decide) u3 pre _ rfl rfl HO.out HB.out HB.out.size (by omega) ?_; intro v1 w1 hown1 hB1 hg1 hat1; have HO1 := Aside0.mk hown1; have HB1 := Aside0.mk hB1; clear hown1 hB1 hg1 hat1)
    go_roundg (gk - 2)
    case measure => omega
    case rel => exact ⟨_, pre ++ [10], o2, rfl, rfl, by omega, by omega, by first | exact q5' | exact ⟨by have := q5'.out; rwa [show i + 2 = i + 1 + 1 by omega] at this⟩, ⟨by rw [← HE.out, ← HY.out, List.append_assoc]; rfl⟩, HO1, HB1⟩
   ·go_wp2_with (at_builtin; refine print_append_num (w0 := w) w.heap.size rfl (.tmp 74) (.tmp 75) 103 5 .u8 1 rfl Tryz.underlying103 info5 (by decide) u3 pre _ rfl rfl HO.out HB.out HB.out.size (by omega) ?_; intro v1 w1 hown1 hB1 hg1 hat1; have HO1 := Aside0.mk hown1; have HB1 := Aside0.mk hB1; clear hown1 hB1 hg1 hat1)
    go_roundg (gk - 2)
    case measure => omega
    case rel => exact ⟨_, pre ++ [13], o2, rfl, rfl, by omega, by omega, by first | exact q5' | exact ⟨by have := q5'.out; rwa [show i + 2 = i + 1 + 1 by omega] at this⟩, ⟨by rw [← HE.out, ← HY.out, List.append_assoc]; rfl⟩, HO1, HB1⟩
   ·go_wp2_with (at_builtin; refine print_append_num (w0 := w) w.heap.size rfl (.tmp 79) (.tmp 80) 103 5 .u8 1 rfl Tryz.underlying103 info5 (by decide) u3 pre _ rfl rfl HO.out HB.out HB.out.size (by omega) ?_; intro v1 w1 hown1 hB1 hg1 hat1; have HO1 := Aside0.mk hown1; have HB1 := Aside0.mk hB1; clear hown1 hB1 hg1 hat1)
    go_roundg (gk - 2)
    case measure => omega
    case rel => exact ⟨_, pre ++ [9], o2, rfl, rfl, by omega, by omega, by first | exact q5' | exact ⟨by have := q5'.out; rwa [show i + 2 = i + 1 + 1 by omega] at this⟩, ⟨by rw [← HE.out, ← HY.out, List.append_assoc]; rfl⟩, HO1, HB1⟩
  | uni _ o2 q1 q2 q3 q4 =>
   obtain ⟨u0, u1, u2, u3', u4'⟩ := q1
   obtain rfl : x = 92 := hx.trans u2
   have hRU := runeit_at s i (i + 1 + 1) (by omega) hz u0 u1 u4'
   have hyb : ∀ h : (i + 1).toNat < s.size, ((s[(i + 1).toNat]'h).toNat : Int) = 117 := fun h => by rw [← u3']; exact bt_at s (i + 1) h
   have hr := u4_range s (i + 2)
   have HQ4 := Aside0.mk q4
   have HRU := Aside0.mk hRU
   have HNS := Aside0.mk (And.intro q2 q3)
   clear q2 q3 q4 hRU hx u2 u3' u4'
   obtain ⟨r, hrr⟩ : ∃ r, r = u4 s (i + 2) := ⟨_, rfl⟩
   rw [← hrr] at HRU HNS hr
   have HR := Aside0.mk hrr
   clear hrr hown
   go_wp2_with fail
   refine (HRU.out _).mono ?_
   rintro e w2 ⟨rfl, hb2⟩
   go_wp2_with fail
   refine (isSurr_no _ _ HNS.out.1 HNS.out.2).mono ?_
   rintro e w3 ⟨rfl, rfl⟩
   have HO2 := Aside0.mk (own_below HO.out hb2)
   have HB2 := Aside0.mk (HB.out.trans (hb2.mono HB.out.size))
   obtain ⟨n, hn⟩ : ∃ n, n = pre.length := ⟨_, rfl⟩
   have HN := Aside0.mk hn.symm
   rw [← hn] at HLP
   clear hn hb2 HO HB
   go_wp2_with (at_builtin; refine zero_append (w0 := w) _ rfl (.tmp 132) (.tmp 133) rfl u3 pre n HN.out rfl rfl HO2.out HB2.out (by omega) ?_; intro g cap w1 hown1 hB1; have HO1 := Aside0.mk hown1; have HB1 := Aside0.mk hB1; have hcut := cut8 g n cap (own_block hown1).2.1; clear hown1 hB1)
   refine (enc_calls r g n 8 (cap - n) _ (by omega) (by omega) HNS.out (by omega) (zeros_cell HN.out HO1.out 0 (by omega)) (zeros_cell HN.out HO1.out 1 (by omega)) (zeros_cell HN.out HO1.out 2 (by omega)) (zeros_cell HN.out HO1.out 3 (by omega)) (own_block HO1.out).2.2).mono ?_
   rintro e w4 ⟨rfl, rfl⟩
   have HO3 := Aside0.mk (own_enc HN.out (show (enc r).length ≤ 8 by have := (enc_length r).2; omega) HO1.out)
   have HB3 := Aside0.mk (below_wr (enc r) n HB1.out (own_block HO1.out).1)
   have hm := enc_length r
   have hcut2 := cutm g n (enc r).length cap (by have := (own_block HO1.out).2.1; omega)
   have HEQ := Aside0.mk (show (pre ++ enc r) ++ o2 = o by rw [List.append_assoc, HR.out]; exact HE.out)
   clear HO1 HB1 hcut
   generalize enc r = l at *
   obtain ⟨W5, hW5⟩ : ∃ W5, W5 = wrL w1 g n l := ⟨_, rfl⟩
   rw [← hW5] at HO3 HB3 ⊢
   clear hW5
   go_wp2_with fail
   go_roundg (gk - 6)
   case measure => omega
   case rel => exact ⟨_, pre ++ l, o2, rfl, rfl, by omega, by omega, by first | exact HQ4 | exact ⟨by have := HQ4.out; rwa [show i + 6 = i + 1 + 5 by omega] at this⟩, HEQ, HO3, HB3⟩
  | pair _ o2 q1 q2 q3 =>
   obtain ⟨u0, u1, u2, u3', u4'⟩ := q1
   obtain ⟨⟨v0, v1, v2, v3, v4⟩, qH, qL⟩ := q2
   obtain rfl : x = 92 := hx.trans u2
   have hRU := runeit_at s i (i + 1 + 1) (by omega) hz u0 u1 u4'
   have hRV := runeit_at s (i + 6) (i + 1 + 5 + 2) (by omega) hz v0 v1 v4
   rw [show i + 6 + 2 = i + 8 by omega] at hRV
   have hyb : ∀ h : (i + 1).toNat < s.size, ((s[(i + 1).toNat]'h).toNat : Int) = 117 := fun h => by rw [← u3']; exact bt_at s (i + 1) h
   have hyc : ∀ h : (i + 1 + 5).toNat < s.size, ((s[(i + 1 + 5).toNat]'h).toNat : Int) = 92 := fun h => by rw [← v2, show i + 6 = i + 1 + 5 by omega]; exact bt_at s (i + 1 + 5) h
   have hyd : ∀ h : (i + 1 + 5 + 1).toNat < s.size, ((s[(i + 1 + 5 + 1).toNat]'h).toNat : Int) = 117 := fun h => by rw [← v3, show i + 6 + 1 = i + 1 + 5 + 1 by omega]; exact bt_at s (i + 1 + 5 + 1) h
   have hr := u4_range s (i + 2)
   have hr2 := u4_range s (i + 8)
   have HQ4 := Aside0.mk q3
   have HRU := Aside0.mk hRU
   have HRV := Aside0.mk hRV
   have HNS := Aside0.mk (And.intro qH qL)
   clear q3 qH qL hRU hRV hx u2 u3' u4' v0 v2 v3 v4
   obtain ⟨r1, hrr⟩ : ∃ r, r = u4 s (i + 2) := ⟨_, rfl⟩
   obtain ⟨r2, hrr2⟩ : ∃ r, r = u4 s (i + 8) := ⟨_, rfl⟩
   have HE' := HE.out
   rw [← hrr, ← hrr2] at HE'
   rw [← hrr] at HRU HNS hr
   rw [← hrr2] at HRV HNS hr2
   have HR := Aside0.mk HE'
   clear hrr hrr2 hown HE HE'
   go_wp2_with fail
   refine (HRU.out _).mono ?_
   rintro e w2 ⟨rfl, hb2⟩
   go_wp2_with fail
   refine (isSurr_yes _ _ (.inl HNS.out.1)).mono ?_
   rintro e w3 ⟨rfl, rfl⟩
   go_wp2_with fail
   refine (HRV.out _).mono ?_
   rintro e w3 ⟨rfl, hb3⟩
   go_wp2_with fail
   refine (decRune_calls _ _ _ HNS.out.1 HNS.out.2).mono ?_
   rintro e w4 ⟨rfl, rfl⟩
   obtain ⟨r, hr⟩ : ∃ r, r = 65536 + (r1 - 55296) * 1024 + (r2 - 56320) := ⟨_, rfl⟩
   rw [← hr] at HR ⊢
   have hrb : 65536 ≤ r ∧ r ≤ 1114111 := by
    have a := HNS.out.1
    have b := HNS.out.2
    unfold isHigh at a
    unfold isLow at b
    omega
   have hrn : ¬ isHigh r ∧ ¬ isLow r := by unfold isHigh isLow; omega
   have HRN := Aside0.mk hrn
   clear hr hrn
   have HO2 := Aside0.mk (own_below (own_below HO.out hb2) hb3)
   have HB2 := Aside0.mk ((HB.out.trans (hb2.mono HB.out.size)).trans (hb3.mono (Nat.le_trans HB.out.size hb2.size)))
   obtain ⟨n, hn⟩ : ∃ n, n = pre.length := ⟨_, rfl⟩
   have HN := Aside0.mk hn.symm
   rw [← hn] at HLP
   clear hn hb2 hb3 HO HB
   go_wp2_with (at_builtin; refine zero_append (w0 := w) _ rfl (.tmp 132) (.tmp 133) rfl u3 pre n HN.out rfl rfl HO2.out HB2.out (by omega) ?_; intro g cap w1 hown1 hB1; have HO1 := Aside0.mk hown1; have HB1 := Aside0.mk hB1; have hcut := cut8 g n cap (own_block hown1).2.1; clear hown1 hB1)
   refine (enc_calls r g n 8 (cap - n) _ (by omega) (by omega) HRN.out (by omega) (zeros_cell HN.out HO1.out 0 (by omega)) (zeros_cell HN.out HO1.out 1 (by omega)) (zeros_cell HN.out HO1.out 2 (by omega)) (zeros_cell HN.out HO1.out 3 (by omega)) (own_block HO1.out).2.2).mono ?_
   rintro e w4 ⟨rfl, rfl⟩
   have HO3 := Aside0.mk (own_enc HN.out (show (enc r).length ≤ 8 by have := (enc_length r).2; omega) HO1.out)
   have HB3 := Aside0.mk (below_wr (enc r) n HB1.out (own_block HO1.out).1)
   have hm := enc_length r
   have hcut2 := cutm g n (enc r).length cap (by have := (own_block HO1.out).2.1; omega)
   have HEQ := Aside0.mk (show (pre ++ enc r) ++ o2 = o by rw [List.append_assoc]; exact HR.out)
   clear HO1 HB1 hcut HR
   generalize enc r = l at *
   obtain ⟨W5, hW5⟩ : ∃ W5, W5 = wrL w1 g n l := ⟨_, rfl⟩
   rw [← hW5] at HO3 HB3 ⊢
   clear hW5
   go_wp2_with fail
   go_roundg (gk - 12)
   case measure => omega
   case rel => exact ⟨_, pre ++ l, o2, rfl, rfl, by omega, by omega, by first | exact HQ4 | exact ⟨by have := HQ4.out; rwa [show i + 12 = i + 1 + 5 + 6 by omega] at this⟩, HEQ, HO3, HB3⟩
end Go.Proofs.YtgiioglmkogpkaaGreatDoor.F
namespace Go.Proofs.YtgiioglmkogpkaaGreatDoor.F
open Go.RowKit Go.Proofs.YtgiioglmkogpkaaGreatDoorW.PrintWords Go.Proofs.YtgiioglmkogpkaaGreatDoorW.PrintLast Go.Proofs.YtgiioglmkogpkaaGreatDoorW.PrintMore
open M L
set_option maxHeartbeats 8000000
set_option maxRecDepth 8192
def rn (s : ByteArray) : Nat → Nat
 | 0 => 0
 | k + 1 => if k = 0 then 0 else if bt s k = 92 then rn s k + 1 else 0
theorem rn_one (s : ByteArray) : rn s 1 = 0 := by simp [rn]
theorem rn_yes (s : ByteArray) (k : Nat) (h : 1 ≤ k) (hb : bt s k = 92) : rn s (k + 1) = rn s k + 1 := by
 simp only [rn]; rw [if_neg (by omega), if_pos hb]
theorem rn_no (s : ByteArray) (k : Nat) (hb : bt s k ≠ 92) : rn s (k + 1) = 0 := by
 simp only [rn]
 by_cases h : k = 0
 ·rw [if_pos h]
 ·rw [if_neg h, if_neg hb]
theorem hexv_range2 {x : Int} (h : (hexv x).isSome = true) : x ≠ 34 ∧ x ≠ 92 := by
 constructor <;> (rintro rfl; simp [hexv] at h)
theorem bod_runs {s : ByteArray} {j : Int} {p : Int} (h : Bod s j p) : 1 ≤ p → rn s p.toNat % 2 = 0 → ∀ i : Int, p ≤ i → i ≤ j → bt s i = 34 → (i < j ∧ rn s i.toNat % 2 = 1) ∨ (i = j ∧ rn s i.toNat % 2 = 0) := by
 have cast : ∀ q : Int, 0 ≤ q → bt s (q.toNat : Int) = bt s q := fun q h => by rw [Int.toNat_of_nonneg h]
 induction h with
 | nil =>
  intro h1 h2 i h3 h4 h5
  obtain rfl : i = j := by omega
  exact .inr ⟨rfl, h2⟩
 | plain p a b c d e ih =>
  intro h1 h2 i h3 h4 h5
  by_cases hi : i = p
  ·subst hi; exact absurd h5 b
  ·refine ih (by omega) ?_ i (by omega) h4 h5
   have e1 : (p + 1).toNat = p.toNat + 1 := by omega
   rw [e1, rn_no s _ (by rw [cast p (by omega)]; exact c)]
 | esc p a b c d ih =>
  intro h1 h2 i h3 h4 h5
  have e1 : (p + 1).toNat = p.toNat + 1 := by omega
  have e2 : (p + 2).toNat = (p + 1).toNat + 1 := by omega
  have r1 : rn s (p + 1).toNat = rn s p.toNat + 1 := by rw [e1, rn_yes s _ (by omega) (by rw [cast p (by omega)]; exact b)]
  by_cases hi : i = p
  ·subst hi; omega
  by_cases hi2 : i = p + 1
  ·subst hi2; exact .inl ⟨by omega, by omega⟩
  ·refine ih (by omega) ?_ i (by omega) h4 h5
   by_cases hy : bt s (p + 1) = 92
   ·rw [e2, rn_yes s _ (by omega) (by rw [cast (p + 1) (by omega)]; exact hy)]; omega
   ·rw [e2, rn_no s _ (by rw [cast (p + 1) (by omega)]; exact hy)]
 | uni p a b c d e ih =>
  intro h1 h2 i h3 h4 h5
  by_cases hi : i < p + 6
  ·exfalso
   by_cases i0 : i = p
   ·subst i0; omega
   by_cases i1 : i = p + 1
   ·subst i1; omega
   ·exact (hexv_range2 (d i (by omega) (by omega))).1 h5
  ·refine ih (by omega) ?_ i (by omega) h4 h5
   have e1 : (p + 6).toNat = (p + 5).toNat + 1 := by omega
   rw [e1, rn_no s _ (by rw [cast (p + 5) (by omega)]; exact (hexv_range2 (d (p + 5) (by omega) (by omega))).2)]
abbrev bO (s : ByteArray) : List Int := Go.Proofs.YtgiioglmkogpkaaGreatDoorW.PrintWords.bytesOf s
theorem str_bytes (s : ByteArray) : strOfNums (bO s) = s := by
 unfold bO Go.Proofs.YtgiioglmkogpkaaGreatDoorW.PrintWords.bytesOf
 exact Go.Lib.Lz.strOfNums_map _
theorem pdec_plain {t : ByteArray} {i : Int} {o : List Int} (h : PDec t t.size i o) : (∀ k, i ≤ k → k < t.size → bt t k ≠ 92) → 0 ≤ i → o = (bO t).drop i.toNat := by
 induction h with
 | nil =>
  intro _ _
  have e : (t.size : Int).toNat = (bO t).length := by rw [bytesOf_length]; omega
  rw [e, List.drop_length]
 | plain i o a b c d e f ih =>
  intro hn h0
  have hi := ih (fun k q1 q2 => hn k (by omega) q2) (by omega)
  have hlt : i.toNat < (bO t).length := by rw [bytesOf_length]; omega
  rw [List.drop_eq_getElem_cons hlt, hi, show (i + 1).toNat = i.toNat + 1 by omega]
  congr 1
  have := rd_bytesOf t i
  unfold rd at this
  rw [List.getD_eq_getElem?_getD, List.getElem?_eq_getElem hlt] at this
  exact this.symm
 | esc i o a b c d e f => intro hn h0; exact absurd c (hn i (by omega) (by omega))
 | uni i o a b c d e => intro hn h0; exact absurd a.2.2.1 (hn i (by omega) (by have := a.2.1; omega))
 | pair i o a b c d => intro hn h0; exact absurd a.2.2.1 (hn i (by omega) (by have := a.2.1; omega))
theorem rn_zero (s : ByteArray) (i : Nat) (h : ∀ k : Int, 1 ≤ k → k < i → bt s k ≠ 92) : rn s i = 0 := by
 cases i with
 | zero => rfl
 | succ k =>
  by_cases hk : k = 0
  ·subst hk; exact rn_one s
  ·exact rn_no s k (h k (by omega) (by omega))
def TsPost (s : ByteArray) (o : List Int) (w : World) (e : Ending) (w' : World) : Prop := e = .returned (.tuple #[.string s, .string (strOfNums o)]) ∧ Below w.heap.size w w'
theorem tostr_calls (s : ByteArray) (j : Nat) (hz : s.size ≤ 65536) (hj : s.size = j + 1) (hj1 : 1 ≤ j) (h34 : bt s j = 34) (hB : Bod s j 1) (o : List Int) (hd : PDec (s.extract 1 j) (s.extract 1 j).size 0 o) (hl : o.length ≤ 65536) (w : World) :
  Calls Tryz.prog 68 #[.string s] w (TsPost s o w) := by
 have hruns := bod_runs hB (by omega) (by rw [show (1 : Int).toNat = 1 from rfl, rn_one])
 have hbt := bt_at s
 have hts : (s.extract 1 j).size = j - 1 := by rw [ByteArray.size_extract]; omega
 have hfull : s.extract 0 (j + 1) = s := by rw [← hj]; exact ByteArray.extract_zero_size
 have HR := Aside0.mk hruns
 have HJ := Aside0.mk hj
 have HF := Aside0.mk hfull
 have H34 := Aside0.mk h34
 have HD := Aside0.mk hd
 have HTS := Aside0.mk hts
 clear hruns hB hj hfull h34 hd hts
 have hsz : (j : Int) < s.size := by have := HJ.out; omega
 go_enter Tryz.func68, Tryz.ntmps68
 go_wp2_with fail
 go_loopg [2, 3, 4, 5, 6, 7] j (fun kq v2 v3 v4 v5 v6 v7 w' => ∃ i : Int, v2 = .string ⟨#[]⟩ ∧ v3 = .string ⟨#[]⟩ ∧ v4 = .int .i64 i ∧ (1 ≤ i ∧ i ≤ j) ∧ kq + i = j + 1 ∧ Aside0 (∀ k : Int, 1 ≤ k → k < i → bt s k ≠ 92) ∧ w = w')
 case atStart => exact ⟨1, rfl, rfl, rfl, by omega, by omega, ⟨fun k a b => by omega⟩, rfl⟩
 case round =>
  obtain ⟨i, rfl, rfl, rfl, hi, hk, HN, rfl⟩ := hrel
  obtain ⟨x, hx⟩ : ∃ x, x = bt s i := ⟨_, rfl⟩
  have hxb : ∀ h : i.toNat < s.size, ((s[i.toNat]'h).toNat : Int) = x := fun h => by rw [hx]; exact bt_at s i h
  have hx0 : 0 ≤ x ∧ x ≤ 255 := by rw [hx]; exact bt_range s i
  clear hbt
  by_cases hij : i = j
  ·have x34 : x = 34 := by rw [hx, hij]; exact H34.out
   have x1 : decide (x > 92) = false := decide_eq_false (by omega)
   have x2 : (x == 34) = true := beq_iff_eq.mpr x34
   have ho : strOfNums o = s.extract 1 i.toNat := by
    have := pdec_plain HD.out (fun k a b => by
     rw [bt_extract' s 1 j k (1 + k) (by omega) a (by have := HTS.out; omega) (by have := HJ.out; omega)]
     exact HN.out _ (by omega) (by have := HTS.out; omega)) (by omega)
    rw [this, hij]
    exact str_bytes _
   have HOO := Aside0.mk (show Ending.returned (.tuple #[.string (s.extract 0 (i + 1).toNat), .string (s.extract 1 i.toNat)]) = .returned (.tuple #[.string s, .string (strOfNums o)]) by
    rw [ho, show (i + 1).toNat = j + 1 by omega, HF.out])
   have hi1 : i + 1 ≤ s.size := by have := HJ.out; omega
   have hw : IntKind.i64.wrap (i + 1) = i + 1 := by rw [IntKind.wrap_i64]; omega
   have hp1 : 0 ≤ i + 1 := by omega
   have hp2 : 1 ≤ i := hi.1
   have hp3 : i ≤ s.size := by omega
   clear ho x34 hx hij
   go_wp2_with fail
   go_quiet (fail)
   go_wp2_with fail
   go_ret2
   exact ⟨HOO.out, Drawn0.below ⟨_, rfl⟩⟩
  ·have hlt : i < (j : Int) := by omega
   have hw1 : i + 1 ≤ s.size := by omega
   by_cases x92 : x = 92
   ·subst x92
    clear hx hij
    go_wp2_with fail
    go_loopg [2, 3, 4, 5, 6] j (fun kq v2 v3 v4 v5 v6 w' => ∃ m : Int, v2 = .string ⟨#[]⟩ ∧ v3 = .string ⟨#[]⟩ ∧ v4 = .int .i64 m ∧ (2 ≤ m ∧ m ≤ j) ∧ (j : Int) + 1 ≤ kq + m ∧ w = w')
    case atStart => exact ⟨i + 1, rfl, rfl, rfl, by omega, by omega, rfl⟩
    case round =>
     obtain ⟨m, rfl, rfl, rfl, hm, hkm, rfl⟩ := hrel
     obtain ⟨y, hy⟩ : ∃ y, y = bt s m := ⟨_, rfl⟩
     have hyb : ∀ h : m.toNat < s.size, ((s[m.toNat]'h).toNat : Int) = y := fun h => by rw [hy]; exact bt_at s m h
     have hy0 : 0 ≤ y ∧ y ≤ 255 := by rw [hy]; exact bt_range s m
     by_cases y34 : y = 34
     ·obtain ⟨z, hz2⟩ : ∃ z, z = bt s (m - 1) := ⟨_, rfl⟩
      have hzb : ∀ h : (m - 1).toNat < s.size, ((s[(m - 1).toNat]'h).toNat : Int) = z := fun h => by rw [hz2]; exact bt_at s (m - 1) h
      have hQ := HR.out m (by omega) hm.2 (by rw [← hy]; exact y34)
      have hzb2 : ∀ h : m.toNat - 1 < s.size, ((s[m.toNat - 1]'h).toNat : Int) = z := fun h => by rw [hz2]; have q := bt_at s (m - 1) (by omega); rw [← q]; congr 2; congr 1; omega
      have hm1 : 0 ≤ m - 1 := by omega
      have hm1' : 1 ≤ m := by omega
      have hm2 : m - 1 < s.size := by omega
      have hm3 : m < s.size := by omega
      have e1 : m.toNat = (m - 1).toNat + 1 := by omega
      have e2 : ((m - 1).toNat : Int) = m - 1 := by omega
      subst y34
      by_cases z92 : z = 92
      ·have hrn : rn s m.toNat = rn s (m - 1).toNat + 1 := by
        rw [e1]; exact rn_yes s _ (by omega) (by rw [e2, ← hz2]; exact z92)
       rw [hrn] at hQ
       have HQ := Aside0.mk hQ
       subst z92
       clear hy hz2 e1 e2 hrn hQ
       go_wp2_with fail
       obtain ⟨g2, rfl⟩ : ∃ g2, g2 = gk := ⟨_, rfl⟩
       go_loopg [5, 6] j (fun kq v5 v6 w' => ∃ (n : Nat) (q : Nat), v5 = .int .i64 (n : Int) ∧ v6 = .int .i64 (q : Int) ∧ ((q : Int) ≤ m - 2 ∧ n ≤ 65536) ∧ q ≤ kq ∧ n + q ≤ j ∧ Aside0 (n + rn s (q + 1) = rn s (m - 1).toNat) ∧ w = w')
       case atStart =>
        refine ⟨0, (m - 2).toNat, rfl, congrArg (Value.int .i64) (by omega), by omega, by omega, by omega, ⟨?_⟩, rfl⟩
        rw [Nat.zero_add, show (m - 2).toNat + 1 = (m - 1).toNat by omega]
       case round =>
        obtain ⟨n, q, rfl, rfl, hnq, hqk, hnj, HE, rfl⟩ := hrel
        by_cases q0 : 0 < q
        ·obtain ⟨v, hv⟩ : ∃ v, v = bt s q := ⟨_, rfl⟩
         have hvb : ∀ h : q < s.size, ((s[q]'h).toNat : Int) = v := fun h => by rw [hv]; exact bt_at s (q : Int) h
         have q0' : (0 : Int) < q := by omega
         by_cases v92 : v = 92
         ·have HE2 := Aside0.mk (show n + 1 + rn s (q - 1 + 1) = rn s (m - 1).toNat by
           have := HE.out
           rw [rn_yes s q (by omega) (by rw [← hv]; exact v92)] at this
           rw [show q - 1 + 1 = q by omega]; omega)
          have vb : (v != 92) = false := bne_eq_false_iff_eq.mpr v92
          clear v92 hv
          go_wp2_with fail
          go_roundg (gk - 1)
          case measure => omega
          case rel => exact ⟨n + 1, q - 1, congrArg (Value.int .i64) (by omega), congrArg (Value.int .i64) (by omega), by omega, by omega, by omega, HE2, rfl⟩
         ·have EEE := Aside0.mk (show n = rn s (m - 1).toNat by
           have := HE.out
           rw [rn_no s q (by rw [← hv]; exact v92)] at this
           omega)
          have vb : (v != 92) = true := bne_iff_ne.mpr v92
          clear v92 hv
          by_cases hev : n % 2 = 0
          ·have hmj : m < (j : Int) := by
            have hQ := HQ.out
            have e := EEE.out
            rcases hQ with ⟨h1, h2⟩ | ⟨h1, h2⟩ <;> omega
           have hn2b : ((n : Int) % 2 == 0) = true := beq_iff_eq.mpr (by omega)
           clear hev
           go_wp2_with fail
           go_roundg (g2 - 1)
           case measure => omega
           case rel => exact ⟨m + 1, rfl, rfl, rfl, by omega, by omega, rfl⟩
          ·have hn2b : ((n : Int) % 2 == 0) = false := beq_eq_false_iff_ne.mpr (by omega)
           have hQ := HQ.out
           have e := EEE.out
           rw [← e] at hQ
           have hmj : m = (j : Int) := by
            rcases hQ with ⟨h1, h2⟩ | ⟨h1, h2⟩
            ·omega
            ·exact h1
           have HUN := Aside0.mk (show ∀ W, Calls Tryz.prog 70 #[.string (s.extract 1 m.toNat)] W (UnPost o W) from fun W => by
            rw [show m.toNat = j by omega]
            exact unescape_calls _ (by have := HTS.out; omega) (by have := HTS.out; omega) o HD.out hl W)
           have HEND := Aside0.mk (show Ending.returned (.tuple #[.string (s.extract 0 (m + 1).toNat), .string (strOfNums o)]) = .returned (.tuple #[.string s, .string (strOfNums o)]) by
            rw [show (m + 1).toNat = j + 1 by omega, HF.out])
           have hw : IntKind.i64.wrap (m + 1) = m + 1 := by rw [IntKind.wrap_i64]; omega
           have hp1 : 0 ≤ m + 1 := by omega
           have hp2 : 1 ≤ m := by omega
           have hp3 : m ≤ s.size := by omega
           have hp4 : m + 1 ≤ s.size := by have := HJ.out; omega
           clear hQ e hev hmj
           go_wp2_with fail
           go_region_with (go_at_call 70; refine (HUN.out _).mono ?_; rintro e w2 ⟨rfl, hb⟩; have HB2 := Aside0.mk hb; clear hb)
           all_goals go_wp2_with fail
           all_goals go_ret2
           all_goals exact ⟨HEND.out, by repeat (first | exact HB2.out | exact Below.trans (Below.drew (Below.refl _ _)) HB2.out | exact below_d HB2.out | apply pw_below_drewN | apply below_drew1)⟩
        ·obtain rfl : q = 0 := by omega
         have EEE := Aside0.mk (show n = rn s (m - 1).toNat by
          have := HE.out
          rw [Nat.zero_add, rn_one] at this
          omega)
         by_cases hev : n % 2 = 0
         ·have hmj : m < (j : Int) := by
           have hQ := HQ.out
           have e := EEE.out
           rcases hQ with ⟨h1, h2⟩ | ⟨h1, h2⟩ <;> omega
          have hn2b : ((n : Int) % 2 == 0) = true := beq_iff_eq.mpr (by omega)
          clear hev
          go_wp2_with fail
          go_roundg (g2 - 1)
          case measure => omega
          case rel => exact ⟨m + 1, rfl, rfl, rfl, by omega, by omega, rfl⟩
         ·have hn2b : ((n : Int) % 2 == 0) = false := beq_eq_false_iff_ne.mpr (by omega)
          have hQ := HQ.out
          have e := EEE.out
          rw [← e] at hQ
          have hmj : m = (j : Int) := by
           rcases hQ with ⟨h1, h2⟩ | ⟨h1, h2⟩
           ·omega
           ·exact h1
          have HUN := Aside0.mk (show ∀ W, Calls Tryz.prog 70 #[.string (s.extract 1 m.toNat)] W (UnPost o W) from fun W => by
           rw [show m.toNat = j by omega]
           exact unescape_calls _ (by have := HTS.out; omega) (by have := HTS.out; omega) o HD.out hl W)
          have HEND := Aside0.mk (show Ending.returned (.tuple #[.string (s.extract 0 (m + 1).toNat), .string (strOfNums o)]) = .returned (.tuple #[.string s, .string (strOfNums o)]) by
           rw [show (m + 1).toNat = j + 1 by omega, HF.out])
          have hw : IntKind.i64.wrap (m + 1) = m + 1 := by rw [IntKind.wrap_i64]; omega
          have hp1 : 0 ≤ m + 1 := by omega
          have hp2 : 1 ≤ m := by omega
          have hp3 : m ≤ s.size := by omega
          have hp4 : m + 1 ≤ s.size := by have := HJ.out; omega
          clear hQ e hev hmj
          go_wp2_with fail
          go_region_with (go_at_call 70; refine (HUN.out _).mono ?_; rintro e w2 ⟨rfl, hb⟩; have HB2 := Aside0.mk hb; clear hb)
          all_goals go_wp2_with fail
          all_goals go_ret2
          all_goals exact ⟨HEND.out, by repeat (first | exact HB2.out | exact Below.trans (Below.drew (Below.refl _ _)) HB2.out | exact below_d HB2.out | apply pw_below_drewN | apply below_drew1)⟩
      ·have hrn : rn s m.toNat = 0 := by
        rw [e1]; exact rn_no s _ (by rw [e2, ← hz2]; exact z92)
       rw [hrn] at hQ
       have hmj : m = (j : Int) := by
        rcases hQ with ⟨h1, h2⟩ | ⟨h1, h2⟩
        ·omega
        ·exact h1
       have HUN := Aside0.mk (show ∀ W, Calls Tryz.prog 70 #[.string (s.extract 1 m.toNat)] W (UnPost o W) from fun W => by
        rw [show m.toNat = j by omega]
        exact unescape_calls _ (by have := HTS.out; omega) (by have := HTS.out; omega) o HD.out hl W)
       have HEND := Aside0.mk (show Ending.returned (.tuple #[.string (s.extract 0 (m + 1).toNat), .string (strOfNums o)]) = .returned (.tuple #[.string s, .string (strOfNums o)]) by
        rw [show (m + 1).toNat = j + 1 by omega, HF.out])
       have hw : IntKind.i64.wrap (m + 1) = m + 1 := by rw [IntKind.wrap_i64]; omega
       have hp1 : 0 ≤ m + 1 := by omega
       have hp2 : 1 ≤ m := by omega
       have hp3 : m ≤ s.size := by omega
       have hp4 : m + 1 ≤ s.size := by have := HJ.out; omega
       have zb : (z == 92) = false := beq_eq_false_iff_ne.mpr z92
       clear hQ hmj hy hz2 z92 e1 e2 hrn
       go_wp2_with fail
       go_region_with (go_at_call 70; refine (HUN.out _).mono ?_; rintro e w2 ⟨rfl, hb⟩; have HB2 := Aside0.mk hb; clear hb)
       all_goals go_wp2_with fail
       all_goals go_ret2
       all_goals exact ⟨HEND.out, by repeat (first | exact HB2.out | exact Below.trans (Below.drew (Below.refl _ _)) HB2.out | exact below_d HB2.out | apply pw_below_drewN | apply below_drew1)⟩
     ·have y34b : (y == 34) = false := beq_eq_false_iff_ne.mpr y34
      have hml : m < (j : Int) := by
       by_cases q : m = j
       ·exact absurd (by rw [hy, q]; exact H34.out) y34
       ·omega
      clear hy y34
      go_wp2_with fail
      all_goals go_roundg (gk - 1)
      all_goals (try (case measure => omega))
      all_goals exact ⟨m + 1, rfl, rfl, rfl, by omega, by omega, rfl⟩
   ·have x34 : x ≠ 34 := fun q => by
     have h1 := HR.out i hi.1 hi.2 (by rw [← hx]; exact q)
     have h2 := rn_zero s i.toNat (fun k a b => HN.out k a (by omega))
     omega
    have y34 : (x == 34) = false := beq_eq_false_iff_ne.mpr x34
    have y92 : (x == 92) = false := beq_eq_false_iff_ne.mpr x92
    have HN2 := Aside0.mk (show ∀ k : Int, 1 ≤ k → k < i + 1 → bt s k ≠ 92 from fun k a b => by
     by_cases hk : k = i
     ·rw [hk, ← hx]; exact x92
     ·exact HN.out k a (by omega))
    clear x34 x92 hx hij
    go_wp2_with fail
    all_goals go_roundg (gk - 1)
    all_goals (try (case measure => omega))
    all_goals exact ⟨i + 1, rfl, rfl, rfl, by omega, by omega, HN2, rfl⟩
end Go.Proofs.YtgiioglmkogpkaaGreatDoor.F
namespace Go.Proofs.YtgiioglmkogpkaaGreatDoor.F
open Go.RowKit Go.Proofs.YtgiioglmkogpkaaGreatDoorW.PrintWords Go.Proofs.YtgiioglmkogpkaaGreatDoorW.PrintLast Go.Proofs.YtgiioglmkogpkaaGreatDoorW.PrintMore
open M L
set_option maxHeartbeats 4000000
theorem NumAt.chars {s : ByteArray} {a b c : Int} (N : NumAt s a b c) : ∀ i : Int, 0 ≤ i → i < s.size → bt s i = 43 ∨ bt s i = 45 ∨ bt s i = 46 ∨ bt s i = 69 ∨ bt s i = 101 ∨ (48 ≤ bt s i ∧ bt s i ≤ 57) := by
 intro i h0 h1
 have h3 := N.ab
 have h4 := N.bc
 by_cases i0 : i < a
 ·rcases N.a0 with h | ⟨h, h'⟩
  ·omega
  ·obtain rfl : i = 0 := by omega
   omega
 by_cases i1 : i < b
 ·have := N.ints i (by omega) i1; omega
 by_cases i2 : i < c
 ·rcases N.frac with h | ⟨h, h', h''⟩
  ·omega
  ·by_cases e : i = b
   ·rw [e]; omega
   ·have := h'' i (by omega) i2; omega
 ·rcases N.ex with h | ⟨h, d, hd, hd2, hd3⟩
  ·omega
  ·by_cases e : i = c
   ·rw [e]; omega
   ·by_cases e2 : i < d
    ·rcases hd with hd | ⟨hd, hd'⟩
     ·omega
     ·obtain rfl : i = c + 1 := by omega
      omega
    ·have := hd3 i (by omega) h1; omega
def TnPost (s : ByteArray) (w : World) (e : Ending) (w' : World) : Prop := ∃ x : Nat, e = .returned (.tuple #[.string s, .float .f64 x]) ∧ Below w.heap.size w w'
theorem tonum_calls (s : ByteArray) (a b c : Int) (w : World) (hz : s.size ≤ 65536) (N : NumAt s a b c) (T : Tabs w) :
  Calls Tryz.prog 66 #[.string s] w (TnPost s w) := by
 have hbt := bt_at s
 have HC := Aside0.mk N.chars
 have HPF := Aside0.mk (pf_calls s a b c w (by omega) N T)
 have hs0 : 0 < s.size := by rcases N.a0 with h | h <;> (have := N.ab; have := N.bc; have := N.cs; omega)
 clear N T
 go_enter Tryz.func66, Tryz.ntmps66
 go_wp2_with fail
 go_loopg [2, 3, 4] s.size (fun kq v2 v3 v4 w' => ∃ i : Int, v2 = .string ⟨#[]⟩ ∧ v3 = .float .f64 0 ∧ v4 = .int .i64 i ∧ (1 ≤ i ∧ i ≤ s.size) ∧ (s.size : Int) + 1 ≤ kq + i ∧ w = w')
 case atStart => exact ⟨1, rfl, rfl, rfl, by omega, by omega, rfl⟩
 case round =>
  obtain ⟨i, rfl, rfl, rfl, hi, hk, rfl⟩ := hrel
  by_cases hlt : i < s.size
  ·obtain ⟨x, hx⟩ : ∃ x, x = bt s i := ⟨_, rfl⟩
   have hxb : ∀ h : i.toNat < s.size, ((s[i.toNat]'h).toNat : Int) = x := fun h => by rw [hx]; exact bt_at s i h
   have h0i : 0 ≤ i := by omega
   have hch := HC.out i h0i hlt
   rw [← hx] at hch
   have x1 : decide (x ≤ 32) = false := decide_eq_false (by omega)
   have x2 : (x == 44) = false := beq_eq_false_iff_ne.mpr (by omega)
   have x3 : (x == 93) = false := beq_eq_false_iff_ne.mpr (by omega)
   have x4 : (x == 125) = false := beq_eq_false_iff_ne.mpr (by omega)
   clear hbt hx hch
   go_wp2_with fail
   all_goals go_roundg (gk - 1)
   all_goals (try (case measure => omega))
   all_goals exact ⟨i + 1, rfl, rfl, rfl, by omega, by omega, rfl⟩
  ·clear hbt
   go_wp2_with fail
   refine HPF.out.mono ?_
   rintro e w2 ⟨x, v, rfl, hb⟩
   go_wp2_with fail
   go_ret2
   exact ⟨_, rfl, hb⟩
theorem tolit_calls (s : ByteArray) (w : World) (hz : s.size ≤ 65536) (h : ∀ i : Int, 1 ≤ i → i < s.size → 97 ≤ bt s i ∧ bt s i ≤ 122) :
  Calls Tryz.prog 67 #[.string s] w fun e w' => e = .returned (.string s) ∧ w = w' := by
 have hbt := bt_at s
 have HC := Aside0.mk h
 clear h
 go_enter Tryz.func67, Tryz.ntmps67
 go_wp2_with fail
 go_loopg [2, 3] s.size (fun kq v2 v3 w' => ∃ i : Int, v2 = .string ⟨#[]⟩ ∧ v3 = .int .i64 i ∧ 1 ≤ i ∧ (s.size : Int) + 1 ≤ kq + i ∧ w = w')
 case atStart => exact ⟨1, rfl, rfl, by omega, by omega, rfl⟩
 case round =>
  obtain ⟨i, rfl, rfl, hi, hk, rfl⟩ := hrel
  by_cases hlt : i < s.size
  ·obtain ⟨x, hx⟩ : ∃ x, x = bt s i := ⟨_, rfl⟩
   have hxb : ∀ h : i.toNat < s.size, ((s[i.toNat]'h).toNat : Int) = x := fun h => by rw [hx]; exact bt_at s i h
   have h0i : 0 ≤ i := by omega
   have hch := HC.out i hi hlt
   rw [← hx] at hch
   have x1 : decide (x < 97) = false := decide_eq_false (by omega)
   have x2 : decide (x > 122) = false := decide_eq_false (by omega)
   clear hbt hx hch
   go_wp2_with fail
   go_roundg (gk - 1)
   case measure => omega
   case rel => exact ⟨i + 1, rfl, rfl, by omega, by omega, rfl⟩
  ·clear hbt
   go_wp2_with fail
   go_ret
   exact ⟨rfl, rfl⟩
theorem exists_calls (T : Int) (raw str : ByteArray) (x : Nat) (w : World) (h : T ≠ 0 ∨ 0 < raw.size) :
  Calls Tryz.prog 63 #[.agg #[.int .i64 T, .string raw, .string str, .float .f64 x, .int .i64 0, .slice none 0 0]] w fun e w' => e = .returned (.bool true) ∧ Below w.heap.size w w' := by
 by_cases hT : T = 0
 ·have hr : 0 < raw.size := h.resolve_left (fun q => q hT)
  have hT0 : (T != 0) = false := bne_eq_false_iff_eq.mpr hT
  have hr0 : ((raw.size : Int) != 0) = true := bne_iff_ne.mpr (by omega)
  clear hT h hr
  go_enter Tryz.func63, Tryz.ntmps63
  go_wp2_with fail
  go_ret
  exact ⟨rfl, below_alloc (Below.refl _ _) _⟩
 ·have hT0 : (T != 0) = true := bne_iff_ne.mpr hT
  clear hT h
  go_enter Tryz.func63, Tryz.ntmps63
  go_wp2_with fail
  go_ret
  exact ⟨rfl, below_alloc (Below.refl _ _) _⟩
end Go.Proofs.YtgiioglmkogpkaaGreatDoor.F
namespace Go.Proofs.YtgiioglmkogpkaaGreatDoor.F
open Go.RowKit Go.Proofs.YtgiioglmkogpkaaGreatDoorW.PrintWords Go.Proofs.YtgiioglmkogpkaaGreatDoorW.PrintLast Go.Proofs.YtgiioglmkogpkaaGreatDoorW.PrintMore
open M L
set_option maxHeartbeats 8000000
set_option maxRecDepth 8192
theorem run_store_float (P : Program) (w : World) (a : Addr) (m : Mode) (k : FloatKind) (x : Nat) : (store a (.float k x) m).run P w = stored P w a (.float k x) m := run_store P w a _ m rfl
attribute [local go_sem] run_store_float
abbrev res (T : Int) (raw str : ByteArray) (x : Nat) : Value := .agg #[.int .i64 T, .string raw, .string str, .float .f64 x, .int .i64 0, .slice none 0 0]
def PaPost (T : Int) (s str : ByteArray) (w : World) (e : Ending) (w' : World) : Prop := ∃ x : Nat, e = .returned (res T s str x) ∧ Below w.heap.size w w'
noncomputable def paTail : Code := match Tryz.f43.body with
 | some c => tl (tl (tl (tl c)))
 | none => .skip
noncomputable def paLoop : Code := match Tryz.f43.body with
 | some c => (match hd1 (tl (tl (tl c))) with
  | .block _ c => c
  | c => c)
 | none => .skip
structure Two (w W : World) (g v : Nat) (T : Int) (raw str : ByteArray) (x : Nat) : Prop where
 hg : W.heap[g]? = some (.cells #[.int .i64 0, .string ⟨#[]⟩, .string ⟨#[]⟩, .float .f64 0, .int .i64 0, .slice none 0 0] 66 (0, 0))
 hv : W.heap[v]? = some (.cells #[.int .i64 T, .string raw, .string str, .float .f64 x, .int .i64 0, .slice none 0 0] 66 (0, 0))
 ne : g ≠ v
 gb : w.heap.size ≤ g
 vb : w.heap.size ≤ v
 be : Below w.heap.size w W
theorem Two.below {w W w2 : World} {g v : Nat} {T : Int} {raw str : ByteArray} {x : Nat} (h : Two w W g v T raw str x) (hb : Below W.heap.size W w2) : Two w w2 g v T raw str x :=
 ⟨(hb.block g (blk_lt h.hg)).trans h.hg, (hb.block v (blk_lt h.hv)).trans h.hv, h.ne, h.gb, h.vb, h.be.trans (hb.mono h.be.size)⟩
theorem Two.set {w W : World} {g v : Nat} {T : Int} {raw str : ByteArray} {x : Nat} (h : Two w W g v T raw str x) (j : Nat) (u : Value) {T' : Int} {raw' str' : ByteArray} {x' : Nat}
  (hc : (#[.int .i64 T, .string raw, .string str, .float .f64 x, .int .i64 0, .slice none 0 0] : Array Value).setIfInBounds j u = #[.int .i64 T', .string raw', .string str', .float .f64 x', .int .i64 0, .slice none 0 0]) :
  Two w (W.setCell ⟨v, j, none⟩ u) g v T' raw' str' x' :=
 ⟨(Below.heap_setCell W ⟨v, j, none⟩ u g h.ne).trans h.hg, by rw [← hc]; exact blk_set h.hv j u, h.ne, h.gb, h.vb, below_set h.be h.vb⟩
theorem paEnd (s str : ByteArray) (T : Int) (x : Nat) (w W : World) (g : Nat) (tm : Array Value) (h2 : tm.getD 2 undef = .pointer (some ⟨g, 0, none⟩)) (hg : W.heap[g]? = some (.cells #[.int .i64 T, .string s, .string str, .float .f64 x, .int .i64 0, .slice none 0 0] 66 (0, 0))) (hb : Below w.heap.size w W) :
  bodyPost Tryz.prog Tryz.f43 (PaPost T s str w) .ret ⟨tm, []⟩ W := by
 have n0 := blk_cell hg 0
 have n1 := blk_cell hg 1
 have n2 := blk_cell hg 2
 have n3 := blk_cell hg 3
 have n4 := blk_cell hg 4
 have n5 := blk_cell hg 5
 refine bodyPost_ret (v := res T s str x) ?_ rfl ⟨x, rfl, hb⟩
 simp only [results, Tryz.results43]
 have h2' := h2
 simp only [Array.getD_eq_getD_getElem?] at h2'
 simp [go_sem, h2, h2', n0, n1, n2, n3, n4, n5]
theorem paTail_wp (s str : ByteArray) (T : Int) (x : Nat) (w W : World) (g v : Nat) (H : Two w W g v T s str x) (hT : T ≠ 0 ∨ 0 < s.size) (Q : Exit → Act → World → Prop) (hQ : ∀ a w', bodyPost Tryz.prog Tryz.f43 (PaPost T s str w) .ret a w' → Q .ret a w') (u1 u5 u6 u7 u8 u9 u10 u11 u12 u13 u14 u15 u16 u17 u18 u19 u20 u21 u22 u23 u24 u25 u26 u27 u28 u29 u30 u31 u32 u33 u34 u35 u36 u37 u38 u39 u40 u41 u42 u43 u44 u45 u46 u47 u48 u49 u50 u51 u52 u53 u54 u55 u56 u57 u58 u59 u60 u61 u62 u63 u64 u65 u66 u67 u68 u69 u70 u71 u72 u73 u74 u75 u76 u77 u78 u79 u80 u81 u82 u83 u84 u85 u86 u87 u88 u89 u90 u91 u92 u93 u94 u95 u96 u97 u98 u99 u100 u101 u102 u103 u104 u105 u106 u107 u108 u109 u110 u111 u112 u113 u114 u115 u116 u117 u118 u119 u120 u121 u122 : Value) :
  paTail.wp Tryz.prog Q ⟨List.toArray [.string s, u1, .pointer (some ⟨g, 0, none⟩), .pointer (some ⟨v, 0, none⟩), .int .i64 0, u5, u6, u7, u8, u9, u10, u11, u12, u13, u14, u15, u16, u17, u18, u19, u20, u21, u22, u23, u24, u25, u26, u27, u28, u29, u30, u31, u32, u33, u34, u35, u36, u37, u38, u39, u40, u41, u42, u43, u44, u45, u46, u47, u48, u49, u50, u51, u52, u53, u54, u55, u56, u57, u58, u59, u60, u61, u62, u63, u64, u65, u66, u67, u68, u69, u70, u71, u72, u73, u74, u75, u76, u77, u78, u79, u80, u81, u82, u83, u84, u85, u86, u87, u88, u89, u90, u91, u92, u93, u94, u95, u96, u97, u98, u99, u100, u101, u102, u103, u104, u105, u106, u107, u108, u109, u110, u111, u112, u113, u114, u115, u116, u117, u118, u119, u120, u121, u122], []⟩ W := by
 have HQ := Aside0.mk hQ
 clear hQ
 have HH := Aside0.mk H
 have k0 := blk_cell H.hv 0
 have k1 := blk_cell H.hv 1
 have k2 := blk_cell H.hv 2
 have k3 := blk_cell H.hv 3
 have k4 := blk_cell H.hv 4
 have k5 := blk_cell H.hv 5
 clear H
 simp only [paTail, Tryz.f43, tl]
 go_wp2_with fail
 refine (exists_calls T s str x _ hT).mono ?_
 rintro e w2 ⟨rfl, hb⟩
 have H2 := HH.out.below hb
 have HH2 := Aside0.mk H2
 have m0 := blk_cell H2.hv 0
 have m1 := blk_cell H2.hv 1
 have m2 := blk_cell H2.hv 2
 have m3 := blk_cell H2.hv 3
 have m4 := blk_cell H2.hv 4
 have m5 := blk_cell H2.hv 5
 have n0 := blk_cell H2.hg 0
 have n1 := blk_cell H2.hg 1
 have n2 := blk_cell H2.hg 2
 have n3 := blk_cell H2.hg 3
 have n4 := blk_cell H2.hg 4
 have n5 := blk_cell H2.hg 5
 have f0 := blk_frozen H2.hv
 have f1 := blk_frozen H2.hg
 have hne := H2.ne
 have hne' := H2.ne.symm
 clear H2 hb k0 k1 k2 k3 k4 k5
 go_wp2_with fail
 refine HQ.out _ _ (paEnd s str T x w _ g _ rfl ?_ ?_)
 ·exact blk_set (blk_set (blk_set (blk_set (blk_set (blk_set ((Below.heap_setCell w2 ⟨v, 4, none⟩ _ g hne).trans HH2.out.hg) 0 _) 1 _) 2 _) 3 _) 4 _) 5 _
 ·exact below_set (below_set (below_set (below_set (below_set (below_set (below_set HH2.out.be HH2.out.vb) HH2.out.gb) HH2.out.gb) HH2.out.gb) HH2.out.gb) HH2.out.gb) HH2.out.gb
theorem paLoop_json (s : ByteArray) (w W : World) (g v : Nat) (K : Act → World → Prop) (Q : Exit → Act → World → Prop) (hK : ∀ a w', paTail.wp Tryz.prog Q a w' → K a w') (H : Two w W g v 0 ⟨#[]⟩ ⟨#[]⟩ 0) (hz : s.size ≤ 65536) (hs : 0 < s.size) (h : bt s 0 = 123 ∨ bt s 0 = 91) (hQ : ∀ a w', bodyPost Tryz.prog Tryz.f43 (PaPost 5 s ⟨#[]⟩ w) .ret a w' → Q .ret a w') (u1 u5 u6 u7 u8 u9 u10 u11 u12 u13 u14 u15 u16 u17 u18 u19 u20 u21 u22 u23 u24 u25 u26 u27 u28 u29 u30 u31 u32 u33 u34 u35 u36 u37 u38 u39 u40 u41 u42 u43 u44 u45 u46 u47 u48 u49 u50 u51 u52 u53 u54 u55 u56 u57 u58 u59 u60 u61 u62 u63 u64 u65 u66 u67 u68 u69 u70 u71 u72 u73 u74 u75 u76 u77 u78 u79 u80 u81 u82 u83 u84 u85 u86 u87 u88 u89 u90 u91 u92 u93 u94 u95 u96 u97 u98 u99 u100 u101 u102 u103 u104 u105 u106 u107 u108 u109 u110 u111 u112 u113 u114 u115 u116 u117 u118 u119 u120 u121 u122 : Value) :
  paLoop.wp Tryz.prog (Exit.inBlock 0 (Exit.then K Q)) ⟨List.toArray [.string s, u1, .pointer (some ⟨g, 0, none⟩), .pointer (some ⟨v, 0, none⟩), .int .i64 0, u5, u6, u7, u8, u9, u10, u11, u12, u13, u14, u15, u16, u17, u18, u19, u20, u21, u22, u23, u24, u25, u26, u27, u28, u29, u30, u31, u32, u33, u34, u35, u36, u37, u38, u39, u40, u41, u42, u43, u44, u45, u46, u47, u48, u49, u50, u51, u52, u53, u54, u55, u56, u57, u58, u59, u60, u61, u62, u63, u64, u65, u66, u67, u68, u69, u70, u71, u72, u73, u74, u75, u76, u77, u78, u79, u80, u81, u82, u83, u84, u85, u86, u87, u88, u89, u90, u91, u92, u93, u94, u95, u96, u97, u98, u99, u100, u101, u102, u103, u104, u105, u106, u107, u108, u109, u110, u111, u112, u113, u114, u115, u116, u117, u118, u119, u120, u121, u122], []⟩ W := by
 have hb0 : ∀ h : 0 < s.size, ((s[0]'h).toNat : Int) = bt s 0 := bt_at s 0
 have hex : s.extract 0 s.size = s := ByteArray.extract_zero_size
 have HK := Aside0.mk hK
 have HQ := Aside0.mk hQ
 have HH := Aside0.mk H
 have k0 := blk_cell H.hv 0
 have k1 := blk_cell H.hv 1
 have k2 := blk_cell H.hv 2
 have k3 := blk_cell H.hv 3
 have f0 := blk_frozen H.hv
 clear hK hQ H
 simp only [paLoop, Tryz.f43, tl, hd1]
 go_loopg [4] 0 (fun kq v4 w' => v4 = .int .i64 0 ∧ W = w')
 case atStart => exact ⟨rfl, rfl⟩
 case round =>
  obtain ⟨rfl, rfl⟩ := hrel
  rcases h with h | h
  ·have x1 : (bt s 0 == 123) = true := beq_iff_eq.mpr h
   clear h
   go_wp2_with fail
   exact HK.out _ _ (paTail_wp s ⟨#[]⟩ 5 0 w _ g v ((HH.out.set 0 _ rfl).set 1 _ rfl) (.inl (by omega)) Q HQ.out _ _ _ _ _ _ _ _ _ _ _ _ _ _ _ _ _ _ _ _ _ _ _ _ _ _ _ _ _ _ _ _ _ _ _ _ _ _ _ _ _ _ _ _ _ _ _ _ _ _ _ _ _ _ _ _ _ _ _ _ _ _ _ _ _ _ _ _ _ _ _ _ _ _ _ _ _ _ _ _ _ _ _ _ _ _ _ _ _ _ _ _ _ _ _ _ _ _ _ _ _ _ _ _ _ _ _ _ _ _ _ _ _ _ _ _ _ _ _)
  ·have x1 : (bt s 0 == 123) = false := beq_eq_false_iff_ne.mpr (by omega)
   have x2 : (bt s 0 == 91) = true := beq_iff_eq.mpr h
   clear h
   go_wp2_with fail
   exact HK.out _ _ (paTail_wp s ⟨#[]⟩ 5 0 w _ g v ((HH.out.set 0 _ rfl).set 1 _ rfl) (.inl (by omega)) Q HQ.out _ _ _ _ _ _ _ _ _ _ _ _ _ _ _ _ _ _ _ _ _ _ _ _ _ _ _ _ _ _ _ _ _ _ _ _ _ _ _ _ _ _ _ _ _ _ _ _ _ _ _ _ _ _ _ _ _ _ _ _ _ _ _ _ _ _ _ _ _ _ _ _ _ _ _ _ _ _ _ _ _ _ _ _ _ _ _ _ _ _ _ _ _ _ _ _ _ _ _ _ _ _ _ _ _ _ _ _ _ _ _ _ _ _ _ _ _ _ _)
theorem paLoop_str (s : ByteArray) (w W : World) (g v : Nat) (K : Act → World → Prop) (Q : Exit → Act → World → Prop) (hK : ∀ a w', paTail.wp Tryz.prog Q a w' → K a w') (H : Two w W g v 0 ⟨#[]⟩ ⟨#[]⟩ 0) (hz : s.size ≤ 65536) (hs : 0 < s.size) (str : ByteArray) (h : bt s 0 = 34) (hc : ∀ W', Calls Tryz.prog 68 #[.string s] W' fun e w' => e = .returned (.tuple #[.string s, .string str]) ∧ Below W'.heap.size W' w') (hQ : ∀ a w', bodyPost Tryz.prog Tryz.f43 (PaPost 3 s str w) .ret a w' → Q .ret a w') (u1 u5 u6 u7 u8 u9 u10 u11 u12 u13 u14 u15 u16 u17 u18 u19 u20 u21 u22 u23 u24 u25 u26 u27 u28 u29 u30 u31 u32 u33 u34 u35 u36 u37 u38 u39 u40 u41 u42 u43 u44 u45 u46 u47 u48 u49 u50 u51 u52 u53 u54 u55 u56 u57 u58 u59 u60 u61 u62 u63 u64 u65 u66 u67 u68 u69 u70 u71 u72 u73 u74 u75 u76 u77 u78 u79 u80 u81 u82 u83 u84 u85 u86 u87 u88 u89 u90 u91 u92 u93 u94 u95 u96 u97 u98 u99 u100 u101 u102 u103 u104 u105 u106 u107 u108 u109 u110 u111 u112 u113 u114 u115 u116 u117 u118 u119 u120 u121 u122 : Value) :
  paLoop.wp Tryz.prog (Exit.inBlock 0 (Exit.then K Q)) ⟨List.toArray [.string s, u1, .pointer (some ⟨g, 0, none⟩), .pointer (some ⟨v, 0, none⟩), .int .i64 0, u5, u6, u7, u8, u9, u10, u11, u12, u13, u14, u15, u16, u17, u18, u19, u20, u21, u22, u23, u24, u25, u26, u27, u28, u29, u30, u31, u32, u33, u34, u35, u36, u37, u38, u39, u40, u41, u42, u43, u44, u45, u46, u47, u48, u49, u50, u51, u52, u53, u54, u55, u56, u57, u58, u59, u60, u61, u62, u63, u64, u65, u66, u67, u68, u69, u70, u71, u72, u73, u74, u75, u76, u77, u78, u79, u80, u81, u82, u83, u84, u85, u86, u87, u88, u89, u90, u91, u92, u93, u94, u95, u96, u97, u98, u99, u100, u101, u102, u103, u104, u105, u106, u107, u108, u109, u110, u111, u112, u113, u114, u115, u116, u117, u118, u119, u120, u121, u122], []⟩ W := by
 have hb0 : ∀ h : 0 < s.size, ((s[0]'h).toNat : Int) = bt s 0 := bt_at s 0
 have hex : s.extract 0 s.size = s := ByteArray.extract_zero_size
 have HK := Aside0.mk hK
 have HQ := Aside0.mk hQ
 have HH := Aside0.mk H
 have k0 := blk_cell H.hv 0
 have k1 := blk_cell H.hv 1
 have k2 := blk_cell H.hv 2
 have k3 := blk_cell H.hv 3
 have f0 := blk_frozen H.hv
 clear hK hQ H
 have HC := Aside0.mk hc
 clear hc
 simp only [paLoop, Tryz.f43, tl, hd1]
 go_loopg [4] 0 (fun kq v4 w' => v4 = .int .i64 0 ∧ W = w')
 case atStart => exact ⟨rfl, rfl⟩
 case round =>
  obtain ⟨rfl, rfl⟩ := hrel
  rw [h] at hb0
  go_wp2_with fail
  ·have HH1 := Aside0.mk (HH.out.set 0 (.int .i64 3) (T' := 3) rfl)
   refine (HC.out _).mono ?_
   rintro e w2 ⟨rfl, hb⟩
   have H2 := HH1.out.below hb
   have HH2 := Aside0.mk H2
   have m0 := blk_cell H2.hv 0
   have m1 := blk_cell H2.hv 1
   have m2 := blk_cell H2.hv 2
   have m3 := blk_cell H2.hv 3
   have f1 := blk_frozen H2.hv
   clear H2 hb k0 k1 k2 k3 f0
   go_wp2_with fail
   exact HK.out _ _ (paTail_wp s str 3 0 w _ g v ((HH2.out.set 1 _ rfl).set 2 _ rfl) (.inl (by omega)) Q HQ.out _ _ _ _ _ _ _ _ _ _ _ _ _ _ _ _ _ _ _ _ _ _ _ _ _ _ _ _ _ _ _ _ _ _ _ _ _ _ _ _ _ _ _ _ _ _ _ _ _ _ _ _ _ _ _ _ _ _ _ _ _ _ _ _ _ _ _ _ _ _ _ _ _ _ _ _ _ _ _ _ _ _ _ _ _ _ _ _ _ _ _ _ _ _ _ _ _ _ _ _ _ _ _ _ _ _ _ _ _ _ _ _ _ _ _ _ _ _ _)
theorem paLoop_num (s : ByteArray) (w W : World) (g v : Nat) (K : Act → World → Prop) (Q : Exit → Act → World → Prop) (hK : ∀ a w', paTail.wp Tryz.prog Q a w' → K a w') (H : Two w W g v 0 ⟨#[]⟩ ⟨#[]⟩ 0) (hz : s.size ≤ 65536) (hs : 0 < s.size) (h : bt s 0 = 45 ∨ (48 ≤ bt s 0 ∧ bt s 0 ≤ 57)) (hc : ∀ W', Below w.heap.size w W' → Calls Tryz.prog 66 #[.string s] W' (TnPost s W')) (hQ : ∀ a w', bodyPost Tryz.prog Tryz.f43 (PaPost 2 s ⟨#[]⟩ w) .ret a w' → Q .ret a w') (u1 u5 u6 u7 u8 u9 u10 u11 u12 u13 u14 u15 u16 u17 u18 u19 u20 u21 u22 u23 u24 u25 u26 u27 u28 u29 u30 u31 u32 u33 u34 u35 u36 u37 u38 u39 u40 u41 u42 u43 u44 u45 u46 u47 u48 u49 u50 u51 u52 u53 u54 u55 u56 u57 u58 u59 u60 u61 u62 u63 u64 u65 u66 u67 u68 u69 u70 u71 u72 u73 u74 u75 u76 u77 u78 u79 u80 u81 u82 u83 u84 u85 u86 u87 u88 u89 u90 u91 u92 u93 u94 u95 u96 u97 u98 u99 u100 u101 u102 u103 u104 u105 u106 u107 u108 u109 u110 u111 u112 u113 u114 u115 u116 u117 u118 u119 u120 u121 u122 : Value) :
  paLoop.wp Tryz.prog (Exit.inBlock 0 (Exit.then K Q)) ⟨List.toArray [.string s, u1, .pointer (some ⟨g, 0, none⟩), .pointer (some ⟨v, 0, none⟩), .int .i64 0, u5, u6, u7, u8, u9, u10, u11, u12, u13, u14, u15, u16, u17, u18, u19, u20, u21, u22, u23, u24, u25, u26, u27, u28, u29, u30, u31, u32, u33, u34, u35, u36, u37, u38, u39, u40, u41, u42, u43, u44, u45, u46, u47, u48, u49, u50, u51, u52, u53, u54, u55, u56, u57, u58, u59, u60, u61, u62, u63, u64, u65, u66, u67, u68, u69, u70, u71, u72, u73, u74, u75, u76, u77, u78, u79, u80, u81, u82, u83, u84, u85, u86, u87, u88, u89, u90, u91, u92, u93, u94, u95, u96, u97, u98, u99, u100, u101, u102, u103, u104, u105, u106, u107, u108, u109, u110, u111, u112, u113, u114, u115, u116, u117, u118, u119, u120, u121, u122], []⟩ W := by
 have hb0 : ∀ h : 0 < s.size, ((s[0]'h).toNat : Int) = bt s 0 := bt_at s 0
 have hex : s.extract 0 s.size = s := ByteArray.extract_zero_size
 have HK := Aside0.mk hK
 have HQ := Aside0.mk hQ
 have HH := Aside0.mk H
 have k0 := blk_cell H.hv 0
 have k1 := blk_cell H.hv 1
 have k2 := blk_cell H.hv 2
 have k3 := blk_cell H.hv 3
 have f0 := blk_frozen H.hv
 clear hK hQ H
 have HC := Aside0.mk hc
 clear hc
 simp only [paLoop, Tryz.f43, tl, hd1]
 go_loopg [4] 0 (fun kq v4 w' => v4 = .int .i64 0 ∧ W = w')
 case atStart => exact ⟨rfl, rfl⟩
 case round =>
  obtain ⟨rfl, rfl⟩ := hrel
  have hcs : bt s 0 = 45 ∨ bt s 0 = 48 ∨ bt s 0 = 49 ∨ bt s 0 = 50 ∨ bt s 0 = 51 ∨ bt s 0 = 52 ∨ bt s 0 = 53 ∨ bt s 0 = 54 ∨ bt s 0 = 55 ∨ bt s 0 = 56 ∨ bt s 0 = 57 := by omega
  clear h
  have HH1 := Aside0.mk (HH.out.set 0 (.int .i64 2) (T' := 2) rfl)
  have HCX := Aside0.mk (HC.out _ HH1.out.be)
  clear HC
  rcases hcs with h | h | h | h | h | h | h | h | h | h | h
  all_goals
   rw [h] at hb0
   clear h
   go_wp2_with fail
   refine HCX.out.mono ?_
   rintro e w2 ⟨x, rfl, hb⟩
   have H2 := HH1.out.below hb
   have HH2 := Aside0.mk H2
   have m0 := blk_cell H2.hv 0
   have m1 := blk_cell H2.hv 1
   have m2 := blk_cell H2.hv 2
   have m3 := blk_cell H2.hv 3
   have f1 := blk_frozen H2.hv
   clear H2 hb k0 k1 k2 k3 f0
   go_wp2_with fail
   exact HK.out _ _ (paTail_wp s ⟨#[]⟩ 2 x w _ g v ((HH2.out.set 1 _ rfl).set 3 _ rfl) (.inl (by omega)) Q HQ.out _ _ _ _ _ _ _ _ _ _ _ _ _ _ _ _ _ _ _ _ _ _ _ _ _ _ _ _ _ _ _ _ _ _ _ _ _ _ _ _ _ _ _ _ _ _ _ _ _ _ _ _ _ _ _ _ _ _ _ _ _ _ _ _ _ _ _ _ _ _ _ _ _ _ _ _ _ _ _ _ _ _ _ _ _ _ _ _ _ _ _ _ _ _ _ _ _ _ _ _ _ _ _ _ _ _ _ _ _ _ _ _ _ _ _ _ _ _ _)
theorem paLoop_null (s : ByteArray) (w W : World) (g v : Nat) (K : Act → World → Prop) (Q : Exit → Act → World → Prop) (hK : ∀ a w', paTail.wp Tryz.prog Q a w' → K a w') (H : Two w W g v 0 ⟨#[]⟩ ⟨#[]⟩ 0) (hz : s.size ≤ 65536) (hs : 0 < s.size) (h : bt s 0 = 110) (h1 : 1 < s.size) (h2 : bt s 1 = 117) (hl : ∀ i : Int, 1 ≤ i → i < s.size → 97 ≤ bt s i ∧ bt s i ≤ 122) (hQ : ∀ a w', bodyPost Tryz.prog Tryz.f43 (PaPost 0 s ⟨#[]⟩ w) .ret a w' → Q .ret a w') (u1 u5 u6 u7 u8 u9 u10 u11 u12 u13 u14 u15 u16 u17 u18 u19 u20 u21 u22 u23 u24 u25 u26 u27 u28 u29 u30 u31 u32 u33 u34 u35 u36 u37 u38 u39 u40 u41 u42 u43 u44 u45 u46 u47 u48 u49 u50 u51 u52 u53 u54 u55 u56 u57 u58 u59 u60 u61 u62 u63 u64 u65 u66 u67 u68 u69 u70 u71 u72 u73 u74 u75 u76 u77 u78 u79 u80 u81 u82 u83 u84 u85 u86 u87 u88 u89 u90 u91 u92 u93 u94 u95 u96 u97 u98 u99 u100 u101 u102 u103 u104 u105 u106 u107 u108 u109 u110 u111 u112 u113 u114 u115 u116 u117 u118 u119 u120 u121 u122 : Value) :
  paLoop.wp Tryz.prog (Exit.inBlock 0 (Exit.then K Q)) ⟨List.toArray [.string s, u1, .pointer (some ⟨g, 0, none⟩), .pointer (some ⟨v, 0, none⟩), .int .i64 0, u5, u6, u7, u8, u9, u10, u11, u12, u13, u14, u15, u16, u17, u18, u19, u20, u21, u22, u23, u24, u25, u26, u27, u28, u29, u30, u31, u32, u33, u34, u35, u36, u37, u38, u39, u40, u41, u42, u43, u44, u45, u46, u47, u48, u49, u50, u51, u52, u53, u54, u55, u56, u57, u58, u59, u60, u61, u62, u63, u64, u65, u66, u67, u68, u69, u70, u71, u72, u73, u74, u75, u76, u77, u78, u79, u80, u81, u82, u83, u84, u85, u86, u87, u88, u89, u90, u91, u92, u93, u94, u95, u96, u97, u98, u99, u100, u101, u102, u103, u104, u105, u106, u107, u108, u109, u110, u111, u112, u113, u114, u115, u116, u117, u118, u119, u120, u121, u122], []⟩ W := by
 have hb0 : ∀ h : 0 < s.size, ((s[0]'h).toNat : Int) = bt s 0 := bt_at s 0
 have hex : s.extract 0 s.size = s := ByteArray.extract_zero_size
 have HK := Aside0.mk hK
 have HQ := Aside0.mk hQ
 have HH := Aside0.mk H
 have k0 := blk_cell H.hv 0
 have k1 := blk_cell H.hv 1
 have k2 := blk_cell H.hv 2
 have k3 := blk_cell H.hv 3
 have f0 := blk_frozen H.hv
 clear hK hQ H
 have HL := Aside0.mk hl
 clear hl
 have hb1 : ∀ h : 1 < s.size, ((s[1]'h).toNat : Int) = bt s 1 := bt_at s 1
 rw [h] at hb0
 rw [h2] at hb1
 simp only [paLoop, Tryz.f43, tl, hd1]
 go_loopg [4] 0 (fun kq v4 w' => v4 = .int .i64 0 ∧ W = w')
 case atStart => exact ⟨rfl, rfl⟩
 case round =>
  obtain ⟨rfl, rfl⟩ := hrel
  go_wp2_with fail
  ·have HH1 := Aside0.mk (HH.out.set 0 (.int .i64 0) (T' := 0) rfl)
   refine (tolit_calls s _ hz HL.out).mono ?_
   rintro e w2 ⟨rfl, rfl⟩
   have m0 := blk_cell HH1.out.hv 0
   have m1 := blk_cell HH1.out.hv 1
   have f1 := blk_frozen HH1.out.hv
   clear k0 k1 k2 k3 f0
   go_wp2_with fail
   exact HK.out _ _ (paTail_wp s ⟨#[]⟩ 0 0 w _ g v (HH1.out.set 1 _ rfl) (.inr hs) Q HQ.out _ _ _ _ _ _ _ _ _ _ _ _ _ _ _ _ _ _ _ _ _ _ _ _ _ _ _ _ _ _ _ _ _ _ _ _ _ _ _ _ _ _ _ _ _ _ _ _ _ _ _ _ _ _ _ _ _ _ _ _ _ _ _ _ _ _ _ _ _ _ _ _ _ _ _ _ _ _ _ _ _ _ _ _ _ _ _ _ _ _ _ _ _ _ _ _ _ _ _ _ _ _ _ _ _ _ _ _ _ _ _ _ _ _ _ _ _ _ _)
theorem paLoop_true (s : ByteArray) (w W : World) (g v : Nat) (K : Act → World → Prop) (Q : Exit → Act → World → Prop) (hK : ∀ a w', paTail.wp Tryz.prog Q a w' → K a w') (H : Two w W g v 0 ⟨#[]⟩ ⟨#[]⟩ 0) (hz : s.size ≤ 65536) (hs : 0 < s.size) (h : bt s 0 = 116) (hl : ∀ i : Int, 1 ≤ i → i < s.size → 97 ≤ bt s i ∧ bt s i ≤ 122) (hQ : ∀ a w', bodyPost Tryz.prog Tryz.f43 (PaPost 4 s ⟨#[]⟩ w) .ret a w' → Q .ret a w') (u1 u5 u6 u7 u8 u9 u10 u11 u12 u13 u14 u15 u16 u17 u18 u19 u20 u21 u22 u23 u24 u25 u26 u27 u28 u29 u30 u31 u32 u33 u34 u35 u36 u37 u38 u39 u40 u41 u42 u43 u44 u45 u46 u47 u48 u49 u50 u51 u52 u53 u54 u55 u56 u57 u58 u59 u60 u61 u62 u63 u64 u65 u66 u67 u68 u69 u70 u71 u72 u73 u74 u75 u76 u77 u78 u79 u80 u81 u82 u83 u84 u85 u86 u87 u88 u89 u90 u91 u92 u93 u94 u95 u96 u97 u98 u99 u100 u101 u102 u103 u104 u105 u106 u107 u108 u109 u110 u111 u112 u113 u114 u115 u116 u117 u118 u119 u120 u121 u122 : Value) :
  paLoop.wp Tryz.prog (Exit.inBlock 0 (Exit.then K Q)) ⟨List.toArray [.string s, u1, .pointer (some ⟨g, 0, none⟩), .pointer (some ⟨v, 0, none⟩), .int .i64 0, u5, u6, u7, u8, u9, u10, u11, u12, u13, u14, u15, u16, u17, u18, u19, u20, u21, u22, u23, u24, u25, u26, u27, u28, u29, u30, u31, u32, u33, u34, u35, u36, u37, u38, u39, u40, u41, u42, u43, u44, u45, u46, u47, u48, u49, u50, u51, u52, u53, u54, u55, u56, u57, u58, u59, u60, u61, u62, u63, u64, u65, u66, u67, u68, u69, u70, u71, u72, u73, u74, u75, u76, u77, u78, u79, u80, u81, u82, u83, u84, u85, u86, u87, u88, u89, u90, u91, u92, u93, u94, u95, u96, u97, u98, u99, u100, u101, u102, u103, u104, u105, u106, u107, u108, u109, u110, u111, u112, u113, u114, u115, u116, u117, u118, u119, u120, u121, u122], []⟩ W := by
 have hb0 : ∀ h : 0 < s.size, ((s[0]'h).toNat : Int) = bt s 0 := bt_at s 0
 have hex : s.extract 0 s.size = s := ByteArray.extract_zero_size
 have HK := Aside0.mk hK
 have HQ := Aside0.mk hQ
 have HH := Aside0.mk H
 have k0 := blk_cell H.hv 0
 have k1 := blk_cell H.hv 1
 have k2 := blk_cell H.hv 2
 have k3 := blk_cell H.hv 3
 have f0 := blk_frozen H.hv
 clear hK hQ H
 have HL := Aside0.mk hl
 clear hl
 rw [h] at hb0
 simp only [paLoop, Tryz.f43, tl, hd1]
 go_loopg [4] 0 (fun kq v4 w' => v4 = .int .i64 0 ∧ W = w')
 case atStart => exact ⟨rfl, rfl⟩
 case round =>
  obtain ⟨rfl, rfl⟩ := hrel
  go_wp2_with fail
  ·have HH1 := Aside0.mk (HH.out.set 0 (.int .i64 4) (T' := 4) rfl)
   refine (tolit_calls s _ hz HL.out).mono ?_
   rintro e w2 ⟨rfl, rfl⟩
   have m0 := blk_cell HH1.out.hv 0
   have m1 := blk_cell HH1.out.hv 1
   have f1 := blk_frozen HH1.out.hv
   clear k0 k1 k2 k3 f0
   go_wp2_with fail
   exact HK.out _ _ (paTail_wp s ⟨#[]⟩ 4 0 w _ g v (HH1.out.set 1 _ rfl) (.inl (by omega)) Q HQ.out _ _ _ _ _ _ _ _ _ _ _ _ _ _ _ _ _ _ _ _ _ _ _ _ _ _ _ _ _ _ _ _ _ _ _ _ _ _ _ _ _ _ _ _ _ _ _ _ _ _ _ _ _ _ _ _ _ _ _ _ _ _ _ _ _ _ _ _ _ _ _ _ _ _ _ _ _ _ _ _ _ _ _ _ _ _ _ _ _ _ _ _ _ _ _ _ _ _ _ _ _ _ _ _ _ _ _ _ _ _ _ _ _ _ _ _ _ _ _)
theorem paLoop_false (s : ByteArray) (w W : World) (g v : Nat) (K : Act → World → Prop) (Q : Exit → Act → World → Prop) (hK : ∀ a w', paTail.wp Tryz.prog Q a w' → K a w') (H : Two w W g v 0 ⟨#[]⟩ ⟨#[]⟩ 0) (hz : s.size ≤ 65536) (hs : 0 < s.size) (h : bt s 0 = 102) (hl : ∀ i : Int, 1 ≤ i → i < s.size → 97 ≤ bt s i ∧ bt s i ≤ 122) (hQ : ∀ a w', bodyPost Tryz.prog Tryz.f43 (PaPost 1 s ⟨#[]⟩ w) .ret a w' → Q .ret a w') (u1 u5 u6 u7 u8 u9 u10 u11 u12 u13 u14 u15 u16 u17 u18 u19 u20 u21 u22 u23 u24 u25 u26 u27 u28 u29 u30 u31 u32 u33 u34 u35 u36 u37 u38 u39 u40 u41 u42 u43 u44 u45 u46 u47 u48 u49 u50 u51 u52 u53 u54 u55 u56 u57 u58 u59 u60 u61 u62 u63 u64 u65 u66 u67 u68 u69 u70 u71 u72 u73 u74 u75 u76 u77 u78 u79 u80 u81 u82 u83 u84 u85 u86 u87 u88 u89 u90 u91 u92 u93 u94 u95 u96 u97 u98 u99 u100 u101 u102 u103 u104 u105 u106 u107 u108 u109 u110 u111 u112 u113 u114 u115 u116 u117 u118 u119 u120 u121 u122 : Value) :
  paLoop.wp Tryz.prog (Exit.inBlock 0 (Exit.then K Q)) ⟨List.toArray [.string s, u1, .pointer (some ⟨g, 0, none⟩), .pointer (some ⟨v, 0, none⟩), .int .i64 0, u5, u6, u7, u8, u9, u10, u11, u12, u13, u14, u15, u16, u17, u18, u19, u20, u21, u22, u23, u24, u25, u26, u27, u28, u29, u30, u31, u32, u33, u34, u35, u36, u37, u38, u39, u40, u41, u42, u43, u44, u45, u46, u47, u48, u49, u50, u51, u52, u53, u54, u55, u56, u57, u58, u59, u60, u61, u62, u63, u64, u65, u66, u67, u68, u69, u70, u71, u72, u73, u74, u75, u76, u77, u78, u79, u80, u81, u82, u83, u84, u85, u86, u87, u88, u89, u90, u91, u92, u93, u94, u95, u96, u97, u98, u99, u100, u101, u102, u103, u104, u105, u106, u107, u108, u109, u110, u111, u112, u113, u114, u115, u116, u117, u118, u119, u120, u121, u122], []⟩ W := by
 have hb0 : ∀ h : 0 < s.size, ((s[0]'h).toNat : Int) = bt s 0 := bt_at s 0
 have hex : s.extract 0 s.size = s := ByteArray.extract_zero_size
 have HK := Aside0.mk hK
 have HQ := Aside0.mk hQ
 have HH := Aside0.mk H
 have k0 := blk_cell H.hv 0
 have k1 := blk_cell H.hv 1
 have k2 := blk_cell H.hv 2
 have k3 := blk_cell H.hv 3
 have f0 := blk_frozen H.hv
 clear hK hQ H
 have HL := Aside0.mk hl
 clear hl
 rw [h] at hb0
 simp only [paLoop, Tryz.f43, tl, hd1]
 go_loopg [4] 0 (fun kq v4 w' => v4 = .int .i64 0 ∧ W = w')
 case atStart => exact ⟨rfl, rfl⟩
 case round =>
  obtain ⟨rfl, rfl⟩ := hrel
  go_wp2_with fail
  ·have HH1 := Aside0.mk (HH.out.set 0 (.int .i64 1) (T' := 1) rfl)
   refine (tolit_calls s _ hz HL.out).mono ?_
   rintro e w2 ⟨rfl, rfl⟩
   have m0 := blk_cell HH1.out.hv 0
   have m1 := blk_cell HH1.out.hv 1
   have f1 := blk_frozen HH1.out.hv
   clear k0 k1 k2 k3 f0
   go_wp2_with fail
   exact HK.out _ _ (paTail_wp s ⟨#[]⟩ 1 0 w _ g v (HH1.out.set 1 _ rfl) (.inl (by omega)) Q HQ.out _ _ _ _ _ _ _ _ _ _ _ _ _ _ _ _ _ _ _ _ _ _ _ _ _ _ _ _ _ _ _ _ _ _ _ _ _ _ _ _ _ _ _ _ _ _ _ _ _ _ _ _ _ _ _ _ _ _ _ _ _ _ _ _ _ _ _ _ _ _ _ _ _ _ _ _ _ _ _ _ _ _ _ _ _ _ _ _ _ _ _ _ _ _ _ _ _ _ _ _ _ _ _ _ _ _ _ _ _ _ _ _ _ _ _ _ _ _ _)
end Go.Proofs.YtgiioglmkogpkaaGreatDoor.F
namespace Go.Proofs.YtgiioglmkogpkaaGreatDoor.F
open Go.RowKit Go.Proofs.YtgiioglmkogpkaaGreatDoorW.PrintWords Go.Proofs.YtgiioglmkogpkaaGreatDoorW.PrintLast Go.Proofs.YtgiioglmkogpkaaGreatDoorW.PrintMore
open M L
set_option maxHeartbeats 4000000
set_option maxRecDepth 8192
theorem two_new (w : World) : Two w ((w.alloc (.cells #[.int .i64 0, .string ⟨#[]⟩, .string ⟨#[]⟩, .float .f64 0, .int .i64 0, .slice none 0 0] 66)).alloc (.cells #[.int .i64 0, .string ⟨#[]⟩, .string ⟨#[]⟩, .float .f64 0, .int .i64 0, .slice none 0 0] 66)) w.heap.size (w.heap.size + 1) 0 ⟨#[]⟩ ⟨#[]⟩ 0 := by
 have e : (w.alloc (.cells #[.int .i64 0, .string ⟨#[]⟩, .string ⟨#[]⟩, .float .f64 0, .int .i64 0, .slice none 0 0] 66)).heap.size = w.heap.size + 1 := by simp
 refine ⟨(Below.heap_alloc _ _ _ (by omega)).trans (heap_alloc_new w _), ?_, by omega, by omega, by omega, below_alloc (below_alloc (Below.refl _ _) _) _⟩
 have := heap_alloc_new (w.alloc (.cells #[.int .i64 0, .string ⟨#[]⟩, .string ⟨#[]⟩, .float .f64 0, .int .i64 0, .slice none 0 0] 66)) (.cells #[.int .i64 0, .string ⟨#[]⟩, .string ⟨#[]⟩, .float .f64 0, .int .i64 0, .slice none 0 0] 66)
 rwa [e] at this
def PaL (T : Int) (s str : ByteArray) (w : World) : Prop := ∀ (W : World) (g v : Nat) (K : Act → World → Prop) (hK : ∀ a w', paTail.wp Tryz.prog (bodyPost Tryz.prog Tryz.f43 (PaPost T s str w)) a w' → K a w') (H : Two w W g v 0 ⟨#[]⟩ ⟨#[]⟩ 0) (u1 u5 u6 u7 u8 u9 u10 u11 u12 u13 u14 u15 u16 u17 u18 u19 u20 u21 u22 u23 u24 u25 u26 u27 u28 u29 u30 u31 u32 u33 u34 u35 u36 u37 u38 u39 u40 u41 u42 u43 u44 u45 u46 u47 u48 u49 u50 u51 u52 u53 u54 u55 u56 u57 u58 u59 u60 u61 u62 u63 u64 u65 u66 u67 u68 u69 u70 u71 u72 u73 u74 u75 u76 u77 u78 u79 u80 u81 u82 u83 u84 u85 u86 u87 u88 u89 u90 u91 u92 u93 u94 u95 u96 u97 u98 u99 u100 u101 u102 u103 u104 u105 u106 u107 u108 u109 u110 u111 u112 u113 u114 u115 u116 u117 u118 u119 u120 u121 u122 : Value),
  paLoop.wp Tryz.prog (Exit.inBlock 0 (Exit.then K (bodyPost Tryz.prog Tryz.f43 (PaPost T s str w)))) ⟨List.toArray [.string s, u1, .pointer (some ⟨g, 0, none⟩), .pointer (some ⟨v, 0, none⟩), .int .i64 0, u5, u6, u7, u8, u9, u10, u11, u12, u13, u14, u15, u16, u17, u18, u19, u20, u21, u22, u23, u24, u25, u26, u27, u28, u29, u30, u31, u32, u33, u34, u35, u36, u37, u38, u39, u40, u41, u42, u43, u44, u45, u46, u47, u48, u49, u50, u51, u52, u53, u54, u55, u56, u57, u58, u59, u60, u61, u62, u63, u64, u65, u66, u67, u68, u69, u70, u71, u72, u73, u74, u75, u76, u77, u78, u79, u80, u81, u82, u83, u84, u85, u86, u87, u88, u89, u90, u91, u92, u93, u94, u95, u96, u97, u98, u99, u100, u101, u102, u103, u104, u105, u106, u107, u108, u109, u110, u111, u112, u113, u114, u115, u116, u117, u118, u119, u120, u121, u122], []⟩ W
theorem parse_of {T : Int} {s str : ByteArray} {w : World} (h : PaL T s str w) : Calls Tryz.prog 43 #[.string s] w (PaPost T s str w) := by
 have HL := Aside0.mk h
 clear h
 go_enter Tryz.func43, Tryz.ntmps43
 go_wp2_with fail
 exact HL.out _ _ _ _ (by assumption) (two_new w) _ _ _ _ _ _ _ _ _ _ _ _ _ _ _ _ _ _ _ _ _ _ _ _ _ _ _ _ _ _ _ _ _ _ _ _ _ _ _ _ _ _ _ _ _ _ _ _ _ _ _ _ _ _ _ _ _ _ _ _ _ _ _ _ _ _ _ _ _ _ _ _ _ _ _ _ _ _ _ _ _ _ _ _ _ _ _ _ _ _ _ _ _ _ _ _ _ _ _ _ _ _ _ _ _ _ _ _ _ _ _ _ _ _ _ _ _ _ _
theorem parse_json (s : ByteArray) (w : World) (hz : s.size ≤ 65536) (hs : 0 < s.size) (h : bt s 0 = 123 ∨ bt s 0 = 91) : Calls Tryz.prog 43 #[.string s] w (PaPost 5 s ⟨#[]⟩ w) :=
 parse_of fun W g v K hK H => paLoop_json s w W g v K _ hK H hz hs h (fun _ _ q => q)
theorem parse_str (s : ByteArray) (w : World) (hz : s.size ≤ 65536) (o : List Int) (hl : o.length ≤ 65536) (h : Str s 0 s.size) (hd : PDec (s.extract 1 (s.size - 1)) (s.extract 1 (s.size - 1)).size 0 o) : Calls Tryz.prog 43 #[.string s] w (PaPost 3 s (strOfNums o) w) := by
 obtain ⟨_, h34, j, hj, hj1, _, hj34, hB⟩ := h
 have e : ((s.size - 1 : Nat) : Int) = j := by omega
 have hc : ∀ W', Calls Tryz.prog 68 #[.string s] W' (TsPost s o W') := fun W' => tostr_calls s (s.size - 1) hz (by omega) (by omega) (by rw [e]; exact hj34) (by rw [e]; exact hB) o hd hl W'
 exact parse_of fun W g v K hK H => paLoop_str s w W g v K _ hK H hz (by omega) (strOfNums o) h34 hc (fun _ _ q => q)
theorem parse_num (s : ByteArray) (w : World) (hz : s.size ≤ 65536) (a b c : Int) (N : NumAt s a b c) (T : Tabs w) : Calls Tryz.prog 43 #[.string s] w (PaPost 2 s ⟨#[]⟩ w) := by
 have hs0 : 0 < s.size := by rcases N.a0 with h | h <;> (have := N.ab; have := N.bc; have := N.cs; omega)
 have h0 : bt s 0 = 45 ∨ (48 ≤ bt s 0 ∧ bt s 0 ≤ 57) := by
  rcases N.a0 with h | h
  ·right; exact N.ints 0 (by omega) (by have := N.ab; omega)
  ·left; exact h.2
 exact parse_of fun W g v K hK H => paLoop_num s w W g v K _ hK H hz hs0 h0 (fun W' hb => tonum_calls s a b c W' hz N (T.below hb)) (fun _ _ q => q)
theorem let_null : ∀ i : Int, 1 ≤ i → i < wNull.size → 97 ≤ bt wNull i ∧ bt wNull i ≤ 122 := by
 intro i h0 h1
 have h2 : i < 4 := h1
 have h3 : i = 1 ∨ i = 2 ∨ i = 3 := by omega
 rcases h3 with rfl | rfl | rfl <;> decide
theorem let_true : ∀ i : Int, 1 ≤ i → i < wTrue.size → 97 ≤ bt wTrue i ∧ bt wTrue i ≤ 122 := by
 intro i h0 h1
 have h2 : i < 4 := h1
 have h3 : i = 1 ∨ i = 2 ∨ i = 3 := by omega
 rcases h3 with rfl | rfl | rfl <;> decide
theorem let_false : ∀ i : Int, 1 ≤ i → i < wFalse.size → 97 ≤ bt wFalse i ∧ bt wFalse i ≤ 122 := by
 intro i h0 h1
 have h2 : i < 5 := h1
 have h3 : i = 1 ∨ i = 2 ∨ i = 3 ∨ i = 4 := by omega
 rcases h3 with rfl | rfl | rfl | rfl <;> decide
theorem parse_null (w : World) : Calls Tryz.prog 43 #[.string wNull] w (PaPost 0 wNull ⟨#[]⟩ w) :=
 parse_of fun W g v K hK H => paLoop_null wNull w W g v K _ hK H (by decide) (by decide) (by decide) (by decide) (by decide) let_null (fun _ _ q => q)
theorem parse_true (w : World) : Calls Tryz.prog 43 #[.string wTrue] w (PaPost 4 wTrue ⟨#[]⟩ w) :=
 parse_of fun W g v K hK H => paLoop_true wTrue w W g v K _ hK H (by decide) (by decide) (by decide) let_true (fun _ _ q => q)
theorem parse_false (w : World) : Calls Tryz.prog 43 #[.string wFalse] w (PaPost 1 wFalse ⟨#[]⟩ w) :=
 parse_of fun W g v K hK H => paLoop_false wFalse w W g v K _ hK H (by decide) (by decide) (by decide) let_false (fun _ _ q => q)
end Go.Proofs.YtgiioglmkogpkaaGreatDoor.F
namespace Go.Proofs.YtgiioglmkogpkaaGreatDoor.F
open Go.RowKit Go.Proofs.YtgiioglmkogpkaaGreatDoorW.PrintWords Go.Proofs.YtgiioglmkogpkaaGreatDoorW.PrintLast Go.Proofs.YtgiioglmkogpkaaGreatDoorW.PrintMore
open M L
set_option maxHeartbeats 4000000
set_option maxRecDepth 8192
attribute [local go_sem] run_store_float
def r41 (T : Int) (s str : ByteArray) (x : Nat) : Value := .agg #[.int .i64 T, .string s, .string str, .float .f64 x, .bool true]
structure Gb (w W : World) (g r : Nat) (T : Int) (s str : ByteArray) (x : Nat) : Prop where
 hg : W.heap[g]? = some (.cells #[.int .i64 T, .string s, .string str, .float .f64 x, .int .i64 0, .slice none 0 0] 66 (0, 0))
 hr : W.heap[r]? = some (.cells #[.int .i64 0, .string ⟨#[]⟩, .string ⟨#[]⟩, .float .f64 0, .bool false] 41 (0, 0)) ∨ W.heap[r]? = some (.cells #[.int .i64 T, .string s, .string str, .float .f64 x, .bool true] 41 (0, 0))
 ne : g ≠ r
 gb : w.heap.size ≤ g
 rb : w.heap.size ≤ r
 be : Below w.heap.size w W
def cellv (w : World) (r i : Nat) : Value := (w.cell? ⟨r, i, none⟩).getD undef
theorem cellv_of {w : World} {r i : Nat} {v : Value} (h : w.cell? ⟨r, i, none⟩ = some v) : w.cell? ⟨r, i, none⟩ = some (cellv w r i) := by simp [cellv, h]
theorem Gb.all {w W : World} {g r : Nat} {T : Int} {s str : ByteArray} {x : Nat} (h : Gb w W g r T s str x) :
  Gb w W g r T s str x ∧ W.cell? ⟨g, 0, none⟩ = some (.int .i64 T) ∧ W.cell? ⟨g, 1, none⟩ = some (.string s) ∧ W.cell? ⟨g, 2, none⟩ = some (.string str) ∧ W.cell? ⟨g, 3, none⟩ = some (.float .f64 x) ∧ W.cell? ⟨g, 4, none⟩ = some (.int .i64 0) ∧ W.cell? ⟨g, 5, none⟩ = some (.slice none 0 0) ∧
   (∀ i, W.frozen? ⟨r, i, none⟩ = false) ∧ W.cell? ⟨r, 0, none⟩ = some (cellv W r 0) ∧ W.cell? ⟨r, 1, none⟩ = some (cellv W r 1) ∧ W.cell? ⟨r, 2, none⟩ = some (cellv W r 2) ∧ W.cell? ⟨r, 3, none⟩ = some (cellv W r 3) ∧ W.cell? ⟨r, 4, none⟩ = some (cellv W r 4) :=
 ⟨h, blk_cell h.hg 0, blk_cell h.hg 1, blk_cell h.hg 2, blk_cell h.hg 3, blk_cell h.hg 4, blk_cell h.hg 5, by rcases h.hr with h | h <;> exact blk_frozen h, by rcases h.hr with h | h <;> exact cellv_of (blk_cell h 0), by rcases h.hr with h | h <;> exact cellv_of (blk_cell h 1), by rcases h.hr with h | h <;> exact cellv_of (blk_cell h 2), by rcases h.hr with h | h <;> exact cellv_of (blk_cell h 3), by rcases h.hr with h | h <;> exact cellv_of (blk_cell h 4)⟩
theorem Gb.drew {w W : World} {g r : Nat} {T : Int} {s str : ByteArray} {x : Nat} (h : Gb w W g r T s str x) : Gb w W.drew g r T s str x :=
 ⟨h.hg, h.hr, h.ne, h.gb, h.rb, below_drew h.be⟩
theorem Gb.below {w W W2 : World} {g r : Nat} {T : Int} {s str : ByteArray} {x : Nat} (h : Gb w W g r T s str x) (hb : Below W.heap.size W W2) : Gb w W2 g r T s str x := by
 refine ⟨(hb.block g (blk_lt h.hg)).trans h.hg, ?_, h.ne, h.gb, h.rb, below_then h.be h.be.size hb⟩
 rcases h.hr with h | h
 ·exact .inl ((hb.block r (blk_lt h)).trans h)
 ·exact .inr ((hb.block r (blk_lt h)).trans h)
theorem Gb.store {w W : World} {g r : Nat} {T : Int} {s str : ByteArray} {x : Nat} (h : Gb w W g r T s str x) :
  Gb w (((((W.setCell ⟨r, 0, none⟩ (.int .i64 T)).setCell ⟨r, 1, none⟩ (.string s)).setCell ⟨r, 2, none⟩ (.string str)).setCell ⟨r, 3, none⟩ (.float .f64 x)).setCell ⟨r, 4, none⟩ (.bool true)) g r T s str x :=
 ⟨blk_far (blk_far (blk_far (blk_far (blk_far h.hg h.ne _) h.ne _) h.ne _) h.ne _) h.ne _, .inr (by rcases h.hr with h | h <;> exact blk_set (blk_set (blk_set (blk_set (blk_set h 0 _) 1 _) 2 _) 3 _) 4 _), h.ne, h.gb, h.rb, below_set (below_set (below_set (below_set (below_set h.be h.rb) h.rb) h.rb) h.rb) h.rb⟩
theorem Gb.fin {w X : World} {g r : Nat} {T : Int} {s str : ByteArray} {x : Nat} (h : Gb w (X.setCell ⟨r, 4, none⟩ (.bool true)) g r T s str x) :
  (X.setCell ⟨r, 4, none⟩ (.bool true)).heap[r]? = some (.cells #[.int .i64 T, .string s, .string str, .float .f64 x, .bool true] 41 (0, 0)) := by
 rcases h.hr with h1 | h1
 ·exfalso
  simp only [World.setCell, Array.getElem?_modify, if_true] at h1
  cases hq : X.heap[r]? with
  | none => rw [hq] at h1; simp at h1
  | some o =>
   rw [hq] at h1
   cases o <;> simp at h1
   rename_i cs t f
   obtain ⟨q, _⟩ := h1
   have := congrArg (fun a => a[4]?) q
   simp [Array.getElem?_setIfInBounds] at this
 ·exact h1
theorem r41End (P : Ending → World → Prop) (s str : ByteArray) (T : Int) (x : Nat) (W : World) (r : Nat) (tm : Array Value) (h2 : tm.getD 2 undef = .pointer (some ⟨r, 0, none⟩)) (hg : W.heap[r]? = some (.cells #[.int .i64 T, .string s, .string str, .float .f64 x, .bool true] 41 (0, 0))) (hb : P (.returned (r41 T s str x)) W) :
  bodyPost Tryz.prog Tryz.f39 P .ret ⟨tm, []⟩ W := by
 have n0 := blk_cell hg 0
 have n1 := blk_cell hg 1
 have n2 := blk_cell hg 2
 have n3 := blk_cell hg 3
 have n4 := blk_cell hg 4
 refine bodyPost_ret (v := r41 T s str x) ?_ rfl hb
 simp only [results, Tryz.results39]
 have h2' := h2
 simp only [Array.getD_eq_getD_getElem?] at h2'
 simp [go_sem, h2, h2', n0, n1, n2, n3, n4, r41]
theorem gj_calls (T : Int) (s str : ByteArray) (x : Nat) (w : World) (hT : T ≠ 0 ∨ 0 < s.size) :
  Calls Tryz.prog 39 #[res T s str x] w fun e w' => e = .returned (r41 T s str x) ∧ Below w.heap.size w w' := by
 have HT := Aside0.mk hT
 clear hT
 simp only [res, r41]
 go_enter Tryz.func39, Tryz.ntmps39
 go_wp2_with fail
 have G0 : Gb w ((w.alloc (.cells #[.int .i64 T, .string s, .string str, .float .f64 x, .int .i64 0, .slice none 0 0] 66)).alloc (.cells #[.int .i64 0, .string ⟨#[]⟩, .string ⟨#[]⟩, .float .f64 0, .bool false] 41)) w.heap.size (w.heap.size + 1) T s str x := by
  have e : (w.alloc (.cells #[.int .i64 T, .string s, .string str, .float .f64 x, .int .i64 0, .slice none 0 0] 66)).heap.size = w.heap.size + 1 := by simp
  have := heap_alloc_new (w.alloc (.cells #[.int .i64 T, .string s, .string str, .float .f64 x, .int .i64 0, .slice none 0 0] 66)) (.cells #[.int .i64 0, .string ⟨#[]⟩, .string ⟨#[]⟩, .float .f64 0, .bool false] 41)
  rw [e] at this
  exact ⟨(Below.heap_alloc _ _ _ (by omega)).trans (heap_alloc_new w _), .inl this, by omega, by omega, by omega, below_alloc (below_alloc (Below.refl _ _) _) _⟩
 generalize (w.alloc (.cells #[.int .i64 T, .string s, .string str, .float .f64 x, .int .i64 0, .slice none 0 0] 66)).alloc (.cells #[.int .i64 0, .string ⟨#[]⟩, .string ⟨#[]⟩, .float .f64 0, .bool false] 41) = W at *
 generalize w.heap.size = g at *
 generalize g + 1 = r at *
 have G1 := G0.drew
 go_region_held3 (fun w' => Gb w w' g r T s str x ∧ w'.cell? ⟨g, 0, none⟩ = some (.int .i64 T) ∧ w'.cell? ⟨g, 1, none⟩ = some (.string s) ∧ w'.cell? ⟨g, 2, none⟩ = some (.string str) ∧ w'.cell? ⟨g, 3, none⟩ = some (.float .f64 x) ∧ w'.cell? ⟨g, 4, none⟩ = some (.int .i64 0) ∧ w'.cell? ⟨g, 5, none⟩ = some (.slice none 0 0) ∧
   (∀ i, w'.frozen? ⟨r, i, none⟩ = false) ∧ w'.cell? ⟨r, 0, none⟩ = some (cellv w' r 0) ∧ w'.cell? ⟨r, 1, none⟩ = some (cellv w' r 1) ∧ w'.cell? ⟨r, 2, none⟩ = some (cellv w' r 2) ∧ w'.cell? ⟨r, 3, none⟩ = some (cellv w' r 3) ∧ w'.cell? ⟨r, 4, none⟩ = some (cellv w' r 4))
  ((go_split_ands; first | exact Gb.all (by assumption) | exact Gb.all (Gb.below (by assumption) (by assumption)) | exact Gb.all (Gb.store (by assumption))))
  (first | (go_at_call 63; refine (exists_calls T s str x _ HT.out).mono ?_; rintro e w2 ⟨rfl, hb⟩))
 go_split_ands
 have Gf : Gb w (((((w2.setCell ⟨r, 0, none⟩ (.int .i64 T)).setCell ⟨r, 1, none⟩ (.string s)).setCell ⟨r, 2, none⟩ (.string str)).setCell ⟨r, 3, none⟩ (.float .f64 x)).setCell ⟨r, 4, none⟩ (.bool true)) g r T s str x := by assumption
 have hf := Gf.fin
 have hbe := Gf.be
 have HE := Aside0.mk (And.intro hf hbe)
 go_wp2_with fail
 exact r41End _ s str T x _ r _ rfl HE.out.1 ⟨rfl, HE.out.2⟩
end Go.Proofs.YtgiioglmkogpkaaGreatDoor.F
namespace Go.Proofs.YtgiioglmkogpkaaGreatDoor.F
open Go.RowKit Go.Proofs.YtgiioglmkogpkaaGreatDoorW.PrintWords Go.Proofs.YtgiioglmkogpkaaGreatDoorW.PrintLast Go.Proofs.YtgiioglmkogpkaaGreatDoorW.PrintMore
open M L
set_option maxHeartbeats 4000000
set_option maxRecDepth 8192
attribute [local go_sem] run_store_float
def GpPost (T : Int) (s str : ByteArray) (w : World) (e : Ending) (w' : World) : Prop := ∃ x : Nat, e = .returned (r41 T s str x) ∧ Below w.heap.size w w'
structure Nb (w W : World) (r : Nat) : Prop where
 hr : W.heap[r]? = some (.cells #[.int .i64 0, .string ⟨#[]⟩, .string ⟨#[]⟩, .float .f64 0, .bool false] 41 (0, 0))
 rb : w.heap.size ≤ r
 be : Below w.heap.size w W
theorem Nb.new (w : World) : Nb w (w.alloc (.cells #[.int .i64 0, .string ⟨#[]⟩, .string ⟨#[]⟩, .float .f64 0, .bool false] 41)) w.heap.size :=
 ⟨heap_alloc_new w _, Nat.le_refl _, below_alloc (Below.refl _ _) _⟩
theorem Nb.below {w W W2 : World} {r : Nat} (h : Nb w W r) (hb : Below W.heap.size W W2) : Nb w W2 r :=
 ⟨(hb.block r (blk_lt h.hr)).trans h.hr, h.rb, below_then h.be h.be.size hb⟩
theorem r41End26 (P : Ending → World → Prop) (s str : ByteArray) (T : Int) (x : Nat) (W : World) (r : Nat) (tm : Array Value) (h2 : tm.getD 2 undef = .pointer (some ⟨r, 0, none⟩)) (hg : W.heap[r]? = some (.cells #[.int .i64 T, .string s, .string str, .float .f64 x, .bool true] 41 (0, 0))) (hb : P (.returned (r41 T s str x)) W) :
  bodyPost Tryz.prog Tryz.f26 P .ret ⟨tm, []⟩ W := by
 have n0 := blk_cell hg 0
 have n1 := blk_cell hg 1
 have n2 := blk_cell hg 2
 have n3 := blk_cell hg 3
 have n4 := blk_cell hg 4
 refine bodyPost_ret (v := r41 T s str x) ?_ rfl hb
 simp only [results, Tryz.results26]
 have h2' := h2
 simp only [Array.getD_eq_getD_getElem?] at h2'
 simp [go_sem, h2, h2', n0, n1, n2, n3, n4, r41]
theorem gjparse_calls (T : Int) (s str : ByteArray) (w : World) (hT : T ≠ 0 ∨ 0 < s.size) (hP : ∀ W, Below w.heap.size w W → Calls Tryz.prog 43 #[.string s] W (PaPost T s str W)) :
  Calls Tryz.prog 26 #[.string s] w (GpPost T s str w) := by
 have HT := Aside0.mk hT
 have HP := Aside0.mk hP
 clear hT hP
 go_enter Tryz.func26, Tryz.ntmps26
 have HN := Aside0.mk (Nb.new w)
 go_wp2_with (first
  | (go_at_call 43; refine (HP.out _ HN.out.be).mono ?_; rintro e w2 ⟨x, rfl, hb⟩; have HN2 := Aside0.mk (HN.out.below hb); clear hb)
  | (go_at_call 39; refine (gj_calls T s str x _ HT.out).mono ?_; rintro e w3 ⟨rfl, hb2⟩; simp only [r41]; have HN3 := Aside0.mk (HN2.out.below hb2); clear hb2; have n0 := blk_cell HN3.out.hr 0; have n1 := blk_cell HN3.out.hr 1; have n2 := blk_cell HN3.out.hr 2; have n3 := blk_cell HN3.out.hr 3; have n4 := blk_cell HN3.out.hr 4; have f0 := blk_frozen HN3.out.hr))
 refine r41End26 _ s str T x _ _ _ rfl (blk_set (blk_set (blk_set (blk_set (blk_set HN3.out.hr 0 _) 1 _) 2 _) 3 _) 4 _) ⟨x, rfl, ?_⟩
 have hrb := HN3.out.rb
 exact below_set (below_set (below_set (below_set (below_set HN3.out.be hrb) hrb) hrb) hrb) hrb
theorem resEnd (P : Ending → World → Prop) (s str : ByteArray) (T : Int) (x : Nat) (W : World) (g : Nat) (tm : Array Value) (h2 : tm.getD 2 undef = .pointer (some ⟨g, 0, none⟩)) (hg : W.heap[g]? = some (.cells #[.int .i64 T, .string s, .string str, .float .f64 x, .int .i64 0, .slice none 0 0] 66 (0, 0))) (hb : P (.returned (res T s str x)) W) :
  bodyPost Tryz.prog Tryz.f51 P .ret ⟨tm, []⟩ W := by
 have n0 := blk_cell hg 0
 have n1 := blk_cell hg 1
 have n2 := blk_cell hg 2
 have n3 := blk_cell hg 3
 have n4 := blk_cell hg 4
 have n5 := blk_cell hg 5
 refine bodyPost_ret (v := res T s str x) ?_ rfl hb
 simp only [results, Tryz.results51]
 have h2' := h2
 simp only [Array.getD_eq_getD_getElem?] at h2'
 simp [go_sem, h2, h2', n0, n1, n2, n3, n4, n5, res]
theorem gjof_calls (T : Int) (s str : ByteArray) (x : Nat) (w : World) :
  Calls Tryz.prog 51 #[r41 T s str x] w fun e w' => e = .returned (res T s str x) ∧ Below w.heap.size w w' := by
 simp only [r41]
 go_enter Tryz.func51, Tryz.ntmps51
 go_wp2_with fail
 have e : (w.alloc (.cells #[.int .i64 T, .string s, .string str, .float .f64 x, .bool true] 41)).heap.size = w.heap.size + 1 := by simp
 have hn := heap_alloc_new (w.alloc (.cells #[.int .i64 T, .string s, .string str, .float .f64 x, .bool true] 41)) (.cells #[.int .i64 T, .string s, .string str, .float .f64 x, .int .i64 0, .slice none 0 0] 66)
 rw [e] at hn
 exact resEnd _ s str T x _ _ _ rfl hn ⟨rfl, below_alloc (below_alloc (Below.refl _ _) _) _⟩
def FfPost (w : World) (e : Ending) (w' : World) : Prop := ∃ b : ByteArray, e = .returned (.string b) ∧ Below w.heap.size w w'
def FfAt (w : World) : Prop := ∀ (x : Nat) (W : World), Below w.heap.size w W → Calls Tryz.prog 77 #[.float .f64 x, .int .u8 102, .int .i64 (-1), .int .i64 64] W (FfPost W)
theorem string_fix (T : Int) (s str out : ByteArray) (x : Nat) (w : World) (h : (T = 3 ∧ out = str) ∨ (T = 5 ∧ out = s) ∨ (T = 4 ∧ out = wTrue) ∨ (T = 1 ∧ out = wFalse) ∨ (T = 0 ∧ out = ⟨#[]⟩)) :
  Calls Tryz.prog 52 #[res T s str x] w fun e w' => e = .returned (.string out) ∧ Below w.heap.size w w' := by
 have hb : ∀ o, Below w.heap.size w (w.alloc o) := below_alloc (Below.refl _ _)
 have HB := Aside0.mk hb
 clear hb
 simp only [res]
 rcases h with ⟨rfl, rfl⟩ | ⟨rfl, rfl⟩ | ⟨rfl, rfl⟩ | ⟨rfl, rfl⟩ | ⟨rfl, rfl⟩ <;>
 ·go_enter Tryz.func52, Tryz.ntmps52
  go_wp2_with fail
  go_ret
  exact ⟨rfl, HB.out _⟩
def Plain (s : ByteArray) : Prop := ∀ i : Int, (if bt s 0 = 45 then 1 else 0) ≤ i → i < s.size → 48 ≤ bt s i ∧ bt s i ≤ 57
def SnPost (s : ByteArray) (w : World) (e : Ending) (w' : World) : Prop := ∃ b : ByteArray, e = .returned (.string b) ∧ (Plain s → b = s) ∧ Below w.heap.size w w'
theorem string_num (s str : ByteArray) (x : Nat) (w : World) (hz : s.size ≤ 65536) (hs : 0 < s.size) (hF : FfAt w) :
  Calls Tryz.prog 52 #[res 2 s str x] w (SnPost s w) := by
 have hb : ∀ o, Below w.heap.size w (w.alloc o) := below_alloc (Below.refl _ _)
 have HB := Aside0.mk hb
 have HF := Aside0.mk hF
 have hb0 : ∀ h : 0 < s.size, ((s[0]'h).toNat : Int) = bt s 0 := bt_at s 0
 clear hb hF
 have hsz : ((s.size : Int) == 0) = false := beq_eq_false_iff_ne.mpr (by omega)
 simp only [res]
 by_cases h45 : bt s 0 = 45
 ·have x1 : (bt s 0 == 45) = true := beq_iff_eq.mpr h45
  have H45 := Aside0.mk h45
  clear h45
  go_enter Tryz.func52, Tryz.ntmps52
  go_wp2_with fail
  go_loopg [2, 3] (s.size - 1) (fun kq v2 v3 w' => ∃ i : Int, v3 = .int .i64 i ∧ (1 ≤ i ∧ i ≤ s.size) ∧ (kq : Int) + i = s.size ∧ Aside0 (∀ j : Int, 1 ≤ j → j < i → 48 ≤ bt s j ∧ bt s j ≤ 57) ∧ w.alloc (.cells #[.int .i64 2, .string s, .string str, .float .f64 x, .int .i64 0, .slice none 0 0] 66) = w')
  case atStart => exact ⟨1, rfl, by omega, by omega, ⟨fun j h1 h2 => by omega⟩, rfl⟩
  case round =>
   obtain ⟨i, rfl, hi, hk, HD, rfl⟩ := hrel
   obtain ⟨y, hy⟩ : ∃ y, y = bt s i := ⟨_, rfl⟩
   have hyb : ∀ h : i.toNat < s.size, ((s[i.toNat]'h).toNat : Int) = y := fun h => by rw [hy]; exact bt_at s i h
   have HY := Aside0.mk hy
   clear hb0 hy
   have h0i : 0 ≤ i := by omega
   by_cases e1 : i < s.size
   ·by_cases e2 : y < 48
    ·have y1 : decide (y < 48) = true := decide_eq_true e2
     go_wp2_with (go_at_call 77; refine (HF.out x _ (HB.out _)).mono ?_; rintro e w2 ⟨b, rfl, hb⟩)
     all_goals (go_ret; exact ⟨b, rfl, fun hp => absurd (hp i (by rw [if_pos H45.out]; omega) e1).1 (by have := HY.out; omega), below_then (HB.out _) (HB.out _).size hb⟩)
    ·have y1 : decide (y < 48) = false := decide_eq_false e2
     by_cases e3 : 57 < y
     ·have y2 : decide (57 < y) = true := decide_eq_true e3
      go_wp2_with (go_at_call 77; refine (HF.out x _ (HB.out _)).mono ?_; rintro e w2 ⟨b, rfl, hb⟩)
      all_goals (go_ret; exact ⟨b, rfl, fun hp => absurd (hp i (by rw [if_pos H45.out]; omega) e1).2 (by have := HY.out; omega), below_then (HB.out _) (HB.out _).size hb⟩)
     ·have y2 : decide (57 < y) = false := decide_eq_false e3
      go_wp2_with fail
      all_goals (go_roundg (gk - 1); (case measure => omega); (case rel => exact ⟨i + 1, rfl, by omega, by omega, ⟨fun j h1 h2 => by
       by_cases hj : j < i
       ·exact HD.out j h1 hj
       ·have hji : j = i := by omega
        subst hji
        have := HY.out
        omega⟩, rfl⟩))
   ·have e8 : i = s.size := by omega
    subst e8
    go_wp2_with fail
    all_goals (go_ret; exact ⟨s, rfl, fun _ => rfl, HB.out _⟩)
 ·have x1 : (bt s 0 == 45) = false := beq_eq_false_iff_ne.mpr h45
  have H45 := Aside0.mk h45
  clear h45
  go_enter Tryz.func52, Tryz.ntmps52
  go_wp2_with fail
  go_loopg [2, 3] s.size (fun kq v2 v3 w' => ∃ i : Int, v3 = .int .i64 i ∧ (0 ≤ i ∧ i ≤ s.size) ∧ (kq : Int) + i = s.size ∧ Aside0 (∀ j : Int, 0 ≤ j → j < i → 48 ≤ bt s j ∧ bt s j ≤ 57) ∧ w.alloc (.cells #[.int .i64 2, .string s, .string str, .float .f64 x, .int .i64 0, .slice none 0 0] 66) = w')
  case atStart => exact ⟨0, rfl, by omega, by omega, ⟨fun j h1 h2 => by omega⟩, rfl⟩
  case round =>
   obtain ⟨i, rfl, hi, hk, HD, rfl⟩ := hrel
   obtain ⟨y, hy⟩ : ∃ y, y = bt s i := ⟨_, rfl⟩
   have hyb : ∀ h : i.toNat < s.size, ((s[i.toNat]'h).toNat : Int) = y := fun h => by rw [hy]; exact bt_at s i h
   have HY := Aside0.mk hy
   clear hb0 hy
   have h0i : 0 ≤ i := by omega
   by_cases e1 : i < s.size
   ·by_cases e2 : y < 48
    ·have y1 : decide (y < 48) = true := decide_eq_true e2
     go_wp2_with (go_at_call 77; refine (HF.out x _ (HB.out _)).mono ?_; rintro e w2 ⟨b, rfl, hb⟩)
     all_goals (go_ret; exact ⟨b, rfl, fun hp => absurd (hp i (by rw [if_neg H45.out]; omega) e1).1 (by have := HY.out; omega), below_then (HB.out _) (HB.out _).size hb⟩)
    ·have y1 : decide (y < 48) = false := decide_eq_false e2
     by_cases e3 : 57 < y
     ·have y2 : decide (57 < y) = true := decide_eq_true e3
      go_wp2_with (go_at_call 77; refine (HF.out x _ (HB.out _)).mono ?_; rintro e w2 ⟨b, rfl, hb⟩)
      all_goals (go_ret; exact ⟨b, rfl, fun hp => absurd (hp i (by rw [if_neg H45.out]; omega) e1).2 (by have := HY.out; omega), below_then (HB.out _) (HB.out _).size hb⟩)
     ·have y2 : decide (57 < y) = false := decide_eq_false e3
      go_wp2_with fail
      all_goals (go_roundg (gk - 1); (case measure => omega); (case rel => exact ⟨i + 1, rfl, by omega, by omega, ⟨fun j h1 h2 => by
       by_cases hj : j < i
       ·exact HD.out j h1 hj
       ·have hji : j = i := by omega
        subst hji
        have := HY.out
        omega⟩, rfl⟩))
   ·have e8 : i = s.size := by omega
    subst e8
    go_wp2_with fail
    all_goals (go_ret; exact ⟨s, rfl, fun _ => rfl, HB.out _⟩)
end Go.Proofs.YtgiioglmkogpkaaGreatDoor.F
namespace Go.Proofs.YtgiioglmkogpkaaGreatDoor.F
open Go.RowKit Go.Proofs.YtgiioglmkogpkaaGreatDoorW.PrintWords Go.Proofs.YtgiioglmkogpkaaGreatDoorW.PrintLast Go.Proofs.YtgiioglmkogpkaaGreatDoorW.PrintMore
open M L
set_option maxHeartbeats 4000000
set_option maxRecDepth 8192
attribute [local go_sem] max2_int min2_int
theorem ff108_calls (x : Nat) (w : World) (U : U10 w) (P : Pow w) : Calls Tryz.prog 108 #[.float .f64 x, .int .u8 102, .int .i64 (-1), .int .i64 64] w (FfPost w) := by
 have hmax : max (3 : Int) 24 = 24 := by decide
 obtain ⟨i0, hi0, hzz⟩ := Option.map_eq_some_iff.1 info5h
 simp only [Prod.mk.injEq] at hzz
 obtain ⟨hz0, hz1, hz2⟩ := hzz
 obtain ⟨W, hmk, hO, hG⟩ := run_make_own (P := Tryz.prog) w w.heap.size 103 5 i0 (.int .u8 0) 1 Tryz.underlying103 hi0 hz0 hz1 .i64 .i64 24 (by rw [hz2]; omega) (by simp only [maxLen]; omega) (Nat.le_refl _)
 have hmk2 : (Instr.makeSlice 103 (.int .i64 0) (.int .i64 24)).run Tryz.prog w = .ok (.slice (some ⟨w.heap.size, 0, none⟩) 0 24) W := hmk
 clear hi0 hz0 hz1 hz2 hmk
 have hB : Below w.heap.size w W := (Below.refl _ _).grown hG (Nat.le_refl _) (by simp)
 have HI : FtIn w W (.slice (some ⟨w.heap.size, 0, none⟩) 0 24) := ⟨hO, hB, U, P⟩
 have HC := Aside0.mk (ftoa64_calls x _ w W HI)
 clear hO hG hB HI U P
 go_enter Tryz.func108, Tryz.ntmps108
 go_wp2_with (go_at_call 133; refine HC.out.mono ?_; rintro e' w2 ⟨v', pre, rfl, hl, ho, hb⟩; have hcv := own_string Tryz.underlying103 Tryz.underlying5 Tryz.underlying9 ho; have HB2 := Aside0.mk hb; clear ho hb)
 go_ret
 exact ⟨_, rfl, HB2.out⟩
theorem ff77_calls (x : Nat) (w : World) (U : U10 w) (P : Pow w) : Calls Tryz.prog 77 #[.float .f64 x, .int .u8 102, .int .i64 (-1), .int .i64 64] w (FfPost w) := by
 have HC := Aside0.mk (ff108_calls x w U P)
 clear U P
 go_enter Tryz.func77, Tryz.ntmps77
 go_wp2_with (go_at_call 108; refine HC.out.mono ?_; rintro e' w2 ⟨b, rfl, hb⟩; have HB2 := Aside0.mk hb; clear hb)
 go_ret
 exact ⟨_, rfl, HB2.out⟩
theorem ffAt (w : World) (U : U10 w) (P : Pow w) : FfAt w := fun x W hb => ff77_calls x W (U.below hb) (P.below hb)
end Go.Proofs.YtgiioglmkogpkaaGreatDoor.F

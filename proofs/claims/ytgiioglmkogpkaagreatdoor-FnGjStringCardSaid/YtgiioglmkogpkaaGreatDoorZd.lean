/- Texts behind the law FnGjString: part 4. -/
import Derived.Test.YtgiioglmkogpkaaGreatDoorZa
import Derived.Test.YtgiioglmkogpkaaGreatDoorZb
import Derived.Test.YtgiioglmkogpkaaGreatDoorZc
import Derived.WalkMore
import Derived.Deep.LoopGhost
import Derived.Laws.BitsLemmas
set_option linter.unusedVariables false
set_option linter.unusedSimpArgs false
namespace Go.Proofs.YtgiioglmkogpkaaGreatDoor.M
open Go.RowKit Go.Proofs.YtgiioglmkogpkaaGreatDoorW.PrintWords Go.Proofs.YtgiioglmkogpkaaGreatDoorW.PrintLast Go.Proofs.YtgiioglmkogpkaaGreatDoorW.PrintMore
set_option maxHeartbeats 8000000
set_option maxRecDepth 100000
attribute [local go_sem] max2_int min2_int max_two min_two max_three min_three max_four min_four
theorem spec_reader_value.step (k : Nat) (ih101_ : ∀ m_, m_ < k → spec_reader_members.Spec m_) (ih102_ : ∀ m_, m_ < k → spec_reader_elements.Spec m_) (ih73_ : ∀ m_, m_ < k → spec_reader_value.Spec m_) : spec_reader_value.Spec k := by
 intro g s0_0 s0_1 r1 r2 r3 r4 r5 r6 r7 r8 w0 w hI hB h
 cases k with
 | zero => exact absurd h (by simp [spec_reader_value.f])
 | succ k =>
 have ih101 := Aside0.mk ih101_
 clear ih101_
 have ih102 := Aside0.mk ih102_
 clear ih102_
 have ih73 := Aside0.mk ih73_
 clear ih73_
 simp only [spec_reader_value.f] at h
 have hu78 := Tryz.underlying78
 have HI0 := Aside0.mk hI
 have HK := Aside0.mk (KeepBut.refl w g none)
 have HL := Aside0.mk hB.size
 clear hI
 have HW0 := Aside0.mk hB.size
 have HB := Aside0.mk hB
 clear hB
 have H : ((spec_reader_here.f s0_0 s0_1).bind fun bt232 => (if bt232.1 = 123 then ((spec_reader_members.f k bt232.2.1 bt232.2.2).bind fun bt235 => (some (6, s0_1, bt235.2.2.2.2, bt235.1, bt235.2.1, bt235.2.2.1, bt235.2.2.2.1, bt235.2.2.2.2))) else (if bt232.1 = 91 then ((spec_reader_elements.f k bt232.2.1 bt232.2.2).bind fun bt244 => (some (5, s0_1, bt244.2.2.2, ([] : List (S115)), bt244.1, bt244.2.1, bt244.2.2.1, bt244.2.2.2))) else (if bt232.1 = 34 then ((spec_reader_quoted.f k bt232.2.1 bt232.2.2).bind fun bt250 => (some (4, s0_1, bt250.2.2, ([] : List (S115)), ([] : List (S78)), bt250.1, bt250.2.1, bt250.2.2))) else (if bt232.1 = 45 then (spec_reader_value.j0 k true true bt232.2.1 bt232.2.2 0 s0_1 0) else (if 48 ≤ bt232.1 then (spec_reader_value.j0 k true (decide (bt232.1 ≤ 57)) bt232.2.1 bt232.2.2 0 s0_1 0) else (spec_reader_value.j0 k true false bt232.2.1 bt232.2.2 0 s0_1 0))))))) = some (r1, r2, r3, r4, r5, r6, r7, r8) := h
 clear h
 replace H := Option.bind_eq_some_iff.mp H
 obtain ⟨⟨t232, t233, t234⟩, A20, H⟩ := H
 try dsimp only at H
 have A2 := Aside0.mk A20
 clear A20
 by_cases c3 : t232 = 123
 ·rw [if_pos c3] at H
  have c3b0 : (t232 == 123) = true := beq_iff_eq.mpr c3
  have c3b1 : (t232 != 123) = false := bne_eq_false_iff_eq.mpr c3
  clear c3
  replace H := Option.bind_eq_some_iff.mp H
  obtain ⟨⟨t235, t238, t241, t242, t243⟩, A40, H⟩ := H
  try dsimp only at H
  have A4 := Aside0.mk A40
  clear A40
  simp only [Option.some.injEq, Prod.mk.injEq] at H
  obtain ⟨rfl, rfl, rfl, rfl, rfl, rfl, rfl, rfl⟩ := H
  go_enter Tryz.func73, Tryz.ntmps73
  go_wp2_with (first | ((with_reducible refine gate_dst (N := 2) rfl ?_); refine box_event ?hg (N := 2) ?hd (cs := #[.int .i64 0, .int .i64 0, .int .i64 0, .slice none 0 0, .slice none 0 0]) (t := 78) ?hr ?_; (case hd => rfl); (case hg => rfl); (case hr => first | (go_simp; done) | (go_simp; rfl)); intro gb230 hg w5 hbox hb; have n0_ := Aside0.mk (IsS112.below (by repeat (first | (with_reducible first | exact HI0.out | apply iA | apply iN | apply i1) | exact HI0.out)) hb); have n1_ := Aside0.mk (KeepBut.trans (by repeat (first | (with_reducible first | exact HK.out | apply kS | apply kN) | exact HK.out)) (KeepBut.of_below hb g none) (.inl rfl)); have n2_ := Aside0.mk (below_step (by repeat (first | (with_reducible first | exact HB.out | apply bA | apply bN | apply bD | refine below_set ?_ (IsS112.ge HI0.out)) | exact HB.out)) hb); have n3_ := Aside0.mk (hbox); have n4_ := Aside0.mk ((by rw [hg]; exact (keep_size (w := w) (g := g) (row := none) (by repeat (first | (with_reducible first | exact HK.out | apply kS | apply kN) | exact HK.out))) : w.heap.size ≤ gb230)); have n5_ := Aside0.mk ((Nat.le_trans HW0.out (by rw [hg]; exact (keep_size (w := w) (g := g) (row := none) (by repeat (first | (with_reducible first | exact HK.out | apply kS | apply kN) | exact HK.out))) : w.heap.size ≤ gb230) : w0.heap.size ≤ gb230)); have n6_ := Aside0.mk ((by rw [hg]; exact Nat.ne_of_lt (IsS112.lt (show IsS112 w0 _ g s0_0 s0_1 from by repeat (first | (with_reducible first | exact HI0.out | apply iA | apply iN | apply i1) | exact HI0.out))) : g ≠ gb230)); have n7_ := Aside0.mk ((by rw [hg]; exact Nat.ne_of_gt (IsS112.lt (show IsS112 w0 _ g s0_0 s0_1 from by repeat (first | (with_reducible first | exact HI0.out | apply iA | apply iN | apply i1) | exact HI0.out))) : gb230 ≠ g)); clear HI0; clear HK; clear HB; have HI0 := n0_; have HK := n1_; have HB := n2_; have BK230 := n3_; have GW230 := n4_; have GE230 := n5_; have NB0_230 := n6_; have NB230_0 := n7_; clear n0_ n1_ n2_ n3_ n4_ n5_ n6_ n7_; clear hb hbox hg; obtain ⟨HGz6, hgz6⟩ := HI0.out; have hcz6_0 := cellS112_0 HGz6; have hcz6_1 := cellS112_1 HGz6; have hfz6_0 := blk_frozen HGz6 0; have hfz6_1 := blk_frozen HGz6 1; clear HGz6 hgz6) | ((with_reducible refine gate_dst (N := 4) rfl ?_); refine box_event ?hg (N := 4) ?hd (cs := #[.int .i64 0, .int .i64 0, .int .i64 0, .slice none 0 0, .slice none 0 0]) (t := 78) ?hr ?_; (case hd => rfl); (case hg => rfl); (case hr => first | (go_simp; done) | (go_simp; rfl)); intro gb231 hg w7 hbox hb; have n0_ := Aside0.mk (IsS112.below (by repeat (first | (with_reducible first | exact HI0.out | apply iA | apply iN | apply i1 | refine IsS112.far ?_ NB0_230.out _) | exact HI0.out)) hb); have n1_ := Aside0.mk (blk_below (g := gb230) (o := .cells #[.int .i64 0, .int .i64 0, .int .i64 0, .slice none 0 0, .slice none 0 0] 78 (0, 0)) (by (with_reducible repeat (first | refine lN ?_ _ | refine lD ?_ | refine lA ?_ _)); exact BK230.out) hb); have n2_ := Aside0.mk (KeepBut.trans (by repeat (first | (with_reducible first | exact HK.out | apply kS | apply kN | refine keep_far ?_ GW230.out _) | exact HK.out)) (KeepBut.of_below hb g none) (.inl rfl)); have n3_ := Aside0.mk (below_step (by repeat (first | (with_reducible first | exact HB.out | apply bA | apply bN | apply bD | refine below_set ?_ (IsS112.ge HI0.out) | refine below_set ?_ GE230.out) | exact HB.out)) hb); have n4_ := Aside0.mk (hbox); have n5_ := Aside0.mk ((by rw [hg]; exact (keep_size (w := w) (g := g) (row := none) (by repeat (first | (with_reducible first | exact HK.out | apply kS | apply kN | refine keep_far ?_ GW230.out _) | exact HK.out))) : w.heap.size ≤ gb231)); have n6_ := Aside0.mk ((Nat.le_trans HW0.out (by rw [hg]; exact (keep_size (w := w) (g := g) (row := none) (by repeat (first | (with_reducible first | exact HK.out | apply kS | apply kN | refine keep_far ?_ GW230.out _) | exact HK.out))) : w.heap.size ≤ gb231) : w0.heap.size ≤ gb231)); have n7_ := Aside0.mk ((by rw [hg]; exact Nat.ne_of_lt (blk_lt (g := gb230) (o := .cells #[.int .i64 0, .int .i64 0, .int .i64 0, .slice none 0 0, .slice none 0 0] 78 (0, 0)) (by (with_reducible repeat (first | refine lN ?_ _ | refine lD ?_ | refine lA ?_ _)); exact BK230.out)) : gb230 ≠ gb231)); have n8_ := Aside0.mk ((by rw [hg]; exact Nat.ne_of_gt (blk_lt (g := gb230) (o := .cells #[.int .i64 0, .int .i64 0, .int .i64 0, .slice none 0 0, .slice none 0 0] 78 (0, 0)) (by (with_reducible repeat (first | refine lN ?_ _ | refine lD ?_ | refine lA ?_ _)); exact BK230.out)) : gb231 ≠ gb230)); have n9_ := Aside0.mk ((by rw [hg]; exact Nat.ne_of_lt (IsS112.lt (show IsS112 w0 _ g s0_0 s0_1 from by repeat (first | (with_reducible first | exact HI0.out | apply iA | apply iN | apply i1 | refine IsS112.far ?_ NB0_230.out _) | exact HI0.out))) : g ≠ gb231)); have n10_ := Aside0.mk ((by rw [hg]; exact Nat.ne_of_gt (IsS112.lt (show IsS112 w0 _ g s0_0 s0_1 from by repeat (first | (with_reducible first | exact HI0.out | apply iA | apply iN | apply i1 | refine IsS112.far ?_ NB0_230.out _) | exact HI0.out))) : gb231 ≠ g)); clear HI0; clear BK230; clear HK; clear HB; have HI0 := n0_; have BK230 := n1_; have HK := n2_; have HB := n3_; have BK231 := n4_; have GW231 := n5_; have GE231 := n6_; have NB230_231 := n7_; have NB231_230 := n8_; have NB0_231 := n9_; have NB231_0 := n10_; clear n0_ n1_ n2_ n3_ n4_ n5_ n6_ n7_ n8_ n9_ n10_; clear hb hbox hg; have hnb8 := NB231_230.out; have hnc8 := NB230_231.out; have hnb9 := NB231_0.out; have hnc9 := NB0_231.out; have hcz10_0 : w7.cell? ⟨gb231, 0, none⟩ = some (.int .i64 0) := (blk_cell BK231.out 0).trans rfl; have hcz10_1 : w7.cell? ⟨gb231, 1, none⟩ = some (.int .i64 0) := (blk_cell BK231.out 1).trans rfl; have hcz10_2 : w7.cell? ⟨gb231, 2, none⟩ = some (.int .i64 0) := (blk_cell BK231.out 2).trans rfl; have hcz10_3 : w7.cell? ⟨gb231, 3, none⟩ = some (.slice none 0 0) := (blk_cell BK231.out 3).trans rfl; have hcz10_4 : w7.cell? ⟨gb231, 4, none⟩ = some (.slice none 0 0) := (blk_cell BK231.out 4).trans rfl; have hfz10_0 := blk_frozen BK231.out 0; have hfz10_1 := blk_frozen BK231.out 1; have hfz10_2 := blk_frozen BK231.out 2; have hfz10_3 := blk_frozen BK231.out 3; have hfz10_4 := blk_frozen BK231.out 4) | ((with_reducible refine gate_callee (f := 100) rfl ?_); refine goesL_ (some 13) rfl rfl Tryz.func100 (by kernel_rfl) rfl #[.pointer (some ⟨g, 0, none⟩)] rfl (by (try simp only [List.map_toArray, List.map_cons, List.map_nil]); first | done | rfl | (simp only [List.length_drop, List.length_take]; rfl)) ?_; (with_reducible refine (spec_reader_here.calls g s0_0 s0_1 t232 t233 t234 w0 _ ?side1 ?side2 A2.out).mono ?_); (case side1 => repeat (first | (with_reducible first | exact HI0.out | apply iA | apply iN | apply i1 | refine IsS112.far ?_ NB0_230.out _ | refine IsS112.far ?_ NB0_231.out _) | exact HI0.out)); (case side2 => repeat (first | (with_reducible first | exact HB.out | apply bA | apply bN | apply bD | refine below_set ?_ (IsS112.ge HI0.out) | refine below_set ?_ GE230.out | refine below_set ?_ GE231.out) | exact HB.out)); rintro e w11 ⟨rfl, hi, hb, hk⟩; refine ⟨_, rfl, ?_⟩; have n0_ := Aside0.mk (KeepBut.blk hk (g' := gb230) (o := .cells #[.int .i64 0, .int .i64 0, .int .i64 0, .slice none 0 0, .slice none 0 0] 78 (0, 0)) (by (with_reducible repeat (first | refine lN ?_ _ | refine lD ?_ | refine lA ?_ _)); refine blk_far ?_ NB230_231.out _; (with_reducible repeat (first | refine lN ?_ _ | refine lD ?_ | refine lA ?_ _)); refine blk_far ?_ NB230_231.out _; (with_reducible repeat (first | refine lN ?_ _ | refine lD ?_ | refine lA ?_ _)); refine blk_far ?_ NB230_231.out _; (with_reducible repeat (first | refine lN ?_ _ | refine lD ?_ | refine lA ?_ _)); refine blk_far ?_ NB230_231.out _; (with_reducible repeat (first | refine lN ?_ _ | refine lD ?_ | refine lA ?_ _)); refine blk_far ?_ NB230_231.out _; (with_reducible repeat (first | refine lN ?_ _ | refine lD ?_ | refine lA ?_ _)); exact BK230.out) NB230_0.out (by simp)); have n1_ := Aside0.mk (KeepBut.blk hk (g' := gb231) (o := .cells #[.int .i64 0, .int .i64 s0_1, .int .i64 0, .slice none 0 0, .slice none 0 0] 78 (0, 0)) (by (with_reducible repeat (first | refine lN ?_ _ | refine lD ?_ | refine lA ?_ _)); refine blk_put (cs := #[.int .i64 0, .int .i64 s0_1, .int .i64 0, .slice none 0 0, .slice none 0 0]) ?_ 4 _ rfl; (with_reducible repeat (first | refine lN ?_ _ | refine lD ?_ | refine lA ?_ _)); refine blk_put (cs := #[.int .i64 0, .int .i64 s0_1, .int .i64 0, .slice none 0 0, .slice none 0 0]) ?_ 3 _ rfl; (with_reducible repeat (first | refine lN ?_ _ | refine lD ?_ | refine lA ?_ _)); refine blk_put (cs := #[.int .i64 0, .int .i64 s0_1, .int .i64 0, .slice none 0 0, .slice none 0 0]) ?_ 2 _ rfl; (with_reducible repeat (first | refine lN ?_ _ | refine lD ?_ | refine lA ?_ _)); refine blk_put (cs := #[.int .i64 0, .int .i64 0, .int .i64 0, .slice none 0 0, .slice none 0 0]) ?_ 1 _ rfl; (with_reducible repeat (first | refine lN ?_ _ | refine lD ?_ | refine lA ?_ _)); refine blk_put (cs := #[.int .i64 0, .int .i64 0, .int .i64 0, .slice none 0 0, .slice none 0 0]) ?_ 0 _ rfl; (with_reducible repeat (first | refine lN ?_ _ | refine lD ?_ | refine lA ?_ _)); exact BK231.out) NB231_0.out (by simp)); have n2_ := Aside0.mk (KeepBut.trans (by repeat (first | (with_reducible first | exact HK.out | apply kS | apply kN | refine keep_far ?_ GW230.out _ | refine keep_far ?_ GW231.out _) | exact HK.out)) hk (.inl rfl)); have n3_ := Aside0.mk (hb); have n4_ := Aside0.mk (hi); clear BK230; clear BK231; clear HK; clear HB; clear HI0; have BK230 := n0_; have BK231 := n1_; have HK := n2_; have HB := n3_; have HI0 := n4_; clear n0_ n1_ n2_ n3_ n4_; (try clear hb); (try clear hb2); (try clear hk); (try clear hi); have hcz12_0 : w11.cell? ⟨gb231, 0, none⟩ = some (.int .i64 0) := (blk_cell BK231.out 0).trans rfl; have hcz12_1 : w11.cell? ⟨gb231, 1, none⟩ = some (.int .i64 s0_1) := (blk_cell BK231.out 1).trans rfl; have hcz12_2 : w11.cell? ⟨gb231, 2, none⟩ = some (.int .i64 0) := (blk_cell BK231.out 2).trans rfl; have hcz12_3 : w11.cell? ⟨gb231, 3, none⟩ = some (.slice none 0 0) := (blk_cell BK231.out 3).trans rfl; have hcz12_4 : w11.cell? ⟨gb231, 4, none⟩ = some (.slice none 0 0) := (blk_cell BK231.out 4).trans rfl; have hfz12_0 := blk_frozen BK231.out 0; have hfz12_1 := blk_frozen BK231.out 1; have hfz12_2 := blk_frozen BK231.out 2; have hfz12_3 := blk_frozen BK231.out 3; have hfz12_4 := blk_frozen BK231.out 4) | ((with_reducible refine gate_callee (f := 101) rfl ?_); refine goesL_ (some 20) rfl rfl Tryz.func101 (by kernel_rfl) rfl #[.pointer (some ⟨g, 0, none⟩)] rfl (by (try simp only [List.map_toArray, List.map_cons, List.map_nil]); first | done | rfl | (simp only [List.length_drop, List.length_take]; rfl)) ?_; (with_reducible refine (ih101.out k (by omega) g t233 t234 t235 t238 t241 t242 t243 w0 _ ?side1 ?side2 A4.out).mono ?_); (case side1 => repeat (first | (with_reducible first | exact HI0.out | apply iA | apply iN | apply i1 | refine IsS112.far ?_ NB0_230.out _ | refine IsS112.far ?_ NB0_231.out _) | exact HI0.out)); (case side2 => repeat (first | (with_reducible first | exact HB.out | apply bA | apply bN | apply bD | refine below_set ?_ (IsS112.ge HI0.out) | refine below_set ?_ GE230.out | refine below_set ?_ GE231.out) | exact HB.out)); rintro e w13 ⟨v236, v239, rfl, ho0, ho1, hi, hb, hk⟩; refine ⟨_, rfl, ?_⟩; have n0_ := Aside0.mk (KeepBut.blk hk (g' := gb230) (o := .cells #[.int .i64 0, .int .i64 0, .int .i64 0, .slice none 0 0, .slice none 0 0] 78 (0, 0)) (by (with_reducible repeat (first | refine lN ?_ _ | refine lD ?_ | refine lA ?_ _)); refine blk_far ?_ NB230_231.out _; (with_reducible repeat (first | refine lN ?_ _ | refine lD ?_ | refine lA ?_ _)); exact BK230.out) NB230_0.out (by simp)); have n1_ := Aside0.mk (KeepBut.blk hk (g' := gb231) (o := .cells #[.int .i64 6, .int .i64 s0_1, .int .i64 0, .slice none 0 0, .slice none 0 0] 78 (0, 0)) (by (with_reducible repeat (first | refine lN ?_ _ | refine lD ?_ | refine lA ?_ _)); refine blk_put (cs := #[.int .i64 0, .int .i64 s0_1, .int .i64 0, .slice none 0 0, .slice none 0 0]) ?_ 0 _ rfl; (with_reducible repeat (first | refine lN ?_ _ | refine lD ?_ | refine lA ?_ _)); exact BK231.out) NB231_0.out (by simp)); have n2_ := Aside0.mk (Kd.R_lower ho0 (keep_size (w := w) (g := g) (row := none) (by repeat (first | (with_reducible first | exact HK.out | apply kS | apply kN | refine keep_far ?_ GW230.out _ | refine keep_far ?_ GW231.out _) | exact HK.out)))); have n3_ := Aside0.mk (Kd.R_lower (Kd.R_newB (Kd.R_newB ho1 (g := gb230) (o := .cells #[.int .i64 0, .int .i64 0, .int .i64 0, .slice none 0 0, .slice none 0 0] 78 (0, 0)) (by (with_reducible repeat (first | refine lN ?_ _ | refine lD ?_ | refine lA ?_ _)); refine blk_far ?_ NB230_231.out _; (with_reducible repeat (first | refine lN ?_ _ | refine lD ?_ | refine lA ?_ _)); exact BK230.out)) (g := gb231) (o := .cells #[.int .i64 6, .int .i64 s0_1, .int .i64 0, .slice none 0 0, .slice none 0 0] 78 (0, 0)) (by (with_reducible repeat (first | refine lN ?_ _ | refine lD ?_ | refine lA ?_ _)); refine blk_put (cs := #[.int .i64 0, .int .i64 s0_1, .int .i64 0, .slice none 0 0, .slice none 0 0]) ?_ 0 _ rfl; (with_reducible repeat (first | refine lN ?_ _ | refine lD ?_ | refine lA ?_ _)); exact BK231.out)) (keep_size (w := w) (g := g) (row := none) (by repeat (first | (with_reducible first | exact HK.out | apply kS | apply kN | refine keep_far ?_ GW230.out _ | refine keep_far ?_ GW231.out _) | exact HK.out)))); have n4_ := Aside0.mk (KeepBut.trans (by repeat (first | (with_reducible first | exact HK.out | apply kS | apply kN | refine keep_far ?_ GW230.out _ | refine keep_far ?_ GW231.out _) | exact HK.out)) hk (.inl rfl)); have n5_ := Aside0.mk (hb); have n6_ := Aside0.mk (hi); clear BK230; clear BK231; clear HK; clear HB; clear HI0; have BK230 := n0_; have BK231 := n1_; have HO237 := n2_; have HO240 := n3_; have HK := n4_; have HB := n5_; have HI0 := n6_; clear n0_ n1_ n2_ n3_ n4_ n5_ n6_; (try clear hb); (try clear hb2); (try clear hk); (try clear hi); (try clear ho0); (try clear ho1); obtain ⟨Ao14, co14, eo14⟩ := Kd.R_slice HO237.out; subst eo14; have hcz15_0 : w13.cell? ⟨gb231, 0, none⟩ = some (.int .i64 6) := (blk_cell BK231.out 0).trans rfl; have hcz15_1 : w13.cell? ⟨gb231, 1, none⟩ = some (.int .i64 s0_1) := (blk_cell BK231.out 1).trans rfl; have hcz15_2 : w13.cell? ⟨gb231, 2, none⟩ = some (.int .i64 0) := (blk_cell BK231.out 2).trans rfl; have hcz15_3 : w13.cell? ⟨gb231, 3, none⟩ = some (.slice none 0 0) := (blk_cell BK231.out 3).trans rfl; have hcz15_4 : w13.cell? ⟨gb231, 4, none⟩ = some (.slice none 0 0) := (blk_cell BK231.out 4).trans rfl; have hfz15_0 := blk_frozen BK231.out 0; have hfz15_1 := blk_frozen BK231.out 1; have hfz15_2 := blk_frozen BK231.out 2; have hfz15_3 := blk_frozen BK231.out 3; have hfz15_4 := blk_frozen BK231.out 4; obtain ⟨Ao16, co16, eo16⟩ := Kd.R_slice HO240.out; subst eo16; obtain ⟨HGz17, hgz17⟩ := HI0.out; have hcz17_0 := cellS112_0 HGz17; have hcz17_1 := cellS112_1 HGz17; have hfz17_0 := blk_frozen HGz17 0; have hfz17_1 := blk_frozen HGz17 1; clear HGz17 hgz17; have hnb18 := NB230_0.out; have hnc18 := NB0_230.out; have hcz19_0 : w13.cell? ⟨gb230, 0, none⟩ = some (.int .i64 0) := (blk_cell BK230.out 0).trans rfl; have hcz19_1 : w13.cell? ⟨gb230, 1, none⟩ = some (.int .i64 0) := (blk_cell BK230.out 1).trans rfl; have hcz19_2 : w13.cell? ⟨gb230, 2, none⟩ = some (.int .i64 0) := (blk_cell BK230.out 2).trans rfl; have hcz19_3 : w13.cell? ⟨gb230, 3, none⟩ = some (.slice none 0 0) := (blk_cell BK230.out 3).trans rfl; have hcz19_4 : w13.cell? ⟨gb230, 4, none⟩ = some (.slice none 0 0) := (blk_cell BK230.out 4).trans rfl; have hfz19_0 := blk_frozen BK230.out 0; have hfz19_1 := blk_frozen BK230.out 1; have hfz19_2 := blk_frozen BK230.out 2; have hfz19_3 := blk_frozen BK230.out 3; have hfz19_4 := blk_frozen BK230.out 4))
  refine bodyPost_ret (results_ct rfl _ _ gb230 78 #[.int .i64 6, .int .i64 s0_1, .int .i64 t243, .slice Ao14 t235.length co14, .slice Ao16 t238.length co16] (0, 0) _ rfl (by (with_reducible repeat (first | refine lN ?_ _ | refine lD ?_ | refine lA ?_ _)); refine blk_put (cs := #[.int .i64 6, .int .i64 s0_1, .int .i64 t243, .slice Ao14 t235.length co14, .slice none 0 0]) ?_ 4 _ rfl; (with_reducible repeat (first | refine lN ?_ _ | refine lD ?_ | refine lA ?_ _)); refine blk_put (cs := #[.int .i64 6, .int .i64 s0_1, .int .i64 t243, .slice none 0 0, .slice none 0 0]) ?_ 3 _ rfl; (with_reducible repeat (first | refine lN ?_ _ | refine lD ?_ | refine lA ?_ _)); refine blk_put (cs := #[.int .i64 6, .int .i64 s0_1, .int .i64 0, .slice none 0 0, .slice none 0 0]) ?_ 2 _ rfl; (with_reducible repeat (first | refine lN ?_ _ | refine lD ?_ | refine lA ?_ _)); refine blk_put (cs := #[.int .i64 6, .int .i64 0, .int .i64 0, .slice none 0 0, .slice none 0 0]) ?_ 1 _ rfl; (with_reducible repeat (first | refine lN ?_ _ | refine lD ?_ | refine lA ?_ _)); refine blk_put (cs := #[.int .i64 0, .int .i64 0, .int .i64 0, .slice none 0 0, .slice none 0 0]) ?_ 0 _ rfl; (with_reducible repeat (first | refine lN ?_ _ | refine lD ?_ | refine lA ?_ _)); refine blk_far ?_ NB230_231.out _; (with_reducible repeat (first | refine lN ?_ _ | refine lD ?_ | refine lA ?_ _)); refine blk_far ?_ NB230_231.out _; (with_reducible repeat (first | refine lN ?_ _ | refine lD ?_ | refine lA ?_ _)); refine blk_far ?_ NB230_231.out _; (with_reducible repeat (first | refine lN ?_ _ | refine lD ?_ | refine lA ?_ _)); exact BK230.out) Tryz.underlying78 rfl (by kernel_rfl)) rfl ?_
  exact ⟨_, _, by first | rfl | (simp [errW_none, errW_some] <;> rfl) | (simp [*, errW_none, errW_some] <;> rfl), by (with_reducible repeat (first | apply rA | apply rN | apply rD)); exact Kd.R_mono (Kd.R_far (p := ⟨gb230, 4, none⟩) (Kd.R_far (p := ⟨gb230, 3, none⟩) (Kd.R_far (p := ⟨gb230, 2, none⟩) (Kd.R_far (p := ⟨gb230, 1, none⟩) (Kd.R_far (p := ⟨gb230, 0, none⟩) (Kd.R_far (p := ⟨gb231, 2, none⟩) (Kd.R_far (p := ⟨gb231, 4, none⟩) (Kd.R_far (p := ⟨gb231, 3, none⟩) (Kd.R_types (Kd.R_types HO237.out BK231.out (by decide)) BK230.out (by decide)) (fun _ hk => hk.1.2) (.slice Ao14 t235.length co14)) (fun _ hk => hk.1.2) (.slice Ao16 t238.length co16)) (fun _ hk => hk.1.2) (.int .i64 t243)) (fun _ hk => hk.2) (.int .i64 6)) (fun _ hk => hk.2) (.int .i64 s0_1)) (fun _ hk => hk.2) (.int .i64 t243)) (fun _ hk => hk.2) (.slice Ao14 t235.length co14)) (fun _ hk => hk.2) (.slice Ao16 t238.length co16)) (fun _ hk => trivial), by (with_reducible repeat (first | apply rA | apply rN | apply rD)); exact Kd.R_mono (Kd.R_far (p := ⟨gb230, 4, none⟩) (Kd.R_far (p := ⟨gb230, 3, none⟩) (Kd.R_far (p := ⟨gb230, 2, none⟩) (Kd.R_far (p := ⟨gb230, 1, none⟩) (Kd.R_far (p := ⟨gb230, 0, none⟩) (Kd.R_far (p := ⟨gb231, 2, none⟩) (Kd.R_far (p := ⟨gb231, 4, none⟩) (Kd.R_far (p := ⟨gb231, 3, none⟩) (Kd.R_mono (Kd.R_mono HO240.out (fun k_ hk => (⟨hk, hk.2⟩ : _ ∧ k_ ≠ gb231))) (fun k_ hk => (⟨hk, hk.1.1.2⟩ : _ ∧ k_ ≠ gb230))) (fun _ hk => hk.1.2) (.slice Ao14 t235.length co14)) (fun _ hk => hk.1.2) (.slice Ao16 t238.length co16)) (fun _ hk => hk.1.2) (.int .i64 t243)) (fun _ hk => hk.2) (.int .i64 6)) (fun _ hk => hk.2) (.int .i64 s0_1)) (fun _ hk => hk.2) (.int .i64 t243)) (fun _ hk => hk.2) (.slice Ao14 t235.length co14)) (fun _ hk => hk.2) (.slice Ao16 t238.length co16)) (fun _ hk => hk.1.1.1.1), by repeat (first | (with_reducible first | exact HI0.out | apply iA | apply iN | apply i1 | refine IsS112.far ?_ NB0_230.out _ | refine IsS112.far ?_ NB0_231.out _) | exact HI0.out), by repeat (first | (with_reducible first | exact HB.out | apply bA | apply bN | apply bD | refine below_set ?_ (IsS112.ge HI0.out) | refine below_set ?_ GE230.out | refine below_set ?_ GE231.out) | exact HB.out), by repeat (first | (with_reducible first | exact HK.out | apply kS | apply kN | refine keep_far ?_ GW230.out _ | refine keep_far ?_ GW231.out _) | exact HK.out)⟩
 ·rw [if_neg c3] at H
  have c3b0 : (t232 == 123) = false := beq_eq_false_iff_ne.mpr c3
  have c3b1 : (t232 != 123) = true := bne_iff_ne.mpr c3
  by_cases c20 : t232 = 91
  ·rw [if_pos c20] at H
   have c20b0 : (t232 == 91) = true := beq_iff_eq.mpr c20
   have c20b1 : (t232 != 91) = false := bne_eq_false_iff_eq.mpr c20
   clear c20
   replace H := Option.bind_eq_some_iff.mp H
   obtain ⟨⟨t244, t247, t248, t249⟩, A210, H⟩ := H
   try dsimp only at H
   have A21 := Aside0.mk A210
   clear A210
   simp only [Option.some.injEq, Prod.mk.injEq] at H
   obtain ⟨rfl, rfl, rfl, rfl, rfl, rfl, rfl, rfl⟩ := H
   go_enter Tryz.func73, Tryz.ntmps73
   go_wp2_with (first | ((with_reducible refine gate_dst (N := 2) rfl ?_); refine box_event ?hg (N := 2) ?hd (cs := #[.int .i64 0, .int .i64 0, .int .i64 0, .slice none 0 0, .slice none 0 0]) (t := 78) ?hr ?_; (case hd => rfl); (case hg => rfl); (case hr => first | (go_simp; done) | (go_simp; rfl)); intro gb230 hg w22 hbox hb; have n0_ := Aside0.mk (IsS112.below (by repeat (first | (with_reducible first | exact HI0.out | apply iA | apply iN | apply i1) | exact HI0.out)) hb); have n1_ := Aside0.mk (KeepBut.trans (by repeat (first | (with_reducible first | exact HK.out | apply kS | apply kN) | exact HK.out)) (KeepBut.of_below hb g none) (.inl rfl)); have n2_ := Aside0.mk (below_step (by repeat (first | (with_reducible first | exact HB.out | apply bA | apply bN | apply bD | refine below_set ?_ (IsS112.ge HI0.out)) | exact HB.out)) hb); have n3_ := Aside0.mk (hbox); have n4_ := Aside0.mk ((by rw [hg]; exact (keep_size (w := w) (g := g) (row := none) (by repeat (first | (with_reducible first | exact HK.out | apply kS | apply kN) | exact HK.out))) : w.heap.size ≤ gb230)); have n5_ := Aside0.mk ((Nat.le_trans HW0.out (by rw [hg]; exact (keep_size (w := w) (g := g) (row := none) (by repeat (first | (with_reducible first | exact HK.out | apply kS | apply kN) | exact HK.out))) : w.heap.size ≤ gb230) : w0.heap.size ≤ gb230)); have n6_ := Aside0.mk ((by rw [hg]; exact Nat.ne_of_lt (IsS112.lt (show IsS112 w0 _ g s0_0 s0_1 from by repeat (first | (with_reducible first | exact HI0.out | apply iA | apply iN | apply i1) | exact HI0.out))) : g ≠ gb230)); have n7_ := Aside0.mk ((by rw [hg]; exact Nat.ne_of_gt (IsS112.lt (show IsS112 w0 _ g s0_0 s0_1 from by repeat (first | (with_reducible first | exact HI0.out | apply iA | apply iN | apply i1) | exact HI0.out))) : gb230 ≠ g)); clear HI0; clear HK; clear HB; have HI0 := n0_; have HK := n1_; have HB := n2_; have BK230 := n3_; have GW230 := n4_; have GE230 := n5_; have NB0_230 := n6_; have NB230_0 := n7_; clear n0_ n1_ n2_ n3_ n4_ n5_ n6_ n7_; clear hb hbox hg; obtain ⟨HGz23, hgz23⟩ := HI0.out; have hcz23_0 := cellS112_0 HGz23; have hcz23_1 := cellS112_1 HGz23; have hfz23_0 := blk_frozen HGz23 0; have hfz23_1 := blk_frozen HGz23 1; clear HGz23 hgz23) | ((with_reducible refine gate_dst (N := 4) rfl ?_); refine box_event ?hg (N := 4) ?hd (cs := #[.int .i64 0, .int .i64 0, .int .i64 0, .slice none 0 0, .slice none 0 0]) (t := 78) ?hr ?_; (case hd => rfl); (case hg => rfl); (case hr => first | (go_simp; done) | (go_simp; rfl)); intro gb231 hg w24 hbox hb; have n0_ := Aside0.mk (IsS112.below (by repeat (first | (with_reducible first | exact HI0.out | apply iA | apply iN | apply i1 | refine IsS112.far ?_ NB0_230.out _) | exact HI0.out)) hb); have n1_ := Aside0.mk (blk_below (g := gb230) (o := .cells #[.int .i64 0, .int .i64 0, .int .i64 0, .slice none 0 0, .slice none 0 0] 78 (0, 0)) (by (with_reducible repeat (first | refine lN ?_ _ | refine lD ?_ | refine lA ?_ _)); exact BK230.out) hb); have n2_ := Aside0.mk (KeepBut.trans (by repeat (first | (with_reducible first | exact HK.out | apply kS | apply kN | refine keep_far ?_ GW230.out _) | exact HK.out)) (KeepBut.of_below hb g none) (.inl rfl)); have n3_ := Aside0.mk (below_step (by repeat (first | (with_reducible first | exact HB.out | apply bA | apply bN | apply bD | refine below_set ?_ (IsS112.ge HI0.out) | refine below_set ?_ GE230.out) | exact HB.out)) hb); have n4_ := Aside0.mk (hbox); have n5_ := Aside0.mk ((by rw [hg]; exact (keep_size (w := w) (g := g) (row := none) (by repeat (first | (with_reducible first | exact HK.out | apply kS | apply kN | refine keep_far ?_ GW230.out _) | exact HK.out))) : w.heap.size ≤ gb231)); have n6_ := Aside0.mk ((Nat.le_trans HW0.out (by rw [hg]; exact (keep_size (w := w) (g := g) (row := none) (by repeat (first | (with_reducible first | exact HK.out | apply kS | apply kN | refine keep_far ?_ GW230.out _) | exact HK.out))) : w.heap.size ≤ gb231) : w0.heap.size ≤ gb231)); have n7_ := Aside0.mk ((by rw [hg]; exact Nat.ne_of_lt (blk_lt (g := gb230) (o := .cells #[.int .i64 0, .int .i64 0, .int .i64 0, .slice none 0 0, .slice none 0 0] 78 (0, 0)) (by (with_reducible repeat (first | refine lN ?_ _ | refine lD ?_ | refine lA ?_ _)); exact BK230.out)) : gb230 ≠ gb231)); have n8_ := Aside0.mk ((by rw [hg]; exact Nat.ne_of_gt (blk_lt (g := gb230) (o := .cells #[.int .i64 0, .int .i64 0, .int .i64 0, .slice none 0 0, .slice none 0 0] 78 (0, 0)) (by (with_reducible repeat (first | refine lN ?_ _ | refine lD ?_ | refine lA ?_ _)); exact BK230.out)) : gb231 ≠ gb230)); have n9_ := Aside0.mk ((by rw [hg]; exact Nat.ne_of_lt (IsS112.lt (show IsS112 w0 _ g s0_0 s0_1 from by repeat (first | (with_reducible first | exact HI0.out | apply iA | apply iN | apply i1 | refine IsS112.far ?_ NB0_230.out _) | exact HI0.out))) : g ≠ gb231)); have n10_ := Aside0.mk ((by rw [hg]; exact Nat.ne_of_gt (IsS112.lt (show IsS112 w0 _ g s0_0 s0_1 from by repeat (first | (with_reducible first | exact HI0.out | apply iA | apply iN | apply i1 | refine IsS112.far ?_ NB0_230.out _) | exact HI0.out))) : gb231 ≠ g)); clear HI0; clear BK230; clear HK; clear HB; have HI0 := n0_; have BK230 := n1_; have HK := n2_; have HB := n3_; have BK231 := n4_; have GW231 := n5_; have GE231 := n6_; have NB230_231 := n7_; have NB231_230 := n8_; have NB0_231 := n9_; have NB231_0 := n10_; clear n0_ n1_ n2_ n3_ n4_ n5_ n6_ n7_ n8_ n9_ n10_; clear hb hbox hg; have hnb25 := NB231_230.out; have hnc25 := NB230_231.out; have hnb26 := NB231_0.out; have hnc26 := NB0_231.out; have hcz27_0 : w24.cell? ⟨gb231, 0, none⟩ = some (.int .i64 0) := (blk_cell BK231.out 0).trans rfl; have hcz27_1 : w24.cell? ⟨gb231, 1, none⟩ = some (.int .i64 0) := (blk_cell BK231.out 1).trans rfl; have hcz27_2 : w24.cell? ⟨gb231, 2, none⟩ = some (.int .i64 0) := (blk_cell BK231.out 2).trans rfl; have hcz27_3 : w24.cell? ⟨gb231, 3, none⟩ = some (.slice none 0 0) := (blk_cell BK231.out 3).trans rfl; have hcz27_4 : w24.cell? ⟨gb231, 4, none⟩ = some (.slice none 0 0) := (blk_cell BK231.out 4).trans rfl; have hfz27_0 := blk_frozen BK231.out 0; have hfz27_1 := blk_frozen BK231.out 1; have hfz27_2 := blk_frozen BK231.out 2; have hfz27_3 := blk_frozen BK231.out 3; have hfz27_4 := blk_frozen BK231.out 4) | ((with_reducible refine gate_callee (f := 100) rfl ?_); refine goesL_ (some 13) rfl rfl Tryz.func100 (by kernel_rfl) rfl #[.pointer (some ⟨g, 0, none⟩)] rfl (by (try simp only [List.map_toArray, List.map_cons, List.map_nil]); first | done | rfl | (simp only [List.length_drop, List.length_take]; rfl)) ?_; (with_reducible refine (spec_reader_here.calls g s0_0 s0_1 t232 t233 t234 w0 _ ?side1 ?side2 A2.out).mono ?_); (case side1 => repeat (first | (with_reducible first | exact HI0.out | apply iA | apply iN | apply i1 | refine IsS112.far ?_ NB0_230.out _ | refine IsS112.far ?_ NB0_231.out _) | exact HI0.out)); (case side2 => repeat (first | (with_reducible first | exact HB.out | apply bA | apply bN | apply bD | refine below_set ?_ (IsS112.ge HI0.out) | refine below_set ?_ GE230.out | refine below_set ?_ GE231.out) | exact HB.out)); rintro e w28 ⟨rfl, hi, hb, hk⟩; refine ⟨_, rfl, ?_⟩; have n0_ := Aside0.mk (KeepBut.blk hk (g' := gb230) (o := .cells #[.int .i64 0, .int .i64 0, .int .i64 0, .slice none 0 0, .slice none 0 0] 78 (0, 0)) (by (with_reducible repeat (first | refine lN ?_ _ | refine lD ?_ | refine lA ?_ _)); refine blk_far ?_ NB230_231.out _; (with_reducible repeat (first | refine lN ?_ _ | refine lD ?_ | refine lA ?_ _)); refine blk_far ?_ NB230_231.out _; (with_reducible repeat (first | refine lN ?_ _ | refine lD ?_ | refine lA ?_ _)); refine blk_far ?_ NB230_231.out _; (with_reducible repeat (first | refine lN ?_ _ | refine lD ?_ | refine lA ?_ _)); refine blk_far ?_ NB230_231.out _; (with_reducible repeat (first | refine lN ?_ _ | refine lD ?_ | refine lA ?_ _)); refine blk_far ?_ NB230_231.out _; (with_reducible repeat (first | refine lN ?_ _ | refine lD ?_ | refine lA ?_ _)); exact BK230.out) NB230_0.out (by simp)); have n1_ := Aside0.mk (KeepBut.blk hk (g' := gb231) (o := .cells #[.int .i64 0, .int .i64 s0_1, .int .i64 0, .slice none 0 0, .slice none 0 0] 78 (0, 0)) (by (with_reducible repeat (first | refine lN ?_ _ | refine lD ?_ | refine lA ?_ _)); refine blk_put (cs := #[.int .i64 0, .int .i64 s0_1, .int .i64 0, .slice none 0 0, .slice none 0 0]) ?_ 4 _ rfl; (with_reducible repeat (first | refine lN ?_ _ | refine lD ?_ | refine lA ?_ _)); refine blk_put (cs := #[.int .i64 0, .int .i64 s0_1, .int .i64 0, .slice none 0 0, .slice none 0 0]) ?_ 3 _ rfl; (with_reducible repeat (first | refine lN ?_ _ | refine lD ?_ | refine lA ?_ _)); refine blk_put (cs := #[.int .i64 0, .int .i64 s0_1, .int .i64 0, .slice none 0 0, .slice none 0 0]) ?_ 2 _ rfl; (with_reducible repeat (first | refine lN ?_ _ | refine lD ?_ | refine lA ?_ _)); refine blk_put (cs := #[.int .i64 0, .int .i64 0, .int .i64 0, .slice none 0 0, .slice none 0 0]) ?_ 1 _ rfl; (with_reducible repeat (first | refine lN ?_ _ | refine lD ?_ | refine lA ?_ _)); refine blk_put (cs := #[.int .i64 0, .int .i64 0, .int .i64 0, .slice none 0 0, .slice none 0 0]) ?_ 0 _ rfl; (with_reducible repeat (first | refine lN ?_ _ | refine lD ?_ | refine lA ?_ _)); exact BK231.out) NB231_0.out (by simp)); have n2_ := Aside0.mk (KeepBut.trans (by repeat (first | (with_reducible first | exact HK.out | apply kS | apply kN | refine keep_far ?_ GW230.out _ | refine keep_far ?_ GW231.out _) | exact HK.out)) hk (.inl rfl)); have n3_ := Aside0.mk (hb); have n4_ := Aside0.mk (hi); clear BK230; clear BK231; clear HK; clear HB; clear HI0; have BK230 := n0_; have BK231 := n1_; have HK := n2_; have HB := n3_; have HI0 := n4_; clear n0_ n1_ n2_ n3_ n4_; (try clear hb); (try clear hb2); (try clear hk); (try clear hi); have hcz29_0 : w28.cell? ⟨gb231, 0, none⟩ = some (.int .i64 0) := (blk_cell BK231.out 0).trans rfl; have hcz29_1 : w28.cell? ⟨gb231, 1, none⟩ = some (.int .i64 s0_1) := (blk_cell BK231.out 1).trans rfl; have hcz29_2 : w28.cell? ⟨gb231, 2, none⟩ = some (.int .i64 0) := (blk_cell BK231.out 2).trans rfl; have hcz29_3 : w28.cell? ⟨gb231, 3, none⟩ = some (.slice none 0 0) := (blk_cell BK231.out 3).trans rfl; have hcz29_4 : w28.cell? ⟨gb231, 4, none⟩ = some (.slice none 0 0) := (blk_cell BK231.out 4).trans rfl; have hfz29_0 := blk_frozen BK231.out 0; have hfz29_1 := blk_frozen BK231.out 1; have hfz29_2 := blk_frozen BK231.out 2; have hfz29_3 := blk_frozen BK231.out 3; have hfz29_4 := blk_frozen BK231.out 4) | ((with_reducible refine gate_callee (f := 102) rfl ?_); refine goesL_ (some 32) rfl rfl Tryz.func102 (by kernel_rfl) rfl #[.pointer (some ⟨g, 0, none⟩)] rfl (by (try simp only [List.map_toArray, List.map_cons, List.map_nil]); first | done | rfl | (simp only [List.length_drop, List.length_take]; rfl)) ?_; (with_reducible refine (ih102.out k (by omega) g t233 t234 t244 t247 t248 t249 w0 _ ?side1 ?side2 A21.out).mono ?_); (case side1 => repeat (first | (with_reducible first | exact HI0.out | apply iA | apply iN | apply i1 | refine IsS112.far ?_ NB0_230.out _ | refine IsS112.far ?_ NB0_231.out _) | exact HI0.out)); (case side2 => repeat (first | (with_reducible first | exact HB.out | apply bA | apply bN | apply bD | refine below_set ?_ (IsS112.ge HI0.out) | refine below_set ?_ GE230.out | refine below_set ?_ GE231.out) | exact HB.out)); rintro e w30 ⟨v245, rfl, ho0, hi, hb, hk⟩; refine ⟨_, rfl, ?_⟩; have n0_ := Aside0.mk (KeepBut.blk hk (g' := gb230) (o := .cells #[.int .i64 0, .int .i64 0, .int .i64 0, .slice none 0 0, .slice none 0 0] 78 (0, 0)) (by (with_reducible repeat (first | refine lN ?_ _ | refine lD ?_ | refine lA ?_ _)); refine blk_far ?_ NB230_231.out _; (with_reducible repeat (first | refine lN ?_ _ | refine lD ?_ | refine lA ?_ _)); exact BK230.out) NB230_0.out (by simp)); have n1_ := Aside0.mk (KeepBut.blk hk (g' := gb231) (o := .cells #[.int .i64 5, .int .i64 s0_1, .int .i64 0, .slice none 0 0, .slice none 0 0] 78 (0, 0)) (by (with_reducible repeat (first | refine lN ?_ _ | refine lD ?_ | refine lA ?_ _)); refine blk_put (cs := #[.int .i64 0, .int .i64 s0_1, .int .i64 0, .slice none 0 0, .slice none 0 0]) ?_ 0 _ rfl; (with_reducible repeat (first | refine lN ?_ _ | refine lD ?_ | refine lA ?_ _)); exact BK231.out) NB231_0.out (by simp)); have n2_ := Aside0.mk (Kd.R_lower (Kd.R_newB (Kd.R_newB ho0 (g := gb230) (o := .cells #[.int .i64 0, .int .i64 0, .int .i64 0, .slice none 0 0, .slice none 0 0] 78 (0, 0)) (by (with_reducible repeat (first | refine lN ?_ _ | refine lD ?_ | refine lA ?_ _)); refine blk_far ?_ NB230_231.out _; (with_reducible repeat (first | refine lN ?_ _ | refine lD ?_ | refine lA ?_ _)); exact BK230.out)) (g := gb231) (o := .cells #[.int .i64 5, .int .i64 s0_1, .int .i64 0, .slice none 0 0, .slice none 0 0] 78 (0, 0)) (by (with_reducible repeat (first | refine lN ?_ _ | refine lD ?_ | refine lA ?_ _)); refine blk_put (cs := #[.int .i64 0, .int .i64 s0_1, .int .i64 0, .slice none 0 0, .slice none 0 0]) ?_ 0 _ rfl; (with_reducible repeat (first | refine lN ?_ _ | refine lD ?_ | refine lA ?_ _)); exact BK231.out)) (keep_size (w := w) (g := g) (row := none) (by repeat (first | (with_reducible first | exact HK.out | apply kS | apply kN | refine keep_far ?_ GW230.out _ | refine keep_far ?_ GW231.out _) | exact HK.out)))); have n3_ := Aside0.mk (KeepBut.trans (by repeat (first | (with_reducible first | exact HK.out | apply kS | apply kN | refine keep_far ?_ GW230.out _ | refine keep_far ?_ GW231.out _) | exact HK.out)) hk (.inl rfl)); have n4_ := Aside0.mk (hb); have n5_ := Aside0.mk (hi); clear BK230; clear BK231; clear HK; clear HB; clear HI0; have BK230 := n0_; have BK231 := n1_; have HO246 := n2_; have HK := n3_; have HB := n4_; have HI0 := n5_; clear n0_ n1_ n2_ n3_ n4_ n5_; (try clear hb); (try clear hb2); (try clear hk); (try clear hi); (try clear ho0); obtain ⟨Ao31, co31, eo31⟩ := Kd.R_slice HO246.out; subst eo31; have hcz32_0 : w30.cell? ⟨gb231, 0, none⟩ = some (.int .i64 5) := (blk_cell BK231.out 0).trans rfl; have hcz32_1 : w30.cell? ⟨gb231, 1, none⟩ = some (.int .i64 s0_1) := (blk_cell BK231.out 1).trans rfl; have hcz32_2 : w30.cell? ⟨gb231, 2, none⟩ = some (.int .i64 0) := (blk_cell BK231.out 2).trans rfl; have hcz32_3 : w30.cell? ⟨gb231, 3, none⟩ = some (.slice none 0 0) := (blk_cell BK231.out 3).trans rfl; have hcz32_4 : w30.cell? ⟨gb231, 4, none⟩ = some (.slice none 0 0) := (blk_cell BK231.out 4).trans rfl; have hfz32_0 := blk_frozen BK231.out 0; have hfz32_1 := blk_frozen BK231.out 1; have hfz32_2 := blk_frozen BK231.out 2; have hfz32_3 := blk_frozen BK231.out 3; have hfz32_4 := blk_frozen BK231.out 4; obtain ⟨HGz33, hgz33⟩ := HI0.out; have hcz33_0 := cellS112_0 HGz33; have hcz33_1 := cellS112_1 HGz33; have hfz33_0 := blk_frozen HGz33 0; have hfz33_1 := blk_frozen HGz33 1; clear HGz33 hgz33; have hnb34 := NB230_0.out; have hnc34 := NB0_230.out; have hcz35_0 : w30.cell? ⟨gb230, 0, none⟩ = some (.int .i64 0) := (blk_cell BK230.out 0).trans rfl; have hcz35_1 : w30.cell? ⟨gb230, 1, none⟩ = some (.int .i64 0) := (blk_cell BK230.out 1).trans rfl; have hcz35_2 : w30.cell? ⟨gb230, 2, none⟩ = some (.int .i64 0) := (blk_cell BK230.out 2).trans rfl; have hcz35_3 : w30.cell? ⟨gb230, 3, none⟩ = some (.slice none 0 0) := (blk_cell BK230.out 3).trans rfl; have hcz35_4 : w30.cell? ⟨gb230, 4, none⟩ = some (.slice none 0 0) := (blk_cell BK230.out 4).trans rfl; have hfz35_0 := blk_frozen BK230.out 0; have hfz35_1 := blk_frozen BK230.out 1; have hfz35_2 := blk_frozen BK230.out 2; have hfz35_3 := blk_frozen BK230.out 3; have hfz35_4 := blk_frozen BK230.out 4))
   refine bodyPost_ret (results_ct rfl _ _ gb230 78 #[.int .i64 5, .int .i64 s0_1, .int .i64 t249, .slice none 0 0, .slice Ao31 t244.length co31] (0, 0) _ rfl (by (with_reducible repeat (first | refine lN ?_ _ | refine lD ?_ | refine lA ?_ _)); refine blk_put (cs := #[.int .i64 5, .int .i64 s0_1, .int .i64 t249, .slice none 0 0, .slice none 0 0]) ?_ 4 _ rfl; (with_reducible repeat (first | refine lN ?_ _ | refine lD ?_ | refine lA ?_ _)); refine blk_put (cs := #[.int .i64 5, .int .i64 s0_1, .int .i64 t249, .slice none 0 0, .slice none 0 0]) ?_ 3 _ rfl; (with_reducible repeat (first | refine lN ?_ _ | refine lD ?_ | refine lA ?_ _)); refine blk_put (cs := #[.int .i64 5, .int .i64 s0_1, .int .i64 0, .slice none 0 0, .slice none 0 0]) ?_ 2 _ rfl; (with_reducible repeat (first | refine lN ?_ _ | refine lD ?_ | refine lA ?_ _)); refine blk_put (cs := #[.int .i64 5, .int .i64 0, .int .i64 0, .slice none 0 0, .slice none 0 0]) ?_ 1 _ rfl; (with_reducible repeat (first | refine lN ?_ _ | refine lD ?_ | refine lA ?_ _)); refine blk_put (cs := #[.int .i64 0, .int .i64 0, .int .i64 0, .slice none 0 0, .slice none 0 0]) ?_ 0 _ rfl; (with_reducible repeat (first | refine lN ?_ _ | refine lD ?_ | refine lA ?_ _)); refine blk_far ?_ NB230_231.out _; (with_reducible repeat (first | refine lN ?_ _ | refine lD ?_ | refine lA ?_ _)); refine blk_far ?_ NB230_231.out _; (with_reducible repeat (first | refine lN ?_ _ | refine lD ?_ | refine lA ?_ _)); exact BK230.out) Tryz.underlying78 rfl (by kernel_rfl)) rfl ?_
   exact ⟨_, _, by first | rfl | (simp [errW_none, errW_some] <;> rfl) | (simp [*, errW_none, errW_some] <;> rfl), by first | exact Kd.R_nil _ _ _ _ _ | exact Kd.N_nil _ _ _ _ _ | exact Kd.V_nil _ _ _ _ _ | exact Kd.Q_nil _ _ _ _ _ | exact Kd.S_nil _ _ _ _ _, by (with_reducible repeat (first | apply rA | apply rN | apply rD)); exact Kd.R_mono (Kd.R_far (p := ⟨gb230, 4, none⟩) (Kd.R_far (p := ⟨gb230, 3, none⟩) (Kd.R_far (p := ⟨gb230, 2, none⟩) (Kd.R_far (p := ⟨gb230, 1, none⟩) (Kd.R_far (p := ⟨gb230, 0, none⟩) (Kd.R_far (p := ⟨gb231, 2, none⟩) (Kd.R_far (p := ⟨gb231, 4, none⟩) (Kd.R_mono (Kd.R_mono HO246.out (fun k_ hk => (⟨hk, hk.2⟩ : _ ∧ k_ ≠ gb231))) (fun k_ hk => (⟨hk, hk.1.1.2⟩ : _ ∧ k_ ≠ gb230))) (fun _ hk => hk.1.2) (.slice Ao31 t244.length co31)) (fun _ hk => hk.1.2) (.int .i64 t249)) (fun _ hk => hk.2) (.int .i64 5)) (fun _ hk => hk.2) (.int .i64 s0_1)) (fun _ hk => hk.2) (.int .i64 t249)) (fun _ hk => hk.2) (.slice none 0 0)) (fun _ hk => hk.2) (.slice Ao31 t244.length co31)) (fun _ hk => (by simp [Value.ownBlock])), by repeat (first | (with_reducible first | exact HI0.out | apply iA | apply iN | apply i1 | refine IsS112.far ?_ NB0_230.out _ | refine IsS112.far ?_ NB0_231.out _) | exact HI0.out), by repeat (first | (with_reducible first | exact HB.out | apply bA | apply bN | apply bD | refine below_set ?_ (IsS112.ge HI0.out) | refine below_set ?_ GE230.out | refine below_set ?_ GE231.out) | exact HB.out), by repeat (first | (with_reducible first | exact HK.out | apply kS | apply kN | refine keep_far ?_ GW230.out _ | refine keep_far ?_ GW231.out _) | exact HK.out)⟩
  ·rw [if_neg c20] at H
   have c20b0 : (t232 == 91) = false := beq_eq_false_iff_ne.mpr c20
   have c20b1 : (t232 != 91) = true := bne_iff_ne.mpr c20
   by_cases c36 : t232 = 34
   ·rw [if_pos c36] at H
    have c36b0 : (t232 == 34) = true := beq_iff_eq.mpr c36
    have c36b1 : (t232 != 34) = false := bne_eq_false_iff_eq.mpr c36
    clear c36
    replace H := Option.bind_eq_some_iff.mp H
    obtain ⟨⟨t250, t251, t252⟩, A370, H⟩ := H
    try dsimp only at H
    have A37 := Aside0.mk A370
    clear A370
    simp only [Option.some.injEq, Prod.mk.injEq] at H
    obtain ⟨rfl, rfl, rfl, rfl, rfl, rfl, rfl, rfl⟩ := H
    go_enter Tryz.func73, Tryz.ntmps73
    go_wp2_with (first | ((with_reducible refine gate_dst (N := 2) rfl ?_); refine box_event ?hg (N := 2) ?hd (cs := #[.int .i64 0, .int .i64 0, .int .i64 0, .slice none 0 0, .slice none 0 0]) (t := 78) ?hr ?_; (case hd => rfl); (case hg => rfl); (case hr => first | (go_simp; done) | (go_simp; rfl)); intro gb230 hg w38 hbox hb; have n0_ := Aside0.mk (IsS112.below (by repeat (first | (with_reducible first | exact HI0.out | apply iA | apply iN | apply i1) | exact HI0.out)) hb); have n1_ := Aside0.mk (KeepBut.trans (by repeat (first | (with_reducible first | exact HK.out | apply kS | apply kN) | exact HK.out)) (KeepBut.of_below hb g none) (.inl rfl)); have n2_ := Aside0.mk (below_step (by repeat (first | (with_reducible first | exact HB.out | apply bA | apply bN | apply bD | refine below_set ?_ (IsS112.ge HI0.out)) | exact HB.out)) hb); have n3_ := Aside0.mk (hbox); have n4_ := Aside0.mk ((by rw [hg]; exact (keep_size (w := w) (g := g) (row := none) (by repeat (first | (with_reducible first | exact HK.out | apply kS | apply kN) | exact HK.out))) : w.heap.size ≤ gb230)); have n5_ := Aside0.mk ((Nat.le_trans HW0.out (by rw [hg]; exact (keep_size (w := w) (g := g) (row := none) (by repeat (first | (with_reducible first | exact HK.out | apply kS | apply kN) | exact HK.out))) : w.heap.size ≤ gb230) : w0.heap.size ≤ gb230)); have n6_ := Aside0.mk ((by rw [hg]; exact Nat.ne_of_lt (IsS112.lt (show IsS112 w0 _ g s0_0 s0_1 from by repeat (first | (with_reducible first | exact HI0.out | apply iA | apply iN | apply i1) | exact HI0.out))) : g ≠ gb230)); have n7_ := Aside0.mk ((by rw [hg]; exact Nat.ne_of_gt (IsS112.lt (show IsS112 w0 _ g s0_0 s0_1 from by repeat (first | (with_reducible first | exact HI0.out | apply iA | apply iN | apply i1) | exact HI0.out))) : gb230 ≠ g)); clear HI0; clear HK; clear HB; have HI0 := n0_; have HK := n1_; have HB := n2_; have BK230 := n3_; have GW230 := n4_; have GE230 := n5_; have NB0_230 := n6_; have NB230_0 := n7_; clear n0_ n1_ n2_ n3_ n4_ n5_ n6_ n7_; clear hb hbox hg; obtain ⟨HGz39, hgz39⟩ := HI0.out; have hcz39_0 := cellS112_0 HGz39; have hcz39_1 := cellS112_1 HGz39; have hfz39_0 := blk_frozen HGz39 0; have hfz39_1 := blk_frozen HGz39 1; clear HGz39 hgz39) | ((with_reducible refine gate_dst (N := 4) rfl ?_); refine box_event ?hg (N := 4) ?hd (cs := #[.int .i64 0, .int .i64 0, .int .i64 0, .slice none 0 0, .slice none 0 0]) (t := 78) ?hr ?_; (case hd => rfl); (case hg => rfl); (case hr => first | (go_simp; done) | (go_simp; rfl)); intro gb231 hg w40 hbox hb; have n0_ := Aside0.mk (IsS112.below (by repeat (first | (with_reducible first | exact HI0.out | apply iA | apply iN | apply i1 | refine IsS112.far ?_ NB0_230.out _) | exact HI0.out)) hb); have n1_ := Aside0.mk (blk_below (g := gb230) (o := .cells #[.int .i64 0, .int .i64 0, .int .i64 0, .slice none 0 0, .slice none 0 0] 78 (0, 0)) (by (with_reducible repeat (first | refine lN ?_ _ | refine lD ?_ | refine lA ?_ _)); exact BK230.out) hb); have n2_ := Aside0.mk (KeepBut.trans (by repeat (first | (with_reducible first | exact HK.out | apply kS | apply kN | refine keep_far ?_ GW230.out _) | exact HK.out)) (KeepBut.of_below hb g none) (.inl rfl)); have n3_ := Aside0.mk (below_step (by repeat (first | (with_reducible first | exact HB.out | apply bA | apply bN | apply bD | refine below_set ?_ (IsS112.ge HI0.out) | refine below_set ?_ GE230.out) | exact HB.out)) hb); have n4_ := Aside0.mk (hbox); have n5_ := Aside0.mk ((by rw [hg]; exact (keep_size (w := w) (g := g) (row := none) (by repeat (first | (with_reducible first | exact HK.out | apply kS | apply kN | refine keep_far ?_ GW230.out _) | exact HK.out))) : w.heap.size ≤ gb231)); have n6_ := Aside0.mk ((Nat.le_trans HW0.out (by rw [hg]; exact (keep_size (w := w) (g := g) (row := none) (by repeat (first | (with_reducible first | exact HK.out | apply kS | apply kN | refine keep_far ?_ GW230.out _) | exact HK.out))) : w.heap.size ≤ gb231) : w0.heap.size ≤ gb231)); have n7_ := Aside0.mk ((by rw [hg]; exact Nat.ne_of_lt (blk_lt (g := gb230) (o := .cells #[.int .i64 0, .int .i64 0, .int .i64 0, .slice none 0 0, .slice none 0 0] 78 (0, 0)) (by (with_reducible repeat (first | refine lN ?_ _ | refine lD ?_ | refine lA ?_ _)); exact BK230.out)) : gb230 ≠ gb231)); have n8_ := Aside0.mk ((by rw [hg]; exact Nat.ne_of_gt (blk_lt (g := gb230) (o := .cells #[.int .i64 0, .int .i64 0, .int .i64 0, .slice none 0 0, .slice none 0 0] 78 (0, 0)) (by (with_reducible repeat (first | refine lN ?_ _ | refine lD ?_ | refine lA ?_ _)); exact BK230.out)) : gb231 ≠ gb230)); have n9_ := Aside0.mk ((by rw [hg]; exact Nat.ne_of_lt (IsS112.lt (show IsS112 w0 _ g s0_0 s0_1 from by repeat (first | (with_reducible first | exact HI0.out | apply iA | apply iN | apply i1 | refine IsS112.far ?_ NB0_230.out _) | exact HI0.out))) : g ≠ gb231)); have n10_ := Aside0.mk ((by rw [hg]; exact Nat.ne_of_gt (IsS112.lt (show IsS112 w0 _ g s0_0 s0_1 from by repeat (first | (with_reducible first | exact HI0.out | apply iA | apply iN | apply i1 | refine IsS112.far ?_ NB0_230.out _) | exact HI0.out))) : gb231 ≠ g)); clear HI0; clear BK230; clear HK; clear HB; have HI0 := n0_; have BK230 := n1_; have HK := n2_; have HB := n3_; have BK231 := n4_; have GW231 := n5_; have GE231 := n6_; have NB230_231 := n7_; have NB231_230 := n8_; have NB0_231 := n9_; have NB231_0 := n10_; clear n0_ n1_ n2_ n3_ n4_ n5_ n6_ n7_ n8_ n9_ n10_; clear hb hbox hg; have hnb41 := NB231_230.out; have hnc41 := NB230_231.out; have hnb42 := NB231_0.out; have hnc42 := NB0_231.out; have hcz43_0 : w40.cell? ⟨gb231, 0, none⟩ = some (.int .i64 0) := (blk_cell BK231.out 0).trans rfl; have hcz43_1 : w40.cell? ⟨gb231, 1, none⟩ = some (.int .i64 0) := (blk_cell BK231.out 1).trans rfl; have hcz43_2 : w40.cell? ⟨gb231, 2, none⟩ = some (.int .i64 0) := (blk_cell BK231.out 2).trans rfl; have hcz43_3 : w40.cell? ⟨gb231, 3, none⟩ = some (.slice none 0 0) := (blk_cell BK231.out 3).trans rfl; have hcz43_4 : w40.cell? ⟨gb231, 4, none⟩ = some (.slice none 0 0) := (blk_cell BK231.out 4).trans rfl; have hfz43_0 := blk_frozen BK231.out 0; have hfz43_1 := blk_frozen BK231.out 1; have hfz43_2 := blk_frozen BK231.out 2; have hfz43_3 := blk_frozen BK231.out 3; have hfz43_4 := blk_frozen BK231.out 4) | ((with_reducible refine gate_callee (f := 100) rfl ?_); refine goesL_ (some 13) rfl rfl Tryz.func100 (by kernel_rfl) rfl #[.pointer (some ⟨g, 0, none⟩)] rfl (by (try simp only [List.map_toArray, List.map_cons, List.map_nil]); first | done | rfl | (simp only [List.length_drop, List.length_take]; rfl)) ?_; (with_reducible refine (spec_reader_here.calls g s0_0 s0_1 t232 t233 t234 w0 _ ?side1 ?side2 A2.out).mono ?_); (case side1 => repeat (first | (with_reducible first | exact HI0.out | apply iA | apply iN | apply i1 | refine IsS112.far ?_ NB0_230.out _ | refine IsS112.far ?_ NB0_231.out _) | exact HI0.out)); (case side2 => repeat (first | (with_reducible first | exact HB.out | apply bA | apply bN | apply bD | refine below_set ?_ (IsS112.ge HI0.out) | refine below_set ?_ GE230.out | refine below_set ?_ GE231.out) | exact HB.out)); rintro e w44 ⟨rfl, hi, hb, hk⟩; refine ⟨_, rfl, ?_⟩; have n0_ := Aside0.mk (KeepBut.blk hk (g' := gb230) (o := .cells #[.int .i64 0, .int .i64 0, .int .i64 0, .slice none 0 0, .slice none 0 0] 78 (0, 0)) (by (with_reducible repeat (first | refine lN ?_ _ | refine lD ?_ | refine lA ?_ _)); refine blk_far ?_ NB230_231.out _; (with_reducible repeat (first | refine lN ?_ _ | refine lD ?_ | refine lA ?_ _)); refine blk_far ?_ NB230_231.out _; (with_reducible repeat (first | refine lN ?_ _ | refine lD ?_ | refine lA ?_ _)); refine blk_far ?_ NB230_231.out _; (with_reducible repeat (first | refine lN ?_ _ | refine lD ?_ | refine lA ?_ _)); refine blk_far ?_ NB230_231.out _; (with_reducible repeat (first | refine lN ?_ _ | refine lD ?_ | refine lA ?_ _)); refine blk_far ?_ NB230_231.out _; (with_reducible repeat (first | refine lN ?_ _ | refine lD ?_ | refine lA ?_ _)); exact BK230.out) NB230_0.out (by simp)); have n1_ := Aside0.mk (KeepBut.blk hk (g' := gb231) (o := .cells #[.int .i64 0, .int .i64 s0_1, .int .i64 0, .slice none 0 0, .slice none 0 0] 78 (0, 0)) (by (with_reducible repeat (first | refine lN ?_ _ | refine lD ?_ | refine lA ?_ _)); refine blk_put (cs := #[.int .i64 0, .int .i64 s0_1, .int .i64 0, .slice none 0 0, .slice none 0 0]) ?_ 4 _ rfl; (with_reducible repeat (first | refine lN ?_ _ | refine lD ?_ | refine lA ?_ _)); refine blk_put (cs := #[.int .i64 0, .int .i64 s0_1, .int .i64 0, .slice none 0 0, .slice none 0 0]) ?_ 3 _ rfl; (with_reducible repeat (first | refine lN ?_ _ | refine lD ?_ | refine lA ?_ _)); refine blk_put (cs := #[.int .i64 0, .int .i64 s0_1, .int .i64 0, .slice none 0 0, .slice none 0 0]) ?_ 2 _ rfl; (with_reducible repeat (first | refine lN ?_ _ | refine lD ?_ | refine lA ?_ _)); refine blk_put (cs := #[.int .i64 0, .int .i64 0, .int .i64 0, .slice none 0 0, .slice none 0 0]) ?_ 1 _ rfl; (with_reducible repeat (first | refine lN ?_ _ | refine lD ?_ | refine lA ?_ _)); refine blk_put (cs := #[.int .i64 0, .int .i64 0, .int .i64 0, .slice none 0 0, .slice none 0 0]) ?_ 0 _ rfl; (with_reducible repeat (first | refine lN ?_ _ | refine lD ?_ | refine lA ?_ _)); exact BK231.out) NB231_0.out (by simp)); have n2_ := Aside0.mk (KeepBut.trans (by repeat (first | (with_reducible first | exact HK.out | apply kS | apply kN | refine keep_far ?_ GW230.out _ | refine keep_far ?_ GW231.out _) | exact HK.out)) hk (.inl rfl)); have n3_ := Aside0.mk (hb); have n4_ := Aside0.mk (hi); clear BK230; clear BK231; clear HK; clear HB; clear HI0; have BK230 := n0_; have BK231 := n1_; have HK := n2_; have HB := n3_; have HI0 := n4_; clear n0_ n1_ n2_ n3_ n4_; (try clear hb); (try clear hb2); (try clear hk); (try clear hi); have hcz45_0 : w44.cell? ⟨gb231, 0, none⟩ = some (.int .i64 0) := (blk_cell BK231.out 0).trans rfl; have hcz45_1 : w44.cell? ⟨gb231, 1, none⟩ = some (.int .i64 s0_1) := (blk_cell BK231.out 1).trans rfl; have hcz45_2 : w44.cell? ⟨gb231, 2, none⟩ = some (.int .i64 0) := (blk_cell BK231.out 2).trans rfl; have hcz45_3 : w44.cell? ⟨gb231, 3, none⟩ = some (.slice none 0 0) := (blk_cell BK231.out 3).trans rfl; have hcz45_4 : w44.cell? ⟨gb231, 4, none⟩ = some (.slice none 0 0) := (blk_cell BK231.out 4).trans rfl; have hfz45_0 := blk_frozen BK231.out 0; have hfz45_1 := blk_frozen BK231.out 1; have hfz45_2 := blk_frozen BK231.out 2; have hfz45_3 := blk_frozen BK231.out 3; have hfz45_4 := blk_frozen BK231.out 4) | ((with_reducible refine gate_callee (f := 103) rfl ?_); refine goesL_ (some 41) rfl rfl Tryz.func103 (by kernel_rfl) rfl #[.pointer (some ⟨g, 0, none⟩)] rfl (by (try simp only [List.map_toArray, List.map_cons, List.map_nil]); first | done | rfl | (simp only [List.length_drop, List.length_take]; rfl)) ?_; (with_reducible refine (spec_reader_quoted.calls k g t233 t234 t250 t251 t252 w0 _ ?side1 ?side2 A37.out).mono ?_); (case side1 => repeat (first | (with_reducible first | exact HI0.out | apply iA | apply iN | apply i1 | refine IsS112.far ?_ NB0_230.out _ | refine IsS112.far ?_ NB0_231.out _) | exact HI0.out)); (case side2 => repeat (first | (with_reducible first | exact HB.out | apply bA | apply bN | apply bD | refine below_set ?_ (IsS112.ge HI0.out) | refine below_set ?_ GE230.out | refine below_set ?_ GE231.out) | exact HB.out)); rintro e w46 ⟨rfl, hi, hb, hk⟩; refine ⟨_, rfl, ?_⟩; have n0_ := Aside0.mk (KeepBut.blk hk (g' := gb230) (o := .cells #[.int .i64 0, .int .i64 0, .int .i64 0, .slice none 0 0, .slice none 0 0] 78 (0, 0)) (by (with_reducible repeat (first | refine lN ?_ _ | refine lD ?_ | refine lA ?_ _)); refine blk_far ?_ NB230_231.out _; (with_reducible repeat (first | refine lN ?_ _ | refine lD ?_ | refine lA ?_ _)); exact BK230.out) NB230_0.out (by simp)); have n1_ := Aside0.mk (KeepBut.blk hk (g' := gb231) (o := .cells #[.int .i64 4, .int .i64 s0_1, .int .i64 0, .slice none 0 0, .slice none 0 0] 78 (0, 0)) (by (with_reducible repeat (first | refine lN ?_ _ | refine lD ?_ | refine lA ?_ _)); refine blk_put (cs := #[.int .i64 0, .int .i64 s0_1, .int .i64 0, .slice none 0 0, .slice none 0 0]) ?_ 0 _ rfl; (with_reducible repeat (first | refine lN ?_ _ | refine lD ?_ | refine lA ?_ _)); exact BK231.out) NB231_0.out (by simp)); have n2_ := Aside0.mk (KeepBut.trans (by repeat (first | (with_reducible first | exact HK.out | apply kS | apply kN | refine keep_far ?_ GW230.out _ | refine keep_far ?_ GW231.out _) | exact HK.out)) hk (.inl rfl)); have n3_ := Aside0.mk (hb); have n4_ := Aside0.mk (hi); clear BK230; clear BK231; clear HK; clear HB; clear HI0; have BK230 := n0_; have BK231 := n1_; have HK := n2_; have HB := n3_; have HI0 := n4_; clear n0_ n1_ n2_ n3_ n4_; (try clear hb); (try clear hb2); (try clear hk); (try clear hi); obtain ⟨HGz47, hgz47⟩ := HI0.out; have hcz47_0 := cellS112_0 HGz47; have hcz47_1 := cellS112_1 HGz47; have hfz47_0 := blk_frozen HGz47 0; have hfz47_1 := blk_frozen HGz47 1; clear HGz47 hgz47; have hcz48_0 : w46.cell? ⟨gb231, 0, none⟩ = some (.int .i64 4) := (blk_cell BK231.out 0).trans rfl; have hcz48_1 : w46.cell? ⟨gb231, 1, none⟩ = some (.int .i64 s0_1) := (blk_cell BK231.out 1).trans rfl; have hcz48_2 : w46.cell? ⟨gb231, 2, none⟩ = some (.int .i64 0) := (blk_cell BK231.out 2).trans rfl; have hcz48_3 : w46.cell? ⟨gb231, 3, none⟩ = some (.slice none 0 0) := (blk_cell BK231.out 3).trans rfl; have hcz48_4 : w46.cell? ⟨gb231, 4, none⟩ = some (.slice none 0 0) := (blk_cell BK231.out 4).trans rfl; have hfz48_0 := blk_frozen BK231.out 0; have hfz48_1 := blk_frozen BK231.out 1; have hfz48_2 := blk_frozen BK231.out 2; have hfz48_3 := blk_frozen BK231.out 3; have hfz48_4 := blk_frozen BK231.out 4; have hnb49 := NB230_0.out; have hnc49 := NB0_230.out; have hcz50_0 : w46.cell? ⟨gb230, 0, none⟩ = some (.int .i64 0) := (blk_cell BK230.out 0).trans rfl; have hcz50_1 : w46.cell? ⟨gb230, 1, none⟩ = some (.int .i64 0) := (blk_cell BK230.out 1).trans rfl; have hcz50_2 : w46.cell? ⟨gb230, 2, none⟩ = some (.int .i64 0) := (blk_cell BK230.out 2).trans rfl; have hcz50_3 : w46.cell? ⟨gb230, 3, none⟩ = some (.slice none 0 0) := (blk_cell BK230.out 3).trans rfl; have hcz50_4 : w46.cell? ⟨gb230, 4, none⟩ = some (.slice none 0 0) := (blk_cell BK230.out 4).trans rfl; have hfz50_0 := blk_frozen BK230.out 0; have hfz50_1 := blk_frozen BK230.out 1; have hfz50_2 := blk_frozen BK230.out 2; have hfz50_3 := blk_frozen BK230.out 3; have hfz50_4 := blk_frozen BK230.out 4))
    refine bodyPost_ret (results_ct rfl _ _ gb230 78 #[.int .i64 4, .int .i64 s0_1, .int .i64 t252, .slice none 0 0, .slice none 0 0] (0, 0) _ rfl (by (with_reducible repeat (first | refine lN ?_ _ | refine lD ?_ | refine lA ?_ _)); refine blk_put (cs := #[.int .i64 4, .int .i64 s0_1, .int .i64 t252, .slice none 0 0, .slice none 0 0]) ?_ 4 _ rfl; (with_reducible repeat (first | refine lN ?_ _ | refine lD ?_ | refine lA ?_ _)); refine blk_put (cs := #[.int .i64 4, .int .i64 s0_1, .int .i64 t252, .slice none 0 0, .slice none 0 0]) ?_ 3 _ rfl; (with_reducible repeat (first | refine lN ?_ _ | refine lD ?_ | refine lA ?_ _)); refine blk_put (cs := #[.int .i64 4, .int .i64 s0_1, .int .i64 0, .slice none 0 0, .slice none 0 0]) ?_ 2 _ rfl; (with_reducible repeat (first | refine lN ?_ _ | refine lD ?_ | refine lA ?_ _)); refine blk_put (cs := #[.int .i64 4, .int .i64 0, .int .i64 0, .slice none 0 0, .slice none 0 0]) ?_ 1 _ rfl; (with_reducible repeat (first | refine lN ?_ _ | refine lD ?_ | refine lA ?_ _)); refine blk_put (cs := #[.int .i64 0, .int .i64 0, .int .i64 0, .slice none 0 0, .slice none 0 0]) ?_ 0 _ rfl; (with_reducible repeat (first | refine lN ?_ _ | refine lD ?_ | refine lA ?_ _)); refine blk_far ?_ NB230_231.out _; (with_reducible repeat (first | refine lN ?_ _ | refine lD ?_ | refine lA ?_ _)); exact BK230.out) Tryz.underlying78 rfl (by kernel_rfl)) rfl ?_
    exact ⟨_, _, by first | rfl | (simp [errW_none, errW_some] <;> rfl) | (simp [*, errW_none, errW_some] <;> rfl), by first | exact Kd.R_nil _ _ _ _ _ | exact Kd.N_nil _ _ _ _ _ | exact Kd.V_nil _ _ _ _ _ | exact Kd.Q_nil _ _ _ _ _ | exact Kd.S_nil _ _ _ _ _, by first | exact Kd.R_nil _ _ _ _ _ | exact Kd.N_nil _ _ _ _ _ | exact Kd.V_nil _ _ _ _ _ | exact Kd.Q_nil _ _ _ _ _ | exact Kd.S_nil _ _ _ _ _, by repeat (first | (with_reducible first | exact HI0.out | apply iA | apply iN | apply i1 | refine IsS112.far ?_ NB0_230.out _ | refine IsS112.far ?_ NB0_231.out _) | exact HI0.out), by repeat (first | (with_reducible first | exact HB.out | apply bA | apply bN | apply bD | refine below_set ?_ (IsS112.ge HI0.out) | refine below_set ?_ GE230.out | refine below_set ?_ GE231.out) | exact HB.out), by repeat (first | (with_reducible first | exact HK.out | apply kS | apply kN | refine keep_far ?_ GW230.out _ | refine keep_far ?_ GW231.out _) | exact HK.out)⟩
   ·rw [if_neg c36] at H
    have c36b0 : (t232 == 34) = false := beq_eq_false_iff_ne.mpr c36
    have c36b1 : (t232 != 34) = true := bne_iff_ne.mpr c36
    have HC51 := Aside0.mk H
    clear H
    go_enter Tryz.func73, Tryz.ntmps73
    go_upto_region 14 with (first | ((with_reducible refine gate_dst (N := 2) rfl ?_); refine box_event ?hg (N := 2) ?hd (cs := #[.int .i64 0, .int .i64 0, .int .i64 0, .slice none 0 0, .slice none 0 0]) (t := 78) ?hr ?_; (case hd => rfl); (case hg => rfl); (case hr => first | (go_simp; done) | (go_simp; rfl)); intro gb230 hg w52 hbox hb; have n0_ := Aside0.mk (IsS112.below (by repeat (first | (with_reducible first | exact HI0.out | apply iA | apply iN | apply i1) | exact HI0.out)) hb); have n1_ := Aside0.mk (KeepBut.trans (by repeat (first | (with_reducible first | exact HK.out | apply kS | apply kN) | exact HK.out)) (KeepBut.of_below hb g none) (.inl rfl)); have n2_ := Aside0.mk (below_step (by repeat (first | (with_reducible first | exact HB.out | apply bA | apply bN | apply bD | refine below_set ?_ (IsS112.ge HI0.out)) | exact HB.out)) hb); have n3_ := Aside0.mk (hbox); have n4_ := Aside0.mk ((by rw [hg]; exact (keep_size (w := w) (g := g) (row := none) (by repeat (first | (with_reducible first | exact HK.out | apply kS | apply kN) | exact HK.out))) : w.heap.size ≤ gb230)); have n5_ := Aside0.mk ((Nat.le_trans HW0.out (by rw [hg]; exact (keep_size (w := w) (g := g) (row := none) (by repeat (first | (with_reducible first | exact HK.out | apply kS | apply kN) | exact HK.out))) : w.heap.size ≤ gb230) : w0.heap.size ≤ gb230)); have n6_ := Aside0.mk ((by rw [hg]; exact Nat.ne_of_lt (IsS112.lt (show IsS112 w0 _ g s0_0 s0_1 from by repeat (first | (with_reducible first | exact HI0.out | apply iA | apply iN | apply i1) | exact HI0.out))) : g ≠ gb230)); have n7_ := Aside0.mk ((by rw [hg]; exact Nat.ne_of_gt (IsS112.lt (show IsS112 w0 _ g s0_0 s0_1 from by repeat (first | (with_reducible first | exact HI0.out | apply iA | apply iN | apply i1) | exact HI0.out))) : gb230 ≠ g)); clear HI0; clear HK; clear HB; have HI0 := n0_; have HK := n1_; have HB := n2_; have BK230 := n3_; have GW230 := n4_; have GE230 := n5_; have NB0_230 := n6_; have NB230_0 := n7_; clear n0_ n1_ n2_ n3_ n4_ n5_ n6_ n7_; clear hb hbox hg; obtain ⟨HGz53, hgz53⟩ := HI0.out; have hcz53_0 := cellS112_0 HGz53; have hcz53_1 := cellS112_1 HGz53; have hfz53_0 := blk_frozen HGz53 0; have hfz53_1 := blk_frozen HGz53 1; clear HGz53 hgz53) | ((with_reducible refine gate_dst (N := 4) rfl ?_); refine box_event ?hg (N := 4) ?hd (cs := #[.int .i64 0, .int .i64 0, .int .i64 0, .slice none 0 0, .slice none 0 0]) (t := 78) ?hr ?_; (case hd => rfl); (case hg => rfl); (case hr => first | (go_simp; done) | (go_simp; rfl)); intro gb231 hg w54 hbox hb; have n0_ := Aside0.mk (IsS112.below (by repeat (first | (with_reducible first | exact HI0.out | apply iA | apply iN | apply i1 | refine IsS112.far ?_ NB0_230.out _) | exact HI0.out)) hb); have n1_ := Aside0.mk (blk_below (g := gb230) (o := .cells #[.int .i64 0, .int .i64 0, .int .i64 0, .slice none 0 0, .slice none 0 0] 78 (0, 0)) (by (with_reducible repeat (first | refine lN ?_ _ | refine lD ?_ | refine lA ?_ _)); exact BK230.out) hb); have n2_ := Aside0.mk (KeepBut.trans (by repeat (first | (with_reducible first | exact HK.out | apply kS | apply kN | refine keep_far ?_ GW230.out _) | exact HK.out)) (KeepBut.of_below hb g none) (.inl rfl)); have n3_ := Aside0.mk (below_step (by repeat (first | (with_reducible first | exact HB.out | apply bA | apply bN | apply bD | refine below_set ?_ (IsS112.ge HI0.out) | refine below_set ?_ GE230.out) | exact HB.out)) hb); have n4_ := Aside0.mk (hbox); have n5_ := Aside0.mk ((by rw [hg]; exact (keep_size (w := w) (g := g) (row := none) (by repeat (first | (with_reducible first | exact HK.out | apply kS | apply kN | refine keep_far ?_ GW230.out _) | exact HK.out))) : w.heap.size ≤ gb231)); have n6_ := Aside0.mk ((Nat.le_trans HW0.out (by rw [hg]; exact (keep_size (w := w) (g := g) (row := none) (by repeat (first | (with_reducible first | exact HK.out | apply kS | apply kN | refine keep_far ?_ GW230.out _) | exact HK.out))) : w.heap.size ≤ gb231) : w0.heap.size ≤ gb231)); have n7_ := Aside0.mk ((by rw [hg]; exact Nat.ne_of_lt (blk_lt (g := gb230) (o := .cells #[.int .i64 0, .int .i64 0, .int .i64 0, .slice none 0 0, .slice none 0 0] 78 (0, 0)) (by (with_reducible repeat (first | refine lN ?_ _ | refine lD ?_ | refine lA ?_ _)); exact BK230.out)) : gb230 ≠ gb231)); have n8_ := Aside0.mk ((by rw [hg]; exact Nat.ne_of_gt (blk_lt (g := gb230) (o := .cells #[.int .i64 0, .int .i64 0, .int .i64 0, .slice none 0 0, .slice none 0 0] 78 (0, 0)) (by (with_reducible repeat (first | refine lN ?_ _ | refine lD ?_ | refine lA ?_ _)); exact BK230.out)) : gb231 ≠ gb230)); have n9_ := Aside0.mk ((by rw [hg]; exact Nat.ne_of_lt (IsS112.lt (show IsS112 w0 _ g s0_0 s0_1 from by repeat (first | (with_reducible first | exact HI0.out | apply iA | apply iN | apply i1 | refine IsS112.far ?_ NB0_230.out _) | exact HI0.out))) : g ≠ gb231)); have n10_ := Aside0.mk ((by rw [hg]; exact Nat.ne_of_gt (IsS112.lt (show IsS112 w0 _ g s0_0 s0_1 from by repeat (first | (with_reducible first | exact HI0.out | apply iA | apply iN | apply i1 | refine IsS112.far ?_ NB0_230.out _) | exact HI0.out))) : gb231 ≠ g)); clear HI0; clear BK230; clear HK; clear HB; have HI0 := n0_; have BK230 := n1_; have HK := n2_; have HB := n3_; have BK231 := n4_; have GW231 := n5_; have GE231 := n6_; have NB230_231 := n7_; have NB231_230 := n8_; have NB0_231 := n9_; have NB231_0 := n10_; clear n0_ n1_ n2_ n3_ n4_ n5_ n6_ n7_ n8_ n9_ n10_; clear hb hbox hg; have hnb55 := NB231_230.out; have hnc55 := NB230_231.out; have hnb56 := NB231_0.out; have hnc56 := NB0_231.out; have hcz57_0 : w54.cell? ⟨gb231, 0, none⟩ = some (.int .i64 0) := (blk_cell BK231.out 0).trans rfl; have hcz57_1 : w54.cell? ⟨gb231, 1, none⟩ = some (.int .i64 0) := (blk_cell BK231.out 1).trans rfl; have hcz57_2 : w54.cell? ⟨gb231, 2, none⟩ = some (.int .i64 0) := (blk_cell BK231.out 2).trans rfl; have hcz57_3 : w54.cell? ⟨gb231, 3, none⟩ = some (.slice none 0 0) := (blk_cell BK231.out 3).trans rfl; have hcz57_4 : w54.cell? ⟨gb231, 4, none⟩ = some (.slice none 0 0) := (blk_cell BK231.out 4).trans rfl; have hfz57_0 := blk_frozen BK231.out 0; have hfz57_1 := blk_frozen BK231.out 1; have hfz57_2 := blk_frozen BK231.out 2; have hfz57_3 := blk_frozen BK231.out 3; have hfz57_4 := blk_frozen BK231.out 4) | ((with_reducible refine gate_callee (f := 100) rfl ?_); refine goesL_ (some 13) rfl rfl Tryz.func100 (by kernel_rfl) rfl #[.pointer (some ⟨g, 0, none⟩)] rfl (by (try simp only [List.map_toArray, List.map_cons, List.map_nil]); first | done | rfl | (simp only [List.length_drop, List.length_take]; rfl)) ?_; (with_reducible refine (spec_reader_here.calls g s0_0 s0_1 t232 t233 t234 w0 _ ?side1 ?side2 A2.out).mono ?_); (case side1 => repeat (first | (with_reducible first | exact HI0.out | apply iA | apply iN | apply i1 | refine IsS112.far ?_ NB0_230.out _ | refine IsS112.far ?_ NB0_231.out _) | exact HI0.out)); (case side2 => repeat (first | (with_reducible first | exact HB.out | apply bA | apply bN | apply bD | refine below_set ?_ (IsS112.ge HI0.out) | refine below_set ?_ GE230.out | refine below_set ?_ GE231.out) | exact HB.out)); rintro e w58 ⟨rfl, hi, hb, hk⟩; refine ⟨_, rfl, ?_⟩; have n0_ := Aside0.mk (KeepBut.blk hk (g' := gb230) (o := .cells #[.int .i64 0, .int .i64 0, .int .i64 0, .slice none 0 0, .slice none 0 0] 78 (0, 0)) (by (with_reducible repeat (first | refine lN ?_ _ | refine lD ?_ | refine lA ?_ _)); refine blk_far ?_ NB230_231.out _; (with_reducible repeat (first | refine lN ?_ _ | refine lD ?_ | refine lA ?_ _)); refine blk_far ?_ NB230_231.out _; (with_reducible repeat (first | refine lN ?_ _ | refine lD ?_ | refine lA ?_ _)); refine blk_far ?_ NB230_231.out _; (with_reducible repeat (first | refine lN ?_ _ | refine lD ?_ | refine lA ?_ _)); refine blk_far ?_ NB230_231.out _; (with_reducible repeat (first | refine lN ?_ _ | refine lD ?_ | refine lA ?_ _)); refine blk_far ?_ NB230_231.out _; (with_reducible repeat (first | refine lN ?_ _ | refine lD ?_ | refine lA ?_ _)); exact BK230.out) NB230_0.out (by simp)); have n1_ := Aside0.mk (KeepBut.blk hk (g' := gb231) (o := .cells #[.int .i64 0, .int .i64 s0_1, .int .i64 0, .slice none 0 0, .slice none 0 0] 78 (0, 0)) (by (with_reducible repeat (first | refine lN ?_ _ | refine lD ?_ | refine lA ?_ _)); refine blk_put (cs := #[.int .i64 0, .int .i64 s0_1, .int .i64 0, .slice none 0 0, .slice none 0 0]) ?_ 4 _ rfl; (with_reducible repeat (first | refine lN ?_ _ | refine lD ?_ | refine lA ?_ _)); refine blk_put (cs := #[.int .i64 0, .int .i64 s0_1, .int .i64 0, .slice none 0 0, .slice none 0 0]) ?_ 3 _ rfl; (with_reducible repeat (first | refine lN ?_ _ | refine lD ?_ | refine lA ?_ _)); refine blk_put (cs := #[.int .i64 0, .int .i64 s0_1, .int .i64 0, .slice none 0 0, .slice none 0 0]) ?_ 2 _ rfl; (with_reducible repeat (first | refine lN ?_ _ | refine lD ?_ | refine lA ?_ _)); refine blk_put (cs := #[.int .i64 0, .int .i64 0, .int .i64 0, .slice none 0 0, .slice none 0 0]) ?_ 1 _ rfl; (with_reducible repeat (first | refine lN ?_ _ | refine lD ?_ | refine lA ?_ _)); refine blk_put (cs := #[.int .i64 0, .int .i64 0, .int .i64 0, .slice none 0 0, .slice none 0 0]) ?_ 0 _ rfl; (with_reducible repeat (first | refine lN ?_ _ | refine lD ?_ | refine lA ?_ _)); exact BK231.out) NB231_0.out (by simp)); have n2_ := Aside0.mk (KeepBut.trans (by repeat (first | (with_reducible first | exact HK.out | apply kS | apply kN | refine keep_far ?_ GW230.out _ | refine keep_far ?_ GW231.out _) | exact HK.out)) hk (.inl rfl)); have n3_ := Aside0.mk (hb); have n4_ := Aside0.mk (hi); clear BK230; clear BK231; clear HK; clear HB; clear HI0; have BK230 := n0_; have BK231 := n1_; have HK := n2_; have HB := n3_; have HI0 := n4_; clear n0_ n1_ n2_ n3_ n4_; (try clear hb); (try clear hb2); (try clear hk); (try clear hi)))
    (try simp only [Act.put, List.setIfInBounds_toArray, List.set_cons_zero, List.set_cons_succ])
    go_cut [42] (fun v42 wc => ∃ (kq : Nat) (x42_50 : Bool), v42 = .bool x42_50 ∧ Aside0 (spec_reader_value.j0 kq true x42_50 t233 t234 0 s0_1 0 = some (r1, r2, r3, r4, r5, r6, r7, r8)) ∧ Aside0 (kq ≤ k) ∧ Aside0 (wc.heap[gb230]? = some (.cells #[.int .i64 0, .int .i64 0, .int .i64 0, (.slice none 0 0), (.slice none 0 0)] 78 (0, 0))) ∧ Aside0 (wc.heap[gb231]? = some (.cells #[.int .i64 0, .int .i64 s0_1, .int .i64 0, (.slice none 0 0), (.slice none 0 0)] 78 (0, 0))) ∧ Aside0 (IsS112 w0 wc g t233 t234) ∧ Aside0 (KeepBut w wc g none) ∧ Aside0 (Below w0.heap.size w0 wc))
    case first =>
     have H := HC51.out
     clear HC51
     by_cases c59 : t232 = 45
     ·rw [if_pos c59] at H
      have c59b0 : (t232 == 45) = true := beq_iff_eq.mpr c59
      have c59b1 : (t232 != 45) = false := bne_eq_false_iff_eq.mpr c59
      clear c59
      (first | rw [c59b0] | (simp only [i64_w, i32_w]; rw [c59b0]) | skip)
      have H' := Aside0.mk H
      clear H
      go_wp2
      go_meet
      case rel => exact ⟨_, (true), (by first | rfl | (simp; done) | (simp [*]; done)), H', ⟨by first | omega | exact Nat.le_refl _⟩, ⟨by (with_reducible repeat (first | refine lN ?_ _ | refine lD ?_ | refine lA ?_ _)); exact BK230.out⟩, ⟨by (with_reducible repeat (first | refine lN ?_ _ | refine lD ?_ | refine lA ?_ _)); exact BK231.out⟩, ⟨by repeat (first | (with_reducible first | exact HI0.out | apply iA | apply iN | apply i1 | refine IsS112.far ?_ NB0_230.out _ | refine IsS112.far ?_ NB0_231.out _) | exact HI0.out)⟩, ⟨by repeat (first | (with_reducible first | exact HK.out | apply kS | apply kN | refine keep_far ?_ GW230.out _ | refine keep_far ?_ GW231.out _) | exact HK.out)⟩, ⟨by repeat (first | (with_reducible first | exact HB.out | apply bA | apply bN | apply bD | refine below_set ?_ (IsS112.ge HI0.out) | refine below_set ?_ GE230.out | refine below_set ?_ GE231.out) | exact HB.out)⟩⟩
     ·rw [if_neg c59] at H
      have c59b0 : (t232 == 45) = false := beq_eq_false_iff_ne.mpr c59
      have c59b1 : (t232 != 45) = true := bne_iff_ne.mpr c59
      (first | rw [c59b0] | (simp only [i64_w, i32_w]; rw [c59b0]) | skip)
      by_cases c60 : 48 ≤ t232
      ·rw [if_pos c60] at H
       have c60b0 : decide (48 ≤ t232) = true := decide_eq_true c60
       clear c60
       have H' := Aside0.mk H
       clear H
       go_wp2
       go_meet
       case rel => exact ⟨_, (decide (t232 ≤ 57)), (by first | rfl | (simp; done) | (simp [*]; done)), H', ⟨by first | omega | exact Nat.le_refl _⟩, ⟨by (with_reducible repeat (first | refine lN ?_ _ | refine lD ?_ | refine lA ?_ _)); exact BK230.out⟩, ⟨by (with_reducible repeat (first | refine lN ?_ _ | refine lD ?_ | refine lA ?_ _)); exact BK231.out⟩, ⟨by repeat (first | (with_reducible first | exact HI0.out | apply iA | apply iN | apply i1 | refine IsS112.far ?_ NB0_230.out _ | refine IsS112.far ?_ NB0_231.out _) | exact HI0.out)⟩, ⟨by repeat (first | (with_reducible first | exact HK.out | apply kS | apply kN | refine keep_far ?_ GW230.out _ | refine keep_far ?_ GW231.out _) | exact HK.out)⟩, ⟨by repeat (first | (with_reducible first | exact HB.out | apply bA | apply bN | apply bD | refine below_set ?_ (IsS112.ge HI0.out) | refine below_set ?_ GE230.out | refine below_set ?_ GE231.out) | exact HB.out)⟩⟩
      ·rw [if_neg c60] at H
       have c60b0 : decide (48 ≤ t232) = false := decide_eq_false c60
       clear c60
       have H' := Aside0.mk H
       clear H
       go_wp2
       go_meet
       case rel => exact ⟨_, (false), (by first | rfl | (simp; done) | (simp [*]; done)), H', ⟨by first | omega | exact Nat.le_refl _⟩, ⟨by (with_reducible repeat (first | refine lN ?_ _ | refine lD ?_ | refine lA ?_ _)); exact BK230.out⟩, ⟨by (with_reducible repeat (first | refine lN ?_ _ | refine lD ?_ | refine lA ?_ _)); exact BK231.out⟩, ⟨by repeat (first | (with_reducible first | exact HI0.out | apply iA | apply iN | apply i1 | refine IsS112.far ?_ NB0_230.out _ | refine IsS112.far ?_ NB0_231.out _) | exact HI0.out)⟩, ⟨by repeat (first | (with_reducible first | exact HK.out | apply kS | apply kN | refine keep_far ?_ GW230.out _ | refine keep_far ?_ GW231.out _) | exact HK.out)⟩, ⟨by repeat (first | (with_reducible first | exact HB.out | apply bA | apply bN | apply bD | refine below_set ?_ (IsS112.ge HI0.out) | refine below_set ?_ GE230.out | refine below_set ?_ GE231.out) | exact HB.out)⟩⟩
    case rest =>
     clear HC51
     try clear c1
     try clear c2
     try clear p2
     try clear c3
     try clear c3b0
     try clear c3b1
     try clear c4
     try clear c5
     try clear c6
     try clear c7
     try clear c8
     try clear c9
     try clear c10
     try clear c18
     try clear c20
     try clear c20b0
     try clear c20b1
     try clear c25
     try clear c26
     try clear c34
     try clear c36
     try clear c36b0
     try clear c36b1
     try clear c41
     try clear c42
     try clear c49
     try clear c55
     try clear c56
     try clear c59
     try clear c59b0
     try clear c59b1
     try clear c60
     try clear c60b0
     try clear hcz10_0
     try clear hcz10_1
     try clear hcz10_2
     try clear hcz10_3
     try clear hcz10_4
     try clear hcz12_0
     try clear hcz12_1
     try clear hcz12_2
     try clear hcz12_3
     try clear hcz12_4
     try clear hcz15_0
     try clear hcz15_1
     try clear hcz15_2
     try clear hcz15_3
     try clear hcz15_4
     try clear hcz17_0
     try clear hcz17_1
     try clear hcz19_0
     try clear hcz19_1
     try clear hcz19_2
     try clear hcz19_3
     try clear hcz19_4
     try clear hcz23_0
     try clear hcz23_1
     try clear hcz27_0
     try clear hcz27_1
     try clear hcz27_2
     try clear hcz27_3
     try clear hcz27_4
     try clear hcz29_0
     try clear hcz29_1
     try clear hcz29_2
     try clear hcz29_3
     try clear hcz29_4
     try clear hcz32_0
     try clear hcz32_1
     try clear hcz32_2
     try clear hcz32_3
     try clear hcz32_4
     try clear hcz33_0
     try clear hcz33_1
     try clear hcz35_0
     try clear hcz35_1
     try clear hcz35_2
     try clear hcz35_3
     try clear hcz35_4
     try clear hcz39_0
     try clear hcz39_1
     try clear hcz43_0
     try clear hcz43_1
     try clear hcz43_2
     try clear hcz43_3
     try clear hcz43_4
     try clear hcz45_0
     try clear hcz45_1
     try clear hcz45_2
     try clear hcz45_3
     try clear hcz45_4
     try clear hcz47_0
     try clear hcz47_1
     try clear hcz48_0
     try clear hcz48_1
     try clear hcz48_2
     try clear hcz48_3
     try clear hcz48_4
     try clear hcz50_0
     try clear hcz50_1
     try clear hcz50_2
     try clear hcz50_3
     try clear hcz50_4
     try clear hcz53_0
     try clear hcz53_1
     try clear hcz57_0
     try clear hcz57_1
     try clear hcz57_2
     try clear hcz57_3
     try clear hcz57_4
     try clear hcz6_0
     try clear hcz6_1
     try clear hfz10_0
     try clear hfz10_1
     try clear hfz10_2
     try clear hfz10_3
     try clear hfz10_4
     try clear hfz12_0
     try clear hfz12_1
     try clear hfz12_2
     try clear hfz12_3
     try clear hfz12_4
     try clear hfz15_0
     try clear hfz15_1
     try clear hfz15_2
     try clear hfz15_3
     try clear hfz15_4
     try clear hfz17_0
     try clear hfz17_1
     try clear hfz19_0
     try clear hfz19_1
     try clear hfz19_2
     try clear hfz19_3
     try clear hfz19_4
     try clear hfz23_0
     try clear hfz23_1
     try clear hfz27_0
     try clear hfz27_1
     try clear hfz27_2
     try clear hfz27_3
     try clear hfz27_4
     try clear hfz29_0
     try clear hfz29_1
     try clear hfz29_2
     try clear hfz29_3
     try clear hfz29_4
     try clear hfz32_0
     try clear hfz32_1
     try clear hfz32_2
     try clear hfz32_3
     try clear hfz32_4
     try clear hfz33_0
     try clear hfz33_1
     try clear hfz35_0
     try clear hfz35_1
     try clear hfz35_2
     try clear hfz35_3
     try clear hfz35_4
     try clear hfz39_0
     try clear hfz39_1
     try clear hfz43_0
     try clear hfz43_1
     try clear hfz43_2
     try clear hfz43_3
     try clear hfz43_4
     try clear hfz45_0
     try clear hfz45_1
     try clear hfz45_2
     try clear hfz45_3
     try clear hfz45_4
     try clear hfz47_0
     try clear hfz47_1
     try clear hfz48_0
     try clear hfz48_1
     try clear hfz48_2
     try clear hfz48_3
     try clear hfz48_4
     try clear hfz50_0
     try clear hfz50_1
     try clear hfz50_2
     try clear hfz50_3
     try clear hfz50_4
     try clear hfz53_0
     try clear hfz53_1
     try clear hfz57_0
     try clear hfz57_1
     try clear hfz57_2
     try clear hfz57_3
     try clear hfz57_4
     try clear hfz6_0
     try clear hfz6_1
     obtain ⟨kq, x42_50, rfl, HA, HJ50, BK230, BK231, HI0, HK, HB⟩ := hcut
     cases kq with
     | zero => exact absurd HA.out (by simp [spec_reader_value.j0])
     | succ kj50 =>
      have H := HA.out
      clear HA
      simp only [spec_reader_value.j0] at H
      by_cases c61 : x42_50 = true
      ·subst c61
       have H1 : ((spec_reader_number.f kj50 t233 t234).bind fun bt253 => (some (3, s0_1, bt253.2.2, ([] : List (S115)), ([] : List (S78)), bt253.1, bt253.2.1, bt253.2.2))) = some (r1, r2, r3, r4, r5, r6, r7, r8) := by rw [if_pos rfl] at H; exact H
       clear H
       have H := H1
       clear H1
       replace H := Option.bind_eq_some_iff.mp H
       obtain ⟨⟨t253, t254, t255⟩, A620, H⟩ := H
       try dsimp only at H
       have A62 := Aside0.mk A620
       clear A620
       simp only [Option.some.injEq, Prod.mk.injEq] at H
       obtain ⟨rfl, rfl, rfl, rfl, rfl, rfl, rfl, rfl⟩ := H
       have hnb63 := NB231_230.out
       have hnc63 := NB230_231.out
       have hnb64 := NB231_0.out
       have hnc64 := NB0_231.out
       have hcz65_0 : wc.cell? ⟨gb231, 0, none⟩ = some (.int .i64 0) := (blk_cell BK231.out 0).trans rfl
       have hcz65_1 : wc.cell? ⟨gb231, 1, none⟩ = some (.int .i64 s0_1) := (blk_cell BK231.out 1).trans rfl
       have hcz65_2 : wc.cell? ⟨gb231, 2, none⟩ = some (.int .i64 0) := (blk_cell BK231.out 2).trans rfl
       have hcz65_3 : wc.cell? ⟨gb231, 3, none⟩ = some (.slice none 0 0) := (blk_cell BK231.out 3).trans rfl
       have hcz65_4 : wc.cell? ⟨gb231, 4, none⟩ = some (.slice none 0 0) := (blk_cell BK231.out 4).trans rfl
       have hfz65_0 := blk_frozen BK231.out 0
       have hfz65_1 := blk_frozen BK231.out 1
       have hfz65_2 := blk_frozen BK231.out 2
       have hfz65_3 := blk_frozen BK231.out 3
       have hfz65_4 := blk_frozen BK231.out 4
       go_wp2_with (first | ((with_reducible refine gate_callee (f := 78) rfl ?_); refine goesL_ (some 55) rfl rfl Tryz.func78 (by kernel_rfl) rfl #[.pointer (some ⟨g, 0, none⟩)] rfl (by (try simp only [List.map_toArray, List.map_cons, List.map_nil]); first | done | rfl | (simp only [List.length_drop, List.length_take]; rfl)) ?_; (with_reducible refine (spec_reader_number.calls kj50 g t233 t234 t253 t254 t255 w0 _ ?side1 ?side2 A62.out).mono ?_); (case side1 => repeat (first | (with_reducible first | exact HI0.out | apply iA | apply iN | apply i1 | refine IsS112.far ?_ NB0_230.out _ | refine IsS112.far ?_ NB0_231.out _) | exact HI0.out)); (case side2 => repeat (first | (with_reducible first | exact HB.out | apply bA | apply bN | apply bD | refine below_set ?_ (IsS112.ge HI0.out) | refine below_set ?_ GE230.out | refine below_set ?_ GE231.out) | exact HB.out)); rintro e w66 ⟨rfl, hi, hb, hk⟩; refine ⟨_, rfl, ?_⟩; have n0_ := Aside0.mk (KeepBut.blk hk (g' := gb230) (o := .cells #[.int .i64 0, .int .i64 0, .int .i64 0, .slice none 0 0, .slice none 0 0] 78 (0, 0)) (by (with_reducible repeat (first | refine lN ?_ _ | refine lD ?_ | refine lA ?_ _)); refine blk_far ?_ NB230_231.out _; (with_reducible repeat (first | refine lN ?_ _ | refine lD ?_ | refine lA ?_ _)); exact BK230.out) NB230_0.out (by simp)); have n1_ := Aside0.mk (KeepBut.blk hk (g' := gb231) (o := .cells #[.int .i64 3, .int .i64 s0_1, .int .i64 0, .slice none 0 0, .slice none 0 0] 78 (0, 0)) (by (with_reducible repeat (first | refine lN ?_ _ | refine lD ?_ | refine lA ?_ _)); refine blk_put (cs := #[.int .i64 0, .int .i64 s0_1, .int .i64 0, .slice none 0 0, .slice none 0 0]) ?_ 0 _ rfl; (with_reducible repeat (first | refine lN ?_ _ | refine lD ?_ | refine lA ?_ _)); exact BK231.out) NB231_0.out (by simp)); have n2_ := Aside0.mk (KeepBut.trans (by repeat (first | (with_reducible first | exact HK.out | apply kS | apply kN | refine keep_far ?_ GW230.out _ | refine keep_far ?_ GW231.out _) | exact HK.out)) hk (.inl rfl)); have n3_ := Aside0.mk (hb); have n4_ := Aside0.mk (hi); clear BK230; clear BK231; clear HK; clear HB; clear HI0; have BK230 := n0_; have BK231 := n1_; have HK := n2_; have HB := n3_; have HI0 := n4_; clear n0_ n1_ n2_ n3_ n4_; (try clear hb); (try clear hb2); (try clear hk); (try clear hi); obtain ⟨HGz67, hgz67⟩ := HI0.out; have hcz67_0 := cellS112_0 HGz67; have hcz67_1 := cellS112_1 HGz67; have hfz67_0 := blk_frozen HGz67 0; have hfz67_1 := blk_frozen HGz67 1; clear HGz67 hgz67; have hcz68_0 : w66.cell? ⟨gb231, 0, none⟩ = some (.int .i64 3) := (blk_cell BK231.out 0).trans rfl; have hcz68_1 : w66.cell? ⟨gb231, 1, none⟩ = some (.int .i64 s0_1) := (blk_cell BK231.out 1).trans rfl; have hcz68_2 : w66.cell? ⟨gb231, 2, none⟩ = some (.int .i64 0) := (blk_cell BK231.out 2).trans rfl; have hcz68_3 : w66.cell? ⟨gb231, 3, none⟩ = some (.slice none 0 0) := (blk_cell BK231.out 3).trans rfl; have hcz68_4 : w66.cell? ⟨gb231, 4, none⟩ = some (.slice none 0 0) := (blk_cell BK231.out 4).trans rfl; have hfz68_0 := blk_frozen BK231.out 0; have hfz68_1 := blk_frozen BK231.out 1; have hfz68_2 := blk_frozen BK231.out 2; have hfz68_3 := blk_frozen BK231.out 3; have hfz68_4 := blk_frozen BK231.out 4; have hnb69 := NB230_0.out; have hnc69 := NB0_230.out; have hcz70_0 : w66.cell? ⟨gb230, 0, none⟩ = some (.int .i64 0) := (blk_cell BK230.out 0).trans rfl; have hcz70_1 : w66.cell? ⟨gb230, 1, none⟩ = some (.int .i64 0) := (blk_cell BK230.out 1).trans rfl; have hcz70_2 : w66.cell? ⟨gb230, 2, none⟩ = some (.int .i64 0) := (blk_cell BK230.out 2).trans rfl; have hcz70_3 : w66.cell? ⟨gb230, 3, none⟩ = some (.slice none 0 0) := (blk_cell BK230.out 3).trans rfl; have hcz70_4 : w66.cell? ⟨gb230, 4, none⟩ = some (.slice none 0 0) := (blk_cell BK230.out 4).trans rfl; have hfz70_0 := blk_frozen BK230.out 0; have hfz70_1 := blk_frozen BK230.out 1; have hfz70_2 := blk_frozen BK230.out 2; have hfz70_3 := blk_frozen BK230.out 3; have hfz70_4 := blk_frozen BK230.out 4))
       refine bodyPost_ret (results_ct rfl _ _ gb230 78 #[.int .i64 3, .int .i64 s0_1, .int .i64 t255, .slice none 0 0, .slice none 0 0] (0, 0) _ rfl (by (with_reducible repeat (first | refine lN ?_ _ | refine lD ?_ | refine lA ?_ _)); refine blk_put (cs := #[.int .i64 3, .int .i64 s0_1, .int .i64 t255, .slice none 0 0, .slice none 0 0]) ?_ 4 _ rfl; (with_reducible repeat (first | refine lN ?_ _ | refine lD ?_ | refine lA ?_ _)); refine blk_put (cs := #[.int .i64 3, .int .i64 s0_1, .int .i64 t255, .slice none 0 0, .slice none 0 0]) ?_ 3 _ rfl; (with_reducible repeat (first | refine lN ?_ _ | refine lD ?_ | refine lA ?_ _)); refine blk_put (cs := #[.int .i64 3, .int .i64 s0_1, .int .i64 0, .slice none 0 0, .slice none 0 0]) ?_ 2 _ rfl; (with_reducible repeat (first | refine lN ?_ _ | refine lD ?_ | refine lA ?_ _)); refine blk_put (cs := #[.int .i64 3, .int .i64 0, .int .i64 0, .slice none 0 0, .slice none 0 0]) ?_ 1 _ rfl; (with_reducible repeat (first | refine lN ?_ _ | refine lD ?_ | refine lA ?_ _)); refine blk_put (cs := #[.int .i64 0, .int .i64 0, .int .i64 0, .slice none 0 0, .slice none 0 0]) ?_ 0 _ rfl; (with_reducible repeat (first | refine lN ?_ _ | refine lD ?_ | refine lA ?_ _)); refine blk_far ?_ NB230_231.out _; (with_reducible repeat (first | refine lN ?_ _ | refine lD ?_ | refine lA ?_ _)); exact BK230.out) Tryz.underlying78 rfl (by kernel_rfl)) rfl ?_
       exact ⟨_, _, by first | rfl | (simp [errW_none, errW_some] <;> rfl) | (simp [*, errW_none, errW_some] <;> rfl), by first | exact Kd.R_nil _ _ _ _ _ | exact Kd.N_nil _ _ _ _ _ | exact Kd.V_nil _ _ _ _ _ | exact Kd.Q_nil _ _ _ _ _ | exact Kd.S_nil _ _ _ _ _, by first | exact Kd.R_nil _ _ _ _ _ | exact Kd.N_nil _ _ _ _ _ | exact Kd.V_nil _ _ _ _ _ | exact Kd.Q_nil _ _ _ _ _ | exact Kd.S_nil _ _ _ _ _, by repeat (first | (with_reducible first | exact HI0.out | apply iA | apply iN | apply i1 | refine IsS112.far ?_ NB0_230.out _ | refine IsS112.far ?_ NB0_231.out _) | exact HI0.out), by repeat (first | (with_reducible first | exact HB.out | apply bA | apply bN | apply bD | refine below_set ?_ (IsS112.ge HI0.out) | refine below_set ?_ GE230.out | refine below_set ?_ GE231.out) | exact HB.out), by repeat (first | (with_reducible first | exact HK.out | apply kS | apply kN | refine keep_far ?_ GW230.out _ | refine keep_far ?_ GW231.out _) | exact HK.out)⟩
      ·replace c61 := Bool.eq_false_iff.mpr c61
       subst c61
       have H1 : ((spec_reader_word.f t233 t234 (⟨#[110, 117, 108, 108]⟩ : ByteArray)).bind fun bt256 => (if bt256.1 = true then (some (0, s0_1, bt256.2.2, ([] : List (S115)), ([] : List (S78)), true, bt256.2.1, bt256.2.2)) else ((spec_reader_word.f bt256.2.1 bt256.2.2 (⟨#[102, 97, 108, 115, 101]⟩ : ByteArray)).bind fun bt259 => (if bt259.1 = true then (some (1, s0_1, bt259.2.2, ([] : List (S115)), ([] : List (S78)), true, bt259.2.1, bt259.2.2)) else ((spec_reader_word.f bt259.2.1 bt259.2.2 (⟨#[116, 114, 117, 101]⟩ : ByteArray)).bind fun bt262 => (if bt262.1 = true then (some (2, s0_1, bt262.2.2, ([] : List (S115)), ([] : List (S78)), true, bt262.2.1, bt262.2.2)) else (some (0, s0_1, bt262.2.2, ([] : List (S115)), ([] : List (S78)), false, bt262.2.1, bt262.2.2)))))))) = some (r1, r2, r3, r4, r5, r6, r7, r8) := by rw [if_neg (show ¬ (false = true) by decide)] at H; exact H
       clear H
       have H := H1
       clear H1
       replace H := Option.bind_eq_some_iff.mp H
       obtain ⟨⟨t256, t257, t258⟩, A710, H⟩ := H
       try dsimp only at H
       have A71 := Aside0.mk A710
       clear A710
       by_cases c72 : t256 = true
       ·subst c72
        have H1 : (some (0, s0_1, t258, ([] : List (S115)), ([] : List (S78)), true, t257, t258)) = some (r1, r2, r3, r4, r5, r6, r7, r8) := by rw [if_pos rfl] at H; exact H
        clear H
        have H := H1
        clear H1
        simp only [Option.some.injEq, Prod.mk.injEq] at H
        obtain ⟨rfl, rfl, rfl, rfl, rfl, rfl, rfl, rfl⟩ := H
        go_wp2_with (first | ((with_reducible refine gate_callee (f := 104) rfl ?_); refine goesL_ (some 58) rfl rfl Tryz.func104 (by kernel_rfl) rfl #[.pointer (some ⟨g, 0, none⟩), .string (⟨#[110, 117, 108, 108]⟩ : ByteArray)] rfl (by (try simp only [List.map_toArray, List.map_cons, List.map_nil]); first | done | rfl | (simp only [List.length_drop, List.length_take]; rfl)) ?_; (with_reducible refine (spec_reader_word.calls g t233 t234 (⟨#[110, 117, 108, 108]⟩ : ByteArray) true t257 t258 w0 _ ?side1 ?side2 A71.out).mono ?_); (case side1 => repeat (first | (with_reducible first | exact HI0.out | apply iA | apply iN | apply i1 | refine IsS112.far ?_ NB0_230.out _ | refine IsS112.far ?_ NB0_231.out _) | exact HI0.out)); (case side2 => repeat (first | (with_reducible first | exact HB.out | apply bA | apply bN | apply bD | refine below_set ?_ (IsS112.ge HI0.out) | refine below_set ?_ GE230.out | refine below_set ?_ GE231.out) | exact HB.out)); rintro e w73 ⟨rfl, hi, hb, hk⟩; refine ⟨_, rfl, ?_⟩; have n0_ := Aside0.mk (KeepBut.blk hk (g' := gb230) (o := .cells #[.int .i64 0, .int .i64 0, .int .i64 0, .slice none 0 0, .slice none 0 0] 78 (0, 0)) (by (with_reducible repeat (first | refine lN ?_ _ | refine lD ?_ | refine lA ?_ _)); exact BK230.out) NB230_0.out (by simp)); have n1_ := Aside0.mk (KeepBut.blk hk (g' := gb231) (o := .cells #[.int .i64 0, .int .i64 s0_1, .int .i64 0, .slice none 0 0, .slice none 0 0] 78 (0, 0)) (by (with_reducible repeat (first | refine lN ?_ _ | refine lD ?_ | refine lA ?_ _)); exact BK231.out) NB231_0.out (by simp)); have n2_ := Aside0.mk (KeepBut.trans (by repeat (first | (with_reducible first | exact HK.out | apply kS | apply kN | refine keep_far ?_ GW230.out _ | refine keep_far ?_ GW231.out _) | exact HK.out)) hk (.inl rfl)); have n3_ := Aside0.mk (hb); have n4_ := Aside0.mk (hi); clear BK230; clear BK231; clear HK; clear HB; clear HI0; have BK230 := n0_; have BK231 := n1_; have HK := n2_; have HB := n3_; have HI0 := n4_; clear n0_ n1_ n2_ n3_ n4_; (try clear hb); (try clear hb2); (try clear hk); (try clear hi); have hnb74 := NB231_230.out; have hnc74 := NB230_231.out; have hnb75 := NB231_0.out; have hnc75 := NB0_231.out; have hcz76_0 : w73.cell? ⟨gb231, 0, none⟩ = some (.int .i64 0) := (blk_cell BK231.out 0).trans rfl; have hcz76_1 : w73.cell? ⟨gb231, 1, none⟩ = some (.int .i64 s0_1) := (blk_cell BK231.out 1).trans rfl; have hcz76_2 : w73.cell? ⟨gb231, 2, none⟩ = some (.int .i64 0) := (blk_cell BK231.out 2).trans rfl; have hcz76_3 : w73.cell? ⟨gb231, 3, none⟩ = some (.slice none 0 0) := (blk_cell BK231.out 3).trans rfl; have hcz76_4 : w73.cell? ⟨gb231, 4, none⟩ = some (.slice none 0 0) := (blk_cell BK231.out 4).trans rfl; have hfz76_0 := blk_frozen BK231.out 0; have hfz76_1 := blk_frozen BK231.out 1; have hfz76_2 := blk_frozen BK231.out 2; have hfz76_3 := blk_frozen BK231.out 3; have hfz76_4 := blk_frozen BK231.out 4; obtain ⟨HGz77, hgz77⟩ := HI0.out; have hcz77_0 := cellS112_0 HGz77; have hcz77_1 := cellS112_1 HGz77; have hfz77_0 := blk_frozen HGz77 0; have hfz77_1 := blk_frozen HGz77 1; clear HGz77 hgz77; have hnb78 := NB230_0.out; have hnc78 := NB0_230.out; have hcz79_0 : w73.cell? ⟨gb230, 0, none⟩ = some (.int .i64 0) := (blk_cell BK230.out 0).trans rfl; have hcz79_1 : w73.cell? ⟨gb230, 1, none⟩ = some (.int .i64 0) := (blk_cell BK230.out 1).trans rfl; have hcz79_2 : w73.cell? ⟨gb230, 2, none⟩ = some (.int .i64 0) := (blk_cell BK230.out 2).trans rfl; have hcz79_3 : w73.cell? ⟨gb230, 3, none⟩ = some (.slice none 0 0) := (blk_cell BK230.out 3).trans rfl; have hcz79_4 : w73.cell? ⟨gb230, 4, none⟩ = some (.slice none 0 0) := (blk_cell BK230.out 4).trans rfl; have hfz79_0 := blk_frozen BK230.out 0; have hfz79_1 := blk_frozen BK230.out 1; have hfz79_2 := blk_frozen BK230.out 2; have hfz79_3 := blk_frozen BK230.out 3; have hfz79_4 := blk_frozen BK230.out 4))
        refine bodyPost_ret (results_ct rfl _ _ gb230 78 #[.int .i64 0, .int .i64 s0_1, .int .i64 t258, .slice none 0 0, .slice none 0 0] (0, 0) _ rfl (by (with_reducible repeat (first | refine lN ?_ _ | refine lD ?_ | refine lA ?_ _)); refine blk_put (cs := #[.int .i64 0, .int .i64 s0_1, .int .i64 t258, .slice none 0 0, .slice none 0 0]) ?_ 4 _ rfl; (with_reducible repeat (first | refine lN ?_ _ | refine lD ?_ | refine lA ?_ _)); refine blk_put (cs := #[.int .i64 0, .int .i64 s0_1, .int .i64 t258, .slice none 0 0, .slice none 0 0]) ?_ 3 _ rfl; (with_reducible repeat (first | refine lN ?_ _ | refine lD ?_ | refine lA ?_ _)); refine blk_put (cs := #[.int .i64 0, .int .i64 s0_1, .int .i64 0, .slice none 0 0, .slice none 0 0]) ?_ 2 _ rfl; (with_reducible repeat (first | refine lN ?_ _ | refine lD ?_ | refine lA ?_ _)); refine blk_put (cs := #[.int .i64 0, .int .i64 0, .int .i64 0, .slice none 0 0, .slice none 0 0]) ?_ 1 _ rfl; (with_reducible repeat (first | refine lN ?_ _ | refine lD ?_ | refine lA ?_ _)); refine blk_put (cs := #[.int .i64 0, .int .i64 0, .int .i64 0, .slice none 0 0, .slice none 0 0]) ?_ 0 _ rfl; (with_reducible repeat (first | refine lN ?_ _ | refine lD ?_ | refine lA ?_ _)); refine blk_far ?_ NB230_231.out _; (with_reducible repeat (first | refine lN ?_ _ | refine lD ?_ | refine lA ?_ _)); refine blk_far ?_ NB230_231.out _; (with_reducible repeat (first | refine lN ?_ _ | refine lD ?_ | refine lA ?_ _)); exact BK230.out) Tryz.underlying78 rfl (by kernel_rfl)) rfl ?_
        exact ⟨_, _, by first | rfl | (simp [errW_none, errW_some] <;> rfl) | (simp [*, errW_none, errW_some] <;> rfl), by first | exact Kd.R_nil _ _ _ _ _ | exact Kd.N_nil _ _ _ _ _ | exact Kd.V_nil _ _ _ _ _ | exact Kd.Q_nil _ _ _ _ _ | exact Kd.S_nil _ _ _ _ _, by first | exact Kd.R_nil _ _ _ _ _ | exact Kd.N_nil _ _ _ _ _ | exact Kd.V_nil _ _ _ _ _ | exact Kd.Q_nil _ _ _ _ _ | exact Kd.S_nil _ _ _ _ _, by repeat (first | (with_reducible first | exact HI0.out | apply iA | apply iN | apply i1 | refine IsS112.far ?_ NB0_230.out _ | refine IsS112.far ?_ NB0_231.out _) | exact HI0.out), by repeat (first | (with_reducible first | exact HB.out | apply bA | apply bN | apply bD | refine below_set ?_ (IsS112.ge HI0.out) | refine below_set ?_ GE230.out | refine below_set ?_ GE231.out) | exact HB.out), by repeat (first | (with_reducible first | exact HK.out | apply kS | apply kN | refine keep_far ?_ GW230.out _ | refine keep_far ?_ GW231.out _) | exact HK.out)⟩
       ·replace c72 := Bool.eq_false_iff.mpr c72
        subst c72
        have H1 : ((spec_reader_word.f t257 t258 (⟨#[102, 97, 108, 115, 101]⟩ : ByteArray)).bind fun bt259 => (if bt259.1 = true then (some (1, s0_1, bt259.2.2, ([] : List (S115)), ([] : List (S78)), true, bt259.2.1, bt259.2.2)) else ((spec_reader_word.f bt259.2.1 bt259.2.2 (⟨#[116, 114, 117, 101]⟩ : ByteArray)).bind fun bt262 => (if bt262.1 = true then (some (2, s0_1, bt262.2.2, ([] : List (S115)), ([] : List (S78)), true, bt262.2.1, bt262.2.2)) else (some (0, s0_1, bt262.2.2, ([] : List (S115)), ([] : List (S78)), false, bt262.2.1, bt262.2.2)))))) = some (r1, r2, r3, r4, r5, r6, r7, r8) := by rw [if_neg (show ¬ (false = true) by decide)] at H; exact H
        clear H
        have H := H1
        clear H1
        replace H := Option.bind_eq_some_iff.mp H
        obtain ⟨⟨t259, t260, t261⟩, A800, H⟩ := H
        try dsimp only at H
        have A80 := Aside0.mk A800
        clear A800
        by_cases c81 : t259 = true
        ·subst c81
         have H1 : (some (1, s0_1, t261, ([] : List (S115)), ([] : List (S78)), true, t260, t261)) = some (r1, r2, r3, r4, r5, r6, r7, r8) := by rw [if_pos rfl] at H; exact H
         clear H
         have H := H1
         clear H1
         simp only [Option.some.injEq, Prod.mk.injEq] at H
         obtain ⟨rfl, rfl, rfl, rfl, rfl, rfl, rfl, rfl⟩ := H
         go_wp2_with (first | ((with_reducible refine gate_callee (f := 104) rfl ?_); refine goesL_ (some 58) rfl rfl Tryz.func104 (by kernel_rfl) rfl #[.pointer (some ⟨g, 0, none⟩), .string (⟨#[110, 117, 108, 108]⟩ : ByteArray)] rfl (by (try simp only [List.map_toArray, List.map_cons, List.map_nil]); first | done | rfl | (simp only [List.length_drop, List.length_take]; rfl)) ?_; (with_reducible refine (spec_reader_word.calls g t233 t234 (⟨#[110, 117, 108, 108]⟩ : ByteArray) false t257 t258 w0 _ ?side1 ?side2 A71.out).mono ?_); (case side1 => repeat (first | (with_reducible first | exact HI0.out | apply iA | apply iN | apply i1 | refine IsS112.far ?_ NB0_230.out _ | refine IsS112.far ?_ NB0_231.out _) | exact HI0.out)); (case side2 => repeat (first | (with_reducible first | exact HB.out | apply bA | apply bN | apply bD | refine below_set ?_ (IsS112.ge HI0.out) | refine below_set ?_ GE230.out | refine below_set ?_ GE231.out) | exact HB.out)); rintro e w82 ⟨rfl, hi, hb, hk⟩; refine ⟨_, rfl, ?_⟩; have n0_ := Aside0.mk (KeepBut.blk hk (g' := gb230) (o := .cells #[.int .i64 0, .int .i64 0, .int .i64 0, .slice none 0 0, .slice none 0 0] 78 (0, 0)) (by (with_reducible repeat (first | refine lN ?_ _ | refine lD ?_ | refine lA ?_ _)); exact BK230.out) NB230_0.out (by simp)); have n1_ := Aside0.mk (KeepBut.blk hk (g' := gb231) (o := .cells #[.int .i64 0, .int .i64 s0_1, .int .i64 0, .slice none 0 0, .slice none 0 0] 78 (0, 0)) (by (with_reducible repeat (first | refine lN ?_ _ | refine lD ?_ | refine lA ?_ _)); exact BK231.out) NB231_0.out (by simp)); have n2_ := Aside0.mk (KeepBut.trans (by repeat (first | (with_reducible first | exact HK.out | apply kS | apply kN | refine keep_far ?_ GW230.out _ | refine keep_far ?_ GW231.out _) | exact HK.out)) hk (.inl rfl)); have n3_ := Aside0.mk (hb); have n4_ := Aside0.mk (hi); clear BK230; clear BK231; clear HK; clear HB; clear HI0; have BK230 := n0_; have BK231 := n1_; have HK := n2_; have HB := n3_; have HI0 := n4_; clear n0_ n1_ n2_ n3_ n4_; (try clear hb); (try clear hb2); (try clear hk); (try clear hi)) | ((with_reducible refine gate_callee (f := 104) rfl ?_); refine goesL_ (some 62) rfl rfl Tryz.func104 (by kernel_rfl) rfl #[.pointer (some ⟨g, 0, none⟩), .string (⟨#[102, 97, 108, 115, 101]⟩ : ByteArray)] rfl (by (try simp only [List.map_toArray, List.map_cons, List.map_nil]); first | done | rfl | (simp only [List.length_drop, List.length_take]; rfl)) ?_; (with_reducible refine (spec_reader_word.calls g t257 t258 (⟨#[102, 97, 108, 115, 101]⟩ : ByteArray) true t260 t261 w0 _ ?side1 ?side2 A80.out).mono ?_); (case side1 => repeat (first | (with_reducible first | exact HI0.out | apply iA | apply iN | apply i1 | refine IsS112.far ?_ NB0_230.out _ | refine IsS112.far ?_ NB0_231.out _) | exact HI0.out)); (case side2 => repeat (first | (with_reducible first | exact HB.out | apply bA | apply bN | apply bD | refine below_set ?_ (IsS112.ge HI0.out) | refine below_set ?_ GE230.out | refine below_set ?_ GE231.out) | exact HB.out)); rintro e w83 ⟨rfl, hi, hb, hk⟩; refine ⟨_, rfl, ?_⟩; have n0_ := Aside0.mk (KeepBut.blk hk (g' := gb230) (o := .cells #[.int .i64 0, .int .i64 0, .int .i64 0, .slice none 0 0, .slice none 0 0] 78 (0, 0)) (by (with_reducible repeat (first | refine lN ?_ _ | refine lD ?_ | refine lA ?_ _)); exact BK230.out) NB230_0.out (by simp)); have n1_ := Aside0.mk (KeepBut.blk hk (g' := gb231) (o := .cells #[.int .i64 0, .int .i64 s0_1, .int .i64 0, .slice none 0 0, .slice none 0 0] 78 (0, 0)) (by (with_reducible repeat (first | refine lN ?_ _ | refine lD ?_ | refine lA ?_ _)); exact BK231.out) NB231_0.out (by simp)); have n2_ := Aside0.mk (KeepBut.trans (by repeat (first | (with_reducible first | exact HK.out | apply kS | apply kN | refine keep_far ?_ GW230.out _ | refine keep_far ?_ GW231.out _) | exact HK.out)) hk (.inl rfl)); have n3_ := Aside0.mk (hb); have n4_ := Aside0.mk (hi); clear BK230; clear BK231; clear HK; clear HB; clear HI0; have BK230 := n0_; have BK231 := n1_; have HK := n2_; have HB := n3_; have HI0 := n4_; clear n0_ n1_ n2_ n3_ n4_; (try clear hb); (try clear hb2); (try clear hk); (try clear hi); have hnb84 := NB231_230.out; have hnc84 := NB230_231.out; have hnb85 := NB231_0.out; have hnc85 := NB0_231.out; have hcz86_0 : w83.cell? ⟨gb231, 0, none⟩ = some (.int .i64 0) := (blk_cell BK231.out 0).trans rfl; have hcz86_1 : w83.cell? ⟨gb231, 1, none⟩ = some (.int .i64 s0_1) := (blk_cell BK231.out 1).trans rfl; have hcz86_2 : w83.cell? ⟨gb231, 2, none⟩ = some (.int .i64 0) := (blk_cell BK231.out 2).trans rfl; have hcz86_3 : w83.cell? ⟨gb231, 3, none⟩ = some (.slice none 0 0) := (blk_cell BK231.out 3).trans rfl; have hcz86_4 : w83.cell? ⟨gb231, 4, none⟩ = some (.slice none 0 0) := (blk_cell BK231.out 4).trans rfl; have hfz86_0 := blk_frozen BK231.out 0; have hfz86_1 := blk_frozen BK231.out 1; have hfz86_2 := blk_frozen BK231.out 2; have hfz86_3 := blk_frozen BK231.out 3; have hfz86_4 := blk_frozen BK231.out 4; obtain ⟨HGz87, hgz87⟩ := HI0.out; have hcz87_0 := cellS112_0 HGz87; have hcz87_1 := cellS112_1 HGz87; have hfz87_0 := blk_frozen HGz87 0; have hfz87_1 := blk_frozen HGz87 1; clear HGz87 hgz87; have hnb88 := NB230_0.out; have hnc88 := NB0_230.out; have hcz89_0 : w83.cell? ⟨gb230, 0, none⟩ = some (.int .i64 0) := (blk_cell BK230.out 0).trans rfl; have hcz89_1 : w83.cell? ⟨gb230, 1, none⟩ = some (.int .i64 0) := (blk_cell BK230.out 1).trans rfl; have hcz89_2 : w83.cell? ⟨gb230, 2, none⟩ = some (.int .i64 0) := (blk_cell BK230.out 2).trans rfl; have hcz89_3 : w83.cell? ⟨gb230, 3, none⟩ = some (.slice none 0 0) := (blk_cell BK230.out 3).trans rfl; have hcz89_4 : w83.cell? ⟨gb230, 4, none⟩ = some (.slice none 0 0) := (blk_cell BK230.out 4).trans rfl; have hfz89_0 := blk_frozen BK230.out 0; have hfz89_1 := blk_frozen BK230.out 1; have hfz89_2 := blk_frozen BK230.out 2; have hfz89_3 := blk_frozen BK230.out 3; have hfz89_4 := blk_frozen BK230.out 4))
         refine bodyPost_ret (results_ct rfl _ _ gb230 78 #[.int .i64 1, .int .i64 s0_1, .int .i64 t261, .slice none 0 0, .slice none 0 0] (0, 0) _ rfl (by (with_reducible repeat (first | refine lN ?_ _ | refine lD ?_ | refine lA ?_ _)); refine blk_put (cs := #[.int .i64 1, .int .i64 s0_1, .int .i64 t261, .slice none 0 0, .slice none 0 0]) ?_ 4 _ rfl; (with_reducible repeat (first | refine lN ?_ _ | refine lD ?_ | refine lA ?_ _)); refine blk_put (cs := #[.int .i64 1, .int .i64 s0_1, .int .i64 t261, .slice none 0 0, .slice none 0 0]) ?_ 3 _ rfl; (with_reducible repeat (first | refine lN ?_ _ | refine lD ?_ | refine lA ?_ _)); refine blk_put (cs := #[.int .i64 1, .int .i64 s0_1, .int .i64 0, .slice none 0 0, .slice none 0 0]) ?_ 2 _ rfl; (with_reducible repeat (first | refine lN ?_ _ | refine lD ?_ | refine lA ?_ _)); refine blk_put (cs := #[.int .i64 1, .int .i64 0, .int .i64 0, .slice none 0 0, .slice none 0 0]) ?_ 1 _ rfl; (with_reducible repeat (first | refine lN ?_ _ | refine lD ?_ | refine lA ?_ _)); refine blk_put (cs := #[.int .i64 0, .int .i64 0, .int .i64 0, .slice none 0 0, .slice none 0 0]) ?_ 0 _ rfl; (with_reducible repeat (first | refine lN ?_ _ | refine lD ?_ | refine lA ?_ _)); refine blk_far ?_ NB230_231.out _; (with_reducible repeat (first | refine lN ?_ _ | refine lD ?_ | refine lA ?_ _)); refine blk_far ?_ NB230_231.out _; (with_reducible repeat (first | refine lN ?_ _ | refine lD ?_ | refine lA ?_ _)); exact BK230.out) Tryz.underlying78 rfl (by kernel_rfl)) rfl ?_
         exact ⟨_, _, by first | rfl | (simp [errW_none, errW_some] <;> rfl) | (simp [*, errW_none, errW_some] <;> rfl), by first | exact Kd.R_nil _ _ _ _ _ | exact Kd.N_nil _ _ _ _ _ | exact Kd.V_nil _ _ _ _ _ | exact Kd.Q_nil _ _ _ _ _ | exact Kd.S_nil _ _ _ _ _, by first | exact Kd.R_nil _ _ _ _ _ | exact Kd.N_nil _ _ _ _ _ | exact Kd.V_nil _ _ _ _ _ | exact Kd.Q_nil _ _ _ _ _ | exact Kd.S_nil _ _ _ _ _, by repeat (first | (with_reducible first | exact HI0.out | apply iA | apply iN | apply i1 | refine IsS112.far ?_ NB0_230.out _ | refine IsS112.far ?_ NB0_231.out _) | exact HI0.out), by repeat (first | (with_reducible first | exact HB.out | apply bA | apply bN | apply bD | refine below_set ?_ (IsS112.ge HI0.out) | refine below_set ?_ GE230.out | refine below_set ?_ GE231.out) | exact HB.out), by repeat (first | (with_reducible first | exact HK.out | apply kS | apply kN | refine keep_far ?_ GW230.out _ | refine keep_far ?_ GW231.out _) | exact HK.out)⟩
        ·replace c81 := Bool.eq_false_iff.mpr c81
         subst c81
         have H1 : ((spec_reader_word.f t260 t261 (⟨#[116, 114, 117, 101]⟩ : ByteArray)).bind fun bt262 => (if bt262.1 = true then (some (2, s0_1, bt262.2.2, ([] : List (S115)), ([] : List (S78)), true, bt262.2.1, bt262.2.2)) else (some (0, s0_1, bt262.2.2, ([] : List (S115)), ([] : List (S78)), false, bt262.2.1, bt262.2.2)))) = some (r1, r2, r3, r4, r5, r6, r7, r8) := by rw [if_neg (show ¬ (false = true) by decide)] at H; exact H
         clear H
         have H := H1
         clear H1
         replace H := Option.bind_eq_some_iff.mp H
         obtain ⟨⟨t262, t263, t264⟩, A900, H⟩ := H
         try dsimp only at H
         have A90 := Aside0.mk A900
         clear A900
         by_cases c91 : t262 = true
         ·subst c91
          have H1 : (some (2, s0_1, t264, ([] : List (S115)), ([] : List (S78)), true, t263, t264)) = some (r1, r2, r3, r4, r5, r6, r7, r8) := by rw [if_pos rfl] at H; exact H
          clear H
          have H := H1
          clear H1
          simp only [Option.some.injEq, Prod.mk.injEq] at H
          obtain ⟨rfl, rfl, rfl, rfl, rfl, rfl, rfl, rfl⟩ := H
          go_wp2_with (first | ((with_reducible refine gate_callee (f := 104) rfl ?_); refine goesL_ (some 58) rfl rfl Tryz.func104 (by kernel_rfl) rfl #[.pointer (some ⟨g, 0, none⟩), .string (⟨#[110, 117, 108, 108]⟩ : ByteArray)] rfl (by (try simp only [List.map_toArray, List.map_cons, List.map_nil]); first | done | rfl | (simp only [List.length_drop, List.length_take]; rfl)) ?_; (with_reducible refine (spec_reader_word.calls g t233 t234 (⟨#[110, 117, 108, 108]⟩ : ByteArray) false t257 t258 w0 _ ?side1 ?side2 A71.out).mono ?_); (case side1 => repeat (first | (with_reducible first | exact HI0.out | apply iA | apply iN | apply i1 | refine IsS112.far ?_ NB0_230.out _ | refine IsS112.far ?_ NB0_231.out _) | exact HI0.out)); (case side2 => repeat (first | (with_reducible first | exact HB.out | apply bA | apply bN | apply bD | refine below_set ?_ (IsS112.ge HI0.out) | refine below_set ?_ GE230.out | refine below_set ?_ GE231.out) | exact HB.out)); rintro e w92 ⟨rfl, hi, hb, hk⟩; refine ⟨_, rfl, ?_⟩; have n0_ := Aside0.mk (KeepBut.blk hk (g' := gb230) (o := .cells #[.int .i64 0, .int .i64 0, .int .i64 0, .slice none 0 0, .slice none 0 0] 78 (0, 0)) (by (with_reducible repeat (first | refine lN ?_ _ | refine lD ?_ | refine lA ?_ _)); exact BK230.out) NB230_0.out (by simp)); have n1_ := Aside0.mk (KeepBut.blk hk (g' := gb231) (o := .cells #[.int .i64 0, .int .i64 s0_1, .int .i64 0, .slice none 0 0, .slice none 0 0] 78 (0, 0)) (by (with_reducible repeat (first | refine lN ?_ _ | refine lD ?_ | refine lA ?_ _)); exact BK231.out) NB231_0.out (by simp)); have n2_ := Aside0.mk (KeepBut.trans (by repeat (first | (with_reducible first | exact HK.out | apply kS | apply kN | refine keep_far ?_ GW230.out _ | refine keep_far ?_ GW231.out _) | exact HK.out)) hk (.inl rfl)); have n3_ := Aside0.mk (hb); have n4_ := Aside0.mk (hi); clear BK230; clear BK231; clear HK; clear HB; clear HI0; have BK230 := n0_; have BK231 := n1_; have HK := n2_; have HB := n3_; have HI0 := n4_; clear n0_ n1_ n2_ n3_ n4_; (try clear hb); (try clear hb2); (try clear hk); (try clear hi)) | ((with_reducible refine gate_callee (f := 104) rfl ?_); refine goesL_ (some 62) rfl rfl Tryz.func104 (by kernel_rfl) rfl #[.pointer (some ⟨g, 0, none⟩), .string (⟨#[102, 97, 108, 115, 101]⟩ : ByteArray)] rfl (by (try simp only [List.map_toArray, List.map_cons, List.map_nil]); first | done | rfl | (simp only [List.length_drop, List.length_take]; rfl)) ?_; (with_reducible refine (spec_reader_word.calls g t257 t258 (⟨#[102, 97, 108, 115, 101]⟩ : ByteArray) false t260 t261 w0 _ ?side1 ?side2 A80.out).mono ?_); (case side1 => repeat (first | (with_reducible first | exact HI0.out | apply iA | apply iN | apply i1 | refine IsS112.far ?_ NB0_230.out _ | refine IsS112.far ?_ NB0_231.out _) | exact HI0.out)); (case side2 => repeat (first | (with_reducible first | exact HB.out | apply bA | apply bN | apply bD | refine below_set ?_ (IsS112.ge HI0.out) | refine below_set ?_ GE230.out | refine below_set ?_ GE231.out) | exact HB.out)); rintro e w93 ⟨rfl, hi, hb, hk⟩; refine ⟨_, rfl, ?_⟩; have n0_ := Aside0.mk (KeepBut.blk hk (g' := gb230) (o := .cells #[.int .i64 0, .int .i64 0, .int .i64 0, .slice none 0 0, .slice none 0 0] 78 (0, 0)) (by (with_reducible repeat (first | refine lN ?_ _ | refine lD ?_ | refine lA ?_ _)); exact BK230.out) NB230_0.out (by simp)); have n1_ := Aside0.mk (KeepBut.blk hk (g' := gb231) (o := .cells #[.int .i64 0, .int .i64 s0_1, .int .i64 0, .slice none 0 0, .slice none 0 0] 78 (0, 0)) (by (with_reducible repeat (first | refine lN ?_ _ | refine lD ?_ | refine lA ?_ _)); exact BK231.out) NB231_0.out (by simp)); have n2_ := Aside0.mk (KeepBut.trans (by repeat (first | (with_reducible first | exact HK.out | apply kS | apply kN | refine keep_far ?_ GW230.out _ | refine keep_far ?_ GW231.out _) | exact HK.out)) hk (.inl rfl)); have n3_ := Aside0.mk (hb); have n4_ := Aside0.mk (hi); clear BK230; clear BK231; clear HK; clear HB; clear HI0; have BK230 := n0_; have BK231 := n1_; have HK := n2_; have HB := n3_; have HI0 := n4_; clear n0_ n1_ n2_ n3_ n4_; (try clear hb); (try clear hb2); (try clear hk); (try clear hi)) | ((with_reducible refine gate_callee (f := 104) rfl ?_); refine goesL_ (some 66) rfl rfl Tryz.func104 (by kernel_rfl) rfl #[.pointer (some ⟨g, 0, none⟩), .string (⟨#[116, 114, 117, 101]⟩ : ByteArray)] rfl (by (try simp only [List.map_toArray, List.map_cons, List.map_nil]); first | done | rfl | (simp only [List.length_drop, List.length_take]; rfl)) ?_; (with_reducible refine (spec_reader_word.calls g t260 t261 (⟨#[116, 114, 117, 101]⟩ : ByteArray) true t263 t264 w0 _ ?side1 ?side2 A90.out).mono ?_); (case side1 => repeat (first | (with_reducible first | exact HI0.out | apply iA | apply iN | apply i1 | refine IsS112.far ?_ NB0_230.out _ | refine IsS112.far ?_ NB0_231.out _) | exact HI0.out)); (case side2 => repeat (first | (with_reducible first | exact HB.out | apply bA | apply bN | apply bD | refine below_set ?_ (IsS112.ge HI0.out) | refine below_set ?_ GE230.out | refine below_set ?_ GE231.out) | exact HB.out)); rintro e w94 ⟨rfl, hi, hb, hk⟩; refine ⟨_, rfl, ?_⟩; have n0_ := Aside0.mk (KeepBut.blk hk (g' := gb230) (o := .cells #[.int .i64 0, .int .i64 0, .int .i64 0, .slice none 0 0, .slice none 0 0] 78 (0, 0)) (by (with_reducible repeat (first | refine lN ?_ _ | refine lD ?_ | refine lA ?_ _)); exact BK230.out) NB230_0.out (by simp)); have n1_ := Aside0.mk (KeepBut.blk hk (g' := gb231) (o := .cells #[.int .i64 0, .int .i64 s0_1, .int .i64 0, .slice none 0 0, .slice none 0 0] 78 (0, 0)) (by (with_reducible repeat (first | refine lN ?_ _ | refine lD ?_ | refine lA ?_ _)); exact BK231.out) NB231_0.out (by simp)); have n2_ := Aside0.mk (KeepBut.trans (by repeat (first | (with_reducible first | exact HK.out | apply kS | apply kN | refine keep_far ?_ GW230.out _ | refine keep_far ?_ GW231.out _) | exact HK.out)) hk (.inl rfl)); have n3_ := Aside0.mk (hb); have n4_ := Aside0.mk (hi); clear BK230; clear BK231; clear HK; clear HB; clear HI0; have BK230 := n0_; have BK231 := n1_; have HK := n2_; have HB := n3_; have HI0 := n4_; clear n0_ n1_ n2_ n3_ n4_; (try clear hb); (try clear hb2); (try clear hk); (try clear hi); have hnb95 := NB231_230.out; have hnc95 := NB230_231.out; have hnb96 := NB231_0.out; have hnc96 := NB0_231.out; have hcz97_0 : w94.cell? ⟨gb231, 0, none⟩ = some (.int .i64 0) := (blk_cell BK231.out 0).trans rfl; have hcz97_1 : w94.cell? ⟨gb231, 1, none⟩ = some (.int .i64 s0_1) := (blk_cell BK231.out 1).trans rfl; have hcz97_2 : w94.cell? ⟨gb231, 2, none⟩ = some (.int .i64 0) := (blk_cell BK231.out 2).trans rfl; have hcz97_3 : w94.cell? ⟨gb231, 3, none⟩ = some (.slice none 0 0) := (blk_cell BK231.out 3).trans rfl; have hcz97_4 : w94.cell? ⟨gb231, 4, none⟩ = some (.slice none 0 0) := (blk_cell BK231.out 4).trans rfl; have hfz97_0 := blk_frozen BK231.out 0; have hfz97_1 := blk_frozen BK231.out 1; have hfz97_2 := blk_frozen BK231.out 2; have hfz97_3 := blk_frozen BK231.out 3; have hfz97_4 := blk_frozen BK231.out 4; obtain ⟨HGz98, hgz98⟩ := HI0.out; have hcz98_0 := cellS112_0 HGz98; have hcz98_1 := cellS112_1 HGz98; have hfz98_0 := blk_frozen HGz98 0; have hfz98_1 := blk_frozen HGz98 1; clear HGz98 hgz98; have hnb99 := NB230_0.out; have hnc99 := NB0_230.out; have hcz100_0 : w94.cell? ⟨gb230, 0, none⟩ = some (.int .i64 0) := (blk_cell BK230.out 0).trans rfl; have hcz100_1 : w94.cell? ⟨gb230, 1, none⟩ = some (.int .i64 0) := (blk_cell BK230.out 1).trans rfl; have hcz100_2 : w94.cell? ⟨gb230, 2, none⟩ = some (.int .i64 0) := (blk_cell BK230.out 2).trans rfl; have hcz100_3 : w94.cell? ⟨gb230, 3, none⟩ = some (.slice none 0 0) := (blk_cell BK230.out 3).trans rfl; have hcz100_4 : w94.cell? ⟨gb230, 4, none⟩ = some (.slice none 0 0) := (blk_cell BK230.out 4).trans rfl; have hfz100_0 := blk_frozen BK230.out 0; have hfz100_1 := blk_frozen BK230.out 1; have hfz100_2 := blk_frozen BK230.out 2; have hfz100_3 := blk_frozen BK230.out 3; have hfz100_4 := blk_frozen BK230.out 4))
          refine bodyPost_ret (results_ct rfl _ _ gb230 78 #[.int .i64 2, .int .i64 s0_1, .int .i64 t264, .slice none 0 0, .slice none 0 0] (0, 0) _ rfl (by (with_reducible repeat (first | refine lN ?_ _ | refine lD ?_ | refine lA ?_ _)); refine blk_put (cs := #[.int .i64 2, .int .i64 s0_1, .int .i64 t264, .slice none 0 0, .slice none 0 0]) ?_ 4 _ rfl; (with_reducible repeat (first | refine lN ?_ _ | refine lD ?_ | refine lA ?_ _)); refine blk_put (cs := #[.int .i64 2, .int .i64 s0_1, .int .i64 t264, .slice none 0 0, .slice none 0 0]) ?_ 3 _ rfl; (with_reducible repeat (first | refine lN ?_ _ | refine lD ?_ | refine lA ?_ _)); refine blk_put (cs := #[.int .i64 2, .int .i64 s0_1, .int .i64 0, .slice none 0 0, .slice none 0 0]) ?_ 2 _ rfl; (with_reducible repeat (first | refine lN ?_ _ | refine lD ?_ | refine lA ?_ _)); refine blk_put (cs := #[.int .i64 2, .int .i64 0, .int .i64 0, .slice none 0 0, .slice none 0 0]) ?_ 1 _ rfl; (with_reducible repeat (first | refine lN ?_ _ | refine lD ?_ | refine lA ?_ _)); refine blk_put (cs := #[.int .i64 0, .int .i64 0, .int .i64 0, .slice none 0 0, .slice none 0 0]) ?_ 0 _ rfl; (with_reducible repeat (first | refine lN ?_ _ | refine lD ?_ | refine lA ?_ _)); refine blk_far ?_ NB230_231.out _; (with_reducible repeat (first | refine lN ?_ _ | refine lD ?_ | refine lA ?_ _)); refine blk_far ?_ NB230_231.out _; (with_reducible repeat (first | refine lN ?_ _ | refine lD ?_ | refine lA ?_ _)); exact BK230.out) Tryz.underlying78 rfl (by kernel_rfl)) rfl ?_
          exact ⟨_, _, by first | rfl | (simp [errW_none, errW_some] <;> rfl) | (simp [*, errW_none, errW_some] <;> rfl), by first | exact Kd.R_nil _ _ _ _ _ | exact Kd.N_nil _ _ _ _ _ | exact Kd.V_nil _ _ _ _ _ | exact Kd.Q_nil _ _ _ _ _ | exact Kd.S_nil _ _ _ _ _, by first | exact Kd.R_nil _ _ _ _ _ | exact Kd.N_nil _ _ _ _ _ | exact Kd.V_nil _ _ _ _ _ | exact Kd.Q_nil _ _ _ _ _ | exact Kd.S_nil _ _ _ _ _, by repeat (first | (with_reducible first | exact HI0.out | apply iA | apply iN | apply i1 | refine IsS112.far ?_ NB0_230.out _ | refine IsS112.far ?_ NB0_231.out _) | exact HI0.out), by repeat (first | (with_reducible first | exact HB.out | apply bA | apply bN | apply bD | refine below_set ?_ (IsS112.ge HI0.out) | refine below_set ?_ GE230.out | refine below_set ?_ GE231.out) | exact HB.out), by repeat (first | (with_reducible first | exact HK.out | apply kS | apply kN | refine keep_far ?_ GW230.out _ | refine keep_far ?_ GW231.out _) | exact HK.out)⟩
         ·replace c91 := Bool.eq_false_iff.mpr c91
          subst c91
          have H1 : (some (0, s0_1, t264, ([] : List (S115)), ([] : List (S78)), false, t263, t264)) = some (r1, r2, r3, r4, r5, r6, r7, r8) := by rw [if_neg (show ¬ (false = true) by decide)] at H; exact H
          clear H
          have H := H1
          clear H1
          simp only [Option.some.injEq, Prod.mk.injEq] at H
          obtain ⟨rfl, rfl, rfl, rfl, rfl, rfl, rfl, rfl⟩ := H
          go_wp2_with (first | ((with_reducible refine gate_callee (f := 104) rfl ?_); refine goesL_ (some 58) rfl rfl Tryz.func104 (by kernel_rfl) rfl #[.pointer (some ⟨g, 0, none⟩), .string (⟨#[110, 117, 108, 108]⟩ : ByteArray)] rfl (by (try simp only [List.map_toArray, List.map_cons, List.map_nil]); first | done | rfl | (simp only [List.length_drop, List.length_take]; rfl)) ?_; (with_reducible refine (spec_reader_word.calls g t233 t234 (⟨#[110, 117, 108, 108]⟩ : ByteArray) false t257 t258 w0 _ ?side1 ?side2 A71.out).mono ?_); (case side1 => repeat (first | (with_reducible first | exact HI0.out | apply iA | apply iN | apply i1 | refine IsS112.far ?_ NB0_230.out _ | refine IsS112.far ?_ NB0_231.out _) | exact HI0.out)); (case side2 => repeat (first | (with_reducible first | exact HB.out | apply bA | apply bN | apply bD | refine below_set ?_ (IsS112.ge HI0.out) | refine below_set ?_ GE230.out | refine below_set ?_ GE231.out) | exact HB.out)); rintro e w101 ⟨rfl, hi, hb, hk⟩; refine ⟨_, rfl, ?_⟩; have n0_ := Aside0.mk (KeepBut.blk hk (g' := gb230) (o := .cells #[.int .i64 0, .int .i64 0, .int .i64 0, .slice none 0 0, .slice none 0 0] 78 (0, 0)) (by (with_reducible repeat (first | refine lN ?_ _ | refine lD ?_ | refine lA ?_ _)); exact BK230.out) NB230_0.out (by simp)); have n1_ := Aside0.mk (KeepBut.blk hk (g' := gb231) (o := .cells #[.int .i64 0, .int .i64 s0_1, .int .i64 0, .slice none 0 0, .slice none 0 0] 78 (0, 0)) (by (with_reducible repeat (first | refine lN ?_ _ | refine lD ?_ | refine lA ?_ _)); exact BK231.out) NB231_0.out (by simp)); have n2_ := Aside0.mk (KeepBut.trans (by repeat (first | (with_reducible first | exact HK.out | apply kS | apply kN | refine keep_far ?_ GW230.out _ | refine keep_far ?_ GW231.out _) | exact HK.out)) hk (.inl rfl)); have n3_ := Aside0.mk (hb); have n4_ := Aside0.mk (hi); clear BK230; clear BK231; clear HK; clear HB; clear HI0; have BK230 := n0_; have BK231 := n1_; have HK := n2_; have HB := n3_; have HI0 := n4_; clear n0_ n1_ n2_ n3_ n4_; (try clear hb); (try clear hb2); (try clear hk); (try clear hi)) | ((with_reducible refine gate_callee (f := 104) rfl ?_); refine goesL_ (some 62) rfl rfl Tryz.func104 (by kernel_rfl) rfl #[.pointer (some ⟨g, 0, none⟩), .string (⟨#[102, 97, 108, 115, 101]⟩ : ByteArray)] rfl (by (try simp only [List.map_toArray, List.map_cons, List.map_nil]); first | done | rfl | (simp only [List.length_drop, List.length_take]; rfl)) ?_; (with_reducible refine (spec_reader_word.calls g t257 t258 (⟨#[102, 97, 108, 115, 101]⟩ : ByteArray) false t260 t261 w0 _ ?side1 ?side2 A80.out).mono ?_); (case side1 => repeat (first | (with_reducible first | exact HI0.out | apply iA | apply iN | apply i1 | refine IsS112.far ?_ NB0_230.out _ | refine IsS112.far ?_ NB0_231.out _) | exact HI0.out)); (case side2 => repeat (first | (with_reducible first | exact HB.out | apply bA | apply bN | apply bD | refine below_set ?_ (IsS112.ge HI0.out) | refine below_set ?_ GE230.out | refine below_set ?_ GE231.out) | exact HB.out)); rintro e w102 ⟨rfl, hi, hb, hk⟩; refine ⟨_, rfl, ?_⟩; have n0_ := Aside0.mk (KeepBut.blk hk (g' := gb230) (o := .cells #[.int .i64 0, .int .i64 0, .int .i64 0, .slice none 0 0, .slice none 0 0] 78 (0, 0)) (by (with_reducible repeat (first | refine lN ?_ _ | refine lD ?_ | refine lA ?_ _)); exact BK230.out) NB230_0.out (by simp)); have n1_ := Aside0.mk (KeepBut.blk hk (g' := gb231) (o := .cells #[.int .i64 0, .int .i64 s0_1, .int .i64 0, .slice none 0 0, .slice none 0 0] 78 (0, 0)) (by (with_reducible repeat (first | refine lN ?_ _ | refine lD ?_ | refine lA ?_ _)); exact BK231.out) NB231_0.out (by simp)); have n2_ := Aside0.mk (KeepBut.trans (by repeat (first | (with_reducible first | exact HK.out | apply kS | apply kN | refine keep_far ?_ GW230.out _ | refine keep_far ?_ GW231.out _) | exact HK.out)) hk (.inl rfl)); have n3_ := Aside0.mk (hb); have n4_ := Aside0.mk (hi); clear BK230; clear BK231; clear HK; clear HB; clear HI0; have BK230 := n0_; have BK231 := n1_; have HK := n2_; have HB := n3_; have HI0 := n4_; clear n0_ n1_ n2_ n3_ n4_; (try clear hb); (try clear hb2); (try clear hk); (try clear hi)) | ((with_reducible refine gate_callee (f := 104) rfl ?_); refine goesL_ (some 66) rfl rfl Tryz.func104 (by kernel_rfl) rfl #[.pointer (some ⟨g, 0, none⟩), .string (⟨#[116, 114, 117, 101]⟩ : ByteArray)] rfl (by (try simp only [List.map_toArray, List.map_cons, List.map_nil]); first | done | rfl | (simp only [List.length_drop, List.length_take]; rfl)) ?_; (with_reducible refine (spec_reader_word.calls g t260 t261 (⟨#[116, 114, 117, 101]⟩ : ByteArray) false t263 t264 w0 _ ?side1 ?side2 A90.out).mono ?_); (case side1 => repeat (first | (with_reducible first | exact HI0.out | apply iA | apply iN | apply i1 | refine IsS112.far ?_ NB0_230.out _ | refine IsS112.far ?_ NB0_231.out _) | exact HI0.out)); (case side2 => repeat (first | (with_reducible first | exact HB.out | apply bA | apply bN | apply bD | refine below_set ?_ (IsS112.ge HI0.out) | refine below_set ?_ GE230.out | refine below_set ?_ GE231.out) | exact HB.out)); rintro e w103 ⟨rfl, hi, hb, hk⟩; refine ⟨_, rfl, ?_⟩; have n0_ := Aside0.mk (KeepBut.blk hk (g' := gb230) (o := .cells #[.int .i64 0, .int .i64 0, .int .i64 0, .slice none 0 0, .slice none 0 0] 78 (0, 0)) (by (with_reducible repeat (first | refine lN ?_ _ | refine lD ?_ | refine lA ?_ _)); exact BK230.out) NB230_0.out (by simp)); have n1_ := Aside0.mk (KeepBut.blk hk (g' := gb231) (o := .cells #[.int .i64 0, .int .i64 s0_1, .int .i64 0, .slice none 0 0, .slice none 0 0] 78 (0, 0)) (by (with_reducible repeat (first | refine lN ?_ _ | refine lD ?_ | refine lA ?_ _)); exact BK231.out) NB231_0.out (by simp)); have n2_ := Aside0.mk (KeepBut.trans (by repeat (first | (with_reducible first | exact HK.out | apply kS | apply kN | refine keep_far ?_ GW230.out _ | refine keep_far ?_ GW231.out _) | exact HK.out)) hk (.inl rfl)); have n3_ := Aside0.mk (hb); have n4_ := Aside0.mk (hi); clear BK230; clear BK231; clear HK; clear HB; clear HI0; have BK230 := n0_; have BK231 := n1_; have HK := n2_; have HB := n3_; have HI0 := n4_; clear n0_ n1_ n2_ n3_ n4_; (try clear hb); (try clear hb2); (try clear hk); (try clear hi); obtain ⟨HGz104, hgz104⟩ := HI0.out; have hcz104_0 := cellS112_0 HGz104; have hcz104_1 := cellS112_1 HGz104; have hfz104_0 := blk_frozen HGz104 0; have hfz104_1 := blk_frozen HGz104 1; clear HGz104 hgz104; have hnb105 := NB231_230.out; have hnc105 := NB230_231.out; have hnb106 := NB231_0.out; have hnc106 := NB0_231.out; have hcz107_0 : w103.cell? ⟨gb231, 0, none⟩ = some (.int .i64 0) := (blk_cell BK231.out 0).trans rfl; have hcz107_1 : w103.cell? ⟨gb231, 1, none⟩ = some (.int .i64 s0_1) := (blk_cell BK231.out 1).trans rfl; have hcz107_2 : w103.cell? ⟨gb231, 2, none⟩ = some (.int .i64 0) := (blk_cell BK231.out 2).trans rfl; have hcz107_3 : w103.cell? ⟨gb231, 3, none⟩ = some (.slice none 0 0) := (blk_cell BK231.out 3).trans rfl; have hcz107_4 : w103.cell? ⟨gb231, 4, none⟩ = some (.slice none 0 0) := (blk_cell BK231.out 4).trans rfl; have hfz107_0 := blk_frozen BK231.out 0; have hfz107_1 := blk_frozen BK231.out 1; have hfz107_2 := blk_frozen BK231.out 2; have hfz107_3 := blk_frozen BK231.out 3; have hfz107_4 := blk_frozen BK231.out 4; have hnb108 := NB230_0.out; have hnc108 := NB0_230.out; have hcz109_0 : w103.cell? ⟨gb230, 0, none⟩ = some (.int .i64 0) := (blk_cell BK230.out 0).trans rfl; have hcz109_1 : w103.cell? ⟨gb230, 1, none⟩ = some (.int .i64 0) := (blk_cell BK230.out 1).trans rfl; have hcz109_2 : w103.cell? ⟨gb230, 2, none⟩ = some (.int .i64 0) := (blk_cell BK230.out 2).trans rfl; have hcz109_3 : w103.cell? ⟨gb230, 3, none⟩ = some (.slice none 0 0) := (blk_cell BK230.out 3).trans rfl; have hcz109_4 : w103.cell? ⟨gb230, 4, none⟩ = some (.slice none 0 0) := (blk_cell BK230.out 4).trans rfl; have hfz109_0 := blk_frozen BK230.out 0; have hfz109_1 := blk_frozen BK230.out 1; have hfz109_2 := blk_frozen BK230.out 2; have hfz109_3 := blk_frozen BK230.out 3; have hfz109_4 := blk_frozen BK230.out 4))
          refine bodyPost_ret (results_ct rfl _ _ gb230 78 #[.int .i64 0, .int .i64 s0_1, .int .i64 t264, .slice none 0 0, .slice none 0 0] (0, 0) _ rfl (by (with_reducible repeat (first | refine lN ?_ _ | refine lD ?_ | refine lA ?_ _)); refine blk_put (cs := #[.int .i64 0, .int .i64 s0_1, .int .i64 t264, .slice none 0 0, .slice none 0 0]) ?_ 4 _ rfl; (with_reducible repeat (first | refine lN ?_ _ | refine lD ?_ | refine lA ?_ _)); refine blk_put (cs := #[.int .i64 0, .int .i64 s0_1, .int .i64 t264, .slice none 0 0, .slice none 0 0]) ?_ 3 _ rfl; (with_reducible repeat (first | refine lN ?_ _ | refine lD ?_ | refine lA ?_ _)); refine blk_put (cs := #[.int .i64 0, .int .i64 s0_1, .int .i64 0, .slice none 0 0, .slice none 0 0]) ?_ 2 _ rfl; (with_reducible repeat (first | refine lN ?_ _ | refine lD ?_ | refine lA ?_ _)); refine blk_put (cs := #[.int .i64 0, .int .i64 0, .int .i64 0, .slice none 0 0, .slice none 0 0]) ?_ 1 _ rfl; (with_reducible repeat (first | refine lN ?_ _ | refine lD ?_ | refine lA ?_ _)); refine blk_put (cs := #[.int .i64 0, .int .i64 0, .int .i64 0, .slice none 0 0, .slice none 0 0]) ?_ 0 _ rfl; (with_reducible repeat (first | refine lN ?_ _ | refine lD ?_ | refine lA ?_ _)); refine blk_far ?_ NB230_231.out _; (with_reducible repeat (first | refine lN ?_ _ | refine lD ?_ | refine lA ?_ _)); exact BK230.out) Tryz.underlying78 rfl (by kernel_rfl)) rfl ?_
          exact ⟨_, _, by first | rfl | (simp [errW_none, errW_some] <;> rfl) | (simp [*, errW_none, errW_some] <;> rfl), by first | exact Kd.R_nil _ _ _ _ _ | exact Kd.N_nil _ _ _ _ _ | exact Kd.V_nil _ _ _ _ _ | exact Kd.Q_nil _ _ _ _ _ | exact Kd.S_nil _ _ _ _ _, by first | exact Kd.R_nil _ _ _ _ _ | exact Kd.N_nil _ _ _ _ _ | exact Kd.V_nil _ _ _ _ _ | exact Kd.Q_nil _ _ _ _ _ | exact Kd.S_nil _ _ _ _ _, by repeat (first | (with_reducible first | exact HI0.out | apply iA | apply iN | apply i1 | refine IsS112.far ?_ NB0_230.out _ | refine IsS112.far ?_ NB0_231.out _) | exact HI0.out), by repeat (first | (with_reducible first | exact HB.out | apply bA | apply bN | apply bD | refine below_set ?_ (IsS112.ge HI0.out) | refine below_set ?_ GE230.out | refine below_set ?_ GE231.out) | exact HB.out), by repeat (first | (with_reducible first | exact HK.out | apply kS | apply kN | refine keep_far ?_ GW230.out _ | refine keep_far ?_ GW231.out _) | exact HK.out)⟩
theorem spec_reader_members.group_all : ∀ k, spec_reader_members.Spec k ∧ spec_reader_elements.Spec k ∧ spec_reader_value.Spec k := by
 intro k
 induction k using Nat.strongRecOn with
 | _ k ih =>
 exact ⟨spec_reader_members.step k (fun m_ hm_ => (ih m_ hm_).1) (fun m_ hm_ => (ih m_ hm_).2.1) (fun m_ hm_ => (ih m_ hm_).2.2), spec_reader_elements.step k (fun m_ hm_ => (ih m_ hm_).1) (fun m_ hm_ => (ih m_ hm_).2.1) (fun m_ hm_ => (ih m_ hm_).2.2), spec_reader_value.step k (fun m_ hm_ => (ih m_ hm_).1) (fun m_ hm_ => (ih m_ hm_).2.1) (fun m_ hm_ => (ih m_ hm_).2.2)⟩
theorem spec_reader_value.calls (k : Nat) : ∀ (g : Nat) (s0_0 : ByteArray) (s0_1 : Int) (r1 : Int) (r2 : Int) (r3 : Int) (r4 : List (S115)) (r5 : List (S78)) (r6 : Bool) (r7 : ByteArray) (r8 : Int) (w0 w : World) (hI : IsS112 w0 w g s0_0 s0_1) (hB : Below w0.heap.size w0 w) (h : spec_reader_value.f k s0_0 s0_1 = some (r1, r2, r3, r4, r5, r6, r7, r8)),
  Calls Tryz.prog 73 #[.pointer (some ⟨g, 0, none⟩)] w fun e w' => ∃ v3_ v4_ : Value, e = .returned (.tuple #[.agg #[.int .i64 r1, .int .i64 r2, .int .i64 r3, v3_, v4_], .bool r6]) ∧ Kd.R k115 115 w' w.heap.size (fun _ => True) v3_ r4 ∧ Kd.R k78 78 w' w.heap.size (fun k_ => some k_ ≠ (v3_ : Value).ownBlock) v4_ r5 ∧ IsS112 w0 w' g r7 r8 ∧ Below w0.heap.size w0 w' ∧ KeepBut w w' g none := (spec_reader_members.group_all k).2.2
mutual
def spec_unit.j0 : Nat → ByteArray → Int → Bool → Option (Int × Bool)
 | 0, _, _, _ => none
 | k + 1, x0, x1, x27 => if x27 = true then (some (0, false)) else (spec_unit.l0 k x0 x1 0 (wrap64 (x1 + 2)))
def spec_unit.l0 : Nat → ByteArray → Int → Int → Int → Option (Int × Bool)
 | 0, _, _, _, _ => none
 | k + 1, x0, x1, x6, x7 => if x7 < (wrap64 (x1 + 6)) then (if 0 ≤ x7 then (if x7 < (x0.size : Int) then ((spec_hexDigit.f k (bt x0 x7)).bind fun bt284 => (if bt284.2 = true then (spec_unit.l0 k x0 x1 (wrap64 ((wrap64 (x6 * 16)) + bt284.1)) (wrap64 (x7 + 1))) else (some (0, false)))) else (none)) else (none)) else (some (x6, true))
end
def spec_unit.f (k : Nat) (a0 : ByteArray) (a1 : Int) : Option (Int × Bool) := if (wrap64 ((a0.size : Int) - a1)) < 6 then (spec_unit.j0 k a0 a1 true) else (if 0 ≤ a1 then (if a1 < (a0.size : Int) then (if (bt a0 a1) = 92 then (if 0 ≤ (wrap64 (a1 + 1)) then (if (wrap64 (a1 + 1)) < (a0.size : Int) then (spec_unit.j0 k a0 a1 ((bt a0 (wrap64 (a1 + 1))) != 117)) else (none)) else (none)) else (spec_unit.j0 k a0 a1 true)) else (none)) else (none))
theorem spec_unit.calls (k : Nat) (a0 : ByteArray) (a1 : Int) (r1 : Int) (r2 : Bool) (w : World) (h : spec_unit.f k a0 a1 = some (r1, r2)) :
  Calls Tryz.prog 59 #[.string a0, .int .i64 a1] w fun e w' => e = .returned (.tuple #[.int .i64 r1, .bool r2]) ∧ Drawn0 w w' := by
 have H : (if (wrap64 ((a0.size : Int) - a1)) < 6 then (spec_unit.j0 k a0 a1 true) else (if 0 ≤ a1 then (if a1 < (a0.size : Int) then (if (bt a0 a1) = 92 then (if 0 ≤ (wrap64 (a1 + 1)) then (if (wrap64 (a1 + 1)) < (a0.size : Int) then (spec_unit.j0 k a0 a1 ((bt a0 (wrap64 (a1 + 1))) != 117)) else (none)) else (none)) else (spec_unit.j0 k a0 a1 true)) else (none)) else (none))) = some (r1, r2) := h
 clear h
 have HC3 := Aside0.mk H
 clear H
 go_enter Tryz.func59, Tryz.ntmps59
 go_upto_region 1 with (fail)
 go_cut [27] (fun v27 wc => ∃ (kq : Nat) (x27_2 : Bool), v27 = .bool x27_2 ∧ Aside0 (spec_unit.j0 kq a0 a1 x27_2 = some (r1, r2)) ∧ Aside0 (kq ≤ k) ∧ Drawn0 w wc)
 case first =>
  have H := HC3.out
  clear HC3
  by_cases c4 : (wrap64 ((a0.size : Int) - a1)) < 6
  ·rw [if_pos c4] at H
   have c4b0 : decide ((wrap64 ((a0.size : Int) - a1)) < 6) = true := decide_eq_true c4
   clear c4
   (first | rw [c4b0] | (simp only [i64_w, i32_w]; rw [c4b0]) | skip)
   have H' := Aside0.mk H
   clear H
   go_wp2
   go_meet
   case rel => exact ⟨_, (true), (by first | rfl | (simp; done) | (simp [*]; done)), H', ⟨by first | omega | exact Nat.le_refl _⟩, by repeat (first | exact Drawn0.refl _ | apply Drawn0.step)⟩
  ·rw [if_neg c4] at H
   have c4b0 : decide ((wrap64 ((a0.size : Int) - a1)) < 6) = false := decide_eq_false c4
   clear c4
   (first | rw [c4b0] | (simp only [i64_w, i32_w]; rw [c4b0]) | skip)
   by_cases c5 : 0 ≤ a1
   ·rw [if_pos c5] at H
    have c5b0 : decide (0 ≤ a1) = true := decide_eq_true c5
    clear c5
    by_cases c6 : a1 < (a0.size : Int)
    ·rw [if_pos c6] at H
     have c6b0 : decide (a1 < (a0.size : Int)) = true := decide_eq_true c6
     clear c6
     by_cases c8 : (bt a0 a1) = 92
     ·rw [if_pos c8] at H
      have c8b0 : ((bt a0 a1) == 92) = true := beq_iff_eq.mpr c8
      have c8b1 : ((bt a0 a1) != 92) = false := bne_eq_false_iff_eq.mpr c8
      clear c8
      obtain ⟨ji9, hji9⟩ : ∃ j_ : Int, (wrap64 (a1 + 1)) = j_ := ⟨_, rfl⟩
      replace H : (if 0 ≤ (ji9) then (if (ji9) < (a0.size : Int) then (spec_unit.j0 k a0 a1 ((bt a0 (ji9)) != 117)) else (none)) else (none)) = some (r1, r2) := by first | (rw [hji9] at H; exact H) | (simp only [hji9] at H ⊢; exact H)
      have hji9w : (IntKind.i64.wrap (a1 + 1)) = ji9 := (i64_w _).trans hji9
      by_cases c10 : 0 ≤ (ji9)
      ·rw [if_pos c10] at H
       have c10b0 : decide (0 ≤ (ji9)) = true := decide_eq_true c10
       clear c10
       by_cases c11 : (ji9) < (a0.size : Int)
       ·rw [if_pos c11] at H
        have c11b0 : decide ((ji9) < (a0.size : Int)) = true := decide_eq_true c11
        clear c11
        have H' := Aside0.mk H
        clear H
        have p7 : 0 ≤ (a1 : Int) := of_decide_eq_true (by first | (with_reducible assumption) | assumption)
        have q7 : a1 < (a0.size : Int) := of_decide_eq_true (by first | (with_reducible assumption) | assumption)
        have hx7 := bt_at a0 a1
        replace p7 := eq_true p7
        replace q7 := eq_true q7
        have p12 : 0 ≤ ((ji9) : Int) := of_decide_eq_true (by first | (with_reducible assumption) | assumption)
        have q12 : (ji9) < (a0.size : Int) := of_decide_eq_true (by first | (with_reducible assumption) | assumption)
        have hx12 := bt_at a0 (ji9)
        replace p12 := eq_true p12
        replace q12 := eq_true q12
        go_wp2
        go_meet
        case rel => exact ⟨_, (((bt a0 (ji9)) != 117)), (by first | rfl | (simp; done) | (simp only [← hji9] <;> (first | rfl | simp)) | (simp [*]; done)), H', ⟨by first | omega | exact Nat.le_refl _⟩, by repeat (first | exact Drawn0.refl _ | apply Drawn0.step)⟩
       ·rw [if_neg c11] at H
        exact absurd H (by simp)
      ·rw [if_neg c10] at H
       exact absurd H (by simp)
     ·rw [if_neg c8] at H
      have c8b0 : ((bt a0 a1) == 92) = false := beq_eq_false_iff_ne.mpr c8
      have c8b1 : ((bt a0 a1) != 92) = true := bne_iff_ne.mpr c8
      have H' := Aside0.mk H
      clear H
      have p7 : 0 ≤ (a1 : Int) := of_decide_eq_true (by first | (with_reducible assumption) | assumption)
      have q7 : a1 < (a0.size : Int) := of_decide_eq_true (by first | (with_reducible assumption) | assumption)
      have hx7 := bt_at a0 a1
      replace p7 := eq_true p7
      replace q7 := eq_true q7
      go_wp2
      go_meet
      case rel => exact ⟨_, (true), (by first | rfl | (simp; done) | (simp [*]; done)), H', ⟨by first | omega | exact Nat.le_refl _⟩, by repeat (first | exact Drawn0.refl _ | apply Drawn0.step)⟩
    ·rw [if_neg c6] at H
     exact absurd H (by simp)
   ·rw [if_neg c5] at H
    exact absurd H (by simp)
 case rest =>
  clear HC3
  try clear c1
  try clear p1
  try clear q1
  try clear hx1
  try clear p2
  try clear c4
  try clear c4b0
  try clear c5
  try clear c5b0
  try clear c6
  try clear c6b0
  try clear p6
  try clear p7
  try clear q7
  try clear hx7
  try clear c8
  try clear c8b0
  try clear c8b1
  try clear c10
  try clear c10b0
  try clear c11
  try clear c11b0
  try clear p12
  try clear q12
  try clear hx12
  try clear p12
  try clear p7
  try clear q12
  try clear q7
  obtain ⟨kq, x27_2, rfl, HA, HJ2, ⟨mc2, rfl⟩⟩ := hcut
  cases kq with
  | zero => exact absurd HA.out (by simp [spec_unit.j0])
  | succ kj2 =>
   have H := HA.out
   clear HA
   simp only [spec_unit.j0] at H
   by_cases c13 : x27_2 = true
   ·subst c13
    have H1 : (some (0, false)) = some (r1, r2) := by rw [if_pos rfl] at H; exact H
    clear H
    have H := H1
    clear H1
    simp only [Option.some.injEq, Prod.mk.injEq] at H
    obtain ⟨rfl, rfl⟩ := H
    go_wp2
    go_ret2
    exact ⟨by first | rfl | (simp; done) | (simp [*]; done), by repeat (first | exact Drawn0.refl _ | apply Drawn0.step)⟩
   ·replace c13 := Bool.eq_false_iff.mpr c13
    subst c13
    have H1 : (spec_unit.l0 kj2 a0 a1 0 (wrap64 (a1 + 2))) = some (r1, r2) := by rw [if_neg (show ¬ (false = true) by decide)] at H; exact H
    clear H
    have H := H1
    clear H1
    have H' := Aside0.mk H
    clear H
    go_wp2
    go_loopg [6, 7] kj2 (fun kq v6 v7 w' => ∃ (x6_2 : Int) (x7_2 : Int), v6 = .int .i64 x6_2 ∧ v7 = .int .i64 x7_2 ∧ Aside0 (spec_unit.l0 kq a0 a1 x6_2 x7_2 = some (r1, r2)) ∧ Aside0 (kq ≤ kj2) ∧ Drawn0 w w')
    case atStart => exact ⟨(0), (wrap64 (a1 + 2)), (by first | rfl | (simp; done) | (simp [*]; done)), (by first | rfl | (simp; done) | (simp [*]; done)), H', ⟨Nat.le_refl _⟩, by repeat (first | exact Drawn0.refl _ | apply Drawn0.step)⟩
    case round =>
     clear H'
     try clear c1
     try clear p1
     try clear q1
     try clear hx1
     try clear c2
     try clear p2
     try clear c4
     try clear c4b0
     try clear c5
     try clear c5b0
     try clear c6
     try clear c6b0
     try clear p6
     try clear p7
     try clear q7
     try clear hx7
     try clear c8
     try clear c8b0
     try clear c8b1
     try clear c10
     try clear c10b0
     try clear c11
     try clear c11b0
     try clear p12
     try clear q12
     try clear hx12
     try clear c13
     try clear p1
     try clear p12
     try clear p2
     try clear p6
     try clear p7
     try clear q1
     try clear q12
     try clear q7
     obtain ⟨x6_2, x7_2, rfl, rfl, HA, HK2, ⟨m2, rfl⟩⟩ := hrel
     cases gk with
     | zero => exact absurd HA.out (by simp [spec_unit.l0])
     | succ k2 =>
      have H := HA.out
      clear HA
      simp only [spec_unit.l0] at H
      by_cases c14 : x7_2 < (wrap64 (a1 + 6))
      ·rw [if_pos c14] at H
       have c14b0 : decide (x7_2 < (wrap64 (a1 + 6))) = true := decide_eq_true c14
       clear c14
       by_cases c15 : 0 ≤ x7_2
       ·rw [if_pos c15] at H
        have c15b0 : decide (0 ≤ x7_2) = true := decide_eq_true c15
        clear c15
        by_cases c16 : x7_2 < (a0.size : Int)
        ·rw [if_pos c16] at H
         have c16b0 : decide (x7_2 < (a0.size : Int)) = true := decide_eq_true c16
         clear c16
         replace H := Option.bind_eq_some_iff.mp H
         obtain ⟨⟨t284, t285⟩, A180, H⟩ := H
         try dsimp only at H
         have A18 := Aside0.mk A180
         clear A180
         by_cases c19 : t285 = true
         ·subst c19
          have H1 : (spec_unit.l0 k2 a0 a1 (wrap64 ((wrap64 (x6_2 * 16)) + t284)) (wrap64 (x7_2 + 1))) = some (r1, r2) := by rw [if_pos rfl] at H; exact H
          clear H
          have H := H1
          clear H1
          have H' := Aside0.mk H
          clear H
          have p17 : 0 ≤ (x7_2 : Int) := of_decide_eq_true (by first | (with_reducible assumption) | assumption)
          have q17 : x7_2 < (a0.size : Int) := of_decide_eq_true (by first | (with_reducible assumption) | assumption)
          have hx17 := bt_at a0 x7_2
          replace p17 := eq_true p17
          replace q17 := eq_true q17
          go_wp2_with (first | ((with_reducible refine gate_callee (f := 87) rfl ?_); refine goesL_ (some 40) rfl rfl Tryz.func87 (by kernel_rfl) rfl #[.int .u8 (bt a0 x7_2)] rfl (by (try simp only [List.map_toArray, List.map_cons, List.map_nil]); first | done | rfl | (simp only [List.length_drop, List.length_take]; rfl)) ?_; (with_reducible refine (spec_hexDigit.calls k2 (bt a0 x7_2) t284 true _ A18.out).mono ?_); rintro e w' ⟨rfl, ⟨nd, rfl⟩⟩; refine ⟨_, rfl, ?_⟩))
          go_roundg k2
          case measure => have := HJ2.out; have := HK2.out; omega
          case rel => exact ⟨(wrap64 ((wrap64 (x6_2 * 16)) + t284)), (wrap64 (x7_2 + 1)), (by first | rfl | (simp; done) | (simp [*]; done)), (by first | rfl | (simp; done) | (simp [*]; done)), H', ⟨by have := HJ2.out; have := HK2.out; omega⟩, by repeat (first | exact Drawn0.refl _ | apply Drawn0.step)⟩
         ·replace c19 := Bool.eq_false_iff.mpr c19
          subst c19
          have H1 : (some (0, false)) = some (r1, r2) := by rw [if_neg (show ¬ (false = true) by decide)] at H; exact H
          clear H
          have H := H1
          clear H1
          simp only [Option.some.injEq, Prod.mk.injEq] at H
          obtain ⟨rfl, rfl⟩ := H
          have p17 : 0 ≤ (x7_2 : Int) := of_decide_eq_true (by first | (with_reducible assumption) | assumption)
          have q17 : x7_2 < (a0.size : Int) := of_decide_eq_true (by first | (with_reducible assumption) | assumption)
          have hx17 := bt_at a0 x7_2
          replace p17 := eq_true p17
          replace q17 := eq_true q17
          go_wp2_with (first | ((with_reducible refine gate_callee (f := 87) rfl ?_); refine goesL_ (some 40) rfl rfl Tryz.func87 (by kernel_rfl) rfl #[.int .u8 (bt a0 x7_2)] rfl (by (try simp only [List.map_toArray, List.map_cons, List.map_nil]); first | done | rfl | (simp only [List.length_drop, List.length_take]; rfl)) ?_; (with_reducible refine (spec_hexDigit.calls k2 (bt a0 x7_2) t284 false _ A18.out).mono ?_); rintro e w' ⟨rfl, ⟨nd, rfl⟩⟩; refine ⟨_, rfl, ?_⟩))
          go_ret2
          exact ⟨by first | rfl | (simp; done) | (simp [*]; done), by repeat (first | exact Drawn0.refl _ | apply Drawn0.step)⟩
        ·rw [if_neg c16] at H
         exact absurd H (by simp)
       ·rw [if_neg c15] at H
        exact absurd H (by simp)
      ·rw [if_neg c14] at H
       have c14b0 : decide (x7_2 < (wrap64 (a1 + 6))) = false := decide_eq_false c14
       clear c14
       simp only [Option.some.injEq, Prod.mk.injEq] at H
       obtain ⟨rfl, rfl⟩ := H
       go_wp2
       go_ret2
       exact ⟨by first | rfl | (simp; done) | (simp [*]; done), by repeat (first | exact Drawn0.refl _ | apply Drawn0.step)⟩
def spec_high.f (a0 : Int) : Option (Bool) := if 55296 ≤ a0 then (some (decide (a0 ≤ 56319))) else (some false)
theorem spec_high.calls (a0 : Int) (r : Bool) (w : World) (h : spec_high.f a0 = some r) :
  Calls Tryz.prog 60 #[.int .i64 a0] w fun e w' => e = .returned (.bool r) ∧ Drawn0 w w' := by
 have H : (if 55296 ≤ a0 then (some (decide (a0 ≤ 56319))) else (some false)) = some r := h
 clear h
 by_cases c2 : 55296 ≤ a0
 ·rw [if_pos c2] at H
  have c2b0 : decide (55296 ≤ a0) = true := decide_eq_true c2
  clear c2
  obtain rfl := Option.some.inj H
  go_enter Tryz.func60, Tryz.ntmps60
  go_wp2
  go_ret
  exact ⟨by first | rfl | (simp; done) | (simp [*]; done), by repeat (first | exact Drawn0.refl _ | apply Drawn0.step)⟩
 ·rw [if_neg c2] at H
  have c2b0 : decide (55296 ≤ a0) = false := decide_eq_false c2
  clear c2
  obtain rfl := Option.some.inj H
  go_enter Tryz.func60, Tryz.ntmps60
  go_wp2
  go_ret
  exact ⟨by first | rfl | (simp; done) | (simp [*]; done), by repeat (first | exact Drawn0.refl _ | apply Drawn0.step)⟩
def spec_low.f (a0 : Int) : Option (Bool) := if 56320 ≤ a0 then (some (decide (a0 ≤ 57343))) else (some false)
theorem spec_low.calls (a0 : Int) (r : Bool) (w : World) (h : spec_low.f a0 = some r) :
  Calls Tryz.prog 61 #[.int .i64 a0] w fun e w' => e = .returned (.bool r) ∧ Drawn0 w w' := by
 have H : (if 56320 ≤ a0 then (some (decide (a0 ≤ 57343))) else (some false)) = some r := h
 clear h
 by_cases c2 : 56320 ≤ a0
 ·rw [if_pos c2] at H
  have c2b0 : decide (56320 ≤ a0) = true := decide_eq_true c2
  clear c2
  obtain rfl := Option.some.inj H
  go_enter Tryz.func61, Tryz.ntmps61
  go_wp2
  go_ret
  exact ⟨by first | rfl | (simp; done) | (simp [*]; done), by repeat (first | exact Drawn0.refl _ | apply Drawn0.step)⟩
 ·rw [if_neg c2] at H
  have c2b0 : decide (56320 ≤ a0) = false := decide_eq_false c2
  clear c2
  obtain rfl := Option.some.inj H
  go_enter Tryz.func61, Tryz.ntmps61
  go_wp2
  go_ret
  exact ⟨by first | rfl | (simp; done) | (simp [*]; done), by repeat (first | exact Drawn0.refl _ | apply Drawn0.step)⟩
def spec_short.f (a0 : Int) : Option (Int) := if a0 = 98 then (some 8) else (if a0 = 102 then (some 12) else (if a0 = 110 then (some 10) else (if a0 = 114 then (some 13) else (if a0 = 116 then (some 9) else (some a0)))))
theorem spec_short.calls (a0 : Int) (r : Int) (w : World) (h : spec_short.f a0 = some r) :
  Calls Tryz.prog 105 #[.int .u8 a0] w fun e w' => e = .returned (.int .u8 r) ∧ Drawn0 w w' := by
 have H : (if a0 = 98 then (some 8) else (if a0 = 102 then (some 12) else (if a0 = 110 then (some 10) else (if a0 = 114 then (some 13) else (if a0 = 116 then (some 9) else (some a0)))))) = some r := h
 clear h
 by_cases c2 : a0 = 98
 ·rw [if_pos c2] at H
  have c2b0 : (a0 == 98) = true := beq_iff_eq.mpr c2
  have c2b1 : (a0 != 98) = false := bne_eq_false_iff_eq.mpr c2
  clear c2
  obtain rfl := Option.some.inj H
  go_enter Tryz.func105, Tryz.ntmps105
  go_wp2
  go_ret
  exact ⟨by first | rfl | (simp; done) | (simp [*]; done), by repeat (first | exact Drawn0.refl _ | apply Drawn0.step)⟩
 ·rw [if_neg c2] at H
  have c2b0 : (a0 == 98) = false := beq_eq_false_iff_ne.mpr c2
  have c2b1 : (a0 != 98) = true := bne_iff_ne.mpr c2
  by_cases c3 : a0 = 102
  ·rw [if_pos c3] at H
   have c3b0 : (a0 == 102) = true := beq_iff_eq.mpr c3
   have c3b1 : (a0 != 102) = false := bne_eq_false_iff_eq.mpr c3
   clear c3
   obtain rfl := Option.some.inj H
   go_enter Tryz.func105, Tryz.ntmps105
   go_wp2
   go_ret
   exact ⟨by first | rfl | (simp; done) | (simp [*]; done), by repeat (first | exact Drawn0.refl _ | apply Drawn0.step)⟩
  ·rw [if_neg c3] at H
   have c3b0 : (a0 == 102) = false := beq_eq_false_iff_ne.mpr c3
   have c3b1 : (a0 != 102) = true := bne_iff_ne.mpr c3
   by_cases c4 : a0 = 110
   ·rw [if_pos c4] at H
    have c4b0 : (a0 == 110) = true := beq_iff_eq.mpr c4
    have c4b1 : (a0 != 110) = false := bne_eq_false_iff_eq.mpr c4
    clear c4
    obtain rfl := Option.some.inj H
    go_enter Tryz.func105, Tryz.ntmps105
    go_wp2
    go_ret
    exact ⟨by first | rfl | (simp; done) | (simp [*]; done), by repeat (first | exact Drawn0.refl _ | apply Drawn0.step)⟩
   ·rw [if_neg c4] at H
    have c4b0 : (a0 == 110) = false := beq_eq_false_iff_ne.mpr c4
    have c4b1 : (a0 != 110) = true := bne_iff_ne.mpr c4
    by_cases c5 : a0 = 114
    ·rw [if_pos c5] at H
     have c5b0 : (a0 == 114) = true := beq_iff_eq.mpr c5
     have c5b1 : (a0 != 114) = false := bne_eq_false_iff_eq.mpr c5
     clear c5
     obtain rfl := Option.some.inj H
     go_enter Tryz.func105, Tryz.ntmps105
     go_wp2
     go_ret
     exact ⟨by first | rfl | (simp; done) | (simp [*]; done), by repeat (first | exact Drawn0.refl _ | apply Drawn0.step)⟩
    ·rw [if_neg c5] at H
     have c5b0 : (a0 == 114) = false := beq_eq_false_iff_ne.mpr c5
     have c5b1 : (a0 != 114) = true := bne_iff_ne.mpr c5
     by_cases c6 : a0 = 116
     ·rw [if_pos c6] at H
      have c6b0 : (a0 == 116) = true := beq_iff_eq.mpr c6
      have c6b1 : (a0 != 116) = false := bne_eq_false_iff_eq.mpr c6
      clear c6
      obtain rfl := Option.some.inj H
      go_enter Tryz.func105, Tryz.ntmps105
      go_wp2
      go_ret
      exact ⟨by first | rfl | (simp; done) | (simp [*]; done), by repeat (first | exact Drawn0.refl _ | apply Drawn0.step)⟩
     ·rw [if_neg c6] at H
      have c6b0 : (a0 == 116) = false := beq_eq_false_iff_ne.mpr c6
      have c6b1 : (a0 != 116) = true := bne_iff_ne.mpr c6
      obtain rfl := Option.some.inj H
      go_enter Tryz.func105, Tryz.ntmps105
      go_wp2
      go_ret
      exact ⟨by first | rfl | (simp; done) | (simp [*]; done), by repeat (first | exact Drawn0.refl _ | apply Drawn0.step)⟩
end Go.Proofs.YtgiioglmkogpkaaGreatDoor.M
namespace Go.Proofs.YtgiioglmkogpkaaGreatDoor.M
open Go.RowKit Go.Proofs.YtgiioglmkogpkaaGreatDoorW.PrintWords Go.Proofs.YtgiioglmkogpkaaGreatDoorW.PrintLast Go.Proofs.YtgiioglmkogpkaaGreatDoorW.PrintMore
set_option maxHeartbeats 8000000
set_option maxRecDepth 100000
attribute [local go_sem] max2_int min2_int max_two min_two max_three min_three max_four min_four
def spec_appendUTF8.j0 : Nat → List Int → Int → Bool → Option (List Int)
 | 0, _, _, _ => none
 | k + 1, x0, x1, x27 => if x27 = true then ((some (([239, 191, 189] : List Int) : List Int)).bind fun y297 => (if x0.length + y297.length < 140737488355328 then (some (x0 ++ y297)) else (none))) else (if x1 < 65536 then ((some (([(wrap64 (224 + (wrap64 (Int.tdiv x1 4096)))) % 256, (wrap64 (128 + (Int.tmod (wrap64 (Int.tdiv x1 64)) 64))) % 256, (wrap64 (128 + (Int.tmod x1 64))) % 256] : List Int) : List Int)).bind fun y303 => (if x0.length + y303.length < 140737488355328 then (some (x0 ++ y303)) else (none))) else ((some (([(wrap64 (240 + (wrap64 (Int.tdiv x1 262144)))) % 256, (wrap64 (128 + (Int.tmod (wrap64 (Int.tdiv x1 4096)) 64))) % 256, (wrap64 (128 + (Int.tmod (wrap64 (Int.tdiv x1 64)) 64))) % 256, (wrap64 (128 + (Int.tmod x1 64))) % 256] : List Int) : List Int)).bind fun y309 => (if x0.length + y309.length < 140737488355328 then (some (x0 ++ y309)) else (none))))
def spec_appendUTF8.f (k : Nat) (l0 : List Int) (a1 : Int) : Option (List Int) := if a1 < 128 then (if l0.length < 140737488355328 then (some (l0 ++ [(a1) % 256])) else (none)) else (if a1 < 2048 then ((some (([(wrap64 (192 + (wrap64 (Int.tdiv a1 64)))) % 256, (wrap64 (128 + (Int.tmod a1 64))) % 256] : List Int) : List Int)).bind fun y289 => (if l0.length + y289.length < 140737488355328 then (some (l0 ++ y289)) else (none))) else ((spec_high.f a1).bind fun t295 => (if t295 = true then (spec_appendUTF8.j0 k l0 a1 true) else ((spec_low.f a1).bind fun t296 => (spec_appendUTF8.j0 k l0 a1 t296)))))
theorem spec_appendUTF8.calls (k : Nat) (P0_ : Nat → Prop) (u9000_ : Value) (l0 : List Int) (a1 : Int) (r : List Int) (w0 w : World) (hB : Below w0.heap.size w0 w) (ho0 : Kd.R (Kd.int .u8) 5 w w0.heap.size P0_ u9000_ l0) (h : spec_appendUTF8.f k l0 a1 = some r) :
  Calls Tryz.prog 106 #[u9000_, .int .i64 a1] w fun e w' => ∃ v0_ : Value, e = .returned (v0_) ∧ Kd.R (Kd.int .u8) 5 w' w0.heap.size (fun k_ => (P0_ k_ ∨ w.heap.size ≤ k_)) v0_ r ∧ Below w0.heap.size w0 w' ∧ Kept w w' (fun k_ => P0_ k_) := by
 have HO0 := Aside0.mk (show Kd.R (Kd.int .u8) 5 w w0.heap.size (fun k_ => (P0_ k_ ∨ w.heap.size ≤ k_)) u9000_ l0 from Kd.R_mono ho0 (fun k_ hk => (.inl hk)))
 have HK := Aside0.mk (Kept.refl w (fun k_ => P0_ k_))
 have HW0 := Aside0.mk hB.size
 have HB := Aside0.mk hB
 clear hB
 have H : (if a1 < 128 then (if l0.length < 140737488355328 then (some (l0 ++ [(a1) % 256])) else (none)) else (if a1 < 2048 then ((some (([(wrap64 (192 + (wrap64 (Int.tdiv a1 64)))) % 256, (wrap64 (128 + (Int.tmod a1 64))) % 256] : List Int) : List Int)).bind fun y289 => (if l0.length + y289.length < 140737488355328 then (some (l0 ++ y289)) else (none))) else ((spec_high.f a1).bind fun t295 => (if t295 = true then (spec_appendUTF8.j0 k l0 a1 true) else ((spec_low.f a1).bind fun t296 => (spec_appendUTF8.j0 k l0 a1 t296)))))) = some r := h
 clear h
 by_cases c3 : a1 < 128
 ·rw [if_pos c3] at H
  have c3b0 : decide (a1 < 128) = true := decide_eq_true c3
  clear c3
  by_cases c4 : l0.length < 140737488355328
  ·rw [if_pos c4] at H
   have LMc4 := Aside0.mk c4
   clear c4
   obtain ⟨y286, hy286⟩ : ∃ y_ : List Int, y_ = (l0 ++ [(a1) % 256]) := ⟨_, rfl⟩
   replace H : (some y286) = some r := by first | (rw [hy286]; with_reducible exact H) | (have H2_ := (Option.bind_some _ _).symm.trans H; rw [hy286]; with_reducible exact H2_) | (have H2_ := (Option.bind_some _ _).symm.trans H; with_reducible exact H2_) | with_reducible exact H | (rw [hy286]; exact H) | exact H
   have Ny286 := Aside0.mk hy286
   clear hy286
   obtain rfl := Option.some.inj H
   go_enter Tryz.func106, Tryz.ntmps106
   go_wp2_with (first | ((with_reducible refine gate_builtin (b := .append) (xs := #[.tmp 8, .tmp 11]) rfl ?_); at_builtin; refine Kd.R_append (Kd.int .u8) (w0 := w0) w0.heap.size rfl (.tmp 8) (.tmp 11) 103 5 (.int .u8 0) 1 rfl Tryz.underlying103 info5 rfl (by decide) (by omega) u9000_ l0 ((a1) % 256) [.int .u8 ((a1) % 256)] (fun k_ => (P0_ k_ ∨ w.heap.size ≤ k_)) (fun _ => False) rfl rfl ?aP (fun _ hk => hk.elim) ?aF ?aO ?aB ?aS ?aL ?_; (case aP => exact rfl); (case aB => exact (by repeat (first | (with_reducible first | exact HB.out | apply bA | apply bN | apply bD) | exact HB.out))); (case aF => exact (fun k_ hk => (.inr (Nat.le_trans (by first | exact HK.out.1 | exact (show Kept w _ (fun k_ => P0_ k_) from by repeat (first | (with_reducible first | exact HK.out | apply Kept.alloc | apply Kept.drewN | apply Kept.drew) | exact HK.out)).1) hk)))); (case aO => exact (by (with_reducible repeat (first | apply rA | apply rN | apply rD)); exact HO0.out)); (case aS => exact (below_size (by repeat (first | (with_reducible first | exact HB.out | apply bA | apply bN | apply bD) | exact HB.out)))); (case aL => have := LMc4.out; omega); intro v287 w5 ho hb hg hat; rw [← Ny286.out] at ho; have n0_ := Aside0.mk (hb); have n1_ := Aside0.mk (Kept.of_grown (S := (fun k_ => P0_ k_)) hg (by repeat (first | (with_reducible first | exact HK.out | apply Kept.alloc | apply Kept.drewN | apply Kept.drew) | exact HK.out)) (fun k_ e_ => (HO0.out.1 k_ e_))); have n2_ := Aside0.mk (ho); clear HB; clear HK; clear HO0; have HB := n0_; have HK := n1_; have HO288 := n2_; clear n0_ n1_ n2_; clear ho hb hg hat))
   go_ret
   exact ⟨_, by first | rfl | (simp [errW_none, errW_some] <;> rfl) | (simp [*, errW_none, errW_some] <;> rfl), by (with_reducible repeat (first | apply rA | apply rN | apply rD)); exact HO288.out, by repeat (first | (with_reducible first | exact HB.out | apply bA | apply bN | apply bD) | exact HB.out), by repeat (first | (with_reducible first | exact HK.out | apply Kept.alloc | apply Kept.drewN | apply Kept.drew) | exact HK.out)⟩
  ·rw [if_neg c4] at H
   exact absurd H (by simp)
 ·rw [if_neg c3] at H
  have c3b0 : decide (a1 < 128) = false := decide_eq_false c3
  clear c3
  by_cases c6 : a1 < 2048
  ·rw [if_pos c6] at H
   have c6b0 : decide (a1 < 2048) = true := decide_eq_true c6
   clear c6
   obtain ⟨y289, hy289⟩ : ∃ y_ : List Int, y_ = (([(wrap64 (192 + (wrap64 (Int.tdiv a1 64)))) % 256, (wrap64 (128 + (Int.tmod a1 64))) % 256] : List Int)) := ⟨_, rfl⟩
   replace H : (if l0.length + y289.length < 140737488355328 then (some (l0 ++ y289)) else (none)) = some r := by first | (rw [hy289]; with_reducible exact H) | (have H2_ := (Option.bind_some _ _).symm.trans H; rw [hy289]; with_reducible exact H2_) | (have H2_ := (Option.bind_some _ _).symm.trans H; with_reducible exact H2_) | with_reducible exact H | (rw [hy289]; exact H) | exact H
   have Ny289 := Aside0.mk hy289
   clear hy289
   by_cases c7 : l0.length + y289.length < 140737488355328
   ·rw [if_pos c7] at H
    have LMc7 := Aside0.mk c7
    clear c7
    obtain ⟨y292, hy292⟩ : ∃ y_ : List Int, y_ = (l0 ++ y289) := ⟨_, rfl⟩
    replace H : (some y292) = some r := by first | (rw [hy292]; with_reducible exact H) | (have H2_ := (Option.bind_some _ _).symm.trans H; rw [hy292]; with_reducible exact H2_) | (have H2_ := (Option.bind_some _ _).symm.trans H; with_reducible exact H2_) | with_reducible exact H | (rw [hy292]; exact H) | exact H
    have Ny292 := Aside0.mk hy292
    clear hy292
    obtain rfl := Option.some.inj H
    go_enter Tryz.func106, Tryz.ntmps106
    go_wp2_with (first | ((with_reducible refine gate_dst (N := 25) rfl ?_); refine Kd.R_lit (Kd.int .u8) _ 5 ?hg (N := 25) ?hd (xs := ([(wrap64 (192 + (wrap64 (Int.tdiv a1 64)))) % 256, (wrap64 (128 + (Int.tmod a1 64))) % 256] : List Int)) (inner := [.int .u8 ((wrap64 (192 + (wrap64 (Int.tdiv a1 64)))) % 256), .int .u8 ((wrap64 (128 + (Int.tmod a1 64))) % 256)]) (ok := fun _ => True) (okp := fun _ => True) ?hr ?hp (fun _ hk => hk) trivial (Below.refl _ _) (Nat.le_refl _) (by simp) ?_; (case hd => rfl); (case hg => rfl); (case hr => first | (go_simp; done) | (go_simp; rfl)); (case hp => exact (Reps.one (show Kd.M (Kd.int .u8) _ _ _ ((wrap64 (192 + (wrap64 (Int.tdiv a1 64)))) % 256) [.int .u8 ((wrap64 (192 + (wrap64 (Int.tdiv a1 64)))) % 256)] from rfl) (Reps.one (show Kd.M (Kd.int .u8) _ _ _ ((wrap64 (128 + (Int.tmod a1 64))) % 256) [.int .u8 ((wrap64 (128 + (Int.tmod a1 64))) % 256)] from rfl) (Reps.none _ _)))); intro v290 w8 ho9 hb hg_ hnew_; clear hg_ hnew_; (first | rw [← Ny289.out] at ho9 | (simp only [Int.reduceToNat] at ho9; rw [← Ny289.out] at ho9)); have n0_ := Aside0.mk (Kd.R_elder' (by (with_reducible repeat (first | apply rA | apply rN | apply rD)); exact HO0.out) (Kd.R_base ho9) hb); have n1_ := Aside0.mk (Kd.R_lower (Kd.R_new' (Kd.R_newM (M := fun k_ => (P0_ k_ ∨ w.heap.size ≤ k_)) ho9 (by first | exact HK.out.1 | exact (show Kept w _ (fun k_ => P0_ k_) from by repeat (first | (with_reducible first | exact HK.out | apply Kept.alloc | apply Kept.drewN | apply Kept.drew) | exact HK.out)).1) (fun k_ h_ => .inr h_)) (Kd.R_lt (by (with_reducible repeat (first | apply rA | apply rN | apply rD)); exact HO0.out))) (below_size (by repeat (first | (with_reducible first | exact HB.out | apply bA | apply bN | apply bD) | exact HB.out)))); have n2_ := Aside0.mk (Kept.below (S := (fun k_ => P0_ k_)) (by repeat (first | (with_reducible first | exact HK.out | apply Kept.alloc | apply Kept.drewN | apply Kept.drew) | exact HK.out)) hb); have n3_ := Aside0.mk (below_step (by repeat (first | (with_reducible first | exact HB.out | apply bA | apply bN | apply bD) | exact HB.out)) hb); clear HO0; clear HK; clear HB; have HO0 := n0_; have HO291 := n1_; have HK := n2_; have HB := n3_; clear n0_ n1_ n2_ n3_; clear hb ho9; obtain ⟨Ao11, co11, eo11⟩ := Kd.R_slice HO291.out; subst eo11) | ((with_reducible refine gate_builtin (b := .append) (xs := #[.tmp 16, .tmp 25]) rfl ?_); at_builtin; refine Kd.R_append_rows (Kd.int .u8) (w0 := w0) w0.heap.size rfl (.tmp 16) (.tmp 25) 103 5 (.int .u8 0) 1 rfl Tryz.underlying103 info5 rfl (by decide) (by omega) u9000_ l0 y289 _ _ _ (fun k_ => (P0_ k_ ∨ w.heap.size ≤ k_) ∧ some k_ ≠ (.slice Ao11 y289.length co11 : Value).ownBlock) (fun _ => False) rfl rfl ?aO ?aR (fun _ _ h => h) (fun _ h => h.elim) ?aF ?aB ?aS ?aL ?_; (case aR => repeat (first | exact (Kd.R_reads' HO291.out).2.2 | (with_reducible refine Kd.C_alloc ?_ _) | (with_reducible refine Kd.C_drewN ?_ _) | (with_reducible refine Kd.C_drew ?_))); (case aB => exact (by repeat (first | (with_reducible first | exact HB.out | apply bA | apply bN | apply bD) | exact HB.out))); (case aF => exact (fun k_ hk => ⟨(.inr (Nat.le_trans (by first | exact HK.out.1 | exact (show Kept w _ (fun k_ => P0_ k_) from by repeat (first | (with_reducible first | exact HK.out | apply Kept.alloc | apply Kept.drewN | apply Kept.drew) | exact HK.out)).1) hk)), Kd.fresh' (Kd.R_lt (by (with_reducible repeat (first | apply rA | apply rN | apply rD)); exact HO291.out)) k_ hk⟩)); (case aO => exact (by (with_reducible repeat (first | apply rA | apply rN | apply rD)); exact HO0.out)); (case aS => exact (below_size (by repeat (first | (with_reducible first | exact HB.out | apply bA | apply bN | apply bD) | exact HB.out)))); (case aL => have := LMc7.out; omega); intro v293 w10 ho hb hg hat; rw [← Ny292.out] at ho; have n0_ := Aside0.mk (Kd.R_after (ok := (fun k_ => (P0_ k_ ∨ w.heap.size ≤ k_))) (by (with_reducible repeat (first | apply rA | apply rN | apply rD)); exact Kd.R_mono HO291.out (fun _ hk => ⟨hk.1.1, hk.2⟩)) hg hat); have n1_ := Aside0.mk (hb); have n2_ := Aside0.mk (Kept.of_grown (S := (fun k_ => P0_ k_)) hg (by repeat (first | (with_reducible first | exact HK.out | apply Kept.alloc | apply Kept.drewN | apply Kept.drew) | exact HK.out)) (fun k_ e_ => (HO0.out.1 k_ e_).1)); have n3_ := Aside0.mk (ho); clear HO291; clear HB; clear HK; clear HO0; have HO291 := n0_; have HB := n1_; have HK := n2_; have HO294 := n3_; clear n0_ n1_ n2_ n3_; clear ho hb hg hat))
    go_ret
    exact ⟨_, by first | rfl | (simp [errW_none, errW_some] <;> rfl) | (simp [*, errW_none, errW_some] <;> rfl), by (with_reducible repeat (first | apply rA | apply rN | apply rD)); exact Kd.R_mono HO294.out (fun _ hk => hk.1), by repeat (first | (with_reducible first | exact HB.out | apply bA | apply bN | apply bD) | exact HB.out), by repeat (first | (with_reducible first | exact HK.out | apply Kept.alloc | apply Kept.drewN | apply Kept.drew) | exact HK.out)⟩
   ·rw [if_neg c7] at H
    exact absurd H (by simp)
  ·rw [if_neg c6] at H
   have c6b0 : decide (a1 < 2048) = false := decide_eq_false c6
   clear c6
   have HC12 := Aside0.mk H
   clear H
   go_enter Tryz.func106, Tryz.ntmps106
   go_upto_region 5 with (fail)
   go_cut [27] (fun v27 wc => ∃ (kq : Nat) (x27_11 : Bool), v27 = .bool x27_11 ∧ Aside0 (spec_appendUTF8.j0 kq l0 a1 x27_11 = some r) ∧ Aside0 (kq ≤ k) ∧ Aside0 (Kd.R (Kd.int .u8) 5 wc w0.heap.size (fun k_ => (P0_ k_ ∨ w.heap.size ≤ k_)) u9000_ l0) ∧ Aside0 (Kept w wc (fun k_ => P0_ k_)) ∧ Aside0 (Below w0.heap.size w0 wc))
   case first =>
    have H := HC12.out
    clear HC12
    replace H := Option.bind_eq_some_iff.mp H
    obtain ⟨t295, A130, H⟩ := H
    try dsimp only at H
    have A13 := Aside0.mk A130
    clear A130
    by_cases c14 : t295 = true
    ·subst c14
     have H1 : (spec_appendUTF8.j0 k l0 a1 true) = some r := by rw [if_pos rfl] at H; exact H
     clear H
     have H := H1
     clear H1
     have H' := Aside0.mk H
     clear H
     go_wp2_with (first | ((with_reducible refine gate_callee (f := 60) rfl ?_); refine goesL_ (some 29) rfl rfl Tryz.func60 (by kernel_rfl) rfl #[.int .i64 a1] rfl (by (try simp only [List.map_toArray, List.map_cons, List.map_nil]); first | done | rfl | (simp only [List.length_drop, List.length_take]; rfl)) ?_; (with_reducible refine (spec_high.calls a1 true _ A13.out).mono ?_); rintro e w' ⟨rfl, ⟨nd, rfl⟩⟩; refine ⟨_, rfl, ?_⟩))
     go_meet
     case rel => exact ⟨_, (true), (by first | rfl | (simp; done) | (simp [*]; done)), H', ⟨by first | omega | exact Nat.le_refl _⟩, ⟨by (with_reducible repeat (first | apply rA | apply rN | apply rD)); exact HO0.out⟩, ⟨by repeat (first | (with_reducible first | exact HK.out | apply Kept.alloc | apply Kept.drewN | apply Kept.drew) | exact HK.out)⟩, ⟨by repeat (first | (with_reducible first | exact HB.out | apply bA | apply bN | apply bD) | exact HB.out)⟩⟩
    ·replace c14 := Bool.eq_false_iff.mpr c14
     subst c14
     have H1 : ((spec_low.f a1).bind fun t296 => (spec_appendUTF8.j0 k l0 a1 t296)) = some r := by rw [if_neg (show ¬ (false = true) by decide)] at H; exact H
     clear H
     have H := H1
     clear H1
     replace H := Option.bind_eq_some_iff.mp H
     obtain ⟨t296, A150, H⟩ := H
     try dsimp only at H
     have A15 := Aside0.mk A150
     clear A150
     have H' := Aside0.mk H
     clear H
     go_wp2_with (first | ((with_reducible refine gate_callee (f := 60) rfl ?_); refine goesL_ (some 29) rfl rfl Tryz.func60 (by kernel_rfl) rfl #[.int .i64 a1] rfl (by (try simp only [List.map_toArray, List.map_cons, List.map_nil]); first | done | rfl | (simp only [List.length_drop, List.length_take]; rfl)) ?_; (with_reducible refine (spec_high.calls a1 false _ A13.out).mono ?_); rintro e w' ⟨rfl, ⟨nd, rfl⟩⟩; refine ⟨_, rfl, ?_⟩) | (go_at_call 61; (with_reducible refine (spec_low.calls a1 t296 _ A15.out).mono ?_); rintro e w' ⟨rfl, ⟨nd, rfl⟩⟩))
     go_meet
     case rel => exact ⟨_, (t296), (by first | rfl | (simp; done) | (simp [*]; done)), H', ⟨by first | omega | exact Nat.le_refl _⟩, ⟨by (with_reducible repeat (first | apply rA | apply rN | apply rD)); exact HO0.out⟩, ⟨by repeat (first | (with_reducible first | exact HK.out | apply Kept.alloc | apply Kept.drewN | apply Kept.drew) | exact HK.out)⟩, ⟨by repeat (first | (with_reducible first | exact HB.out | apply bA | apply bN | apply bD) | exact HB.out)⟩⟩
   case rest =>
    clear HC12
    try clear c1
    try clear p2
    try clear c3
    try clear c3b0
    try clear c4
    try clear c6
    try clear c6b0
    try clear p6
    try clear c7
    try clear c10
    try clear c14
    obtain ⟨kq, x27_11, rfl, HA, HJ11, HO_0, HK, HB⟩ := hcut
    cases kq with
    | zero => exact absurd HA.out (by simp [spec_appendUTF8.j0])
    | succ kj11 =>
     have H := HA.out
     clear HA
     simp only [spec_appendUTF8.j0] at H
     by_cases c16 : x27_11 = true
     ·subst c16
      have H1 : ((some (([239, 191, 189] : List Int) : List Int)).bind fun y297 => (if l0.length + y297.length < 140737488355328 then (some (l0 ++ y297)) else (none))) = some r := by rw [if_pos rfl] at H; exact H
      clear H
      have H := H1
      clear H1
      obtain ⟨y297, hy297⟩ : ∃ y_ : List Int, y_ = (([239, 191, 189] : List Int)) := ⟨_, rfl⟩
      replace H : (if l0.length + y297.length < 140737488355328 then (some (l0 ++ y297)) else (none)) = some r := by first | (rw [hy297]; with_reducible exact H) | (have H2_ := (Option.bind_some _ _).symm.trans H; rw [hy297]; with_reducible exact H2_) | (have H2_ := (Option.bind_some _ _).symm.trans H; with_reducible exact H2_) | with_reducible exact H | (rw [hy297]; exact H) | exact H
      have Ny297 := Aside0.mk hy297
      clear hy297
      by_cases c17 : l0.length + y297.length < 140737488355328
      ·rw [if_pos c17] at H
       have LMc17 := Aside0.mk c17
       clear c17
       obtain ⟨y300, hy300⟩ : ∃ y_ : List Int, y_ = (l0 ++ y297) := ⟨_, rfl⟩
       replace H : (some y300) = some r := by first | (rw [hy300]; with_reducible exact H) | (have H2_ := (Option.bind_some _ _).symm.trans H; rw [hy300]; with_reducible exact H2_) | (have H2_ := (Option.bind_some _ _).symm.trans H; with_reducible exact H2_) | with_reducible exact H | (rw [hy300]; exact H) | exact H
       have Ny300 := Aside0.mk hy300
       clear hy300
       obtain rfl := Option.some.inj H
       go_wp2_with (first | ((with_reducible refine gate_dst (N := 35) rfl ?_); refine Kd.R_lit (Kd.int .u8) _ 5 ?hg (N := 35) ?hd (xs := ([239, 191, 189] : List Int)) (inner := [.int .u8 239, .int .u8 191, .int .u8 189]) (ok := fun _ => True) (okp := fun _ => True) ?hr ?hp (fun _ hk => hk) trivial (Below.refl _ _) (Nat.le_refl _) (by simp) ?_; (case hd => rfl); (case hg => rfl); (case hr => first | (go_simp; done) | (go_simp; rfl)); (case hp => exact (Reps.one (show Kd.M (Kd.int .u8) _ _ _ 239 [.int .u8 239] from rfl) (Reps.one (show Kd.M (Kd.int .u8) _ _ _ 191 [.int .u8 191] from rfl) (Reps.one (show Kd.M (Kd.int .u8) _ _ _ 189 [.int .u8 189] from rfl) (Reps.none _ _))))); intro v298 w18 ho19 hb hg_ hnew_; clear hg_ hnew_; (first | rw [← Ny297.out] at ho19 | (simp only [Int.reduceToNat] at ho19; rw [← Ny297.out] at ho19)); have n0_ := Aside0.mk (Kd.R_elder' (by (with_reducible repeat (first | apply rA | apply rN | apply rD)); exact HO_0.out) (Kd.R_base ho19) hb); have n1_ := Aside0.mk (Kd.R_lower (Kd.R_new' (Kd.R_newM (M := fun k_ => (P0_ k_ ∨ w.heap.size ≤ k_)) ho19 (by first | exact HK.out.1 | exact (show Kept w _ (fun k_ => P0_ k_) from by repeat (first | (with_reducible first | exact HK.out | apply Kept.alloc | apply Kept.drewN | apply Kept.drew) | exact HK.out)).1) (fun k_ h_ => .inr h_)) (Kd.R_lt (by (with_reducible repeat (first | apply rA | apply rN | apply rD)); exact HO_0.out))) (below_size (by repeat (first | (with_reducible first | exact HB.out | apply bA | apply bN | apply bD) | exact HB.out)))); have n2_ := Aside0.mk (Kept.below (S := (fun k_ => P0_ k_)) (by repeat (first | (with_reducible first | exact HK.out | apply Kept.alloc | apply Kept.drewN | apply Kept.drew) | exact HK.out)) hb); have n3_ := Aside0.mk (below_step (by repeat (first | (with_reducible first | exact HB.out | apply bA | apply bN | apply bD) | exact HB.out)) hb); clear HO_0; clear HK; clear HB; have HO_0 := n0_; have HO299 := n1_; have HK := n2_; have HB := n3_; clear n0_ n1_ n2_ n3_; clear hb ho19; obtain ⟨Ao21, co21, eo21⟩ := Kd.R_slice HO299.out; subst eo21) | ((with_reducible refine gate_builtin (b := .append) (xs := #[.tmp 34, .tmp 35]) rfl ?_); at_builtin; refine Kd.R_append_rows (Kd.int .u8) (w0 := w0) w0.heap.size rfl (.tmp 34) (.tmp 35) 103 5 (.int .u8 0) 1 rfl Tryz.underlying103 info5 rfl (by decide) (by omega) u9000_ l0 y297 _ _ _ (fun k_ => (P0_ k_ ∨ w.heap.size ≤ k_) ∧ some k_ ≠ (.slice Ao21 y297.length co21 : Value).ownBlock) (fun _ => False) rfl rfl ?aO ?aR (fun _ _ h => h) (fun _ h => h.elim) ?aF ?aB ?aS ?aL ?_; (case aR => repeat (first | exact (Kd.R_reads' HO299.out).2.2 | (with_reducible refine Kd.C_alloc ?_ _) | (with_reducible refine Kd.C_drewN ?_ _) | (with_reducible refine Kd.C_drew ?_))); (case aB => exact (by repeat (first | (with_reducible first | exact HB.out | apply bA | apply bN | apply bD) | exact HB.out))); (case aF => exact (fun k_ hk => ⟨(.inr (Nat.le_trans (by first | exact HK.out.1 | exact (show Kept w _ (fun k_ => P0_ k_) from by repeat (first | (with_reducible first | exact HK.out | apply Kept.alloc | apply Kept.drewN | apply Kept.drew) | exact HK.out)).1) hk)), Kd.fresh' (Kd.R_lt (by (with_reducible repeat (first | apply rA | apply rN | apply rD)); exact HO299.out)) k_ hk⟩)); (case aO => exact (by (with_reducible repeat (first | apply rA | apply rN | apply rD)); exact HO_0.out)); (case aS => exact (below_size (by repeat (first | (with_reducible first | exact HB.out | apply bA | apply bN | apply bD) | exact HB.out)))); (case aL => have := LMc17.out; omega); intro v301 w20 ho hb hg hat; rw [← Ny300.out] at ho; have n0_ := Aside0.mk (Kd.R_after (ok := (fun k_ => (P0_ k_ ∨ w.heap.size ≤ k_))) (by (with_reducible repeat (first | apply rA | apply rN | apply rD)); exact Kd.R_mono HO299.out (fun _ hk => ⟨hk.1.1, hk.2⟩)) hg hat); have n1_ := Aside0.mk (hb); have n2_ := Aside0.mk (Kept.of_grown (S := (fun k_ => P0_ k_)) hg (by repeat (first | (with_reducible first | exact HK.out | apply Kept.alloc | apply Kept.drewN | apply Kept.drew) | exact HK.out)) (fun k_ e_ => (HO_0.out.1 k_ e_).1)); have n3_ := Aside0.mk (ho); clear HO299; clear HB; clear HK; clear HO_0; have HO299 := n0_; have HB := n1_; have HK := n2_; have HO302 := n3_; clear n0_ n1_ n2_ n3_; clear ho hb hg hat))
       go_ret
       exact ⟨_, by first | rfl | (simp [errW_none, errW_some] <;> rfl) | (simp [*, errW_none, errW_some] <;> rfl), by (with_reducible repeat (first | apply rA | apply rN | apply rD)); exact Kd.R_mono HO302.out (fun _ hk => hk.1), by repeat (first | (with_reducible first | exact HB.out | apply bA | apply bN | apply bD) | exact HB.out), by repeat (first | (with_reducible first | exact HK.out | apply Kept.alloc | apply Kept.drewN | apply Kept.drew) | exact HK.out)⟩
      ·rw [if_neg c17] at H
       exact absurd H (by simp)
     ·replace c16 := Bool.eq_false_iff.mpr c16
      subst c16
      have H1 : (if a1 < 65536 then ((some (([(wrap64 (224 + (wrap64 (Int.tdiv a1 4096)))) % 256, (wrap64 (128 + (Int.tmod (wrap64 (Int.tdiv a1 64)) 64))) % 256, (wrap64 (128 + (Int.tmod a1 64))) % 256] : List Int) : List Int)).bind fun y303 => (if l0.length + y303.length < 140737488355328 then (some (l0 ++ y303)) else (none))) else ((some (([(wrap64 (240 + (wrap64 (Int.tdiv a1 262144)))) % 256, (wrap64 (128 + (Int.tmod (wrap64 (Int.tdiv a1 4096)) 64))) % 256, (wrap64 (128 + (Int.tmod (wrap64 (Int.tdiv a1 64)) 64))) % 256, (wrap64 (128 + (Int.tmod a1 64))) % 256] : List Int) : List Int)).bind fun y309 => (if l0.length + y309.length < 140737488355328 then (some (l0 ++ y309)) else (none)))) = some r := by rw [if_neg (show ¬ (false = true) by decide)] at H; exact H
      clear H
      have H := H1
      clear H1
      by_cases c22 : a1 < 65536
      ·rw [if_pos c22] at H
       have c22b0 : decide (a1 < 65536) = true := decide_eq_true c22
       clear c22
       obtain ⟨y303, hy303⟩ : ∃ y_ : List Int, y_ = (([(wrap64 (224 + (wrap64 (Int.tdiv a1 4096)))) % 256, (wrap64 (128 + (Int.tmod (wrap64 (Int.tdiv a1 64)) 64))) % 256, (wrap64 (128 + (Int.tmod a1 64))) % 256] : List Int)) := ⟨_, rfl⟩
       replace H : (if l0.length + y303.length < 140737488355328 then (some (l0 ++ y303)) else (none)) = some r := by first | (rw [hy303]; with_reducible exact H) | (have H2_ := (Option.bind_some _ _).symm.trans H; rw [hy303]; with_reducible exact H2_) | (have H2_ := (Option.bind_some _ _).symm.trans H; with_reducible exact H2_) | with_reducible exact H | (rw [hy303]; exact H) | exact H
       have Ny303 := Aside0.mk hy303
       clear hy303
       by_cases c23 : l0.length + y303.length < 140737488355328
       ·rw [if_pos c23] at H
        have LMc23 := Aside0.mk c23
        clear c23
        obtain ⟨y306, hy306⟩ : ∃ y_ : List Int, y_ = (l0 ++ y303) := ⟨_, rfl⟩
        replace H : (some y306) = some r := by first | (rw [hy306]; with_reducible exact H) | (have H2_ := (Option.bind_some _ _).symm.trans H; rw [hy306]; with_reducible exact H2_) | (have H2_ := (Option.bind_some _ _).symm.trans H; with_reducible exact H2_) | with_reducible exact H | (rw [hy306]; exact H) | exact H
        have Ny306 := Aside0.mk hy306
        clear hy306
        obtain rfl := Option.some.inj H
        go_wp2_with (first | ((with_reducible refine gate_dst (N := 54) rfl ?_); refine Kd.R_lit (Kd.int .u8) _ 5 ?hg (N := 54) ?hd (xs := ([(wrap64 (224 + (wrap64 (Int.tdiv a1 4096)))) % 256, (wrap64 (128 + (Int.tmod (wrap64 (Int.tdiv a1 64)) 64))) % 256, (wrap64 (128 + (Int.tmod a1 64))) % 256] : List Int)) (inner := [.int .u8 ((wrap64 (224 + (wrap64 (Int.tdiv a1 4096)))) % 256), .int .u8 ((wrap64 (128 + (Int.tmod (wrap64 (Int.tdiv a1 64)) 64))) % 256), .int .u8 ((wrap64 (128 + (Int.tmod a1 64))) % 256)]) (ok := fun _ => True) (okp := fun _ => True) ?hr ?hp (fun _ hk => hk) trivial (Below.refl _ _) (Nat.le_refl _) (by simp) ?_; (case hd => rfl); (case hg => rfl); (case hr => first | (go_simp; done) | (go_simp; rfl)); (case hp => exact (Reps.one (show Kd.M (Kd.int .u8) _ _ _ ((wrap64 (224 + (wrap64 (Int.tdiv a1 4096)))) % 256) [.int .u8 ((wrap64 (224 + (wrap64 (Int.tdiv a1 4096)))) % 256)] from rfl) (Reps.one (show Kd.M (Kd.int .u8) _ _ _ ((wrap64 (128 + (Int.tmod (wrap64 (Int.tdiv a1 64)) 64))) % 256) [.int .u8 ((wrap64 (128 + (Int.tmod (wrap64 (Int.tdiv a1 64)) 64))) % 256)] from rfl) (Reps.one (show Kd.M (Kd.int .u8) _ _ _ ((wrap64 (128 + (Int.tmod a1 64))) % 256) [.int .u8 ((wrap64 (128 + (Int.tmod a1 64))) % 256)] from rfl) (Reps.none _ _))))); intro v304 w24 ho25 hb hg_ hnew_; clear hg_ hnew_; (first | rw [← Ny303.out] at ho25 | (simp only [Int.reduceToNat] at ho25; rw [← Ny303.out] at ho25)); have n0_ := Aside0.mk (Kd.R_elder' (by (with_reducible repeat (first | apply rA | apply rN | apply rD)); exact HO_0.out) (Kd.R_base ho25) hb); have n1_ := Aside0.mk (Kd.R_lower (Kd.R_new' (Kd.R_newM (M := fun k_ => (P0_ k_ ∨ w.heap.size ≤ k_)) ho25 (by first | exact HK.out.1 | exact (show Kept w _ (fun k_ => P0_ k_) from by repeat (first | (with_reducible first | exact HK.out | apply Kept.alloc | apply Kept.drewN | apply Kept.drew) | exact HK.out)).1) (fun k_ h_ => .inr h_)) (Kd.R_lt (by (with_reducible repeat (first | apply rA | apply rN | apply rD)); exact HO_0.out))) (below_size (by repeat (first | (with_reducible first | exact HB.out | apply bA | apply bN | apply bD) | exact HB.out)))); have n2_ := Aside0.mk (Kept.below (S := (fun k_ => P0_ k_)) (by repeat (first | (with_reducible first | exact HK.out | apply Kept.alloc | apply Kept.drewN | apply Kept.drew) | exact HK.out)) hb); have n3_ := Aside0.mk (below_step (by repeat (first | (with_reducible first | exact HB.out | apply bA | apply bN | apply bD) | exact HB.out)) hb); clear HO_0; clear HK; clear HB; have HO_0 := n0_; have HO305 := n1_; have HK := n2_; have HB := n3_; clear n0_ n1_ n2_ n3_; clear hb ho25; obtain ⟨Ao27, co27, eo27⟩ := Kd.R_slice HO305.out; subst eo27) | ((with_reducible refine gate_builtin (b := .append) (xs := #[.tmp 40, .tmp 54]) rfl ?_); at_builtin; refine Kd.R_append_rows (Kd.int .u8) (w0 := w0) w0.heap.size rfl (.tmp 40) (.tmp 54) 103 5 (.int .u8 0) 1 rfl Tryz.underlying103 info5 rfl (by decide) (by omega) u9000_ l0 y303 _ _ _ (fun k_ => (P0_ k_ ∨ w.heap.size ≤ k_) ∧ some k_ ≠ (.slice Ao27 y303.length co27 : Value).ownBlock) (fun _ => False) rfl rfl ?aO ?aR (fun _ _ h => h) (fun _ h => h.elim) ?aF ?aB ?aS ?aL ?_; (case aR => repeat (first | exact (Kd.R_reads' HO305.out).2.2 | (with_reducible refine Kd.C_alloc ?_ _) | (with_reducible refine Kd.C_drewN ?_ _) | (with_reducible refine Kd.C_drew ?_))); (case aB => exact (by repeat (first | (with_reducible first | exact HB.out | apply bA | apply bN | apply bD) | exact HB.out))); (case aF => exact (fun k_ hk => ⟨(.inr (Nat.le_trans (by first | exact HK.out.1 | exact (show Kept w _ (fun k_ => P0_ k_) from by repeat (first | (with_reducible first | exact HK.out | apply Kept.alloc | apply Kept.drewN | apply Kept.drew) | exact HK.out)).1) hk)), Kd.fresh' (Kd.R_lt (by (with_reducible repeat (first | apply rA | apply rN | apply rD)); exact HO305.out)) k_ hk⟩)); (case aO => exact (by (with_reducible repeat (first | apply rA | apply rN | apply rD)); exact HO_0.out)); (case aS => exact (below_size (by repeat (first | (with_reducible first | exact HB.out | apply bA | apply bN | apply bD) | exact HB.out)))); (case aL => have := LMc23.out; omega); intro v307 w26 ho hb hg hat; rw [← Ny306.out] at ho; have n0_ := Aside0.mk (Kd.R_after (ok := (fun k_ => (P0_ k_ ∨ w.heap.size ≤ k_))) (by (with_reducible repeat (first | apply rA | apply rN | apply rD)); exact Kd.R_mono HO305.out (fun _ hk => ⟨hk.1.1, hk.2⟩)) hg hat); have n1_ := Aside0.mk (hb); have n2_ := Aside0.mk (Kept.of_grown (S := (fun k_ => P0_ k_)) hg (by repeat (first | (with_reducible first | exact HK.out | apply Kept.alloc | apply Kept.drewN | apply Kept.drew) | exact HK.out)) (fun k_ e_ => (HO_0.out.1 k_ e_).1)); have n3_ := Aside0.mk (ho); clear HO305; clear HB; clear HK; clear HO_0; have HO305 := n0_; have HB := n1_; have HK := n2_; have HO308 := n3_; clear n0_ n1_ n2_ n3_; clear ho hb hg hat))
        go_ret
        exact ⟨_, by first | rfl | (simp [errW_none, errW_some] <;> rfl) | (simp [*, errW_none, errW_some] <;> rfl), by (with_reducible repeat (first | apply rA | apply rN | apply rD)); exact Kd.R_mono HO308.out (fun _ hk => hk.1), by repeat (first | (with_reducible first | exact HB.out | apply bA | apply bN | apply bD) | exact HB.out), by repeat (first | (with_reducible first | exact HK.out | apply Kept.alloc | apply Kept.drewN | apply Kept.drew) | exact HK.out)⟩
       ·rw [if_neg c23] at H
        exact absurd H (by simp)
      ·rw [if_neg c22] at H
       have c22b0 : decide (a1 < 65536) = false := decide_eq_false c22
       clear c22
       obtain ⟨y309, hy309⟩ : ∃ y_ : List Int, y_ = (([(wrap64 (240 + (wrap64 (Int.tdiv a1 262144)))) % 256, (wrap64 (128 + (Int.tmod (wrap64 (Int.tdiv a1 4096)) 64))) % 256, (wrap64 (128 + (Int.tmod (wrap64 (Int.tdiv a1 64)) 64))) % 256, (wrap64 (128 + (Int.tmod a1 64))) % 256] : List Int)) := ⟨_, rfl⟩
       replace H : (if l0.length + y309.length < 140737488355328 then (some (l0 ++ y309)) else (none)) = some r := by first | (rw [hy309]; with_reducible exact H) | (have H2_ := (Option.bind_some _ _).symm.trans H; rw [hy309]; with_reducible exact H2_) | (have H2_ := (Option.bind_some _ _).symm.trans H; with_reducible exact H2_) | with_reducible exact H | (rw [hy309]; exact H) | exact H
       have Ny309 := Aside0.mk hy309
       clear hy309
       by_cases c28 : l0.length + y309.length < 140737488355328
       ·rw [if_pos c28] at H
        have LMc28 := Aside0.mk c28
        clear c28
        obtain ⟨y312, hy312⟩ : ∃ y_ : List Int, y_ = (l0 ++ y309) := ⟨_, rfl⟩
        replace H : (some y312) = some r := by first | (rw [hy312]; with_reducible exact H) | (have H2_ := (Option.bind_some _ _).symm.trans H; rw [hy312]; with_reducible exact H2_) | (have H2_ := (Option.bind_some _ _).symm.trans H; with_reducible exact H2_) | with_reducible exact H | (rw [hy312]; exact H) | exact H
        have Ny312 := Aside0.mk hy312
        clear hy312
        obtain rfl := Option.some.inj H
        go_wp2_with (first | ((with_reducible refine gate_dst (N := 75) rfl ?_); refine Kd.R_lit (Kd.int .u8) _ 5 ?hg (N := 75) ?hd (xs := ([(wrap64 (240 + (wrap64 (Int.tdiv a1 262144)))) % 256, (wrap64 (128 + (Int.tmod (wrap64 (Int.tdiv a1 4096)) 64))) % 256, (wrap64 (128 + (Int.tmod (wrap64 (Int.tdiv a1 64)) 64))) % 256, (wrap64 (128 + (Int.tmod a1 64))) % 256] : List Int)) (inner := [.int .u8 ((wrap64 (240 + (wrap64 (Int.tdiv a1 262144)))) % 256), .int .u8 ((wrap64 (128 + (Int.tmod (wrap64 (Int.tdiv a1 4096)) 64))) % 256), .int .u8 ((wrap64 (128 + (Int.tmod (wrap64 (Int.tdiv a1 64)) 64))) % 256), .int .u8 ((wrap64 (128 + (Int.tmod a1 64))) % 256)]) (ok := fun _ => True) (okp := fun _ => True) ?hr ?hp (fun _ hk => hk) trivial (Below.refl _ _) (Nat.le_refl _) (by simp) ?_; (case hd => rfl); (case hg => rfl); (case hr => first | (go_simp; done) | (go_simp; rfl)); (case hp => exact (Reps.one (show Kd.M (Kd.int .u8) _ _ _ ((wrap64 (240 + (wrap64 (Int.tdiv a1 262144)))) % 256) [.int .u8 ((wrap64 (240 + (wrap64 (Int.tdiv a1 262144)))) % 256)] from rfl) (Reps.one (show Kd.M (Kd.int .u8) _ _ _ ((wrap64 (128 + (Int.tmod (wrap64 (Int.tdiv a1 4096)) 64))) % 256) [.int .u8 ((wrap64 (128 + (Int.tmod (wrap64 (Int.tdiv a1 4096)) 64))) % 256)] from rfl) (Reps.one (show Kd.M (Kd.int .u8) _ _ _ ((wrap64 (128 + (Int.tmod (wrap64 (Int.tdiv a1 64)) 64))) % 256) [.int .u8 ((wrap64 (128 + (Int.tmod (wrap64 (Int.tdiv a1 64)) 64))) % 256)] from rfl) (Reps.one (show Kd.M (Kd.int .u8) _ _ _ ((wrap64 (128 + (Int.tmod a1 64))) % 256) [.int .u8 ((wrap64 (128 + (Int.tmod a1 64))) % 256)] from rfl) (Reps.none _ _)))))); intro v310 w29 ho30 hb hg_ hnew_; clear hg_ hnew_; (first | rw [← Ny309.out] at ho30 | (simp only [Int.reduceToNat] at ho30; rw [← Ny309.out] at ho30)); have n0_ := Aside0.mk (Kd.R_elder' (by (with_reducible repeat (first | apply rA | apply rN | apply rD)); exact HO_0.out) (Kd.R_base ho30) hb); have n1_ := Aside0.mk (Kd.R_lower (Kd.R_new' (Kd.R_newM (M := fun k_ => (P0_ k_ ∨ w.heap.size ≤ k_)) ho30 (by first | exact HK.out.1 | exact (show Kept w _ (fun k_ => P0_ k_) from by repeat (first | (with_reducible first | exact HK.out | apply Kept.alloc | apply Kept.drewN | apply Kept.drew) | exact HK.out)).1) (fun k_ h_ => .inr h_)) (Kd.R_lt (by (with_reducible repeat (first | apply rA | apply rN | apply rD)); exact HO_0.out))) (below_size (by repeat (first | (with_reducible first | exact HB.out | apply bA | apply bN | apply bD) | exact HB.out)))); have n2_ := Aside0.mk (Kept.below (S := (fun k_ => P0_ k_)) (by repeat (first | (with_reducible first | exact HK.out | apply Kept.alloc | apply Kept.drewN | apply Kept.drew) | exact HK.out)) hb); have n3_ := Aside0.mk (below_step (by repeat (first | (with_reducible first | exact HB.out | apply bA | apply bN | apply bD) | exact HB.out)) hb); clear HO_0; clear HK; clear HB; have HO_0 := n0_; have HO311 := n1_; have HK := n2_; have HB := n3_; clear n0_ n1_ n2_ n3_; clear hb ho30; obtain ⟨Ao32, co32, eo32⟩ := Kd.R_slice HO311.out; subst eo32) | ((with_reducible refine gate_builtin (b := .append) (xs := #[.tmp 56, .tmp 75]) rfl ?_); at_builtin; refine Kd.R_append_rows (Kd.int .u8) (w0 := w0) w0.heap.size rfl (.tmp 56) (.tmp 75) 103 5 (.int .u8 0) 1 rfl Tryz.underlying103 info5 rfl (by decide) (by omega) u9000_ l0 y309 _ _ _ (fun k_ => (P0_ k_ ∨ w.heap.size ≤ k_) ∧ some k_ ≠ (.slice Ao32 y309.length co32 : Value).ownBlock) (fun _ => False) rfl rfl ?aO ?aR (fun _ _ h => h) (fun _ h => h.elim) ?aF ?aB ?aS ?aL ?_; (case aR => repeat (first | exact (Kd.R_reads' HO311.out).2.2 | (with_reducible refine Kd.C_alloc ?_ _) | (with_reducible refine Kd.C_drewN ?_ _) | (with_reducible refine Kd.C_drew ?_))); (case aB => exact (by repeat (first | (with_reducible first | exact HB.out | apply bA | apply bN | apply bD) | exact HB.out))); (case aF => exact (fun k_ hk => ⟨(.inr (Nat.le_trans (by first | exact HK.out.1 | exact (show Kept w _ (fun k_ => P0_ k_) from by repeat (first | (with_reducible first | exact HK.out | apply Kept.alloc | apply Kept.drewN | apply Kept.drew) | exact HK.out)).1) hk)), Kd.fresh' (Kd.R_lt (by (with_reducible repeat (first | apply rA | apply rN | apply rD)); exact HO311.out)) k_ hk⟩)); (case aO => exact (by (with_reducible repeat (first | apply rA | apply rN | apply rD)); exact HO_0.out)); (case aS => exact (below_size (by repeat (first | (with_reducible first | exact HB.out | apply bA | apply bN | apply bD) | exact HB.out)))); (case aL => have := LMc28.out; omega); intro v313 w31 ho hb hg hat; rw [← Ny312.out] at ho; have n0_ := Aside0.mk (Kd.R_after (ok := (fun k_ => (P0_ k_ ∨ w.heap.size ≤ k_))) (by (with_reducible repeat (first | apply rA | apply rN | apply rD)); exact Kd.R_mono HO311.out (fun _ hk => ⟨hk.1.1, hk.2⟩)) hg hat); have n1_ := Aside0.mk (hb); have n2_ := Aside0.mk (Kept.of_grown (S := (fun k_ => P0_ k_)) hg (by repeat (first | (with_reducible first | exact HK.out | apply Kept.alloc | apply Kept.drewN | apply Kept.drew) | exact HK.out)) (fun k_ e_ => (HO_0.out.1 k_ e_).1)); have n3_ := Aside0.mk (ho); clear HO311; clear HB; clear HK; clear HO_0; have HO311 := n0_; have HB := n1_; have HK := n2_; have HO314 := n3_; clear n0_ n1_ n2_ n3_; clear ho hb hg hat))
        go_ret
        exact ⟨_, by first | rfl | (simp [errW_none, errW_some] <;> rfl) | (simp [*, errW_none, errW_some] <;> rfl), by (with_reducible repeat (first | apply rA | apply rN | apply rD)); exact Kd.R_mono HO314.out (fun _ hk => hk.1), by repeat (first | (with_reducible first | exact HB.out | apply bA | apply bN | apply bD) | exact HB.out), by repeat (first | (with_reducible first | exact HK.out | apply Kept.alloc | apply Kept.drewN | apply Kept.drew) | exact HK.out)⟩
       ·rw [if_neg c28] at H
        exact absurd H (by simp)
def spec_Unquote.l0 : Nat → List Int → ByteArray → Int → Option (ByteArray)
 | 0, _, _, _ => none
 | k + 1, x3, x4, x5 => if x5 < (x4.size : Int) then (if 0 ≤ x5 then (if (bt x4 x5) = 92 then ((spec_unit.f k x4 x5).bind fun bt318 => (if bt318.2 = true then ((spec_unit.f k x4 (wrap64 (x5 + 6))).bind fun bt324 => (if bt324.2 = true then ((spec_high.f bt318.1).bind fun t326 => (if t326 = true then ((spec_low.f bt324.1).bind fun t327 => (if t327 = true then ((spec_appendUTF8.f k x3 (wrap64 ((wrap64 (65536 + (wrap64 ((wrap64 (bt318.1 - 55296)) * 1024)))) + (wrap64 (bt324.1 - 56320))))).bind fun t328 => (spec_Unquote.l0 k t328 x4 (wrap64 ((wrap64 (x5 + 6)) + 6)))) else ((spec_appendUTF8.f k x3 bt318.1).bind fun t331 => (spec_Unquote.l0 k t331 x4 (wrap64 (x5 + 6)))))) else ((spec_appendUTF8.f k x3 bt318.1).bind fun t334 => (spec_Unquote.l0 k t334 x4 (wrap64 (x5 + 6)))))) else ((spec_appendUTF8.f k x3 bt318.1).bind fun t337 => (spec_Unquote.l0 k t337 x4 (wrap64 (x5 + 6)))))) else (if 0 ≤ (wrap64 (x5 + 1)) then (if (wrap64 (x5 + 1)) < (x4.size : Int) then ((spec_short.f (bt x4 (wrap64 (x5 + 1)))).bind fun t320 => (if x3.length < 140737488355328 then (spec_Unquote.l0 k (x3 ++ [t320]) x4 (wrap64 (x5 + 2))) else (none))) else (none)) else (none)))) else (if x3.length < 140737488355328 then (spec_Unquote.l0 k (x3 ++ [bt x4 x5]) x4 (wrap64 (x5 + 1))) else (none))) else (none)) else (some (strOfNums x3))
def spec_Unquote.f (k : Nat) (a0 : ByteArray) : Option (ByteArray) := if 1 ≤ (wrap64 ((a0.size : Int) - 1)) then (if (wrap64 ((a0.size : Int) - 1)) ≤ (a0.size : Int) then (spec_Unquote.l0 k ([] : List Int) (a0.extract 1 ((wrap64 ((a0.size : Int) - 1)) : Int).toNat) 0) else (none)) else (none)
theorem spec_Unquote.calls (k : Nat) (a0 : ByteArray) (r : ByteArray) (w : World) (h : spec_Unquote.f k a0 = some r) :
  Calls Tryz.prog 74 #[.string a0] w fun e w' => e = .returned (.string r) ∧ Below w.heap.size w w' := by
 have HB := Aside0.mk (Below.refl w.heap.size w)
 have H : (if 1 ≤ (wrap64 ((a0.size : Int) - 1)) then (if (wrap64 ((a0.size : Int) - 1)) ≤ (a0.size : Int) then (spec_Unquote.l0 k ([] : List Int) (a0.extract 1 ((wrap64 ((a0.size : Int) - 1)) : Int).toNat) 0) else (none)) else (none)) = some r := h
 clear h
 by_cases c2 : 1 ≤ (wrap64 ((a0.size : Int) - 1))
 ·rw [if_pos c2] at H
  have c2b0 := eq_true c2
  have c2b1 : decide (1 ≤ (wrap64 ((a0.size : Int) - 1))) = true := decide_eq_true c2
  clear c2
  by_cases c3 : (wrap64 ((a0.size : Int) - 1)) ≤ (a0.size : Int)
  ·rw [if_pos c3] at H
   have c3b0 := eq_true c3
   have c3b1 : decide ((wrap64 ((a0.size : Int) - 1)) ≤ (a0.size : Int)) = true := decide_eq_true c3
   clear c3
   have H' := Aside0.mk H
   clear H
   go_enter Tryz.func74, Tryz.ntmps74
   go_wp2
   generalize a0.extract 1 (wrap64 ((a0.size : Int) - 1)).toNat = t4 at *
   go_loopg [3, 5] k (fun kq v3 v5 w' => ∃ (x3_1 : List Int) (x5_1 : Int), v5 = .int .i64 x5_1 ∧ Aside0 (spec_Unquote.l0 kq x3_1 t4 x5_1 = some r) ∧ Aside0 (kq ≤ k) ∧ Aside0 (Kd.R (Kd.int .u8) 5 w' w.heap.size (fun _ => True) v3 x3_1) ∧ Aside0 (Below w.heap.size w w'))
   case atStart => exact ⟨(([] : List Int)), (0), (by first | rfl | (simp; done) | (simp [*]; done)), H', ⟨Nat.le_refl _⟩, ⟨by first | exact Kd.R_nil _ _ _ _ _ | exact Kd.N_nil _ _ _ _ _ | exact Kd.V_nil _ _ _ _ _ | exact Kd.Q_nil _ _ _ _ _ | exact Kd.S_nil _ _ _ _ _⟩, ⟨by repeat (first | (with_reducible first | exact HB.out | apply bA | apply bN | apply bD) | exact HB.out)⟩⟩
   case round =>
    clear H'
    try clear c2
    try clear c2b0
    try clear c2b1
    try clear p2
    try clear c3
    try clear c3b0
    try clear c3b1
    obtain ⟨x3_1, x5_1, rfl, HA, HK1, HO_3, HB⟩ := hrel
    cases gk with
    | zero => exact absurd HA.out (by simp [spec_Unquote.l0])
    | succ k1 =>
     have H := HA.out
     clear HA
     simp only [spec_Unquote.l0] at H
     by_cases c4 : x5_1 < (t4.size : Int)
     ·rw [if_pos c4] at H
      have c4b0 : decide (x5_1 < (t4.size : Int)) = true := decide_eq_true c4
      clear c4
      by_cases c5 : 0 ≤ x5_1
      ·rw [if_pos c5] at H
       have c5b0 : decide (0 ≤ x5_1) = true := decide_eq_true c5
       clear c5
       by_cases c7 : (bt t4 x5_1) = 92
       ·rw [if_pos c7] at H
        have c7b0 : ((bt t4 x5_1) == 92) = true := beq_iff_eq.mpr c7
        have c7b1 : ((bt t4 x5_1) != 92) = false := bne_eq_false_iff_eq.mpr c7
        clear c7
        replace H := Option.bind_eq_some_iff.mp H
        obtain ⟨⟨t318, t319⟩, A80, H⟩ := H
        try dsimp only at H
        have A8 := Aside0.mk A80
        clear A80
        by_cases c9 : t319 = true
        ·subst c9
         have H1 : ((spec_unit.f k1 t4 (wrap64 (x5_1 + 6))).bind fun bt324 => (if bt324.2 = true then ((spec_high.f t318).bind fun t326 => (if t326 = true then ((spec_low.f bt324.1).bind fun t327 => (if t327 = true then ((spec_appendUTF8.f k1 x3_1 (wrap64 ((wrap64 (65536 + (wrap64 ((wrap64 (t318 - 55296)) * 1024)))) + (wrap64 (bt324.1 - 56320))))).bind fun t328 => (spec_Unquote.l0 k1 t328 t4 (wrap64 ((wrap64 (x5_1 + 6)) + 6)))) else ((spec_appendUTF8.f k1 x3_1 t318).bind fun t331 => (spec_Unquote.l0 k1 t331 t4 (wrap64 (x5_1 + 6)))))) else ((spec_appendUTF8.f k1 x3_1 t318).bind fun t334 => (spec_Unquote.l0 k1 t334 t4 (wrap64 (x5_1 + 6)))))) else ((spec_appendUTF8.f k1 x3_1 t318).bind fun t337 => (spec_Unquote.l0 k1 t337 t4 (wrap64 (x5_1 + 6)))))) = some r := by rw [if_pos rfl] at H; exact H
         clear H
         have H := H1
         clear H1
         replace H := Option.bind_eq_some_iff.mp H
         obtain ⟨⟨t324, t325⟩, A100, H⟩ := H
         try dsimp only at H
         have A10 := Aside0.mk A100
         clear A100
         by_cases c11 : t325 = true
         ·subst c11
          have H1 : ((spec_high.f t318).bind fun t326 => (if t326 = true then ((spec_low.f t324).bind fun t327 => (if t327 = true then ((spec_appendUTF8.f k1 x3_1 (wrap64 ((wrap64 (65536 + (wrap64 ((wrap64 (t318 - 55296)) * 1024)))) + (wrap64 (t324 - 56320))))).bind fun t328 => (spec_Unquote.l0 k1 t328 t4 (wrap64 ((wrap64 (x5_1 + 6)) + 6)))) else ((spec_appendUTF8.f k1 x3_1 t318).bind fun t331 => (spec_Unquote.l0 k1 t331 t4 (wrap64 (x5_1 + 6)))))) else ((spec_appendUTF8.f k1 x3_1 t318).bind fun t334 => (spec_Unquote.l0 k1 t334 t4 (wrap64 (x5_1 + 6)))))) = some r := by rw [if_pos rfl] at H; exact H
          clear H
          have H := H1
          clear H1
          replace H := Option.bind_eq_some_iff.mp H
          obtain ⟨t326, A120, H⟩ := H
          try dsimp only at H
          have A12 := Aside0.mk A120
          clear A120
          by_cases c13 : t326 = true
          ·subst c13
           have H1 : ((spec_low.f t324).bind fun t327 => (if t327 = true then ((spec_appendUTF8.f k1 x3_1 (wrap64 ((wrap64 (65536 + (wrap64 ((wrap64 (t318 - 55296)) * 1024)))) + (wrap64 (t324 - 56320))))).bind fun t328 => (spec_Unquote.l0 k1 t328 t4 (wrap64 ((wrap64 (x5_1 + 6)) + 6)))) else ((spec_appendUTF8.f k1 x3_1 t318).bind fun t331 => (spec_Unquote.l0 k1 t331 t4 (wrap64 (x5_1 + 6)))))) = some r := by rw [if_pos rfl] at H; exact H
           clear H
           have H := H1
           clear H1
           replace H := Option.bind_eq_some_iff.mp H
           obtain ⟨t327, A140, H⟩ := H
           try dsimp only at H
           have A14 := Aside0.mk A140
           clear A140
           by_cases c15 : t327 = true
           ·subst c15
            have H1 : ((spec_appendUTF8.f k1 x3_1 (wrap64 ((wrap64 (65536 + (wrap64 ((wrap64 (t318 - 55296)) * 1024)))) + (wrap64 (t324 - 56320))))).bind fun t328 => (spec_Unquote.l0 k1 t328 t4 (wrap64 ((wrap64 (x5_1 + 6)) + 6)))) = some r := by rw [if_pos rfl] at H; exact H
            clear H
            have H := H1
            clear H1
            replace H := Option.bind_eq_some_iff.mp H
            obtain ⟨t328, A160, H⟩ := H
            try dsimp only at H
            have A16 := Aside0.mk A160
            clear A160
            have H' := Aside0.mk H
            clear H
            have p6 : 0 ≤ (x5_1 : Int) := of_decide_eq_true (by first | (with_reducible assumption) | assumption)
            have q6 : x5_1 < (t4.size : Int) := of_decide_eq_true (by first | (with_reducible assumption) | assumption)
            have hx6 := bt_at t4 x5_1
            replace p6 := eq_true p6
            replace q6 := eq_true q6
            go_wp2_with (first | ((with_reducible refine gate_callee (f := 59) rfl ?_); refine goesL_ (some 34) rfl rfl Tryz.func59 (by kernel_rfl) rfl #[.string t4, .int .i64 x5_1] rfl (by (try simp only [List.map_toArray, List.map_cons, List.map_nil]); first | done | rfl | (simp only [List.length_drop, List.length_take]; rfl)) ?_; (with_reducible refine (spec_unit.calls k1 t4 x5_1 t318 true _ A8.out).mono ?_); rintro e w' ⟨rfl, ⟨nd, rfl⟩⟩; refine ⟨_, rfl, ?_⟩) | ((with_reducible refine gate_callee (f := 59) rfl ?_); refine goesL_ (some 54) rfl rfl Tryz.func59 (by kernel_rfl) rfl #[.string t4, .int .i64 (wrap64 (x5_1 + 6))] rfl (by (try simp only [List.map_toArray, List.map_cons, List.map_nil]); first | done | rfl | (simp only [List.length_drop, List.length_take]; rfl)) ?_; (with_reducible refine (spec_unit.calls k1 t4 (wrap64 (x5_1 + 6)) t324 true _ A10.out).mono ?_); rintro e w' ⟨rfl, ⟨nd, rfl⟩⟩; refine ⟨_, rfl, ?_⟩) | (go_at_call 60; (with_reducible refine (spec_high.calls t318 true _ A12.out).mono ?_); rintro e w' ⟨rfl, ⟨nd, rfl⟩⟩) | (go_at_call 61; (with_reducible refine (spec_low.calls t324 true _ A14.out).mono ?_); rintro e w' ⟨rfl, ⟨nd, rfl⟩⟩; obtain ⟨Ao17, co17, eo17⟩ := Kd.R_slice HO_3.out; subst eo17) | ((with_reducible refine gate_callee (f := 106) rfl ?_); refine goesL_ (some 77) rfl rfl Tryz.func106 (by kernel_rfl) rfl #[.slice Ao17 x3_1.length co17, .int .i64 (wrap64 ((wrap64 (65536 + (wrap64 ((wrap64 (t318 - 55296)) * 1024)))) + (wrap64 (t324 - 56320))))] rfl (by (try simp only [List.map_toArray, List.map_cons, List.map_nil]); first | done | rfl | (simp only [List.length_drop, List.length_take]; rfl)) ?_; (with_reducible refine (spec_appendUTF8.calls k1 (fun k_ => some k_ = (.slice Ao17 x3_1.length co17 : Value).ownBlock) (.slice Ao17 x3_1.length co17) x3_1 (wrap64 ((wrap64 (65536 + (wrap64 ((wrap64 (t318 - 55296)) * 1024)))) + (wrap64 (t324 - 56320)))) t328 w _ ?side1 ?side2 A16.out).mono ?_); (case side1 => repeat (first | (with_reducible first | exact HB.out | apply bA | apply bN | apply bD) | exact HB.out)); (case side2 => exact Kd.R_tight rfl HO_3.out); rintro e w18 ⟨v329, rfl, ho0, hb, hkp⟩; refine ⟨_, rfl, ?_⟩; have n0_ := Aside0.mk (Kd.R_mono (ok' := fun k_ => True) ho0 (fun k_ hk_ => trivial)); have n1_ := Aside0.mk (hb); clear HB; clear HO_3; have HO330 := n0_; have HB := n1_; clear n0_ n1_; (try clear hb); (try clear hkp); (try clear ho0)))
            go_roundg k1
            case measure => have := HK1.out; omega
            case rel => exact ⟨(t328), (wrap64 ((wrap64 (x5_1 + 6)) + 6)), (by first | rfl | (simp; done) | (simp [*]; done)), H', ⟨by have := HK1.out; omega⟩, ⟨by (with_reducible repeat (first | apply rA | apply rN | apply rD)); exact HO330.out⟩, ⟨by repeat (first | (with_reducible first | exact HB.out | apply bA | apply bN | apply bD) | exact HB.out)⟩⟩
           ·replace c15 := Bool.eq_false_iff.mpr c15
            subst c15
            have H1 : ((spec_appendUTF8.f k1 x3_1 t318).bind fun t331 => (spec_Unquote.l0 k1 t331 t4 (wrap64 (x5_1 + 6)))) = some r := by rw [if_neg (show ¬ (false = true) by decide)] at H; exact H
            clear H
            have H := H1
            clear H1
            replace H := Option.bind_eq_some_iff.mp H
            obtain ⟨t331, A190, H⟩ := H
            try dsimp only at H
            have A19 := Aside0.mk A190
            clear A190
            have H' := Aside0.mk H
            clear H
            have p6 : 0 ≤ (x5_1 : Int) := of_decide_eq_true (by first | (with_reducible assumption) | assumption)
            have q6 : x5_1 < (t4.size : Int) := of_decide_eq_true (by first | (with_reducible assumption) | assumption)
            have hx6 := bt_at t4 x5_1
            replace p6 := eq_true p6
            replace q6 := eq_true q6
            go_wp2_with (first | ((with_reducible refine gate_callee (f := 59) rfl ?_); refine goesL_ (some 34) rfl rfl Tryz.func59 (by kernel_rfl) rfl #[.string t4, .int .i64 x5_1] rfl (by (try simp only [List.map_toArray, List.map_cons, List.map_nil]); first | done | rfl | (simp only [List.length_drop, List.length_take]; rfl)) ?_; (with_reducible refine (spec_unit.calls k1 t4 x5_1 t318 true _ A8.out).mono ?_); rintro e w' ⟨rfl, ⟨nd, rfl⟩⟩; refine ⟨_, rfl, ?_⟩) | ((with_reducible refine gate_callee (f := 59) rfl ?_); refine goesL_ (some 54) rfl rfl Tryz.func59 (by kernel_rfl) rfl #[.string t4, .int .i64 (wrap64 (x5_1 + 6))] rfl (by (try simp only [List.map_toArray, List.map_cons, List.map_nil]); first | done | rfl | (simp only [List.length_drop, List.length_take]; rfl)) ?_; (with_reducible refine (spec_unit.calls k1 t4 (wrap64 (x5_1 + 6)) t324 true _ A10.out).mono ?_); rintro e w' ⟨rfl, ⟨nd, rfl⟩⟩; refine ⟨_, rfl, ?_⟩) | (go_at_call 60; (with_reducible refine (spec_high.calls t318 true _ A12.out).mono ?_); rintro e w' ⟨rfl, ⟨nd, rfl⟩⟩) | (go_at_call 61; (with_reducible refine (spec_low.calls t324 false _ A14.out).mono ?_); rintro e w' ⟨rfl, ⟨nd, rfl⟩⟩; obtain ⟨Ao20, co20, eo20⟩ := Kd.R_slice HO_3.out; subst eo20) | ((with_reducible refine gate_callee (f := 106) rfl ?_); refine goesL_ (some 77) rfl rfl Tryz.func106 (by kernel_rfl) rfl #[.slice Ao20 x3_1.length co20, .int .i64 t318] rfl (by (try simp only [List.map_toArray, List.map_cons, List.map_nil]); first | done | rfl | (simp only [List.length_drop, List.length_take]; rfl)) ?_; (with_reducible refine (spec_appendUTF8.calls k1 (fun k_ => some k_ = (.slice Ao20 x3_1.length co20 : Value).ownBlock) (.slice Ao20 x3_1.length co20) x3_1 t318 t331 w _ ?side1 ?side2 A19.out).mono ?_); (case side1 => repeat (first | (with_reducible first | exact HB.out | apply bA | apply bN | apply bD) | exact HB.out)); (case side2 => exact Kd.R_tight rfl HO_3.out); rintro e w21 ⟨v332, rfl, ho0, hb, hkp⟩; refine ⟨_, rfl, ?_⟩; have n0_ := Aside0.mk (Kd.R_mono (ok' := fun k_ => True) ho0 (fun k_ hk_ => trivial)); have n1_ := Aside0.mk (hb); clear HB; clear HO_3; have HO333 := n0_; have HB := n1_; clear n0_ n1_; (try clear hb); (try clear hkp); (try clear ho0)))
            go_roundg k1
            case measure => have := HK1.out; omega
            case rel => exact ⟨(t331), (wrap64 (x5_1 + 6)), (by first | rfl | (simp; done) | (simp [*]; done)), H', ⟨by have := HK1.out; omega⟩, ⟨by (with_reducible repeat (first | apply rA | apply rN | apply rD)); exact HO333.out⟩, ⟨by repeat (first | (with_reducible first | exact HB.out | apply bA | apply bN | apply bD) | exact HB.out)⟩⟩
          ·replace c13 := Bool.eq_false_iff.mpr c13
           subst c13
           have H1 : ((spec_appendUTF8.f k1 x3_1 t318).bind fun t334 => (spec_Unquote.l0 k1 t334 t4 (wrap64 (x5_1 + 6)))) = some r := by rw [if_neg (show ¬ (false = true) by decide)] at H; exact H
           clear H
           have H := H1
           clear H1
           replace H := Option.bind_eq_some_iff.mp H
           obtain ⟨t334, A220, H⟩ := H
           try dsimp only at H
           have A22 := Aside0.mk A220
           clear A220
           have H' := Aside0.mk H
           clear H
           have p6 : 0 ≤ (x5_1 : Int) := of_decide_eq_true (by first | (with_reducible assumption) | assumption)
           have q6 : x5_1 < (t4.size : Int) := of_decide_eq_true (by first | (with_reducible assumption) | assumption)
           have hx6 := bt_at t4 x5_1
           replace p6 := eq_true p6
           replace q6 := eq_true q6
           go_wp2_with (first | ((with_reducible refine gate_callee (f := 59) rfl ?_); refine goesL_ (some 34) rfl rfl Tryz.func59 (by kernel_rfl) rfl #[.string t4, .int .i64 x5_1] rfl (by (try simp only [List.map_toArray, List.map_cons, List.map_nil]); first | done | rfl | (simp only [List.length_drop, List.length_take]; rfl)) ?_; (with_reducible refine (spec_unit.calls k1 t4 x5_1 t318 true _ A8.out).mono ?_); rintro e w' ⟨rfl, ⟨nd, rfl⟩⟩; refine ⟨_, rfl, ?_⟩) | ((with_reducible refine gate_callee (f := 59) rfl ?_); refine goesL_ (some 54) rfl rfl Tryz.func59 (by kernel_rfl) rfl #[.string t4, .int .i64 (wrap64 (x5_1 + 6))] rfl (by (try simp only [List.map_toArray, List.map_cons, List.map_nil]); first | done | rfl | (simp only [List.length_drop, List.length_take]; rfl)) ?_; (with_reducible refine (spec_unit.calls k1 t4 (wrap64 (x5_1 + 6)) t324 true _ A10.out).mono ?_); rintro e w' ⟨rfl, ⟨nd, rfl⟩⟩; refine ⟨_, rfl, ?_⟩) | (go_at_call 60; (with_reducible refine (spec_high.calls t318 false _ A12.out).mono ?_); rintro e w' ⟨rfl, ⟨nd, rfl⟩⟩; obtain ⟨Ao23, co23, eo23⟩ := Kd.R_slice HO_3.out; subst eo23) | ((with_reducible refine gate_callee (f := 106) rfl ?_); refine goesL_ (some 77) rfl rfl Tryz.func106 (by kernel_rfl) rfl #[.slice Ao23 x3_1.length co23, .int .i64 t318] rfl (by (try simp only [List.map_toArray, List.map_cons, List.map_nil]); first | done | rfl | (simp only [List.length_drop, List.length_take]; rfl)) ?_; (with_reducible refine (spec_appendUTF8.calls k1 (fun k_ => some k_ = (.slice Ao23 x3_1.length co23 : Value).ownBlock) (.slice Ao23 x3_1.length co23) x3_1 t318 t334 w _ ?side1 ?side2 A22.out).mono ?_); (case side1 => repeat (first | (with_reducible first | exact HB.out | apply bA | apply bN | apply bD) | exact HB.out)); (case side2 => exact Kd.R_tight rfl HO_3.out); rintro e w24 ⟨v335, rfl, ho0, hb, hkp⟩; refine ⟨_, rfl, ?_⟩; have n0_ := Aside0.mk (Kd.R_mono (ok' := fun k_ => True) ho0 (fun k_ hk_ => trivial)); have n1_ := Aside0.mk (hb); clear HB; clear HO_3; have HO336 := n0_; have HB := n1_; clear n0_ n1_; (try clear hb); (try clear hkp); (try clear ho0)))
           go_roundg k1
           case measure => have := HK1.out; omega
           case rel => exact ⟨(t334), (wrap64 (x5_1 + 6)), (by first | rfl | (simp; done) | (simp [*]; done)), H', ⟨by have := HK1.out; omega⟩, ⟨by (with_reducible repeat (first | apply rA | apply rN | apply rD)); exact HO336.out⟩, ⟨by repeat (first | (with_reducible first | exact HB.out | apply bA | apply bN | apply bD) | exact HB.out)⟩⟩
         ·replace c11 := Bool.eq_false_iff.mpr c11
          subst c11
          have H1 : ((spec_appendUTF8.f k1 x3_1 t318).bind fun t337 => (spec_Unquote.l0 k1 t337 t4 (wrap64 (x5_1 + 6)))) = some r := by rw [if_neg (show ¬ (false = true) by decide)] at H; exact H
          clear H
          have H := H1
          clear H1
          replace H := Option.bind_eq_some_iff.mp H
          obtain ⟨t337, A250, H⟩ := H
          try dsimp only at H
          have A25 := Aside0.mk A250
          clear A250
          have H' := Aside0.mk H
          clear H
          have p6 : 0 ≤ (x5_1 : Int) := of_decide_eq_true (by first | (with_reducible assumption) | assumption)
          have q6 : x5_1 < (t4.size : Int) := of_decide_eq_true (by first | (with_reducible assumption) | assumption)
          have hx6 := bt_at t4 x5_1
          replace p6 := eq_true p6
          replace q6 := eq_true q6
          go_wp2_with (first | ((with_reducible refine gate_callee (f := 59) rfl ?_); refine goesL_ (some 34) rfl rfl Tryz.func59 (by kernel_rfl) rfl #[.string t4, .int .i64 x5_1] rfl (by (try simp only [List.map_toArray, List.map_cons, List.map_nil]); first | done | rfl | (simp only [List.length_drop, List.length_take]; rfl)) ?_; (with_reducible refine (spec_unit.calls k1 t4 x5_1 t318 true _ A8.out).mono ?_); rintro e w' ⟨rfl, ⟨nd, rfl⟩⟩; refine ⟨_, rfl, ?_⟩) | ((with_reducible refine gate_callee (f := 59) rfl ?_); refine goesL_ (some 54) rfl rfl Tryz.func59 (by kernel_rfl) rfl #[.string t4, .int .i64 (wrap64 (x5_1 + 6))] rfl (by (try simp only [List.map_toArray, List.map_cons, List.map_nil]); first | done | rfl | (simp only [List.length_drop, List.length_take]; rfl)) ?_; (with_reducible refine (spec_unit.calls k1 t4 (wrap64 (x5_1 + 6)) t324 false _ A10.out).mono ?_); rintro e w' ⟨rfl, ⟨nd, rfl⟩⟩; refine ⟨_, rfl, ?_⟩; obtain ⟨Ao26, co26, eo26⟩ := Kd.R_slice HO_3.out; subst eo26) | ((with_reducible refine gate_callee (f := 106) rfl ?_); refine goesL_ (some 77) rfl rfl Tryz.func106 (by kernel_rfl) rfl #[.slice Ao26 x3_1.length co26, .int .i64 t318] rfl (by (try simp only [List.map_toArray, List.map_cons, List.map_nil]); first | done | rfl | (simp only [List.length_drop, List.length_take]; rfl)) ?_; (with_reducible refine (spec_appendUTF8.calls k1 (fun k_ => some k_ = (.slice Ao26 x3_1.length co26 : Value).ownBlock) (.slice Ao26 x3_1.length co26) x3_1 t318 t337 w _ ?side1 ?side2 A25.out).mono ?_); (case side1 => repeat (first | (with_reducible first | exact HB.out | apply bA | apply bN | apply bD) | exact HB.out)); (case side2 => exact Kd.R_tight rfl HO_3.out); rintro e w27 ⟨v338, rfl, ho0, hb, hkp⟩; refine ⟨_, rfl, ?_⟩; have n0_ := Aside0.mk (Kd.R_mono (ok' := fun k_ => True) ho0 (fun k_ hk_ => trivial)); have n1_ := Aside0.mk (hb); clear HB; clear HO_3; have HO339 := n0_; have HB := n1_; clear n0_ n1_; (try clear hb); (try clear hkp); (try clear ho0)))
          go_roundg k1
          case measure => have := HK1.out; omega
          case rel => exact ⟨(t337), (wrap64 (x5_1 + 6)), (by first | rfl | (simp; done) | (simp [*]; done)), H', ⟨by have := HK1.out; omega⟩, ⟨by (with_reducible repeat (first | apply rA | apply rN | apply rD)); exact HO339.out⟩, ⟨by repeat (first | (with_reducible first | exact HB.out | apply bA | apply bN | apply bD) | exact HB.out)⟩⟩
        ·replace c9 := Bool.eq_false_iff.mpr c9
         subst c9
         have H1 : (if 0 ≤ (wrap64 (x5_1 + 1)) then (if (wrap64 (x5_1 + 1)) < (t4.size : Int) then ((spec_short.f (bt t4 (wrap64 (x5_1 + 1)))).bind fun t320 => (if x3_1.length < 140737488355328 then (spec_Unquote.l0 k1 (x3_1 ++ [t320]) t4 (wrap64 (x5_1 + 2))) else (none))) else (none)) else (none)) = some r := by rw [if_neg (show ¬ (false = true) by decide)] at H; exact H
         clear H
         have H := H1
         clear H1
         obtain ⟨ji28, hji28⟩ : ∃ j_ : Int, (wrap64 (x5_1 + 1)) = j_ := ⟨_, rfl⟩
         replace H : (if 0 ≤ (ji28) then (if (ji28) < (t4.size : Int) then ((spec_short.f (bt t4 (ji28))).bind fun t320 => (if x3_1.length < 140737488355328 then (spec_Unquote.l0 k1 (x3_1 ++ [t320]) t4 (wrap64 (x5_1 + 2))) else (none))) else (none)) else (none)) = some r := by first | (rw [hji28] at H; exact H) | (simp only [hji28] at H ⊢; exact H)
         (try rw [hji28] at A8)
         have hji28w : (IntKind.i64.wrap (x5_1 + 1)) = ji28 := (i64_w _).trans hji28
         by_cases c29 : 0 ≤ (ji28)
         ·rw [if_pos c29] at H
          have c29b0 : decide (0 ≤ (ji28)) = true := decide_eq_true c29
          clear c29
          by_cases c30 : (ji28) < (t4.size : Int)
          ·rw [if_pos c30] at H
           have c30b0 : decide ((ji28) < (t4.size : Int)) = true := decide_eq_true c30
           clear c30
           replace H := Option.bind_eq_some_iff.mp H
           obtain ⟨t320, A320, H⟩ := H
           try dsimp only at H
           have A32 := Aside0.mk A320
           clear A320
           by_cases c33 : x3_1.length < 140737488355328
           ·rw [if_pos c33] at H
            have LMc33 := Aside0.mk c33
            clear c33
            obtain ⟨y321, hy321⟩ : ∃ y_ : List Int, y_ = (x3_1 ++ [t320]) := ⟨_, rfl⟩
            replace H : (spec_Unquote.l0 k1 y321 t4 (wrap64 (x5_1 + 2))) = some r := by first | (rw [hy321]; with_reducible exact H) | (have H2_ := (Option.bind_some _ _).symm.trans H; rw [hy321]; with_reducible exact H2_) | (have H2_ := (Option.bind_some _ _).symm.trans H; with_reducible exact H2_) | with_reducible exact H | (rw [hy321]; exact H) | exact H
            have Ny321 := Aside0.mk hy321
            clear hy321
            have H' := Aside0.mk H
            clear H
            have p6 : 0 ≤ (x5_1 : Int) := of_decide_eq_true (by first | (with_reducible assumption) | assumption)
            have q6 : x5_1 < (t4.size : Int) := of_decide_eq_true (by first | (with_reducible assumption) | assumption)
            have hx6 := bt_at t4 x5_1
            replace p6 := eq_true p6
            replace q6 := eq_true q6
            go_wp2_with (first | ((with_reducible refine gate_callee (f := 59) rfl ?_); refine goesL_ (some 34) rfl rfl Tryz.func59 (by kernel_rfl) rfl #[.string t4, .int .i64 x5_1] rfl (by (try simp only [List.map_toArray, List.map_cons, List.map_nil]); first | done | rfl | (simp only [List.length_drop, List.length_take]; rfl)) ?_; (with_reducible refine (spec_unit.calls k1 t4 x5_1 t318 false _ A8.out).mono ?_); rintro e w' ⟨rfl, ⟨nd, rfl⟩⟩; refine ⟨_, rfl, ?_⟩; have p31 : 0 ≤ ((ji28) : Int) := of_decide_eq_true (by first | (with_reducible assumption) | assumption); have q31 : (ji28) < (t4.size : Int) := of_decide_eq_true (by first | (with_reducible assumption) | assumption); have hx31 := bt_at t4 (ji28); replace p31 := eq_true p31; replace q31 := eq_true q31) | ((with_reducible refine gate_callee (f := 105) rfl ?_); refine goesL_ (some 44) rfl rfl Tryz.func105 (by kernel_rfl) rfl #[.int .u8 (bt t4 (ji28))] rfl (by (try simp only [List.map_toArray, List.map_cons, List.map_nil]); first | done | (simp only [hji28]; rfl) | rfl | (simp only [List.length_drop, List.length_take]; rfl)) ?_; (with_reducible refine (spec_short.calls (bt t4 (ji28)) t320 _ A32.out).mono ?_); rintro e w' ⟨rfl, ⟨nd, rfl⟩⟩; refine ⟨_, rfl, ?_⟩) | ((with_reducible refine gate_builtin (b := .append) (xs := #[.tmp 39, .tmp 45]) rfl ?_); at_builtin; refine Kd.R_append (Kd.int .u8) (w0 := w) w.heap.size rfl (.tmp 39) (.tmp 45) 103 5 (.int .u8 0) 1 rfl Tryz.underlying103 info5 rfl (by decide) (by omega) u3 x3_1 t320 [.int .u8 t320] (fun _ => True) (fun _ => False) rfl rfl ?aP (fun _ hk => hk.elim) ?aF ?aO ?aB ?aS ?aL ?_; (case aP => exact rfl); (case aB => exact (by repeat (first | (with_reducible first | exact HB.out | apply bA | apply bN | apply bD) | exact HB.out))); (case aF => exact (fun _ _ => trivial)); (case aO => exact (by (with_reducible repeat (first | apply rA | apply rN | apply rD)); exact HO_3.out)); (case aS => exact (below_size (by repeat (first | (with_reducible first | exact HB.out | apply bA | apply bN | apply bD) | exact HB.out)))); (case aL => have := LMc33.out; omega); intro v322 w34 ho hb hg hat; rw [← Ny321.out] at ho; have n0_ := Aside0.mk (hb); have n1_ := Aside0.mk (ho); clear HB; clear HO_3; have HB := n0_; have HO323 := n1_; clear n0_ n1_; clear ho hb hg hat))
            go_roundg k1
            case measure => have := HK1.out; omega
            case rel => exact ⟨(y321), (wrap64 (x5_1 + 2)), (by first | rfl | (simp; done) | (simp [*]; done)), H', ⟨by have := HK1.out; omega⟩, ⟨by (with_reducible repeat (first | apply rA | apply rN | apply rD)); exact HO323.out⟩, ⟨by repeat (first | (with_reducible first | exact HB.out | apply bA | apply bN | apply bD) | exact HB.out)⟩⟩
           ·rw [if_neg c33] at H
            exact absurd H (by simp)
          ·rw [if_neg c30] at H
           exact absurd H (by simp)
         ·rw [if_neg c29] at H
          exact absurd H (by simp)
       ·rw [if_neg c7] at H
        have c7b0 : ((bt t4 x5_1) == 92) = false := beq_eq_false_iff_ne.mpr c7
        have c7b1 : ((bt t4 x5_1) != 92) = true := bne_iff_ne.mpr c7
        by_cases c36 : x3_1.length < 140737488355328
        ·rw [if_pos c36] at H
         have LMc36 := Aside0.mk c36
         clear c36
         obtain ⟨y315, hy315⟩ : ∃ y_ : List Int, y_ = (x3_1 ++ [bt t4 x5_1]) := ⟨_, rfl⟩
         replace H : (spec_Unquote.l0 k1 y315 t4 (wrap64 (x5_1 + 1))) = some r := by first | (rw [hy315]; with_reducible exact H) | (have H2_ := (Option.bind_some _ _).symm.trans H; rw [hy315]; with_reducible exact H2_) | (have H2_ := (Option.bind_some _ _).symm.trans H; with_reducible exact H2_) | with_reducible exact H | (rw [hy315]; exact H) | exact H
         have Ny315 := Aside0.mk hy315
         clear hy315
         have H' := Aside0.mk H
         clear H
         have p6 : 0 ≤ (x5_1 : Int) := of_decide_eq_true (by first | (with_reducible assumption) | assumption)
         have q6 : x5_1 < (t4.size : Int) := of_decide_eq_true (by first | (with_reducible assumption) | assumption)
         have hx6 := bt_at t4 x5_1
         replace p6 := eq_true p6
         replace q6 := eq_true q6
         have p35 : 0 ≤ (x5_1 : Int) := of_decide_eq_true (by first | (with_reducible assumption) | assumption)
         have q35 : x5_1 < (t4.size : Int) := of_decide_eq_true (by first | (with_reducible assumption) | assumption)
         have hx35 := bt_at t4 x5_1
         replace p35 := eq_true p35
         replace q35 := eq_true q35
         go_wp2_with (first | ((with_reducible refine gate_builtin (b := .append) (xs := #[.tmp 23, .tmp 27]) rfl ?_); at_builtin; refine Kd.R_append (Kd.int .u8) (w0 := w) w.heap.size rfl (.tmp 23) (.tmp 27) 103 5 (.int .u8 0) 1 rfl Tryz.underlying103 info5 rfl (by decide) (by omega) u3 x3_1 (bt t4 x5_1) [.int .u8 (bt t4 x5_1)] (fun _ => True) (fun _ => False) rfl rfl ?aP (fun _ hk => hk.elim) ?aF ?aO ?aB ?aS ?aL ?_; (case aP => exact rfl); (case aB => exact (by repeat (first | (with_reducible first | exact HB.out | apply bA | apply bN | apply bD) | exact HB.out))); (case aF => exact (fun _ _ => trivial)); (case aO => exact (by (with_reducible repeat (first | apply rA | apply rN | apply rD)); exact HO_3.out)); (case aS => exact (below_size (by repeat (first | (with_reducible first | exact HB.out | apply bA | apply bN | apply bD) | exact HB.out)))); (case aL => have := LMc36.out; omega); intro v316 w37 ho hb hg hat; rw [← Ny315.out] at ho; have n0_ := Aside0.mk (hb); have n1_ := Aside0.mk (ho); clear HB; clear HO_3; have HB := n0_; have HO317 := n1_; clear n0_ n1_; clear ho hb hg hat))
         go_roundg k1
         case measure => have := HK1.out; omega
         case rel => exact ⟨(y315), (wrap64 (x5_1 + 1)), (by first | rfl | (simp; done) | (simp [*]; done)), H', ⟨by have := HK1.out; omega⟩, ⟨by (with_reducible repeat (first | apply rA | apply rN | apply rD)); exact HO317.out⟩, ⟨by repeat (first | (with_reducible first | exact HB.out | apply bA | apply bN | apply bD) | exact HB.out)⟩⟩
        ·rw [if_neg c36] at H
         exact absurd H (by simp)
      ·rw [if_neg c5] at H
       exact absurd H (by simp)
     ·rw [if_neg c4] at H
      have c4b0 : decide (x5_1 < (t4.size : Int)) = false := decide_eq_false c4
      clear c4
      obtain rfl := Option.some.inj H
      have hcv38 := own_string (P := Tryz.prog) Tryz.underlying103 Tryz.underlying5 Tryz.underlying9 (Kd.own_of_R HO_3.out)
      go_wp2
      go_ret
      exact ⟨by first | rfl | (simp [errW_none, errW_some] <;> rfl) | (simp [*, errW_none, errW_some] <;> rfl), by repeat (first | (with_reducible first | exact HB.out | apply bA | apply bN | apply bD) | exact HB.out)⟩
  ·rw [if_neg c3] at H
   exact absurd H (by simp)
 ·rw [if_neg c2] at H
  exact absurd H (by simp)
end Go.Proofs.YtgiioglmkogpkaaGreatDoor.M
namespace Go.Proofs.YtgiioglmkogpkaaGreatDoor.L
open Go.RowKit Go.Proofs.YtgiioglmkogpkaaGreatDoorW.PrintWords Go.Proofs.YtgiioglmkogpkaaGreatDoorW.PrintLast Go.Proofs.YtgiioglmkogpkaaGreatDoorW.PrintMore
open M
def hd (s : ByteArray) (i : Int) : Int := (hexv (bt s i)).getD 0
def u4 (s : ByteArray) (p : Int) : Int := ((hd s p * 16 + hd s (p + 1)) * 16 + hd s (p + 2)) * 16 + hd s (p + 3)
theorem hd_range (s : ByteArray) (i : Int) : 0 ≤ hd s i ∧ hd s i ≤ 15 := by
 unfold hd
 cases h : hexv (bt s i) with
 | none => simp
 | some v => exact hexv_range h
theorem hd_some {s : ByteArray} {i : Int} (h : (hexv (bt s i)).isSome = true) : hexv (bt s i) = some (hd s i) := by
 unfold hd
 cases e : hexv (bt s i) with
 | none => rw [e] at h; cases h
 | some v => rfl
theorem u4_range (s : ByteArray) (p : Int) : 0 ≤ u4 s p ∧ u4 s p ≤ 65535 := by
 have h0 := hd_range s p
 have h1 := hd_range s (p + 1)
 have h2 := hd_range s (p + 2)
 have h3 := hd_range s (p + 3)
 unfold u4
 omega
def isU (s : ByteArray) (j i : Int) : Prop := 0 ≤ i ∧ i + 6 ≤ j ∧ bt s i = 92 ∧ bt s (i + 1) = 117 ∧ hex4 s (i + 2)
theorem unit_yes1 (s : ByteArray) (hz : s.size ≤ 65536) (p x i v : Int) (r : Int × Bool) (h0 : 0 ≤ i) (h1 : i < p + 6) (h2 : i < s.size) (hp : 0 ≤ p ∧ p ≤ s.size) (hx : 0 ≤ x ∧ x ≤ 100000) (hv : hexv (bt s i) = some v) (h : Ev (fun k => spec_unit.l0 k s p (x * 16 + v) (i + 1)) r) :
  Ev (fun k => spec_unit.l0 k s p x i) r := by
 have hr := hexv_range hv
 refine Ev.step (f := fun k => (spec_hexDigit.f k (bt s i)).bind fun t => (if t.2 = true then (spec_unit.l0 k s p (wrap64 ((wrap64 (x * 16)) + t.1)) (wrap64 (i + 1))) else (some (0, false)))) (fun k => ?_) (Ev.bind (hex_yes hv) (Ev.congr (fun k => ?_) h))
 ·simp only [spec_unit.l0]; rw [w64 (x := p + 6) (by omega) (by omega), if_pos h1, if_pos h0, if_pos h2]
 ·simp only [if_true]; rw [w64 (x := x * 16) (by omega) (by omega), w64 (by omega) (by omega), w64 (by omega) (by omega)]
theorem unit_no1 (s : ByteArray) (hz : s.size ≤ 65536) (p x i : Int) (h0 : 0 ≤ i) (h1 : i < p + 6) (h2 : i < s.size) (hp : 0 ≤ p ∧ p ≤ s.size) (hv : ¬ (hexv (bt s i)).isSome = true) :
  Ev (fun k => spec_unit.l0 k s p x i) (0, false) := by
 have hn : hexv (bt s i) = none := by
  cases e : hexv (bt s i) with
  | none => rfl
  | some v => rw [e] at hv; simp at hv
 refine Ev.step (f := fun k => (spec_hexDigit.f k (bt s i)).bind fun t => (if t.2 = true then (spec_unit.l0 k s p (wrap64 ((wrap64 (x * 16)) + t.1)) (wrap64 (i + 1))) else (some (0, false)))) (fun k => ?_) (Ev.bind (hex_no hn) (Ev.congr (fun k => ?_) (Ev.now _)))
 ·simp only [spec_unit.l0]; rw [w64 (x := p + 6) (by omega) (by omega), if_pos h1, if_pos h0, if_pos h2]
 ·simp
theorem unit_end (s : ByteArray) (hz : s.size ≤ 65536) (p x i : Int) (h : i = p + 6) (hp : 0 ≤ p ∧ p ≤ s.size) : Ev (fun k => spec_unit.l0 k s p x i) (x, true) := by
 refine Ev.step (f := fun _ => some (x, true)) (fun k => ?_) (Ev.now _)
 simp only [spec_unit.l0]; rw [w64 (x := p + 6) (by omega) (by omega), if_neg (by omega)]
theorem unit_yes (s : ByteArray) (hz : s.size ≤ 65536) (p : Int) (h : isU s s.size p) : Ev (fun k => spec_unit.f k s p) (u4 s (p + 2), true) := by
 obtain ⟨h0, h1, h2, h3, h4⟩ := h
 have a0 := hd_some (h4 (p + 2) (by omega) (by omega))
 have a1 := hd_some (h4 (p + 3) (by omega) (by omega))
 have a2 := hd_some (h4 (p + 4) (by omega) (by omega))
 have a3 := hd_some (h4 (p + 5) (by omega) (by omega))
 have r0 := hd_range s (p + 2)
 have r1 := hd_range s (p + 3)
 have r2 := hd_range s (p + 4)
 have r3 := hd_range s (p + 5)
 refine Ev.congr (f := fun k => spec_unit.j0 k s p false) (fun k => ?_) (Ev.step (f := fun k => spec_unit.l0 k s p 0 (p + 2)) (fun k => ?_) ?_)
 ·simp only [spec_unit.f]; rw [w64 (x := (s.size : Int) - p) (by omega) (by omega), if_neg (by omega), if_pos h0, if_pos (by omega), if_pos h2, w64 (x := p + 1) (by omega) (by omega), if_pos (by omega), if_pos (by omega), bne_eq_false_iff_eq.mpr h3]
 ·simp only [spec_unit.j0, Bool.false_eq_true, if_false]; rw [w64 (by omega) (by omega)]
 ·refine unit_yes1 s hz p 0 (p + 2) _ _ (by omega) (by omega) (by omega) (by omega) (by omega) a0 ?_
  rw [show p + 2 + 1 = p + 3 by omega]
  refine unit_yes1 s hz p _ (p + 3) _ _ (by omega) (by omega) (by omega) (by omega) (by omega) a1 ?_
  rw [show p + 3 + 1 = p + 4 by omega]
  refine unit_yes1 s hz p _ (p + 4) _ _ (by omega) (by omega) (by omega) (by omega) (by omega) a2 ?_
  rw [show p + 4 + 1 = p + 5 by omega]
  refine unit_yes1 s hz p _ (p + 5) _ _ (by omega) (by omega) (by omega) (by omega) (by omega) a3 ?_
  have e : u4 s (p + 2) = (((0 * 16 + hd s (p + 2)) * 16 + hd s (p + 3)) * 16 + hd s (p + 4)) * 16 + hd s (p + 5) := by
   unfold u4
   rw [show p + 2 + 1 = p + 3 by omega, show p + 2 + 2 = p + 4 by omega, show p + 2 + 3 = p + 5 by omega]
   omega
  rw [e]
  exact unit_end s hz p _ _ (by omega) (by omega)
theorem unit_j0t (s : ByteArray) (p : Int) : Ev (fun k => spec_unit.j0 k s p true) (0, false) := Ev.step (f := fun _ => some (0, false)) (fun k => by simp only [spec_unit.j0, if_true]) (Ev.now _)
theorem unit_no (s : ByteArray) (hz : s.size ≤ 65536) (p : Int) (hp : 0 ≤ p ∧ p ≤ 1000000) (h : ¬ isU s s.size p) : Ev (fun k => spec_unit.f k s p) (0, false) := by
 by_cases c6 : (s.size : Int) - p < 6
 ·refine Ev.congr (fun k => ?_) (unit_j0t s p)
  simp only [spec_unit.f]; rw [w64 (x := (s.size : Int) - p) (by omega) (by omega), if_pos c6]
 by_cases c92 : bt s p = 92
 ·by_cases c117 : bt s (p + 1) = 117
  ·refine Ev.congr (f := fun k => spec_unit.j0 k s p false) (fun k => ?_) (Ev.step (f := fun k => spec_unit.l0 k s p 0 (p + 2)) (fun k => ?_) ?_)
   ·simp only [spec_unit.f]; rw [w64 (x := (s.size : Int) - p) (by omega) (by omega), if_neg (by omega), if_pos hp.1, if_pos (by omega), if_pos c92, w64 (x := p + 1) (by omega) (by omega), if_pos (by omega), if_pos (by omega), bne_eq_false_iff_eq.mpr c117]
   ·simp only [spec_unit.j0, Bool.false_eq_true, if_false]; rw [w64 (by omega) (by omega)]
   ·by_cases b0 : (hexv (bt s (p + 2))).isSome = true
    ·have r0 := hd_range s (p + 2)
     refine unit_yes1 s hz p 0 (p + 2) _ _ (by omega) (by omega) (by omega) (by omega) (by omega) (hd_some b0) ?_
     rw [show p + 2 + 1 = p + 3 by omega]
     by_cases b1 : (hexv (bt s (p + 3))).isSome = true
     ·have r1 := hd_range s (p + 3)
      refine unit_yes1 s hz p _ (p + 3) _ _ (by omega) (by omega) (by omega) (by omega) (by omega) (hd_some b1) ?_
      rw [show p + 3 + 1 = p + 4 by omega]
      by_cases b2 : (hexv (bt s (p + 4))).isSome = true
      ·have r2 := hd_range s (p + 4)
       refine unit_yes1 s hz p _ (p + 4) _ _ (by omega) (by omega) (by omega) (by omega) (by omega) (hd_some b2) ?_
       rw [show p + 4 + 1 = p + 5 by omega]
       by_cases b3 : (hexv (bt s (p + 5))).isSome = true
       ·refine absurd ⟨hp.1, by omega, c92, c117, fun i x y => ?_⟩ h
        by_cases e0 : i = p + 2
        ·rw [e0]; exact b0
        by_cases e1 : i = p + 3
        ·rw [e1]; exact b1
        by_cases e2 : i = p + 4
        ·rw [e2]; exact b2
        ·rw [show i = p + 5 by omega]; exact b3
       ·exact unit_no1 s hz p _ _ (by omega) (by omega) (by omega) (by omega) b3
      ·exact unit_no1 s hz p _ _ (by omega) (by omega) (by omega) (by omega) b2
     ·exact unit_no1 s hz p _ _ (by omega) (by omega) (by omega) (by omega) b1
    ·exact unit_no1 s hz p _ _ (by omega) (by omega) (by omega) (by omega) b0
  ·refine Ev.congr (fun k => ?_) (unit_j0t s p)
   simp only [spec_unit.f]; rw [w64 (x := (s.size : Int) - p) (by omega) (by omega), if_neg c6, if_pos hp.1, if_pos (by omega), if_pos c92, w64 (x := p + 1) (by omega) (by omega), if_pos (by omega), if_pos (by omega), bne_iff_ne.mpr c117]
 ·refine Ev.congr (fun k => ?_) (unit_j0t s p)
  simp only [spec_unit.f]; rw [w64 (x := (s.size : Int) - p) (by omega) (by omega), if_neg c6, if_pos hp.1, if_pos (by omega), if_neg c92]
def isHigh (n : Int) : Prop := 55296 ≤ n ∧ n ≤ 56319
def isLow (n : Int) : Prop := 56320 ≤ n ∧ n ≤ 57343
instance (x : Int) : Decidable (isHigh x) := by unfold isHigh; infer_instance
instance (x : Int) : Decidable (isLow x) := by unfold isLow; infer_instance
theorem high_f (n : Int) : spec_high.f n = some (decide (isHigh n)) := by
 unfold spec_high.f isHigh
 by_cases h : 55296 ≤ n <;> simp [h]
theorem low_f (n : Int) : spec_low.f n = some (decide (isLow n)) := by
 unfold spec_low.f isLow
 by_cases h : 56320 ≤ n <;> simp [h]
def shortv (a : Int) : Int := if a = 98 then 8 else if a = 102 then 12 else if a = 110 then 10 else if a = 114 then 13 else if a = 116 then 9 else a
theorem short_f (a : Int) : spec_short.f a = some (shortv a) := by
 unfold spec_short.f shortv
 repeat (split; rfl)
 rfl
def enc (c : Int) : List Int := if c < 128 then [c] else if c < 2048 then [192 + c / 64, 128 + c % 64] else if isHigh c ∨ isLow c then [239, 191, 189] else if c < 65536 then [224 + c / 4096, 128 + c / 64 % 64, 128 + c % 64] else [240 + c / 262144, 128 + c / 4096 % 64, 128 + c / 64 % 64, 128 + c % 64]
theorem enc_length (c : Int) : 1 ≤ (enc c).length ∧ (enc c).length ≤ 4 := by
 unfold enc
 repeat (split; · simp)
 simp
theorem app_ev (l : List Int) (c : Int) (hl : l.length ≤ 1000000) (h0 : 0 ≤ c) (h1 : c ≤ 1114111) : Ev (fun k => spec_appendUTF8.f k l c) (l ++ enc c) := by
 have td : ∀ b : Int, Int.tdiv c b = c / b := fun b => Int.tdiv_eq_ediv_of_nonneg h0
 have tm : ∀ b : Int, Int.tmod c b = c % b := fun b => Int.tmod_eq_emod_of_nonneg h0
 have tm2 : ∀ a b : Int, 0 ≤ a → Int.tmod a b = a % b := fun a b h => Int.tmod_eq_emod_of_nonneg h
 by_cases c1 : c < 128
 ·refine Ev.congr (fun k => ?_) (Ev.now _)
  simp only [spec_appendUTF8.f, enc]; rw [if_pos c1, if_pos (by omega), if_pos c1, Int.emod_eq_of_lt h0 (by omega)]
 by_cases c2 : c < 2048
 ·refine Ev.congr (fun k => ?_) (Ev.now _)
  simp only [spec_appendUTF8.f, enc]; rw [if_neg c1, if_pos c2, if_neg c1, if_pos c2]; simp only [Option.bind_some]; rw [if_pos (by simp; omega), td, tm, w64 (x := c / 64) (by omega) (by omega), w64 (by omega) (by omega), w64 (by omega) (by omega), Int.emod_eq_of_lt (by omega) (by omega), Int.emod_eq_of_lt (by omega) (by omega)]
 by_cases cH : isHigh c ∨ isLow c
 ·refine Ev.congr (f := fun k => spec_appendUTF8.j0 k l c true) (fun k => ?_) (Ev.step (f := fun _ => some (l ++ [239, 191, 189])) (fun k => ?_) (Ev.congr (fun k => ?_) (Ev.now _)))
  ·simp only [spec_appendUTF8.f]; rw [if_neg c1, if_neg c2, high_f]; simp only [Option.bind_some]
   by_cases ch : isHigh c
   ·rw [if_pos (decide_eq_true ch)]
   ·rw [if_neg (by simp [ch]), low_f]; simp only [Option.bind_some]; rw [decide_eq_true (cH.resolve_left ch)]
  ·simp only [spec_appendUTF8.j0, if_true, Option.bind_some]; rw [if_pos (by simp; omega)]
  ·rw [enc, if_neg c1, if_neg c2, if_pos cH]
 ·have hf : ∀ k, spec_appendUTF8.f k l c = spec_appendUTF8.j0 k l c false := fun k => by
   simp only [spec_appendUTF8.f]; rw [if_neg c1, if_neg c2, high_f]; simp only [Option.bind_some]
   rw [if_neg (by simp; exact fun q => cH (.inl q)), low_f]; simp only [Option.bind_some]; rw [decide_eq_false (fun q => cH (.inr q))]
  have q64 : 0 ≤ c / 64 := by omega
  have q4096 : 0 ≤ c / 4096 := by omega
  refine Ev.congr (f := fun k => spec_appendUTF8.j0 k l c false) hf ?_
  by_cases c3 : c < 65536
  ·refine Ev.step (f := fun _ => some (l ++ enc c)) (fun k => ?_) (Ev.now _)
   simp only [spec_appendUTF8.j0, Bool.false_eq_true, if_false]; rw [if_pos c3]; simp only [Option.bind_some]
   rw [if_pos (by simp; omega), enc, if_neg c1, if_neg c2, if_neg cH, if_pos c3, td, td, tm, w64 (x := c / 4096) (by omega) (by omega), w64 (x := c / 64) (by omega) (by omega), tm2 _ _ q64, w64 (by omega) (by omega), w64 (by omega) (by omega), w64 (by omega) (by omega), Int.emod_eq_of_lt (a := 224 + c / 4096) (by omega) (by omega), Int.emod_eq_of_lt (a := 128 + c / 64 % 64) (by omega) (by omega), Int.emod_eq_of_lt (a := 128 + c % 64) (by omega) (by omega)]
  ·refine Ev.step (f := fun _ => some (l ++ enc c)) (fun k => ?_) (Ev.now _)
   simp only [spec_appendUTF8.j0, Bool.false_eq_true, if_false]; rw [if_neg c3]; simp only [Option.bind_some]
   rw [if_pos (by simp; omega), enc, if_neg c1, if_neg c2, if_neg cH, if_neg c3, td, td, td, tm, w64 (x := c / 262144) (by omega) (by omega), w64 (x := c / 4096) (by omega) (by omega), w64 (x := c / 64) (by omega) (by omega), tm2 _ _ q64, tm2 _ _ q4096, w64 (by omega) (by omega), w64 (by omega) (by omega), w64 (by omega) (by omega), w64 (by omega) (by omega), Int.emod_eq_of_lt (a := 240 + c / 262144) (by omega) (by omega), Int.emod_eq_of_lt (a := 128 + c / 4096 % 64) (by omega) (by omega), Int.emod_eq_of_lt (a := 128 + c / 64 % 64) (by omega) (by omega), Int.emod_eq_of_lt (a := 128 + c % 64) (by omega) (by omega)]
def isPair (s : ByteArray) (j i : Int) : Prop := isU s j (i + 6) ∧ isHigh (u4 s (i + 2)) ∧ isLow (u4 s (i + 8))
inductive Dec (s : ByteArray) (j : Int) : Int → List Int → Prop
 | nil : Dec s j j []
 | plain (i : Int) (o : List Int) : 0 ≤ i → i < j → bt s i ≠ 92 → Dec s j (i + 1) o → Dec s j i (bt s i :: o)
 | esc (i : Int) (o : List Int) : 0 ≤ i → i + 1 < j → bt s i = 92 → isEsc (bt s (i + 1)) → Dec s j (i + 2) o → Dec s j i (shortv (bt s (i + 1)) :: o)
 | uni (i : Int) (o : List Int) : isU s j i → ¬ isPair s j i → Dec s j (i + 6) o → Dec s j i (enc (u4 s (i + 2)) ++ o)
 | pair (i : Int) (o : List Int) : isU s j i → isPair s j i → Dec s j (i + 12) o → Dec s j i (enc (65536 + (u4 s (i + 2) - 55296) * 1024 + (u4 s (i + 8) - 56320)) ++ o)
theorem esc_not_U {s : ByteArray} {j i : Int} (h : isEsc (bt s (i + 1))) : ¬ isU s j i := by
 intro q
 have := q.2.2.2.1
 unfold isEsc at h
 omega
theorem unq_ev (t : ByteArray) (hz : t.size ≤ 65536) {i : Int} {o : List Int} (h : Dec t t.size i o) : ∀ x : List Int, x.length + o.length ≤ 1000000 → Ev (fun k => spec_Unquote.l0 k x t i) (strOfNums (x ++ o)) := by
 induction h with
 | nil =>
  intro x hx
  refine Ev.step (f := fun _ => some (strOfNums x)) (fun k => ?_) (Ev.congr (fun k => ?_) (Ev.now _))
  ·simp only [spec_Unquote.l0]; rw [if_neg (by omega)]
  ·rw [List.append_nil]
 | plain i o h0 h1 h2 h3 ih =>
  intro x hx
  simp only [List.length_cons] at hx
  refine Ev.step (f := fun k => spec_Unquote.l0 k (x ++ [bt t i]) t (i + 1)) (fun k => ?_) ?_
  ·simp only [spec_Unquote.l0]; rw [if_pos h1, if_pos h0, if_neg h2, if_pos (by omega), w64 (by omega) (by omega)]
  ·have := ih (x ++ [bt t i]) (by simp; omega)
   rwa [List.append_assoc, List.singleton_append] at this
 | esc i o h0 h1 h2 h3 h4 ih =>
  intro x hx
  simp only [List.length_cons] at hx
  obtain ⟨K1, hn⟩ := unit_no t hz i (by omega) (esc_not_U h3)
  have h5 := ih (x ++ [shortv (bt t (i + 1))]) (by simp; omega)
  rw [List.append_assoc, List.singleton_append] at h5
  obtain ⟨K2, h5⟩ := h5
  refine ⟨K1 + K2 + 1, fun k hk => ?_⟩
  obtain ⟨m, rfl⟩ : ∃ m, k = m + 1 := ⟨k - 1, by omega⟩
  dsimp only at *
  simp only [spec_Unquote.l0]
  rw [if_pos (by omega), if_pos h0, if_pos h2, hn m (by omega)]
  simp only [Option.bind_some, Bool.false_eq_true, if_false]
  rw [w64 (x := i + 1) (by omega) (by omega), if_pos (by omega), if_pos h1, short_f]
  simp only [Option.bind_some]
  rw [if_pos (by omega), w64 (x := i + 2) (by omega) (by omega), h5 m (by omega)]
 | uni i o h0 h1 h2 ih =>
  intro x hx
  simp only [List.length_append] at hx
  have hi := h0.1
  have hi2 := h0.2.1
  obtain ⟨K1, hy⟩ := unit_yes t hz i h0
  have hu := u4_range t (i + 2)
  obtain ⟨K2, ha⟩ := app_ev x (u4 t (i + 2)) (by omega) (by omega) (by omega)
  have hI := ih (x ++ enc (u4 t (i + 2))) (by simp; omega)
  rw [List.append_assoc] at hI
  obtain ⟨K3, hI⟩ := hI
  have key : ∀ b : Int × Bool, Ev (fun k => spec_unit.f k t (i + 6)) b → (b.2 = true → ¬ (isHigh (u4 t (i + 2)) ∧ isLow b.1)) → Ev (fun k => spec_Unquote.l0 k x t i) (strOfNums (x ++ (enc (u4 t (i + 2)) ++ o))) := by
   intro b hb hbn
   obtain ⟨K4, hb⟩ := hb
   refine ⟨K1 + K2 + K3 + K4 + 1, fun k hk => ?_⟩
   obtain ⟨m, rfl⟩ : ∃ m, k = m + 1 := ⟨k - 1, by omega⟩
   dsimp only at *
   simp only [spec_Unquote.l0]
   rw [if_pos (by omega), if_pos h0.1, if_pos h0.2.2.1, hy m (by omega)]
   simp only [Option.bind_some, if_true]
   rw [w64 (x := i + 6) (by omega) (by omega), hb m (by omega)]
   simp only [Option.bind_some, ha m (by omega), hI m (by omega)]
   by_cases c1 : b.2 = true
   ·rw [if_pos c1, high_f]; simp only [Option.bind_some]
    by_cases c2 : isHigh (u4 t (i + 2))
    ·rw [if_pos (decide_eq_true c2), low_f]; simp only [Option.bind_some]
     rw [if_neg (by simp; exact fun q => hbn c1 ⟨c2, q⟩)]
    ·rw [if_neg (by simp [c2])]
   ·rw [if_neg c1]
  by_cases cU : isU t t.size (i + 6)
  ·exact key _ (unit_yes t hz (i + 6) cU) (fun _ q => h1 ⟨cU, q.1, by have := q.2; rwa [show i + 6 + 2 = i + 8 by omega] at this⟩)
  ·exact key _ (unit_no t hz (i + 6) (by omega) cU) (fun q => by cases q)
 | pair i o h0 h1 h2 ih =>
  intro x hx
  simp only [List.length_append] at hx
  have hi := h0.1
  have hi2 := h0.2.1
  obtain ⟨hU, hH, hL⟩ := h1
  have hi3 := hU.2.1
  obtain ⟨K1, hy⟩ := unit_yes t hz i h0
  obtain ⟨K2, hy2⟩ := unit_yes t hz (i + 6) hU
  rw [show i + 6 + 2 = i + 8 by omega] at hy2
  have hH' := hH
  have hL' := hL
  unfold isHigh at hH'
  unfold isLow at hL'
  obtain ⟨K3, ha⟩ := app_ev x (65536 + (u4 t (i + 2) - 55296) * 1024 + (u4 t (i + 8) - 56320)) (by omega) (by omega) (by omega)
  have hI := ih (x ++ enc (65536 + (u4 t (i + 2) - 55296) * 1024 + (u4 t (i + 8) - 56320))) (by simp; omega)
  rw [List.append_assoc] at hI
  obtain ⟨K4, hI⟩ := hI
  refine ⟨K1 + K2 + K3 + K4 + 1, fun k hk => ?_⟩
  obtain ⟨m, rfl⟩ : ∃ m, k = m + 1 := ⟨k - 1, by omega⟩
  dsimp only at *
  simp only [spec_Unquote.l0]
  rw [if_pos (by omega), if_pos h0.1, if_pos h0.2.2.1, hy m (by omega)]
  simp only [Option.bind_some, if_true]
  rw [w64 (x := i + 6) (by omega) (by omega), hy2 m (by omega)]
  simp only [Option.bind_some, if_true]
  rw [high_f]; simp only [Option.bind_some]
  rw [if_pos (decide_eq_true hH), low_f]; simp only [Option.bind_some]
  rw [if_pos (decide_eq_true hL), w64 (x := u4 t (i + 2) - 55296) (by omega) (by omega), w64 (x := (u4 t (i + 2) - 55296) * 1024) (by omega) (by omega), w64 (x := 65536 + (u4 t (i + 2) - 55296) * 1024) (by omega) (by omega), w64 (x := u4 t (i + 8) - 56320) (by omega) (by omega), w64 (x := 65536 + (u4 t (i + 2) - 55296) * 1024 + (u4 t (i + 8) - 56320)) (by omega) (by omega), ha m (by omega)]
  simp only [Option.bind_some]
  rw [w64 (x := i + 6 + 6) (by omega) (by omega), show i + 6 + 6 = i + 12 by omega, hI m (by omega)]
theorem Bod.dec {s : ByteArray} {j : Int} : ∀ (n : Nat) (i : Int), 0 ≤ i → j - i < n → Bod s j i → ∃ o, Dec s j i o ∧ (o.length : Int) ≤ j - i := by
 intro n
 induction n with
 | zero => intro i h0 h1 h; have := h.le; omega
 | succ n ih =>
  intro i h0 h1 h
  cases h with
  | nil => exact ⟨[], .nil, by simp⟩
  | plain _ a b c d e =>
   obtain ⟨o, ho, hl⟩ := ih (i + 1) (by omega) (by omega) e
   exact ⟨_, .plain i o h0 a c ho, by simp; omega⟩
  | esc _ a b c d =>
   obtain ⟨o, ho, hl⟩ := ih (i + 2) (by omega) (by omega) d
   exact ⟨_, .esc i o h0 a b c ho, by simp; omega⟩
  | uni _ a b c d e =>
   have hU : isU s j i := ⟨h0, by omega, b, c, d⟩
   by_cases hp : isPair s j i
   ·obtain ⟨p1, p2, p3, p4, p5⟩ := hp.1
    have h12 : Bod s j (i + 12) := by
     cases e with
     | nil => omega
     | plain _ q1 q2 q3 q4 q5 => exact absurd p3 q3
     | esc _ q1 q2 q3 q4 => unfold isEsc at q3; omega
     | uni _ q1 q2 q3 q4 q5 => rwa [show i + 6 + 6 = i + 12 by omega] at q5
    obtain ⟨o, ho, hl⟩ := ih (i + 12) (by omega) (by omega) h12
    have := enc_length (65536 + (u4 s (i + 2) - 55296) * 1024 + (u4 s (i + 8) - 56320))
    exact ⟨_, .pair i o hU hp ho, by simp; omega⟩
   ·obtain ⟨o, ho, hl⟩ := ih (i + 6) (by omega) (by omega) e
    have := enc_length (u4 s (i + 2))
    exact ⟨_, .uni i o hU hp ho, by simp; omega⟩
theorem bt_extract (s : ByteArray) (a b : Nat) (i : Int) (h0 : 0 ≤ i) (h1 : a + i < b) (h2 : b ≤ s.size) : bt (s.extract a b) i = bt s (a + i) := by
 unfold bt
 rw [dif_pos (by rw [ByteArray.size_extract]; omega), dif_pos (by omega)]
 rw [ByteArray.getElem_extract]
 have e : a + i.toNat = ((a : Int) + i).toNat := by omega
 simp only [e]
theorem Bod.shift {s : ByteArray} {j : Int} {a : Nat} (hj : j ≤ s.size) {i : Int} (h : Bod s j i) : (a : Int) ≤ i → Bod (s.extract a j.toNat) ((s.extract a j.toNat).size : Int) (i - a) := by
 induction h with
 | nil =>
  intro h0
  have e : ((s.extract a j.toNat).size : Int) = j - a := by rw [ByteArray.size_extract]; omega
  rw [e]
  exact .nil
 | plain i h1 h2 h3 h4 h5 ih =>
  intro h0
  have e : ((s.extract a j.toNat).size : Int) = j - a := by rw [ByteArray.size_extract]; omega
  have b0 := bt_extract s a j.toNat (i - a) (by omega) (by omega) (by omega)
  rw [show (a : Int) + (i - a) = i by omega] at b0
  refine .plain _ (by omega) (by rw [b0]; exact h2) (by rw [b0]; exact h3) (by rw [b0]; exact h4) ?_
  have := ih (by omega)
  rwa [show i + 1 - a = i - a + 1 by omega] at this
 | esc i h1 h2 h3 h4 ih =>
  intro h0
  have e : ((s.extract a j.toNat).size : Int) = j - a := by rw [ByteArray.size_extract]; omega
  have b0 := bt_extract s a j.toNat (i - a) (by omega) (by omega) (by omega)
  rw [show (a : Int) + (i - a) = i by omega] at b0
  have b1 := bt_extract s a j.toNat (i - a + 1) (by omega) (by omega) (by omega)
  rw [show (a : Int) + (i - a + 1) = i + 1 by omega] at b1
  refine .esc _ (by omega) (by rw [b0]; exact h2) (by rw [b1]; exact h3) ?_
  have := ih (by omega)
  rwa [show i + 2 - a = i - a + 2 by omega] at this
 | uni i h1 h2 h3 h4 h5 ih =>
  intro h0
  have e : ((s.extract a j.toNat).size : Int) = j - a := by rw [ByteArray.size_extract]; omega
  have b0 := bt_extract s a j.toNat (i - a) (by omega) (by omega) (by omega)
  rw [show (a : Int) + (i - a) = i by omega] at b0
  have b1 := bt_extract s a j.toNat (i - a + 1) (by omega) (by omega) (by omega)
  rw [show (a : Int) + (i - a + 1) = i + 1 by omega] at b1
  refine .uni _ (by omega) (by rw [b0]; exact h2) (by rw [b1]; exact h3) (fun x y z => ?_) ?_
  ·rw [bt_extract s a j.toNat x (by omega) (by omega) (by omega)]
   exact h4 _ (by omega) (by omega)
  ·have := ih (by omega)
   rwa [show i + 6 - a = i - a + 6 by omega] at this
theorem unqf_ev (s : ByteArray) (hz : s.size ≤ 65536) (p e : Int) (h : Str s p e) : ∃ r, Ev (fun k => spec_Unquote.f k (s.extract p.toNat e.toNat)) r ∧ ∀ o, Dec (s.extract (p.toNat + 1) (e.toNat - 1)) (s.extract (p.toNat + 1) (e.toNat - 1)).size 0 o → o.length ≤ 65536 → r = strOfNums o := by
 obtain ⟨h0, h34, j, rfl, h1, h2, h3, h4⟩ := h
 have e1 : ((s.extract p.toNat (j + 1).toNat).size : Int) = j + 1 - p := by rw [ByteArray.size_extract]; omega
 have e2 : (s.extract p.toNat (j + 1).toNat).extract 1 ((s.extract p.toNat (j + 1).toNat).size - 1 : Int).toNat = s.extract (p.toNat + 1) ((j + 1).toNat - 1) := by
  rw [ByteArray.extract_extract]
  congr 1
  omega
 have hB := Bod.shift (a := p.toNat + 1) (by omega) h4 (by omega)
 rw [show ((p + 1 : Int) - (p.toNat + 1 : Nat)) = 0 by omega] at hB
 have e3 : j.toNat = (j + 1).toNat - 1 := by omega
 rw [e3] at hB
 generalize ht : s.extract (p.toNat + 1) ((j + 1).toNat - 1) = t at *
 have hts : t.size ≤ 65536 := by rw [← ht, ByteArray.size_extract]; omega
 obtain ⟨o, ho, hl⟩ := Bod.dec (t.size + 1) 0 (by omega) (by omega) hB
 have hu := unq_ev t hts ho [] (by simp; omega)
 have hf : Ev (fun k => spec_Unquote.f k (s.extract p.toNat (j + 1).toNat)) (strOfNums ([] ++ o)) := by
  refine Ev.congr (fun k => ?_) hu
  simp only [spec_Unquote.f]
  rw [w64 (by omega) (by omega), if_pos (by omega), if_pos (by omega), e2]
 refine ⟨_, hf, fun o' ho' hl' => ?_⟩
 have hu' := unq_ev t hts ho' [] (by simp; omega)
 obtain ⟨K, a⟩ := hu
 obtain ⟨K', b⟩ := hu'
 have x := a (K + K') (by omega)
 have y := b (K + K') (by omega)
 simp only [List.nil_append] at x y ⊢
 exact Option.some.inj (x.symm.trans y)
end Go.Proofs.YtgiioglmkogpkaaGreatDoor.L
namespace Go.Proofs.YtgiioglmkogpkaaGreatDoor.F
open Go.RowKit Go.Proofs.YtgiioglmkogpkaaGreatDoorW.PrintWords Go.Proofs.YtgiioglmkogpkaaGreatDoorW.PrintLast Go.Proofs.YtgiioglmkogpkaaGreatDoorW.PrintMore
open M L
set_option maxHeartbeats 4000000
set_option maxRecDepth 8192
def pv (t : ByteArray) : Nat → Int
 | 0 => 0
 | k + 1 => pv t k * 16 + L.hd t k
theorem pv4 (t : ByteArray) : pv t 4 = u4 t 0 := by
 simp only [pv, u4]
 simp
theorem pv_bd (t : ByteArray) (k : Nat) (h : k ≤ 4) : 0 ≤ pv t k ∧ pv t k ≤ 65535 := by
 have h0 := hd_range t 0
 have h1 := hd_range t 1
 have h2 := hd_range t 2
 have h3 := hd_range t 3
 have : k = 0 ∨ k = 1 ∨ k = 2 ∨ k = 3 ∨ k = 4 := by omega
 rcases this with rfl | rfl | rfl | rfl | rfl <;> simp only [pv] <;> simp <;> omega
theorem lower_id (x : Int) (h0 : 97 ≤ x) (h1 : x ≤ 102) : bits .or .u8 x 32 = x := by
 have : x = 97 ∨ x = 98 ∨ x = 99 ∨ x = 100 ∨ x = 101 ∨ x = 102 := by omega
 rcases this with rfl | rfl | rfl | rfl | rfl | rfl <;> rfl
theorem lower_up (x : Int) (h0 : 65 ≤ x) (h1 : x ≤ 70) : bits .or .u8 x 32 = x + 32 := by
 have : x = 65 ∨ x = 66 ∨ x = 67 ∨ x = 68 ∨ x = 69 ∨ x = 70 := by omega
 rcases this with rfl | rfl | rfl | rfl | rfl | rfl <;> rfl
theorem hexv_cases {x v : Int} (h : hexv x = some v) : (48 ≤ x ∧ x ≤ 57 ∧ v = x - 48) ∨ (97 ≤ x ∧ x ≤ 102 ∧ v = x - 87) ∨ (65 ≤ x ∧ x ≤ 70 ∧ v = x - 55) := by
 unfold hexv at h
 split at h
 ·simp at h; left; omega
 split at h
 ·simp at h; right; left; omega
 split at h
 ·simp at h; right; right; omega
 ·cases h
theorem pu16_calls (t : ByteArray) (w : World) (hs : t.size = 4) (hh : hex4 t 0) :
  Calls Tryz.prog 156 #[.string t, .int .i64 16, .int .i64 64] w fun e w' => e = .returned (.tuple #[.int .u64 (u4 t 0), .nilIface]) ∧ Below w.heap.size w w' := by
 have hne : t ≠ ByteArray.empty := by rintro rfl; simp at hs
 have HS := Aside0.mk hs
 clear hs
 have HH := Aside0.mk hh
 clear hh
 have he : t.toList.isEmpty = false := by
  have := HS.out
  rw [Bool.eq_false_iff]
  intro h
  rw [List.isEmpty_iff] at h
  have h2 := congrArg List.length h
  simp [ByteArray.toList_eq, this] at h2
 have hcv : ∀ W : World, (convert 9 103 (.string t)).run Tryz.prog W = .ok (.slice (some ⟨W.heap.size, 0, none⟩) 4 (grownCap W t.size 0 5)) (Lib.bytesWorld W 5 t) := fun W => by
  have := Lib.run_convert_string_bytes (P := Tryz.prog) W 9 103 5 t Tryz.underlying9 Tryz.underlying103 Tryz.underlying5
  rwa [HS.out] at this ⊢
 clear hne
 go_enter Tryz.func156, Tryz.ntmps156
 go_wp2_with fail
 have hB : Below w.heap.size w (Lib.bytesWorld w 5 t) := bytes_below (Below.refl _ _) (Nat.le_refl _) 5 t
 have HC : ∀ k : Nat, k < 4 → (Lib.bytesWorld w 5 t).cell? ⟨w.heap.size, k, none⟩ = some (.int .u8 (bt t k)) := fun k hk => by
  obtain ⟨ad, e1, e2⟩ := (bytes_reads w 5 t (by rw [HS.out]; omega)).2.2 (by rw [HS.out]; omega)
  obtain rfl := Option.some.inj e1
  have := e2 k (by rw [HS.out]; omega)
  rw [add_plain] at this
  rw [this]
  have h2 := rd_bytesOf t (k : Int)
  unfold rd at h2
  rw [Int.toNat_natCast] at h2
  rw [h2]
 have hM : 2000000 ≤ IntKind.u64.wrap (IntKind.u64.wrap 18446744073709551616 - 1) := by decide
 generalize IntKind.u64.wrap (IntKind.u64.wrap 18446744073709551616 - 1) = Mx at *
 generalize Lib.bytesWorld w 5 t = W at *
 have HCC := Aside0.mk HC
 have HBB := Aside0.mk hB
 clear HC hB hcv he
 go_loopg [6, 7, 12, 13, 15, 16, 17, 101] 4 (fun kq v6 v7 v12 v13 v15 v16 v17 v101 w' => ∃ k : Nat, kq + k = 4 ∧ v6 = .int .u64 0 ∧ v7 = .nilIface ∧ v12 = .bool false ∧ v13 = .int .u64 (pv t k) ∧ v101 = .int .i64 k ∧ W = w')
 case atStart => exact ⟨0, rfl, rfl, rfl, rfl, rfl, rfl, rfl⟩
 case round =>
  obtain ⟨k, hk, rfl, rfl, rfl, rfl, rfl, rfl⟩ := hrel
  by_cases hk4 : k < 4
  ·have hx := hd_some (HH.out (k : Int) (by omega) (by omega))
   have hb := pv_bd t k (by omega)
   have hr := hd_range t (k : Int)
   have hc := HCC.out k hk4
   have hsucc : pv t (k + 1) = pv t k * 16 + L.hd t k := rfl
   have HSU := Aside0.mk hsucc
   clear hsucc
   have hx0 := bt_range t (k : Int)
   generalize L.hd t (k : Int) = v at *
   generalize bt t (k : Int) = x at *
   generalize pv t k = n at *
   have hk4' : (k : Int) < 4 := by omega
   have x95 : (x == 95) = false := beq_eq_false_iff_ne.mpr (fun q => by subst q; simp [hexv] at hx)
   rcases hexv_cases hx with ⟨h1, h2, h3⟩ | ⟨h1, h2, h3⟩ | ⟨h1, h2, h3⟩
   ·have x3 : decide (48 ≤ x) = true := decide_eq_true (by omega)
    have x4 : decide (x ≤ 57) = true := decide_eq_true (by omega)
    subst h3
    clear hx
    obtain ⟨hb0, hb1⟩ := hb
    obtain ⟨hx00, hx01⟩ := hx0
    clear hr
    go_wp2_with fail
    go_roundg (gk - 1)
    case measure => omega
    case rel => exact ⟨k + 1, by omega, rfl, rfl, rfl, by rw [HSU.out], rfl, rfl⟩
   ·subst h3
    have hl : bits .or .u8 x 32 = x := lower_id x h1 h2
    have x3 : decide (48 ≤ x) = true := decide_eq_true (by omega)
    have x4 : decide (x ≤ 57) = false := decide_eq_false (by omega)
    clear hx
    obtain ⟨hb0, hb1⟩ := hb
    obtain ⟨hx00, hx01⟩ := hx0
    clear hr
    go_wp2_with (go_at_call 188; refine (Tryz.internal_strconv_lower _ _).mono ?_; rintro e w' ⟨rfl, hw2⟩; obtain rfl := hw2.symm)
    go_roundg (gk - 1)
    case measure => omega
    case rel => exact ⟨k + 1, by omega, rfl, rfl, rfl, by rw [HSU.out]; exact congrArg (Value.int .u64) (by omega), rfl, rfl⟩
   ·subst h3
    have hl : bits .or .u8 x 32 = x + 32 := lower_up x h1 h2
    have x3 : decide (48 ≤ x) = true := decide_eq_true (by omega)
    have x4 : decide (x ≤ 57) = false := decide_eq_false (by omega)
    clear hx
    obtain ⟨hb0, hb1⟩ := hb
    obtain ⟨hx00, hx01⟩ := hx0
    clear hr
    go_wp2_with (go_at_call 188; refine (Tryz.internal_strconv_lower _ _).mono ?_; rintro e w' ⟨rfl, hw2⟩; obtain rfl := hw2.symm)
    go_roundg (gk - 1)
    case measure => omega
    case rel => exact ⟨k + 1, by omega, rfl, rfl, rfl, by rw [HSU.out]; exact congrArg (Value.int .u64) (by omega), rfl, rfl⟩
  ·have hk4' : ¬ (k : Int) < 4 := by omega
   have e4 := Aside0.mk (show pv t k = u4 t 0 by rw [show k = 4 by omega, pv4])
   go_wp2_with fail
   go_ret2
   exact ⟨congrArg (fun z => Ending.returned (.tuple #[.int .u64 z, .nilIface])) e4.out, HBB.out⟩
theorem pub16_calls (t : ByteArray) (w : World) (hs : t.size = 4) (hh : hex4 t 0) :
  Calls Tryz.prog 129 #[.string t, .int .i64 16, .int .i64 64] w fun e w' => e = .returned (.tuple #[.int .u64 (u4 t 0), .nilIface]) ∧ Below w.heap.size w w' := by
 have HC := Aside0.mk (pu16_calls t w hs hh)
 clear hs hh
 go_enter Tryz.func129, Tryz.ntmps129
 go_wp2_with fail
 refine HC.out.mono ?_
 rintro e w' ⟨rfl, hb⟩
 go_wp2_with fail
 go_ret2
 exact ⟨rfl, hb⟩
theorem runeit_calls (t : ByteArray) (w : World) (hs : 4 ≤ t.size) (hz : t.size ≤ 65536) (hh : hex4 t 0) :
  Calls Tryz.prog 93 #[.string t] w fun e w' => e = .returned (.int .i32 (u4 t 0)) ∧ Below w.heap.size w w' := by
 have hs4 : (t.extract 0 4).size = 4 := by rw [ByteArray.size_extract]; omega
 have hb : ∀ i : Int, 0 ≤ i → i < 4 → bt (t.extract 0 4) i = bt t i := fun i a b => by
  have := bt_extract t 0 4 i a (by omega) (by omega)
  rwa [show ((0 : Nat) : Int) + i = i by omega] at this
 have hh' : hex4 (t.extract 0 4) 0 := fun i a b => by rw [hb i a (by omega)]; exact hh i a b
 have hu : u4 (t.extract 0 4) 0 = u4 t 0 := by
  unfold u4 L.hd
  rw [hb 0 (by omega) (by omega), hb (0 + 1) (by omega) (by omega), hb (0 + 2) (by omega) (by omega), hb (0 + 3) (by omega) (by omega)]
 have hr := u4_range t 0
 have HC := Aside0.mk (pub16_calls (t.extract 0 4) w hs4 hh')
 rw [hu] at HC
 clear hs4 hh' hu hb hh
 have h4 : 4 ≤ (t.size : Int) := by omega
 generalize u4 t 0 = n at *
 have hw32 : IntKind.i32.wrap n = n := by simp only [IntKind.wrap, IntKind.bits, IntKind.signed]; simp; omega
 go_enter Tryz.func93, Tryz.ntmps93
 go_wp2_with fail
 refine HC.out.mono ?_
 rintro e w' ⟨rfl, hb⟩
 go_wp2_with fail
 go_ret
 exact ⟨by first | rfl | rw [hw32], hb⟩
end Go.Proofs.YtgiioglmkogpkaaGreatDoor.F
namespace Go.Proofs.YtgiioglmkogpkaaGreatDoor.F
open Go.RowKit Go.Proofs.YtgiioglmkogpkaaGreatDoorW.PrintWords Go.Proofs.YtgiioglmkogpkaaGreatDoorW.PrintLast Go.Proofs.YtgiioglmkogpkaaGreatDoorW.PrintMore
open M L
set_option maxHeartbeats 4000000
set_option maxRecDepth 8192
theorem isSurr_yes (r : Int) (w : World) (h : isHigh r ∨ isLow r) : Calls Tryz.prog 94 #[.int .i32 r] w fun e w' => e = .returned (.bool true) ∧ w = w' := by
 have h1 : 55296 ≤ r := by unfold isHigh isLow at h; omega
 have h2 : r < 57344 := by unfold isHigh isLow at h; omega
 clear h
 go_enter Tryz.func94, Tryz.ntmps94
 go_wp2_with fail
 go_ret
 exact ⟨rfl, rfl⟩
theorem isSurr_no (r : Int) (w : World) (h : ¬ isHigh r) (h' : ¬ isLow r) : Calls Tryz.prog 94 #[.int .i32 r] w fun e w' => e = .returned (.bool false) ∧ w = w' := by
 by_cases h1 : 55296 ≤ r
 ·have h2 : ¬ r < 57344 := by unfold isHigh at h; unfold isLow at h'; omega
  clear h h'
  go_enter Tryz.func94, Tryz.ntmps94
  go_wp2_with fail
  go_ret
  exact ⟨rfl, rfl⟩
 ·clear h h'
  go_enter Tryz.func94, Tryz.ntmps94
  go_wp2_with fail
  go_ret
  exact ⟨rfl, rfl⟩
theorem i32_or10 (x y : Int) (hx₀ : 0 ≤ x) (hx : x % 1024 = 0) (hx₁ : x < 2147483648) (h₀ : 0 ≤ y) (h₁ : y < 1024) : bits .or .i32 x y = x + y :=
 bits_join .i32 31 (by decide) wraps_i32 10 x y hx₀ hx hx₁ h₀ h₁ (by omega)
theorem decRune_calls (r1 r2 : Int) (w : World) (h1 : isHigh r1) (h2 : isLow r2) : Calls Tryz.prog 95 #[.int .i32 r1, .int .i32 r2] w fun e w' => e = .returned (.int .i32 (65536 + (r1 - 55296) * 1024 + (r2 - 56320))) ∧ w = w' := by
 obtain ⟨a, b⟩ := h1
 obtain ⟨c, d⟩ := h2
 have hb : bits .or .i32 ((r1 - 55296) * 1024) (r2 - 56320) = (r1 - 55296) * 1024 + (r2 - 56320) := i32_or10 _ _ (by omega) (by omega) (by omega) (by omega) (by omega)
 go_enter Tryz.func95, Tryz.ntmps95
 go_wp2_with fail
 go_ret
 exact ⟨congrArg (fun z => Ending.returned (.int .i32 z)) (by omega), rfl⟩
def wrL (w : World) (g : Nat) : Nat → List Int → World
 | _, [] => w
 | o, b :: r => wrL (w.setCell ⟨g, o, none⟩ (.int .u8 b)) g (o + 1) r
theorem encNA_calls (r : Int) (g off len cap : Nat) (w : World) (h0 : 128 ≤ r) (h1 : r ≤ 1114111) (h2 : ¬ isHigh r ∧ ¬ isLow r) (hl : 4 ≤ len)
  (c0 : w.cell? ⟨g, off, none⟩ = some (.int .u8 0)) (c1 : w.cell? ⟨g, off + 1, none⟩ = some (.int .u8 0)) (c2 : w.cell? ⟨g, off + 2, none⟩ = some (.int .u8 0)) (c3 : w.cell? ⟨g, off + 3, none⟩ = some (.int .u8 0)) (hf : ∀ i, w.frozen? ⟨g, i, none⟩ = false) :
  Calls Tryz.prog 130 #[.slice (some ⟨g, off, none⟩) len cap, .int .i32 r] w fun e w' => e = .returned (.int .i64 (enc r).length) ∧ w' = wrL w g off (enc r) := by
 have f0 := hf off
 have f1 := hf (off + 1)
 have f2 := hf (off + 2)
 have f3 := hf (off + 3)
 clear hf
 have hl1 : (1 : Int) < len := by omega
 have hl2 : (2 : Int) < len := by omega
 have hl3 : (3 : Int) < len := by omega
 have hl0 : (0 : Int) < len := by omega
 by_cases k2 : r ≤ 2047
 ·have e : enc r = [192 + r / 64, 128 + r % 64] := by unfold enc; rw [if_neg (by omega), if_pos (by omega)]
  have E := Aside0.mk e
  clear e
  go_enter Tryz.func130, Tryz.ntmps130
  go_wp2_with fail
  go_ret
  rw [E.out]
  exact ⟨rfl, rfl⟩
 by_cases k3 : r ≤ 65535
 ·have e : enc r = [224 + r / 4096, 128 + r / 64 % 64, 128 + r % 64] := by unfold enc; rw [if_neg (by omega), if_neg (by omega), if_neg (by intro q; exact q.elim h2.1 h2.2), if_pos (by omega)]
  have E := Aside0.mk e
  have hs : r < 55296 ∨ 57343 < r := by have a := h2.1; have b := h2.2; unfold isHigh at a; unfold isLow at b; omega
  clear e h2
  rcases hs with hs | hs
  ·go_enter Tryz.func130, Tryz.ntmps130
   go_wp2_with fail
   go_ret
   rw [E.out]
   exact ⟨rfl, rfl⟩
  ·go_enter Tryz.func130, Tryz.ntmps130
   go_wp2_with fail
   go_ret
   rw [E.out]
   exact ⟨rfl, rfl⟩
 ·have e : enc r = [240 + r / 262144, 128 + r / 4096 % 64, 128 + r / 64 % 64, 128 + r % 64] := by unfold enc; rw [if_neg (by omega), if_neg (by omega), if_neg (by intro q; exact q.elim h2.1 h2.2), if_neg (by omega)]
  have E := Aside0.mk e
  clear e h2
  go_enter Tryz.func130, Tryz.ntmps130
  go_wp2_with fail
  go_ret
  rw [E.out]
  exact ⟨rfl, rfl⟩
theorem enc_calls (r : Int) (g off len cap : Nat) (w : World) (h0 : 0 ≤ r) (h1 : r ≤ 1114111) (h2 : ¬ isHigh r ∧ ¬ isLow r) (hl : 4 ≤ len)
  (c0 : w.cell? ⟨g, off, none⟩ = some (.int .u8 0)) (c1 : w.cell? ⟨g, off + 1, none⟩ = some (.int .u8 0)) (c2 : w.cell? ⟨g, off + 2, none⟩ = some (.int .u8 0)) (c3 : w.cell? ⟨g, off + 3, none⟩ = some (.int .u8 0)) (hf : ∀ i, w.frozen? ⟨g, i, none⟩ = false) :
  Calls Tryz.prog 96 #[.slice (some ⟨g, off, none⟩) len cap, .int .i32 r] w fun e w' => e = .returned (.int .i64 (enc r).length) ∧ w' = wrL w g off (enc r) := by
 by_cases k1 : r ≤ 127
 ·have e : enc r = [r] := by unfold enc; rw [if_pos (by omega)]
  have E := Aside0.mk e
  have f0 := hf off
  have hl0 : (0 : Int) < len := by omega
  clear e h2 hf
  go_enter Tryz.func96, Tryz.ntmps96
  go_wp2_with fail
  go_ret
  rw [E.out]
  exact ⟨rfl, rfl⟩
 ·have HC := Aside0.mk (encNA_calls r g off len cap w (by omega) h1 h2 hl c0 c1 c2 c3 hf)
  clear h2 hf c0 c1 c2 c3
  go_enter Tryz.func96, Tryz.ntmps96
  go_wp2_with fail
  refine HC.out.mono ?_
  rintro e w' ⟨rfl, hw⟩
  have HW := Aside0.mk hw
  clear hw
  go_wp2_with fail
  go_ret
  exact ⟨rfl, HW.out⟩
end Go.Proofs.YtgiioglmkogpkaaGreatDoor.F

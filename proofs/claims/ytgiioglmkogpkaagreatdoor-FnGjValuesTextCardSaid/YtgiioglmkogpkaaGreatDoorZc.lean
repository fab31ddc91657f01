/- Texts behind the law FnGjValuesText: part 3. -/
import Derived.Test.YtgiioglmkogpkaaGreatDoorZa
import Derived.Test.YtgiioglmkogpkaaGreatDoorZb
set_option linter.unusedVariables false
set_option linter.unusedSimpArgs false
namespace Go.Proofs.YtgiioglmkogpkaaGreatDoor.M
open Go.RowKit Go.Proofs.YtgiioglmkogpkaaGreatDoorW.PrintWords Go.Proofs.YtgiioglmkogpkaaGreatDoorW.PrintLast Go.Proofs.YtgiioglmkogpkaaGreatDoorW.PrintMore
set_option maxHeartbeats 8000000
set_option maxRecDepth 100000
attribute [local go_sem] max2_int min2_int max_two min_two max_three min_three max_four min_four
def spec_appendUTF8.j0 : Nat → List Int → Int → Bool → Option (List Int)
 | 0, _, _, _ => none
 | k + 1, x0, x1, x27 => if x27 = true then ((some (([239, 191, 189] : List Int) : List Int)).bind fun y297 => (if x0.length + y297.length < 140737488355328 then (some (x0 ++ y297)) else (none))) else (if x1 < 65536 then ((some (([(wrap64 (224 + (wrap64 (Int.tdiv x1 4096)))) % 256, (wrap64 (128 + (Int.tmod (wrap64 (Int.tdiv x1 64)) 64))) % 256, (wrap64 (128 + (Int.tmod x1 64))) % 256] : List Int) : List Int)).bind fun y303 => (if x0.length + y303.length < 140737488355328 then (some (x0 ++ y303)) else (none))) else ((some (([(wrap64 (240 + (wrap64 (Int.tdiv x1 262144)))) % 256, (wrap64 (128 + (Int.tmod (wrap64 (Int.tdiv x1 4096)) 64))) % 256, (wrap64 (128 + (Int.tmod (wrap64 (Int.tdiv x1 64)) 64))) % 256, (wrap64 (128 + (Int.tmod x1 64))) % 256] : List Int) : List Int)).bind fun y309 => (if x0.length + y309.length < 140737488355328 then (some (x0 ++ y309)) else (none))))
def spec_appendUTF8.f (k : Nat) (l0 : List Int) (a1 : Int) : Option (List Int) := if a1 < 128 then (if l0.length < 140737488355328 then (some (l0 ++ [(a1) % 256])) else (none)) else (if a1 < 2048 then ((some (([(wrap64 (192 + (wrap64 (Int.tdiv a1 64)))) % 256, (wrap64 (128 + (Int.tmod a1 64))) % 256] : List Int) : List Int)).bind fun y289 => (if l0.length + y289.length < 140737488355328 then (some (l0 ++ y289)) else (none))) else ((spec_high.f a1).bind fun t295 => (if t295 = true then (spec_appendUTF8.j0 k l0 a1 true) else ((spec_low.f a1).bind fun t296 => (spec_appendUTF8.j0 k l0 a1 t296)))))
theorem spec_appendUTF8.calls (k : Nat) (P0_ : Nat → Prop) (u9000_ : Value) (l0 : List Int) (a1 : Int) (r : List Int) (w0 w : World) (hB : Below w0.heap.size w0 w) (ho0 : Kd.R (Kd.int .u8) 5 w w0.heap.size P0_ u9000_ l0) (h : spec_appendUTF8.f k l0 a1 = some r) :
  Calls Tryz.prog 106 #[u9000_, .int .i64 a1] w fun e w' => ∃ v0_ : Value, e = .returned (v0_) ∧ Kd.R (Kd.int .u8) 5 w' w0.heap.size (fun k_ => (P0_ k_ ∨ w.heap.size ≤ k_)) v0_ r ∧ Below w0.heap.size w0 w' ∧ Kept w w' (fun k_ => P0_ k_) := by
 have HO0 := Aside0.mk (show Kd.R (Kd.int .u8) 5 w w0.heap.size (fun k_ => (P0_ k_ ∨ w.heap.size ≤ k_)) u9000_ l0 from Kd.R_mono ho0 (fun k_ hk => (.inl hk)))
 have HK := Aside0.mk (Kept.refl w (fun k_ => P0_ k_))
 have HW0 := Aside0.mk hB.size
 have HB := Aside0.mk hB
 clear hB
 have H : (if a1 < 128 then (if l0.length < 140737488355328 then (some (l0 ++ [(a1) % 256])) else (none)) else (if a1 < 2048 then ((some (([(wrap64 (192 + (wrap64 (Int.tdiv a1 64)))) % 256, (wrap64 (128 + (Int.tmod a1 64))) % 256] : List Int) : List Int)).bind fun y289 => (if l0.length + y289.length < 140737488355328 then (some (l0 ++ y289)) else (none))) else ((spec_high.f a1).bind fun t295 => (if t295 = true then (spec_appendUTF8.j0 k l0 a1 true) else ((spec_low.f a1).bind fun t296 => (spec_appendUTF8.j0 k l0 a1 t296)))))) = some r := h
 clear h
 by_cases c3 : a1 < 128
 ·rw [if_pos c3] at H
  have c3b0 : decide (a1 < 128) = true := decide_eq_true c3
  clear c3
  by_cases c4 : l0.length < 140737488355328
  ·rw [if_pos c4] at H
   have LMc4 := Aside0.mk c4
   clear c4
   obtain ⟨y286, hy286⟩ : ∃ y_ : List Int, y_ = (l0 ++ [(a1) % 256]) := ⟨_, rfl⟩
   replace H : (some y286) = some r := by first | (rw [hy286]; with_reducible exact H) | (have H2_ := (Option.bind_some _ _).symm.trans H; rw [hy286]; with_reducible exact H2_) | (have H2_ := (Option.bind_some _ _).symm.trans H; with_reducible exact H2_) | with_reducible exact H | (rw [hy286]; exact H) | exact H
   have Ny286 := Aside0.mk hy286
   clear hy286
   obtain rfl := Option.some.inj H
   go_enter Tryz.func106, Tryz.ntmps106
   go_wp2_with (first | ((with_reducible refine gate_builtin (b := .append) (xs := #[.tmp 8, .tmp 11]) rfl ?_); at_builtin; refine Kd.R_append (Kd.int .u8) (w0 := w0) w0.heap.size rfl (.tmp 8) (.tmp 11) 103 5 (.int .u8 0) 1 rfl Tryz.underlying103 info5 rfl (by decide) (by omega) u9000_ l0 ((a1) % 256) [.int .u8 ((a1) % 256)] (fun k_ => (P0_ k_ ∨ w.heap.size ≤ k_)) (fun _ => False) rfl rfl ?aP (fun _ hk => hk.elim) ?aF ?aO ?aB ?aS ?aL ?_; (case aP => exact rfl); (case aB => exact (by repeat (first | (with_reducible first | exact HB.out | apply bA | apply bN | apply bD) | exact HB.out))); (case aF => exact (fun k_ hk => (.inr (Nat.le_trans (by first | exact HK.out.1 | exact (show Kept w _ (fun k_ => P0_ k_) from by repeat (first | (with_reducible first | exact HK.out | apply Kept.alloc | apply Kept.drewN | apply Kept.drew) | exact HK.out)).1) hk)))); (case aO => exact (by (with_reducible repeat (first | apply rA | apply rN | apply rD)); exact HO0.out)); (case aS => exact (below_size (by repeat (first | (with_reducible first | exact HB.out | apply bA | apply bN | apply bD) | exact HB.out)))); (case aL => have := LMc4.out; omega); intro v287 w5 ho hb hg hat; rw [← Ny286.out] at ho; have n0_ := Aside0.mk (hb); have n1_ := Aside0.mk (Kept.of_grown (S := (fun k_ => P0_ k_)) hg (by repeat (first | (with_reducible first | exact HK.out | apply Kept.alloc | apply Kept.drewN | apply Kept.drew) | exact HK.out)) (fun k_ e_ => (HO0.out.1 k_ e_))); have n2_ := Aside0.mk (ho); clear HB; clear HK; clear HO0; have HB := n0_; have HK := n1_; have HO288 := n2_; clear n0_ n1_ n2_; clear ho hb hg hat))
   go_ret
   exact ⟨_, by first | rfl | (simp [errW_none, errW_some] <;> rfl) | (simp [*, errW_none, errW_some] <;> rfl), by (with_reducible repeat (first | apply rA | apply rN | apply rD)); exact HO288.out, by repeat (first | (with_reducible first | exact HB.out | apply bA | apply bN | apply bD) | exact HB.out), by repeat (first | (with_reducible first | exact HK.out | apply Kept.alloc | apply Kept.drewN | apply Kept.drew) | exact HK.out)⟩
  ·rw [if_neg c4] at H
   exact absurd H (by simp)
 ·rw [if_neg c3] at H
  have c3b0 : decide (a1 < 128) = false := decide_eq_false c3
  clear c3
  by_cases c6 : a1 < 2048
  ·rw [if_pos c6] at H
   have c6b0 : decide (a1 < 2048) = true := decide_eq_true c6
   clear c6
   obtain ⟨y289, hy289⟩ : ∃ y_ : List Int, y_ = (([(wrap64 (192 + (wrap64 (Int.tdiv a1 64)))) % 256, (wrap64 (128 + (Int.tmod a1 64))) % 256] : List Int)) := ⟨_, rfl⟩
   replace H : (if l0.length + y289.length < 140737488355328 then (some (l0 ++ y289)) else (none)) = some r := by first | (rw [hy289]; with_reducible exact H) | (have H2_ := (Option.bind_some _ _).symm.trans H; rw [hy289]; with_reducible exact H2_) | (have H2_ := (Option.bind_some _ _).symm.trans H; with_reducible exact H2_) | with_reducible exact H | (rw [hy289]; exact H) | exact H
   have Ny289 := Aside0.mk hy289
   clear hy289
   by_cases c7 : l0.length + y289.length < 140737488355328
   ·rw [if_pos c7] at H
    have LMc7 := Aside0.mk c7
    clear c7
    obtain ⟨y292, hy292⟩ : ∃ y_ : List Int, y_ = (l0 ++ y289) := ⟨_, rfl⟩
    replace H : (some y292) = some r := by first | (rw [hy292]; with_reducible exact H) | (have H2_ := (Option.bind_some _ _).symm.trans H; rw [hy292]; with_reducible exact H2_) | (have H2_ := (Option.bind_some _ _).symm.trans H; with_reducible exact H2_) | with_reducible exact H | (rw [hy292]; exact H) | exact H
    have Ny292 := Aside0.mk hy292
    clear hy292
    obtain rfl := Option.some.inj H
    go_enter Tryz.func106, Tryz.ntmps106
    go_wp2_with (first | ((with_reducible refine gate_dst (N := 25) rfl ?_); refine Kd.R_lit (Kd.int .u8) _ 5 ?hg (N := 25) ?hd (xs := ([(wrap64 (192 + (wrap64 (Int.tdiv a1 64)))) % 256, (wrap64 (128 + (Int.tmod a1 64))) % 256] : List Int)) (inner := [.int .u8 ((wrap64 (192 + (wrap64 (Int.tdiv a1 64)))) % 256), .int .u8 ((wrap64 (128 + (Int.tmod a1 64))) % 256)]) (ok := fun _ => True) (okp := fun _ => True) ?hr ?hp (fun _ hk => hk) trivial (Below.refl _ _) (Nat.le_refl _) (by simp) ?_; (case hd => rfl); (case hg => rfl); (case hr => first | (go_simp; done) | (go_simp; rfl)); (case hp => exact (Reps.one (show Kd.M (Kd.int .u8) _ _ _ ((wrap64 (192 + (wrap64 (Int.tdiv a1 64)))) % 256) [.int .u8 ((wrap64 (192 + (wrap64 (Int.tdiv a1 64)))) % 256)] from rfl) (Reps.one (show Kd.M (Kd.int .u8) _ _ _ ((wrap64 (128 + (Int.tmod a1 64))) % 256) [.int .u8 ((wrap64 (128 + (Int.tmod a1 64))) % 256)] from rfl) (Reps.none _ _)))); intro v290 w8 ho9 hb hg_ hnew_; clear hg_ hnew_; (first | rw [← Ny289.out] at ho9 | (simp only [Int.reduceToNat] at ho9; rw [← Ny289.out] at ho9)); have n0_ := Aside0.mk (Kd.R_elder' (by (with_reducible repeat (first | apply rA | apply rN | apply rD)); exact HO0.out) (Kd.R_base ho9) hb); have n1_ := Aside0.mk (Kd.R_lower (Kd.R_new' (Kd.R_newM (M := fun k_ => (P0_ k_ ∨ w.heap.size ≤ k_)) ho9 (by first | exact HK.out.1 | exact (show Kept w _ (fun k_ => P0_ k_) from by repeat (first | (with_reducible first | exact HK.out | apply Kept.alloc | apply Kept.drewN | apply Kept.drew) | exact HK.out)).1) (fun k_ h_ => .inr h_)) (Kd.R_lt (by (with_reducible repeat (first | apply rA | apply rN | apply rD)); exact HO0.out))) (below_size (by repeat (first | (with_reducible first | exact HB.out | apply bA | apply bN | apply bD) | exact HB.out)))); have n2_ := Aside0.mk (Kept.below (S := (fun k_ => P0_ k_)) (by repeat (first | (with_reducible first | exact HK.out | apply Kept.alloc | apply Kept.drewN | apply Kept.drew) | exact HK.out)) hb); have n3_ := Aside0.mk (below_step (by repeat (first | (with_reducible first | exact HB.out | apply bA | apply bN | apply bD) | exact HB.out)) hb); clear HO0; clear HK; clear HB; have HO0 := n0_; have HO291 := n1_; have HK := n2_; have HB := n3_; clear n0_ n1_ n2_ n3_; clear hb ho9; obtain ⟨Ao11, co11, eo11⟩ := Kd.R_slice HO291.out; subst eo11) | ((with_reducible refine gate_builtin (b := .append) (xs := #[.tmp 16, .tmp 25]) rfl ?_); at_builtin; refine Kd.R_append_rows (Kd.int .u8) (w0 := w0) w0.heap.size rfl (.tmp 16) (.tmp 25) 103 5 (.int .u8 0) 1 rfl Tryz.underlying103 info5 rfl (by decide) (by omega) u9000_ l0 y289 _ _ _ (fun k_ => (P0_ k_ ∨ w.heap.size ≤ k_) ∧ some k_ ≠ (.slice Ao11 y289.length co11 : Value).ownBlock) (fun _ => False) rfl rfl ?aO ?aR (fun _ _ h => h) (fun _ h => h.elim) ?aF ?aB ?aS ?aL ?_; (case aR => repeat (first | exact (Kd.R_reads' HO291.out).2.2 | (with_reducible refine Kd.C_alloc ?_ _) | (with_reducible refine Kd.C_drewN ?_ _) | (with_reducible refine Kd.C_drew ?_))); (case aB => exact (by repeat (first | (with_reducible first | exact HB.out | apply bA | apply bN | apply bD) | exact HB.out))); (case aF => exact (fun k_ hk => ⟨(.inr (Nat.le_trans (by first | exact HK.out.1 | exact (show Kept w _ (fun k_ => P0_ k_) from by repeat (first | (with_reducible first | exact HK.out | apply Kept.alloc | apply Kept.drewN | apply Kept.drew) | exact HK.out)).1) hk)), Kd.fresh' (Kd.R_lt (by (with_reducible repeat (first | apply rA | apply rN | apply rD)); exact HO291.out)) k_ hk⟩)); (case aO => exact (by (with_reducible repeat (first | apply rA | apply rN | apply rD)); exact HO0.out)); (case aS => exact (below_size (by repeat (first | (with_reducible first | exact HB.out | apply bA | apply bN | apply bD) | exact HB.out)))); (case aL => have := LMc7.out; omega); intro v293 w10 ho hb hg hat; rw [← Ny292.out] at ho; have n0_ := Aside0.mk (Kd.R_after (ok := (fun k_ => (P0_ k_ ∨ w.heap.size ≤ k_))) (by (with_reducible repeat (first | apply rA | apply rN | apply rD)); exact Kd.R_mono HO291.out (fun _ hk => ⟨hk.1.1, hk.2⟩)) hg hat); have n1_ := Aside0.mk (hb); have n2_ := Aside0.mk (Kept.of_grown (S := (fun k_ => P0_ k_)) hg (by repeat (first | (with_reducible first | exact HK.out | apply Kept.alloc | apply Kept.drewN | apply Kept.drew) | exact HK.out)) (fun k_ e_ => (HO0.out.1 k_ e_).1)); have n3_ := Aside0.mk (ho); clear HO291; clear HB; clear HK; clear HO0; have HO291 := n0_; have HB := n1_; have HK := n2_; have HO294 := n3_; clear n0_ n1_ n2_ n3_; clear ho hb hg hat))
    go_ret
    exact ⟨_, by first | rfl | (simp [errW_none, errW_some] <;> rfl) | (simp [*, errW_none, errW_some] <;> rfl), by (with_reducible repeat (first | apply rA | apply rN | apply rD)); exact Kd.R_mono HO294.out (fun _ hk => hk.1), by repeat (first | (with_reducible first | exact HB.out | apply bA | apply bN | apply bD) | exact HB.out), by repeat (first | (with_reducible first | exact HK.out | apply Kept.alloc | apply Kept.drewN | apply Kept.drew) | exact HK.out)⟩
   ·rw [if_neg c7] at H
    exact absurd H (by simp)
  ·rw [if_neg c6] at H
   have c6b0 : decide (a1 < 2048) = false := decide_eq_false c6
   clear c6
   have HC12 := Aside0.mk H
   clear H
   go_enter Tryz.func106, Tryz.ntmps106
   go_upto_region 5 with (fail)
   go_cut [27] (fun v27 wc => ∃ (kq : Nat) (x27_11 : Bool), v27 = .bool x27_11 ∧ Aside0 (spec_appendUTF8.j0 kq l0 a1 x27_11 = some r) ∧ Aside0 (kq ≤ k) ∧ Aside0 (Kd.R (Kd.int .u8) 5 wc w0.heap.size (fun k_ => (P0_ k_ ∨ w.heap.size ≤ k_)) u9000_ l0) ∧ Aside0 (Kept w wc (fun k_ => P0_ k_)) ∧ Aside0 (Below w0.heap.size w0 wc))
   case first =>
    have H := HC12.out
    clear HC12
    replace H := Option.bind_eq_some_iff.mp H
    obtain ⟨t295, A130, H⟩ := H
    try dsimp only at H
    have A13 := Aside0.mk A130
    clear A130
    by_cases c14 : t295 = true
    ·subst c14
     have H1 : (spec_appendUTF8.j0 k l0 a1 true) = some r := by rw [if_pos rfl] at H; exact H
     clear H
     have H := H1
     clear H1
     have H' := Aside0.mk H
     clear H
     go_wp2_with (first | ((with_reducible refine gate_callee (f := 60) rfl ?_); refine goesL_ (some 29) rfl rfl Tryz.func60 (by kernel_rfl) rfl #[.int .i64 a1] rfl (by (try simp only [List.map_toArray, List.map_cons, List.map_nil]); first | done | rfl | (simp only [List.length_drop, List.length_take]; rfl)) ?_; (with_reducible refine (spec_high.calls a1 true _ A13.out).mono ?_); rintro e w' ⟨rfl, ⟨nd, rfl⟩⟩; refine ⟨_, rfl, ?_⟩))
     go_meet
     case rel => exact ⟨_, (true), (by first | rfl | (simp; done) | (simp [*]; done)), H', ⟨by first | omega | exact Nat.le_refl _⟩, ⟨by (with_reducible repeat (first | apply rA | apply rN | apply rD)); exact HO0.out⟩, ⟨by repeat (first | (with_reducible first | exact HK.out | apply Kept.alloc | apply Kept.drewN | apply Kept.drew) | exact HK.out)⟩, ⟨by repeat (first | (with_reducible first | exact HB.out | apply bA | apply bN | apply bD) | exact HB.out)⟩⟩
    ·replace c14 := Bool.eq_false_iff.mpr c14
     subst c14
     have H1 : ((spec_low.f a1).bind fun t296 => (spec_appendUTF8.j0 k l0 a1 t296)) = some r := by rw [if_neg (show ¬ (false = true) by decide)] at H; exact H
     clear H
     have H := H1
     clear H1
     replace H := Option.bind_eq_some_iff.mp H
     obtain ⟨t296, A150, H⟩ := H
     try dsimp only at H
     have A15 := Aside0.mk A150
     clear A150
     have H' := Aside0.mk H
     clear H
     go_wp2_with (first | ((with_reducible refine gate_callee (f := 60) rfl ?_); refine goesL_ (some 29) rfl rfl Tryz.func60 (by kernel_rfl) rfl #[.int .i64 a1] rfl (by (try simp only [List.map_toArray, List.map_cons, List.map_nil]); first | done | rfl | (simp only [List.length_drop, List.length_take]; rfl)) ?_; (with_reducible refine (spec_high.calls a1 false _ A13.out).mono ?_); rintro e w' ⟨rfl, ⟨nd, rfl⟩⟩; refine ⟨_, rfl, ?_⟩) | (go_at_call 61; (with_reducible refine (spec_low.calls a1 t296 _ A15.out).mono ?_); rintro e w' ⟨rfl, ⟨nd, rfl⟩⟩))
     go_meet
     case rel => exact ⟨_, (t296), (by first | rfl | (simp; done) | (simp [*]; done)), H', ⟨by first | omega | exact Nat.le_refl _⟩, ⟨by (with_reducible repeat (first | apply rA | apply rN | apply rD)); exact HO0.out⟩, ⟨by repeat (first | (with_reducible first | exact HK.out | apply Kept.alloc | apply Kept.drewN | apply Kept.drew) | exact HK.out)⟩, ⟨by repeat (first | (with_reducible first | exact HB.out | apply bA | apply bN | apply bD) | exact HB.out)⟩⟩
   case rest =>
    clear HC12
    try clear c1
    try clear p2
    try clear c3
    try clear c3b0
    try clear c4
    try clear c6
    try clear c6b0
    try clear p6
    try clear c7
    try clear c10
    try clear c14
    obtain ⟨kq, x27_11, rfl, HA, HJ11, HO_0, HK, HB⟩ := hcut
    cases kq with
    | zero => exact absurd HA.out (by simp [spec_appendUTF8.j0])
    | succ kj11 =>
     have H := HA.out
     clear HA
     simp only [spec_appendUTF8.j0] at H
     by_cases c16 : x27_11 = true
     ·subst c16
      have H1 : ((some (([239, 191, 189] : List Int) : List Int)).bind fun y297 => (if l0.length + y297.length < 140737488355328 then (some (l0 ++ y297)) else (none))) = some r := by rw [if_pos rfl] at H; exact H
      clear H
      have H := H1
      clear H1
      obtain ⟨y297, hy297⟩ : ∃ y_ : List Int, y_ = (([239, 191, 189] : List Int)) := ⟨_, rfl⟩
      replace H : (if l0.length + y297.length < 140737488355328 then (some (l0 ++ y297)) else (none)) = some r := by first | (rw [hy297]; with_reducible exact H) | (have H2_ := (Option.bind_some _ _).symm.trans H; rw [hy297]; with_reducible exact H2_) | (have H2_ := (Option.bind_some _ _).symm.trans H; with_reducible exact H2_) | with_reducible exact H | (rw [hy297]; exact H) | exact H
      have Ny297 := Aside0.mk hy297
      clear hy297
      by_cases c17 : l0.length + y297.length < 140737488355328
      ·rw [if_pos c17] at H
       have LMc17 := Aside0.mk c17
       clear c17
       obtain ⟨y300, hy300⟩ : ∃ y_ : List Int, y_ = (l0 ++ y297) := ⟨_, rfl⟩
       replace H : (some y300) = some r := by first | (rw [hy300]; with_reducible exact H) | (have H2_ := (Option.bind_some _ _).symm.trans H; rw [hy300]; with_reducible exact H2_) | (have H2_ := (Option.bind_some _ _).symm.trans H; with_reducible exact H2_) | with_reducible exact H | (rw [hy300]; exact H) | exact H
       have Ny300 := Aside0.mk hy300
       clear hy300
       obtain rfl := Option.some.inj H
       go_wp2_with (first | ((with_reducible refine gate_dst (N := 35) rfl ?_); refine Kd.R_lit (Kd.int .u8) _ 5 ?hg (N := 35) ?hd (xs := ([239, 191, 189] : List Int)) (inner := [.int .u8 239, .int .u8 191, .int .u8 189]) (ok := fun _ => True) (okp := fun _ => True) ?hr ?hp (fun _ hk => hk) trivial (Below.refl _ _) (Nat.le_refl _) (by simp) ?_; (case hd => rfl); (case hg => rfl); (case hr => first | (go_simp; done) | (go_simp; rfl)); (case hp => exact (Reps.one (show Kd.M (Kd.int .u8) _ _ _ 239 [.int .u8 239] from rfl) (Reps.one (show Kd.M (Kd.int .u8) _ _ _ 191 [.int .u8 191] from rfl) (Reps.one (show Kd.M (Kd.int .u8) _ _ _ 189 [.int .u8 189] from rfl) (Reps.none _ _))))); intro v298 w18 ho19 hb hg_ hnew_; clear hg_ hnew_; (first | rw [← Ny297.out] at ho19 | (simp only [Int.reduceToNat] at ho19; rw [← Ny297.out] at ho19)); have n0_ := Aside0.mk (Kd.R_elder' (by (with_reducible repeat (first | apply rA | apply rN | apply rD)); exact HO_0.out) (Kd.R_base ho19) hb); have n1_ := Aside0.mk (Kd.R_lower (Kd.R_new' (Kd.R_newM (M := fun k_ => (P0_ k_ ∨ w.heap.size ≤ k_)) ho19 (by first | exact HK.out.1 | exact (show Kept w _ (fun k_ => P0_ k_) from by repeat (first | (with_reducible first | exact HK.out | apply Kept.alloc | apply Kept.drewN | apply Kept.drew) | exact HK.out)).1) (fun k_ h_ => .inr h_)) (Kd.R_lt (by (with_reducible repeat (first | apply rA | apply rN | apply rD)); exact HO_0.out))) (below_size (by repeat (first | (with_reducible first | exact HB.out | apply bA | apply bN | apply bD) | exact HB.out)))); have n2_ := Aside0.mk (Kept.below (S := (fun k_ => P0_ k_)) (by repeat (first | (with_reducible first | exact HK.out | apply Kept.alloc | apply Kept.drewN | apply Kept.drew) | exact HK.out)) hb); have n3_ := Aside0.mk (below_step (by repeat (first | (with_reducible first | exact HB.out | apply bA | apply bN | apply bD) | exact HB.out)) hb); clear HO_0; clear HK; clear HB; have HO_0 := n0_; have HO299 := n1_; have HK := n2_; have HB := n3_; clear n0_ n1_ n2_ n3_; clear hb ho19; obtain ⟨Ao21, co21, eo21⟩ := Kd.R_slice HO299.out; subst eo21) | ((with_reducible refine gate_builtin (b := .append) (xs := #[.tmp 34, .tmp 35]) rfl ?_); at_builtin; refine Kd.R_append_rows (Kd.int .u8) (w0 := w0) w0.heap.size rfl (.tmp 34) (.tmp 35) 103 5 (.int .u8 0) 1 rfl Tryz.underlying103 info5 rfl (by decide) (by omega) u9000_ l0 y297 _ _ _ (fun k_ => (P0_ k_ ∨ w.heap.size ≤ k_) ∧ some k_ ≠ (.slice Ao21 y297.length co21 : Value).ownBlock) (fun _ => False) rfl rfl ?aO ?aR (fun _ _ h => h) (fun _ h => h.elim) ?aF ?aB ?aS ?aL ?_; (case aR => repeat (first | exact (Kd.R_reads' HO299.out).2.2 | (with_reducible refine Kd.C_alloc ?_ _) | (with_reducible refine Kd.C_drewN ?_ _) | (with_reducible refine Kd.C_drew ?_))); (case aB => exact (by repeat (first | (with_reducible first | exact HB.out | apply bA | apply bN | apply bD) | exact HB.out))); (case aF => exact (fun k_ hk => ⟨(.inr (Nat.le_trans (by first | exact HK.out.1 | exact (show Kept w _ (fun k_ => P0_ k_) from by repeat (first | (with_reducible first | exact HK.out | apply Kept.alloc | apply Kept.drewN | apply Kept.drew) | exact HK.out)).1) hk)), Kd.fresh' (Kd.R_lt (by (with_reducible repeat (first | apply rA | apply rN | apply rD)); exact HO299.out)) k_ hk⟩)); (case aO => exact (by (with_reducible repeat (first | apply rA | apply rN | apply rD)); exact HO_0.out)); (case aS => exact (below_size (by repeat (first | (with_reducible first | exact HB.out | apply bA | apply bN | apply bD) | exact HB.out)))); (case aL => have := LMc17.out; omega); intro v301 w20 ho hb hg hat; rw [← Ny300.out] at ho; have n0_ := Aside0.mk (Kd.R_after (ok := (fun k_ => (P0_ k_ ∨ w.heap.size ≤ k_))) (by (with_reducible repeat (first | apply rA | apply rN | apply rD)); exact Kd.R_mono HO299.out (fun _ hk => ⟨hk.1.1, hk.2⟩)) hg hat); have n1_ := Aside0.mk (hb); have n2_ := Aside0.mk (Kept.of_grown (S := (fun k_ => P0_ k_)) hg (by repeat (first | (with_reducible first | exact HK.out | apply Kept.alloc | apply Kept.drewN | apply Kept.drew) | exact HK.out)) (fun k_ e_ => (HO_0.out.1 k_ e_).1)); have n3_ := Aside0.mk (ho); clear HO299; clear HB; clear HK; clear HO_0; have HO299 := n0_; have HB := n1_; have HK := n2_; have HO302 := n3_; clear n0_ n1_ n2_ n3_; clear ho hb hg hat))
       go_ret
       exact ⟨_, by first | rfl | (simp [errW_none, errW_some] <;> rfl) | (simp [*, errW_none, errW_some] <;> rfl), by (with_reducible repeat (first | apply rA | apply rN | apply rD)); exact Kd.R_mono HO302.out (fun _ hk => hk.1), by repeat (first | (with_reducible first | exact HB.out | apply bA | apply bN | apply bD) | exact HB.out), by repeat (first | (with_reducible first | exact HK.out | apply Kept.alloc | apply Kept.drewN | apply Kept.drew) | exact HK.out)⟩
      ·rw [if_neg c17] at H
       exact absurd H (by simp)
     ·replace c16 := Bool.eq_false_iff.mpr c16
      subst c16
      have H1 : (if a1 < 65536 then ((some (([(wrap64 (224 + (wrap64 (Int.tdiv a1 4096)))) % 256, (wrap64 (128 + (Int.tmod (wrap64 (Int.tdiv a1 64)) 64))) % 256, (wrap64 (128 + (Int.tmod a1 64))) % 256] : List Int) : List Int)).bind fun y303 => (if l0.length + y303.length < 140737488355328 then (some (l0 ++ y303)) else (none))) else ((some (([(wrap64 (240 + (wrap64 (Int.tdiv a1 262144)))) % 256, (wrap64 (128 + (Int.tmod (wrap64 (Int.tdiv a1 4096)) 64))) % 256, (wrap64 (128 + (Int.tmod (wrap64 (Int.tdiv a1 64)) 64))) % 256, (wrap64 (128 + (Int.tmod a1 64))) % 256] : List Int) : List Int)).bind fun y309 => (if l0.length + y309.length < 140737488355328 then (some (l0 ++ y309)) else (none)))) = some r := by rw [if_neg (show ¬ (false = true) by decide)] at H; exact H
      clear H
      have H := H1
      clear H1
      by_cases c22 : a1 < 65536
      ·rw [if_pos c22] at H
       have c22b0 : decide (a1 < 65536) = true := decide_eq_true c22
       clear c22
       obtain ⟨y303, hy303⟩ : ∃ y_ : List Int, y_ = (([(wrap64 (224 + (wrap64 (Int.tdiv a1 4096)))) % 256, (wrap64 (128 + (Int.tmod (wrap64 (Int.tdiv a1 64)) 64))) % 256, (wrap64 (128 + (Int.tmod a1 64))) % 256] : List Int)) := ⟨_, rfl⟩
       replace H : (if l0.length + y303.length < 140737488355328 then (some (l0 ++ y303)) else (none)) = some r := by first | (rw [hy303]; with_reducible exact H) | (have H2_ := (Option.bind_some _ _).symm.trans H; rw [hy303]; with_reducible exact H2_) | (have H2_ := (Option.bind_some _ _).symm.trans H; with_reducible exact H2_) | with_reducible exact H | (rw [hy303]; exact H) | exact H
       have Ny303 := Aside0.mk hy303
       clear hy303
       by_cases c23 : l0.length + y303.length < 140737488355328
       ·rw [if_pos c23] at H
        have LMc23 := Aside0.mk c23
        clear c23
        obtain ⟨y306, hy306⟩ : ∃ y_ : List Int, y_ = (l0 ++ y303) := ⟨_, rfl⟩
        replace H : (some y306) = some r := by first | (rw [hy306]; with_reducible exact H) | (have H2_ := (Option.bind_some _ _).symm.trans H; rw [hy306]; with_reducible exact H2_) | (have H2_ := (Option.bind_some _ _).symm.trans H; with_reducible exact H2_) | with_reducible exact H | (rw [hy306]; exact H) | exact H
        have Ny306 := Aside0.mk hy306
        clear hy306
        obtain rfl := Option.some.inj H
        go_wp2_with (first | ((with_reducible refine gate_dst (N := 54) rfl ?_); refine Kd.R_lit (Kd.int .u8) _ 5 ?hg (N := 54) ?hd (xs := ([(wrap64 (224 + (wrap64 (Int.tdiv a1 4096)))) % 256, (wrap64 (128 + (Int.tmod (wrap64 (Int.tdiv a1 64)) 64))) % 256, (wrap64 (128 + (Int.tmod a1 64))) % 256] : List Int)) (inner := [.int .u8 ((wrap64 (224 + (wrap64 (Int.tdiv a1 4096)))) % 256), .int .u8 ((wrap64 (128 + (Int.tmod (wrap64 (Int.tdiv a1 64)) 64))) % 256), .int .u8 ((wrap64 (128 + (Int.tmod a1 64))) % 256)]) (ok := fun _ => True) (okp := fun _ => True) ?hr ?hp (fun _ hk => hk) trivial (Below.refl _ _) (Nat.le_refl _) (by simp) ?_; (case hd => rfl); (case hg => rfl); (case hr => first | (go_simp; done) | (go_simp; rfl)); (case hp => exact (Reps.one (show Kd.M (Kd.int .u8) _ _ _ ((wrap64 (224 + (wrap64 (Int.tdiv a1 4096)))) % 256) [.int .u8 ((wrap64 (224 + (wrap64 (Int.tdiv a1 4096)))) % 256)] from rfl) (Reps.one (show Kd.M (Kd.int .u8) _ _ _ ((wrap64 (128 + (Int.tmod (wrap64 (Int.tdiv a1 64)) 64))) % 256) [.int .u8 ((wrap64 (128 + (Int.tmod (wrap64 (Int.tdiv a1 64)) 64))) % 256)] from rfl) (Reps.one (show Kd.M (Kd.int .u8) _ _ _ ((wrap64 (128 + (Int.tmod a1 64))) % 256) [.int .u8 ((wrap64 (128 + (Int.tmod a1 64))) % 256)] from rfl) (Reps.none _ _))))); intro v304 w24 ho25 hb hg_ hnew_; clear hg_ hnew_; (first | rw [← Ny303.out] at ho25 | (simp only [Int.reduceToNat] at ho25; rw [← Ny303.out] at ho25)); have n0_ := Aside0.mk (Kd.R_elder' (by (with_reducible repeat (first | apply rA | apply rN | apply rD)); exact HO_0.out) (Kd.R_base ho25) hb); have n1_ := Aside0.mk (Kd.R_lower (Kd.R_new' (Kd.R_newM (M := fun k_ => (P0_ k_ ∨ w.heap.size ≤ k_)) ho25 (by first | exact HK.out.1 | exact (show Kept w _ (fun k_ => P0_ k_) from by repeat (first | (with_reducible first | exact HK.out | apply Kept.alloc | apply Kept.drewN | apply Kept.drew) | exact HK.out)).1) (fun k_ h_ => .inr h_)) (Kd.R_lt (by (with_reducible repeat (first | apply rA | apply rN | apply rD)); exact HO_0.out))) (below_size (by repeat (first | (with_reducible first | exact HB.out | apply bA | apply bN | apply bD) | exact HB.out)))); have n2_ := Aside0.mk (Kept.below (S := (fun k_ => P0_ k_)) (by repeat (first | (with_reducible first | exact HK.out | apply Kept.alloc | apply Kept.drewN | apply Kept.drew) | exact HK.out)) hb); have n3_ := Aside0.mk (below_step (by repeat (first | (with_reducible first | exact HB.out | apply bA | apply bN | apply bD) | exact HB.out)) hb); clear HO_0; clear HK; clear HB; have HO_0 := n0_; have HO305 := n1_; have HK := n2_; have HB := n3_; clear n0_ n1_ n2_ n3_; clear hb ho25; obtain ⟨Ao27, co27, eo27⟩ := Kd.R_slice HO305.out; subst eo27) | ((with_reducible refine gate_builtin (b := .append) (xs := #[.tmp 40, .tmp 54]) rfl ?_); at_builtin; refine Kd.R_append_rows (Kd.int .u8) (w0 := w0) w0.heap.size rfl (.tmp 40) (.tmp 54) 103 5 (.int .u8 0) 1 rfl Tryz.underlying103 info5 rfl (by decide) (by omega) u9000_ l0 y303 _ _ _ (fun k_ => (P0_ k_ ∨ w.heap.size ≤ k_) ∧ some k_ ≠ (.slice Ao27 y303.length co27 : Value).ownBlock) (fun _ => False) rfl rfl ?aO ?aR (fun _ _ h => h) (fun _ h => h.elim) ?aF ?aB ?aS ?aL ?_; (case aR => repeat (first | exact (Kd.R_reads' HO305.out).2.2 | (with_reducible refine Kd.C_alloc ?_ _) | (with_reducible refine Kd.C_drewN ?_ _) | (with_reducible refine Kd.C_drew ?_))); (case aB => exact (by repeat (first | (with_reducible first | exact HB.out | apply bA | apply bN | apply bD) | exact HB.out))); (case aF => exact (fun k_ hk => ⟨(.inr (Nat.le_trans (by first | exact HK.out.1 | exact (show Kept w _ (fun k_ => P0_ k_) from by repeat (first | (with_reducible first | exact HK.out | apply Kept.alloc | apply Kept.drewN | apply Kept.drew) | exact HK.out)).1) hk)), Kd.fresh' (Kd.R_lt (by (with_reducible repeat (first | apply rA | apply rN | apply rD)); exact HO305.out)) k_ hk⟩)); (case aO => exact (by (with_reducible repeat (first | apply rA | apply rN | apply rD)); exact HO_0.out)); (case aS => exact (below_size (by repeat (first | (with_reducible first | exact HB.out | apply bA | apply bN | apply bD) | exact HB.out)))); (case aL => have := LMc23.out; omega); intro v307 w26 ho hb hg hat; rw [← Ny306.out] at ho; have n0_ := Aside0.mk (Kd.R_after (ok := (fun k_ => (P0_ k_ ∨ w.heap.size ≤ k_))) (by (with_reducible repeat (first | apply rA | apply rN | apply rD)); exact Kd.R_mono HO305.out (fun _ hk => ⟨hk.1.1, hk.2⟩)) hg hat); have n1_ := Aside0.mk (hb); have n2_ := Aside0.mk (Kept.of_grown (S := (fun k_ => P0_ k_)) hg (by repeat (first | (with_reducible first | exact HK.out | apply Kept.alloc | apply Kept.drewN | apply Kept.drew) | exact HK.out)) (fun k_ e_ => (HO_0.out.1 k_ e_).1)); have n3_ := Aside0.mk (ho); clear HO305; clear HB; clear HK; clear HO_0; have HO305 := n0_; have HB := n1_; have HK := n2_; have HO308 := n3_; clear n0_ n1_ n2_ n3_; clear ho hb hg hat))
        go_ret
        exact ⟨_, by first | rfl | (simp [errW_none, errW_some] <;> rfl) | (simp [*, errW_none, errW_some] <;> rfl), by (with_reducible repeat (first | apply rA | apply rN | apply rD)); exact Kd.R_mono HO308.out (fun _ hk => hk.1), by repeat (first | (with_reducible first | exact HB.out | apply bA | apply bN | apply bD) | exact HB.out), by repeat (first | (with_reducible first | exact HK.out | apply Kept.alloc | apply Kept.drewN | apply Kept.drew) | exact HK.out)⟩
       ·rw [if_neg c23] at H
        exact absurd H (by simp)
      ·rw [if_neg c22] at H
       have c22b0 : decide (a1 < 65536) = false := decide_eq_false c22
       clear c22
       obtain ⟨y309, hy309⟩ : ∃ y_ : List Int, y_ = (([(wrap64 (240 + (wrap64 (Int.tdiv a1 262144)))) % 256, (wrap64 (128 + (Int.tmod (wrap64 (Int.tdiv a1 4096)) 64))) % 256, (wrap64 (128 + (Int.tmod (wrap64 (Int.tdiv a1 64)) 64))) % 256, (wrap64 (128 + (Int.tmod a1 64))) % 256] : List Int)) := ⟨_, rfl⟩
       replace H : (if l0.length + y309.length < 140737488355328 then (some (l0 ++ y309)) else (none)) = some r := by first | (rw [hy309]; with_reducible exact H) | (have H2_ := (Option.bind_some _ _).symm.trans H; rw [hy309]; with_reducible exact H2_) | (have H2_ := (Option.bind_some _ _).symm.trans H; with_reducible exact H2_) | with_reducible exact H | (rw [hy309]; exact H) | exact H
       have Ny309 := Aside0.mk hy309
       clear hy309
       by_cases c28 : l0.length + y309.length < 140737488355328
       ·rw [if_pos c28] at H
        have LMc28 := Aside0.mk c28
        clear c28
        obtain ⟨y312, hy312⟩ : ∃ y_ : List Int, y_ = (l0 ++ y309) := ⟨_, rfl⟩
        replace H : (some y312) = some r := by first | (rw [hy312]; with_reducible exact H) | (have H2_ := (Option.bind_some _ _).symm.trans H; rw [hy312]; with_reducible exact H2_) | (have H2_ := (Option.bind_some _ _).symm.trans H; with_reducible exact H2_) | with_reducible exact H | (rw [hy312]; exact H) | exact H
        have Ny312 := Aside0.mk hy312
        clear hy312
        obtain rfl := Option.some.inj H
        go_wp2_with (first | ((with_reducible refine gate_dst (N := 75) rfl ?_); refine Kd.R_lit (Kd.int .u8) _ 5 ?hg (N := 75) ?hd (xs := ([(wrap64 (240 + (wrap64 (Int.tdiv a1 262144)))) % 256, (wrap64 (128 + (Int.tmod (wrap64 (Int.tdiv a1 4096)) 64))) % 256, (wrap64 (128 + (Int.tmod (wrap64 (Int.tdiv a1 64)) 64))) % 256, (wrap64 (128 + (Int.tmod a1 64))) % 256] : List Int)) (inner := [.int .u8 ((wrap64 (240 + (wrap64 (Int.tdiv a1 262144)))) % 256), .int .u8 ((wrap64 (128 + (Int.tmod (wrap64 (Int.tdiv a1 4096)) 64))) % 256), .int .u8 ((wrap64 (128 + (Int.tmod (wrap64 (Int.tdiv a1 64)) 64))) % 256), .int .u8 ((wrap64 (128 + (Int.tmod a1 64))) % 256)]) (ok := fun _ => True) (okp := fun _ => True) ?hr ?hp (fun _ hk => hk) trivial (Below.refl _ _) (Nat.le_refl _) (by simp) ?_; (case hd => rfl); (case hg => rfl); (case hr => first | (go_simp; done) | (go_simp; rfl)); (case hp => exact (Reps.one (show Kd.M (Kd.int .u8) _ _ _ ((wrap64 (240 + (wrap64 (Int.tdiv a1 262144)))) % 256) [.int .u8 ((wrap64 (240 + (wrap64 (Int.tdiv a1 262144)))) % 256)] from rfl) (Reps.one (show Kd.M (Kd.int .u8) _ _ _ ((wrap64 (128 + (Int.tmod (wrap64 (Int.tdiv a1 4096)) 64))) % 256) [.int .u8 ((wrap64 (128 + (Int.tmod (wrap64 (Int.tdiv a1 4096)) 64))) % 256)] from rfl) (Reps.one (show Kd.M (Kd.int .u8) _ _ _ ((wrap64 (128 + (Int.tmod (wrap64 (Int.tdiv a1 64)) 64))) % 256) [.int .u8 ((wrap64 (128 + (Int.tmod (wrap64 (Int.tdiv a1 64)) 64))) % 256)] from rfl) (Reps.one (show Kd.M (Kd.int .u8) _ _ _ ((wrap64 (128 + (Int.tmod a1 64))) % 256) [.int .u8 ((wrap64 (128 + (Int.tmod a1 64))) % 256)] from rfl) (Reps.none _ _)))))); intro v310 w29 ho30 hb hg_ hnew_; clear hg_ hnew_; (first | rw [← Ny309.out] at ho30 | (simp only [Int.reduceToNat] at ho30; rw [← Ny309.out] at ho30)); have n0_ := Aside0.mk (Kd.R_elder' (by (with_reducible repeat (first | apply rA | apply rN | apply rD)); exact HO_0.out) (Kd.R_base ho30) hb); have n1_ := Aside0.mk (Kd.R_lower (Kd.R_new' (Kd.R_newM (M := fun k_ => (P0_ k_ ∨ w.heap.size ≤ k_)) ho30 (by first | exact HK.out.1 | exact (show Kept w _ (fun k_ => P0_ k_) from by repeat (first | (with_reducible first | exact HK.out | apply Kept.alloc | apply Kept.drewN | apply Kept.drew) | exact HK.out)).1) (fun k_ h_ => .inr h_)) (Kd.R_lt (by (with_reducible repeat (first | apply rA | apply rN | apply rD)); exact HO_0.out))) (below_size (by repeat (first | (with_reducible first | exact HB.out | apply bA | apply bN | apply bD) | exact HB.out)))); have n2_ := Aside0.mk (Kept.below (S := (fun k_ => P0_ k_)) (by repeat (first | (with_reducible first | exact HK.out | apply Kept.alloc | apply Kept.drewN | apply Kept.drew) | exact HK.out)) hb); have n3_ := Aside0.mk (below_step (by repeat (first | (with_reducible first | exact HB.out | apply bA | apply bN | apply bD) | exact HB.out)) hb); clear HO_0; clear HK; clear HB; have HO_0 := n0_; have HO311 := n1_; have HK := n2_; have HB := n3_; clear n0_ n1_ n2_ n3_; clear hb ho30; obtain ⟨Ao32, co32, eo32⟩ := Kd.R_slice HO311.out; subst eo32) | ((with_reducible refine gate_builtin (b := .append) (xs := #[.tmp 56, .tmp 75]) rfl ?_); at_builtin; refine Kd.R_append_rows (Kd.int .u8) (w0 := w0) w0.heap.size rfl (.tmp 56) (.tmp 75) 103 5 (.int .u8 0) 1 rfl Tryz.underlying103 info5 rfl (by decide) (by omega) u9000_ l0 y309 _ _ _ (fun k_ => (P0_ k_ ∨ w.heap.size ≤ k_) ∧ some k_ ≠ (.slice Ao32 y309.length co32 : Value).ownBlock) (fun _ => False) rfl rfl ?aO ?aR (fun _ _ h => h) (fun _ h => h.elim) ?aF ?aB ?aS ?aL ?_; (case aR => repeat (first | exact (Kd.R_reads' HO311.out).2.2 | (with_reducible refine Kd.C_alloc ?_ _) | (with_reducible refine Kd.C_drewN ?_ _) | (with_reducible refine Kd.C_drew ?_))); (case aB => exact (by repeat (first | (with_reducible first | exact HB.out | apply bA | apply bN | apply bD) | exact HB.out))); (case aF => exact (fun k_ hk => ⟨(.inr (Nat.le_trans (by first | exact HK.out.1 | exact (show Kept w _ (fun k_ => P0_ k_) from by repeat (first | (with_reducible first | exact HK.out | apply Kept.alloc | apply Kept.drewN | apply Kept.drew) | exact HK.out)).1) hk)), Kd.fresh' (Kd.R_lt (by (with_reducible repeat (first | apply rA | apply rN | apply rD)); exact HO311.out)) k_ hk⟩)); (case aO => exact (by (with_reducible repeat (first | apply rA | apply rN | apply rD)); exact HO_0.out)); (case aS => exact (below_size (by repeat (first | (with_reducible first | exact HB.out | apply bA | apply bN | apply bD) | exact HB.out)))); (case aL => have := LMc28.out; omega); intro v313 w31 ho hb hg hat; rw [← Ny312.out] at ho; have n0_ := Aside0.mk (Kd.R_after (ok := (fun k_ => (P0_ k_ ∨ w.heap.size ≤ k_))) (by (with_reducible repeat (first | apply rA | apply rN | apply rD)); exact Kd.R_mono HO311.out (fun _ hk => ⟨hk.1.1, hk.2⟩)) hg hat); have n1_ := Aside0.mk (hb); have n2_ := Aside0.mk (Kept.of_grown (S := (fun k_ => P0_ k_)) hg (by repeat (first | (with_reducible first | exact HK.out | apply Kept.alloc | apply Kept.drewN | apply Kept.drew) | exact HK.out)) (fun k_ e_ => (HO_0.out.1 k_ e_).1)); have n3_ := Aside0.mk (ho); clear HO311; clear HB; clear HK; clear HO_0; have HO311 := n0_; have HB := n1_; have HK := n2_; have HO314 := n3_; clear n0_ n1_ n2_ n3_; clear ho hb hg hat))
        go_ret
        exact ⟨_, by first | rfl | (simp [errW_none, errW_some] <;> rfl) | (simp [*, errW_none, errW_some] <;> rfl), by (with_reducible repeat (first | apply rA | apply rN | apply rD)); exact Kd.R_mono HO314.out (fun _ hk => hk.1), by repeat (first | (with_reducible first | exact HB.out | apply bA | apply bN | apply bD) | exact HB.out), by repeat (first | (with_reducible first | exact HK.out | apply Kept.alloc | apply Kept.drewN | apply Kept.drew) | exact HK.out)⟩
       ·rw [if_neg c28] at H
        exact absurd H (by simp)
def spec_Unquote.l0 : Nat → List Int → ByteArray → Int → Option (ByteArray)
 | 0, _, _, _ => none
 | k + 1, x3, x4, x5 => if x5 < (x4.size : Int) then (if 0 ≤ x5 then (if (bt x4 x5) = 92 then ((spec_unit.f k x4 x5).bind fun bt318 => (if bt318.2 = true then ((spec_unit.f k x4 (wrap64 (x5 + 6))).bind fun bt324 => (if bt324.2 = true then ((spec_high.f bt318.1).bind fun t326 => (if t326 = true then ((spec_low.f bt324.1).bind fun t327 => (if t327 = true then ((spec_appendUTF8.f k x3 (wrap64 ((wrap64 (65536 + (wrap64 ((wrap64 (bt318.1 - 55296)) * 1024)))) + (wrap64 (bt324.1 - 56320))))).bind fun t328 => (spec_Unquote.l0 k t328 x4 (wrap64 ((wrap64 (x5 + 6)) + 6)))) else ((spec_appendUTF8.f k x3 bt318.1).bind fun t331 => (spec_Unquote.l0 k t331 x4 (wrap64 (x5 + 6)))))) else ((spec_appendUTF8.f k x3 bt318.1).bind fun t334 => (spec_Unquote.l0 k t334 x4 (wrap64 (x5 + 6)))))) else ((spec_appendUTF8.f k x3 bt318.1).bind fun t337 => (spec_Unquote.l0 k t337 x4 (wrap64 (x5 + 6)))))) else (if 0 ≤ (wrap64 (x5 + 1)) then (if (wrap64 (x5 + 1)) < (x4.size : Int) then ((spec_short.f (bt x4 (wrap64 (x5 + 1)))).bind fun t320 => (if x3.length < 140737488355328 then (spec_Unquote.l0 k (x3 ++ [t320]) x4 (wrap64 (x5 + 2))) else (none))) else (none)) else (none)))) else (if x3.length < 140737488355328 then (spec_Unquote.l0 k (x3 ++ [bt x4 x5]) x4 (wrap64 (x5 + 1))) else (none))) else (none)) else (some (strOfNums x3))
def spec_Unquote.f (k : Nat) (a0 : ByteArray) : Option (ByteArray) := if 1 ≤ (wrap64 ((a0.size : Int) - 1)) then (if (wrap64 ((a0.size : Int) - 1)) ≤ (a0.size : Int) then (spec_Unquote.l0 k ([] : List Int) (a0.extract 1 ((wrap64 ((a0.size : Int) - 1)) : Int).toNat) 0) else (none)) else (none)
theorem spec_Unquote.calls (k : Nat) (a0 : ByteArray) (r : ByteArray) (w : World) (h : spec_Unquote.f k a0 = some r) :
  Calls Tryz.prog 74 #[.string a0] w fun e w' => e = .returned (.string r) ∧ Below w.heap.size w w' := by
 have HB := Aside0.mk (Below.refl w.heap.size w)
 have H : (if 1 ≤ (wrap64 ((a0.size : Int) - 1)) then (if (wrap64 ((a0.size : Int) - 1)) ≤ (a0.size : Int) then (spec_Unquote.l0 k ([] : List Int) (a0.extract 1 ((wrap64 ((a0.size : Int) - 1)) : Int).toNat) 0) else (none)) else (none)) = some r := h
 clear h
 by_cases c2 : 1 ≤ (wrap64 ((a0.size : Int) - 1))
 ·rw [if_pos c2] at H
  have c2b0 := eq_true c2
  have c2b1 : decide (1 ≤ (wrap64 ((a0.size : Int) - 1))) = true := decide_eq_true c2
  clear c2
  by_cases c3 : (wrap64 ((a0.size : Int) - 1)) ≤ (a0.size : Int)
  ·rw [if_pos c3] at H
   have c3b0 := eq_true c3
   have c3b1 : decide ((wrap64 ((a0.size : Int) - 1)) ≤ (a0.size : Int)) = true := decide_eq_true c3
   clear c3
   have H' := Aside0.mk H
   clear H
   go_enter Tryz.func74, Tryz.ntmps74
   go_wp2
   generalize a0.extract 1 (wrap64 ((a0.size : Int) - 1)).toNat = t4 at *
   go_loopg [3, 5] k (fun kq v3 v5 w' => ∃ (x3_1 : List Int) (x5_1 : Int), v5 = .int .i64 x5_1 ∧ Aside0 (spec_Unquote.l0 kq x3_1 t4 x5_1 = some r) ∧ Aside0 (kq ≤ k) ∧ Aside0 (Kd.R (Kd.int .u8) 5 w' w.heap.size (fun _ => True) v3 x3_1) ∧ Aside0 (Below w.heap.size w w'))
   case atStart => exact ⟨(([] : List Int)), (0), (by first | rfl | (simp; done) | (simp [*]; done)), H', ⟨Nat.le_refl _⟩, ⟨by first | exact Kd.R_nil _ _ _ _ _ | exact Kd.N_nil _ _ _ _ _ | exact Kd.V_nil _ _ _ _ _ | exact Kd.Q_nil _ _ _ _ _ | exact Kd.S_nil _ _ _ _ _⟩, ⟨by repeat (first | (with_reducible first | exact HB.out | apply bA | apply bN | apply bD) | exact HB.out)⟩⟩
   case round =>
    clear H'
    try clear c2
    try clear c2b0
    try clear c2b1
    try clear p2
    try clear c3
    try clear c3b0
    try clear c3b1
    obtain ⟨x3_1, x5_1, rfl, HA, HK1, HO_3, HB⟩ := hrel
    cases gk with
    | zero => exact absurd HA.out (by simp [spec_Unquote.l0])
    | succ k1 =>
     have H := HA.out
     clear HA
     simp only [spec_Unquote.l0] at H
     by_cases c4 : x5_1 < (t4.size : Int)
     ·rw [if_pos c4] at H
      have c4b0 : decide (x5_1 < (t4.size : Int)) = true := decide_eq_true c4
      clear c4
      by_cases c5 : 0 ≤ x5_1
      ·rw [if_pos c5] at H
       have c5b0 : decide (0 ≤ x5_1) = true := decide_eq_true c5
       clear c5
       by_cases c7 : (bt t4 x5_1) = 92
       ·rw [if_pos c7] at H
        have c7b0 : ((bt t4 x5_1) == 92) = true := beq_iff_eq.mpr c7
        have c7b1 : ((bt t4 x5_1) != 92) = false := bne_eq_false_iff_eq.mpr c7
        clear c7
        replace H := Option.bind_eq_some_iff.mp H
        obtain ⟨⟨t318, t319⟩, A80, H⟩ := H
        try dsimp only at H
        have A8 := Aside0.mk A80
        clear A80
        by_cases c9 : t319 = true
        ·subst c9
         have H1 : ((spec_unit.f k1 t4 (wrap64 (x5_1 + 6))).bind fun bt324 => (if bt324.2 = true then ((spec_high.f t318).bind fun t326 => (if t326 = true then ((spec_low.f bt324.1).bind fun t327 => (if t327 = true then ((spec_appendUTF8.f k1 x3_1 (wrap64 ((wrap64 (65536 + (wrap64 ((wrap64 (t318 - 55296)) * 1024)))) + (wrap64 (bt324.1 - 56320))))).bind fun t328 => (spec_Unquote.l0 k1 t328 t4 (wrap64 ((wrap64 (x5_1 + 6)) + 6)))) else ((spec_appendUTF8.f k1 x3_1 t318).bind fun t331 => (spec_Unquote.l0 k1 t331 t4 (wrap64 (x5_1 + 6)))))) else ((spec_appendUTF8.f k1 x3_1 t318).bind fun t334 => (spec_Unquote.l0 k1 t334 t4 (wrap64 (x5_1 + 6)))))) else ((spec_appendUTF8.f k1 x3_1 t318).bind fun t337 => (spec_Unquote.l0 k1 t337 t4 (wrap64 (x5_1 + 6)))))) = some r := by rw [if_pos rfl] at H; exact H
         clear H
         have H := H1
         clear H1
         replace H := Option.bind_eq_some_iff.mp H
         obtain ⟨⟨t324, t325⟩, A100, H⟩ := H
         try dsimp only at H
         have A10 := Aside0.mk A100
         clear A100
         by_cases c11 : t325 = true
         ·subst c11
          have H1 : ((spec_high.f t318).bind fun t326 => (if t326 = true then ((spec_low.f t324).bind fun t327 => (if t327 = true then ((spec_appendUTF8.f k1 x3_1 (wrap64 ((wrap64 (65536 + (wrap64 ((wrap64 (t318 - 55296)) * 1024)))) + (wrap64 (t324 - 56320))))).bind fun t328 => (spec_Unquote.l0 k1 t328 t4 (wrap64 ((wrap64 (x5_1 + 6)) + 6)))) else ((spec_appendUTF8.f k1 x3_1 t318).bind fun t331 => (spec_Unquote.l0 k1 t331 t4 (wrap64 (x5_1 + 6)))))) else ((spec_appendUTF8.f k1 x3_1 t318).bind fun t334 => (spec_Unquote.l0 k1 t334 t4 (wrap64 (x5_1 + 6)))))) = some r := by rw [if_pos rfl] at H; exact H
          clear H
          have H := H1
          clear H1
          replace H := Option.bind_eq_some_iff.mp H
          obtain ⟨t326, A120, H⟩ := H
          try dsimp only at H
          have A12 := Aside0.mk A120
          clear A120
          by_cases c13 : t326 = true
          ·subst c13
           have H1 : ((spec_low.f t324).bind fun t327 => (if t327 = true then ((spec_appendUTF8.f k1 x3_1 (wrap64 ((wrap64 (65536 + (wrap64 ((wrap64 (t318 - 55296)) * 1024)))) + (wrap64 (t324 - 56320))))).bind fun t328 => (spec_Unquote.l0 k1 t328 t4 (wrap64 ((wrap64 (x5_1 + 6)) + 6)))) else ((spec_appendUTF8.f k1 x3_1 t318).bind fun t331 => (spec_Unquote.l0 k1 t331 t4 (wrap64 (x5_1 + 6)))))) = some r := by rw [if_pos rfl] at H; exact H
           clear H
           have H := H1
           clear H1
           replace H := Option.bind_eq_some_iff.mp H
           obtain ⟨t327, A140, H⟩ := H
           try dsimp only at H
           have A14 := Aside0.mk A140
           clear A140
           by_cases c15 : t327 = true
           ·subst c15
            have H1 : ((spec_appendUTF8.f k1 x3_1 (wrap64 ((wrap64 (65536 + (wrap64 ((wrap64 (t318 - 55296)) * 1024)))) + (wrap64 (t324 - 56320))))).bind fun t328 => (spec_Unquote.l0 k1 t328 t4 (wrap64 ((wrap64 (x5_1 + 6)) + 6)))) = some r := by rw [if_pos rfl] at H; exact H
            clear H
            have H := H1
            clear H1
            replace H := Option.bind_eq_some_iff.mp H
            obtain ⟨t328, A160, H⟩ := H
            try dsimp only at H
            have A16 := Aside0.mk A160
            clear A160
            have H' := Aside0.mk H
            clear H
            have p6 : 0 ≤ (x5_1 : Int) := of_decide_eq_true (by first | (with_reducible assumption) | assumption)
            have q6 : x5_1 < (t4.size : Int) := of_decide_eq_true (by first | (with_reducible assumption) | assumption)
            have hx6 := bt_at t4 x5_1
            replace p6 := eq_true p6
            replace q6 := eq_true q6
            go_wp2_with (first | ((with_reducible refine gate_callee (f := 59) rfl ?_); refine goesL_ (some 34) rfl rfl Tryz.func59 (by kernel_rfl) rfl #[.string t4, .int .i64 x5_1] rfl (by (try simp only [List.map_toArray, List.map_cons, List.map_nil]); first | done | rfl | (simp only [List.length_drop, List.length_take]; rfl)) ?_; (with_reducible refine (spec_unit.calls k1 t4 x5_1 t318 true _ A8.out).mono ?_); rintro e w' ⟨rfl, ⟨nd, rfl⟩⟩; refine ⟨_, rfl, ?_⟩) | ((with_reducible refine gate_callee (f := 59) rfl ?_); refine goesL_ (some 54) rfl rfl Tryz.func59 (by kernel_rfl) rfl #[.string t4, .int .i64 (wrap64 (x5_1 + 6))] rfl (by (try simp only [List.map_toArray, List.map_cons, List.map_nil]); first | done | rfl | (simp only [List.length_drop, List.length_take]; rfl)) ?_; (with_reducible refine (spec_unit.calls k1 t4 (wrap64 (x5_1 + 6)) t324 true _ A10.out).mono ?_); rintro e w' ⟨rfl, ⟨nd, rfl⟩⟩; refine ⟨_, rfl, ?_⟩) | (go_at_call 60; (with_reducible refine (spec_high.calls t318 true _ A12.out).mono ?_); rintro e w' ⟨rfl, ⟨nd, rfl⟩⟩) | (go_at_call 61; (with_reducible refine (spec_low.calls t324 true _ A14.out).mono ?_); rintro e w' ⟨rfl, ⟨nd, rfl⟩⟩; obtain ⟨Ao17, co17, eo17⟩ := Kd.R_slice HO_3.out; subst eo17) | ((with_reducible refine gate_callee (f := 106) rfl ?_); refine goesL_ (some 77) rfl rfl Tryz.func106 (by kernel_rfl) rfl #[.slice Ao17 x3_1.length co17, .int .i64 (wrap64 ((wrap64 (65536 + (wrap64 ((wrap64 (t318 - 55296)) * 1024)))) + (wrap64 (t324 - 56320))))] rfl (by (try simp only [List.map_toArray, List.map_cons, List.map_nil]); first | done | rfl | (simp only [List.length_drop, List.length_take]; rfl)) ?_; (with_reducible refine (spec_appendUTF8.calls k1 (fun k_ => some k_ = (.slice Ao17 x3_1.length co17 : Value).ownBlock) (.slice Ao17 x3_1.length co17) x3_1 (wrap64 ((wrap64 (65536 + (wrap64 ((wrap64 (t318 - 55296)) * 1024)))) + (wrap64 (t324 - 56320)))) t328 w _ ?side1 ?side2 A16.out).mono ?_); (case side1 => repeat (first | (with_reducible first | exact HB.out | apply bA | apply bN | apply bD) | exact HB.out)); (case side2 => exact Kd.R_tight rfl HO_3.out); rintro e w18 ⟨v329, rfl, ho0, hb, hkp⟩; refine ⟨_, rfl, ?_⟩; have n0_ := Aside0.mk (Kd.R_mono (ok' := fun k_ => True) ho0 (fun k_ hk_ => trivial)); have n1_ := Aside0.mk (hb); clear HB; clear HO_3; have HO330 := n0_; have HB := n1_; clear n0_ n1_; (try clear hb); (try clear hkp); (try clear ho0)))
            go_roundg k1
            case measure => have := HK1.out; omega
            case rel => exact ⟨(t328), (wrap64 ((wrap64 (x5_1 + 6)) + 6)), (by first | rfl | (simp; done) | (simp [*]; done)), H', ⟨by have := HK1.out; omega⟩, ⟨by (with_reducible repeat (first | apply rA | apply rN | apply rD)); exact HO330.out⟩, ⟨by repeat (first | (with_reducible first | exact HB.out | apply bA | apply bN | apply bD) | exact HB.out)⟩⟩
           ·replace c15 := Bool.eq_false_iff.mpr c15
            subst c15
            have H1 : ((spec_appendUTF8.f k1 x3_1 t318).bind fun t331 => (spec_Unquote.l0 k1 t331 t4 (wrap64 (x5_1 + 6)))) = some r := by rw [if_neg (show ¬ (false = true) by decide)] at H; exact H
            clear H
            have H := H1
            clear H1
            replace H := Option.bind_eq_some_iff.mp H
            obtain ⟨t331, A190, H⟩ := H
            try dsimp only at H
            have A19 := Aside0.mk A190
            clear A190
            have H' := Aside0.mk H
            clear H
            have p6 : 0 ≤ (x5_1 : Int) := of_decide_eq_true (by first | (with_reducible assumption) | assumption)
            have q6 : x5_1 < (t4.size : Int) := of_decide_eq_true (by first | (with_reducible assumption) | assumption)
            have hx6 := bt_at t4 x5_1
            replace p6 := eq_true p6
            replace q6 := eq_true q6
            go_wp2_with (first | ((with_reducible refine gate_callee (f := 59) rfl ?_); refine goesL_ (some 34) rfl rfl Tryz.func59 (by kernel_rfl) rfl #[.string t4, .int .i64 x5_1] rfl (by (try simp only [List.map_toArray, List.map_cons, List.map_nil]); first | done | rfl | (simp only [List.length_drop, List.length_take]; rfl)) ?_; (with_reducible refine (spec_unit.calls k1 t4 x5_1 t318 true _ A8.out).mono ?_); rintro e w' ⟨rfl, ⟨nd, rfl⟩⟩; refine ⟨_, rfl, ?_⟩) | ((with_reducible refine gate_callee (f := 59) rfl ?_); refine goesL_ (some 54) rfl rfl Tryz.func59 (by kernel_rfl) rfl #[.string t4, .int .i64 (wrap64 (x5_1 + 6))] rfl (by (try simp only [List.map_toArray, List.map_cons, List.map_nil]); first | done | rfl | (simp only [List.length_drop, List.length_take]; rfl)) ?_; (with_reducible refine (spec_unit.calls k1 t4 (wrap64 (x5_1 + 6)) t324 true _ A10.out).mono ?_); rintro e w' ⟨rfl, ⟨nd, rfl⟩⟩; refine ⟨_, rfl, ?_⟩) | (go_at_call 60; (with_reducible refine (spec_high.calls t318 true _ A12.out).mono ?_); rintro e w' ⟨rfl, ⟨nd, rfl⟩⟩) | (go_at_call 61; (with_reducible refine (spec_low.calls t324 false _ A14.out).mono ?_); rintro e w' ⟨rfl, ⟨nd, rfl⟩⟩; obtain ⟨Ao20, co20, eo20⟩ := Kd.R_slice HO_3.out; subst eo20) | ((with_reducible refine gate_callee (f := 106) rfl ?_); refine goesL_ (some 77) rfl rfl Tryz.func106 (by kernel_rfl) rfl #[.slice Ao20 x3_1.length co20, .int .i64 t318] rfl (by (try simp only [List.map_toArray, List.map_cons, List.map_nil]); first | done | rfl | (simp only [List.length_drop, List.length_take]; rfl)) ?_; (with_reducible refine (spec_appendUTF8.calls k1 (fun k_ => some k_ = (.slice Ao20 x3_1.length co20 : Value).ownBlock) (.slice Ao20 x3_1.length co20) x3_1 t318 t331 w _ ?side1 ?side2 A19.out).mono ?_); (case side1 => repeat (first | (with_reducible first | exact HB.out | apply bA | apply bN | apply bD) | exact HB.out)); (case side2 => exact Kd.R_tight rfl HO_3.out); rintro e w21 ⟨v332, rfl, ho0, hb, hkp⟩; refine ⟨_, rfl, ?_⟩; have n0_ := Aside0.mk (Kd.R_mono (ok' := fun k_ => True) ho0 (fun k_ hk_ => trivial)); have n1_ := Aside0.mk (hb); clear HB; clear HO_3; have HO333 := n0_; have HB := n1_; clear n0_ n1_; (try clear hb); (try clear hkp); (try clear ho0)))
            go_roundg k1
            case measure => have := HK1.out; omega
            case rel => exact ⟨(t331), (wrap64 (x5_1 + 6)), (by first | rfl | (simp; done) | (simp [*]; done)), H', ⟨by have := HK1.out; omega⟩, ⟨by (with_reducible repeat (first | apply rA | apply rN | apply rD)); exact HO333.out⟩, ⟨by repeat (first | (with_reducible first | exact HB.out | apply bA | apply bN | apply bD) | exact HB.out)⟩⟩
          ·replace c13 := Bool.eq_false_iff.mpr c13
           subst c13
           have H1 : ((spec_appendUTF8.f k1 x3_1 t318).bind fun t334 => (spec_Unquote.l0 k1 t334 t4 (wrap64 (x5_1 + 6)))) = some r := by rw [if_neg (show ¬ (false = true) by decide)] at H; exact H
           clear H
           have H := H1
           clear H1
           replace H := Option.bind_eq_some_iff.mp H
           obtain ⟨t334, A220, H⟩ := H
           try dsimp only at H
           have A22 := Aside0.mk A220
           clear A220
           have H' := Aside0.mk H
           clear H
           have p6 : 0 ≤ (x5_1 : Int) := of_decide_eq_true (by first | (with_reducible assumption) | assumption)
           have q6 : x5_1 < (t4.size : Int) := of_decide_eq_true (by first | (with_reducible assumption) | assumption)
           have hx6 := bt_at t4 x5_1
           replace p6 := eq_true p6
           replace q6 := eq_true q6
           go_wp2_with (first | ((with_reducible refine gate_callee (f := 59) rfl ?_); refine goesL_ (some 34) rfl rfl Tryz.func59 (by kernel_rfl) rfl #[.string t4, .int .i64 x5_1] rfl (by (try simp only [List.map_toArray, List.map_cons, List.map_nil]); first | done | rfl | (simp only [List.length_drop, List.length_take]; rfl)) ?_; (with_reducible refine (spec_unit.calls k1 t4 x5_1 t318 true _ A8.out).mono ?_); rintro e w' ⟨rfl, ⟨nd, rfl⟩⟩; refine ⟨_, rfl, ?_⟩) | ((with_reducible refine gate_callee (f := 59) rfl ?_); refine goesL_ (some 54) rfl rfl Tryz.func59 (by kernel_rfl) rfl #[.string t4, .int .i64 (wrap64 (x5_1 + 6))] rfl (by (try simp only [List.map_toArray, List.map_cons, List.map_nil]); first | done | rfl | (simp only [List.length_drop, List.length_take]; rfl)) ?_; (with_reducible refine (spec_unit.calls k1 t4 (wrap64 (x5_1 + 6)) t324 true _ A10.out).mono ?_); rintro e w' ⟨rfl, ⟨nd, rfl⟩⟩; refine ⟨_, rfl, ?_⟩) | (go_at_call 60; (with_reducible refine (spec_high.calls t318 false _ A12.out).mono ?_); rintro e w' ⟨rfl, ⟨nd, rfl⟩⟩; obtain ⟨Ao23, co23, eo23⟩ := Kd.R_slice HO_3.out; subst eo23) | ((with_reducible refine gate_callee (f := 106) rfl ?_); refine goesL_ (some 77) rfl rfl Tryz.func106 (by kernel_rfl) rfl #[.slice Ao23 x3_1.length co23, .int .i64 t318] rfl (by (try simp only [List.map_toArray, List.map_cons, List.map_nil]); first | done | rfl | (simp only [List.length_drop, List.length_take]; rfl)) ?_; (with_reducible refine (spec_appendUTF8.calls k1 (fun k_ => some k_ = (.slice Ao23 x3_1.length co23 : Value).ownBlock) (.slice Ao23 x3_1.length co23) x3_1 t318 t334 w _ ?side1 ?side2 A22.out).mono ?_); (case side1 => repeat (first | (with_reducible first | exact HB.out | apply bA | apply bN | apply bD) | exact HB.out)); (case side2 => exact Kd.R_tight rfl HO_3.out); rintro e w24 ⟨v335, rfl, ho0, hb, hkp⟩; refine ⟨_, rfl, ?_⟩; have n0_ := Aside0.mk (Kd.R_mono (ok' := fun k_ => True) ho0 (fun k_ hk_ => trivial)); have n1_ := Aside0.mk (hb); clear HB; clear HO_3; have HO336 := n0_; have HB := n1_; clear n0_ n1_; (try clear hb); (try clear hkp); (try clear ho0)))
           go_roundg k1
           case measure => have := HK1.out; omega
           case rel => exact ⟨(t334), (wrap64 (x5_1 + 6)), (by first | rfl | (simp; done) | (simp [*]; done)), H', ⟨by have := HK1.out; omega⟩, ⟨by (with_reducible repeat (first | apply rA | apply rN | apply rD)); exact HO336.out⟩, ⟨by repeat (first | (with_reducible first | exact HB.out | apply bA | apply bN | apply bD) | exact HB.out)⟩⟩
         ·replace c11 := Bool.eq_false_iff.mpr c11
          subst c11
          have H1 : ((spec_appendUTF8.f k1 x3_1 t318).bind fun t337 => (spec_Unquote.l0 k1 t337 t4 (wrap64 (x5_1 + 6)))) = some r := by rw [if_neg (show ¬ (false = true) by decide)] at H; exact H
          clear H
          have H := H1
          clear H1
          replace H := Option.bind_eq_some_iff.mp H
          obtain ⟨t337, A250, H⟩ := H
          try dsimp only at H
          have A25 := Aside0.mk A250
          clear A250
          have H' := Aside0.mk H
          clear H
          have p6 : 0 ≤ (x5_1 : Int) := of_decide_eq_true (by first | (with_reducible assumption) | assumption)
          have q6 : x5_1 < (t4.size : Int) := of_decide_eq_true (by first | (with_reducible assumption) | assumption)
          have hx6 := bt_at t4 x5_1
          replace p6 := eq_true p6
          replace q6 := eq_true q6
          go_wp2_with (first | ((with_reducible refine gate_callee (f := 59) rfl ?_); refine goesL_ (some 34) rfl rfl Tryz.func59 (by kernel_rfl) rfl #[.string t4, .int .i64 x5_1] rfl (by (try simp only [List.map_toArray, List.map_cons, List.map_nil]); first | done | rfl | (simp only [List.length_drop, List.length_take]; rfl)) ?_; (with_reducible refine (spec_unit.calls k1 t4 x5_1 t318 true _ A8.out).mono ?_); rintro e w' ⟨rfl, ⟨nd, rfl⟩⟩; refine ⟨_, rfl, ?_⟩) | ((with_reducible refine gate_callee (f := 59) rfl ?_); refine goesL_ (some 54) rfl rfl Tryz.func59 (by kernel_rfl) rfl #[.string t4, .int .i64 (wrap64 (x5_1 + 6))] rfl (by (try simp only [List.map_toArray, List.map_cons, List.map_nil]); first | done | rfl | (simp only [List.length_drop, List.length_take]; rfl)) ?_; (with_reducible refine (spec_unit.calls k1 t4 (wrap64 (x5_1 + 6)) t324 false _ A10.out).mono ?_); rintro e w' ⟨rfl, ⟨nd, rfl⟩⟩; refine ⟨_, rfl, ?_⟩; obtain ⟨Ao26, co26, eo26⟩ := Kd.R_slice HO_3.out; subst eo26) | ((with_reducible refine gate_callee (f := 106) rfl ?_); refine goesL_ (some 77) rfl rfl Tryz.func106 (by kernel_rfl) rfl #[.slice Ao26 x3_1.length co26, .int .i64 t318] rfl (by (try simp only [List.map_toArray, List.map_cons, List.map_nil]); first | done | rfl | (simp only [List.length_drop, List.length_take]; rfl)) ?_; (with_reducible refine (spec_appendUTF8.calls k1 (fun k_ => some k_ = (.slice Ao26 x3_1.length co26 : Value).ownBlock) (.slice Ao26 x3_1.length co26) x3_1 t318 t337 w _ ?side1 ?side2 A25.out).mono ?_); (case side1 => repeat (first | (with_reducible first | exact HB.out | apply bA | apply bN | apply bD) | exact HB.out)); (case side2 => exact Kd.R_tight rfl HO_3.out); rintro e w27 ⟨v338, rfl, ho0, hb, hkp⟩; refine ⟨_, rfl, ?_⟩; have n0_ := Aside0.mk (Kd.R_mono (ok' := fun k_ => True) ho0 (fun k_ hk_ => trivial)); have n1_ := Aside0.mk (hb); clear HB; clear HO_3; have HO339 := n0_; have HB := n1_; clear n0_ n1_; (try clear hb); (try clear hkp); (try clear ho0)))
          go_roundg k1
          case measure => have := HK1.out; omega
          case rel => exact ⟨(t337), (wrap64 (x5_1 + 6)), (by first | rfl | (simp; done) | (simp [*]; done)), H', ⟨by have := HK1.out; omega⟩, ⟨by (with_reducible repeat (first | apply rA | apply rN | apply rD)); exact HO339.out⟩, ⟨by repeat (first | (with_reducible first | exact HB.out | apply bA | apply bN | apply bD) | exact HB.out)⟩⟩
        ·replace c9 := Bool.eq_false_iff.mpr c9
         subst c9
         have H1 : (if 0 ≤ (wrap64 (x5_1 + 1)) then (if (wrap64 (x5_1 + 1)) < (t4.size : Int) then ((spec_short.f (bt t4 (wrap64 (x5_1 + 1)))).bind fun t320 => (if x3_1.length < 140737488355328 then (spec_Unquote.l0 k1 (x3_1 ++ [t320]) t4 (wrap64 (x5_1 + 2))) else (none))) else (none)) else (none)) = some r := by rw [if_neg (show ¬ (false = true) by decide)] at H; exact H
         clear H
         have H := H1
         clear H1
         obtain ⟨ji28, hji28⟩ : ∃ j_ : Int, (wrap64 (x5_1 + 1)) = j_ := ⟨_, rfl⟩
         replace H : (if 0 ≤ (ji28) then (if (ji28) < (t4.size : Int) then ((spec_short.f (bt t4 (ji28))).bind fun t320 => (if x3_1.length < 140737488355328 then (spec_Unquote.l0 k1 (x3_1 ++ [t320]) t4 (wrap64 (x5_1 + 2))) else (none))) else (none)) else (none)) = some r := by first | (rw [hji28] at H; exact H) | (simp only [hji28] at H ⊢; exact H)
         (try rw [hji28] at A8)
         have hji28w : (IntKind.i64.wrap (x5_1 + 1)) = ji28 := (i64_w _).trans hji28
         by_cases c29 : 0 ≤ (ji28)
         ·rw [if_pos c29] at H
          have c29b0 : decide (0 ≤ (ji28)) = true := decide_eq_true c29
          clear c29
          by_cases c30 : (ji28) < (t4.size : Int)
          ·rw [if_pos c30] at H
           have c30b0 : decide ((ji28) < (t4.size : Int)) = true := decide_eq_true c30
           clear c30
           replace H := Option.bind_eq_some_iff.mp H
           obtain ⟨t320, A320, H⟩ := H
           try dsimp only at H
           have A32 := Aside0.mk A320
           clear A320
           by_cases c33 : x3_1.length < 140737488355328
           ·rw [if_pos c33] at H
            have LMc33 := Aside0.mk c33
            clear c33
            obtain ⟨y321, hy321⟩ : ∃ y_ : List Int, y_ = (x3_1 ++ [t320]) := ⟨_, rfl⟩
            replace H : (spec_Unquote.l0 k1 y321 t4 (wrap64 (x5_1 + 2))) = some r := by first | (rw [hy321]; with_reducible exact H) | (have H2_ := (Option.bind_some _ _).symm.trans H; rw [hy321]; with_reducible exact H2_) | (have H2_ := (Option.bind_some _ _).symm.trans H; with_reducible exact H2_) | with_reducible exact H | (rw [hy321]; exact H) | exact H
            have Ny321 := Aside0.mk hy321
            clear hy321
            have H' := Aside0.mk H
            clear H
            have p6 : 0 ≤ (x5_1 : Int) := of_decide_eq_true (by first | (with_reducible assumption) | assumption)
            have q6 : x5_1 < (t4.size : Int) := of_decide_eq_true (by first | (with_reducible assumption) | assumption)
            have hx6 := bt_at t4 x5_1
            replace p6 := eq_true p6
            replace q6 := eq_true q6
            go_wp2_with (first | ((with_reducible refine gate_callee (f := 59) rfl ?_); refine goesL_ (some 34) rfl rfl Tryz.func59 (by kernel_rfl) rfl #[.string t4, .int .i64 x5_1] rfl (by (try simp only [List.map_toArray, List.map_cons, List.map_nil]); first | done | rfl | (simp only [List.length_drop, List.length_take]; rfl)) ?_; (with_reducible refine (spec_unit.calls k1 t4 x5_1 t318 false _ A8.out).mono ?_); rintro e w' ⟨rfl, ⟨nd, rfl⟩⟩; refine ⟨_, rfl, ?_⟩; have p31 : 0 ≤ ((ji28) : Int) := of_decide_eq_true (by first | (with_reducible assumption) | assumption); have q31 : (ji28) < (t4.size : Int) := of_decide_eq_true (by first | (with_reducible assumption) | assumption); have hx31 := bt_at t4 (ji28); replace p31 := eq_true p31; replace q31 := eq_true q31) | ((with_reducible refine gate_callee (f := 105) rfl ?_); refine goesL_ (some 44) rfl rfl Tryz.func105 (by kernel_rfl) rfl #[.int .u8 (bt t4 (ji28))] rfl (by (try simp only [List.map_toArray, List.map_cons, List.map_nil]); first | done | (simp only [hji28]; rfl) | rfl | (simp only [List.length_drop, List.length_take]; rfl)) ?_; (with_reducible refine (spec_short.calls (bt t4 (ji28)) t320 _ A32.out).mono ?_); rintro e w' ⟨rfl, ⟨nd, rfl⟩⟩; refine ⟨_, rfl, ?_⟩) | ((with_reducible refine gate_builtin (b := .append) (xs := #[.tmp 39, .tmp 45]) rfl ?_); at_builtin; refine Kd.R_append (Kd.int .u8) (w0 := w) w.heap.size rfl (.tmp 39) (.tmp 45) 103 5 (.int .u8 0) 1 rfl Tryz.underlying103 info5 rfl (by decide) (by omega) u3 x3_1 t320 [.int .u8 t320] (fun _ => True) (fun _ => False) rfl rfl ?aP (fun _ hk => hk.elim) ?aF ?aO ?aB ?aS ?aL ?_; (case aP => exact rfl); (case aB => exact (by repeat (first | (with_reducible first | exact HB.out | apply bA | apply bN | apply bD) | exact HB.out))); (case aF => exact (fun _ _ => trivial)); (case aO => exact (by (with_reducible repeat (first | apply rA | apply rN | apply rD)); exact HO_3.out)); (case aS => exact (below_size (by repeat (first | (with_reducible first | exact HB.out | apply bA | apply bN | apply bD) | exact HB.out)))); (case aL => have := LMc33.out; omega); intro v322 w34 ho hb hg hat; rw [← Ny321.out] at ho; have n0_ := Aside0.mk (hb); have n1_ := Aside0.mk (ho); clear HB; clear HO_3; have HB := n0_; have HO323 := n1_; clear n0_ n1_; clear ho hb hg hat))
            go_roundg k1
            case measure => have := HK1.out; omega
            case rel => exact ⟨(y321), (wrap64 (x5_1 + 2)), (by first | rfl | (simp; done) | (simp [*]; done)), H', ⟨by have := HK1.out; omega⟩, ⟨by (with_reducible repeat (first | apply rA | apply rN | apply rD)); exact HO323.out⟩, ⟨by repeat (first | (with_reducible first | exact HB.out | apply bA | apply bN | apply bD) | exact HB.out)⟩⟩
           ·rw [if_neg c33] at H
            exact absurd H (by simp)
          ·rw [if_neg c30] at H
           exact absurd H (by simp)
         ·rw [if_neg c29] at H
          exact absurd H (by simp)
       ·rw [if_neg c7] at H
        have c7b0 : ((bt t4 x5_1) == 92) = false := beq_eq_false_iff_ne.mpr c7
        have c7b1 : ((bt t4 x5_1) != 92) = true := bne_iff_ne.mpr c7
        by_cases c36 : x3_1.length < 140737488355328
        ·rw [if_pos c36] at H
         have LMc36 := Aside0.mk c36
         clear c36
         obtain ⟨y315, hy315⟩ : ∃ y_ : List Int, y_ = (x3_1 ++ [bt t4 x5_1]) := ⟨_, rfl⟩
         replace H : (spec_Unquote.l0 k1 y315 t4 (wrap64 (x5_1 + 1))) = some r := by first | (rw [hy315]; with_reducible exact H) | (have H2_ := (Option.bind_some _ _).symm.trans H; rw [hy315]; with_reducible exact H2_) | (have H2_ := (Option.bind_some _ _).symm.trans H; with_reducible exact H2_) | with_reducible exact H | (rw [hy315]; exact H) | exact H
         have Ny315 := Aside0.mk hy315
         clear hy315
         have H' := Aside0.mk H
         clear H
         have p6 : 0 ≤ (x5_1 : Int) := of_decide_eq_true (by first | (with_reducible assumption) | assumption)
         have q6 : x5_1 < (t4.size : Int) := of_decide_eq_true (by first | (with_reducible assumption) | assumption)
         have hx6 := bt_at t4 x5_1
         replace p6 := eq_true p6
         replace q6 := eq_true q6
         have p35 : 0 ≤ (x5_1 : Int) := of_decide_eq_true (by first | (with_reducible assumption) | assumption)
         have q35 : x5_1 < (t4.size : Int) := of_decide_eq_true (by first | (with_reducible assumption) | assumption)
         have hx35 := bt_at t4 x5_1
         replace p35 := eq_true p35
         replace q35 := eq_true q35
         go_wp2_with (first | ((with_reducible refine gate_builtin (b := .append) (xs := #[.tmp 23, .tmp 27]) rfl ?_); at_builtin; refine Kd.R_append (Kd.int .u8) (w0 := w) w.heap.size rfl (.tmp 23) (.tmp 27) 103 5 (.int .u8 0) 1 rfl Tryz.underlying103 info5 rfl (by decide) (by omega) u3 x3_1 (bt t4 x5_1) [.int .u8 (bt t4 x5_1)] (fun _ => True) (fun _ => False) rfl rfl ?aP (fun _ hk => hk.elim) ?aF ?aO ?aB ?aS ?aL ?_; (case aP => exact rfl); (case aB => exact (by repeat (first | (with_reducible first | exact HB.out | apply bA | apply bN | apply bD) | exact HB.out))); (case aF => exact (fun _ _ => trivial)); (case aO => exact (by (with_reducible repeat (first | apply rA | apply rN | apply rD)); exact HO_3.out)); (case aS => exact (below_size (by repeat (first | (with_reducible first | exact HB.out | apply bA | apply bN | apply bD) | exact HB.out)))); (case aL => have := LMc36.out; omega); intro v316 w37 ho hb hg hat; rw [← Ny315.out] at ho; have n0_ := Aside0.mk (hb); have n1_ := Aside0.mk (ho); clear HB; clear HO_3; have HB := n0_; have HO317 := n1_; clear n0_ n1_; clear ho hb hg hat))
         go_roundg k1
         case measure => have := HK1.out; omega
         case rel => exact ⟨(y315), (wrap64 (x5_1 + 1)), (by first | rfl | (simp; done) | (simp [*]; done)), H', ⟨by have := HK1.out; omega⟩, ⟨by (with_reducible repeat (first | apply rA | apply rN | apply rD)); exact HO317.out⟩, ⟨by repeat (first | (with_reducible first | exact HB.out | apply bA | apply bN | apply bD) | exact HB.out)⟩⟩
        ·rw [if_neg c36] at H
         exact absurd H (by simp)
      ·rw [if_neg c5] at H
       exact absurd H (by simp)
     ·rw [if_neg c4] at H
      have c4b0 : decide (x5_1 < (t4.size : Int)) = false := decide_eq_false c4
      clear c4
      obtain rfl := Option.some.inj H
      have hcv38 := own_string (P := Tryz.prog) Tryz.underlying103 Tryz.underlying5 Tryz.underlying9 (Kd.own_of_R HO_3.out)
      go_wp2
      go_ret
      exact ⟨by first | rfl | (simp [errW_none, errW_some] <;> rfl) | (simp [*, errW_none, errW_some] <;> rfl), by repeat (first | (with_reducible first | exact HB.out | apply bA | apply bN | apply bD) | exact HB.out)⟩
  ·rw [if_neg c3] at H
   exact absurd H (by simp)
 ·rw [if_neg c2] at H
  exact absurd H (by simp)
end Go.Proofs.YtgiioglmkogpkaaGreatDoor.M
namespace Go.Proofs.YtgiioglmkogpkaaGreatDoor.L
open Go.RowKit Go.Proofs.YtgiioglmkogpkaaGreatDoorW.PrintWords Go.Proofs.YtgiioglmkogpkaaGreatDoorW.PrintLast Go.Proofs.YtgiioglmkogpkaaGreatDoorW.PrintMore
open M
def hd (s : ByteArray) (i : Int) : Int := (hexv (bt s i)).getD 0
def u4 (s : ByteArray) (p : Int) : Int := ((hd s p * 16 + hd s (p + 1)) * 16 + hd s (p + 2)) * 16 + hd s (p + 3)
theorem hd_range (s : ByteArray) (i : Int) : 0 ≤ hd s i ∧ hd s i ≤ 15 := by
 unfold hd
 cases h : hexv (bt s i) with
 | none => simp
 | some v => exact hexv_range h
theorem hd_some {s : ByteArray} {i : Int} (h : (hexv (bt s i)).isSome = true) : hexv (bt s i) = some (hd s i) := by
 unfold hd
 cases e : hexv (bt s i) with
 | none => rw [e] at h; cases h
 | some v => rfl
theorem u4_range (s : ByteArray) (p : Int) : 0 ≤ u4 s p ∧ u4 s p ≤ 65535 := by
 have h0 := hd_range s p
 have h1 := hd_range s (p + 1)
 have h2 := hd_range s (p + 2)
 have h3 := hd_range s (p + 3)
 unfold u4
 omega
def isU (s : ByteArray) (j i : Int) : Prop := 0 ≤ i ∧ i + 6 ≤ j ∧ bt s i = 92 ∧ bt s (i + 1) = 117 ∧ hex4 s (i + 2)
theorem unit_yes1 (s : ByteArray) (hz : s.size ≤ 65536) (p x i v : Int) (r : Int × Bool) (h0 : 0 ≤ i) (h1 : i < p + 6) (h2 : i < s.size) (hp : 0 ≤ p ∧ p ≤ s.size) (hx : 0 ≤ x ∧ x ≤ 100000) (hv : hexv (bt s i) = some v) (h : Ev (fun k => spec_unit.l0 k s p (x * 16 + v) (i + 1)) r) :
  Ev (fun k => spec_unit.l0 k s p x i) r := by
 have hr := hexv_range hv
 refine Ev.step (f := fun k => (spec_hexDigit.f k (bt s i)).bind fun t => (if t.2 = true then (spec_unit.l0 k s p (wrap64 ((wrap64 (x * 16)) + t.1)) (wrap64 (i + 1))) else (some (0, false)))) (fun k => ?_) (Ev.bind (hex_yes hv) (Ev.congr (fun k => ?_) h))
 ·simp only [spec_unit.l0]; rw [w64 (x := p + 6) (by omega) (by omega), if_pos h1, if_pos h0, if_pos h2]
 ·simp only [if_true]; rw [w64 (x := x * 16) (by omega) (by omega), w64 (by omega) (by omega), w64 (by omega) (by omega)]
theorem unit_no1 (s : ByteArray) (hz : s.size ≤ 65536) (p x i : Int) (h0 : 0 ≤ i) (h1 : i < p + 6) (h2 : i < s.size) (hp : 0 ≤ p ∧ p ≤ s.size) (hv : ¬ (hexv (bt s i)).isSome = true) :
  Ev (fun k => spec_unit.l0 k s p x i) (0, false) := by
 have hn : hexv (bt s i) = none := by
  cases e : hexv (bt s i) with
  | none => rfl
  | some v => rw [e] at hv; simp at hv
 refine Ev.step (f := fun k => (spec_hexDigit.f k (bt s i)).bind fun t => (if t.2 = true then (spec_unit.l0 k s p (wrap64 ((wrap64 (x * 16)) + t.1)) (wrap64 (i + 1))) else (some (0, false)))) (fun k => ?_) (Ev.bind (hex_no hn) (Ev.congr (fun k => ?_) (Ev.now _)))
 ·simp only [spec_unit.l0]; rw [w64 (x := p + 6) (by omega) (by omega), if_pos h1, if_pos h0, if_pos h2]
 ·simp
theorem unit_end (s : ByteArray) (hz : s.size ≤ 65536) (p x i : Int) (h : i = p + 6) (hp : 0 ≤ p ∧ p ≤ s.size) : Ev (fun k => spec_unit.l0 k s p x i) (x, true) := by
 refine Ev.step (f := fun _ => some (x, true)) (fun k => ?_) (Ev.now _)
 simp only [spec_unit.l0]; rw [w64 (x := p + 6) (by omega) (by omega), if_neg (by omega)]
theorem unit_yes (s : ByteArray) (hz : s.size ≤ 65536) (p : Int) (h : isU s s.size p) : Ev (fun k => spec_unit.f k s p) (u4 s (p + 2), true) := by
 obtain ⟨h0, h1, h2, h3, h4⟩ := h
 have a0 := hd_some (h4 (p + 2) (by omega) (by omega))
 have a1 := hd_some (h4 (p + 3) (by omega) (by omega))
 have a2 := hd_some (h4 (p + 4) (by omega) (by omega))
 have a3 := hd_some (h4 (p + 5) (by omega) (by omega))
 have r0 := hd_range s (p + 2)
 have r1 := hd_range s (p + 3)
 have r2 := hd_range s (p + 4)
 have r3 := hd_range s (p + 5)
 refine Ev.congr (f := fun k => spec_unit.j0 k s p false) (fun k => ?_) (Ev.step (f := fun k => spec_unit.l0 k s p 0 (p + 2)) (fun k => ?_) ?_)
 ·simp only [spec_unit.f]; rw [w64 (x := (s.size : Int) - p) (by omega) (by omega), if_neg (by omega), if_pos h0, if_pos (by omega), if_pos h2, w64 (x := p + 1) (by omega) (by omega), if_pos (by omega), if_pos (by omega), bne_eq_false_iff_eq.mpr h3]
 ·simp only [spec_unit.j0, Bool.false_eq_true, if_false]; rw [w64 (by omega) (by omega)]
 ·refine unit_yes1 s hz p 0 (p + 2) _ _ (by omega) (by omega) (by omega) (by omega) (by omega) a0 ?_
  rw [show p + 2 + 1 = p + 3 by omega]
  refine unit_yes1 s hz p _ (p + 3) _ _ (by omega) (by omega) (by omega) (by omega) (by omega) a1 ?_
  rw [show p + 3 + 1 = p + 4 by omega]
  refine unit_yes1 s hz p _ (p + 4) _ _ (by omega) (by omega) (by omega) (by omega) (by omega) a2 ?_
  rw [show p + 4 + 1 = p + 5 by omega]
  refine unit_yes1 s hz p _ (p + 5) _ _ (by omega) (by omega) (by omega) (by omega) (by omega) a3 ?_
  have e : u4 s (p + 2) = (((0 * 16 + hd s (p + 2)) * 16 + hd s (p + 3)) * 16 + hd s (p + 4)) * 16 + hd s (p + 5) := by
   unfold u4
   rw [show p + 2 + 1 = p + 3 by omega, show p + 2 + 2 = p + 4 by omega, show p + 2 + 3 = p + 5 by omega]
   omega
  rw [e]
  exact unit_end s hz p _ _ (by omega) (by omega)
theorem unit_j0t (s : ByteArray) (p : Int) : Ev (fun k => spec_unit.j0 k s p true) (0, false) := Ev.step (f := fun _ => some (0, false)) (fun k => by simp only [spec_unit.j0, if_true]) (Ev.now _)
theorem unit_no (s : ByteArray) (hz : s.size ≤ 65536) (p : Int) (hp : 0 ≤ p ∧ p ≤ 1000000) (h : ¬ isU s s.size p) : Ev (fun k => spec_unit.f k s p) (0, false) := by
 by_cases c6 : (s.size : Int) - p < 6
 ·refine Ev.congr (fun k => ?_) (unit_j0t s p)
  simp only [spec_unit.f]; rw [w64 (x := (s.size : Int) - p) (by omega) (by omega), if_pos c6]
 by_cases c92 : bt s p = 92
 ·by_cases c117 : bt s (p + 1) = 117
  ·refine Ev.congr (f := fun k => spec_unit.j0 k s p false) (fun k => ?_) (Ev.step (f := fun k => spec_unit.l0 k s p 0 (p + 2)) (fun k => ?_) ?_)
   ·simp only [spec_unit.f]; rw [w64 (x := (s.size : Int) - p) (by omega) (by omega), if_neg (by omega), if_pos hp.1, if_pos (by omega), if_pos c92, w64 (x := p + 1) (by omega) (by omega), if_pos (by omega), if_pos (by omega), bne_eq_false_iff_eq.mpr c117]
   ·simp only [spec_unit.j0, Bool.false_eq_true, if_false]; rw [w64 (by omega) (by omega)]
   ·by_cases b0 : (hexv (bt s (p + 2))).isSome = true
    ·have r0 := hd_range s (p + 2)
     refine unit_yes1 s hz p 0 (p + 2) _ _ (by omega) (by omega) (by omega) (by omega) (by omega) (hd_some b0) ?_
     rw [show p + 2 + 1 = p + 3 by omega]
     by_cases b1 : (hexv (bt s (p + 3))).isSome = true
     ·have r1 := hd_range s (p + 3)
      refine unit_yes1 s hz p _ (p + 3) _ _ (by omega) (by omega) (by omega) (by omega) (by omega) (hd_some b1) ?_
      rw [show p + 3 + 1 = p + 4 by omega]
      by_cases b2 : (hexv (bt s (p + 4))).isSome = true
      ·have r2 := hd_range s (p + 4)
       refine unit_yes1 s hz p _ (p + 4) _ _ (by omega) (by omega) (by omega) (by omega) (by omega) (hd_some b2) ?_
       rw [show p + 4 + 1 = p + 5 by omega]
       by_cases b3 : (hexv (bt s (p + 5))).isSome = true
       ·refine absurd ⟨hp.1, by omega, c92, c117, fun i x y => ?_⟩ h
        by_cases e0 : i = p + 2
        ·rw [e0]; exact b0
        by_cases e1 : i = p + 3
        ·rw [e1]; exact b1
        by_cases e2 : i = p + 4
        ·rw [e2]; exact b2
        ·rw [show i = p + 5 by omega]; exact b3
       ·exact unit_no1 s hz p _ _ (by omega) (by omega) (by omega) (by omega) b3
      ·exact unit_no1 s hz p _ _ (by omega) (by omega) (by omega) (by omega) b2
     ·exact unit_no1 s hz p _ _ (by omega) (by omega) (by omega) (by omega) b1
    ·exact unit_no1 s hz p _ _ (by omega) (by omega) (by omega) (by omega) b0
  ·refine Ev.congr (fun k => ?_) (unit_j0t s p)
   simp only [spec_unit.f]; rw [w64 (x := (s.size : Int) - p) (by omega) (by omega), if_neg c6, if_pos hp.1, if_pos (by omega), if_pos c92, w64 (x := p + 1) (by omega) (by omega), if_pos (by omega), if_pos (by omega), bne_iff_ne.mpr c117]
 ·refine Ev.congr (fun k => ?_) (unit_j0t s p)
  simp only [spec_unit.f]; rw [w64 (x := (s.size : Int) - p) (by omega) (by omega), if_neg c6, if_pos hp.1, if_pos (by omega), if_neg c92]
def isHigh (n : Int) : Prop := 55296 ≤ n ∧ n ≤ 56319
def isLow (n : Int) : Prop := 56320 ≤ n ∧ n ≤ 57343
instance (x : Int) : Decidable (isHigh x) := by unfold isHigh; infer_instance
instance (x : Int) : Decidable (isLow x) := by unfold isLow; infer_instance
theorem high_f (n : Int) : spec_high.f n = some (decide (isHigh n)) := by
 unfold spec_high.f isHigh
 by_cases h : 55296 ≤ n <;> simp [h]
theorem low_f (n : Int) : spec_low.f n = some (decide (isLow n)) := by
 unfold spec_low.f isLow
 by_cases h : 56320 ≤ n <;> simp [h]
def shortv (a : Int) : Int := if a = 98 then 8 else if a = 102 then 12 else if a = 110 then 10 else if a = 114 then 13 else if a = 116 then 9 else a
theorem short_f (a : Int) : spec_short.f a = some (shortv a) := by
 unfold spec_short.f shortv
 repeat (split; rfl)
 rfl
def enc (c : Int) : List Int := if c < 128 then [c] else if c < 2048 then [192 + c / 64, 128 + c % 64] else if isHigh c ∨ isLow c then [239, 191, 189] else if c < 65536 then [224 + c / 4096, 128 + c / 64 % 64, 128 + c % 64] else [240 + c / 262144, 128 + c / 4096 % 64, 128 + c / 64 % 64, 128 + c % 64]
theorem enc_length (c : Int) : 1 ≤ (enc c).length ∧ (enc c).length ≤ 4 := by
 unfold enc
 repeat (split; · simp)
 simp
theorem app_ev (l : List Int) (c : Int) (hl : l.length ≤ 1000000) (h0 : 0 ≤ c) (h1 : c ≤ 1114111) : Ev (fun k => spec_appendUTF8.f k l c) (l ++ enc c) := by
 have td : ∀ b : Int, Int.tdiv c b = c / b := fun b => Int.tdiv_eq_ediv_of_nonneg h0
 have tm : ∀ b : Int, Int.tmod c b = c % b := fun b => Int.tmod_eq_emod_of_nonneg h0
 have tm2 : ∀ a b : Int, 0 ≤ a → Int.tmod a b = a % b := fun a b h => Int.tmod_eq_emod_of_nonneg h
 by_cases c1 : c < 128
 ·refine Ev.congr (fun k => ?_) (Ev.now _)
  simp only [spec_appendUTF8.f, enc]; rw [if_pos c1, if_pos (by omega), if_pos c1, Int.emod_eq_of_lt h0 (by omega)]
 by_cases c2 : c < 2048
 ·refine Ev.congr (fun k => ?_) (Ev.now _)
  simp only [spec_appendUTF8.f, enc]; rw [if_neg c1, if_pos c2, if_neg c1, if_pos c2]; simp only [Option.bind_some]; rw [if_pos (by simp; omega), td, tm, w64 (x := c / 64) (by omega) (by omega), w64 (by omega) (by omega), w64 (by omega) (by omega), Int.emod_eq_of_lt (by omega) (by omega), Int.emod_eq_of_lt (by omega) (by omega)]
 by_cases cH : isHigh c ∨ isLow c
 ·refine Ev.congr (f := fun k => spec_appendUTF8.j0 k l c true) (fun k => ?_) (Ev.step (f := fun _ => some (l ++ [239, 191, 189])) (fun k => ?_) (Ev.congr (fun k => ?_) (Ev.now _)))
  ·simp only [spec_appendUTF8.f]; rw [if_neg c1, if_neg c2, high_f]; simp only [Option.bind_some]
   by_cases ch : isHigh c
   ·rw [if_pos (decide_eq_true ch)]
   ·rw [if_neg (by simp [ch]), low_f]; simp only [Option.bind_some]; rw [decide_eq_true (cH.resolve_left ch)]
  ·simp only [spec_appendUTF8.j0, if_true, Option.bind_some]; rw [if_pos (by simp; omega)]
  ·rw [enc, if_neg c1, if_neg c2, if_pos cH]
 ·have hf : ∀ k, spec_appendUTF8.f k l c = spec_appendUTF8.j0 k l c false := fun k => by
   simp only [spec_appendUTF8.f]; rw [if_neg c1, if_neg c2, high_f]; simp only [Option.bind_some]
   rw [if_neg (by simp; exact fun q => cH (.inl q)), low_f]; simp only [Option.bind_some]; rw [decide_eq_false (fun q => cH (.inr q))]
  have q64 : 0 ≤ c / 64 := by omega
  have q4096 : 0 ≤ c / 4096 := by omega
  refine Ev.congr (f := fun k => spec_appendUTF8.j0 k l c false) hf ?_
  by_cases c3 : c < 65536
  ·refine Ev.step (f := fun _ => some (l ++ enc c)) (fun k => ?_) (Ev.now _)
   simp only [spec_appendUTF8.j0, Bool.false_eq_true, if_false]; rw [if_pos c3]; simp only [Option.bind_some]
   rw [if_pos (by simp; omega), enc, if_neg c1, if_neg c2, if_neg cH, if_pos c3, td, td, tm, w64 (x := c / 4096) (by omega) (by omega), w64 (x := c / 64) (by omega) (by omega), tm2 _ _ q64, w64 (by omega) (by omega), w64 (by omega) (by omega), w64 (by omega) (by omega), Int.emod_eq_of_lt (a := 224 + c / 4096) (by omega) (by omega), Int.emod_eq_of_lt (a := 128 + c / 64 % 64) (by omega) (by omega), Int.emod_eq_of_lt (a := 128 + c % 64) (by omega) (by omega)]
  ·refine Ev.step (f := fun _ => some (l ++ enc c)) (fun k => ?_) (Ev.now _)
   simp only [spec_appendUTF8.j0, Bool.false_eq_true, if_false]; rw [if_neg c3]; simp only [Option.bind_some]
   rw [if_pos (by simp; omega), enc, if_neg c1, if_neg c2, if_neg cH, if_neg c3, td, td, td, tm, w64 (x := c / 262144) (by omega) (by omega), w64 (x := c / 4096) (by omega) (by omega), w64 (x := c / 64) (by omega) (by omega), tm2 _ _ q64, tm2 _ _ q4096, w64 (by omega) (by omega), w64 (by omega) (by omega), w64 (by omega) (by omega), w64 (by omega) (by omega), Int.emod_eq_of_lt (a := 240 + c / 262144) (by omega) (by omega), Int.emod_eq_of_lt (a := 128 + c / 4096 % 64) (by omega) (by omega), Int.emod_eq_of_lt (a := 128 + c / 64 % 64) (by omega) (by omega), Int.emod_eq_of_lt (a := 128 + c % 64) (by omega) (by omega)]
def isPair (s : ByteArray) (j i : Int) : Prop := isU s j (i + 6) ∧ isHigh (u4 s (i + 2)) ∧ isLow (u4 s (i + 8))
inductive Dec (s : ByteArray) (j : Int) : Int → List Int → Prop
 | nil : Dec s j j []
 | plain (i : Int) (o : List Int) : 0 ≤ i → i < j → bt s i ≠ 92 → Dec s j (i + 1) o → Dec s j i (bt s i :: o)
 | esc (i : Int) (o : List Int) : 0 ≤ i → i + 1 < j → bt s i = 92 → isEsc (bt s (i + 1)) → Dec s j (i + 2) o → Dec s j i (shortv (bt s (i + 1)) :: o)
 | uni (i : Int) (o : List Int) : isU s j i → ¬ isPair s j i → Dec s j (i + 6) o → Dec s j i (enc (u4 s (i + 2)) ++ o)
 | pair (i : Int) (o : List Int) : isU s j i → isPair s j i → Dec s j (i + 12) o → Dec s j i (enc (65536 + (u4 s (i + 2) - 55296) * 1024 + (u4 s (i + 8) - 56320)) ++ o)
theorem esc_not_U {s : ByteArray} {j i : Int} (h : isEsc (bt s (i + 1))) : ¬ isU s j i := by
 intro q
 have := q.2.2.2.1
 unfold isEsc at h
 omega
theorem unq_ev (t : ByteArray) (hz : t.size ≤ 65536) {i : Int} {o : List Int} (h : Dec t t.size i o) : ∀ x : List Int, x.length + o.length ≤ 1000000 → Ev (fun k => spec_Unquote.l0 k x t i) (strOfNums (x ++ o)) := by
 induction h with
 | nil =>
  intro x hx
  refine Ev.step (f := fun _ => some (strOfNums x)) (fun k => ?_) (Ev.congr (fun k => ?_) (Ev.now _))
  ·simp only [spec_Unquote.l0]; rw [if_neg (by omega)]
  ·rw [List.append_nil]
 | plain i o h0 h1 h2 h3 ih =>
  intro x hx
  simp only [List.length_cons] at hx
  refine Ev.step (f := fun k => spec_Unquote.l0 k (x ++ [bt t i]) t (i + 1)) (fun k => ?_) ?_
  ·simp only [spec_Unquote.l0]; rw [if_pos h1, if_pos h0, if_neg h2, if_pos (by omega), w64 (by omega) (by omega)]
  ·have := ih (x ++ [bt t i]) (by simp; omega)
   rwa [List.append_assoc, List.singleton_append] at this
 | esc i o h0 h1 h2 h3 h4 ih =>
  intro x hx
  simp only [List.length_cons] at hx
  obtain ⟨K1, hn⟩ := unit_no t hz i (by omega) (esc_not_U h3)
  have h5 := ih (x ++ [shortv (bt t (i + 1))]) (by simp; omega)
  rw [List.append_assoc, List.singleton_append] at h5
  obtain ⟨K2, h5⟩ := h5
  refine ⟨K1 + K2 + 1, fun k hk => ?_⟩
  obtain ⟨m, rfl⟩ : ∃ m, k = m + 1 := ⟨k - 1, by omega⟩
  dsimp only at *
  simp only [spec_Unquote.l0]
  rw [if_pos (by omega), if_pos h0, if_pos h2, hn m (by omega)]
  simp only [Option.bind_some, Bool.false_eq_true, if_false]
  rw [w64 (x := i + 1) (by omega) (by omega), if_pos (by omega), if_pos h1, short_f]
  simp only [Option.bind_some]
  rw [if_pos (by omega), w64 (x := i + 2) (by omega) (by omega), h5 m (by omega)]
 | uni i o h0 h1 h2 ih =>
  intro x hx
  simp only [List.length_append] at hx
  have hi := h0.1
  have hi2 := h0.2.1
  obtain ⟨K1, hy⟩ := unit_yes t hz i h0
  have hu := u4_range t (i + 2)
  obtain ⟨K2, ha⟩ := app_ev x (u4 t (i + 2)) (by omega) (by omega) (by omega)
  have hI := ih (x ++ enc (u4 t (i + 2))) (by simp; omega)
  rw [List.append_assoc] at hI
  obtain ⟨K3, hI⟩ := hI
  have key : ∀ b : Int × Bool, Ev (fun k => spec_unit.f k t (i + 6)) b → (b.2 = true → ¬ (isHigh (u4 t (i + 2)) ∧ isLow b.1)) → Ev (fun k => spec_Unquote.l0 k x t i) (strOfNums (x ++ (enc (u4 t (i + 2)) ++ o))) := by
   intro b hb hbn
   obtain ⟨K4, hb⟩ := hb
   refine ⟨K1 + K2 + K3 + K4 + 1, fun k hk => ?_⟩
   obtain ⟨m, rfl⟩ : ∃ m, k = m + 1 := ⟨k - 1, by omega⟩
   dsimp only at *
   simp only [spec_Unquote.l0]
   rw [if_pos (by omega), if_pos h0.1, if_pos h0.2.2.1, hy m (by omega)]
   simp only [Option.bind_some, if_true]
   rw [w64 (x := i + 6) (by omega) (by omega), hb m (by omega)]
   simp only [Option.bind_some, ha m (by omega), hI m (by omega)]
   by_cases c1 : b.2 = true
   ·rw [if_pos c1, high_f]; simp only [Option.bind_some]
    by_cases c2 : isHigh (u4 t (i + 2))
    ·rw [if_pos (decide_eq_true c2), low_f]; simp only [Option.bind_some]
     rw [if_neg (by simp; exact fun q => hbn c1 ⟨c2, q⟩)]
    ·rw [if_neg (by simp [c2])]
   ·rw [if_neg c1]
  by_cases cU : isU t t.size (i + 6)
  ·exact key _ (unit_yes t hz (i + 6) cU) (fun _ q => h1 ⟨cU, q.1, by have := q.2; rwa [show i + 6 + 2 = i + 8 by omega] at this⟩)
  ·exact key _ (unit_no t hz (i + 6) (by omega) cU) (fun q => by cases q)
 | pair i o h0 h1 h2 ih =>
  intro x hx
  simp only [List.length_append] at hx
  have hi := h0.1
  have hi2 := h0.2.1
  obtain ⟨hU, hH, hL⟩ := h1
  have hi3 := hU.2.1
  obtain ⟨K1, hy⟩ := unit_yes t hz i h0
  obtain ⟨K2, hy2⟩ := unit_yes t hz (i + 6) hU
  rw [show i + 6 + 2 = i + 8 by omega] at hy2
  have hH' := hH
  have hL' := hL
  unfold isHigh at hH'
  unfold isLow at hL'
  obtain ⟨K3, ha⟩ := app_ev x (65536 + (u4 t (i + 2) - 55296) * 1024 + (u4 t (i + 8) - 56320)) (by omega) (by omega) (by omega)
  have hI := ih (x ++ enc (65536 + (u4 t (i + 2) - 55296) * 1024 + (u4 t (i + 8) - 56320))) (by simp; omega)
  rw [List.append_assoc] at hI
  obtain ⟨K4, hI⟩ := hI
  refine ⟨K1 + K2 + K3 + K4 + 1, fun k hk => ?_⟩
  obtain ⟨m, rfl⟩ : ∃ m, k = m + 1 := ⟨k - 1, by omega⟩
  dsimp only at *
  simp only [spec_Unquote.l0]
  rw [if_pos (by omega), if_pos h0.1, if_pos h0.2.2.1, hy m (by omega)]
  simp only [Option.bind_some, if_true]
  rw [w64 (x := i + 6) (by omega) (by omega), hy2 m (by omega)]
  simp only [Option.bind_some, if_true]
  rw [high_f]; simp only [Option.bind_some]
  rw [if_pos (decide_eq_true hH), low_f]; simp only [Option.bind_some]
  rw [if_pos (decide_eq_true hL), w64 (x := u4 t (i + 2) - 55296) (by omega) (by omega), w64 (x := (u4 t (i + 2) - 55296) * 1024) (by omega) (by omega), w64 (x := 65536 + (u4 t (i + 2) - 55296) * 1024) (by omega) (by omega), w64 (x := u4 t (i + 8) - 56320) (by omega) (by omega), w64 (x := 65536 + (u4 t (i + 2) - 55296) * 1024 + (u4 t (i + 8) - 56320)) (by omega) (by omega), ha m (by omega)]
  simp only [Option.bind_some]
  rw [w64 (x := i + 6 + 6) (by omega) (by omega), show i + 6 + 6 = i + 12 by omega, hI m (by omega)]
theorem Bod.dec {s : ByteArray} {j : Int} : ∀ (n : Nat) (i : Int), 0 ≤ i → j - i < n → Bod s j i → ∃ o, Dec s j i o ∧ (o.length : Int) ≤ j - i := by
 intro n
 induction n with
 | zero => intro i h0 h1 h; have := h.le; omega
 | succ n ih =>
  intro i h0 h1 h
  cases h with
  | nil => exact ⟨[], .nil, by simp⟩
  | plain _ a b c d e =>
   obtain ⟨o, ho, hl⟩ := ih (i + 1) (by omega) (by omega) e
   exact ⟨_, .plain i o h0 a c ho, by simp; omega⟩
  | esc _ a b c d =>
   obtain ⟨o, ho, hl⟩ := ih (i + 2) (by omega) (by omega) d
   exact ⟨_, .esc i o h0 a b c ho, by simp; omega⟩
  | uni _ a b c d e =>
   have hU : isU s j i := ⟨h0, by omega, b, c, d⟩
   by_cases hp : isPair s j i
   ·obtain ⟨p1, p2, p3, p4, p5⟩ := hp.1
    have h12 : Bod s j (i + 12) := by
     cases e with
     | nil => omega
     | plain _ q1 q2 q3 q4 q5 => exact absurd p3 q3
     | esc _ q1 q2 q3 q4 => unfold isEsc at q3; omega
     | uni _ q1 q2 q3 q4 q5 => rwa [show i + 6 + 6 = i + 12 by omega] at q5
    obtain ⟨o, ho, hl⟩ := ih (i + 12) (by omega) (by omega) h12
    have := enc_length (65536 + (u4 s (i + 2) - 55296) * 1024 + (u4 s (i + 8) - 56320))
    exact ⟨_, .pair i o hU hp ho, by simp; omega⟩
   ·obtain ⟨o, ho, hl⟩ := ih (i + 6) (by omega) (by omega) e
    have := enc_length (u4 s (i + 2))
    exact ⟨_, .uni i o hU hp ho, by simp; omega⟩
theorem bt_extract (s : ByteArray) (a b : Nat) (i : Int) (h0 : 0 ≤ i) (h1 : a + i < b) (h2 : b ≤ s.size) : bt (s.extract a b) i = bt s (a + i) := by
 unfold bt
 rw [dif_pos (by rw [ByteArray.size_extract]; omega), dif_pos (by omega)]
 rw [ByteArray.getElem_extract]
 have e : a + i.toNat = ((a : Int) + i).toNat := by omega
 simp only [e]
theorem Bod.shift {s : ByteArray} {j : Int} {a : Nat} (hj : j ≤ s.size) {i : Int} (h : Bod s j i) : (a : Int) ≤ i → Bod (s.extract a j.toNat) ((s.extract a j.toNat).size : Int) (i - a) := by
 induction h with
 | nil =>
  intro h0
  have e : ((s.extract a j.toNat).size : Int) = j - a := by rw [ByteArray.size_extract]; omega
  rw [e]
  exact .nil
 | plain i h1 h2 h3 h4 h5 ih =>
  intro h0
  have e : ((s.extract a j.toNat).size : Int) = j - a := by rw [ByteArray.size_extract]; omega
  have b0 := bt_extract s a j.toNat (i - a) (by omega) (by omega) (by omega)
  rw [show (a : Int) + (i - a) = i by omega] at b0
  refine .plain _ (by omega) (by rw [b0]; exact h2) (by rw [b0]; exact h3) (by rw [b0]; exact h4) ?_
  have := ih (by omega)
  rwa [show i + 1 - a = i - a + 1 by omega] at this
 | esc i h1 h2 h3 h4 ih =>
  intro h0
  have e : ((s.extract a j.toNat).size : Int) = j - a := by rw [ByteArray.size_extract]; omega
  have b0 := bt_extract s a j.toNat (i - a) (by omega) (by omega) (by omega)
  rw [show (a : Int) + (i - a) = i by omega] at b0
  have b1 := bt_extract s a j.toNat (i - a + 1) (by omega) (by omega) (by omega)
  rw [show (a : Int) + (i - a + 1) = i + 1 by omega] at b1
  refine .esc _ (by omega) (by rw [b0]; exact h2) (by rw [b1]; exact h3) ?_
  have := ih (by omega)
  rwa [show i + 2 - a = i - a + 2 by omega] at this
 | uni i h1 h2 h3 h4 h5 ih =>
  intro h0
  have e : ((s.extract a j.toNat).size : Int) = j - a := by rw [ByteArray.size_extract]; omega
  have b0 := bt_extract s a j.toNat (i - a) (by omega) (by omega) (by omega)
  rw [show (a : Int) + (i - a) = i by omega] at b0
  have b1 := bt_extract s a j.toNat (i - a + 1) (by omega) (by omega) (by omega)
  rw [show (a : Int) + (i - a + 1) = i + 1 by omega] at b1
  refine .uni _ (by omega) (by rw [b0]; exact h2) (by rw [b1]; exact h3) (fun x y z => ?_) ?_
  ·rw [bt_extract s a j.toNat x (by omega) (by omega) (by omega)]
   exact h4 _ (by omega) (by omega)
  ·have := ih (by omega)
   rwa [show i + 6 - a = i - a + 6 by omega] at this
theorem unqf_ev (s : ByteArray) (hz : s.size ≤ 65536) (p e : Int) (h : Str s p e) : ∃ r, Ev (fun k => spec_Unquote.f k (s.extract p.toNat e.toNat)) r ∧ ∀ o, Dec (s.extract (p.toNat + 1) (e.toNat - 1)) (s.extract (p.toNat + 1) (e.toNat - 1)).size 0 o → o.length ≤ 65536 → r = strOfNums o := by
 obtain ⟨h0, h34, j, rfl, h1, h2, h3, h4⟩ := h
 have e1 : ((s.extract p.toNat (j + 1).toNat).size : Int) = j + 1 - p := by rw [ByteArray.size_extract]; omega
 have e2 : (s.extract p.toNat (j + 1).toNat).extract 1 ((s.extract p.toNat (j + 1).toNat).size - 1 : Int).toNat = s.extract (p.toNat + 1) ((j + 1).toNat - 1) := by
  rw [ByteArray.extract_extract]
  congr 1
  omega
 have hB := Bod.shift (a := p.toNat + 1) (by omega) h4 (by omega)
 rw [show ((p + 1 : Int) - (p.toNat + 1 : Nat)) = 0 by omega] at hB
 have e3 : j.toNat = (j + 1).toNat - 1 := by omega
 rw [e3] at hB
 generalize ht : s.extract (p.toNat + 1) ((j + 1).toNat - 1) = t at *
 have hts : t.size ≤ 65536 := by rw [← ht, ByteArray.size_extract]; omega
 obtain ⟨o, ho, hl⟩ := Bod.dec (t.size + 1) 0 (by omega) (by omega) hB
 have hu := unq_ev t hts ho [] (by simp; omega)
 have hf : Ev (fun k => spec_Unquote.f k (s.extract p.toNat (j + 1).toNat)) (strOfNums ([] ++ o)) := by
  refine Ev.congr (fun k => ?_) hu
  simp only [spec_Unquote.f]
  rw [w64 (by omega) (by omega), if_pos (by omega), if_pos (by omega), e2]
 refine ⟨_, hf, fun o' ho' hl' => ?_⟩
 have hu' := unq_ev t hts ho' [] (by simp; omega)
 obtain ⟨K, a⟩ := hu
 obtain ⟨K', b⟩ := hu'
 have x := a (K + K') (by omega)
 have y := b (K + K') (by omega)
 simp only [List.nil_append] at x y ⊢
 exact Option.some.inj (x.symm.trans y)
end Go.Proofs.YtgiioglmkogpkaaGreatDoor.L
namespace Go.Proofs.YtgiioglmkogpkaaGreatDoor.M
open Go.RowKit Go.Proofs.YtgiioglmkogpkaaGreatDoorW.PrintWords Go.Proofs.YtgiioglmkogpkaaGreatDoorW.PrintLast Go.Proofs.YtgiioglmkogpkaaGreatDoorW.PrintMore
set_option maxHeartbeats 8000000
set_option maxRecDepth 100000
attribute [local go_sem] max2_int min2_int max_two min_two max_three min_three max_four min_four
mutual
def spec_Tree.j0 : Nat → ByteArray → Int → Int → Int → List (S115) → List (S78) → Int → ByteArray → Option (Int × ByteArray × List ByteArray × (List (S25)))
 | 0, _, _, _, _, _, _, _, _ => none
 | k + 1, x0, x341000, x341001, x341002, x341003, x341004, x343000, x343001 => spec_Tree.l0 k x0 0 x341000 x341001 x341002 x341003 x341004 x343000 x343001 ([] : List ByteArray)
def spec_Tree.l0 : Nat → ByteArray → Int → Int → Int → Int → List (S115) → List (S78) → Int → ByteArray → List ByteArray → Option (Int × ByteArray × List ByteArray × (List (S25)))
 | 0, _, _, _, _, _, _, _, _, _, _ => none
 | k + 1, x0, x6, x341000, x341001, x341002, x341003, x341004, x343000, x343001, x343002 => if x6 < (x341003.length : Int) then (if 0 ≤ x6 then (if 0 ≤ ((rd_T115 x341003 x6).f0) then (if ((rd_T115 x341003 x6).f0) ≤ ((rd_T115 x341003 x6).f1) then (if ((rd_T115 x341003 x6).f1) ≤ (x0.size : Int) then ((spec_Unquote.f k (x0.extract (((rd_T115 x341003 x6).f0) : Int).toNat (((rd_T115 x341003 x6).f1) : Int).toNat)).bind fun t346 => (if x343002.length < 8796093022208 then (spec_Tree.l0 k x0 (wrap64 (x6 + 1)) x341000 x341001 x341002 x341003 x341004 x343000 x343001 (x343002 ++ [t346])) else (none))) else (none)) else (none)) else (none)) else (none)) else (spec_Tree.l1 k x0 0 x341000 x341001 x341002 x341003 x341004 x343000 x343001 x343002 ([] : List (S25)))
def spec_Tree.l1 : Nat → ByteArray → Int → Int → Int → Int → List (S115) → List (S78) → Int → ByteArray → List ByteArray → List (S25) → Option (Int × ByteArray × List ByteArray × (List (S25)))
 | 0, _, _, _, _, _, _, _, _, _, _, _ => none
 | k + 1, x0, x7, x341000, x341001, x341002, x341003, x341004, x343000, x343001, x343002, x343003 => if x7 < (x341004.length : Int) then (if 0 ≤ x7 then ((spec_Tree.f k x0 ((rd_T78 x341004 x7).f0) ((rd_T78 x341004 x7).f1) ((rd_T78 x341004 x7).f2) ((rd_T78 x341004 x7).f3) ((rd_T78 x341004 x7).f4)).bind fun bt351 => (if x343003.length < 1954687338268 then (spec_Tree.l1 k x0 (wrap64 (x7 + 1)) x341000 x341001 x341002 x341003 x341004 x343000 x343001 x343002 (x343003 ++ [(⟨bt351.1, bt351.2.1, bt351.2.2.1, bt351.2.2.2⟩ : S25)])) else (none))) else (none)) else (some (x343000, x343001, x343002, x343003))
def spec_Tree.f : Nat → ByteArray → Int → Int → Int → List (S115) → List (S78) → Option (Int × ByteArray × List ByteArray × (List (S25)))
 | 0, _, _, _, _, _, _ => none
 | k + 1, a0, a1_0, a1_1, a1_2, l1_3, l1_4 => if a1_0 = 3 then (if 0 ≤ a1_1 then (if a1_1 ≤ a1_2 then (if a1_2 ≤ (a0.size : Int) then (spec_Tree.j0 k a0 a1_0 a1_1 a1_2 l1_3 l1_4 a1_0 (a0.extract (a1_1 : Int).toNat (a1_2 : Int).toNat)) else (none)) else (none)) else (none)) else (if a1_0 = 4 then (if 0 ≤ a1_1 then (if a1_1 ≤ a1_2 then (if a1_2 ≤ (a0.size : Int) then ((spec_Unquote.f k (a0.extract (a1_1 : Int).toNat (a1_2 : Int).toNat)).bind fun t343 => (spec_Tree.j0 k a0 a1_0 a1_1 a1_2 l1_3 l1_4 a1_0 t343)) else (none)) else (none)) else (none)) else (spec_Tree.j0 k a0 a1_0 a1_1 a1_2 l1_3 l1_4 a1_0 (⟨#[]⟩ : ByteArray)))
end
def spec_Tree.T10 : Bool × List (List Nat × List Nat) := (true, [([], []), ([0], [0]), ([], []), ([], []), ([3], [3]), ([], []), ([4, 5], [4, 5]), ([6], [6]), ([7], [7]), ([], []), ([9], [9]), ([], []), ([10, 11], [10, 11]), ([12], [12]), ([13], [13]), ([2, 8, 14], [2, 8, 14]), ([15], [15]), ([16], [16]), ([1, 17, 16], [1, 17]), ([0, 1, 2, 3, 4, 5, 6, 7, 8, 9, 10, 11, 12, 13, 14, 15, 16, 17, 18], []), ([19, 18, 18, 0, 1, 2, 3, 4, 5, 6, 7, 8, 9, 10, 11, 12, 13, 14, 15, 16, 17, 18], [18, 19])])
def spec_Tree.B10 : List Nat := [0, 1, 0, 0, 8, 0, 56, 120, 248, 0, 512, 0, 3584, 7680, 15872, 32764, 65532, 131068, 262143, 524287, 1048575]
theorem spec_Tree.tab10 : rtab .any (opsOf Tryz.f48 10) = spec_Tree.T10 := by kernel_rfl
theorem spec_Tree.bits10 : waitsOk spec_Tree.T10.2 spec_Tree.B10 = true := by kernel_rfl
def spec_Tree.T14 : Bool × List (List Nat × List Nat) := (true, [([], []), ([0], [0]), ([], []), ([], []), ([3], [3]), ([], []), ([4, 5], [4, 5]), ([6], [6]), ([2, 7], [2, 7]), ([8], [8]), ([1, 9, 8], [1, 9]), ([0, 1, 2, 3, 4, 5, 6, 7, 8, 9, 10], []), ([11, 10, 10, 0, 1, 2, 3, 4, 5, 6, 7, 8, 9, 10], [10, 11])])
def spec_Tree.B14 : List Nat := [0, 1, 0, 0, 8, 0, 56, 120, 252, 508, 1023, 2047, 4095]
theorem spec_Tree.tab14 : rtab .any (opsOf Tryz.f48 14) = spec_Tree.T14 := by kernel_rfl
theorem spec_Tree.bits14 : waitsOk spec_Tree.T14.2 spec_Tree.B14 = true := by kernel_rfl
theorem spec_Tree.calls (k : Nat) : ∀ (a0 : ByteArray) (a1_0 : Int) (a1_1 : Int) (a1_2 : Int) (A1_3 : Option Addr) (c1_3 : Nat) (l1_3 : List (S115)) (A1_4 : Option Addr) (c1_4 : Nat) (l1_4 : List (S78)) (r1 : Int) (r2 : ByteArray) (r3 : List ByteArray) (r4 : List (S25)) (w : World) (hr1_3 : Kd.C k115 w A1_3 l1_3.length l1_3) (hc1_3 : l1_3.length ≤ c1_3) (hr1_4 : Kd.C k78 w A1_4 l1_4.length l1_4) (hc1_4 : l1_4.length ≤ c1_4) (h : spec_Tree.f k a0 a1_0 a1_1 a1_2 l1_3 l1_4 = some (r1, r2, r3, r4)),
  Calls Tryz.prog 48 #[.string a0, .agg #[.int .i64 a1_0, .int .i64 a1_1, .int .i64 a1_2, .slice A1_3 l1_3.length c1_3, .slice A1_4 l1_4.length c1_4]] w fun e w' => ∃ v2_ v3_ : Value, e = .returned (.agg #[.int .i64 r1, .string r2, v2_, v3_]) ∧ Kd.R Kd.string 9 w' w.heap.size (fun _ => True) v2_ r3 ∧ Kd.R k25 25 w' w.heap.size (fun k_ => some k_ ≠ (v2_ : Value).ownBlock) v3_ r4 ∧ Below w.heap.size w w' := by
 induction k using Nat.strongRecOn with
 | _ k ih =>
 intro a0 a1_0 a1_1 a1_2 A1_3 c1_3 l1_3 A1_4 c1_4 l1_4 r1 r2 r3 r4 w hr1_3 hc1_3 hr1_4 hc1_4 h
 cases k with
 | zero => exact absurd h (by simp [spec_Tree.f])
 | succ k =>
 simp only [spec_Tree.f] at h
 have hu78 := Tryz.underlying78
 have hu25 := Tryz.underlying25
 have HR1_3 := Aside0.mk hr1_3
 have HC1_3 := Aside0.mk hc1_3
 clear hr1_3 hc1_3
 have HR1_4 := Aside0.mk hr1_4
 have HC1_4 := Aside0.mk hc1_4
 clear hr1_4 hc1_4
 have HB := Aside0.mk (Below.refl w.heap.size w)
 have H : (if a1_0 = 3 then (if 0 ≤ a1_1 then (if a1_1 ≤ a1_2 then (if a1_2 ≤ (a0.size : Int) then (spec_Tree.j0 k a0 a1_0 a1_1 a1_2 l1_3 l1_4 a1_0 (a0.extract (a1_1 : Int).toNat (a1_2 : Int).toNat)) else (none)) else (none)) else (none)) else (if a1_0 = 4 then (if 0 ≤ a1_1 then (if a1_1 ≤ a1_2 then (if a1_2 ≤ (a0.size : Int) then ((spec_Unquote.f k (a0.extract (a1_1 : Int).toNat (a1_2 : Int).toNat)).bind fun t343 => (spec_Tree.j0 k a0 a1_0 a1_1 a1_2 l1_3 l1_4 a1_0 t343)) else (none)) else (none)) else (none)) else (spec_Tree.j0 k a0 a1_0 a1_1 a1_2 l1_3 l1_4 a1_0 (⟨#[]⟩ : ByteArray)))) = some (r1, r2, r3, r4) := h
 clear h
 have HC3 := Aside0.mk H
 clear H
 go_enter Tryz.func48, Tryz.ntmps48
 go_upto_block 0 with (first | ((with_reducible refine gate_dst (N := 3) rfl ?_); refine box_event ?hg (N := 3) ?hd (cs := #[.int .i64 a1_0, .int .i64 a1_1, .int .i64 a1_2, .slice A1_3 l1_3.length c1_3, .slice A1_4 l1_4.length c1_4]) (t := 78) ?hr ?_; (case hd => rfl); (case hg => rfl); (case hr => first | (go_simp; done) | (go_simp; rfl)); intro gb340 hg w4 hbox hb; have n0_ := Aside0.mk (below_step (by repeat (first | (with_reducible first | exact HB.out | apply bA | apply bN | apply bD) | exact HB.out)) hb); have n1_ := Aside0.mk (hbox); have n2_ := Aside0.mk ((by rw [hg]; exact (below_size (by repeat (first | (with_reducible first | exact HB.out | apply bA | apply bN | apply bD) | exact HB.out))) : w.heap.size ≤ gb340)); have n3_ := Aside0.mk ((by rw [hg]; exact (below_size (by repeat (first | (with_reducible first | exact HB.out | apply bA | apply bN | apply bD) | exact HB.out))) : w.heap.size ≤ gb340)); clear HB; have HB := n0_; have BK340 := n1_; have GW340 := n2_; have GE340 := n3_; clear n0_ n1_ n2_ n3_; clear hb hbox hg) | ((with_reducible refine gate_dst (N := 4) rfl ?_); refine box_event ?hg (N := 4) ?hd (cs := #[.int .i64 0, .string (⟨#[]⟩ : ByteArray), .slice none 0 0, .slice none 0 0]) (t := 25) ?hr ?_; (case hd => rfl); (case hg => rfl); (case hr => first | (go_simp; done) | (go_simp; rfl)); intro gb341 hg w5 hbox hb; have n0_ := Aside0.mk (blk_below (g := gb340) (o := .cells #[.int .i64 a1_0, .int .i64 a1_1, .int .i64 a1_2, .slice A1_3 l1_3.length c1_3, .slice A1_4 l1_4.length c1_4] 78 (0, 0)) (by (with_reducible repeat (first | refine lN ?_ _ | refine lD ?_ | refine lA ?_ _)); exact BK340.out) hb); have n1_ := Aside0.mk (below_step (by repeat (first | (with_reducible first | exact HB.out | apply bA | apply bN | apply bD | refine below_set ?_ GE340.out) | exact HB.out)) hb); have n2_ := Aside0.mk (hbox); have n3_ := Aside0.mk ((by rw [hg]; exact (below_size (by repeat (first | (with_reducible first | exact HB.out | apply bA | apply bN | apply bD | refine below_set ?_ GE340.out) | exact HB.out))) : w.heap.size ≤ gb341)); have n4_ := Aside0.mk ((by rw [hg]; exact (below_size (by repeat (first | (with_reducible first | exact HB.out | apply bA | apply bN | apply bD | refine below_set ?_ GE340.out) | exact HB.out))) : w.heap.size ≤ gb341)); have n5_ := Aside0.mk ((by rw [hg]; exact Nat.ne_of_lt (blk_lt (g := gb340) (o := .cells #[.int .i64 a1_0, .int .i64 a1_1, .int .i64 a1_2, .slice A1_3 l1_3.length c1_3, .slice A1_4 l1_4.length c1_4] 78 (0, 0)) (by (with_reducible repeat (first | refine lN ?_ _ | refine lD ?_ | refine lA ?_ _)); exact BK340.out)) : gb340 ≠ gb341)); have n6_ := Aside0.mk ((by rw [hg]; exact Nat.ne_of_gt (blk_lt (g := gb340) (o := .cells #[.int .i64 a1_0, .int .i64 a1_1, .int .i64 a1_2, .slice A1_3 l1_3.length c1_3, .slice A1_4 l1_4.length c1_4] 78 (0, 0)) (by (with_reducible repeat (first | refine lN ?_ _ | refine lD ?_ | refine lA ?_ _)); exact BK340.out)) : gb341 ≠ gb340)); clear BK340; clear HB; have BK340 := n0_; have HB := n1_; have BK341 := n2_; have GW341 := n3_; have GE341 := n4_; have NB340_341 := n5_; have NB341_340 := n6_; clear n0_ n1_ n2_ n3_ n4_ n5_ n6_; clear hb hbox hg; have hnb6 := NB340_341.out; have hnc6 := NB341_340.out; have hcz7_0 : w5.cell? ⟨gb340, 0, none⟩ = some (.int .i64 a1_0) := (blk_cell BK340.out 0).trans rfl; have hcz7_1 : w5.cell? ⟨gb340, 1, none⟩ = some (.int .i64 a1_1) := (blk_cell BK340.out 1).trans rfl; have hcz7_2 : w5.cell? ⟨gb340, 2, none⟩ = some (.int .i64 a1_2) := (blk_cell BK340.out 2).trans rfl; have hcz7_3 : w5.cell? ⟨gb340, 3, none⟩ = some (.slice A1_3 l1_3.length c1_3) := (blk_cell BK340.out 3).trans rfl; have hcz7_4 : w5.cell? ⟨gb340, 4, none⟩ = some (.slice A1_4 l1_4.length c1_4) := (blk_cell BK340.out 4).trans rfl; have hfz7_0 := blk_frozen BK340.out 0; have hfz7_1 := blk_frozen BK340.out 1; have hfz7_2 := blk_frozen BK340.out 2; have hfz7_3 := blk_frozen BK340.out 3; have hfz7_4 := blk_frozen BK340.out 4) | ((with_reducible refine gate_dst (N := 5) rfl ?_); refine box_event ?hg (N := 5) ?hd (cs := #[.int .i64 0, .string (⟨#[]⟩ : ByteArray), .slice none 0 0, .slice none 0 0]) (t := 25) ?hr ?_; (case hd => rfl); (case hg => rfl); (case hr => first | (go_simp; done) | (go_simp; rfl)); intro gb342 hg w8 hbox hb; have n0_ := Aside0.mk (blk_below (g := gb340) (o := .cells #[.int .i64 a1_0, .int .i64 a1_1, .int .i64 a1_2, .slice A1_3 l1_3.length c1_3, .slice A1_4 l1_4.length c1_4] 78 (0, 0)) (by (with_reducible repeat (first | refine lN ?_ _ | refine lD ?_ | refine lA ?_ _)); exact BK340.out) hb); have n1_ := Aside0.mk (blk_below (g := gb341) (o := .cells #[.int .i64 0, .string (⟨#[]⟩ : ByteArray), .slice none 0 0, .slice none 0 0] 25 (0, 0)) (by (with_reducible repeat (first | refine lN ?_ _ | refine lD ?_ | refine lA ?_ _)); exact BK341.out) hb); have n2_ := Aside0.mk (below_step (by repeat (first | (with_reducible first | exact HB.out | apply bA | apply bN | apply bD | refine below_set ?_ GE340.out | refine below_set ?_ GE341.out) | exact HB.out)) hb); have n3_ := Aside0.mk (hbox); have n4_ := Aside0.mk ((by rw [hg]; exact (below_size (by repeat (first | (with_reducible first | exact HB.out | apply bA | apply bN | apply bD | refine below_set ?_ GE340.out | refine below_set ?_ GE341.out) | exact HB.out))) : w.heap.size ≤ gb342)); have n5_ := Aside0.mk ((by rw [hg]; exact (below_size (by repeat (first | (with_reducible first | exact HB.out | apply bA | apply bN | apply bD | refine below_set ?_ GE340.out | refine below_set ?_ GE341.out) | exact HB.out))) : w.heap.size ≤ gb342)); have n6_ := Aside0.mk ((by rw [hg]; exact Nat.ne_of_lt (blk_lt (g := gb340) (o := .cells #[.int .i64 a1_0, .int .i64 a1_1, .int .i64 a1_2, .slice A1_3 l1_3.length c1_3, .slice A1_4 l1_4.length c1_4] 78 (0, 0)) (by (with_reducible repeat (first | refine lN ?_ _ | refine lD ?_ | refine lA ?_ _)); exact BK340.out)) : gb340 ≠ gb342)); have n7_ := Aside0.mk ((by rw [hg]; exact Nat.ne_of_gt (blk_lt (g := gb340) (o := .cells #[.int .i64 a1_0, .int .i64 a1_1, .int .i64 a1_2, .slice A1_3 l1_3.length c1_3, .slice A1_4 l1_4.length c1_4] 78 (0, 0)) (by (with_reducible repeat (first | refine lN ?_ _ | refine lD ?_ | refine lA ?_ _)); exact BK340.out)) : gb342 ≠ gb340)); have n8_ := Aside0.mk ((by rw [hg]; exact Nat.ne_of_lt (blk_lt (g := gb341) (o := .cells #[.int .i64 0, .string (⟨#[]⟩ : ByteArray), .slice none 0 0, .slice none 0 0] 25 (0, 0)) (by (with_reducible repeat (first | refine lN ?_ _ | refine lD ?_ | refine lA ?_ _)); exact BK341.out)) : gb341 ≠ gb342)); have n9_ := Aside0.mk ((by rw [hg]; exact Nat.ne_of_gt (blk_lt (g := gb341) (o := .cells #[.int .i64 0, .string (⟨#[]⟩ : ByteArray), .slice none 0 0, .slice none 0 0] 25 (0, 0)) (by (with_reducible repeat (first | refine lN ?_ _ | refine lD ?_ | refine lA ?_ _)); exact BK341.out)) : gb342 ≠ gb341)); clear BK340; clear BK341; clear HB; have BK340 := n0_; have BK341 := n1_; have HB := n2_; have BK342 := n3_; have GW342 := n4_; have GE342 := n5_; have NB340_342 := n6_; have NB342_340 := n7_; have NB341_342 := n8_; have NB342_341 := n9_; clear n0_ n1_ n2_ n3_ n4_ n5_ n6_ n7_ n8_ n9_; clear hb hbox hg; have hnb9 := NB342_340.out; have hnc9 := NB340_342.out; have hnb10 := NB342_341.out; have hnc10 := NB341_342.out; have hcz11_0 : w8.cell? ⟨gb342, 0, none⟩ = some (.int .i64 0) := (blk_cell BK342.out 0).trans rfl; have hcz11_1 : w8.cell? ⟨gb342, 1, none⟩ = some (.string (⟨#[]⟩ : ByteArray)) := (blk_cell BK342.out 1).trans rfl; have hcz11_2 : w8.cell? ⟨gb342, 2, none⟩ = some (.slice none 0 0) := (blk_cell BK342.out 2).trans rfl; have hcz11_3 : w8.cell? ⟨gb342, 3, none⟩ = some (.slice none 0 0) := (blk_cell BK342.out 3).trans rfl; have hfz11_0 := blk_frozen BK342.out 0; have hfz11_1 := blk_frozen BK342.out 1; have hfz11_2 := blk_frozen BK342.out 2; have hfz11_3 := blk_frozen BK342.out 3; have hcz12_0 : w8.cell? ⟨gb340, 0, none⟩ = some (.int .i64 a1_0) := (blk_cell BK340.out 0).trans rfl; have hcz12_1 : w8.cell? ⟨gb340, 1, none⟩ = some (.int .i64 a1_1) := (blk_cell BK340.out 1).trans rfl; have hcz12_2 : w8.cell? ⟨gb340, 2, none⟩ = some (.int .i64 a1_2) := (blk_cell BK340.out 2).trans rfl; have hcz12_3 : w8.cell? ⟨gb340, 3, none⟩ = some (.slice A1_3 l1_3.length c1_3) := (blk_cell BK340.out 3).trans rfl; have hcz12_4 : w8.cell? ⟨gb340, 4, none⟩ = some (.slice A1_4 l1_4.length c1_4) := (blk_cell BK340.out 4).trans rfl; have hfz12_0 := blk_frozen BK340.out 0; have hfz12_1 := blk_frozen BK340.out 1; have hfz12_2 := blk_frozen BK340.out 2; have hfz12_3 := blk_frozen BK340.out 3; have hfz12_4 := blk_frozen BK340.out 4))
 (try simp only [Act.put, List.setIfInBounds_toArray, List.set_cons_zero, List.set_cons_succ])
 go_cut [] (fun wc => ∃ (kq : Nat) (x343001_2 : ByteArray), Aside0 (spec_Tree.j0 kq a0 a1_0 a1_1 a1_2 l1_3 l1_4 a1_0 x343001_2 = some (r1, r2, r3, r4)) ∧ Aside0 (kq ≤ k) ∧ Aside0 (wc.heap[gb340]? = some (.cells #[.int .i64 a1_0, .int .i64 a1_1, .int .i64 a1_2, (.slice A1_3 l1_3.length c1_3), (.slice A1_4 l1_4.length c1_4)] 78 (0, 0))) ∧ Aside0 (wc.heap[gb341]? = some (.cells #[.int .i64 0, .string (⟨#[]⟩ : ByteArray), (.slice none 0 0), (.slice none 0 0)] 25 (0, 0))) ∧ Aside0 (wc.heap[gb342]? = some (.cells #[.int .i64 a1_0, .string x343001_2, (.slice none 0 0), (.slice none 0 0)] 25 (0, 0))) ∧ Aside0 (Below w.heap.size w wc))
 case first =>
  have H := HC3.out
  clear HC3
  by_cases c13 : a1_0 = 3
  ·rw [if_pos c13] at H
   have c13b0 : (a1_0 == 3) = true := beq_iff_eq.mpr c13
   have c13b1 : (a1_0 != 3) = false := bne_eq_false_iff_eq.mpr c13
   clear c13
   (first | rw [c13b0] | (simp only [i64_w]; rw [c13b0]) | skip)
   by_cases c14 : 0 ≤ a1_1
   ·rw [if_pos c14] at H
    have c14b0 := eq_true c14
    have c14b1 : decide (0 ≤ a1_1) = true := decide_eq_true c14
    clear c14
    by_cases c15 : a1_1 ≤ a1_2
    ·rw [if_pos c15] at H
     have c15b0 := eq_true c15
     have c15b1 : decide (a1_1 ≤ a1_2) = true := decide_eq_true c15
     clear c15
     by_cases c16 : a1_2 ≤ (a0.size : Int)
     ·rw [if_pos c16] at H
      have c16b0 := eq_true c16
      have c16b1 : decide (a1_2 ≤ (a0.size : Int)) = true := decide_eq_true c16
      clear c16
      have H' := Aside0.mk H
      clear H
      have hnb17 := NB340_341.out
      have hnc17 := NB341_340.out
      have hnb18 := NB340_342.out
      have hnc18 := NB342_340.out
      have hcz19_0 : w8.cell? ⟨gb340, 0, none⟩ = some (.int .i64 a1_0) := (blk_cell BK340.out 0).trans rfl
      have hcz19_1 : w8.cell? ⟨gb340, 1, none⟩ = some (.int .i64 a1_1) := (blk_cell BK340.out 1).trans rfl
      have hcz19_2 : w8.cell? ⟨gb340, 2, none⟩ = some (.int .i64 a1_2) := (blk_cell BK340.out 2).trans rfl
      have hcz19_3 : w8.cell? ⟨gb340, 3, none⟩ = some (.slice A1_3 l1_3.length c1_3) := (blk_cell BK340.out 3).trans rfl
      have hcz19_4 : w8.cell? ⟨gb340, 4, none⟩ = some (.slice A1_4 l1_4.length c1_4) := (blk_cell BK340.out 4).trans rfl
      have hfz19_0 := blk_frozen BK340.out 0
      have hfz19_1 := blk_frozen BK340.out 1
      have hfz19_2 := blk_frozen BK340.out 2
      have hfz19_3 := blk_frozen BK340.out 3
      have hfz19_4 := blk_frozen BK340.out 4
      have hnb20 := NB342_341.out
      have hnc20 := NB341_342.out
      have hcz21_0 : w8.cell? ⟨gb342, 0, none⟩ = some (.int .i64 0) := (blk_cell BK342.out 0).trans rfl
      have hcz21_1 : w8.cell? ⟨gb342, 1, none⟩ = some (.string (⟨#[]⟩ : ByteArray)) := (blk_cell BK342.out 1).trans rfl
      have hcz21_2 : w8.cell? ⟨gb342, 2, none⟩ = some (.slice none 0 0) := (blk_cell BK342.out 2).trans rfl
      have hcz21_3 : w8.cell? ⟨gb342, 3, none⟩ = some (.slice none 0 0) := (blk_cell BK342.out 3).trans rfl
      have hfz21_0 := blk_frozen BK342.out 0
      have hfz21_1 := blk_frozen BK342.out 1
      have hfz21_2 := blk_frozen BK342.out 2
      have hfz21_3 := blk_frozen BK342.out 3
      go_wp2
      go_meet
      case rel => exact ⟨_, (a0.extract (a1_1 : Int).toNat (a1_2 : Int).toNat), H', ⟨by first | omega | exact Nat.le_refl _⟩, ⟨by (with_reducible repeat (first | refine lN ?_ _ | refine lD ?_ | refine lA ?_ _)); refine blk_far ?_ NB340_342.out _; (with_reducible repeat (first | refine lN ?_ _ | refine lD ?_ | refine lA ?_ _)); refine blk_far ?_ NB340_342.out _; (with_reducible repeat (first | refine lN ?_ _ | refine lD ?_ | refine lA ?_ _)); refine blk_far ?_ NB340_342.out _; (with_reducible repeat (first | refine lN ?_ _ | refine lD ?_ | refine lA ?_ _)); refine blk_far ?_ NB340_342.out _; (with_reducible repeat (first | refine lN ?_ _ | refine lD ?_ | refine lA ?_ _)); refine blk_far ?_ NB340_342.out _; (with_reducible repeat (first | refine lN ?_ _ | refine lD ?_ | refine lA ?_ _)); exact BK340.out⟩, ⟨by (with_reducible repeat (first | refine lN ?_ _ | refine lD ?_ | refine lA ?_ _)); refine blk_far ?_ NB341_342.out _; (with_reducible repeat (first | refine lN ?_ _ | refine lD ?_ | refine lA ?_ _)); refine blk_far ?_ NB341_342.out _; (with_reducible repeat (first | refine lN ?_ _ | refine lD ?_ | refine lA ?_ _)); refine blk_far ?_ NB341_342.out _; (with_reducible repeat (first | refine lN ?_ _ | refine lD ?_ | refine lA ?_ _)); refine blk_far ?_ NB341_342.out _; (with_reducible repeat (first | refine lN ?_ _ | refine lD ?_ | refine lA ?_ _)); refine blk_far ?_ NB341_342.out _; (with_reducible repeat (first | refine lN ?_ _ | refine lD ?_ | refine lA ?_ _)); exact BK341.out⟩, ⟨by (with_reducible repeat (first | refine lN ?_ _ | refine lD ?_ | refine lA ?_ _)); refine blk_put (cs := #[.int .i64 a1_0, .string (⟨#[]⟩ : ByteArray), .slice none 0 0, .slice none 0 0]) ?_ 1 _ rfl; (with_reducible repeat (first | refine lN ?_ _ | refine lD ?_ | refine lA ?_ _)); refine blk_put (cs := #[.int .i64 a1_0, .string (⟨#[]⟩ : ByteArray), .slice none 0 0, .slice none 0 0]) ?_ 3 _ rfl; (with_reducible repeat (first | refine lN ?_ _ | refine lD ?_ | refine lA ?_ _)); refine blk_put (cs := #[.int .i64 a1_0, .string (⟨#[]⟩ : ByteArray), .slice none 0 0, .slice none 0 0]) ?_ 2 _ rfl; (with_reducible repeat (first | refine lN ?_ _ | refine lD ?_ | refine lA ?_ _)); refine blk_put (cs := #[.int .i64 a1_0, .string (⟨#[]⟩ : ByteArray), .slice none 0 0, .slice none 0 0]) ?_ 1 _ rfl; (with_reducible repeat (first | refine lN ?_ _ | refine lD ?_ | refine lA ?_ _)); refine blk_put (cs := #[.int .i64 0, .string (⟨#[]⟩ : ByteArray), .slice none 0 0, .slice none 0 0]) ?_ 0 _ rfl; (with_reducible repeat (first | refine lN ?_ _ | refine lD ?_ | refine lA ?_ _)); exact BK342.out⟩, ⟨by repeat (first | (with_reducible first | exact HB.out | apply bA | apply bN | apply bD | refine below_set ?_ GE340.out | refine below_set ?_ GE341.out | refine below_set ?_ GE342.out) | exact HB.out)⟩⟩
     ·rw [if_neg c16] at H
      exact absurd H (by simp)
    ·rw [if_neg c15] at H
     exact absurd H (by simp)
   ·rw [if_neg c14] at H
    exact absurd H (by simp)
  ·rw [if_neg c13] at H
   have c13b0 : (a1_0 == 3) = false := beq_eq_false_iff_ne.mpr c13
   have c13b1 : (a1_0 != 3) = true := bne_iff_ne.mpr c13
   (first | rw [c13b0] | (simp only [i64_w]; rw [c13b0]) | skip)
   by_cases c22 : a1_0 = 4
   ·rw [if_pos c22] at H
    have c22b0 : (a1_0 == 4) = true := beq_iff_eq.mpr c22
    have c22b1 : (a1_0 != 4) = false := bne_eq_false_iff_eq.mpr c22
    clear c22
    by_cases c23 : 0 ≤ a1_1
    ·rw [if_pos c23] at H
     have c23b0 := eq_true c23
     have c23b1 : decide (0 ≤ a1_1) = true := decide_eq_true c23
     clear c23
     by_cases c24 : a1_1 ≤ a1_2
     ·rw [if_pos c24] at H
      have c24b0 := eq_true c24
      have c24b1 : decide (a1_1 ≤ a1_2) = true := decide_eq_true c24
      clear c24
      by_cases c25 : a1_2 ≤ (a0.size : Int)
      ·rw [if_pos c25] at H
       have c25b0 := eq_true c25
       have c25b1 : decide (a1_2 ≤ (a0.size : Int)) = true := decide_eq_true c25
       clear c25
       replace H := Option.bind_eq_some_iff.mp H
       obtain ⟨t343, A260, H⟩ := H
       try dsimp only at H
       have A26 := Aside0.mk A260
       clear A260
       have H' := Aside0.mk H
       clear H
       have hnb27 := NB340_341.out
       have hnc27 := NB341_340.out
       have hnb28 := NB340_342.out
       have hnc28 := NB342_340.out
       have hcz29_0 : w8.cell? ⟨gb340, 0, none⟩ = some (.int .i64 a1_0) := (blk_cell BK340.out 0).trans rfl
       have hcz29_1 : w8.cell? ⟨gb340, 1, none⟩ = some (.int .i64 a1_1) := (blk_cell BK340.out 1).trans rfl
       have hcz29_2 : w8.cell? ⟨gb340, 2, none⟩ = some (.int .i64 a1_2) := (blk_cell BK340.out 2).trans rfl
       have hcz29_3 : w8.cell? ⟨gb340, 3, none⟩ = some (.slice A1_3 l1_3.length c1_3) := (blk_cell BK340.out 3).trans rfl
       have hcz29_4 : w8.cell? ⟨gb340, 4, none⟩ = some (.slice A1_4 l1_4.length c1_4) := (blk_cell BK340.out 4).trans rfl
       have hfz29_0 := blk_frozen BK340.out 0
       have hfz29_1 := blk_frozen BK340.out 1
       have hfz29_2 := blk_frozen BK340.out 2
       have hfz29_3 := blk_frozen BK340.out 3
       have hfz29_4 := blk_frozen BK340.out 4
       go_wp2_with (first | ((with_reducible refine gate_callee (f := 74) rfl ?_); refine goesL_ (some 30) rfl rfl Tryz.func74 (by kernel_rfl) rfl #[.string (a0.extract (a1_1 : Int).toNat (a1_2 : Int).toNat)] rfl (by (try simp only [List.map_toArray, List.map_cons, List.map_nil]); first | done | rfl | (simp only [List.length_drop, List.length_take]; rfl)) ?_; (with_reducible refine (spec_Unquote.calls k (a0.extract (a1_1 : Int).toNat (a1_2 : Int).toNat) t343 _ A26.out).mono ?_); rintro e w30 ⟨rfl, hb⟩; refine ⟨_, rfl, ?_⟩; have n0_ := Aside0.mk (blk_below (g := gb340) (o := .cells #[.int .i64 a1_0, .int .i64 a1_1, .int .i64 a1_2, .slice A1_3 l1_3.length c1_3, .slice A1_4 l1_4.length c1_4] 78 (0, 0)) (by (with_reducible repeat (first | refine lN ?_ _ | refine lD ?_ | refine lA ?_ _)); refine blk_far ?_ NB340_342.out _; (with_reducible repeat (first | refine lN ?_ _ | refine lD ?_ | refine lA ?_ _)); refine blk_far ?_ NB340_342.out _; (with_reducible repeat (first | refine lN ?_ _ | refine lD ?_ | refine lA ?_ _)); refine blk_far ?_ NB340_342.out _; (with_reducible repeat (first | refine lN ?_ _ | refine lD ?_ | refine lA ?_ _)); refine blk_far ?_ NB340_342.out _; (with_reducible repeat (first | refine lN ?_ _ | refine lD ?_ | refine lA ?_ _)); exact BK340.out) hb); have n1_ := Aside0.mk (blk_below (g := gb341) (o := .cells #[.int .i64 0, .string (⟨#[]⟩ : ByteArray), .slice none 0 0, .slice none 0 0] 25 (0, 0)) (by (with_reducible repeat (first | refine lN ?_ _ | refine lD ?_ | refine lA ?_ _)); refine blk_far ?_ NB341_342.out _; (with_reducible repeat (first | refine lN ?_ _ | refine lD ?_ | refine lA ?_ _)); refine blk_far ?_ NB341_342.out _; (with_reducible repeat (first | refine lN ?_ _ | refine lD ?_ | refine lA ?_ _)); refine blk_far ?_ NB341_342.out _; (with_reducible repeat (first | refine lN ?_ _ | refine lD ?_ | refine lA ?_ _)); refine blk_far ?_ NB341_342.out _; (with_reducible repeat (first | refine lN ?_ _ | refine lD ?_ | refine lA ?_ _)); exact BK341.out) hb); have n2_ := Aside0.mk (blk_below (g := gb342) (o := .cells #[.int .i64 a1_0, .string (⟨#[]⟩ : ByteArray), .slice none 0 0, .slice none 0 0] 25 (0, 0)) (by (with_reducible repeat (first | refine lN ?_ _ | refine lD ?_ | refine lA ?_ _)); refine blk_put (cs := #[.int .i64 a1_0, .string (⟨#[]⟩ : ByteArray), .slice none 0 0, .slice none 0 0]) ?_ 3 _ rfl; (with_reducible repeat (first | refine lN ?_ _ | refine lD ?_ | refine lA ?_ _)); refine blk_put (cs := #[.int .i64 a1_0, .string (⟨#[]⟩ : ByteArray), .slice none 0 0, .slice none 0 0]) ?_ 2 _ rfl; (with_reducible repeat (first | refine lN ?_ _ | refine lD ?_ | refine lA ?_ _)); refine blk_put (cs := #[.int .i64 a1_0, .string (⟨#[]⟩ : ByteArray), .slice none 0 0, .slice none 0 0]) ?_ 1 _ rfl; (with_reducible repeat (first | refine lN ?_ _ | refine lD ?_ | refine lA ?_ _)); refine blk_put (cs := #[.int .i64 0, .string (⟨#[]⟩ : ByteArray), .slice none 0 0, .slice none 0 0]) ?_ 0 _ rfl; (with_reducible repeat (first | refine lN ?_ _ | refine lD ?_ | refine lA ?_ _)); exact BK342.out) hb); have n3_ := Aside0.mk (below_step (by repeat (first | (with_reducible first | exact HB.out | apply bA | apply bN | apply bD | refine below_set ?_ GE340.out | refine below_set ?_ GE341.out | refine below_set ?_ GE342.out) | exact HB.out)) hb); clear BK340; clear BK341; clear BK342; clear HB; have BK340 := n0_; have BK341 := n1_; have BK342 := n2_; have HB := n3_; clear n0_ n1_ n2_ n3_; (try clear hb); (try clear hb2); (try clear hk); (try clear hi); have hnb31 := NB342_341.out; have hnc31 := NB341_342.out; have hcz32_0 : w30.cell? ⟨gb342, 0, none⟩ = some (.int .i64 a1_0) := (blk_cell BK342.out 0).trans rfl; have hcz32_1 : w30.cell? ⟨gb342, 1, none⟩ = some (.string (⟨#[]⟩ : ByteArray)) := (blk_cell BK342.out 1).trans rfl; have hcz32_2 : w30.cell? ⟨gb342, 2, none⟩ = some (.slice none 0 0) := (blk_cell BK342.out 2).trans rfl; have hcz32_3 : w30.cell? ⟨gb342, 3, none⟩ = some (.slice none 0 0) := (blk_cell BK342.out 3).trans rfl; have hfz32_0 := blk_frozen BK342.out 0; have hfz32_1 := blk_frozen BK342.out 1; have hfz32_2 := blk_frozen BK342.out 2; have hfz32_3 := blk_frozen BK342.out 3))
       go_meet
       case rel => exact ⟨_, (t343), H', ⟨by first | omega | exact Nat.le_refl _⟩, ⟨by (with_reducible repeat (first | refine lN ?_ _ | refine lD ?_ | refine lA ?_ _)); refine blk_far ?_ NB340_342.out _; (with_reducible repeat (first | refine lN ?_ _ | refine lD ?_ | refine lA ?_ _)); exact BK340.out⟩, ⟨by (with_reducible repeat (first | refine lN ?_ _ | refine lD ?_ | refine lA ?_ _)); refine blk_far ?_ NB341_342.out _; (with_reducible repeat (first | refine lN ?_ _ | refine lD ?_ | refine lA ?_ _)); exact BK341.out⟩, ⟨by (with_reducible repeat (first | refine lN ?_ _ | refine lD ?_ | refine lA ?_ _)); refine blk_put (cs := #[.int .i64 a1_0, .string (⟨#[]⟩ : ByteArray), .slice none 0 0, .slice none 0 0]) ?_ 1 _ rfl; (with_reducible repeat (first | refine lN ?_ _ | refine lD ?_ | refine lA ?_ _)); exact BK342.out⟩, ⟨by repeat (first | (with_reducible first | exact HB.out | apply bA | apply bN | apply bD | refine below_set ?_ GE340.out | refine below_set ?_ GE341.out | refine below_set ?_ GE342.out) | exact HB.out)⟩⟩
      ·rw [if_neg c25] at H
       exact absurd H (by simp)
     ·rw [if_neg c24] at H
      exact absurd H (by simp)
    ·rw [if_neg c23] at H
     exact absurd H (by simp)
   ·rw [if_neg c22] at H
    have c22b0 : (a1_0 == 4) = false := beq_eq_false_iff_ne.mpr c22
    have c22b1 : (a1_0 != 4) = true := bne_iff_ne.mpr c22
    have H' := Aside0.mk H
    clear H
    go_wp2
    go_meet
    case rel => exact ⟨_, ((⟨#[]⟩ : ByteArray)), H', ⟨by first | omega | exact Nat.le_refl _⟩, ⟨by (with_reducible repeat (first | refine lN ?_ _ | refine lD ?_ | refine lA ?_ _)); refine blk_far ?_ NB340_342.out _; (with_reducible repeat (first | refine lN ?_ _ | refine lD ?_ | refine lA ?_ _)); refine blk_far ?_ NB340_342.out _; (with_reducible repeat (first | refine lN ?_ _ | refine lD ?_ | refine lA ?_ _)); refine blk_far ?_ NB340_342.out _; (with_reducible repeat (first | refine lN ?_ _ | refine lD ?_ | refine lA ?_ _)); refine blk_far ?_ NB340_342.out _; (with_reducible repeat (first | refine lN ?_ _ | refine lD ?_ | refine lA ?_ _)); exact BK340.out⟩, ⟨by (with_reducible repeat (first | refine lN ?_ _ | refine lD ?_ | refine lA ?_ _)); refine blk_far ?_ NB341_342.out _; (with_reducible repeat (first | refine lN ?_ _ | refine lD ?_ | refine lA ?_ _)); refine blk_far ?_ NB341_342.out _; (with_reducible repeat (first | refine lN ?_ _ | refine lD ?_ | refine lA ?_ _)); refine blk_far ?_ NB341_342.out _; (with_reducible repeat (first | refine lN ?_ _ | refine lD ?_ | refine lA ?_ _)); refine blk_far ?_ NB341_342.out _; (with_reducible repeat (first | refine lN ?_ _ | refine lD ?_ | refine lA ?_ _)); exact BK341.out⟩, ⟨by (with_reducible repeat (first | refine lN ?_ _ | refine lD ?_ | refine lA ?_ _)); refine blk_put (cs := #[.int .i64 a1_0, .string (⟨#[]⟩ : ByteArray), .slice none 0 0, .slice none 0 0]) ?_ 3 _ rfl; (with_reducible repeat (first | refine lN ?_ _ | refine lD ?_ | refine lA ?_ _)); refine blk_put (cs := #[.int .i64 a1_0, .string (⟨#[]⟩ : ByteArray), .slice none 0 0, .slice none 0 0]) ?_ 2 _ rfl; (with_reducible repeat (first | refine lN ?_ _ | refine lD ?_ | refine lA ?_ _)); refine blk_put (cs := #[.int .i64 a1_0, .string (⟨#[]⟩ : ByteArray), .slice none 0 0, .slice none 0 0]) ?_ 1 _ rfl; (with_reducible repeat (first | refine lN ?_ _ | refine lD ?_ | refine lA ?_ _)); refine blk_put (cs := #[.int .i64 0, .string (⟨#[]⟩ : ByteArray), .slice none 0 0, .slice none 0 0]) ?_ 0 _ rfl; (with_reducible repeat (first | refine lN ?_ _ | refine lD ?_ | refine lA ?_ _)); exact BK342.out⟩, ⟨by repeat (first | (with_reducible first | exact HB.out | apply bA | apply bN | apply bD | refine below_set ?_ GE340.out | refine below_set ?_ GE341.out | refine below_set ?_ GE342.out) | exact HB.out)⟩⟩
 case rest =>
  clear HC3
  try clear c1
  try clear c2
  try clear p2
  try clear c3
  try clear c4
  try clear c6
  try clear c7
  try clear c9
  try clear c10
  try clear c13
  try clear c13b0
  try clear c13b1
  try clear c14
  try clear c14b0
  try clear c14b1
  try clear c15
  try clear c15b0
  try clear c15b1
  try clear c16
  try clear c16b0
  try clear c16b1
  try clear c17
  try clear c18
  try clear c20
  try clear c22
  try clear c22b0
  try clear c22b1
  try clear c23
  try clear c23b0
  try clear c23b1
  try clear c24
  try clear c24b0
  try clear c24b1
  try clear c25
  try clear c25b0
  try clear c25b1
  try clear c27
  try clear c28
  try clear c31
  try clear hcz11_0
  try clear hcz11_1
  try clear hcz11_2
  try clear hcz11_3
  try clear hcz12_0
  try clear hcz12_1
  try clear hcz12_2
  try clear hcz12_3
  try clear hcz12_4
  try clear hcz19_0
  try clear hcz19_1
  try clear hcz19_2
  try clear hcz19_3
  try clear hcz19_4
  try clear hcz21_0
  try clear hcz21_1
  try clear hcz21_2
  try clear hcz21_3
  try clear hcz29_0
  try clear hcz29_1
  try clear hcz29_2
  try clear hcz29_3
  try clear hcz29_4
  try clear hcz32_0
  try clear hcz32_1
  try clear hcz32_2
  try clear hcz32_3
  try clear hcz7_0
  try clear hcz7_1
  try clear hcz7_2
  try clear hcz7_3
  try clear hcz7_4
  try clear hfz11_0
  try clear hfz11_1
  try clear hfz11_2
  try clear hfz11_3
  try clear hfz12_0
  try clear hfz12_1
  try clear hfz12_2
  try clear hfz12_3
  try clear hfz12_4
  try clear hfz19_0
  try clear hfz19_1
  try clear hfz19_2
  try clear hfz19_3
  try clear hfz19_4
  try clear hfz21_0
  try clear hfz21_1
  try clear hfz21_2
  try clear hfz21_3
  try clear hfz29_0
  try clear hfz29_1
  try clear hfz29_2
  try clear hfz29_3
  try clear hfz29_4
  try clear hfz32_0
  try clear hfz32_1
  try clear hfz32_2
  try clear hfz32_3
  try clear hfz7_0
  try clear hfz7_1
  try clear hfz7_2
  try clear hfz7_3
  try clear hfz7_4
  obtain ⟨kq, x343001_2, HA, HJ2, BK340, BK341, BK342, HB⟩ := hcut
  cases kq with
  | zero => exact absurd HA.out (by simp [spec_Tree.j0])
  | succ kj2 =>
   have H := HA.out
   clear HA
   simp only [spec_Tree.j0] at H
   have H' := Aside0.mk H
   clear H
   go_wp2
   go_loopg [6] kj2 (fun kq v6 w' => ∃ (x6_2 : Int) (x343002_2 : List ByteArray) (u343002 : Value), v6 = .int .i64 x6_2 ∧ Aside0 (spec_Tree.l0 kq a0 x6_2 a1_0 a1_1 a1_2 l1_3 l1_4 a1_0 x343001_2 x343002_2 = some (r1, r2, r3, r4)) ∧ Aside0 (kq ≤ kj2) ∧ Aside0 (Kd.R Kd.string 9 w' w.heap.size (fun _ => True) u343002 x343002_2) ∧ Aside0 (w'.heap[gb340]? = some (.cells #[.int .i64 a1_0, .int .i64 a1_1, .int .i64 a1_2, (.slice A1_3 l1_3.length c1_3), (.slice A1_4 l1_4.length c1_4)] 78 (0, 0))) ∧ Aside0 (w'.heap[gb341]? = some (.cells #[.int .i64 0, .string (⟨#[]⟩ : ByteArray), (.slice none 0 0), (.slice none 0 0)] 25 (0, 0))) ∧ Aside0 (w'.heap[gb342]? = some (.cells #[.int .i64 a1_0, .string x343001_2, u343002, (.slice none 0 0)] 25 (0, 0))) ∧ Aside0 (Below w.heap.size w w'))
   case atStart => exact ⟨(0), (([] : List ByteArray)), (.slice none 0 0), (by first | rfl | (simp; done) | (simp [*]; done)), H', ⟨Nat.le_refl _⟩, ⟨by first | exact Kd.R_nil _ _ _ _ _ | exact Kd.N_nil _ _ _ _ _ | exact Kd.V_nil _ _ _ _ _ | exact Kd.Q_nil _ _ _ _ _ | exact Kd.S_nil _ _ _ _ _⟩, ⟨by (with_reducible repeat (first | refine lN ?_ _ | refine lD ?_ | refine lA ?_ _)); exact BK340.out⟩, ⟨by (with_reducible repeat (first | refine lN ?_ _ | refine lD ?_ | refine lA ?_ _)); exact BK341.out⟩, ⟨by (with_reducible repeat (first | refine lN ?_ _ | refine lD ?_ | refine lA ?_ _)); exact BK342.out⟩, ⟨by repeat (first | (with_reducible first | exact HB.out | apply bA | apply bN | apply bD | refine below_set ?_ GE340.out | refine below_set ?_ GE341.out | refine below_set ?_ GE342.out) | exact HB.out)⟩⟩
   case round =>
    clear H'
    try clear c1
    try clear c2
    try clear p2
    try clear c3
    try clear c4
    try clear c6
    try clear c7
    try clear c9
    try clear c10
    try clear c13
    try clear c13b0
    try clear c13b1
    try clear c14
    try clear c14b0
    try clear c14b1
    try clear c15
    try clear c15b0
    try clear c15b1
    try clear c16
    try clear c16b0
    try clear c16b1
    try clear c17
    try clear c18
    try clear c20
    try clear c22
    try clear c22b0
    try clear c22b1
    try clear c23
    try clear c23b0
    try clear c23b1
    try clear c24
    try clear c24b0
    try clear c24b1
    try clear c25
    try clear c25b0
    try clear c25b1
    try clear c27
    try clear c28
    try clear c31
    try clear hcz11_0
    try clear hcz11_1
    try clear hcz11_2
    try clear hcz11_3
    try clear hcz12_0
    try clear hcz12_1
    try clear hcz12_2
    try clear hcz12_3
    try clear hcz12_4
    try clear hcz19_0
    try clear hcz19_1
    try clear hcz19_2
    try clear hcz19_3
    try clear hcz19_4
    try clear hcz21_0
    try clear hcz21_1
    try clear hcz21_2
    try clear hcz21_3
    try clear hcz29_0
    try clear hcz29_1
    try clear hcz29_2
    try clear hcz29_3
    try clear hcz29_4
    try clear hcz32_0
    try clear hcz32_1
    try clear hcz32_2
    try clear hcz32_3
    try clear hcz7_0
    try clear hcz7_1
    try clear hcz7_2
    try clear hcz7_3
    try clear hcz7_4
    try clear hfz11_0
    try clear hfz11_1
    try clear hfz11_2
    try clear hfz11_3
    try clear hfz12_0
    try clear hfz12_1
    try clear hfz12_2
    try clear hfz12_3
    try clear hfz12_4
    try clear hfz19_0
    try clear hfz19_1
    try clear hfz19_2
    try clear hfz19_3
    try clear hfz19_4
    try clear hfz21_0
    try clear hfz21_1
    try clear hfz21_2
    try clear hfz21_3
    try clear hfz29_0
    try clear hfz29_1
    try clear hfz29_2
    try clear hfz29_3
    try clear hfz29_4
    try clear hfz32_0
    try clear hfz32_1
    try clear hfz32_2
    try clear hfz32_3
    try clear hfz7_0
    try clear hfz7_1
    try clear hfz7_2
    try clear hfz7_3
    try clear hfz7_4
    try clear p2
    obtain ⟨x6_2, x343002_2, u343002, rfl, HA, HK2, HO_343002, BK340, BK341, BK342, HB⟩ := hrel
    cases gk with
    | zero => exact absurd HA.out (by simp [spec_Tree.l0])
    | succ k2 =>
     have H := HA.out
     clear HA
     simp only [spec_Tree.l0] at H
     by_cases c33 : x6_2 < (l1_3.length : Int)
     ·rw [if_pos c33] at H
      have c33b0 : decide (x6_2 < (l1_3.length : Int)) = true := decide_eq_true c33
      clear c33
      by_cases c34 : 0 ≤ x6_2
      ·rw [if_pos c34] at H
       have c34b0 : decide (0 ≤ x6_2) = true := decide_eq_true c34
       clear c34
       by_cases c35 : 0 ≤ ((rd_T115 l1_3 x6_2).f0)
       ·rw [if_pos c35] at H
        have c35b0 := eq_true c35
        have c35b1 : decide (0 ≤ ((rd_T115 l1_3 x6_2).f0)) = true := decide_eq_true c35
        clear c35
        by_cases c36 : ((rd_T115 l1_3 x6_2).f0) ≤ ((rd_T115 l1_3 x6_2).f1)
        ·rw [if_pos c36] at H
         have c36b0 := eq_true c36
         have c36b1 : decide (((rd_T115 l1_3 x6_2).f0) ≤ ((rd_T115 l1_3 x6_2).f1)) = true := decide_eq_true c36
         clear c36
         by_cases c37 : ((rd_T115 l1_3 x6_2).f1) ≤ (a0.size : Int)
         ·rw [if_pos c37] at H
          have c37b0 := eq_true c37
          have c37b1 : decide (((rd_T115 l1_3 x6_2).f1) ≤ (a0.size : Int)) = true := decide_eq_true c37
          clear c37
          replace H := Option.bind_eq_some_iff.mp H
          obtain ⟨t346, A380, H⟩ := H
          try dsimp only at H
          have A38 := Aside0.mk A380
          clear A380
          by_cases c39 : x343002_2.length < 8796093022208
          ·rw [if_pos c39] at H
           have LMc39 := Aside0.mk c39
           clear c39
           obtain ⟨y347, hy347⟩ : ∃ y_ : List ByteArray, y_ = (x343002_2 ++ [t346]) := ⟨_, rfl⟩
           replace H : (spec_Tree.l0 k2 a0 (wrap64 (x6_2 + 1)) a1_0 a1_1 a1_2 l1_3 l1_4 a1_0 x343001_2 y347) = some (r1, r2, r3, r4) := by first | (rw [hy347]; with_reducible exact H) | (have H2_ := (Option.bind_some _ _).symm.trans H; rw [hy347]; with_reducible exact H2_) | (have H2_ := (Option.bind_some _ _).symm.trans H; with_reducible exact H2_) | with_reducible exact H | (rw [hy347]; exact H) | exact H
           have Ny347 := Aside0.mk hy347
           clear hy347
           have H' := Aside0.mk H
           clear H
           have hnb40 := NB340_341.out
           have hnc40 := NB341_340.out
           have hnb41 := NB340_342.out
           have hnc41 := NB342_340.out
           have hcz42_0 : wr.cell? ⟨gb340, 0, none⟩ = some (.int .i64 a1_0) := (blk_cell BK340.out 0).trans rfl
           have hcz42_1 : wr.cell? ⟨gb340, 1, none⟩ = some (.int .i64 a1_1) := (blk_cell BK340.out 1).trans rfl
           have hcz42_2 : wr.cell? ⟨gb340, 2, none⟩ = some (.int .i64 a1_2) := (blk_cell BK340.out 2).trans rfl
           have hcz42_3 : wr.cell? ⟨gb340, 3, none⟩ = some (.slice A1_3 l1_3.length c1_3) := (blk_cell BK340.out 3).trans rfl
           have hcz42_4 : wr.cell? ⟨gb340, 4, none⟩ = some (.slice A1_4 l1_4.length c1_4) := (blk_cell BK340.out 4).trans rfl
           have hfz42_0 := blk_frozen BK340.out 0
           have hfz42_1 := blk_frozen BK340.out 1
           have hfz42_2 := blk_frozen BK340.out 2
           have hfz42_3 := blk_frozen BK340.out 3
           have hfz42_4 := blk_frozen BK340.out 4
           try go_wp2
           have n0_ := Aside0.mk (Kd.R_drew HO_343002.out)
           have n1_ := Aside0.mk (blk_drew BK340.out)
           have n2_ := Aside0.mk (blk_drew BK341.out)
           have n3_ := Aside0.mk (blk_drew BK342.out)
           have n4_ := Aside0.mk (below_drew1 HB.out)
           clear HO_343002
           clear BK340
           clear BK341
           clear BK342
           clear HB
           have HO_343002 := n0_
           have BK340 := n1_
           have BK341 := n2_
           have BK342 := n3_
           have HB := n4_
           clear n0_ n1_ n2_ n3_ n4_
           have p344 : 0 ≤ (x6_2 : Int) := of_decide_eq_true (by first | (with_reducible assumption) | assumption)
           have q344 : x6_2 < (l1_3.length : Int) := of_decide_eq_true (by first | (with_reducible assumption) | assumption)
           obtain ⟨ad344, e344, hx344_0, hx344_1⟩ := at_T115 HR1_3.out x6_2 p344 q344
           have hw344_1 := hx344_1
           have hw344_0 := hx344_0
           cases e344
           replace hx344_0 := (HB.out.cell (World.block_lt_of_cell? w _ hx344_0)).trans hx344_0
           replace hx344_1 := (HB.out.cell (World.block_lt_of_cell? w _ hx344_1)).trans hx344_1
           replace p344 := eq_true p344
           replace q344 := eq_true q344
           have p345 : 0 ≤ (x6_2 : Int) := of_decide_eq_true (by first | (with_reducible assumption) | assumption)
           have q345 : x6_2 < (l1_3.length : Int) := of_decide_eq_true (by first | (with_reducible assumption) | assumption)
           obtain ⟨ad345, e345, hx345_0, hx345_1⟩ := at_T115 HR1_3.out x6_2 p345 q345
           have hw345_1 := hx345_1
           have hw345_0 := hx345_0
           obtain rfl : ad344 = ad345 := (by injection e345)
           replace hx345_0 := (HB.out.cell (World.block_lt_of_cell? w _ hx345_0)).trans hx345_0
           replace hx345_1 := (HB.out.cell (World.block_lt_of_cell? w _ hx345_1)).trans hx345_1
           replace p345 := eq_true p345
           replace q345 := eq_true q345
           refine start_ (n := 21) (S := fun w' => w'.cell? ⟨gb342, 0, none⟩ = some (.int .i64 a1_0) ∧ w'.cell? ⟨gb342, 1, none⟩ = some (.string x343001_2) ∧ w'.cell? ⟨gb342, 2, none⟩ = some (u343002) ∧ w'.cell? ⟨gb342, 3, none⟩ = some (.slice none 0 0) ∧ w'.cell? ⟨gb340, 0, none⟩ = some (.int .i64 a1_0) ∧ w'.cell? ⟨gb340, 1, none⟩ = some (.int .i64 a1_1) ∧ w'.cell? ⟨gb340, 2, none⟩ = some (.int .i64 a1_2) ∧ w'.cell? ⟨gb340, 3, none⟩ = some (.slice (some ad344) l1_3.length c1_3) ∧ w'.cell? ⟨gb340, 4, none⟩ = some (.slice A1_4 l1_4.length c1_4) ∧ w'.cell? (ad344.add ((x6_2).toNat * 2)) = some (.int .i64 ((rd_T115 l1_3 x6_2).f0)) ∧ w'.cell? ⟨(ad344.add ((x6_2).toNat * 2)).block, (ad344.add ((x6_2).toNat * 2)).off + 1, none⟩ = some (.int .i64 ((rd_T115 l1_3 x6_2).f1)) ∧ w'.cell? (ad344.add ((x6_2).toNat * 2)) = some (.int .i64 ((rd_T115 l1_3 x6_2).f0)) ∧ w'.cell? ⟨(ad344.add ((x6_2).toNat * 2)).block, (ad344.add ((x6_2).toNat * 2)).off + 1, none⟩ = some (.int .i64 ((rd_T115 l1_3 x6_2).f1))) (ds := [20]) #[false, false, false, false, false, false, false, false, false, false, false, false, false, false, false, false, false, false, false, false, false] (by kernel_rfl) rfl rfl ⟨(blk_cell BK342.out 0).trans rfl, (blk_cell BK342.out 1).trans rfl, (blk_cell BK342.out 2).trans rfl, (blk_cell BK342.out 3).trans rfl, (blk_cell BK340.out 0).trans rfl, (blk_cell BK340.out 1).trans rfl, (blk_cell BK340.out 2).trans rfl, (blk_cell BK340.out 3).trans rfl, (blk_cell BK340.out 4).trans rfl, ((HB.out.cell (World.block_lt_of_cell? w _ hw344_0)).trans hw344_0), ((HB.out.cell (World.block_lt_of_cell? w _ hw344_1)).trans hw344_1), ((HB.out.cell (World.block_lt_of_cell? w _ hw345_0)).trans hw345_0), ((HB.out.cell (World.block_lt_of_cell? w _ hw345_1)).trans hw345_1)⟩ (fun hHeld => ?_); refine with_tabW spec_Tree.tab10 spec_Tree.bits10 (fun HT_ HW_ => ?_)
           generalize wr.drew = w43 at HO_343002 BK340 BK341 BK342 HB hx344_0 hx344_1 hx345_0 hx345_1 hHeld ⊢
           refine pure_ (i := 0) (N := some 39) (v := ?_) (a' := ?_) #[true, false, false, false, false, false, false, false, false, false, false, false, false, false, false, false, false, false, false, false, false] rfl rfl (any_of HT_.out (by kernel_rfl)) (fun _ _ _ h => h) (Or.inl ⟨by rfl, ?_⟩) ?_ ?_
           rotate_left
           ·intro w'
            go_simp
            with_reducible rfl
           rotate_left
           ·simp only [Act.put, List.setIfInBounds_toArray, List.set_cons_zero, List.set_cons_succ, i64_w]
            rfl
           refine pure_ (i := 2) (N := some 41) (v := ?_) (a' := ?_) #[true, false, true, false, false, false, false, false, false, false, false, false, false, false, false, false, false, false, false, false, false] rfl rfl (any_of HT_.out (by kernel_rfl)) (fun _ _ _ h => h) (Or.inl ⟨by rfl, ?_⟩) ?_ ?_
           rotate_left
           ·intro w'
            go_simp
            with_reducible rfl
           rotate_left
           ·simp only [Act.put, List.setIfInBounds_toArray, List.set_cons_zero, List.set_cons_succ, i64_w]
            rfl
           refine pure_ (i := 3) (N := some 42) (v := ?_) (a' := ?_) #[true, false, true, true, false, false, false, false, false, false, false, false, false, false, false, false, false, false, false, false, false] rfl rfl (any_of HT_.out (by kernel_rfl)) (fun _ _ _ h => h) (Or.inl ⟨by rfl, ?_⟩) ?_ ?_
           rotate_left
           ·intro w'
            go_simp
            with_reducible rfl
           rotate_left
           ·simp only [Act.put, List.setIfInBounds_toArray, List.set_cons_zero, List.set_cons_succ, i64_w]
            rfl
           refine pure_ (i := 5) (N := some 44) (v := ?_) (a' := ?_) #[true, false, true, true, false, true, false, false, false, false, false, false, false, false, false, false, false, false, false, false, false] rfl rfl (any_of HT_.out (by kernel_rfl)) (fun _ _ _ h => h) (Or.inl ⟨by rfl, ?_⟩) ?_ ?_
           rotate_left
           ·intro w'
            go_simp
            with_reducible rfl
           rotate_left
           ·simp only [Act.put, List.setIfInBounds_toArray, List.set_cons_zero, List.set_cons_succ, i64_w]
            rfl
           refine pure_ (i := 9) (N := some 48) (v := ?_) (a' := ?_) #[true, false, true, true, false, true, false, false, false, true, false, false, false, false, false, false, false, false, false, false, false] rfl rfl (any_of HT_.out (by kernel_rfl)) (fun _ _ _ h => h) (Or.inl ⟨by rfl, ?_⟩) ?_ ?_
           rotate_left
           ·intro w'
            go_simp
            with_reducible rfl
           rotate_left
           ·simp only [Act.put, List.setIfInBounds_toArray, List.set_cons_zero, List.set_cons_succ, i64_w]
            rfl
           refine pure_ (i := 11) (N := some 50) (v := ?_) (a' := ?_) #[true, false, true, true, false, true, false, false, false, true, false, true, false, false, false, false, false, false, false, false, false] rfl rfl (any_of HT_.out (by kernel_rfl)) (fun _ _ _ h => h) (Or.inl ⟨by rfl, ?_⟩) ?_ ?_
           rotate_left
           ·intro w'
            go_simp
            with_reducible rfl
           rotate_left
           ·simp only [Act.put, List.setIfInBounds_toArray, List.set_cons_zero, List.set_cons_succ, i64_w]
            rfl
           refine take_ (i := 1) (N := some 40) (v := ?_) (a' := ?_) #[true, true, true, true, false, true, false, false, false, true, false, true, false, false, false, false, false, false, false, false, false] rfl rfl (take_ofW HT_.out HW_.out (by kernel_rfl)) (fun _ _ _ h => h) (Or.inl ⟨by rfl, ?_⟩) hHeld ?_ ?_
           rotate_left
           ·rintro w' ⟨s0, s1, s2, s3, s4, s5, s6, s7, s8, s9, s10, s11, s12⟩
            go_simp
            with_reducible rfl
           rotate_left
           ·simp only [Act.put, List.setIfInBounds_toArray, List.set_cons_zero, List.set_cons_succ, i64_w]
            rfl
           refine take_ (i := 4) (N := some 43) (v := ?_) (a' := ?_) #[true, true, true, true, true, true, false, false, false, true, false, true, false, false, false, false, false, false, false, false, false] rfl rfl (take_ofW HT_.out HW_.out (by kernel_rfl)) (fun _ _ _ h => h) (Or.inl ⟨by rfl, ?_⟩) hHeld ?_ ?_
           rotate_left
           ·rintro w' ⟨s0, s1, s2, s3, s4, s5, s6, s7, s8, s9, s10, s11, s12⟩
            go_simp
            with_reducible rfl
           rotate_left
           ·simp only [Act.put, List.setIfInBounds_toArray, List.set_cons_zero, List.set_cons_succ, i64_w]
            rfl
           refine pure_ (i := 6) (N := some 45) (v := ?_) (a' := ?_) #[true, true, true, true, true, true, true, false, false, true, false, true, false, false, false, false, false, false, false, false, false] rfl rfl (any_of HT_.out (by kernel_rfl)) (fun _ _ _ h => h) (Or.inl ⟨by rfl, ?_⟩) ?_ ?_
           rotate_left
           ·intro w'
            go_simp
            with_reducible rfl
           rotate_left
           ·simp only [Act.put, List.setIfInBounds_toArray, List.set_cons_zero, List.set_cons_succ, i64_w]
            rfl
           refine pure_ (i := 7) (N := some 46) (v := ?_) (a' := ?_) #[true, true, true, true, true, true, true, true, false, true, false, true, false, false, false, false, false, false, false, false, false] rfl rfl (any_of HT_.out (by kernel_rfl)) (fun _ _ _ h => h) (Or.inl ⟨by rfl, ?_⟩) ?_ ?_
           rotate_left
           ·intro w'
            go_simp
            with_reducible rfl
           rotate_left
           ·simp only [Act.put, List.setIfInBounds_toArray, List.set_cons_zero, List.set_cons_succ, i64_w]
            rfl
           refine take_ (i := 8) (N := some 47) (v := ?_) (a' := ?_) #[true, true, true, true, true, true, true, true, true, true, false, true, false, false, false, false, false, false, false, false, false] rfl rfl (take_ofW HT_.out HW_.out (by kernel_rfl)) (fun _ _ _ h => h) (Or.inl ⟨by rfl, ?_⟩) hHeld ?_ ?_
           rotate_left
           ·rintro w' ⟨s0, s1, s2, s3, s4, s5, s6, s7, s8, s9, s10, s11, s12⟩
            go_simp
            with_reducible rfl
           rotate_left
           ·simp only [Act.put, List.setIfInBounds_toArray, List.set_cons_zero, List.set_cons_succ, i64_w]
            rfl
           refine take_ (i := 10) (N := some 49) (v := ?_) (a' := ?_) #[true, true, true, true, true, true, true, true, true, true, true, true, false, false, false, false, false, false, false, false, false] rfl rfl (take_ofW HT_.out HW_.out (by kernel_rfl)) (fun _ _ _ h => h) (Or.inl ⟨by rfl, ?_⟩) hHeld ?_ ?_
           rotate_left
           ·rintro w' ⟨s0, s1, s2, s3, s4, s5, s6, s7, s8, s9, s10, s11, s12⟩
            go_simp
            with_reducible rfl
           rotate_left
           ·simp only [Act.put, List.setIfInBounds_toArray, List.set_cons_zero, List.set_cons_succ, i64_w]
            rfl
           refine pure_ (i := 12) (N := some 51) (v := ?_) (a' := ?_) #[true, true, true, true, true, true, true, true, true, true, true, true, true, false, false, false, false, false, false, false, false] rfl rfl (any_of HT_.out (by kernel_rfl)) (fun _ _ _ h => h) (Or.inl ⟨by rfl, ?_⟩) ?_ ?_
           rotate_left
           ·intro w'
            go_simp
            with_reducible rfl
           rotate_left
           ·simp only [Act.put, List.setIfInBounds_toArray, List.set_cons_zero, List.set_cons_succ, i64_w]
            rfl
           refine pure_ (i := 13) (N := some 52) (v := ?_) (a' := ?_) #[true, true, true, true, true, true, true, true, true, true, true, true, true, true, false, false, false, false, false, false, false] rfl rfl (any_of HT_.out (by kernel_rfl)) (fun _ _ _ h => h) (Or.inl ⟨by rfl, ?_⟩) ?_ ?_
           rotate_left
           ·intro w'
            go_simp
            with_reducible rfl
           rotate_left
           ·simp only [Act.put, List.setIfInBounds_toArray, List.set_cons_zero, List.set_cons_succ, i64_w]
            rfl
           refine take_ (i := 14) (N := some 53) (v := ?_) (a' := ?_) #[true, true, true, true, true, true, true, true, true, true, true, true, true, true, true, false, false, false, false, false, false] rfl rfl (take_ofW HT_.out HW_.out (by kernel_rfl)) (fun _ _ _ h => h) (Or.inl ⟨by rfl, ?_⟩) hHeld ?_ ?_
           rotate_left
           ·rintro w' ⟨s0, s1, s2, s3, s4, s5, s6, s7, s8, s9, s10, s11, s12⟩
            go_simp
            with_reducible rfl
           rotate_left
           ·simp only [Act.put, List.setIfInBounds_toArray, List.set_cons_zero, List.set_cons_succ, i64_w]
            rfl
           refine pure_ (i := 15) (N := some 54) (v := ?_) (a' := ?_) #[true, true, true, true, true, true, true, true, true, true, true, true, true, true, true, true, false, false, false, false, false] rfl rfl (any_of HT_.out (by kernel_rfl)) (fun _ _ _ h => h) (Or.inl ⟨by rfl, ?_⟩) ?_ ?_
           rotate_left
           ·intro w'
            go_simp
            with_reducible rfl
           rotate_left
           ·simp only [Act.put, List.setIfInBounds_toArray, List.set_cons_zero, List.set_cons_succ, i64_w]
            rfl
           refine one_ (i := 16) (N := some 55) #[true, true, true, true, true, true, true, true, true, true, true, true, true, true, true, true, true, false, false, false, false] rfl rfl (one_of HT_.out (by kernel_rfl)) (by decide) (fun K hK => ?_)
           refine goes_ Tryz.func74 (by kernel_rfl) rfl #[.string (a0.extract (((rd_T115 l1_3 x6_2).f0) : Int).toNat (((rd_T115 l1_3 x6_2).f1) : Int).toNat)] (by rfl) rfl rfl (by (try simp only [List.map_toArray, List.map_cons, List.map_nil]); first | done | rfl | (simp only [List.length_drop, List.length_take]; rfl)) ?_
           with_reducible refine (spec_Unquote.calls k2 (a0.extract (((rd_T115 l1_3 x6_2).f0) : Int).toNat (((rd_T115 l1_3 x6_2).f1) : Int).toNat) t346 _ A38.out).mono ?_
           rintro e w44 ⟨rfl, hb⟩
           refine ⟨_, rfl, ?_⟩
           have n0_ := Aside0.mk (Kd.R_below (by (with_reducible repeat (first | apply rA | apply rN | apply rD)); exact HO_343002.out) hb)
           have n1_ := Aside0.mk (blk_below (g := gb340) (o := .cells #[.int .i64 a1_0, .int .i64 a1_1, .int .i64 a1_2, .slice (some ad344) l1_3.length c1_3, .slice A1_4 l1_4.length c1_4] 78 (0, 0)) (by (with_reducible repeat (first | refine lN ?_ _ | refine lD ?_ | refine lA ?_ _)); exact BK340.out) hb)
           have n2_ := Aside0.mk (blk_below (g := gb341) (o := .cells #[.int .i64 0, .string (⟨#[]⟩ : ByteArray), .slice none 0 0, .slice none 0 0] 25 (0, 0)) (by (with_reducible repeat (first | refine lN ?_ _ | refine lD ?_ | refine lA ?_ _)); exact BK341.out) hb)
           have n3_ := Aside0.mk (blk_below (g := gb342) (o := .cells #[.int .i64 a1_0, .string x343001_2, u343002, .slice none 0 0] 25 (0, 0)) (by (with_reducible repeat (first | refine lN ?_ _ | refine lD ?_ | refine lA ?_ _)); exact BK342.out) hb)
           have n4_ := Aside0.mk (below_step (by repeat (first | (with_reducible first | exact HB.out | apply bA | apply bN | apply bD | refine below_set ?_ GE340.out | refine below_set ?_ GE341.out | refine below_set ?_ GE342.out) | exact HB.out)) hb)
           clear HO_343002
           clear BK340
           clear BK341
           clear BK342
           clear HB
           have HO_343002 := n0_
           have BK340 := n1_
           have BK341 := n2_
           have BK342 := n3_
           have HB := n4_
           clear n0_ n1_ n2_ n3_ n4_
           (try clear hb)
           (try clear hb2)
           (try clear hk)
           (try clear hi)
           refine hK.out _ _ ⟨(blk_cell BK342.out 0).trans rfl, (blk_cell BK342.out 1).trans rfl, (blk_cell BK342.out 2).trans rfl, (blk_cell BK342.out 3).trans rfl, (blk_cell BK340.out 0).trans rfl, (blk_cell BK340.out 1).trans rfl, (blk_cell BK340.out 2).trans rfl, (blk_cell BK340.out 3).trans rfl, (blk_cell BK340.out 4).trans rfl, ((HB.out.cell (World.block_lt_of_cell? w _ hw344_0)).trans hw344_0), ((HB.out.cell (World.block_lt_of_cell? w _ hw344_1)).trans hw344_1), ((HB.out.cell (World.block_lt_of_cell? w _ hw345_0)).trans hw345_0), ((HB.out.cell (World.block_lt_of_cell? w _ hw345_1)).trans hw345_1)⟩ (fun hHeld => ?_)
           clear hK K
           refine norm_ (a' := ?_) ?_ ?_
           rotate_left
           ·show Act.put _ (some 55) _ = _
            simp only [Act.put, List.setIfInBounds_toArray, List.set_cons_zero, List.set_cons_succ, i64_w]
            rfl
           refine one_ (i := 17) (N := some 56) #[true, true, true, true, true, true, true, true, true, true, true, true, true, true, true, true, true, true, false, false, false] rfl rfl (one_of HT_.out (by kernel_rfl)) (by decide) (fun K hK => ?_)
           refine value_ (w1 := ?_) (v := ?_) (by rfl) rfl ?_ ?_
           rotate_left 2
           ·go_simp
            constructor
            ·rfl
            ·rfl
           refine hK.out _ _ ⟨(blk_cell (blk_alloc BK342.out _) 0).trans rfl, (blk_cell (blk_alloc BK342.out _) 1).trans rfl, (blk_cell (blk_alloc BK342.out _) 2).trans rfl, (blk_cell (blk_alloc BK342.out _) 3).trans rfl, (blk_cell (blk_alloc BK340.out _) 0).trans rfl, (blk_cell (blk_alloc BK340.out _) 1).trans rfl, (blk_cell (blk_alloc BK340.out _) 2).trans rfl, (blk_cell (blk_alloc BK340.out _) 3).trans rfl, (blk_cell (blk_alloc BK340.out _) 4).trans rfl, (World.cell?_alloc_lt _ _ _ (World.block_lt_of_cell? _ _ (((HB.out.cell (World.block_lt_of_cell? w _ hw344_0)).trans hw344_0)))).trans (((HB.out.cell (World.block_lt_of_cell? w _ hw344_0)).trans hw344_0)), (World.cell?_alloc_lt _ _ _ (World.block_lt_of_cell? _ _ (((HB.out.cell (World.block_lt_of_cell? w _ hw344_1)).trans hw344_1)))).trans (((HB.out.cell (World.block_lt_of_cell? w _ hw344_1)).trans hw344_1)), (World.cell?_alloc_lt _ _ _ (World.block_lt_of_cell? _ _ (((HB.out.cell (World.block_lt_of_cell? w _ hw345_0)).trans hw345_0)))).trans (((HB.out.cell (World.block_lt_of_cell? w _ hw345_0)).trans hw345_0)), (World.cell?_alloc_lt _ _ _ (World.block_lt_of_cell? _ _ (((HB.out.cell (World.block_lt_of_cell? w _ hw345_1)).trans hw345_1)))).trans (((HB.out.cell (World.block_lt_of_cell? w _ hw345_1)).trans hw345_1))⟩ (fun hHeld => ?_)
           clear hK K
           refine norm_ (a' := ?_) ?_ ?_
           rotate_left
           ·show Act.put _ (some 56) _ = _
            simp only [Act.put, List.setIfInBounds_toArray, List.set_cons_zero, List.set_cons_succ, i64_w]
            rfl
           refine one_ (i := 18) (N := some 57) #[true, true, true, true, true, true, true, true, true, true, true, true, true, true, true, true, true, true, true, false, false] rfl rfl (one_of HT_.out (by kernel_rfl)) (by decide) (fun K hK => ?_)
           refine Kd.R_append_step Kd.string (w0 := w) w.heap.size (by rfl) (.tmp 40) (.tmp 56) 22 9 (.string ⟨#[]⟩) 16 rfl Tryz.underlying22 info9 rfl (by decide) (by omega) u343002 x343002_2 t346 [.string t346] (fun _ => True) (fun _ => False) rfl rfl ?aP (fun _ hk => hk.elim) ?aF ?aO ?aB ?aS ?aL ?_
           (case aP => exact rfl)
           (case aB => exact (by repeat (first | (with_reducible first | exact HB.out | apply bA | apply bN | apply bD | refine below_set ?_ GE340.out | refine below_set ?_ GE341.out | refine below_set ?_ GE342.out) | exact HB.out)))
           (case aF => exact (fun _ _ => trivial))
           (case aO => exact (by (with_reducible repeat (first | apply rA | apply rN | apply rD)); exact HO_343002.out))
           (case aS => exact (below_size (by repeat (first | (with_reducible first | exact HB.out | apply bA | apply bN | apply bD | refine below_set ?_ GE340.out | refine below_set ?_ GE341.out | refine below_set ?_ GE342.out) | exact HB.out))))
           (case aL => have := LMc39.out; omega)
           intro v348 w45 ho hb hg hat
           rw [← Ny347.out] at ho
           have n0_ := Aside0.mk (blk_grown (g := gb340) (o := .cells #[.int .i64 a1_0, .int .i64 a1_1, .int .i64 a1_2, .slice (some ad344) l1_3.length c1_3, .slice A1_4 l1_4.length c1_4] 78 (0, 0)) (by (with_reducible repeat (first | refine lN ?_ _ | refine lD ?_ | refine lA ?_ _)); exact BK340.out) hg (Kd.R_ne HO_343002.out BK340.out (by decide)))
           have n1_ := Aside0.mk (blk_grown (g := gb341) (o := .cells #[.int .i64 0, .string (⟨#[]⟩ : ByteArray), .slice none 0 0, .slice none 0 0] 25 (0, 0)) (by (with_reducible repeat (first | refine lN ?_ _ | refine lD ?_ | refine lA ?_ _)); exact BK341.out) hg (Kd.R_ne HO_343002.out BK341.out (by decide)))
           have n2_ := Aside0.mk (blk_grown (g := gb342) (o := .cells #[.int .i64 a1_0, .string x343001_2, u343002, .slice none 0 0] 25 (0, 0)) (by (with_reducible repeat (first | refine lN ?_ _ | refine lD ?_ | refine lA ?_ _)); exact BK342.out) hg (Kd.R_ne HO_343002.out BK342.out (by decide)))
           have n3_ := Aside0.mk (hb)
           have n4_ := Aside0.mk (ho)
           clear BK340
           clear BK341
           clear BK342
           clear HB
           clear HO_343002
           have BK340 := n0_
           have BK341 := n1_
           have BK342 := n2_
           have HB := n3_
           have HO349 := n4_
           clear n0_ n1_ n2_ n3_ n4_
           clear ho hb hg hat
           obtain ⟨Ao46, co46, eo46⟩ := Kd.R_slice HO349.out
           (first | subst eo46 | (injection eo46 with f1_ f2_ f3_; have f4_ := f1_.symm; have f5_ := f3_.symm; clear f1_ f2_ f3_; subst f4_; subst f5_))
           refine hK.out _ _ ⟨(blk_cell BK342.out 0).trans rfl, (blk_cell BK342.out 1).trans rfl, (blk_cell BK342.out 2).trans rfl, (blk_cell BK342.out 3).trans rfl, (blk_cell BK340.out 0).trans rfl, (blk_cell BK340.out 1).trans rfl, (blk_cell BK340.out 2).trans rfl, (blk_cell BK340.out 3).trans rfl, (blk_cell BK340.out 4).trans rfl, ((HB.out.cell (World.block_lt_of_cell? w _ hw344_0)).trans hw344_0), ((HB.out.cell (World.block_lt_of_cell? w _ hw344_1)).trans hw344_1), ((HB.out.cell (World.block_lt_of_cell? w _ hw345_0)).trans hw345_0), ((HB.out.cell (World.block_lt_of_cell? w _ hw345_1)).trans hw345_1)⟩ (fun hHeld => ?_)
           clear hK K
           refine norm_ (a' := ?_) ?_ ?_
           rotate_left
           ·show Act.put _ (some 57) _ = _
            simp only [Act.put, List.setIfInBounds_toArray, List.set_cons_zero, List.set_cons_succ, i64_w]
            rfl
           refine pure_ (i := 19) (N := some 58) (v := ?_) (a' := ?_) #[true, true, true, true, true, true, true, true, true, true, true, true, true, true, true, true, true, true, true, true, false] rfl rfl (any_of HT_.out (by kernel_rfl)) (fun _ _ _ h => h) (Or.inl ⟨by rfl, ?_⟩) ?_ ?_
           rotate_left
           ·intro w'
            go_simp
            with_reducible rfl
           rotate_left
           ·simp only [Act.put, List.setIfInBounds_toArray, List.set_cons_zero, List.set_cons_succ, i64_w]
            rfl
           refine last_ (i := 20) (N := none) #[true, true, true, true, true, true, true, true, true, true, true, true, true, true, true, true, true, true, true, true, true] rfl rfl (one_of HT_.out (by kernel_rfl)) (by decide) (fun K hK => ?_)
           have hs47 : w45.cell? ⟨gb342, 2, none⟩ = some (u343002) := (blk_cell BK342.out 2).trans rfl
           have hfs47 := blk_frozen BK342.out 2
           have hns47_0 := NB340_342.out
           have hns47_1 := NB341_342.out
           have hms47_0 := NB342_340.out
           have hms47_1 := NB342_341.out
           refine skip_ (w1 := ?_) (by rfl) rfl ?_ ?_
           rotate_left
           ·go_simp
            rfl
           refine hK.out _ _ ?_
           clear hK K
           refine done_ (done_of HT_.out (by kernel_rfl)) ?_
           try go_wp2
           go_roundg k2
           case measure => have := HJ2.out; have := HK2.out; omega
           case rel => exact ⟨(wrap64 (x6_2 + 1)), (y347), (.slice Ao46 y347.length co46), (by first | rfl | (simp; done) | (simp [*]; done)), H', ⟨by have := HJ2.out; have := HK2.out; omega⟩, ⟨by (with_reducible repeat (first | apply rA | apply rN | apply rD)); exact Kd.R_mono (Kd.R_far (p := ⟨gb342, 2, none⟩) (Kd.R_types HO349.out BK342.out (by decide)) (fun _ hk => hk.2) (.slice Ao46 y347.length co46)) (fun _ hk => trivial)⟩, ⟨by (with_reducible repeat (first | refine lN ?_ _ | refine lD ?_ | refine lA ?_ _)); refine blk_far ?_ NB340_342.out _; (with_reducible repeat (first | refine lN ?_ _ | refine lD ?_ | refine lA ?_ _)); exact BK340.out⟩, ⟨by (with_reducible repeat (first | refine lN ?_ _ | refine lD ?_ | refine lA ?_ _)); refine blk_far ?_ NB341_342.out _; (with_reducible repeat (first | refine lN ?_ _ | refine lD ?_ | refine lA ?_ _)); exact BK341.out⟩, ⟨by (with_reducible repeat (first | refine lN ?_ _ | refine lD ?_ | refine lA ?_ _)); refine blk_put (cs := #[.int .i64 a1_0, .string x343001_2, u343002, .slice none 0 0]) ?_ 2 _ rfl; (with_reducible repeat (first | refine lN ?_ _ | refine lD ?_ | refine lA ?_ _)); exact BK342.out⟩, ⟨by repeat (first | (with_reducible first | exact HB.out | apply bA | apply bN | apply bD | refine below_set ?_ GE340.out | refine below_set ?_ GE341.out | refine below_set ?_ GE342.out) | exact HB.out)⟩⟩
          ·rw [if_neg c39] at H
           exact absurd H (by simp)
         ·rw [if_neg c37] at H
          exact absurd H (by simp)
        ·rw [if_neg c36] at H
         exact absurd H (by simp)
       ·rw [if_neg c35] at H
        exact absurd H (by simp)
      ·rw [if_neg c34] at H
       exact absurd H (by simp)
     ·rw [if_neg c33] at H
      have c33b0 : decide (x6_2 < (l1_3.length : Int)) = false := decide_eq_false c33
      clear c33
      have H' := Aside0.mk H
      clear H
      have hnb48 := NB340_341.out
      have hnc48 := NB341_340.out
      have hnb49 := NB340_342.out
      have hnc49 := NB342_340.out
      have hcz50_0 : wr.cell? ⟨gb340, 0, none⟩ = some (.int .i64 a1_0) := (blk_cell BK340.out 0).trans rfl
      have hcz50_1 : wr.cell? ⟨gb340, 1, none⟩ = some (.int .i64 a1_1) := (blk_cell BK340.out 1).trans rfl
      have hcz50_2 : wr.cell? ⟨gb340, 2, none⟩ = some (.int .i64 a1_2) := (blk_cell BK340.out 2).trans rfl
      have hcz50_3 : wr.cell? ⟨gb340, 3, none⟩ = some (.slice A1_3 l1_3.length c1_3) := (blk_cell BK340.out 3).trans rfl
      have hcz50_4 : wr.cell? ⟨gb340, 4, none⟩ = some (.slice A1_4 l1_4.length c1_4) := (blk_cell BK340.out 4).trans rfl
      have hfz50_0 := blk_frozen BK340.out 0
      have hfz50_1 := blk_frozen BK340.out 1
      have hfz50_2 := blk_frozen BK340.out 2
      have hfz50_3 := blk_frozen BK340.out 3
      have hfz50_4 := blk_frozen BK340.out 4
      go_wp2
      go_loopg [7] k2 (fun kq v7 w' => ∃ (x7_3 : Int) (x343003_3 : List (S25)) (u343003 : Value), v7 = .int .i64 x7_3 ∧ Aside0 (spec_Tree.l1 kq a0 x7_3 a1_0 a1_1 a1_2 l1_3 l1_4 a1_0 x343001_2 x343002_2 x343003_3 = some (r1, r2, r3, r4)) ∧ Aside0 (kq ≤ k2) ∧ Aside0 (Kd.R Kd.string 9 w' w.heap.size (fun _ => True) u343002 x343002_2) ∧ Aside0 (Kd.R k25 25 w' w.heap.size (fun k_ => some k_ ≠ (u343002 : Value).ownBlock ∧ k_ ≠ gb341 ∧ k_ ≠ gb342) u343003 x343003_3) ∧ Aside0 (w'.heap[gb340]? = some (.cells #[.int .i64 a1_0, .int .i64 a1_1, .int .i64 a1_2, (.slice A1_3 l1_3.length c1_3), (.slice A1_4 l1_4.length c1_4)] 78 (0, 0))) ∧ Aside0 (w'.heap[gb341]? = some (.cells #[.int .i64 0, .string (⟨#[]⟩ : ByteArray), (.slice none 0 0), (.slice none 0 0)] 25 (0, 0))) ∧ Aside0 (w'.heap[gb342]? = some (.cells #[.int .i64 a1_0, .string x343001_2, u343002, u343003] 25 (0, 0))) ∧ Aside0 (Below w.heap.size w w'))
      case atStart => exact ⟨(0), (([] : List (S25))), (.slice none 0 0), (by first | rfl | (simp; done) | (simp [*]; done)), H', ⟨Nat.le_refl _⟩, ⟨by (with_reducible repeat (first | apply rA | apply rN | apply rD)); exact HO_343002.out⟩, ⟨by first | exact Kd.R_nil _ _ _ _ _ | exact Kd.N_nil _ _ _ _ _ | exact Kd.V_nil _ _ _ _ _ | exact Kd.Q_nil _ _ _ _ _ | exact Kd.S_nil _ _ _ _ _⟩, ⟨by (with_reducible repeat (first | refine lN ?_ _ | refine lD ?_ | refine lA ?_ _)); exact BK340.out⟩, ⟨by (with_reducible repeat (first | refine lN ?_ _ | refine lD ?_ | refine lA ?_ _)); exact BK341.out⟩, ⟨by (with_reducible repeat (first | refine lN ?_ _ | refine lD ?_ | refine lA ?_ _)); exact BK342.out⟩, ⟨by repeat (first | (with_reducible first | exact HB.out | apply bA | apply bN | apply bD | refine below_set ?_ GE340.out | refine below_set ?_ GE341.out | refine below_set ?_ GE342.out) | exact HB.out)⟩⟩
      case round =>
       clear H'
       try clear c1
       try clear c2
       try clear p2
       try clear c3
       try clear p3
       try clear q3
       try clear hx3
       try clear c4
       try clear c6
       try clear p6
       try clear c7
       try clear c9
       try clear c10
       try clear c13
       try clear c13b0
       try clear c13b1
       try clear c14
       try clear c14b0
       try clear c14b1
       try clear c15
       try clear c15b0
       try clear c15b1
       try clear c16
       try clear c16b0
       try clear c16b1
       try clear c17
       try clear c18
       try clear c20
       try clear c22
       try clear c22b0
       try clear c22b1
       try clear c23
       try clear c23b0
       try clear c23b1
       try clear c24
       try clear c24b0
       try clear c24b1
       try clear c25
       try clear c25b0
       try clear c25b1
       try clear c27
       try clear c28
       try clear c31
       try clear c33
       try clear c33b0
       try clear c34
       try clear c34b0
       try clear p34
       try clear q34
       try clear hx34
       try clear c35
       try clear c35b0
       try clear c35b1
       try clear c36
       try clear c36b0
       try clear c36b1
       try clear c37
       try clear c37b0
       try clear c37b1
       try clear c39
       try clear c40
       try clear c41
       try clear c48
       try clear c49
       try clear hcz11_0
       try clear hcz11_1
       try clear hcz11_2
       try clear hcz11_3
       try clear hcz12_0
       try clear hcz12_1
       try clear hcz12_2
       try clear hcz12_3
       try clear hcz12_4
       try clear hcz19_0
       try clear hcz19_1
       try clear hcz19_2
       try clear hcz19_3
       try clear hcz19_4
       try clear hcz21_0
       try clear hcz21_1
       try clear hcz21_2
       try clear hcz21_3
       try clear hcz29_0
       try clear hcz29_1
       try clear hcz29_2
       try clear hcz29_3
       try clear hcz29_4
       try clear hcz32_0
       try clear hcz32_1
       try clear hcz32_2
       try clear hcz32_3
       try clear hcz42_0
       try clear hcz42_1
       try clear hcz42_2
       try clear hcz42_3
       try clear hcz42_4
       try clear hcz50_0
       try clear hcz50_1
       try clear hcz50_2
       try clear hcz50_3
       try clear hcz50_4
       try clear hcz7_0
       try clear hcz7_1
       try clear hcz7_2
       try clear hcz7_3
       try clear hcz7_4
       try clear hfz11_0
       try clear hfz11_1
       try clear hfz11_2
       try clear hfz11_3
       try clear hfz12_0
       try clear hfz12_1
       try clear hfz12_2
       try clear hfz12_3
       try clear hfz12_4
       try clear hfz19_0
       try clear hfz19_1
       try clear hfz19_2
       try clear hfz19_3
       try clear hfz19_4
       try clear hfz21_0
       try clear hfz21_1
       try clear hfz21_2
       try clear hfz21_3
       try clear hfz29_0
       try clear hfz29_1
       try clear hfz29_2
       try clear hfz29_3
       try clear hfz29_4
       try clear hfz32_0
       try clear hfz32_1
       try clear hfz32_2
       try clear hfz32_3
       try clear hfz42_0
       try clear hfz42_1
       try clear hfz42_2
       try clear hfz42_3
       try clear hfz42_4
       try clear hfz50_0
       try clear hfz50_1
       try clear hfz50_2
       try clear hfz50_3
       try clear hfz50_4
       try clear hfz7_0
       try clear hfz7_1
       try clear hfz7_2
       try clear hfz7_3
       try clear hfz7_4
       try clear hx344_0
       try clear hx344_1
       try clear hx345_0
       try clear hx345_1
       try clear p2
       try clear p344
       try clear p345
       try clear q344
       try clear q345
       obtain ⟨x7_3, x343003_3, u343003, rfl, HA, HK3, HO_343002, HO_343003, BK340, BK341, BK342, HB⟩ := hrel
       cases gk with
       | zero => exact absurd HA.out (by simp [spec_Tree.l1])
       | succ k3 =>
        have H := HA.out
        clear HA
        simp only [spec_Tree.l1] at H
        by_cases c51 : x7_3 < (l1_4.length : Int)
        ·rw [if_pos c51] at H
         have c51b0 : decide (x7_3 < (l1_4.length : Int)) = true := decide_eq_true c51
         clear c51
         by_cases c52 : 0 ≤ x7_3
         ·rw [if_pos c52] at H
          have c52b0 : decide (0 ≤ x7_3) = true := decide_eq_true c52
          clear c52
          replace H := Option.bind_eq_some_iff.mp H
          obtain ⟨⟨t351, t352, t353, t356⟩, A530, H⟩ := H
          try dsimp only at H
          have A53 := Aside0.mk A530
          clear A530
          by_cases c54 : x343003_3.length < 1954687338268
          ·rw [if_pos c54] at H
           have LMc54 := Aside0.mk c54
           clear c54
           obtain ⟨y359, hy359⟩ : ∃ y_ : List (S25), y_ = (x343003_3 ++ [(⟨t351, t352, t353, t356⟩ : S25)]) := ⟨_, rfl⟩
           replace H : (spec_Tree.l1 k3 a0 (wrap64 (x7_3 + 1)) a1_0 a1_1 a1_2 l1_3 l1_4 a1_0 x343001_2 x343002_2 y359) = some (r1, r2, r3, r4) := by first | (rw [hy359]; with_reducible exact H) | (have H2_ := (Option.bind_some _ _).symm.trans H; rw [hy359]; with_reducible exact H2_) | (have H2_ := (Option.bind_some _ _).symm.trans H; with_reducible exact H2_) | with_reducible exact H | (rw [hy359]; exact H) | exact H
           have Ny359 := Aside0.mk hy359
           clear hy359
           have H' := Aside0.mk H
           clear H
           have hnb55 := NB340_341.out
           have hnc55 := NB341_340.out
           have hnb56 := NB340_342.out
           have hnc56 := NB342_340.out
           have hcz57_0 : wr.cell? ⟨gb340, 0, none⟩ = some (.int .i64 a1_0) := (blk_cell BK340.out 0).trans rfl
           have hcz57_1 : wr.cell? ⟨gb340, 1, none⟩ = some (.int .i64 a1_1) := (blk_cell BK340.out 1).trans rfl
           have hcz57_2 : wr.cell? ⟨gb340, 2, none⟩ = some (.int .i64 a1_2) := (blk_cell BK340.out 2).trans rfl
           have hcz57_3 : wr.cell? ⟨gb340, 3, none⟩ = some (.slice A1_3 l1_3.length c1_3) := (blk_cell BK340.out 3).trans rfl
           have hcz57_4 : wr.cell? ⟨gb340, 4, none⟩ = some (.slice A1_4 l1_4.length c1_4) := (blk_cell BK340.out 4).trans rfl
           have hfz57_0 := blk_frozen BK340.out 0
           have hfz57_1 := blk_frozen BK340.out 1
           have hfz57_2 := blk_frozen BK340.out 2
           have hfz57_3 := blk_frozen BK340.out 3
           have hfz57_4 := blk_frozen BK340.out 4
           try go_wp2
           have n0_ := Aside0.mk (Kd.R_drew HO_343002.out)
           have n1_ := Aside0.mk (Kd.R_drew HO_343003.out)
           have n2_ := Aside0.mk (blk_drew BK340.out)
           have n3_ := Aside0.mk (blk_drew BK341.out)
           have n4_ := Aside0.mk (blk_drew BK342.out)
           have n5_ := Aside0.mk (below_drew1 HB.out)
           clear HO_343002
           clear HO_343003
           clear BK340
           clear BK341
           clear BK342
           clear HB
           have HO_343002 := n0_
           have HO_343003 := n1_
           have BK340 := n2_
           have BK341 := n3_
           have BK342 := n4_
           have HB := n5_
           clear n0_ n1_ n2_ n3_ n4_ n5_
           have p350 : 0 ≤ (x7_3 : Int) := of_decide_eq_true (by first | (with_reducible assumption) | assumption)
           have q350 : x7_3 < (l1_4.length : Int) := of_decide_eq_true (by first | (with_reducible assumption) | assumption)
           obtain ⟨ad350, A350_3, c350_3, A350_4, c350_4, e350, hx350_0, hx350_1, hx350_2, hx350_3, hx350_4, hl350_3, hi350_3, hl350_4, hi350_4⟩ := at_T78 HR1_4.out x7_3 p350 q350
           have hw350_4 := hx350_4
           have hw350_3 := hx350_3
           have hw350_2 := hx350_2
           have hw350_1 := hx350_1
           have hw350_0 := hx350_0
           cases e350
           replace hx350_0 := (HB.out.cell (World.block_lt_of_cell? w _ hx350_0)).trans hx350_0
           replace hx350_1 := (HB.out.cell (World.block_lt_of_cell? w _ hx350_1)).trans hx350_1
           replace hx350_2 := (HB.out.cell (World.block_lt_of_cell? w _ hx350_2)).trans hx350_2
           replace hx350_3 := (HB.out.cell (World.block_lt_of_cell? w _ hx350_3)).trans hx350_3
           replace hx350_4 := (HB.out.cell (World.block_lt_of_cell? w _ hx350_4)).trans hx350_4
           have HR350_3 := Aside0.mk hi350_3
           have HC350_3 := Aside0.mk hl350_3
           clear hi350_3 hl350_3
           have HR350_4 := Aside0.mk hi350_4
           have HC350_4 := Aside0.mk hl350_4
           clear hi350_4 hl350_4
           replace p350 := eq_true p350
           replace q350 := eq_true q350
           refine start_ (n := 13) (S := fun w' => w'.cell? ⟨gb342, 0, none⟩ = some (.int .i64 a1_0) ∧ w'.cell? ⟨gb342, 1, none⟩ = some (.string x343001_2) ∧ w'.cell? ⟨gb342, 2, none⟩ = some (u343002) ∧ w'.cell? ⟨gb342, 3, none⟩ = some (u343003) ∧ w'.cell? ⟨gb340, 0, none⟩ = some (.int .i64 a1_0) ∧ w'.cell? ⟨gb340, 1, none⟩ = some (.int .i64 a1_1) ∧ w'.cell? ⟨gb340, 2, none⟩ = some (.int .i64 a1_2) ∧ w'.cell? ⟨gb340, 3, none⟩ = some (.slice A1_3 l1_3.length c1_3) ∧ w'.cell? ⟨gb340, 4, none⟩ = some (.slice (some ad350) l1_4.length c1_4) ∧ w'.cell? (ad350.add ((x7_3).toNat * 5)) = some (.int .i64 ((rd_T78 l1_4 x7_3).f0)) ∧ w'.cell? ⟨(ad350.add ((x7_3).toNat * 5)).block, (ad350.add ((x7_3).toNat * 5)).off + 1, none⟩ = some (.int .i64 ((rd_T78 l1_4 x7_3).f1)) ∧ w'.cell? ⟨(ad350.add ((x7_3).toNat * 5)).block, (ad350.add ((x7_3).toNat * 5)).off + 2, none⟩ = some (.int .i64 ((rd_T78 l1_4 x7_3).f2)) ∧ w'.cell? ⟨(ad350.add ((x7_3).toNat * 5)).block, (ad350.add ((x7_3).toNat * 5)).off + 3, none⟩ = some (.slice A350_3 ((rd_T78 l1_4 x7_3).f3).length c350_3) ∧ w'.cell? ⟨(ad350.add ((x7_3).toNat * 5)).block, (ad350.add ((x7_3).toNat * 5)).off + 4, none⟩ = some (.slice A350_4 ((rd_T78 l1_4 x7_3).f4).length c350_4)) (ds := [12]) #[false, false, false, false, false, false, false, false, false, false, false, false, false] (by kernel_rfl) rfl rfl ⟨(blk_cell BK342.out 0).trans rfl, (blk_cell BK342.out 1).trans rfl, (blk_cell BK342.out 2).trans rfl, (blk_cell BK342.out 3).trans rfl, (blk_cell BK340.out 0).trans rfl, (blk_cell BK340.out 1).trans rfl, (blk_cell BK340.out 2).trans rfl, (blk_cell BK340.out 3).trans rfl, (blk_cell BK340.out 4).trans rfl, ((HB.out.cell (World.block_lt_of_cell? w _ hw350_0)).trans hw350_0), ((HB.out.cell (World.block_lt_of_cell? w _ hw350_1)).trans hw350_1), ((HB.out.cell (World.block_lt_of_cell? w _ hw350_2)).trans hw350_2), ((HB.out.cell (World.block_lt_of_cell? w _ hw350_3)).trans hw350_3), ((HB.out.cell (World.block_lt_of_cell? w _ hw350_4)).trans hw350_4)⟩ (fun hHeld => ?_); refine with_tabW spec_Tree.tab14 spec_Tree.bits14 (fun HT_ HW_ => ?_)
           generalize wr.drew = w58 at HO_343002 HO_343003 BK340 BK341 BK342 HB HR350_3 HR350_4 hx350_0 hx350_1 hx350_2 hx350_3 hx350_4 hHeld ⊢
           refine pure_ (i := 0) (N := some 66) (v := ?_) (a' := ?_) #[true, false, false, false, false, false, false, false, false, false, false, false, false] rfl rfl (any_of HT_.out (by kernel_rfl)) (fun _ _ _ h => h) (Or.inl ⟨by rfl, ?_⟩) ?_ ?_
           rotate_left
           ·intro w'
            go_simp
            with_reducible rfl
           rotate_left
           ·simp only [Act.put, List.setIfInBounds_toArray, List.set_cons_zero, List.set_cons_succ, i64_w]
            rfl
           refine pure_ (i := 2) (N := some 68) (v := ?_) (a' := ?_) #[true, false, true, false, false, false, false, false, false, false, false, false, false] rfl rfl (any_of HT_.out (by kernel_rfl)) (fun _ _ _ h => h) (Or.inl ⟨by rfl, ?_⟩) ?_ ?_
           rotate_left
           ·intro w'
            go_simp
            with_reducible rfl
           rotate_left
           ·simp only [Act.put, List.setIfInBounds_toArray, List.set_cons_zero, List.set_cons_succ, i64_w]
            rfl
           refine pure_ (i := 3) (N := some 69) (v := ?_) (a' := ?_) #[true, false, true, true, false, false, false, false, false, false, false, false, false] rfl rfl (any_of HT_.out (by kernel_rfl)) (fun _ _ _ h => h) (Or.inl ⟨by rfl, ?_⟩) ?_ ?_
           rotate_left
           ·intro w'
            go_simp
            with_reducible rfl
           rotate_left
           ·simp only [Act.put, List.setIfInBounds_toArray, List.set_cons_zero, List.set_cons_succ, i64_w]
            rfl
           refine pure_ (i := 5) (N := some 71) (v := ?_) (a' := ?_) #[true, false, true, true, false, true, false, false, false, false, false, false, false] rfl rfl (any_of HT_.out (by kernel_rfl)) (fun _ _ _ h => h) (Or.inl ⟨by rfl, ?_⟩) ?_ ?_
           rotate_left
           ·intro w'
            go_simp
            with_reducible rfl
           rotate_left
           ·simp only [Act.put, List.setIfInBounds_toArray, List.set_cons_zero, List.set_cons_succ, i64_w]
            rfl
           refine take_ (i := 1) (N := some 67) (v := ?_) (a' := ?_) #[true, true, true, true, false, true, false, false, false, false, false, false, false] rfl rfl (take_ofW HT_.out HW_.out (by kernel_rfl)) (fun _ _ _ h => h) (Or.inl ⟨by rfl, ?_⟩) hHeld ?_ ?_
           rotate_left
           ·rintro w' ⟨s0, s1, s2, s3, s4, s5, s6, s7, s8, s9, s10, s11, s12, s13⟩
            go_simp
            with_reducible rfl
           rotate_left
           ·simp only [Act.put, List.setIfInBounds_toArray, List.set_cons_zero, List.set_cons_succ, i64_w]
            rfl
           refine take_ (i := 4) (N := some 70) (v := ?_) (a' := ?_) #[true, true, true, true, true, true, false, false, false, false, false, false, false] rfl rfl (take_ofW HT_.out HW_.out (by kernel_rfl)) (fun _ _ _ h => h) (Or.inl ⟨by rfl, ?_⟩) hHeld ?_ ?_
           rotate_left
           ·rintro w' ⟨s0, s1, s2, s3, s4, s5, s6, s7, s8, s9, s10, s11, s12, s13⟩
            go_simp
            with_reducible rfl
           rotate_left
           ·simp only [Act.put, List.setIfInBounds_toArray, List.set_cons_zero, List.set_cons_succ, i64_w]
            rfl
           refine pure_ (i := 6) (N := some 72) (v := ?_) (a' := ?_) #[true, true, true, true, true, true, true, false, false, false, false, false, false] rfl rfl (any_of HT_.out (by kernel_rfl)) (fun _ _ _ h => h) (Or.inl ⟨by rfl, ?_⟩) ?_ ?_
           rotate_left
           ·intro w'
            go_simp
            with_reducible rfl
           rotate_left
           ·simp only [Act.put, List.setIfInBounds_toArray, List.set_cons_zero, List.set_cons_succ, i64_w]
            rfl
           refine take_ (i := 7) (N := some 73) (v := ?_) (a' := ?_) #[true, true, true, true, true, true, true, true, false, false, false, false, false] rfl rfl (take_ofW HT_.out HW_.out (by kernel_rfl)) (fun _ _ _ h => h) (Or.inl ⟨by rfl, ?_⟩) hHeld ?_ ?_
           rotate_left
           ·rintro w' ⟨s0, s1, s2, s3, s4, s5, s6, s7, s8, s9, s10, s11, s12, s13⟩
            go_simp
            with_reducible rfl
           rotate_left
           ·simp only [Act.put, List.setIfInBounds_toArray, List.set_cons_zero, List.set_cons_succ, i64_w]
            rfl
           refine one_ (i := 8) (N := some 74) #[true, true, true, true, true, true, true, true, true, false, false, false, false] rfl rfl (one_of HT_.out (by kernel_rfl)) (by decide) (fun K hK => ?_)
           refine goes_ Tryz.func48 (by kernel_rfl) rfl #[.string a0, .agg #[.int .i64 ((rd_T78 l1_4 x7_3).f0), .int .i64 ((rd_T78 l1_4 x7_3).f1), .int .i64 ((rd_T78 l1_4 x7_3).f2), .slice A350_3 ((rd_T78 l1_4 x7_3).f3).length c350_3, .slice A350_4 ((rd_T78 l1_4 x7_3).f4).length c350_4]] (by rfl) rfl rfl (by (try simp only [List.map_toArray, List.map_cons, List.map_nil]); first | done | rfl | (simp only [List.length_drop, List.length_take]; rfl)) ?_
           with_reducible refine (ih k3 (by have := HJ2.out; have := HK2.out; have := HK3.out; omega) a0 ((rd_T78 l1_4 x7_3).f0) ((rd_T78 l1_4 x7_3).f1) ((rd_T78 l1_4 x7_3).f2) _ _ ((rd_T78 l1_4 x7_3).f3) _ _ ((rd_T78 l1_4 x7_3).f4) t351 t352 t353 t356 _ ?side1 ?side2 ?side3 ?side4 A53.out).mono ?_
           (case side1 => repeat (first | exact (Kd.C_below HR350_3.out HB.out) | (with_reducible refine Kd.C_alloc ?_ _) | (with_reducible refine Kd.C_drewN ?_ _) | (with_reducible refine Kd.C_drew ?_)))
           (case side2 => exact HC350_3.out)
           (case side3 => repeat (first | exact (Kd.C_below HR350_4.out HB.out) | (with_reducible refine Kd.C_alloc ?_ _) | (with_reducible refine Kd.C_drewN ?_ _) | (with_reducible refine Kd.C_drew ?_)))
           (case side4 => exact HC350_4.out)
           rintro e w59 ⟨v354, v357, rfl, ho0, ho1, hb⟩
           refine ⟨_, rfl, ?_⟩
           have n0_ := Aside0.mk (Kd.R_elder' (by (with_reducible repeat (first | apply rA | apply rN | apply rD)); exact HO_343002.out) (Kd.R_base ho0) hb)
           have n1_ := Aside0.mk (Kd.R_mono (Kd.R_told (Kd.R_told (Kd.R_old (by (with_reducible repeat (first | apply rA | apply rN | apply rD)); exact HO_343003.out) hb) (Kd.R_base ho0)) (Kd.R_base ho1)) (fun _ h_ => h_.1))
           have n2_ := Aside0.mk (Kd.R_lower (Kd.R_new' ho0 (Kd.R_lt (by (with_reducible repeat (first | apply rA | apply rN | apply rD)); exact HO_343002.out))) (below_size (by repeat (first | (with_reducible first | exact HB.out | apply bA | apply bN | apply bD | refine below_set ?_ GE340.out | refine below_set ?_ GE341.out | refine below_set ?_ GE342.out) | exact HB.out))))
           have n3_ := Aside0.mk (Kd.R_lower (Kd.R_newB (Kd.R_newB (Kd.R_new' (Kd.R_new' ho1 (Kd.R_lt (by (with_reducible repeat (first | apply rA | apply rN | apply rD)); exact HO_343002.out))) (Kd.R_lt (by (with_reducible repeat (first | apply rA | apply rN | apply rD)); exact HO_343003.out))) (g := gb341) (o := .cells #[.int .i64 0, .string (⟨#[]⟩ : ByteArray), .slice none 0 0, .slice none 0 0] 25 (0, 0)) (by (with_reducible repeat (first | refine lN ?_ _ | refine lD ?_ | refine lA ?_ _)); exact BK341.out)) (g := gb342) (o := .cells #[.int .i64 a1_0, .string x343001_2, u343002, u343003] 25 (0, 0)) (by (with_reducible repeat (first | refine lN ?_ _ | refine lD ?_ | refine lA ?_ _)); exact BK342.out)) (below_size (by repeat (first | (with_reducible first | exact HB.out | apply bA | apply bN | apply bD | refine below_set ?_ GE340.out | refine below_set ?_ GE341.out | refine below_set ?_ GE342.out) | exact HB.out))))
           have n4_ := Aside0.mk (blk_below (g := gb340) (o := .cells #[.int .i64 a1_0, .int .i64 a1_1, .int .i64 a1_2, .slice A1_3 l1_3.length c1_3, .slice (some ad350) l1_4.length c1_4] 78 (0, 0)) (by (with_reducible repeat (first | refine lN ?_ _ | refine lD ?_ | refine lA ?_ _)); exact BK340.out) hb)
           have n5_ := Aside0.mk (blk_below (g := gb341) (o := .cells #[.int .i64 0, .string (⟨#[]⟩ : ByteArray), .slice none 0 0, .slice none 0 0] 25 (0, 0)) (by (with_reducible repeat (first | refine lN ?_ _ | refine lD ?_ | refine lA ?_ _)); exact BK341.out) hb)
           have n6_ := Aside0.mk (blk_below (g := gb342) (o := .cells #[.int .i64 a1_0, .string x343001_2, u343002, u343003] 25 (0, 0)) (by (with_reducible repeat (first | refine lN ?_ _ | refine lD ?_ | refine lA ?_ _)); exact BK342.out) hb)
           have n7_ := Aside0.mk (below_step (by repeat (first | (with_reducible first | exact HB.out | apply bA | apply bN | apply bD | refine below_set ?_ GE340.out | refine below_set ?_ GE341.out | refine below_set ?_ GE342.out) | exact HB.out)) hb)
           clear HO_343002
           clear HO_343003
           clear BK340
           clear BK341
           clear BK342
           clear HB
           have HO_343002 := n0_
           have HO_343003 := n1_
           have HO355 := n2_
           have HO358 := n3_
           have BK340 := n4_
           have BK341 := n5_
           have BK342 := n6_
           have HB := n7_
           clear n0_ n1_ n2_ n3_ n4_ n5_ n6_ n7_
           (try clear hb)
           (try clear hb2)
           (try clear hk)
           (try clear hi)
           (try clear ho0)
           (try clear ho1)
           obtain ⟨Ao61, co61, eo61⟩ := Kd.R_slice HO355.out
           (first | subst eo61 | (injection eo61 with f1_ f2_ f3_; have f4_ := f1_.symm; have f5_ := f3_.symm; clear f1_ f2_ f3_; subst f4_; subst f5_))
           obtain ⟨Ao62, co62, eo62⟩ := Kd.R_slice HO358.out
           (first | subst eo62 | (injection eo62 with f1_ f2_ f3_; have f4_ := f1_.symm; have f5_ := f3_.symm; clear f1_ f2_ f3_; subst f4_; subst f5_))
           refine hK.out _ _ ⟨(blk_cell BK342.out 0).trans rfl, (blk_cell BK342.out 1).trans rfl, (blk_cell BK342.out 2).trans rfl, (blk_cell BK342.out 3).trans rfl, (blk_cell BK340.out 0).trans rfl, (blk_cell BK340.out 1).trans rfl, (blk_cell BK340.out 2).trans rfl, (blk_cell BK340.out 3).trans rfl, (blk_cell BK340.out 4).trans rfl, ((HB.out.cell (World.block_lt_of_cell? w _ hw350_0)).trans hw350_0), ((HB.out.cell (World.block_lt_of_cell? w _ hw350_1)).trans hw350_1), ((HB.out.cell (World.block_lt_of_cell? w _ hw350_2)).trans hw350_2), ((HB.out.cell (World.block_lt_of_cell? w _ hw350_3)).trans hw350_3), ((HB.out.cell (World.block_lt_of_cell? w _ hw350_4)).trans hw350_4)⟩ (fun hHeld => ?_)
           clear hK K
           refine norm_ (a' := ?_) ?_ ?_
           rotate_left
           ·show Act.put _ (some 74) _ = _
            simp only [Act.put, List.setIfInBounds_toArray, List.set_cons_zero, List.set_cons_succ, i64_w]
            rfl
           refine one_ (i := 9) (N := some 75) #[true, true, true, true, true, true, true, true, true, true, false, false, false] rfl rfl (one_of HT_.out (by kernel_rfl)) (by decide) (fun K hK => ?_)
           refine value_ (w1 := ?_) (v := ?_) (by rfl) rfl ?_ ?_
           rotate_left 2
           ·go_simp
            constructor
            ·rfl
            ·rfl
           refine hK.out _ _ ⟨(blk_cell (blk_alloc BK342.out _) 0).trans rfl, (blk_cell (blk_alloc BK342.out _) 1).trans rfl, (blk_cell (blk_alloc BK342.out _) 2).trans rfl, (blk_cell (blk_alloc BK342.out _) 3).trans rfl, (blk_cell (blk_alloc BK340.out _) 0).trans rfl, (blk_cell (blk_alloc BK340.out _) 1).trans rfl, (blk_cell (blk_alloc BK340.out _) 2).trans rfl, (blk_cell (blk_alloc BK340.out _) 3).trans rfl, (blk_cell (blk_alloc BK340.out _) 4).trans rfl, (World.cell?_alloc_lt _ _ _ (World.block_lt_of_cell? _ _ (((HB.out.cell (World.block_lt_of_cell? w _ hw350_0)).trans hw350_0)))).trans (((HB.out.cell (World.block_lt_of_cell? w _ hw350_0)).trans hw350_0)), (World.cell?_alloc_lt _ _ _ (World.block_lt_of_cell? _ _ (((HB.out.cell (World.block_lt_of_cell? w _ hw350_1)).trans hw350_1)))).trans (((HB.out.cell (World.block_lt_of_cell? w _ hw350_1)).trans hw350_1)), (World.cell?_alloc_lt _ _ _ (World.block_lt_of_cell? _ _ (((HB.out.cell (World.block_lt_of_cell? w _ hw350_2)).trans hw350_2)))).trans (((HB.out.cell (World.block_lt_of_cell? w _ hw350_2)).trans hw350_2)), (World.cell?_alloc_lt _ _ _ (World.block_lt_of_cell? _ _ (((HB.out.cell (World.block_lt_of_cell? w _ hw350_3)).trans hw350_3)))).trans (((HB.out.cell (World.block_lt_of_cell? w _ hw350_3)).trans hw350_3)), (World.cell?_alloc_lt _ _ _ (World.block_lt_of_cell? _ _ (((HB.out.cell (World.block_lt_of_cell? w _ hw350_4)).trans hw350_4)))).trans (((HB.out.cell (World.block_lt_of_cell? w _ hw350_4)).trans hw350_4))⟩ (fun hHeld => ?_)
           clear hK K
           refine norm_ (a' := ?_) ?_ ?_
           rotate_left
           ·show Act.put _ (some 75) _ = _
            simp only [Act.put, List.setIfInBounds_toArray, List.set_cons_zero, List.set_cons_succ, i64_w]
            rfl
           refine one_ (i := 10) (N := some 76) #[true, true, true, true, true, true, true, true, true, true, true, false, false] rfl rfl (one_of HT_.out (by kernel_rfl)) (by decide) (fun K hK => ?_)
           refine Kd.R_append_step k25 (w0 := w) w.heap.size (by rfl) (.tmp 67) (.tmp 75) 23 25 (.agg #[(.int .i64 0), (.string ⟨#[]⟩), (.slice none 0 0), (.slice none 0 0)]) 72 rfl Tryz.underlying23 info25 rfl (by decide) (by omega) u343003 x343003_3 (⟨t351, t352, t353, t356⟩ : S25) [.int .i64 t351, .string t352, .slice Ao61 t353.length co61, .slice Ao62 t356.length co62] (fun k_ => some k_ ≠ (u343002 : Value).ownBlock ∧ k_ ≠ gb341 ∧ k_ ≠ gb342) (fun k_ => ((fun k_ => some k_ ≠ (u343002 : Value).ownBlock ∧ k_ ≠ gb341 ∧ k_ ≠ gb342)) k_ ∧ some k_ ≠ (u343003 : Value).ownBlock) rfl rfl ?aP (fun _ hk => hk) ?aF ?aO ?aB ?aS ?aL ?_
           (case aP => exact k25_mkM _ _ _ (⟨t351, t352, t353, t356⟩ : S25) (Kd.R_mono (Kd.R_types (Kd.R_types (Kd.R_apart' (HO355.out) (Kd.R_typed HO_343003.out) (by decide)) BK341.out (by decide)) BK342.out (by decide)) (fun k_ hk => ⟨⟨hk.1.1.1.2, ⟨hk.1.2, hk.2⟩⟩, hk.1.1.2⟩)) (Kd.R_mono (HO358.out) (fun k_ hk => ⟨⟨hk.1.1.1.2, ⟨hk.1.2, hk.2⟩⟩, hk.1.1.2⟩)))
           (case aB => exact (by repeat (first | (with_reducible first | exact HB.out | apply bA | apply bN | apply bD | refine below_set ?_ GE340.out | refine below_set ?_ GE341.out | refine below_set ?_ GE342.out) | exact HB.out)))
           (case aF => exact (fun k_ hk => ⟨Kd.fresh' (Kd.R_lt (by (with_reducible repeat (first | apply rA | apply rN | apply rD)); exact HO_343002.out)) k_ hk, Kd.freshB (g := gb341) (o := .cells #[.int .i64 0, .string (⟨#[]⟩ : ByteArray), .slice none 0 0, .slice none 0 0] 25 (0, 0)) (by (with_reducible repeat (first | refine lN ?_ _ | refine lD ?_ | refine lA ?_ _)); exact BK341.out) k_ hk, Kd.freshB (g := gb342) (o := .cells #[.int .i64 a1_0, .string x343001_2, u343002, u343003] 25 (0, 0)) (by (with_reducible repeat (first | refine lN ?_ _ | refine lD ?_ | refine lA ?_ _)); exact BK342.out) k_ hk⟩))
           (case aO => exact (by (with_reducible repeat (first | apply rA | apply rN | apply rD)); exact Kd.R_mono HO_343003.out (fun _ hk => ⟨hk.1.1.1, ⟨hk.1.1.2.1, hk.1.1.2.2⟩⟩)))
           (case aS => exact (below_size (by repeat (first | (with_reducible first | exact HB.out | apply bA | apply bN | apply bD | refine below_set ?_ GE340.out | refine below_set ?_ GE341.out | refine below_set ?_ GE342.out) | exact HB.out))))
           (case aL => have := LMc54.out; omega)
           intro v360 w60 ho hb hg hat
           rw [← Ny359.out] at ho
           have n0_ := Aside0.mk (Kd.R_over' (by (with_reducible repeat (first | apply rA | apply rN | apply rD)); exact HO_343002.out) (Kd.R_typed (by (with_reducible repeat (first | apply rA | apply rN | apply rD)); exact HO_343003.out)) (by decide) hg)
           have n1_ := Aside0.mk (blk_grown (g := gb340) (o := .cells #[.int .i64 a1_0, .int .i64 a1_1, .int .i64 a1_2, .slice A1_3 l1_3.length c1_3, .slice (some ad350) l1_4.length c1_4] 78 (0, 0)) (by (with_reducible repeat (first | refine lN ?_ _ | refine lD ?_ | refine lA ?_ _)); exact BK340.out) hg (Kd.R_ne HO_343003.out BK340.out (by decide)))
           have n2_ := Aside0.mk (blk_grown (g := gb341) (o := .cells #[.int .i64 0, .string (⟨#[]⟩ : ByteArray), .slice none 0 0, .slice none 0 0] 25 (0, 0)) (by (with_reducible repeat (first | refine lN ?_ _ | refine lD ?_ | refine lA ?_ _)); exact BK341.out) hg (Kd.R_away HO_343003.out (fun _ hk => hk.1.1.2.1)))
           have n3_ := Aside0.mk (blk_grown (g := gb342) (o := .cells #[.int .i64 a1_0, .string x343001_2, u343002, u343003] 25 (0, 0)) (by (with_reducible repeat (first | refine lN ?_ _ | refine lD ?_ | refine lA ?_ _)); exact BK342.out) hg (Kd.R_away HO_343003.out (fun _ hk => hk.1.1.2.2)))
           have n4_ := Aside0.mk (hb)
           have n5_ := Aside0.mk (ho)
           clear HO_343002
           clear BK340
           clear BK341
           clear BK342
           clear HB
           clear HO_343003
           clear HO355
           clear HO358
           have HO_343002 := n0_
           have BK340 := n1_
           have BK341 := n2_
           have BK342 := n3_
           have HB := n4_
           have HO361 := n5_
           clear n0_ n1_ n2_ n3_ n4_ n5_
           clear ho hb hg hat
           obtain ⟨Ao63, co63, eo63⟩ := Kd.R_slice HO361.out
           (first | subst eo63 | (injection eo63 with f1_ f2_ f3_; have f4_ := f1_.symm; have f5_ := f3_.symm; clear f1_ f2_ f3_; subst f4_; subst f5_))
           refine hK.out _ _ ⟨(blk_cell BK342.out 0).trans rfl, (blk_cell BK342.out 1).trans rfl, (blk_cell BK342.out 2).trans rfl, (blk_cell BK342.out 3).trans rfl, (blk_cell BK340.out 0).trans rfl, (blk_cell BK340.out 1).trans rfl, (blk_cell BK340.out 2).trans rfl, (blk_cell BK340.out 3).trans rfl, (blk_cell BK340.out 4).trans rfl, ((HB.out.cell (World.block_lt_of_cell? w _ hw350_0)).trans hw350_0), ((HB.out.cell (World.block_lt_of_cell? w _ hw350_1)).trans hw350_1), ((HB.out.cell (World.block_lt_of_cell? w _ hw350_2)).trans hw350_2), ((HB.out.cell (World.block_lt_of_cell? w _ hw350_3)).trans hw350_3), ((HB.out.cell (World.block_lt_of_cell? w _ hw350_4)).trans hw350_4)⟩ (fun hHeld => ?_)
           clear hK K
           refine norm_ (a' := ?_) ?_ ?_
           rotate_left
           ·show Act.put _ (some 76) _ = _
            simp only [Act.put, List.setIfInBounds_toArray, List.set_cons_zero, List.set_cons_succ, i64_w]
            rfl
           refine pure_ (i := 11) (N := some 77) (v := ?_) (a' := ?_) #[true, true, true, true, true, true, true, true, true, true, true, true, false] rfl rfl (any_of HT_.out (by kernel_rfl)) (fun _ _ _ h => h) (Or.inl ⟨by rfl, ?_⟩) ?_ ?_
           rotate_left
           ·intro w'
            go_simp
            with_reducible rfl
           rotate_left
           ·simp only [Act.put, List.setIfInBounds_toArray, List.set_cons_zero, List.set_cons_succ, i64_w]
            rfl
           refine last_ (i := 12) (N := none) #[true, true, true, true, true, true, true, true, true, true, true, true, true] rfl rfl (one_of HT_.out (by kernel_rfl)) (by decide) (fun K hK => ?_)
           have hs64 : w60.cell? ⟨gb342, 3, none⟩ = some (u343003) := (blk_cell BK342.out 3).trans rfl
           have hfs64 := blk_frozen BK342.out 3
           have hns64_0 := NB340_342.out
           have hns64_1 := NB341_342.out
           have hms64_0 := NB342_340.out
           have hms64_1 := NB342_341.out
           refine skip_ (w1 := ?_) (by rfl) rfl ?_ ?_
           rotate_left
           ·go_simp
            rfl
           refine hK.out _ _ ?_
           clear hK K
           refine done_ (done_of HT_.out (by kernel_rfl)) ?_
           try go_wp2
           go_roundg k3
           case measure => have := HJ2.out; have := HK2.out; have := HK3.out; omega
           case rel => exact ⟨(wrap64 (x7_3 + 1)), (y359), (.slice Ao63 y359.length co63), (by first | rfl | (simp; done) | (simp [*]; done)), H', ⟨by have := HJ2.out; have := HK2.out; have := HK3.out; omega⟩, ⟨by (with_reducible repeat (first | apply rA | apply rN | apply rD)); exact Kd.R_mono (Kd.R_far (p := ⟨gb342, 3, none⟩) (Kd.R_types HO_343002.out BK342.out (by decide)) (fun _ hk => hk.2) (.slice Ao63 y359.length co63)) (fun _ hk => trivial)⟩, ⟨by (with_reducible repeat (first | apply rA | apply rN | apply rD)); exact Kd.R_mono (Kd.R_far (p := ⟨gb342, 3, none⟩) (Kd.R_mono HO361.out (fun k_ hk => (⟨hk, hk.2.2⟩ : _ ∧ k_ ≠ gb342))) (fun _ hk => hk.2) (.slice Ao63 y359.length co63)) (fun _ hk => ⟨hk.1.1, ⟨hk.1.2.1, hk.1.2.2⟩⟩)⟩, ⟨by (with_reducible repeat (first | refine lN ?_ _ | refine lD ?_ | refine lA ?_ _)); refine blk_far ?_ NB340_342.out _; (with_reducible repeat (first | refine lN ?_ _ | refine lD ?_ | refine lA ?_ _)); exact BK340.out⟩, ⟨by (with_reducible repeat (first | refine lN ?_ _ | refine lD ?_ | refine lA ?_ _)); refine blk_far ?_ NB341_342.out _; (with_reducible repeat (first | refine lN ?_ _ | refine lD ?_ | refine lA ?_ _)); exact BK341.out⟩, ⟨by (with_reducible repeat (first | refine lN ?_ _ | refine lD ?_ | refine lA ?_ _)); refine blk_put (cs := #[.int .i64 a1_0, .string x343001_2, u343002, u343003]) ?_ 3 _ rfl; (with_reducible repeat (first | refine lN ?_ _ | refine lD ?_ | refine lA ?_ _)); exact BK342.out⟩, ⟨by repeat (first | (with_reducible first | exact HB.out | apply bA | apply bN | apply bD | refine below_set ?_ GE340.out | refine below_set ?_ GE341.out | refine below_set ?_ GE342.out) | exact HB.out)⟩⟩
          ·rw [if_neg c54] at H
           exact absurd H (by simp)
         ·rw [if_neg c52] at H
          exact absurd H (by simp)
        ·rw [if_neg c51] at H
         have c51b0 : decide (x7_3 < (l1_4.length : Int)) = false := decide_eq_false c51
         clear c51
         simp only [Option.some.injEq, Prod.mk.injEq] at H
         obtain ⟨rfl, rfl, rfl, rfl⟩ := H
         have hnb65 := NB340_341.out
         have hnc65 := NB341_340.out
         have hnb66 := NB340_342.out
         have hnc66 := NB342_340.out
         have hcz67_0 : wr.cell? ⟨gb340, 0, none⟩ = some (.int .i64 a1_0) := (blk_cell BK340.out 0).trans rfl
         have hcz67_1 : wr.cell? ⟨gb340, 1, none⟩ = some (.int .i64 a1_1) := (blk_cell BK340.out 1).trans rfl
         have hcz67_2 : wr.cell? ⟨gb340, 2, none⟩ = some (.int .i64 a1_2) := (blk_cell BK340.out 2).trans rfl
         have hcz67_3 : wr.cell? ⟨gb340, 3, none⟩ = some (.slice A1_3 l1_3.length c1_3) := (blk_cell BK340.out 3).trans rfl
         have hcz67_4 : wr.cell? ⟨gb340, 4, none⟩ = some (.slice A1_4 l1_4.length c1_4) := (blk_cell BK340.out 4).trans rfl
         have hfz67_0 := blk_frozen BK340.out 0
         have hfz67_1 := blk_frozen BK340.out 1
         have hfz67_2 := blk_frozen BK340.out 2
         have hfz67_3 := blk_frozen BK340.out 3
         have hfz67_4 := blk_frozen BK340.out 4
         have hnb68 := NB342_341.out
         have hnc68 := NB341_342.out
         have hcz69_0 : wr.cell? ⟨gb342, 0, none⟩ = some (.int .i64 a1_0) := (blk_cell BK342.out 0).trans rfl
         have hcz69_1 : wr.cell? ⟨gb342, 1, none⟩ = some (.string x343001_2) := (blk_cell BK342.out 1).trans rfl
         have hcz69_2 : wr.cell? ⟨gb342, 2, none⟩ = some (u343002) := (blk_cell BK342.out 2).trans rfl
         have hcz69_3 : wr.cell? ⟨gb342, 3, none⟩ = some (u343003) := (blk_cell BK342.out 3).trans rfl
         have hfz69_0 := blk_frozen BK342.out 0
         have hfz69_1 := blk_frozen BK342.out 1
         have hfz69_2 := blk_frozen BK342.out 2
         have hfz69_3 := blk_frozen BK342.out 3
         have hcz70_0 : wr.cell? ⟨gb341, 0, none⟩ = some (.int .i64 0) := (blk_cell BK341.out 0).trans rfl
         have hcz70_1 : wr.cell? ⟨gb341, 1, none⟩ = some (.string (⟨#[]⟩ : ByteArray)) := (blk_cell BK341.out 1).trans rfl
         have hcz70_2 : wr.cell? ⟨gb341, 2, none⟩ = some (.slice none 0 0) := (blk_cell BK341.out 2).trans rfl
         have hcz70_3 : wr.cell? ⟨gb341, 3, none⟩ = some (.slice none 0 0) := (blk_cell BK341.out 3).trans rfl
         have hfz70_0 := blk_frozen BK341.out 0
         have hfz70_1 := blk_frozen BK341.out 1
         have hfz70_2 := blk_frozen BK341.out 2
         have hfz70_3 := blk_frozen BK341.out 3
         obtain ⟨Ao71, co71, eo71⟩ := Kd.R_slice HO_343002.out
         subst eo71
         obtain ⟨Ao72, co72, eo72⟩ := Kd.R_slice HO_343003.out
         subst eo72
         go_wp2
         refine bodyPost_ret (results_cell_row rfl _ _ gb341 25 #[.int .i64 a1_0, .string x343001_2, .slice Ao71 x343002_2.length co71, .slice Ao72 x343003_3.length co72] (0, 0) _ rfl (by (with_reducible repeat (first | refine lN ?_ _ | refine lD ?_ | refine lA ?_ _)); refine blk_put (cs := #[.int .i64 a1_0, .string x343001_2, .slice Ao71 x343002_2.length co71, .slice none 0 0]) ?_ 3 _ rfl; (with_reducible repeat (first | refine lN ?_ _ | refine lD ?_ | refine lA ?_ _)); refine blk_put (cs := #[.int .i64 a1_0, .string x343001_2, .slice none 0 0, .slice none 0 0]) ?_ 2 _ rfl; (with_reducible repeat (first | refine lN ?_ _ | refine lD ?_ | refine lA ?_ _)); refine blk_put (cs := #[.int .i64 a1_0, .string (⟨#[]⟩ : ByteArray), .slice none 0 0, .slice none 0 0]) ?_ 1 _ rfl; (with_reducible repeat (first | refine lN ?_ _ | refine lD ?_ | refine lA ?_ _)); refine blk_put (cs := #[.int .i64 0, .string (⟨#[]⟩ : ByteArray), .slice none 0 0, .slice none 0 0]) ?_ 0 _ rfl; (with_reducible repeat (first | refine lN ?_ _ | refine lD ?_ | refine lA ?_ _)); exact BK341.out) Tryz.underlying25 rfl (by kernel_rfl)) rfl ?_
         exact ⟨_, _, by first | rfl | (simp [errW_none, errW_some] <;> rfl) | (simp [*, errW_none, errW_some] <;> rfl), by (with_reducible repeat (first | apply rA | apply rN | apply rD)); exact Kd.R_mono (Kd.R_far (p := ⟨gb341, 3, none⟩) (Kd.R_far (p := ⟨gb341, 2, none⟩) (Kd.R_far (p := ⟨gb341, 1, none⟩) (Kd.R_far (p := ⟨gb341, 0, none⟩) (Kd.R_types HO_343002.out BK341.out (by decide)) (fun _ hk => hk.2) (.int .i64 a1_0)) (fun _ hk => hk.2) (.string x343001_2)) (fun _ hk => hk.2) (.slice Ao71 x343002_2.length co71)) (fun _ hk => hk.2) (.slice Ao72 x343003_3.length co72)) (fun _ hk => trivial), by (with_reducible repeat (first | apply rA | apply rN | apply rD)); exact Kd.R_mono (Kd.R_far (p := ⟨gb341, 3, none⟩) (Kd.R_far (p := ⟨gb341, 2, none⟩) (Kd.R_far (p := ⟨gb341, 1, none⟩) (Kd.R_far (p := ⟨gb341, 0, none⟩) (Kd.R_mono HO_343003.out (fun k_ hk => (⟨hk, hk.2.1⟩ : _ ∧ k_ ≠ gb341))) (fun _ hk => hk.2) (.int .i64 a1_0)) (fun _ hk => hk.2) (.string x343001_2)) (fun _ hk => hk.2) (.slice Ao71 x343002_2.length co71)) (fun _ hk => hk.2) (.slice Ao72 x343003_3.length co72)) (fun _ hk => hk.1.1), by repeat (first | (with_reducible first | exact HB.out | apply bA | apply bN | apply bD | refine below_set ?_ GE340.out | refine below_set ?_ GE341.out | refine below_set ?_ GE342.out) | exact HB.out)⟩
end Go.Proofs.YtgiioglmkogpkaaGreatDoor.M
namespace Go.Proofs.YtgiioglmkogpkaaGreatDoor.M
open Go.RowKit Go.Proofs.YtgiioglmkogpkaaGreatDoorW.PrintWords Go.Proofs.YtgiioglmkogpkaaGreatDoorW.PrintLast Go.Proofs.YtgiioglmkogpkaaGreatDoorW.PrintMore
set_option maxHeartbeats 8000000
set_option maxRecDepth 100000
attribute [local go_sem] max2_int min2_int max_two min_two max_three min_three max_four min_four
def spec_Paired.l0 : Nat → ByteArray → Int → Option (Bool)
 | 0, _, _ => none
 | k + 1, x0, x3 => if x3 < (x0.size : Int) then (if 0 ≤ x3 then (if (bt x0 x3) = 92 then ((spec_unit.f k x0 x3).bind fun bt363 => (if bt363.2 = true then ((spec_high.f bt363.1).bind fun t365 => (if t365 = true then ((spec_unit.f k x0 (wrap64 (x3 + 6))).bind fun bt366 => (if bt366.2 = true then ((spec_low.f bt366.1).bind fun t368 => (if t368 = true then (spec_Paired.l0 k x0 (wrap64 (x3 + 12))) else (some false))) else (some false))) else ((spec_low.f bt363.1).bind fun t369 => (if t369 = true then (some false) else (spec_Paired.l0 k x0 (wrap64 (x3 + 6))))))) else (spec_Paired.l0 k x0 (wrap64 (x3 + 2))))) else (spec_Paired.l0 k x0 (wrap64 (x3 + 1)))) else (none)) else (some true)
def spec_Paired.f (k : Nat) (a0 : ByteArray) : Option (Bool) := spec_Paired.l0 k a0 0
theorem spec_Paired.calls (k : Nat) (a0 : ByteArray) (r : Bool) (w : World) (h : spec_Paired.f k a0 = some r) :
  Calls Tryz.prog 36 #[.string a0] w fun e w' => e = .returned (.bool r) ∧ Drawn0 w w' := by
 have H : (spec_Paired.l0 k a0 0) = some r := h
 clear h
 have H' := Aside0.mk H
 clear H
 go_enter Tryz.func36, Tryz.ntmps36
 go_wp2
 go_loopg [3] k (fun kq v3 w' => ∃ (x3_1 : Int), v3 = .int .i64 x3_1 ∧ Aside0 (spec_Paired.l0 kq a0 x3_1 = some r) ∧ Aside0 (kq ≤ k) ∧ Drawn0 w w')
 case atStart => exact ⟨(0), (by first | rfl | (simp; done) | (simp [*]; done)), H', ⟨Nat.le_refl _⟩, by repeat (first | exact Drawn0.refl _ | apply Drawn0.step)⟩
 case round =>
  clear H'
  obtain ⟨x3_1, rfl, HA, HK1, ⟨m1, rfl⟩⟩ := hrel
  cases gk with
  | zero => exact absurd HA.out (by simp [spec_Paired.l0])
  | succ k1 =>
   have H := HA.out
   clear HA
   simp only [spec_Paired.l0] at H
   by_cases c2 : x3_1 < (a0.size : Int)
   ·rw [if_pos c2] at H
    have c2b0 : decide (x3_1 < (a0.size : Int)) = true := decide_eq_true c2
    clear c2
    by_cases c3 : 0 ≤ x3_1
    ·rw [if_pos c3] at H
     have c3b0 : decide (0 ≤ x3_1) = true := decide_eq_true c3
     clear c3
     by_cases c5 : (bt a0 x3_1) = 92
     ·rw [if_pos c5] at H
      have c5b0 : ((bt a0 x3_1) == 92) = true := beq_iff_eq.mpr c5
      have c5b1 : ((bt a0 x3_1) != 92) = false := bne_eq_false_iff_eq.mpr c5
      clear c5
      replace H := Option.bind_eq_some_iff.mp H
      obtain ⟨⟨t363, t364⟩, A60, H⟩ := H
      try dsimp only at H
      have A6 := Aside0.mk A60
      clear A60
      by_cases c7 : t364 = true
      ·subst c7
       have H1 : ((spec_high.f t363).bind fun t365 => (if t365 = true then ((spec_unit.f k1 a0 (wrap64 (x3_1 + 6))).bind fun bt366 => (if bt366.2 = true then ((spec_low.f bt366.1).bind fun t368 => (if t368 = true then (spec_Paired.l0 k1 a0 (wrap64 (x3_1 + 12))) else (some false))) else (some false))) else ((spec_low.f t363).bind fun t369 => (if t369 = true then (some false) else (spec_Paired.l0 k1 a0 (wrap64 (x3_1 + 6))))))) = some r := by rw [if_pos rfl] at H; exact H
       clear H
       have H := H1
       clear H1
       replace H := Option.bind_eq_some_iff.mp H
       obtain ⟨t365, A80, H⟩ := H
       try dsimp only at H
       have A8 := Aside0.mk A80
       clear A80
       by_cases c9 : t365 = true
       ·subst c9
        have H1 : ((spec_unit.f k1 a0 (wrap64 (x3_1 + 6))).bind fun bt366 => (if bt366.2 = true then ((spec_low.f bt366.1).bind fun t368 => (if t368 = true then (spec_Paired.l0 k1 a0 (wrap64 (x3_1 + 12))) else (some false))) else (some false))) = some r := by rw [if_pos rfl] at H; exact H
        clear H
        have H := H1
        clear H1
        replace H := Option.bind_eq_some_iff.mp H
        obtain ⟨⟨t366, t367⟩, A100, H⟩ := H
        try dsimp only at H
        have A10 := Aside0.mk A100
        clear A100
        by_cases c11 : t367 = true
        ·subst c11
         have H1 : ((spec_low.f t366).bind fun t368 => (if t368 = true then (spec_Paired.l0 k1 a0 (wrap64 (x3_1 + 12))) else (some false))) = some r := by rw [if_pos rfl] at H; exact H
         clear H
         have H := H1
         clear H1
         replace H := Option.bind_eq_some_iff.mp H
         obtain ⟨t368, A120, H⟩ := H
         try dsimp only at H
         have A12 := Aside0.mk A120
         clear A120
         by_cases c13 : t368 = true
         ·subst c13
          have H1 : (spec_Paired.l0 k1 a0 (wrap64 (x3_1 + 12))) = some r := by rw [if_pos rfl] at H; exact H
          clear H
          have H := H1
          clear H1
          have H' := Aside0.mk H
          clear H
          have p4 : 0 ≤ (x3_1 : Int) := of_decide_eq_true (by first | (with_reducible assumption) | assumption)
          have q4 : x3_1 < (a0.size : Int) := of_decide_eq_true (by first | (with_reducible assumption) | assumption)
          have hx4 := bt_at a0 x3_1
          replace p4 := eq_true p4
          replace q4 := eq_true q4
          go_wp2_with (first | ((with_reducible refine gate_callee (f := 59) rfl ?_); refine goesL_ (some 21) rfl rfl Tryz.func59 (by kernel_rfl) rfl #[.string a0, .int .i64 x3_1] rfl (by (try simp only [List.map_toArray, List.map_cons, List.map_nil]); first | done | rfl | (simp only [List.length_drop, List.length_take]; rfl)) ?_; (with_reducible refine (spec_unit.calls k1 a0 x3_1 t363 true _ A6.out).mono ?_); rintro e w' ⟨rfl, ⟨nd, rfl⟩⟩; refine ⟨_, rfl, ?_⟩) | ((with_reducible refine gate_callee (f := 60) rfl ?_); refine goesL_ (some 33) rfl rfl Tryz.func60 (by kernel_rfl) rfl #[.int .i64 t363] rfl (by (try simp only [List.map_toArray, List.map_cons, List.map_nil]); first | done | rfl | (simp only [List.length_drop, List.length_take]; rfl)) ?_; (with_reducible refine (spec_high.calls t363 true _ A8.out).mono ?_); rintro e w' ⟨rfl, ⟨nd, rfl⟩⟩; refine ⟨_, rfl, ?_⟩) | ((with_reducible refine gate_callee (f := 59) rfl ?_); refine goesL_ (some 38) rfl rfl Tryz.func59 (by kernel_rfl) rfl #[.string a0, .int .i64 (wrap64 (x3_1 + 6))] rfl (by (try simp only [List.map_toArray, List.map_cons, List.map_nil]); first | done | rfl | (simp only [List.length_drop, List.length_take]; rfl)) ?_; (with_reducible refine (spec_unit.calls k1 a0 (wrap64 (x3_1 + 6)) t366 true _ A10.out).mono ?_); rintro e w' ⟨rfl, ⟨nd, rfl⟩⟩; refine ⟨_, rfl, ?_⟩) | (go_at_call 61; (with_reducible refine (spec_low.calls t366 true _ A12.out).mono ?_); rintro e w' ⟨rfl, ⟨nd, rfl⟩⟩))
          go_roundg k1
          case measure => have := HK1.out; omega
          case rel => exact ⟨(wrap64 (x3_1 + 12)), (by first | rfl | (simp; done) | (simp [*]; done)), H', ⟨by have := HK1.out; omega⟩, by repeat (first | exact Drawn0.refl _ | apply Drawn0.step)⟩
         ·replace c13 := Bool.eq_false_iff.mpr c13
          subst c13
          have H1 : (some false) = some r := by rw [if_neg (show ¬ (false = true) by decide)] at H; exact H
          clear H
          have H := H1
          clear H1
          obtain rfl := Option.some.inj H
          have p4 : 0 ≤ (x3_1 : Int) := of_decide_eq_true (by first | (with_reducible assumption) | assumption)
          have q4 : x3_1 < (a0.size : Int) := of_decide_eq_true (by first | (with_reducible assumption) | assumption)
          have hx4 := bt_at a0 x3_1
          replace p4 := eq_true p4
          replace q4 := eq_true q4
          go_wp2_with (first | ((with_reducible refine gate_callee (f := 59) rfl ?_); refine goesL_ (some 21) rfl rfl Tryz.func59 (by kernel_rfl) rfl #[.string a0, .int .i64 x3_1] rfl (by (try simp only [List.map_toArray, List.map_cons, List.map_nil]); first | done | rfl | (simp only [List.length_drop, List.length_take]; rfl)) ?_; (with_reducible refine (spec_unit.calls k1 a0 x3_1 t363 true _ A6.out).mono ?_); rintro e w' ⟨rfl, ⟨nd, rfl⟩⟩; refine ⟨_, rfl, ?_⟩) | ((with_reducible refine gate_callee (f := 60) rfl ?_); refine goesL_ (some 33) rfl rfl Tryz.func60 (by kernel_rfl) rfl #[.int .i64 t363] rfl (by (try simp only [List.map_toArray, List.map_cons, List.map_nil]); first | done | rfl | (simp only [List.length_drop, List.length_take]; rfl)) ?_; (with_reducible refine (spec_high.calls t363 true _ A8.out).mono ?_); rintro e w' ⟨rfl, ⟨nd, rfl⟩⟩; refine ⟨_, rfl, ?_⟩) | ((with_reducible refine gate_callee (f := 59) rfl ?_); refine goesL_ (some 38) rfl rfl Tryz.func59 (by kernel_rfl) rfl #[.string a0, .int .i64 (wrap64 (x3_1 + 6))] rfl (by (try simp only [List.map_toArray, List.map_cons, List.map_nil]); first | done | rfl | (simp only [List.length_drop, List.length_take]; rfl)) ?_; (with_reducible refine (spec_unit.calls k1 a0 (wrap64 (x3_1 + 6)) t366 true _ A10.out).mono ?_); rintro e w' ⟨rfl, ⟨nd, rfl⟩⟩; refine ⟨_, rfl, ?_⟩) | (go_at_call 61; (with_reducible refine (spec_low.calls t366 false _ A12.out).mono ?_); rintro e w' ⟨rfl, ⟨nd, rfl⟩⟩))
          go_ret
          exact ⟨by first | rfl | (simp; done) | (simp [*]; done), by repeat (first | exact Drawn0.refl _ | apply Drawn0.step)⟩
        ·replace c11 := Bool.eq_false_iff.mpr c11
         subst c11
         have H1 : (some false) = some r := by rw [if_neg (show ¬ (false = true) by decide)] at H; exact H
         clear H
         have H := H1
         clear H1
         obtain rfl := Option.some.inj H
         have p4 : 0 ≤ (x3_1 : Int) := of_decide_eq_true (by first | (with_reducible assumption) | assumption)
         have q4 : x3_1 < (a0.size : Int) := of_decide_eq_true (by first | (with_reducible assumption) | assumption)
         have hx4 := bt_at a0 x3_1
         replace p4 := eq_true p4
         replace q4 := eq_true q4
         go_wp2_with (first | ((with_reducible refine gate_callee (f := 59) rfl ?_); refine goesL_ (some 21) rfl rfl Tryz.func59 (by kernel_rfl) rfl #[.string a0, .int .i64 x3_1] rfl (by (try simp only [List.map_toArray, List.map_cons, List.map_nil]); first | done | rfl | (simp only [List.length_drop, List.length_take]; rfl)) ?_; (with_reducible refine (spec_unit.calls k1 a0 x3_1 t363 true _ A6.out).mono ?_); rintro e w' ⟨rfl, ⟨nd, rfl⟩⟩; refine ⟨_, rfl, ?_⟩) | ((with_reducible refine gate_callee (f := 60) rfl ?_); refine goesL_ (some 33) rfl rfl Tryz.func60 (by kernel_rfl) rfl #[.int .i64 t363] rfl (by (try simp only [List.map_toArray, List.map_cons, List.map_nil]); first | done | rfl | (simp only [List.length_drop, List.length_take]; rfl)) ?_; (with_reducible refine (spec_high.calls t363 true _ A8.out).mono ?_); rintro e w' ⟨rfl, ⟨nd, rfl⟩⟩; refine ⟨_, rfl, ?_⟩) | ((with_reducible refine gate_callee (f := 59) rfl ?_); refine goesL_ (some 38) rfl rfl Tryz.func59 (by kernel_rfl) rfl #[.string a0, .int .i64 (wrap64 (x3_1 + 6))] rfl (by (try simp only [List.map_toArray, List.map_cons, List.map_nil]); first | done | rfl | (simp only [List.length_drop, List.length_take]; rfl)) ?_; (with_reducible refine (spec_unit.calls k1 a0 (wrap64 (x3_1 + 6)) t366 false _ A10.out).mono ?_); rintro e w' ⟨rfl, ⟨nd, rfl⟩⟩; refine ⟨_, rfl, ?_⟩))
         go_ret
         exact ⟨by first | rfl | (simp; done) | (simp [*]; done), by repeat (first | exact Drawn0.refl _ | apply Drawn0.step)⟩
       ·replace c9 := Bool.eq_false_iff.mpr c9
        subst c9
        have H1 : ((spec_low.f t363).bind fun t369 => (if t369 = true then (some false) else (spec_Paired.l0 k1 a0 (wrap64 (x3_1 + 6))))) = some r := by rw [if_neg (show ¬ (false = true) by decide)] at H; exact H
        clear H
        have H := H1
        clear H1
        replace H := Option.bind_eq_some_iff.mp H
        obtain ⟨t369, A140, H⟩ := H
        try dsimp only at H
        have A14 := Aside0.mk A140
        clear A140
        by_cases c15 : t369 = true
        ·subst c15
         have H1 : (some false) = some r := by rw [if_pos rfl] at H; exact H
         clear H
         have H := H1
         clear H1
         obtain rfl := Option.some.inj H
         have p4 : 0 ≤ (x3_1 : Int) := of_decide_eq_true (by first | (with_reducible assumption) | assumption)
         have q4 : x3_1 < (a0.size : Int) := of_decide_eq_true (by first | (with_reducible assumption) | assumption)
         have hx4 := bt_at a0 x3_1
         replace p4 := eq_true p4
         replace q4 := eq_true q4
         go_wp2_with (first | ((with_reducible refine gate_callee (f := 59) rfl ?_); refine goesL_ (some 21) rfl rfl Tryz.func59 (by kernel_rfl) rfl #[.string a0, .int .i64 x3_1] rfl (by (try simp only [List.map_toArray, List.map_cons, List.map_nil]); first | done | rfl | (simp only [List.length_drop, List.length_take]; rfl)) ?_; (with_reducible refine (spec_unit.calls k1 a0 x3_1 t363 true _ A6.out).mono ?_); rintro e w' ⟨rfl, ⟨nd, rfl⟩⟩; refine ⟨_, rfl, ?_⟩) | ((with_reducible refine gate_callee (f := 60) rfl ?_); refine goesL_ (some 33) rfl rfl Tryz.func60 (by kernel_rfl) rfl #[.int .i64 t363] rfl (by (try simp only [List.map_toArray, List.map_cons, List.map_nil]); first | done | rfl | (simp only [List.length_drop, List.length_take]; rfl)) ?_; (with_reducible refine (spec_high.calls t363 false _ A8.out).mono ?_); rintro e w' ⟨rfl, ⟨nd, rfl⟩⟩; refine ⟨_, rfl, ?_⟩) | ((with_reducible refine gate_callee (f := 61) rfl ?_); refine goesL_ (some 52) rfl rfl Tryz.func61 (by kernel_rfl) rfl #[.int .i64 t363] rfl (by (try simp only [List.map_toArray, List.map_cons, List.map_nil]); first | done | rfl | (simp only [List.length_drop, List.length_take]; rfl)) ?_; (with_reducible refine (spec_low.calls t363 true _ A14.out).mono ?_); rintro e w' ⟨rfl, ⟨nd, rfl⟩⟩; refine ⟨_, rfl, ?_⟩))
         go_ret
         exact ⟨by first | rfl | (simp; done) | (simp [*]; done), by repeat (first | exact Drawn0.refl _ | apply Drawn0.step)⟩
        ·replace c15 := Bool.eq_false_iff.mpr c15
         subst c15
         have H1 : (spec_Paired.l0 k1 a0 (wrap64 (x3_1 + 6))) = some r := by rw [if_neg (show ¬ (false = true) by decide)] at H; exact H
         clear H
         have H := H1
         clear H1
         have H' := Aside0.mk H
         clear H
         have p4 : 0 ≤ (x3_1 : Int) := of_decide_eq_true (by first | (with_reducible assumption) | assumption)
         have q4 : x3_1 < (a0.size : Int) := of_decide_eq_true (by first | (with_reducible assumption) | assumption)
         have hx4 := bt_at a0 x3_1
         replace p4 := eq_true p4
         replace q4 := eq_true q4
         go_wp2_with (first | ((with_reducible refine gate_callee (f := 59) rfl ?_); refine goesL_ (some 21) rfl rfl Tryz.func59 (by kernel_rfl) rfl #[.string a0, .int .i64 x3_1] rfl (by (try simp only [List.map_toArray, List.map_cons, List.map_nil]); first | done | rfl | (simp only [List.length_drop, List.length_take]; rfl)) ?_; (with_reducible refine (spec_unit.calls k1 a0 x3_1 t363 true _ A6.out).mono ?_); rintro e w' ⟨rfl, ⟨nd, rfl⟩⟩; refine ⟨_, rfl, ?_⟩) | ((with_reducible refine gate_callee (f := 60) rfl ?_); refine goesL_ (some 33) rfl rfl Tryz.func60 (by kernel_rfl) rfl #[.int .i64 t363] rfl (by (try simp only [List.map_toArray, List.map_cons, List.map_nil]); first | done | rfl | (simp only [List.length_drop, List.length_take]; rfl)) ?_; (with_reducible refine (spec_high.calls t363 false _ A8.out).mono ?_); rintro e w' ⟨rfl, ⟨nd, rfl⟩⟩; refine ⟨_, rfl, ?_⟩) | ((with_reducible refine gate_callee (f := 61) rfl ?_); refine goesL_ (some 52) rfl rfl Tryz.func61 (by kernel_rfl) rfl #[.int .i64 t363] rfl (by (try simp only [List.map_toArray, List.map_cons, List.map_nil]); first | done | rfl | (simp only [List.length_drop, List.length_take]; rfl)) ?_; (with_reducible refine (spec_low.calls t363 false _ A14.out).mono ?_); rintro e w' ⟨rfl, ⟨nd, rfl⟩⟩; refine ⟨_, rfl, ?_⟩))
         go_roundg k1
         case measure => have := HK1.out; omega
         case rel => exact ⟨(wrap64 (x3_1 + 6)), (by first | rfl | (simp; done) | (simp [*]; done)), H', ⟨by have := HK1.out; omega⟩, by repeat (first | exact Drawn0.refl _ | apply Drawn0.step)⟩
      ·replace c7 := Bool.eq_false_iff.mpr c7
       subst c7
       have H1 : (spec_Paired.l0 k1 a0 (wrap64 (x3_1 + 2))) = some r := by rw [if_neg (show ¬ (false = true) by decide)] at H; exact H
       clear H
       have H := H1
       clear H1
       have H' := Aside0.mk H
       clear H
       have p4 : 0 ≤ (x3_1 : Int) := of_decide_eq_true (by first | (with_reducible assumption) | assumption)
       have q4 : x3_1 < (a0.size : Int) := of_decide_eq_true (by first | (with_reducible assumption) | assumption)
       have hx4 := bt_at a0 x3_1
       replace p4 := eq_true p4
       replace q4 := eq_true q4
       go_wp2_with (first | ((with_reducible refine gate_callee (f := 59) rfl ?_); refine goesL_ (some 21) rfl rfl Tryz.func59 (by kernel_rfl) rfl #[.string a0, .int .i64 x3_1] rfl (by (try simp only [List.map_toArray, List.map_cons, List.map_nil]); first | done | rfl | (simp only [List.length_drop, List.length_take]; rfl)) ?_; (with_reducible refine (spec_unit.calls k1 a0 x3_1 t363 false _ A6.out).mono ?_); rintro e w' ⟨rfl, ⟨nd, rfl⟩⟩; refine ⟨_, rfl, ?_⟩))
       go_roundg k1
       case measure => have := HK1.out; omega
       case rel => exact ⟨(wrap64 (x3_1 + 2)), (by first | rfl | (simp; done) | (simp [*]; done)), H', ⟨by have := HK1.out; omega⟩, by repeat (first | exact Drawn0.refl _ | apply Drawn0.step)⟩
     ·rw [if_neg c5] at H
      have c5b0 : ((bt a0 x3_1) == 92) = false := beq_eq_false_iff_ne.mpr c5
      have c5b1 : ((bt a0 x3_1) != 92) = true := bne_iff_ne.mpr c5
      have H' := Aside0.mk H
      clear H
      have p4 : 0 ≤ (x3_1 : Int) := of_decide_eq_true (by first | (with_reducible assumption) | assumption)
      have q4 : x3_1 < (a0.size : Int) := of_decide_eq_true (by first | (with_reducible assumption) | assumption)
      have hx4 := bt_at a0 x3_1
      replace p4 := eq_true p4
      replace q4 := eq_true q4
      go_wp2
      go_roundg k1
      case measure => have := HK1.out; omega
      case rel => exact ⟨(wrap64 (x3_1 + 1)), (by first | rfl | (simp; done) | (simp [*]; done)), H', ⟨by have := HK1.out; omega⟩, by repeat (first | exact Drawn0.refl _ | apply Drawn0.step)⟩
    ·rw [if_neg c3] at H
     exact absurd H (by simp)
   ·rw [if_neg c2] at H
    have c2b0 : decide (x3_1 < (a0.size : Int)) = false := decide_eq_false c2
    clear c2
    obtain rfl := Option.some.inj H
    go_wp2
    go_ret
    exact ⟨by first | rfl | (simp; done) | (simp [*]; done), by repeat (first | exact Drawn0.refl _ | apply Drawn0.step)⟩
mutual
def spec_Character.j2 : Nat → ByteArray → Int → Int → Int → Int → Option (Int × Int × Bool)
 | 0, _, _, _, _, _ => none
 | k + 1, x0, x1, x7, x8, x9 => if (wrap64 ((x0.size : Int) - x1)) ≤ x8 then (some (65533, 1, false)) else (spec_Character.l0 k x0 x1 x7 x8 x9 1)
def spec_Character.l0 : Nat → ByteArray → Int → Int → Int → Int → Int → Option (Int × Int × Bool)
 | 0, _, _, _, _, _, _ => none
 | k + 1, x0, x1, x7, x8, x9, x10 => if x10 ≤ x8 then (if 0 ≤ (wrap64 (x1 + x10)) then (if (wrap64 (x1 + x10)) < (x0.size : Int) then (if (wrap64 (bt x0 (wrap64 (x1 + x10)))) < 128 then (some (65533, 1, false)) else (if (wrap64 (bt x0 (wrap64 (x1 + x10)))) > 191 then (some (65533, 1, false)) else (spec_Character.l0 k x0 x1 (wrap64 ((wrap64 ((wrap64 (x7 * 64)) + (wrap64 (bt x0 (wrap64 (x1 + x10)))))) - 128)) x8 x9 (wrap64 (x10 + 1))))) else (none)) else (none)) else (if x7 < x9 then (some (65533, 1, false)) else (if x7 > 1114111 then (some (65533, 1, false)) else ((spec_high.f x7).bind fun t370 => (if t370 = true then (some (65533, 1, false)) else ((spec_low.f x7).bind fun t371 => (if t371 = true then (some (65533, 1, false)) else (some (x7, wrap64 (x8 + 1), true))))))))
def spec_Character.j0 : Nat → ByteArray → Int → Int → Bool → Option (Int × Int × Bool)
 | 0, _, _, _, _ => none
 | k + 1, x0, x1, x7, x20 => if x20 = true then (spec_Character.j2 k x0 x1 (wrap64 (x7 - 192)) 1 128) else (if 224 ≤ x7 then (spec_Character.j1 k x0 x1 x7 (decide (x7 ≤ 239))) else (spec_Character.j1 k x0 x1 x7 false))
def spec_Character.j1 : Nat → ByteArray → Int → Int → Bool → Option (Int × Int × Bool)
 | 0, _, _, _, _ => none
 | k + 1, x0, x1, x7, x29 => if x29 = true then (spec_Character.j2 k x0 x1 (wrap64 (x7 - 224)) 2 2048) else (if 240 ≤ x7 then (if x7 ≤ 244 then (spec_Character.j2 k x0 x1 (wrap64 (x7 - 240)) 3 65536) else (some (65533, 1, false))) else (some (65533, 1, false)))
end
def spec_Character.f (k : Nat) (a0 : ByteArray) (a1 : Int) : Option (Int × Int × Bool) := if 0 ≤ a1 then (if a1 < (a0.size : Int) then (if (wrap64 (bt a0 a1)) < 128 then (some (wrap64 (bt a0 a1), 1, true)) else (if 194 ≤ (wrap64 (bt a0 a1)) then (spec_Character.j0 k a0 a1 (wrap64 (bt a0 a1)) (decide ((wrap64 (bt a0 a1)) ≤ 223))) else (spec_Character.j0 k a0 a1 (wrap64 (bt a0 a1)) false))) else (none)) else (none)
theorem spec_Character.calls (k : Nat) (a0 : ByteArray) (a1 : Int) (r1 : Int) (r2 : Int) (r3 : Bool) (w : World) (h : spec_Character.f k a0 a1 = some (r1, r2, r3)) :
  Calls Tryz.prog 76 #[.string a0, .int .i64 a1] w fun e w' => e = .returned (.tuple #[.int .i64 r1, .int .i64 r2, .bool r3]) ∧ Drawn0 w w' := by
 have H : (if 0 ≤ a1 then (if a1 < (a0.size : Int) then (if (wrap64 (bt a0 a1)) < 128 then (some (wrap64 (bt a0 a1), 1, true)) else (if 194 ≤ (wrap64 (bt a0 a1)) then (spec_Character.j0 k a0 a1 (wrap64 (bt a0 a1)) (decide ((wrap64 (bt a0 a1)) ≤ 223))) else (spec_Character.j0 k a0 a1 (wrap64 (bt a0 a1)) false))) else (none)) else (none)) = some (r1, r2, r3) := h
 clear h
 by_cases c3 : 0 ≤ a1
 ·rw [if_pos c3] at H
  have c3b0 : decide (0 ≤ a1) = true := decide_eq_true c3
  clear c3
  by_cases c4 : a1 < (a0.size : Int)
  ·rw [if_pos c4] at H
   have c4b0 : decide (a1 < (a0.size : Int)) = true := decide_eq_true c4
   clear c4
   have HC6 := Aside0.mk H
   clear H
   have p5 : 0 ≤ (a1 : Int) := of_decide_eq_true (by first | (with_reducible assumption) | assumption)
   have q5 : a1 < (a0.size : Int) := of_decide_eq_true (by first | (with_reducible assumption) | assumption)
   have hx5 := bt_at a0 a1
   replace p5 := eq_true p5
   replace q5 := eq_true q5
   go_enter Tryz.func76, Tryz.ntmps76
   go_upto_block 0 with (fail)
   go_cut [7, 8, 9] (fun v7 v8 v9 wc => ∃ (kq : Nat) (x7_5 : Int) (x8_5 : Int) (x9_5 : Int), v7 = .int .i64 x7_5 ∧ v8 = .int .i64 x8_5 ∧ v9 = .int .i64 x9_5 ∧ Aside0 (spec_Character.j2 kq a0 a1 x7_5 x8_5 x9_5 = some (r1, r2, r3)) ∧ Aside0 (kq ≤ k) ∧ Drawn0 w wc)
   case first =>
    have H := HC6.out
    clear HC6
    by_cases c7 : (wrap64 (bt a0 a1)) < 128
    ·rw [if_pos c7] at H
     have c7b0 : decide ((wrap64 (bt a0 a1)) < 128) = true := decide_eq_true c7
     clear c7
     (first | rw [c7b0] | (simp only [i64_w]; rw [c7b0]) | skip)
     simp only [Option.some.injEq, Prod.mk.injEq] at H
     obtain ⟨rfl, rfl, rfl⟩ := H
     go_wp2
     go_ret3
     exact ⟨by first | rfl | (simp; done) | (simp [*]; done), by repeat (first | exact Drawn0.refl _ | apply Drawn0.step)⟩
    ·rw [if_neg c7] at H
     have c7b0 : decide ((wrap64 (bt a0 a1)) < 128) = false := decide_eq_false c7
     clear c7
     (first | rw [c7b0] | (simp only [i64_w]; rw [c7b0]) | skip)
     have HC8 := Aside0.mk H
     clear H
     go_upto_region 6 with (fail)
     go_cut [20] (fun v20 wc => ∃ (kq : Nat) (x20_7 : Bool), v20 = .bool x20_7 ∧ Aside0 (spec_Character.j0 kq a0 a1 (wrap64 (bt a0 a1)) x20_7 = some (r1, r2, r3)) ∧ Aside0 (kq ≤ k) ∧ Drawn0 w wc)
     case first =>
      have H := HC8.out
      clear HC8
      by_cases c9 : 194 ≤ (wrap64 (bt a0 a1))
      ·rw [if_pos c9] at H
       have c9b0 : decide (194 ≤ (wrap64 (bt a0 a1))) = true := decide_eq_true c9
       clear c9
       (first | rw [c9b0] | (simp only [i64_w]; rw [c9b0]) | skip)
       have H' := Aside0.mk H
       clear H
       go_wp2
       go_meet
       case rel => exact ⟨_, (decide ((wrap64 (bt a0 a1)) ≤ 223)), (by first | rfl | (simp; done) | (simp [*]; done)), H', ⟨by first | omega | exact Nat.le_refl _⟩, by repeat (first | exact Drawn0.refl _ | apply Drawn0.step)⟩
      ·rw [if_neg c9] at H
       have c9b0 : decide (194 ≤ (wrap64 (bt a0 a1))) = false := decide_eq_false c9
       clear c9
       (first | rw [c9b0] | (simp only [i64_w]; rw [c9b0]) | skip)
       have H' := Aside0.mk H
       clear H
       go_wp2
       go_meet
       case rel => exact ⟨_, (false), (by first | rfl | (simp; done) | (simp [*]; done)), H', ⟨by first | omega | exact Nat.le_refl _⟩, by repeat (first | exact Drawn0.refl _ | apply Drawn0.step)⟩
     case rest =>
      clear HC8
      try clear p2
      try clear c3
      try clear c3b0
      try clear c4
      try clear c4b0
      try clear p5
      try clear q5
      try clear hx5
      try clear p6
      try clear c7
      try clear c7b0
      try clear c9
      try clear c9b0
      try clear p5
      try clear q5
      obtain ⟨kq, x20_7, rfl, HA, HJ7, ⟨mc7, rfl⟩⟩ := hcut
      cases kq with
      | zero => exact absurd HA.out (by simp [spec_Character.j0])
      | succ kj7 =>
       have H := HA.out
       clear HA
       simp only [spec_Character.j0] at H
       by_cases c10 : x20_7 = true
       ·subst c10
        have H1 : (spec_Character.j2 kj7 a0 a1 (wrap64 ((wrap64 (bt a0 a1)) - 192)) 1 128) = some (r1, r2, r3) := by rw [if_pos rfl] at H; exact H
        clear H
        have H := H1
        clear H1
        have H' := Aside0.mk H
        clear H
        go_wp2
        go_meet
        case rel => exact ⟨_, (wrap64 ((wrap64 (bt a0 a1)) - 192)), (1), (128), (by first | rfl | (simp; done) | (simp [*]; done)), (by first | rfl | (simp; done) | (simp [*]; done)), (by first | rfl | (simp; done) | (simp [*]; done)), H', ⟨by have := HJ7.out; first | omega | exact Nat.le_refl _⟩, by repeat (first | exact Drawn0.refl _ | apply Drawn0.step)⟩
       ·replace c10 := Bool.eq_false_iff.mpr c10
        subst c10
        have H1 : (if 224 ≤ (wrap64 (bt a0 a1)) then (spec_Character.j1 kj7 a0 a1 (wrap64 (bt a0 a1)) (decide ((wrap64 (bt a0 a1)) ≤ 239))) else (spec_Character.j1 kj7 a0 a1 (wrap64 (bt a0 a1)) false)) = some (r1, r2, r3) := by rw [if_neg (show ¬ (false = true) by decide)] at H; exact H
        clear H
        have H := H1
        clear H1
        have HC11 := Aside0.mk H
        clear H
        go_upto_region 8 with (fail)
        go_cut [29] (fun v29 wc => ∃ (kq : Nat) (x29_10 : Bool), v29 = .bool x29_10 ∧ Aside0 (spec_Character.j1 kq a0 a1 (wrap64 (bt a0 a1)) x29_10 = some (r1, r2, r3)) ∧ Aside0 (kq ≤ kj7) ∧ Drawn0 w wc)
        case first =>
         have H := HC11.out
         clear HC11
         by_cases c12 : 224 ≤ (wrap64 (bt a0 a1))
         ·rw [if_pos c12] at H
          have c12b0 : decide (224 ≤ (wrap64 (bt a0 a1))) = true := decide_eq_true c12
          clear c12
          (first | rw [c12b0] | (simp only [i64_w]; rw [c12b0]) | skip)
          have H' := Aside0.mk H
          clear H
          go_wp2
          go_meet
          case rel => exact ⟨_, (decide ((wrap64 (bt a0 a1)) ≤ 239)), (by first | rfl | (simp; done) | (simp [*]; done)), H', ⟨by have := HJ7.out; first | omega | exact Nat.le_refl _⟩, by repeat (first | exact Drawn0.refl _ | apply Drawn0.step)⟩
         ·rw [if_neg c12] at H
          have c12b0 : decide (224 ≤ (wrap64 (bt a0 a1))) = false := decide_eq_false c12
          clear c12
          (first | rw [c12b0] | (simp only [i64_w]; rw [c12b0]) | skip)
          have H' := Aside0.mk H
          clear H
          go_wp2
          go_meet
          case rel => exact ⟨_, (false), (by first | rfl | (simp; done) | (simp [*]; done)), H', ⟨by have := HJ7.out; first | omega | exact Nat.le_refl _⟩, by repeat (first | exact Drawn0.refl _ | apply Drawn0.step)⟩
        case rest =>
         clear HC11
         try clear c1
         try clear p2
         try clear c3
         try clear c3b0
         try clear c4
         try clear c4b0
         try clear p5
         try clear q5
         try clear hx5
         try clear p6
         try clear c7
         try clear c7b0
         try clear c9
         try clear c9b0
         try clear c10
         try clear c12
         try clear c12b0
         try clear p2
         try clear p5
         try clear p6
         try clear q5
         obtain ⟨kq, x29_10, rfl, HA, HJ10, ⟨mc10, rfl⟩⟩ := hcut
         cases kq with
         | zero => exact absurd HA.out (by simp [spec_Character.j1])
         | succ kj10 =>
          have H := HA.out
          clear HA
          simp only [spec_Character.j1] at H
          by_cases c13 : x29_10 = true
          ·subst c13
           have H1 : (spec_Character.j2 kj10 a0 a1 (wrap64 ((wrap64 (bt a0 a1)) - 224)) 2 2048) = some (r1, r2, r3) := by rw [if_pos rfl] at H; exact H
           clear H
           have H := H1
           clear H1
           have H' := Aside0.mk H
           clear H
           go_wp2
           go_meet
           case rel => exact ⟨_, (wrap64 ((wrap64 (bt a0 a1)) - 224)), (2), (2048), (by first | rfl | (simp; done) | (simp [*]; done)), (by first | rfl | (simp; done) | (simp [*]; done)), (by first | rfl | (simp; done) | (simp [*]; done)), H', ⟨by have := HJ7.out; have := HJ10.out; first | omega | exact Nat.le_refl _⟩, by repeat (first | exact Drawn0.refl _ | apply Drawn0.step)⟩
          ·replace c13 := Bool.eq_false_iff.mpr c13
           subst c13
           have H1 : (if 240 ≤ (wrap64 (bt a0 a1)) then (if (wrap64 (bt a0 a1)) ≤ 244 then (spec_Character.j2 kj10 a0 a1 (wrap64 ((wrap64 (bt a0 a1)) - 240)) 3 65536) else (some (65533, 1, false))) else (some (65533, 1, false))) = some (r1, r2, r3) := by rw [if_neg (show ¬ (false = true) by decide)] at H; exact H
           clear H
           have H := H1
           clear H1
           by_cases c14 : 240 ≤ (wrap64 (bt a0 a1))
           ·rw [if_pos c14] at H
            have c14b0 : decide (240 ≤ (wrap64 (bt a0 a1))) = true := decide_eq_true c14
            clear c14
            by_cases c15 : (wrap64 (bt a0 a1)) ≤ 244
            ·rw [if_pos c15] at H
             have c15b0 : decide ((wrap64 (bt a0 a1)) ≤ 244) = true := decide_eq_true c15
             clear c15
             have H' := Aside0.mk H
             clear H
             go_wp2
             go_meet
             case rel => exact ⟨_, (wrap64 ((wrap64 (bt a0 a1)) - 240)), (3), (65536), (by first | rfl | (simp; done) | (simp [*]; done)), (by first | rfl | (simp; done) | (simp [*]; done)), (by first | rfl | (simp; done) | (simp [*]; done)), H', ⟨by have := HJ7.out; have := HJ10.out; first | omega | exact Nat.le_refl _⟩, by repeat (first | exact Drawn0.refl _ | apply Drawn0.step)⟩
            ·rw [if_neg c15] at H
             have c15b0 : decide ((wrap64 (bt a0 a1)) ≤ 244) = false := decide_eq_false c15
             clear c15
             simp only [Option.some.injEq, Prod.mk.injEq] at H
             obtain ⟨rfl, rfl, rfl⟩ := H
             go_wp2
             go_ret3
             exact ⟨by first | rfl | (simp; done) | (simp [*]; done), by repeat (first | exact Drawn0.refl _ | apply Drawn0.step)⟩
           ·rw [if_neg c14] at H
            have c14b0 : decide (240 ≤ (wrap64 (bt a0 a1))) = false := decide_eq_false c14
            clear c14
            simp only [Option.some.injEq, Prod.mk.injEq] at H
            obtain ⟨rfl, rfl, rfl⟩ := H
            go_wp2
            go_ret3
            exact ⟨by first | rfl | (simp; done) | (simp [*]; done), by repeat (first | exact Drawn0.refl _ | apply Drawn0.step)⟩
   case rest =>
    clear HC6
    try clear c1
    try clear p2
    try clear c3
    try clear c3b0
    try clear c4
    try clear c4b0
    try clear p5
    try clear q5
    try clear hx5
    try clear p6
    try clear c7
    try clear c7b0
    try clear c9
    try clear c9b0
    try clear c10
    try clear c12
    try clear c12b0
    try clear c13
    try clear c14
    try clear c14b0
    try clear c15
    try clear c15b0
    try clear p2
    try clear p5
    try clear p6
    try clear q5
    obtain ⟨kq, x7_5, x8_5, x9_5, rfl, rfl, rfl, HA, HJ5, ⟨mc5, rfl⟩⟩ := hcut
    cases kq with
    | zero => exact absurd HA.out (by simp [spec_Character.j2])
    | succ kj5 =>
     have H := HA.out
     clear HA
     simp only [spec_Character.j2] at H
     by_cases c16 : (wrap64 ((a0.size : Int) - a1)) ≤ x8_5
     ·rw [if_pos c16] at H
      have c16b0 : decide ((wrap64 ((a0.size : Int) - a1)) ≤ x8_5) = true := decide_eq_true c16
      clear c16
      simp only [Option.some.injEq, Prod.mk.injEq] at H
      obtain ⟨rfl, rfl, rfl⟩ := H
      go_wp2
      go_ret3
      exact ⟨by first | rfl | (simp; done) | (simp [*]; done), by repeat (first | exact Drawn0.refl _ | apply Drawn0.step)⟩
     ·rw [if_neg c16] at H
      have c16b0 : decide ((wrap64 ((a0.size : Int) - a1)) ≤ x8_5) = false := decide_eq_false c16
      clear c16
      have H' := Aside0.mk H
      clear H
      go_wp2
      go_loopg [7, 10] kj5 (fun kq v7 v10 w' => ∃ (x7_2 : Int) (x10_2 : Int), v7 = .int .i64 x7_2 ∧ v10 = .int .i64 x10_2 ∧ Aside0 (spec_Character.l0 kq a0 a1 x7_2 x8_5 x9_5 x10_2 = some (r1, r2, r3)) ∧ Aside0 (kq ≤ kj5) ∧ Drawn0 w w')
      case atStart => exact ⟨(x7_5), (1), (by first | rfl | (simp; done) | (simp [*]; done)), (by first | rfl | (simp; done) | (simp [*]; done)), H', ⟨Nat.le_refl _⟩, by repeat (first | exact Drawn0.refl _ | apply Drawn0.step)⟩
      case round =>
       clear H'
       try clear c1
       try clear p2
       try clear c3
       try clear c3b0
       try clear c4
       try clear c4b0
       try clear c5
       try clear p5
       try clear q5
       try clear hx5
       try clear p6
       try clear c7
       try clear c7b0
       try clear c9
       try clear c9b0
       try clear c10
       try clear c12
       try clear c12b0
       try clear c13
       try clear c14
       try clear c14b0
       try clear c15
       try clear c15b0
       try clear c16
       try clear c16b0
       try clear p2
       try clear p5
       try clear p6
       try clear q5
       obtain ⟨x7_2, x10_2, rfl, rfl, HA, HK2, ⟨m2, rfl⟩⟩ := hrel
       cases gk with
       | zero => exact absurd HA.out (by simp [spec_Character.l0])
       | succ k2 =>
        have H := HA.out
        clear HA
        simp only [spec_Character.l0] at H
        by_cases c17 : x10_2 ≤ x8_5
        ·rw [if_pos c17] at H
         have c17b0 : decide (x10_2 ≤ x8_5) = true := decide_eq_true c17
         clear c17
         obtain ⟨ji18, hji18⟩ : ∃ j_ : Int, (wrap64 (a1 + x10_2)) = j_ := ⟨_, rfl⟩
         replace H : (if 0 ≤ (ji18) then (if (ji18) < (a0.size : Int) then (if (wrap64 (bt a0 (ji18))) < 128 then (some (65533, 1, false)) else (if (wrap64 (bt a0 (ji18))) > 191 then (some (65533, 1, false)) else (spec_Character.l0 k2 a0 a1 (wrap64 ((wrap64 ((wrap64 (x7_2 * 64)) + (wrap64 (bt a0 (ji18))))) - 128)) x8_5 x9_5 (wrap64 (x10_2 + 1))))) else (none)) else (none)) = some (r1, r2, r3) := by first | (rw [hji18] at H; exact H) | (simp only [hji18] at H ⊢; exact H)
         have hji18w : (IntKind.i64.wrap (a1 + x10_2)) = ji18 := (i64_w _).trans hji18
         by_cases c19 : 0 ≤ (ji18)
         ·rw [if_pos c19] at H
          have c19b0 : decide (0 ≤ (ji18)) = true := decide_eq_true c19
          clear c19
          by_cases c20 : (ji18) < (a0.size : Int)
          ·rw [if_pos c20] at H
           have c20b0 : decide ((ji18) < (a0.size : Int)) = true := decide_eq_true c20
           clear c20
           by_cases c22 : (wrap64 (bt a0 (ji18))) < 128
           ·rw [if_pos c22] at H
            have c22b0 : decide ((wrap64 (bt a0 (ji18))) < 128) = true := decide_eq_true c22
            clear c22
            simp only [Option.some.injEq, Prod.mk.injEq] at H
            obtain ⟨rfl, rfl, rfl⟩ := H
            have p21 : 0 ≤ ((ji18) : Int) := of_decide_eq_true (by first | (with_reducible assumption) | assumption)
            have q21 : (ji18) < (a0.size : Int) := of_decide_eq_true (by first | (with_reducible assumption) | assumption)
            have hx21 := bt_at a0 (ji18)
            replace p21 := eq_true p21
            replace q21 := eq_true q21
            go_wp2
            go_ret3
            exact ⟨by first | rfl | (simp; done) | (simp only [← hji18] <;> (first | rfl | simp)) | (simp [*]; done), by repeat (first | exact Drawn0.refl _ | apply Drawn0.step)⟩
           ·rw [if_neg c22] at H
            have c22b0 : decide ((wrap64 (bt a0 (ji18))) < 128) = false := decide_eq_false c22
            clear c22
            by_cases c23 : (wrap64 (bt a0 (ji18))) > 191
            ·rw [if_pos c23] at H
             have c23b0 : decide (191 < (wrap64 (bt a0 (ji18)))) = true := decide_eq_true c23
             clear c23
             simp only [Option.some.injEq, Prod.mk.injEq] at H
             obtain ⟨rfl, rfl, rfl⟩ := H
             have p21 : 0 ≤ ((ji18) : Int) := of_decide_eq_true (by first | (with_reducible assumption) | assumption)
             have q21 : (ji18) < (a0.size : Int) := of_decide_eq_true (by first | (with_reducible assumption) | assumption)
             have hx21 := bt_at a0 (ji18)
             replace p21 := eq_true p21
             replace q21 := eq_true q21
             go_wp2
             go_ret3
             exact ⟨by first | rfl | (simp; done) | (simp only [← hji18] <;> (first | rfl | simp)) | (simp [*]; done), by repeat (first | exact Drawn0.refl _ | apply Drawn0.step)⟩
            ·rw [if_neg c23] at H
             have c23b0 : decide (191 < (wrap64 (bt a0 (ji18)))) = false := decide_eq_false c23
             clear c23
             have H' := Aside0.mk H
             clear H
             have p21 : 0 ≤ ((ji18) : Int) := of_decide_eq_true (by first | (with_reducible assumption) | assumption)
             have q21 : (ji18) < (a0.size : Int) := of_decide_eq_true (by first | (with_reducible assumption) | assumption)
             have hx21 := bt_at a0 (ji18)
             replace p21 := eq_true p21
             replace q21 := eq_true q21
             go_wp2
             go_roundg k2
             case measure => have := HJ5.out; have := HK2.out; omega
             case rel => exact ⟨(wrap64 ((wrap64 ((wrap64 (x7_2 * 64)) + (wrap64 (bt a0 (ji18))))) - 128)), (wrap64 (x10_2 + 1)), (by first | rfl | (simp; done) | (simp only [← hji18] <;> (first | rfl | simp)) | (simp [*]; done)), (by first | rfl | (simp; done) | (simp [*]; done)), H', ⟨by have := HJ5.out; have := HK2.out; omega⟩, by repeat (first | exact Drawn0.refl _ | apply Drawn0.step)⟩
          ·rw [if_neg c20] at H
           exact absurd H (by simp)
         ·rw [if_neg c19] at H
          exact absurd H (by simp)
        ·rw [if_neg c17] at H
         have c17b0 : decide (x10_2 ≤ x8_5) = false := decide_eq_false c17
         clear c17
         by_cases c24 : x7_2 < x9_5
         ·rw [if_pos c24] at H
          have c24b0 : decide (x7_2 < x9_5) = true := decide_eq_true c24
          clear c24
          simp only [Option.some.injEq, Prod.mk.injEq] at H
          obtain ⟨rfl, rfl, rfl⟩ := H
          go_wp2
          go_ret3
          exact ⟨by first | rfl | (simp; done) | (simp [*]; done), by repeat (first | exact Drawn0.refl _ | apply Drawn0.step)⟩
         ·rw [if_neg c24] at H
          have c24b0 : decide (x7_2 < x9_5) = false := decide_eq_false c24
          clear c24
          by_cases c25 : x7_2 > 1114111
          ·rw [if_pos c25] at H
           have c25b0 : decide (1114111 < x7_2) = true := decide_eq_true c25
           clear c25
           simp only [Option.some.injEq, Prod.mk.injEq] at H
           obtain ⟨rfl, rfl, rfl⟩ := H
           go_wp2
           go_ret3
           exact ⟨by first | rfl | (simp; done) | (simp [*]; done), by repeat (first | exact Drawn0.refl _ | apply Drawn0.step)⟩
          ·rw [if_neg c25] at H
           have c25b0 : decide (1114111 < x7_2) = false := decide_eq_false c25
           clear c25
           replace H := Option.bind_eq_some_iff.mp H
           obtain ⟨t370, A260, H⟩ := H
           try dsimp only at H
           have A26 := Aside0.mk A260
           clear A260
           by_cases c27 : t370 = true
           ·subst c27
            have H1 : (some (65533, 1, false)) = some (r1, r2, r3) := by rw [if_pos rfl] at H; exact H
            clear H
            have H := H1
            clear H1
            simp only [Option.some.injEq, Prod.mk.injEq] at H
            obtain ⟨rfl, rfl, rfl⟩ := H
            go_wp2_with (first | (go_at_call 60; (with_reducible refine (spec_high.calls x7_2 true _ A26.out).mono ?_); rintro e w' ⟨rfl, ⟨nd, rfl⟩⟩))
            go_ret3
            exact ⟨by first | rfl | (simp; done) | (simp [*]; done), by repeat (first | exact Drawn0.refl _ | apply Drawn0.step)⟩
           ·replace c27 := Bool.eq_false_iff.mpr c27
            subst c27
            have H1 : ((spec_low.f x7_2).bind fun t371 => (if t371 = true then (some (65533, 1, false)) else (some (x7_2, wrap64 (x8_5 + 1), true)))) = some (r1, r2, r3) := by rw [if_neg (show ¬ (false = true) by decide)] at H; exact H
            clear H
            have H := H1
            clear H1
            replace H := Option.bind_eq_some_iff.mp H
            obtain ⟨t371, A280, H⟩ := H
            try dsimp only at H
            have A28 := Aside0.mk A280
            clear A280
            by_cases c29 : t371 = true
            ·subst c29
             have H1 : (some (65533, 1, false)) = some (r1, r2, r3) := by rw [if_pos rfl] at H; exact H
             clear H
             have H := H1
             clear H1
             simp only [Option.some.injEq, Prod.mk.injEq] at H
             obtain ⟨rfl, rfl, rfl⟩ := H
             go_wp2_with (first | (go_at_call 60; (with_reducible refine (spec_high.calls x7_2 false _ A26.out).mono ?_); rintro e w' ⟨rfl, ⟨nd, rfl⟩⟩) | (go_at_call 61; (with_reducible refine (spec_low.calls x7_2 true _ A28.out).mono ?_); rintro e w' ⟨rfl, ⟨nd, rfl⟩⟩))
             go_ret3
             exact ⟨by first | rfl | (simp; done) | (simp [*]; done), by repeat (first | exact Drawn0.refl _ | apply Drawn0.step)⟩
            ·replace c29 := Bool.eq_false_iff.mpr c29
             subst c29
             have H1 : (some (x7_2, wrap64 (x8_5 + 1), true)) = some (r1, r2, r3) := by rw [if_neg (show ¬ (false = true) by decide)] at H; exact H
             clear H
             have H := H1
             clear H1
             simp only [Option.some.injEq, Prod.mk.injEq] at H
             obtain ⟨rfl, rfl, rfl⟩ := H
             go_wp2_with (first | (go_at_call 60; (with_reducible refine (spec_high.calls x7_2 false _ A26.out).mono ?_); rintro e w' ⟨rfl, ⟨nd, rfl⟩⟩) | (go_at_call 61; (with_reducible refine (spec_low.calls x7_2 false _ A28.out).mono ?_); rintro e w' ⟨rfl, ⟨nd, rfl⟩⟩))
             go_ret3
             exact ⟨by first | rfl | (simp; done) | (simp [*]; done), by repeat (first | exact Drawn0.refl _ | apply Drawn0.step)⟩
  ·rw [if_neg c4] at H
   exact absurd H (by simp)
 ·rw [if_neg c3] at H
  exact absurd H (by simp)
def spec_UTF8.l0 : Nat → ByteArray → Int → Option (Bool)
 | 0, _, _ => none
 | k + 1, x0, x3 => if x3 < (x0.size : Int) then ((spec_Character.f k x0 x3).bind fun bt372 => (if bt372.2.2 = true then (spec_UTF8.l0 k x0 (wrap64 (x3 + bt372.2.1))) else (some false))) else (some true)
def spec_UTF8.f (k : Nat) (a0 : ByteArray) : Option (Bool) := spec_UTF8.l0 k a0 0
theorem spec_UTF8.calls (k : Nat) (a0 : ByteArray) (r : Bool) (w : World) (h : spec_UTF8.f k a0 = some r) :
  Calls Tryz.prog 50 #[.string a0] w fun e w' => e = .returned (.bool r) ∧ Drawn0 w w' := by
 have H : (spec_UTF8.l0 k a0 0) = some r := h
 clear h
 have H' := Aside0.mk H
 clear H
 go_enter Tryz.func50, Tryz.ntmps50
 go_wp2
 go_loopg [3] k (fun kq v3 w' => ∃ (x3_1 : Int), v3 = .int .i64 x3_1 ∧ Aside0 (spec_UTF8.l0 kq a0 x3_1 = some r) ∧ Aside0 (kq ≤ k) ∧ Drawn0 w w')
 case atStart => exact ⟨(0), (by first | rfl | (simp; done) | (simp [*]; done)), H', ⟨Nat.le_refl _⟩, by repeat (first | exact Drawn0.refl _ | apply Drawn0.step)⟩
 case round =>
  clear H'
  obtain ⟨x3_1, rfl, HA, HK1, ⟨m1, rfl⟩⟩ := hrel
  cases gk with
  | zero => exact absurd HA.out (by simp [spec_UTF8.l0])
  | succ k1 =>
   have H := HA.out
   clear HA
   simp only [spec_UTF8.l0] at H
   by_cases c2 : x3_1 < (a0.size : Int)
   ·rw [if_pos c2] at H
    have c2b0 : decide (x3_1 < (a0.size : Int)) = true := decide_eq_true c2
    clear c2
    replace H := Option.bind_eq_some_iff.mp H
    obtain ⟨⟨t372, t373, t374⟩, A30, H⟩ := H
    try dsimp only at H
    have A3 := Aside0.mk A30
    clear A30
    by_cases c4 : t374 = true
    ·subst c4
     have H1 : (spec_UTF8.l0 k1 a0 (wrap64 (x3_1 + t373))) = some r := by rw [if_pos rfl] at H; exact H
     clear H
     have H := H1
     clear H1
     have H' := Aside0.mk H
     clear H
     go_wp2_with (first | ((with_reducible refine gate_callee (f := 76) rfl ?_); refine goesL_ (some 14) rfl rfl Tryz.func76 (by kernel_rfl) rfl #[.string a0, .int .i64 x3_1] rfl (by (try simp only [List.map_toArray, List.map_cons, List.map_nil]); first | done | rfl | (simp only [List.length_drop, List.length_take]; rfl)) ?_; (with_reducible refine (spec_Character.calls k1 a0 x3_1 t372 t373 true _ A3.out).mono ?_); rintro e w' ⟨rfl, ⟨nd, rfl⟩⟩; refine ⟨_, rfl, ?_⟩))
     go_roundg k1
     case measure => have := HK1.out; omega
     case rel => exact ⟨(wrap64 (x3_1 + t373)), (by first | rfl | (simp; done) | (simp [*]; done)), H', ⟨by have := HK1.out; omega⟩, by repeat (first | exact Drawn0.refl _ | apply Drawn0.step)⟩
    ·replace c4 := Bool.eq_false_iff.mpr c4
     subst c4
     have H1 : (some false) = some r := by rw [if_neg (show ¬ (false = true) by decide)] at H; exact H
     clear H
     have H := H1
     clear H1
     obtain rfl := Option.some.inj H
     go_wp2_with (first | ((with_reducible refine gate_callee (f := 76) rfl ?_); refine goesL_ (some 14) rfl rfl Tryz.func76 (by kernel_rfl) rfl #[.string a0, .int .i64 x3_1] rfl (by (try simp only [List.map_toArray, List.map_cons, List.map_nil]); first | done | rfl | (simp only [List.length_drop, List.length_take]; rfl)) ?_; (with_reducible refine (spec_Character.calls k1 a0 x3_1 t372 t373 false _ A3.out).mono ?_); rintro e w' ⟨rfl, ⟨nd, rfl⟩⟩; refine ⟨_, rfl, ?_⟩))
     go_ret
     exact ⟨by first | rfl | (simp; done) | (simp [*]; done), by repeat (first | exact Drawn0.refl _ | apply Drawn0.step)⟩
   ·rw [if_neg c2] at H
    have c2b0 : decide (x3_1 < (a0.size : Int)) = false := decide_eq_false c2
    clear c2
    obtain rfl := Option.some.inj H
    go_wp2
    go_ret
    exact ⟨by first | rfl | (simp; done) | (simp [*]; done), by repeat (first | exact Drawn0.refl _ | apply Drawn0.step)⟩
end Go.Proofs.YtgiioglmkogpkaaGreatDoor.M
namespace Go.Proofs.YtgiioglmkogpkaaGreatDoor.L
open Go.RowKit Go.Proofs.YtgiioglmkogpkaaGreatDoorW.PrintWords Go.Proofs.YtgiioglmkogpkaaGreatDoorW.PrintLast Go.Proofs.YtgiioglmkogpkaaGreatDoorW.PrintMore
open M
theorem Ev.back {α : Type} {g f : Nat → Option α} {r : α} (h : ∀ k, g (k + 1) = f k) (e : Ev g r) : Ev f r := by
 obtain ⟨K, e⟩ := e
 exact ⟨K, fun k hk => by rw [← h]; exact e (k + 1) (by omega)⟩
theorem Ev.one {α : Type} {g : Nat → Option α} {r r' : α} (h : Ev g r) (h' : Ev g r') : r = r' := by
 obtain ⟨K, a⟩ := h
 obtain ⟨K', b⟩ := h'
 exact Option.some.inj ((a (K + K') (by omega)).symm.trans (b (K + K') (by omega)))
theorem Ev.unbind {α β : Type} {g : Nat → Option α} {f : Nat → α → Option β} {a : α} {r : β} (h : Ev g a) (k : Ev (fun n => (g n).bind (f n)) r) : Ev (fun n => f n a) r := by
 obtain ⟨K, h⟩ := h
 obtain ⟨K', k⟩ := k
 refine ⟨K + K', fun n hn => ?_⟩
 have := k n (by omega)
 simp only [h n (by omega), Option.bind_some] at this
 exact this
inductive PDec (s : ByteArray) (j : Int) : Int → List Int → Prop
 | nil : PDec s j j []
 | plain (i : Int) (o : List Int) : 0 ≤ i → i < j → bt s i ≠ 92 → bt s i ≠ 34 → 32 ≤ bt s i → PDec s j (i + 1) o → PDec s j i (bt s i :: o)
 | esc (i : Int) (o : List Int) : 0 ≤ i → i + 1 < j → bt s i = 92 → isEsc (bt s (i + 1)) → PDec s j (i + 2) o → PDec s j i (shortv (bt s (i + 1)) :: o)
 | uni (i : Int) (o : List Int) : isU s j i → ¬ isHigh (u4 s (i + 2)) → ¬ isLow (u4 s (i + 2)) → PDec s j (i + 6) o → PDec s j i (enc (u4 s (i + 2)) ++ o)
 | pair (i : Int) (o : List Int) : isU s j i → isPair s j i → PDec s j (i + 12) o → PDec s j i (enc (65536 + (u4 s (i + 2) - 55296) * 1024 + (u4 s (i + 8) - 56320)) ++ o)
def pairStep (s : ByteArray) (p : Int) (k : Nat) (b : Int × Bool) : Option Bool := if b.2 = true then ((spec_high.f b.1).bind fun t365 => (if t365 = true then ((spec_unit.f k s (wrap64 (p + 6))).bind fun bt366 => (if bt366.2 = true then ((spec_low.f bt366.1).bind fun t368 => (if t368 = true then (spec_Paired.l0 k s (wrap64 (p + 12))) else (some false))) else (some false))) else ((spec_low.f b.1).bind fun t369 => (if t369 = true then (some false) else (spec_Paired.l0 k s (wrap64 (p + 6))))))) else (spec_Paired.l0 k s (wrap64 (p + 2)))
theorem pair_back (s : ByteArray) (p : Int) (h0 : 0 ≤ p) (h1 : p < s.size) (h : bt s p = 92) : ∀ k, spec_Paired.l0 (k + 1) s p = (spec_unit.f k s p).bind (pairStep s p k) := fun k => by
 simp only [spec_Paired.l0]; rw [if_pos h1, if_pos h0, if_pos h]; rfl
theorem pair_plain (s : ByteArray) (hz : s.size ≤ 65536) (p : Int) (h0 : 0 ≤ p) (h1 : p < s.size) (h : bt s p ≠ 92) : ∀ k, spec_Paired.l0 (k + 1) s p = spec_Paired.l0 k s (p + 1) := fun k => by
 simp only [spec_Paired.l0]; rw [if_pos h1, if_pos h0, if_neg h, w64 (by omega) (by omega)]
theorem paired_tot (s : ByteArray) (hz : s.size ≤ 65536) : ∀ (n : Nat) (p : Int), 0 ≤ p → p ≤ 100000 → (s.size : Int) - p < n → ∃ b, Ev (fun k => spec_Paired.l0 k s p) b := by
 intro n
 induction n with
 | zero =>
  intro p h0 h1 h2
  exact ⟨true, Ev.step (f := fun _ => some true) (fun k => by simp only [spec_Paired.l0]; rw [if_neg (by omega)]) (Ev.now _)⟩
 | succ n ih =>
  intro p h0 h1 h2
  by_cases hp : p < (s.size : Int)
  ·by_cases c92 : bt s p = 92
   ·have hb := pair_back s p h0 hp c92
    by_cases cU : isU s s.size p
    ·have hu := unit_yes s hz p cU
     have hU2 := cU.2.1
     by_cases cH : isHigh (u4 s (p + 2))
     ·by_cases cU2 : isU s s.size (p + 6)
      ·have hU3 := cU2.2.1
       by_cases cL : isLow (u4 s (p + 6 + 2))
       ·obtain ⟨b, h⟩ := ih (p + 12) (by omega) (by omega) (by omega)
        refine ⟨b, Ev.step hb (Ev.bind hu (Ev.congr (f := fun k => (spec_unit.f k s (p + 6)).bind fun b => (if b.2 = true then ((spec_low.f b.1).bind fun t368 => (if t368 = true then (spec_Paired.l0 k s (wrap64 (p + 12))) else (some false))) else (some false))) (fun k => ?_) (Ev.bind (unit_yes s hz _ cU2) (Ev.congr (fun k => ?_) h))))⟩
        ·dsimp only [pairStep]; rw [if_pos rfl, high_f]; simp only [Option.bind_some]; rw [if_pos (decide_eq_true cH), w64 (x := p + 6) (by omega) (by omega)]
        ·(try dsimp only); rw [if_pos rfl, low_f]; simp only [Option.bind_some]; rw [if_pos (decide_eq_true cL), w64 (by omega) (by omega)]
       ·refine ⟨false, Ev.step hb (Ev.bind hu (Ev.congr (f := fun k => (spec_unit.f k s (p + 6)).bind fun b => (if b.2 = true then ((spec_low.f b.1).bind fun t368 => (if t368 = true then (spec_Paired.l0 k s (wrap64 (p + 12))) else (some false))) else (some false))) (fun k => ?_) (Ev.bind (unit_yes s hz _ cU2) (Ev.congr (fun k => ?_) (Ev.now _)))))⟩
        ·dsimp only [pairStep]; rw [if_pos rfl, high_f]; simp only [Option.bind_some]; rw [if_pos (decide_eq_true cH), w64 (x := p + 6) (by omega) (by omega)]
        ·(try dsimp only); rw [if_pos rfl, low_f]; simp only [Option.bind_some]; rw [if_neg (by simpa using cL)]
      ·refine ⟨false, Ev.step hb (Ev.bind hu (Ev.congr (f := fun k => (spec_unit.f k s (p + 6)).bind fun b => (if b.2 = true then ((spec_low.f b.1).bind fun t368 => (if t368 = true then (spec_Paired.l0 k s (wrap64 (p + 12))) else (some false))) else (some false))) (fun k => ?_) (Ev.bind (unit_no s hz _ (by omega) cU2) (Ev.congr (fun k => ?_) (Ev.now _)))))⟩
       ·dsimp only [pairStep]; rw [if_pos rfl, high_f]; simp only [Option.bind_some]; rw [if_pos (decide_eq_true cH), w64 (x := p + 6) (by omega) (by omega)]
       ·(try dsimp only); rw [if_neg (by simp)]
     ·by_cases cL : isLow (u4 s (p + 2))
      ·refine ⟨false, Ev.step hb (Ev.bind hu (Ev.congr (fun k => ?_) (Ev.now _)))⟩
       dsimp only [pairStep]; rw [if_pos rfl, high_f]; simp only [Option.bind_some]; rw [if_neg (by simpa using cH), low_f]; simp only [Option.bind_some]; rw [if_pos (decide_eq_true cL)]
      ·obtain ⟨b, h⟩ := ih (p + 6) (by omega) (by omega) (by omega)
       refine ⟨b, Ev.step hb (Ev.bind hu (Ev.congr (fun k => ?_) h))⟩
       dsimp only [pairStep]; rw [if_pos rfl, high_f]; simp only [Option.bind_some]; rw [if_neg (by simpa using cH), low_f]; simp only [Option.bind_some]; rw [if_neg (by simpa using cL), w64 (by omega) (by omega)]
    ·obtain ⟨b, h⟩ := ih (p + 2) (by omega) (by omega) (by omega)
     refine ⟨b, Ev.step hb (Ev.bind (unit_no s hz p (by omega) cU) (Ev.congr (fun k => ?_) h))⟩
     dsimp only [pairStep]; rw [if_neg (by simp), w64 (by omega) (by omega)]
   ·obtain ⟨b, h⟩ := ih (p + 1) (by omega) (by omega) (by omega)
    exact ⟨b, Ev.step (pair_plain s hz p h0 hp c92) h⟩
  ·exact ⟨true, Ev.step (f := fun _ => some true) (fun k => by simp only [spec_Paired.l0]; rw [if_neg hp]) (Ev.now _)⟩
theorem bt_extract' (s : ByteArray) (a b : Nat) (i x : Int) (h : x = a + i) (h0 : 0 ≤ i) (h1 : a + i < b) (h2 : b ≤ s.size) : bt (s.extract a b) i = bt s x := by rw [h]; exact bt_extract s a b i h0 h1 h2
theorem isU.shift {s : ByteArray} {j i : Int} {a : Nat} (hj : j ≤ s.size) (h : isU s j i) (ha : (a : Int) ≤ i) : isU (s.extract a j.toNat) ((s.extract a j.toNat).size : Int) (i - a) ∧ u4 (s.extract a j.toNat) (i - a + 2) = u4 s (i + 2) := by
 obtain ⟨h0, h1, h2, h3, h4⟩ := h
 have e : ((s.extract a j.toNat).size : Int) = j - a := by rw [ByteArray.size_extract]; omega
 have hb : ∀ x, i ≤ x → x < i + 6 → bt (s.extract a j.toNat) (x - a) = bt s x := fun x q0 q1 => bt_extract' s a j.toNat (x - a) x (by omega) (by omega) (by omega) (by omega)
 refine ⟨⟨by omega, by omega, by rw [hb i (by omega) (by omega)]; exact h2, ?_, fun x y z => ?_⟩, ?_⟩
 ·have := hb (i + 1) (by omega) (by omega)
  rw [show i + 1 - a = i - a + 1 by omega] at this
  rw [this]; exact h3
 ·have := hb (x + a) (by omega) (by omega)
  rw [show x + a - a = x by omega] at this
  rw [this]; exact h4 _ (by omega) (by omega)
 ·have e0 := hb (i + 2) (by omega) (by omega)
  have e1 := hb (i + 3) (by omega) (by omega)
  have e2 := hb (i + 4) (by omega) (by omega)
  have e3 := hb (i + 5) (by omega) (by omega)
  unfold u4 hd
  rw [show i - a + 2 = i + 2 - a by omega, show i + 2 - a + 1 = i + 3 - a by omega, show i + 2 - a + 2 = i + 4 - a by omega, show i + 2 - a + 3 = i + 5 - a by omega, show i + 2 + 1 = i + 3 by omega, show i + 2 + 2 = i + 4 by omega, show i + 2 + 3 = i + 5 by omega, e0, e1, e2, e3]
theorem PDec.shift {s : ByteArray} {j : Int} {a : Nat} (hj : j ≤ s.size) {i : Int} {o : List Int} (h : PDec s j i o) : (a : Int) ≤ i → PDec (s.extract a j.toNat) ((s.extract a j.toNat).size : Int) (i - a) o := by
 induction h with
 | nil =>
  intro ha
  have e : ((s.extract a j.toNat).size : Int) = j - a := by rw [ByteArray.size_extract]; omega
  rw [e]; exact .nil
 | plain i o h0 h1 h2 h3 h4 h5 ih =>
  intro ha
  have e : ((s.extract a j.toNat).size : Int) = j - a := by rw [ByteArray.size_extract]; omega
  have b0 := bt_extract' s a j.toNat (i - a) i (by omega) (by omega) (by omega) (by omega)
  have := ih (by omega)
  rw [show i + 1 - a = i - a + 1 by omega] at this
  have q := PDec.plain (s := s.extract a j.toNat) (i - a) o (by omega) (by omega) (by rw [b0]; exact h2) (by rw [b0]; exact h3) (by rw [b0]; exact h4) this
  rwa [b0] at q
 | esc i o h0 h1 h2 h3 h4 ih =>
  intro ha
  have e : ((s.extract a j.toNat).size : Int) = j - a := by rw [ByteArray.size_extract]; omega
  have b0 := bt_extract' s a j.toNat (i - a) i (by omega) (by omega) (by omega) (by omega)
  have b1 := bt_extract' s a j.toNat (i - a + 1) (i + 1) (by omega) (by omega) (by omega) (by omega)
  have := ih (by omega)
  rw [show i + 2 - a = i - a + 2 by omega] at this
  have q := PDec.esc (s := s.extract a j.toNat) (i - a) o (by omega) (by omega) (by rw [b0]; exact h2) (by rw [b1]; exact h3) this
  rwa [b1] at q
 | uni i o h0 h1 h2 h3 ih =>
  intro ha
  obtain ⟨hU, hu⟩ := h0.shift hj ha
  have := ih (by omega)
  rw [show i + 6 - a = i - a + 6 by omega] at this
  have q := PDec.uni (s := s.extract a j.toNat) (i - a) o hU (by rw [hu]; exact h1) (by rw [hu]; exact h2) this
  rwa [hu] at q
 | pair i o h0 h1 h2 ih =>
  intro ha
  obtain ⟨hU, hu⟩ := h0.shift hj ha
  obtain ⟨hU2, hu2⟩ := h1.1.shift (a := a) hj (by omega)
  have := ih (by omega)
  rw [show i + 12 - a = i - a + 12 by omega] at this
  rw [show i + 6 - a = i - a + 6 by omega] at hU2 hu2
  rw [show i - a + 6 + 2 = i - a + 8 by omega, show i + 6 + 2 = i + 8 by omega] at hu2
  have q := PDec.pair (s := s.extract a j.toNat) (i - a) o hU ⟨hU2, by rw [hu]; exact h1.2.1, by rw [hu2]; exact h1.2.2⟩ this
  rwa [hu, hu2] at q
theorem char_l0 (s : ByteArray) (hz : s.size ≤ 65536) (p m least : Int) (h0 : 0 ≤ p) (hm : 1 ≤ m ∧ m ≤ 3) (hs : m < (s.size : Int) - p) : ∀ (d : Nat) (x c : Int), 1 ≤ x → x + d = m + 1 → 0 ≤ c → (x = 1 → c ≤ 32) → (x = 2 → c ≤ 3000) → (x = 3 → c ≤ 200000) → (x = 4 → c ≤ 20000000) → ∃ r : Int × Int × Bool, Ev (fun k => spec_Character.l0 k s p c m least x) r ∧ 1 ≤ r.2.1 ∧ r.2.1 ≤ 4 := by
 intro d
 induction d with
 | zero =>
  intro x c hx hd hc b1 b2 b3 b4
  by_cases c1 : c < least
  ·exact ⟨_, Ev.step (f := fun _ => some (65533, 1, false)) (fun k => by simp only [spec_Character.l0]; rw [if_neg (by omega), if_pos c1]) (Ev.now _), by simp, by simp⟩
  by_cases c2 : c > 1114111
  ·exact ⟨_, Ev.step (f := fun _ => some (65533, 1, false)) (fun k => by simp only [spec_Character.l0]; rw [if_neg (by omega), if_neg c1, if_pos c2]) (Ev.now _), by simp, by simp⟩
  by_cases c3 : isHigh c
  ·exact ⟨_, Ev.step (f := fun _ => some (65533, 1, false)) (fun k => by simp only [spec_Character.l0]; rw [if_neg (by omega), if_neg c1, if_neg c2, high_f]; simp only [Option.bind_some]; rw [if_pos (decide_eq_true c3)]) (Ev.now _), by simp, by simp⟩
  by_cases c4 : isLow c
  ·exact ⟨_, Ev.step (f := fun _ => some (65533, 1, false)) (fun k => by simp only [spec_Character.l0]; rw [if_neg (by omega), if_neg c1, if_neg c2, high_f]; simp only [Option.bind_some]; rw [if_neg (by simpa using c3), low_f]; simp only [Option.bind_some]; rw [if_pos (decide_eq_true c4)]) (Ev.now _), by simp, by simp⟩
  ·exact ⟨_, Ev.step (f := fun _ => some (c, m + 1, true)) (fun k => by simp only [spec_Character.l0]; rw [if_neg (by omega), if_neg c1, if_neg c2, high_f]; simp only [Option.bind_some]; rw [if_neg (by simpa using c3), low_f]; simp only [Option.bind_some]; rw [if_neg (by simpa using c4), w64 (by omega) (by omega)]) (Ev.now _), by simp; omega, by simp; omega⟩
 | succ d ih =>
  intro x c hx hd hc b1 b2 b3 b4
  have hb := bt_range s (p + x)
  have hs1 : ∀ k, spec_Character.l0 (k + 1) s p c m least x = (if bt s (p + x) < 128 then (some (65533, 1, false)) else (if bt s (p + x) > 191 then (some (65533, 1, false)) else (spec_Character.l0 k s p (c * 64 + bt s (p + x) - 128) m least (x + 1)))) := fun k => by
   simp only [spec_Character.l0]
   rw [if_pos (by omega), w64 (x := p + x) (by omega) (by omega), if_pos (by omega), if_pos (by omega), w64 (x := bt s (p + x)) (by omega) (by omega), w64 (x := c * 64) (by omega) (by omega), w64 (x := c * 64 + bt s (p + x)) (by omega) (by omega), w64 (x := c * 64 + bt s (p + x) - 128) (by omega) (by omega), w64 (x := x + 1) (by omega) (by omega)]
  by_cases c1 : bt s (p + x) < 128
  ·exact ⟨_, Ev.step (f := fun _ => some (65533, 1, false)) (fun k => by rw [hs1, if_pos c1]) (Ev.now _), by simp, by simp⟩
  by_cases c2 : bt s (p + x) > 191
  ·exact ⟨_, Ev.step (f := fun _ => some (65533, 1, false)) (fun k => by rw [hs1, if_neg c1, if_pos c2]) (Ev.now _), by simp, by simp⟩
  obtain ⟨r, hr, hr2⟩ := ih (x + 1) (c * 64 + bt s (p + x) - 128) (by omega) (by omega) (by omega) (by omega) (by omega) (by omega) (by omega)
  exact ⟨r, Ev.step (fun k => by rw [hs1, if_neg c1, if_neg c2]) hr, hr2⟩
theorem char_j2 (s : ByteArray) (hz : s.size ≤ 65536) (p m least c : Int) (h0 : 0 ≤ p) (h1 : p < s.size) (hm : 1 ≤ m ∧ m ≤ 3) (hc : 0 ≤ c ∧ c ≤ 32) : ∃ r : Int × Int × Bool, Ev (fun k => spec_Character.j2 k s p c m least) r ∧ 1 ≤ r.2.1 ∧ r.2.1 ≤ 4 := by
 by_cases h : (s.size : Int) - p ≤ m
 ·exact ⟨_, Ev.step (f := fun _ => some (65533, 1, false)) (fun k => by simp only [spec_Character.j2]; rw [w64 (by omega) (by omega), if_pos h]) (Ev.now _), by simp, by simp⟩
 ·obtain ⟨r, hr, hr2⟩ := char_l0 s hz p m least h0 hm (by omega) m.toNat 1 c (by omega) (by omega) hc.1 (by omega) (by omega) (by omega) (by omega)
  exact ⟨r, Ev.step (fun k => by simp only [spec_Character.j2]; rw [w64 (by omega) (by omega), if_neg h]) hr, hr2⟩
theorem char_ev (s : ByteArray) (hz : s.size ≤ 65536) (p : Int) (h0 : 0 ≤ p) (h1 : p < s.size) : ∃ r : Int × Int × Bool, Ev (fun k => spec_Character.f k s p) r ∧ 1 ≤ r.2.1 ∧ r.2.1 ≤ 4 := by
 have hb := bt_range s p
 have hw : wrap64 (bt s p) = bt s p := w64 (by omega) (by omega)
 have no : ∀ g : Nat → Option (Int × Int × Bool), Ev g (65533, 1, false) → ∃ r : Int × Int × Bool, Ev g r ∧ 1 ≤ r.2.1 ∧ r.2.1 ≤ 4 := fun g h => ⟨_, h, by simp, by simp⟩
 by_cases c1 : bt s p < 128
 ·exact ⟨_, Ev.congr (f := fun _ => some (bt s p, 1, true)) (fun k => by simp only [spec_Character.f]; rw [if_pos h0, if_pos h1, hw, if_pos c1]) (Ev.now _), by simp, by simp⟩
 have hf : ∀ k, spec_Character.f k s p = (if 194 ≤ bt s p then (spec_Character.j0 k s p (bt s p) (decide (bt s p ≤ 223))) else (spec_Character.j0 k s p (bt s p) false)) := fun k => by
  simp only [spec_Character.f]; rw [if_pos h0, if_pos h1, hw, if_neg c1]
 by_cases c2 : 194 ≤ bt s p ∧ bt s p ≤ 223
 ·obtain ⟨r, hr, hr2⟩ := char_j2 s hz p 1 128 (bt s p - 192) h0 h1 (by omega) (by omega)
  refine ⟨r, Ev.congr (f := fun k => spec_Character.j0 k s p (bt s p) true) (fun k => by rw [hf, if_pos c2.1, decide_eq_true c2.2]) (Ev.step (fun k => ?_) hr), hr2⟩
  simp only [spec_Character.j0, if_true]; rw [w64 (by omega) (by omega)]
 have hf2 : ∀ k, spec_Character.f k s p = spec_Character.j0 k s p (bt s p) false := fun k => by
  rw [hf]
  by_cases q : 194 ≤ bt s p
  ·rw [if_pos q, decide_eq_false (by omega)]
  ·rw [if_neg q]
 by_cases c3 : 224 ≤ bt s p ∧ bt s p ≤ 239
 ·obtain ⟨r, hr, hr2⟩ := char_j2 s hz p 2 2048 (bt s p - 224) h0 h1 (by omega) (by omega)
  refine ⟨r, Ev.congr hf2 (Ev.step (f := fun k => spec_Character.j1 k s p (bt s p) true) (fun k => ?_) (Ev.step (fun k => ?_) hr)), hr2⟩
  ·simp only [spec_Character.j0, Bool.false_eq_true, if_false]; rw [if_pos c3.1, decide_eq_true c3.2]
  ·simp only [spec_Character.j1, if_true]; rw [w64 (by omega) (by omega)]
 have hj0 : ∀ k, spec_Character.j0 (k + 1) s p (bt s p) false = spec_Character.j1 k s p (bt s p) false := fun k => by
  simp only [spec_Character.j0, Bool.false_eq_true, if_false]
  by_cases q : 224 ≤ bt s p
  ·rw [if_pos q, decide_eq_false (by omega)]
  ·rw [if_neg q]
 by_cases c4 : 240 ≤ bt s p ∧ bt s p ≤ 244
 ·obtain ⟨r, hr, hr2⟩ := char_j2 s hz p 3 65536 (bt s p - 240) h0 h1 (by omega) (by omega)
  refine ⟨r, Ev.congr hf2 (Ev.step hj0 (Ev.step (fun k => ?_) hr)), hr2⟩
  simp only [spec_Character.j1, Bool.false_eq_true, if_false]; rw [if_pos c4.1, if_pos c4.2, w64 (by omega) (by omega)]
 refine no _ (Ev.congr hf2 (Ev.step hj0 (Ev.step (f := fun _ => some (65533, 1, false)) (fun k => ?_) (Ev.now _))))
 simp only [spec_Character.j1, Bool.false_eq_true, if_false]
 by_cases q : 240 ≤ bt s p
 ·rw [if_pos q, if_neg (by omega)]
 ·rw [if_neg q]
theorem utf8_ev (s : ByteArray) (hz : s.size ≤ 65536) : ∀ (n : Nat) (p : Int), 0 ≤ p → p ≤ 100000 → (s.size : Int) - p < n → ∃ b, Ev (fun k => spec_UTF8.l0 k s p) b := by
 intro n
 induction n with
 | zero =>
  intro p h0 h1 h2
  exact ⟨true, Ev.step (f := fun _ => some true) (fun k => by simp only [spec_UTF8.l0]; rw [if_neg (by omega)]) (Ev.now _)⟩
 | succ n ih =>
  intro p h0 h1 h2
  by_cases hp : p < (s.size : Int)
  ·obtain ⟨⟨a, m, b⟩, hr, hm1, hm2⟩ := char_ev s hz p h0 hp
   dsimp only at hm1 hm2
   cases b with
   | false =>
    refine ⟨false, Ev.step (f := fun k => (spec_Character.f k s p).bind fun t => (if t.2.2 = true then (spec_UTF8.l0 k s (wrap64 (p + t.2.1))) else (some false))) (fun k => ?_) (Ev.bind hr (Ev.congr (fun k => ?_) (Ev.now _)))⟩
    ·simp only [spec_UTF8.l0]; rw [if_pos hp]
    ·simp
   | true =>
    obtain ⟨b, hb⟩ := ih (p + m) (by omega) (by omega) (by omega)
    refine ⟨b, Ev.step (f := fun k => (spec_Character.f k s p).bind fun t => (if t.2.2 = true then (spec_UTF8.l0 k s (wrap64 (p + t.2.1))) else (some false))) (fun k => ?_) (Ev.bind hr (Ev.congr (fun k => ?_) hb))⟩
    ·simp only [spec_UTF8.l0]; rw [if_pos hp]
    ·(try dsimp only); rw [if_pos rfl, w64 (by omega) (by omega)]
  ·exact ⟨true, Ev.step (f := fun _ => some true) (fun k => by simp only [spec_UTF8.l0]; rw [if_neg hp]) (Ev.now _)⟩
end Go.Proofs.YtgiioglmkogpkaaGreatDoor.L

/- Texts behind the law FnGjAnyLines: part 2. -/
import Derived.Test.YtgiioglmkogpkaaGreatDoorZa
import Derived.OrdersHeld
set_option linter.unusedVariables false
set_option linter.unusedSimpArgs false
namespace Go.Proofs.YtgiioglmkogpkaaGreatDoor.M
open Go.RowKit Go.Proofs.YtgiioglmkogpkaaGreatDoorW.PrintWords Go.Proofs.YtgiioglmkogpkaaGreatDoorW.PrintLast Go.Proofs.YtgiioglmkogpkaaGreatDoorW.PrintMore
theorem gT {α : Type} (xs : List α) (i : Nat) : xs.toArray[i]? = xs[i]? := List.getElem?_toArray
theorem gS {α : Type} (x : α) (xs : List α) (i : Nat) : (x :: xs)[i + 1]? = xs[i]? := List.getElem?_cons_succ
theorem gZ {α : Type} (x : α) (xs : List α) : (x :: xs)[0]? = some x := List.getElem?_cons_zero
theorem sT {α : Type} (xs : List α) (i : Nat) (x : α) : xs.toArray.setIfInBounds i x = (xs.set i x).toArray := List.setIfInBounds_toArray _ _ _
theorem sZ {α : Type} (x y : α) (xs : List α) : (x :: xs).set 0 y = y :: xs := List.set_cons_zero
theorem sS {α : Type} (x y : α) (xs : List α) (i : Nat) : (x :: xs).set (i + 1) y = x :: xs.set i y := List.set_cons_succ
theorem aP (a : Act) (d : Tmp) (v : Value) : a.put (some d) v = { a with tmps := a.tmps.setIfInBounds d v } := rfl
theorem aN (a : Act) (v : Value) : a.put none v = a := rfl
section
variable {P : Program} {md : Region.Mode} {ops : Array Oper} {Q : Exit → Act → World → Prop} {S : World → Prop} {ds : List Nat} {oi : Oper} {v : Value} {fuel : Nat} {l : Array Bool} {a : Act} {w : World}
theorem tkH {i : Nat} (hi : ops[i]? = some oi) (hc : (Region.noSelect ops && Region.free md ops l i && (Region.ready md ops l).contains i) = true)
  (hQ : ∀ c a w, Q (.panic c) (a.put oi.dst v) w → Q (.panic c) a w) (hy : YieldsIf P ops S oi v a) (hS : S w)
  (h : wpAnyH P md ops Q S fuel (l.setIfInBounds i true) (a.put oi.dst v) w) : wpAnyH P md ops Q S (fuel + 1) l a w := by
 simp only [Bool.and_eq_true] at hc
 exact wpAnyH_take hi hc.1.1 hc.1.2 hc.2 hQ hy hS h
theorem tkL {i : Nat} (hi : ops[i]? = some oi) (hc : (Region.noSelect ops && Region.free md ops l i && (Region.ready md ops l).contains i && Region.closedB md ops l && Region.lastB md ops l ds i) = true)
  (hQ : ∀ c a w, Q (.panic c) (a.put oi.dst v) w → Q (.panic c) a w) (hy : YieldsIf P ops S oi v a) (hS : S w)
  (h : wpAnyLast P md ops Q S ds fuel (l.setIfInBounds i true) (a.put oi.dst v) w) : wpAnyLast P md ops Q S ds (fuel + 1) l a w := by
 simp only [Bool.and_eq_true] at hc
 exact wpAnyLast_take hi hc.1.1.1.1 hc.1.1.1.2 hc.1.1.2 hc.1.2 hc.2 hQ hy hS h
end
set_option maxHeartbeats 8000000
set_option maxRecDepth 100000
attribute [local go_sem] max2_int min2_int max_two min_two max_three min_three max_four min_four
def spec_Blank.f (a0 : Int) : Option (Bool) := if a0 = 32 then (some true) else (if a0 = 9 then (some true) else (if a0 = 10 then (some true) else (some (a0 == 13))))
theorem spec_Blank.calls (a0 : Int) (r : Bool) (w : World) (h : spec_Blank.f a0 = some r) :
  Calls Tryz.prog 24 #[.int .u8 a0] w fun e w' => e = .returned (.bool r) ∧ Drawn0 w w' := by
 have H : (if a0 = 32 then (some true) else (if a0 = 9 then (some true) else (if a0 = 10 then (some true) else (some (a0 == 13))))) = some r := h
 by_cases c2 : a0 = 32
 ·rw [if_pos c2] at H
  have c2b0 : (a0 == 32) = true := beq_iff_eq.mpr c2
  have c2b1 : (a0 != 32) = false := bne_eq_false_iff_eq.mpr c2
  obtain rfl := Option.some.inj H
  go_enter Tryz.func24, Tryz.ntmps24
  go_wp2
  go_ret
  exact ⟨by first | rfl | (simp; done) | (simp [*]; done), by repeat (first | exact Drawn0.refl _ | apply Drawn0.step)⟩
 rw [if_neg c2] at H
 have c2b0 : (a0 == 32) = false := beq_eq_false_iff_ne.mpr c2
 have c2b1 : (a0 != 32) = true := bne_iff_ne.mpr c2
 by_cases c3 : a0 = 9
 ·rw [if_pos c3] at H
  have c3b0 : (a0 == 9) = true := beq_iff_eq.mpr c3
  have c3b1 : (a0 != 9) = false := bne_eq_false_iff_eq.mpr c3
  obtain rfl := Option.some.inj H
  go_enter Tryz.func24, Tryz.ntmps24
  go_wp2
  go_ret
  exact ⟨by first | rfl | (simp; done) | (simp [*]; done), by repeat (first | exact Drawn0.refl _ | apply Drawn0.step)⟩
 rw [if_neg c3] at H
 have c3b0 : (a0 == 9) = false := beq_eq_false_iff_ne.mpr c3
 have c3b1 : (a0 != 9) = true := bne_iff_ne.mpr c3
 by_cases c4 : a0 = 10
 rotate_left
 ·rw [if_neg c4] at H
  have c4b0 : (a0 == 10) = false := beq_eq_false_iff_ne.mpr c4
  have c4b1 : (a0 != 10) = true := bne_iff_ne.mpr c4
  obtain rfl := Option.some.inj H
  go_enter Tryz.func24, Tryz.ntmps24
  go_wp2
  go_ret
  exact ⟨by first | rfl | (simp; done) | (simp [*]; done), by repeat (first | exact Drawn0.refl _ | apply Drawn0.step)⟩
 rw [if_pos c4] at H
 have c4b0 : (a0 == 10) = true := beq_iff_eq.mpr c4
 have c4b1 : (a0 != 10) = false := bne_eq_false_iff_eq.mpr c4
 obtain rfl := Option.some.inj H
 go_enter Tryz.func24, Tryz.ntmps24
 go_wp2
 go_ret
 exact ⟨by first | rfl | (simp; done) | (simp [*]; done), by repeat (first | exact Drawn0.refl _ | apply Drawn0.step)⟩
def IsS112 (w0 W : World) (g : Nat) (f0 : ByteArray) (f1 : Int) : Prop := W.heap[g]? = some (.cells #[.string f0, .int .i64 f1] 112 (0, 0)) ∧ w0.heap.size ≤ g
theorem IsS112.grown {w0 W : World} {g : Nat} {f0 : ByteArray} {f1 : Int} {W1 : World} {row : Option Nat} (h : IsS112 w0 W g f0 f1) (hw : W.grownBy W1 row) (hne : some g ≠ row) : IsS112 w0 W1 g f0 f1 := by
 obtain ⟨hb, hg⟩ := h
 exact ⟨blk_grown hb hw hne, hg⟩
theorem IsS112.below {w0 W : World} {g : Nat} {f0 : ByteArray} {f1 : Int} {W1 : World} (h : IsS112 w0 W g f0 f1) (hw : Below W.heap.size W W1) : IsS112 w0 W1 g f0 f1 := h.grown (grown_of_below hw none) (by simp)
theorem IsS112.alloc {w0 W : World} {g : Nat} {f0 : ByteArray} {f1 : Int} (h : IsS112 w0 W g f0 f1) (o : Obj) : IsS112 w0 (W.alloc o) g f0 f1 := h.below (below_alloc (Below.refl _ _) o)
theorem IsS112.drewN {w0 W : World} {g : Nat} {f0 : ByteArray} {f1 : Int} (h : IsS112 w0 W g f0 f1) (m : Nat) : IsS112 w0 (W.drewN m) g f0 f1 := h
theorem IsS112.ge {w0 W : World} {g : Nat} {f0 : ByteArray} {f1 : Int} (h : IsS112 w0 W g f0 f1) : w0.heap.size ≤ g := by
 obtain ⟨hb, hg⟩ := h
 exact hg
theorem cellS112_0 {W : World} {g : Nat} {f0 : ByteArray} {f1 : Int} (h : W.heap[g]? = some (.cells #[.string f0, .int .i64 f1] 112 (0, 0))) : W.cell? ⟨g, 0, none⟩ = some (.string f0) := (blk_cell h 0).trans rfl
theorem cellS112_1 {W : World} {g : Nat} {f0 : ByteArray} {f1 : Int} (h : W.heap[g]? = some (.cells #[.string f0, .int .i64 f1] 112 (0, 0))) : W.cell? ⟨g, 1, none⟩ = some (.int .i64 f1) := (blk_cell h 1).trans rfl
theorem IsS112.set_1 {w0 W : World} {g : Nat} {f0 : ByteArray} {f1 : Int} (h : IsS112 w0 W g f0 f1) (x : Int) : IsS112 w0 (W.setCell ⟨g, 1, none⟩ (.int .i64 x)) g f0 x := by
 obtain ⟨hb, hg⟩ := h
 exact ⟨by simpa using blk_set hb 1 (.int .i64 x), hg⟩
def spec_reader_blanks.l0 : Nat → ByteArray → Int → Option (ByteArray × Int)
 | 0, _, _ => none
 | k + 1, x1000, x1001 => if x1001 < (x1000.size : Int) then (if 0 ≤ x1001 then ((spec_Blank.f (bt x1000 x1001)).bind fun t101 => (if t101 = true then (spec_reader_blanks.l0 k x1000 (wrap64 (x1001 + 1))) else (some (x1000, x1001)))) else (none)) else (some (x1000, x1001))
def spec_reader_blanks.f (k : Nat) (s0_0 : ByteArray) (s0_1 : Int) : Option (ByteArray × Int) := spec_reader_blanks.l0 k s0_0 s0_1
theorem spec_reader_blanks.calls (k : Nat) (g : Nat) (s0_0 : ByteArray) (s0_1 : Int) (r1 : ByteArray) (r2 : Int) (w0 w : World) (hI : IsS112 w0 w g s0_0 s0_1) (hB : Below w0.heap.size w0 w) (h : spec_reader_blanks.f k s0_0 s0_1 = some (r1, r2)) :
  Calls Tryz.prog 72 #[.pointer (some ⟨g, 0, none⟩)] w fun e w' => e = .returned (.tuple #[]) ∧ IsS112 w0 w' g r1 r2 ∧ Below w0.heap.size w0 w' ∧ KeepBut w w' g none := by
 have HI0 := Aside0.mk hI
 have HK := Aside0.mk (KeepBut.refl w g none)
 have HL := Aside0.mk hB.size
 have HW0 := Aside0.mk hB.size
 have HB := Aside0.mk hB
 have H : (spec_reader_blanks.l0 k s0_0 s0_1) = some (r1, r2) := h
 have H' := Aside0.mk H
 go_enter Tryz.func72, Tryz.ntmps72
 go_wp2
 repeat (go_quiet (fail); try go_wp2)
 go_loopg [] k (fun kq w' => ∃ (x1001_1 : Int), Aside0 (spec_reader_blanks.l0 kq s0_0 x1001_1 = some (r1, r2)) ∧ Aside0 (kq ≤ k) ∧ Aside0 (IsS112 w0 w' g s0_0 x1001_1) ∧ Aside0 (KeepBut w w' g none) ∧ Aside0 (Below w0.heap.size w0 w'))
 case atStart => exact ⟨(s0_1), H', ⟨Nat.le_refl _⟩, ⟨HI0.out⟩, ⟨HK.out⟩, ⟨HB.out⟩⟩
 obtain ⟨x1001_1, HA, HK1, HI0, HK, HB⟩ := hrel
 cases gk with
 | zero => exact absurd HA.out (by simp [spec_reader_blanks.l0])
 | succ k1 =>
  have H := HA.out
  simp only [spec_reader_blanks.l0] at H
  by_cases c2 : x1001_1 < (s0_0.size : Int)
  rotate_left
  ·rw [if_neg c2] at H
   have c2b0 : decide (x1001_1 < (s0_0.size : Int)) = false := decide_eq_false c2
   simp only [Option.some.injEq, Prod.mk.injEq] at H
   obtain ⟨rfl, rfl⟩ := H
   obtain ⟨HGz9, hgz9⟩ := HI0.out
   have hcz9_0 := cellS112_0 HGz9
   have hcz9_1 := cellS112_1 HGz9
   have hfz9_0 := blk_frozen HGz9 0
   have hfz9_1 := blk_frozen HGz9 1
   go_wp2
   repeat (go_quiet (fail); try go_wp2)
   first | go_end0 | ((try simp only [Exit.inBlock, Exit.then]); refine bodyPost_ret (results_none rfl _ _ _) rfl ?_)
   exact ⟨rfl, HI0.out, by repeat (first | (with_reducible first | exact HB.out | apply below_alloc | apply pw_below_drewN | apply below_drew1 | refine below_set ?_ (IsS112.ge HI0.out)) | exact HB.out), HK.out⟩
  rw [if_pos c2] at H
  have c2b0 : decide (x1001_1 < (s0_0.size : Int)) = true := decide_eq_true c2
  by_cases c3 : 0 ≤ x1001_1
  rotate_left
  ·rw [if_neg c3] at H
   cases H
  rw [if_pos c3] at H
  have c3b0 : decide (0 ≤ x1001_1) = true := decide_eq_true c3
  replace H := Option.bind_eq_some_iff.mp H
  obtain ⟨t101, A50, H⟩ := H
  have A5 := Aside0.mk A50
  by_cases c6 : t101 = true
  ·subst c6
   rw [if_pos rfl] at H
   have H' := Aside0.mk H
   obtain ⟨HGz7, hgz7⟩ := HI0.out
   have hcz7_0 := cellS112_0 HGz7
   have hcz7_1 := cellS112_1 HGz7
   have hfz7_0 := blk_frozen HGz7 0
   have hfz7_1 := blk_frozen HGz7 1
   have p4 : 0 ≤ (x1001_1 : Int) := of_decide_eq_true (by assumption)
   have q4 : x1001_1 < (s0_0.size : Int) := of_decide_eq_true (by assumption)
   have hx4 := bt_at s0_0 x1001_1
   go_wp2_with (first | (go_at_call 24; (with_reducible refine (spec_Blank.calls (bt s0_0 x1001_1) true _ A5.out).mono ?_); rintro e w' ⟨rfl, ⟨nd, rfl⟩⟩; (try first | exact ⟨rfl, _, World.drewN_drewN _ _ _⟩ | exact ⟨rfl, _, Eq.trans (World.drewN_drewN _ _ _) (congrArg (World.drewN _) (Nat.add_assoc _ _ _))⟩)))
   repeat (go_quiet (first | (go_at_call 24; (with_reducible refine (spec_Blank.calls (bt s0_0 x1001_1) true _ A5.out).mono ?_); rintro e w' ⟨rfl, ⟨nd, rfl⟩⟩; (try first | exact ⟨rfl, _, World.drewN_drewN _ _ _⟩ | exact ⟨rfl, _, Eq.trans (World.drewN_drewN _ _ _) (congrArg (World.drewN _) (Nat.add_assoc _ _ _))⟩))); try go_wp2_with (first | (go_at_call 24; (with_reducible refine (spec_Blank.calls (bt s0_0 x1001_1) true _ A5.out).mono ?_); rintro e w' ⟨rfl, ⟨nd, rfl⟩⟩; (try first | exact ⟨rfl, _, World.drewN_drewN _ _ _⟩ | exact ⟨rfl, _, Eq.trans (World.drewN_drewN _ _ _) (congrArg (World.drewN _) (Nat.add_assoc _ _ _))⟩))))
   go_roundg k1
   case measure => have := HK1.out; omega
   case rel => exact ⟨(wrap64 (x1001_1 + 1)), H', ⟨by have := HK1.out; omega⟩, ⟨by repeat (first | (with_reducible first | exact HI0.out | apply IsS112.alloc | apply IsS112.drewN | apply IsS112.set_1) | exact HI0.out)⟩, ⟨by repeat (first | (with_reducible first | exact HK.out | apply KeepBut.set_ | apply keep_drewN | apply keep_alloc) | exact HK.out)⟩, ⟨by repeat (first | (with_reducible first | exact HB.out | apply below_alloc | apply pw_below_drewN | apply below_drew1 | refine below_set ?_ (IsS112.ge HI0.out)) | exact HB.out)⟩⟩
  replace c6 := Bool.eq_false_iff.mpr c6
  subst c6
  rw [if_neg nofun] at H
  simp only [Option.some.injEq, Prod.mk.injEq] at H
  obtain ⟨rfl, rfl⟩ := H
  obtain ⟨HGz8, hgz8⟩ := HI0.out
  have hcz8_0 := cellS112_0 HGz8
  have hcz8_1 := cellS112_1 HGz8
  have hfz8_0 := blk_frozen HGz8 0
  have hfz8_1 := blk_frozen HGz8 1
  have p4 : 0 ≤ (x1001_1 : Int) := of_decide_eq_true (by assumption)
  have q4 : x1001_1 < (s0_0.size : Int) := of_decide_eq_true (by assumption)
  have hx4 := bt_at s0_0 x1001_1
  go_wp2_with (first | (go_at_call 24; (with_reducible refine (spec_Blank.calls (bt s0_0 x1001_1) false _ A5.out).mono ?_); rintro e w' ⟨rfl, ⟨nd, rfl⟩⟩; (try first | exact ⟨rfl, _, World.drewN_drewN _ _ _⟩ | exact ⟨rfl, _, Eq.trans (World.drewN_drewN _ _ _) (congrArg (World.drewN _) (Nat.add_assoc _ _ _))⟩)))
  repeat (go_quiet (first | (go_at_call 24; (with_reducible refine (spec_Blank.calls (bt s0_0 x1001_1) false _ A5.out).mono ?_); rintro e w' ⟨rfl, ⟨nd, rfl⟩⟩; (try first | exact ⟨rfl, _, World.drewN_drewN _ _ _⟩ | exact ⟨rfl, _, Eq.trans (World.drewN_drewN _ _ _) (congrArg (World.drewN _) (Nat.add_assoc _ _ _))⟩))); try go_wp2_with (first | (go_at_call 24; (with_reducible refine (spec_Blank.calls (bt s0_0 x1001_1) false _ A5.out).mono ?_); rintro e w' ⟨rfl, ⟨nd, rfl⟩⟩; (try first | exact ⟨rfl, _, World.drewN_drewN _ _ _⟩ | exact ⟨rfl, _, Eq.trans (World.drewN_drewN _ _ _) (congrArg (World.drewN _) (Nat.add_assoc _ _ _))⟩))))
  first | go_end0 | ((try simp only [Exit.inBlock, Exit.then]); refine bodyPost_ret (results_none rfl _ _ _) rfl ?_)
  exact ⟨rfl, HI0.out, by repeat (first | (with_reducible first | exact HB.out | apply below_alloc | apply pw_below_drewN | apply below_drew1 | refine below_set ?_ (IsS112.ge HI0.out)) | exact HB.out), HK.out⟩
def spec_reader_take.f (s0_0 : ByteArray) (s0_1 : Int) (a1 : Int) : Option (Bool × ByteArray × Int) := if s0_1 < (s0_0.size : Int) then (if 0 ≤ s0_1 then (if (bt s0_0 s0_1) = a1 then (some (true, s0_0, wrap64 (s0_1 + 1))) else (some (false, s0_0, s0_1))) else (none)) else (some (false, s0_0, s0_1))
theorem spec_reader_take.calls (g : Nat) (s0_0 : ByteArray) (s0_1 : Int) (a1 : Int) (r1 : Bool) (r2 : ByteArray) (r3 : Int) (w0 w : World) (hI : IsS112 w0 w g s0_0 s0_1) (hB : Below w0.heap.size w0 w) (h : spec_reader_take.f s0_0 s0_1 a1 = some (r1, r2, r3)) :
  Calls Tryz.prog 109 #[.pointer (some ⟨g, 0, none⟩), .int .u8 a1] w fun e w' => e = .returned (.bool r1) ∧ IsS112 w0 w' g r2 r3 ∧ Below w0.heap.size w0 w' ∧ KeepBut w w' g none := by
 have HI0 := Aside0.mk hI
 have HK := Aside0.mk (KeepBut.refl w g none)
 have HL := Aside0.mk hB.size
 have HW0 := Aside0.mk hB.size
 have HB := Aside0.mk hB
 have H : (if s0_1 < (s0_0.size : Int) then (if 0 ≤ s0_1 then (if (bt s0_0 s0_1) = a1 then (some (true, s0_0, wrap64 (s0_1 + 1))) else (some (false, s0_0, s0_1))) else (none)) else (some (false, s0_0, s0_1))) = some (r1, r2, r3) := h
 by_cases c3 : s0_1 < (s0_0.size : Int)
 rotate_left
 ·rw [if_neg c3] at H
  have c3b0 : decide (s0_1 < (s0_0.size : Int)) = false := decide_eq_false c3
  simp only [Option.some.injEq, Prod.mk.injEq] at H
  obtain ⟨rfl, rfl, rfl⟩ := H
  obtain ⟨HGz9, hgz9⟩ := HI0.out
  have hcz9_0 := cellS112_0 HGz9
  have hcz9_1 := cellS112_1 HGz9
  have hfz9_0 := blk_frozen HGz9 0
  have hfz9_1 := blk_frozen HGz9 1
  go_enter Tryz.func109, Tryz.ntmps109
  go_wp2
  repeat (go_quiet (fail); try go_wp2)
  go_ret
  exact ⟨rfl, HI0.out, by repeat (first | (with_reducible first | exact HB.out | apply below_alloc | apply pw_below_drewN | apply below_drew1 | refine below_set ?_ (IsS112.ge HI0.out)) | exact HB.out), HK.out⟩
 rw [if_pos c3] at H
 have c3b0 : decide (s0_1 < (s0_0.size : Int)) = true := decide_eq_true c3
 by_cases c4 : 0 ≤ s0_1
 rotate_left
 ·rw [if_neg c4] at H
  cases H
 rw [if_pos c4] at H
 have c4b0 : decide (0 ≤ s0_1) = true := decide_eq_true c4
 by_cases c6 : (bt s0_0 s0_1) = a1
 rotate_left
 ·rw [if_neg c6] at H
  have c6b0 : ((bt s0_0 s0_1) == a1) = false := beq_eq_false_iff_ne.mpr c6
  have c6b1 : ((bt s0_0 s0_1) != a1) = true := bne_iff_ne.mpr c6
  simp only [Option.some.injEq, Prod.mk.injEq] at H
  obtain ⟨rfl, rfl, rfl⟩ := H
  obtain ⟨HGz8, hgz8⟩ := HI0.out
  have hcz8_0 := cellS112_0 HGz8
  have hcz8_1 := cellS112_1 HGz8
  have hfz8_0 := blk_frozen HGz8 0
  have hfz8_1 := blk_frozen HGz8 1
  have p5 : 0 ≤ (s0_1 : Int) := of_decide_eq_true (by assumption)
  have q5 : s0_1 < (s0_0.size : Int) := of_decide_eq_true (by assumption)
  have hx5 := bt_at s0_0 s0_1
  go_enter Tryz.func109, Tryz.ntmps109
  go_wp2
  repeat (go_quiet (fail); try go_wp2)
  go_ret
  exact ⟨rfl, HI0.out, by repeat (first | (with_reducible first | exact HB.out | apply below_alloc | apply pw_below_drewN | apply below_drew1 | refine below_set ?_ (IsS112.ge HI0.out)) | exact HB.out), HK.out⟩
 rw [if_pos c6] at H
 have c6b0 : ((bt s0_0 s0_1) == a1) = true := beq_iff_eq.mpr c6
 have c6b1 : ((bt s0_0 s0_1) != a1) = false := bne_eq_false_iff_eq.mpr c6
 simp only [Option.some.injEq, Prod.mk.injEq] at H
 obtain ⟨rfl, rfl, rfl⟩ := H
 obtain ⟨HGz7, hgz7⟩ := HI0.out
 have hcz7_0 := cellS112_0 HGz7
 have hcz7_1 := cellS112_1 HGz7
 have hfz7_0 := blk_frozen HGz7 0
 have hfz7_1 := blk_frozen HGz7 1
 have p5 : 0 ≤ (s0_1 : Int) := of_decide_eq_true (by assumption)
 have q5 : s0_1 < (s0_0.size : Int) := of_decide_eq_true (by assumption)
 have hx5 := bt_at s0_0 s0_1
 go_enter Tryz.func109, Tryz.ntmps109
 go_wp2
 repeat (go_quiet (fail); try go_wp2)
 go_ret
 exact ⟨rfl, by repeat (first | (with_reducible first | exact HI0.out | apply IsS112.alloc | apply IsS112.drewN | apply IsS112.set_1) | exact HI0.out), by repeat (first | (with_reducible first | exact HB.out | apply below_alloc | apply pw_below_drewN | apply below_drew1 | refine below_set ?_ (IsS112.ge HI0.out)) | exact HB.out), by repeat (first | (with_reducible first | exact HK.out | apply KeepBut.set_ | apply keep_drewN | apply keep_alloc) | exact HK.out)⟩
def spec_reader_here.f (s0_0 : ByteArray) (s0_1 : Int) : Option (Int × ByteArray × Int) := if s0_1 < (s0_0.size : Int) then (if 0 ≤ s0_1 then (some (bt s0_0 s0_1, s0_0, s0_1)) else (none)) else (some (0, s0_0, s0_1))
theorem spec_reader_here.calls (g : Nat) (s0_0 : ByteArray) (s0_1 : Int) (r1 : Int) (r2 : ByteArray) (r3 : Int) (w0 w : World) (hI : IsS112 w0 w g s0_0 s0_1) (hB : Below w0.heap.size w0 w) (h : spec_reader_here.f s0_0 s0_1 = some (r1, r2, r3)) :
  Calls Tryz.prog 100 #[.pointer (some ⟨g, 0, none⟩)] w fun e w' => e = .returned (.int .u8 r1) ∧ IsS112 w0 w' g r2 r3 ∧ Below w0.heap.size w0 w' ∧ KeepBut w w' g none := by
 have HI0 := Aside0.mk hI
 have HK := Aside0.mk (KeepBut.refl w g none)
 have HL := Aside0.mk hB.size
 have HW0 := Aside0.mk hB.size
 have HB := Aside0.mk hB
 have H : (if s0_1 < (s0_0.size : Int) then (if 0 ≤ s0_1 then (some (bt s0_0 s0_1, s0_0, s0_1)) else (none)) else (some (0, s0_0, s0_1))) = some (r1, r2, r3) := h
 by_cases c2 : s0_1 < (s0_0.size : Int)
 rotate_left
 ·rw [if_neg c2] at H
  have c2b0 : decide (s0_1 < (s0_0.size : Int)) = false := decide_eq_false c2
  simp only [Option.some.injEq, Prod.mk.injEq] at H
  obtain ⟨rfl, rfl, rfl⟩ := H
  obtain ⟨HGz6, hgz6⟩ := HI0.out
  have hcz6_0 := cellS112_0 HGz6
  have hcz6_1 := cellS112_1 HGz6
  have hfz6_0 := blk_frozen HGz6 0
  have hfz6_1 := blk_frozen HGz6 1
  go_enter Tryz.func100, Tryz.ntmps100
  go_wp2
  repeat (go_quiet (fail); try go_wp2)
  go_ret
  exact ⟨rfl, HI0.out, by repeat (first | (with_reducible first | exact HB.out | apply below_alloc | apply pw_below_drewN | apply below_drew1 | refine below_set ?_ (IsS112.ge HI0.out)) | exact HB.out), HK.out⟩
 rw [if_pos c2] at H
 have c2b0 : decide (s0_1 < (s0_0.size : Int)) = true := decide_eq_true c2
 by_cases c3 : 0 ≤ s0_1
 rotate_left
 ·rw [if_neg c3] at H
  cases H
 rw [if_pos c3] at H
 have c3b0 : decide (0 ≤ s0_1) = true := decide_eq_true c3
 simp only [Option.some.injEq, Prod.mk.injEq] at H
 obtain ⟨rfl, rfl, rfl⟩ := H
 obtain ⟨HGz5, hgz5⟩ := HI0.out
 have hcz5_0 := cellS112_0 HGz5
 have hcz5_1 := cellS112_1 HGz5
 have hfz5_0 := blk_frozen HGz5 0
 have hfz5_1 := blk_frozen HGz5 1
 have p4 : 0 ≤ (s0_1 : Int) := of_decide_eq_true (by assumption)
 have q4 : s0_1 < (s0_0.size : Int) := of_decide_eq_true (by assumption)
 have hx4 := bt_at s0_0 s0_1
 go_enter Tryz.func100, Tryz.ntmps100
 go_wp2
 repeat (go_quiet (fail); try go_wp2)
 go_ret
 exact ⟨rfl, HI0.out, by repeat (first | (with_reducible first | exact HB.out | apply below_alloc | apply pw_below_drewN | apply below_drew1 | refine below_set ?_ (IsS112.ge HI0.out)) | exact HB.out), HK.out⟩
def spec_reader_digits.l0 : Nat → Int → Int → ByteArray → Int → Option (Bool × ByteArray × Int)
 | 0, _, _, _, _ => none
 | k + 1, x3, x4, x1000, x1001 => if 48 ≤ x4 then (if x4 ≤ 57 then ((spec_reader_here.f x1000 (wrap64 (x1001 + 1))).bind fun bt105 => (spec_reader_digits.l0 k x3 bt105.1 bt105.2.1 bt105.2.2)) else (some (decide (x1001 > x3), x1000, x1001))) else (some (decide (x1001 > x3), x1000, x1001))
def spec_reader_digits.f (k : Nat) (s0_0 : ByteArray) (s0_1 : Int) : Option (Bool × ByteArray × Int) := (spec_reader_here.f s0_0 s0_1).bind fun bt102 => (spec_reader_digits.l0 k s0_1 bt102.1 bt102.2.1 bt102.2.2)
theorem spec_reader_digits.calls (k : Nat) (g : Nat) (s0_0 : ByteArray) (s0_1 : Int) (r1 : Bool) (r2 : ByteArray) (r3 : Int) (w0 w : World) (hI : IsS112 w0 w g s0_0 s0_1) (hB : Below w0.heap.size w0 w) (h : spec_reader_digits.f k s0_0 s0_1 = some (r1, r2, r3)) :
  Calls Tryz.prog 110 #[.pointer (some ⟨g, 0, none⟩)] w fun e w' => e = .returned (.bool r1) ∧ IsS112 w0 w' g r2 r3 ∧ Below w0.heap.size w0 w' ∧ KeepBut w w' g none := by
 have HI0 := Aside0.mk hI
 have HK := Aside0.mk (KeepBut.refl w g none)
 have HL := Aside0.mk hB.size
 have HW0 := Aside0.mk hB.size
 have HB := Aside0.mk hB
 clear hB
 have H : ((spec_reader_here.f s0_0 s0_1).bind fun bt102 => (spec_reader_digits.l0 k s0_1 bt102.1 bt102.2.1 bt102.2.2)) = some (r1, r2, r3) := h
 clear h
 replace H := Option.bind_eq_some_iff.mp H
 obtain ⟨⟨t102, t103, t104⟩, A20, H⟩ := H
 have A2 := Aside0.mk A20
 clear A20
 have H' := Aside0.mk H
 clear H
 obtain ⟨HGz3, hgz3⟩ := HI0.out
 have hcz3_0 := cellS112_0 HGz3
 have hcz3_1 := cellS112_1 HGz3
 have hfz3_0 := blk_frozen HGz3 0
 have hfz3_1 := blk_frozen HGz3 1
 clear HGz3 hgz3
 go_enter Tryz.func110, Tryz.ntmps110
 go_wp2_with (first | (go_at_call 100; (with_reducible refine (spec_reader_here.calls g s0_0 s0_1 t102 t103 t104 w0 _ ?side1 ?side2 A2.out).mono ?_); (case side1 => exact HI0.out); (case side2 => exact HB.out); rintro e w4 ⟨rfl, hi, hb, hk⟩; replace HK := Aside0.mk (KeepBut.trans (HK.out) hk (.inl rfl)); replace HB := Aside0.mk (hb); replace HI0 := Aside0.mk (hi); clear hi hb hk))
 go_loopg [4] k (fun kq v4 w' => ∃ (x4_1 : Int) (x1000_1 : ByteArray) (x1001_1 : Int), v4 = .int .u8 x4_1 ∧ Aside0 (spec_reader_digits.l0 kq s0_1 x4_1 x1000_1 x1001_1 = some (r1, r2, r3)) ∧ Aside0 (kq ≤ k) ∧ Aside0 (IsS112 w0 w' g x1000_1 x1001_1) ∧ Aside0 (KeepBut w w' g none) ∧ Aside0 (Below w0.heap.size w0 w'))
 case atStart => exact ⟨(t102), (t103), (t104), rfl, H', ⟨Nat.le_refl _⟩, ⟨HI0.out⟩, ⟨HK.out⟩, ⟨HB.out⟩⟩
 clear H'
 try clear hfz3_1
 obtain ⟨x4_1, x1000_1, x1001_1, rfl, HA, HK1, HI0, HK, HB⟩ := hrel
 cases gk with
 | zero => exact absurd HA.out (by simp [spec_reader_digits.l0])
 | succ k1 =>
  have H := HA.out
  clear HA
  simp only [spec_reader_digits.l0] at H
  by_cases c5 : 48 ≤ x4_1
  rotate_left
  ·rw [if_neg c5] at H
   have c5b0 : decide (48 ≤ x4_1) = false := decide_eq_false c5
   simp only [Option.some.injEq, Prod.mk.injEq] at H
   obtain ⟨rfl, rfl, rfl⟩ := H
   obtain ⟨HGz11, hgz11⟩ := HI0.out
   have hcz11_0 := cellS112_0 HGz11
   have hcz11_1 := cellS112_1 HGz11
   have hfz11_0 := blk_frozen HGz11 0
   have hfz11_1 := blk_frozen HGz11 1
   go_wp2
   go_ret
   exact ⟨rfl, HI0.out, HB.out, HK.out⟩
  rw [if_pos c5] at H
  have c5b0 : decide (48 ≤ x4_1) = true := decide_eq_true c5
  clear c5
  by_cases c6 : x4_1 ≤ 57
  rotate_left
  ·rw [if_neg c6] at H
   have c6b0 : decide (x4_1 ≤ 57) = false := decide_eq_false c6
   simp only [Option.some.injEq, Prod.mk.injEq] at H
   obtain ⟨rfl, rfl, rfl⟩ := H
   obtain ⟨HGz10, hgz10⟩ := HI0.out
   have hcz10_0 := cellS112_0 HGz10
   have hcz10_1 := cellS112_1 HGz10
   have hfz10_0 := blk_frozen HGz10 0
   have hfz10_1 := blk_frozen HGz10 1
   go_wp2
   go_ret
   exact ⟨rfl, HI0.out, HB.out, HK.out⟩
  rw [if_pos c6] at H
  have c6b0 : decide (x4_1 ≤ 57) = true := decide_eq_true c6
  clear c6
  replace H := Option.bind_eq_some_iff.mp H
  obtain ⟨⟨t105, t106, t107⟩, A70, H⟩ := H
  try dsimp only at H
  have A7 := Aside0.mk A70
  clear A70
  have H' := Aside0.mk H
  clear H
  obtain ⟨HGz8, hgz8⟩ := HI0.out
  have hcz8_0 := cellS112_0 HGz8
  have hcz8_1 := cellS112_1 HGz8
  have hfz8_0 := blk_frozen HGz8 0
  have hfz8_1 := blk_frozen HGz8 1
  clear HGz8 hgz8
  go_wp2_with (first | (go_at_call 100; (with_reducible refine (spec_reader_here.calls g x1000_1 (wrap64 (x1001_1 + 1)) t105 t106 t107 w0 _ ?side1 ?side2 A7.out).mono ?_); (case side1 => repeat (first | (with_reducible first | exact HI0.out | apply IsS112.alloc | apply IsS112.drewN | apply IsS112.set_1) | exact HI0.out)); (case side2 => repeat (first | (with_reducible first | exact HB.out | apply below_alloc | apply pw_below_drewN | apply below_drew1 | refine below_set ?_ (IsS112.ge HI0.out)) | exact HB.out)); rintro e w9 ⟨rfl, hi, hb, hk⟩; replace HK := Aside0.mk (KeepBut.trans (by repeat (first | (with_reducible first | exact HK.out | apply KeepBut.set_ | apply keep_drewN | apply keep_alloc) | exact HK.out)) hk (.inl rfl)); replace HB := Aside0.mk (hb); replace HI0 := Aside0.mk (hi); clear hi hb hk))
  go_roundg k1
  case measure => have := HK1.out; omega
  case rel => exact ⟨(t105), (t106), (t107), rfl, H', ⟨by have := HK1.out; omega⟩, ⟨HI0.out⟩, ⟨HK.out⟩, ⟨HB.out⟩⟩
theorem iA : type_of% @IsS112.alloc := @IsS112.alloc
theorem iN : type_of% @IsS112.drewN := @IsS112.drewN
theorem i1 : type_of% @IsS112.set_1 := @IsS112.set_1
theorem kS : type_of% @KeepBut.set_ := @KeepBut.set_
theorem kN : type_of% @keep_drewN := @keep_drewN
theorem kA : type_of% @keep_alloc := @keep_alloc
theorem bA : type_of% @below_alloc := @below_alloc
theorem bN : type_of% @pw_below_drewN := @pw_below_drewN
theorem bD : type_of% @below_drew1 := @below_drew1
theorem lD : type_of% @blk_drew := @blk_drew
theorem rA : type_of% @Kd.R_alloc := @Kd.R_alloc
theorem rN : type_of% @Kd.R_drewN := @Kd.R_drewN
set_option maxHeartbeats 8000000
set_option maxRecDepth 100000
mutual
def spec_reader_number.j0 : Nat → Bool → ByteArray → Int → Option (Bool × ByteArray × Int)
 | 0, _, _, _ => none
 | k + 1, x12, x1000, x1001 => if x12 = true then (some (false, x1000, x1001)) else ((spec_reader_take.f x1000 x1001 46).bind fun bt117 => (if bt117.1 = true then ((spec_reader_digits.f k bt117.2.1 bt117.2.2).bind fun bt120 => (spec_reader_number.j1 k (!bt120.1) bt120.2.1 bt120.2.2)) else (spec_reader_number.j1 k false bt117.2.1 bt117.2.2)))
def spec_reader_number.j1 : Nat → Bool → ByteArray → Int → Option (Bool × ByteArray × Int)
 | 0, _, _, _ => none
 | k + 1, x19, x1000, x1001 => if x19 = true then (some (false, x1000, x1001)) else ((spec_reader_take.f x1000 x1001 101).bind fun bt123 => (if bt123.1 = true then (spec_reader_number.j2 k true bt123.2.1 bt123.2.2) else ((spec_reader_take.f bt123.2.1 bt123.2.2 69).bind fun bt126 => (spec_reader_number.j2 k bt126.1 bt126.2.1 bt126.2.2))))
def spec_reader_number.j2 : Nat → Bool → ByteArray → Int → Option (Bool × ByteArray × Int)
 | 0, _, _, _ => none
 | k + 1, x25, x1000, x1001 => if x25 = true then ((spec_reader_take.f x1000 x1001 43).bind fun bt129 => (if bt129.1 = true then ((spec_reader_digits.f k bt129.2.1 bt129.2.2).bind fun bt132 => (some (bt132.1, bt132.2.1, bt132.2.2))) else ((spec_reader_take.f bt129.2.1 bt129.2.2 45).bind fun bt135 => ((spec_reader_digits.f k bt135.2.1 bt135.2.2).bind fun bt138 => (some (bt138.1, bt138.2.1, bt138.2.2)))))) else (some (true, x1000, x1001))
end
def spec_reader_number.f (k : Nat) (s0_0 : ByteArray) (s0_1 : Int) : Option (Bool × ByteArray × Int) := (spec_reader_take.f s0_0 s0_1 45).bind fun bt108 => ((spec_reader_take.f bt108.2.1 bt108.2.2 48).bind fun bt111 => (if bt111.1 = true then (spec_reader_number.j0 k false bt111.2.1 bt111.2.2) else ((spec_reader_digits.f k bt111.2.1 bt111.2.2).bind fun bt114 => (spec_reader_number.j0 k (!bt114.1) bt114.2.1 bt114.2.2))))
theorem spec_reader_number.calls (k : Nat) (g : Nat) (s0_0 : ByteArray) (s0_1 : Int) (r1 : Bool) (r2 : ByteArray) (r3 : Int) (w0 w : World) (hI : IsS112 w0 w g s0_0 s0_1) (hB : Below w0.heap.size w0 w) (h : spec_reader_number.f k s0_0 s0_1 = some (r1, r2, r3)) :
  Calls Tryz.prog 78 #[.pointer (some ⟨g, 0, none⟩)] w fun e w' => e = .returned (.bool r1) ∧ IsS112 w0 w' g r2 r3 ∧ Below w0.heap.size w0 w' ∧ KeepBut w w' g none := by
 have HI0 := Aside0.mk hI
 have HK := Aside0.mk (KeepBut.refl w g none)
 have HL := Aside0.mk hB.size
 have HW0 := Aside0.mk hB.size
 have HB := Aside0.mk hB
 have H : ((spec_reader_take.f s0_0 s0_1 45).bind fun bt108 => ((spec_reader_take.f bt108.2.1 bt108.2.2 48).bind fun bt111 => (if bt111.1 = true then (spec_reader_number.j0 k false bt111.2.1 bt111.2.2) else ((spec_reader_digits.f k bt111.2.1 bt111.2.2).bind fun bt114 => (spec_reader_number.j0 k (!bt114.1) bt114.2.1 bt114.2.2))))) = some (r1, r2, r3) := h
 replace H := Option.bind_eq_some_iff.mp H
 obtain ⟨⟨t108, t109, t110⟩, A20, H⟩ := H
 have A2 := Aside0.mk A20
 have HC3 := Aside0.mk H
 go_enter Tryz.func78, Tryz.ntmps78
 go_upto_region 2 with (first | (go_at_call 109; (with_reducible refine (spec_reader_take.calls g s0_0 s0_1 45 t108 t109 t110 w0 _ HI0.out HB.out A2.out).mono ?_); rintro e w4 ⟨rfl, hi, hb, hk⟩; replace HK := Aside0.mk (KeepBut.trans (HK.out) hk (.inl rfl)); replace HB := Aside0.mk (hb); replace HI0 := Aside0.mk (hi); clear hi hb hk))
 (try simp only [aP, aN, sT, sZ, sS])
 go_cut [12] (fun v12 wc => ∃ (kq : Nat) (x12_2 : Bool) (x1000_2 : ByteArray) (x1001_2 : Int), v12 = .bool x12_2 ∧ Aside0 (spec_reader_number.j0 kq x12_2 x1000_2 x1001_2 = some (r1, r2, r3)) ∧ Aside0 (kq ≤ k) ∧ Aside0 (IsS112 w0 wc g x1000_2 x1001_2) ∧ Aside0 (KeepBut w wc g none) ∧ Aside0 (Below w0.heap.size w0 wc))
 case first =>
  have H := HC3.out
  replace H := Option.bind_eq_some_iff.mp H
  obtain ⟨⟨t111, t112, t113⟩, A50, H⟩ := H
  have A5 := Aside0.mk A50
  by_cases c6 : t111 = true
  ·subst c6
   rw [if_pos rfl] at H
   have H' := Aside0.mk H
   go_wp2_with (first | (go_at_call 109; (with_reducible refine (spec_reader_take.calls g t109 t110 48 true t112 t113 w0 _ HI0.out HB.out A5.out).mono ?_); rintro e w7 ⟨rfl, hi, hb, hk⟩; replace HK := Aside0.mk (KeepBut.trans (HK.out) hk (.inl rfl)); replace HB := Aside0.mk (hb); replace HI0 := Aside0.mk (hi); clear hi hb hk))
   go_meet
   case rel => exact ⟨_, (false), (t112), (t113), rfl, H', ⟨by omega⟩, ⟨HI0.out⟩, ⟨HK.out⟩, ⟨HB.out⟩⟩
  replace c6 := Bool.eq_false_iff.mpr c6
  subst c6
  rw [if_neg nofun] at H
  replace H := Option.bind_eq_some_iff.mp H
  obtain ⟨⟨t114, t115, t116⟩, A80, H⟩ := H
  have A8 := Aside0.mk A80
  have H' := Aside0.mk H
  go_wp2_with (first | (go_at_call 109; (with_reducible refine (spec_reader_take.calls g t109 t110 48 false t112 t113 w0 _ HI0.out HB.out A5.out).mono ?_); rintro e w9 ⟨rfl, hi, hb, hk⟩; replace HK := Aside0.mk (KeepBut.trans (HK.out) hk (.inl rfl)); replace HB := Aside0.mk (hb); replace HI0 := Aside0.mk (hi); clear hi hb hk) | (go_at_call 110; (with_reducible refine (spec_reader_digits.calls k g t112 t113 t114 t115 t116 w0 _ HI0.out HB.out A8.out).mono ?_); rintro e w10 ⟨rfl, hi, hb, hk⟩; replace HK := Aside0.mk (KeepBut.trans (HK.out) hk (.inl rfl)); replace HB := Aside0.mk (hb); replace HI0 := Aside0.mk (hi); clear hi hb hk))
  go_meet
  case rel => exact ⟨_, (!t114), (t115), (t116), rfl, H', ⟨by omega⟩, ⟨HI0.out⟩, ⟨HK.out⟩, ⟨HB.out⟩⟩
 obtain ⟨kq, x12_2, x1000_2, x1001_2, rfl, HA, HJ2, HI0, HK, HB⟩ := hcut
 cases kq with
 | zero => exact absurd HA.out (by simp [spec_reader_number.j0])
 | succ kj2 =>
  have H := HA.out
  simp only [spec_reader_number.j0] at H
  by_cases c11 : x12_2 = true
  ·subst c11
   rw [if_pos rfl] at H
   simp only [Option.some.injEq, Prod.mk.injEq] at H
   obtain ⟨rfl, rfl, rfl⟩ := H
   go_wp2
   go_ret
   exact ⟨rfl, HI0.out, HB.out, HK.out⟩
  replace c11 := Bool.eq_false_iff.mpr c11
  subst c11
  rw [if_neg nofun] at H
  have HC12 := Aside0.mk H
  go_upto_region 4 with (fail)
  go_cut [19] (fun v19 wc => ∃ (kq : Nat) (x19_11 : Bool) (x1000_11 : ByteArray) (x1001_11 : Int), v19 = .bool x19_11 ∧ Aside0 (spec_reader_number.j1 kq x19_11 x1000_11 x1001_11 = some (r1, r2, r3)) ∧ Aside0 (kq ≤ kj2) ∧ Aside0 (IsS112 w0 wc g x1000_11 x1001_11) ∧ Aside0 (KeepBut w wc g none) ∧ Aside0 (Below w0.heap.size w0 wc))
  case first =>
   have H := HC12.out
   replace H := Option.bind_eq_some_iff.mp H
   obtain ⟨⟨t117, t118, t119⟩, A130, H⟩ := H
   have A13 := Aside0.mk A130
   by_cases c14 : t117 = true
   rotate_left
   ·replace c14 := Bool.eq_false_iff.mpr c14
    subst c14
    rw [if_neg nofun] at H
    have H' := Aside0.mk H
    go_wp2_with (first | (go_at_call 109; (with_reducible refine (spec_reader_take.calls g x1000_2 x1001_2 46 false t118 t119 w0 _ HI0.out HB.out A13.out).mono ?_); rintro e w18 ⟨rfl, hi, hb, hk⟩; replace HK := Aside0.mk (KeepBut.trans (HK.out) hk (.inl rfl)); replace HB := Aside0.mk (hb); replace HI0 := Aside0.mk (hi); clear hi hb hk))
    go_meet
    case rel => exact ⟨_, (false), (t118), (t119), rfl, H', ⟨by have := HJ2.out; first | omega | exact Nat.le_refl _⟩, ⟨HI0.out⟩, ⟨HK.out⟩, ⟨HB.out⟩⟩
   subst c14
   rw [if_pos rfl] at H
   replace H := Option.bind_eq_some_iff.mp H
   obtain ⟨⟨t120, t121, t122⟩, A150, H⟩ := H
   have A15 := Aside0.mk A150
   have H' := Aside0.mk H
   go_wp2_with (first | (go_at_call 109; (with_reducible refine (spec_reader_take.calls g x1000_2 x1001_2 46 true t118 t119 w0 _ HI0.out HB.out A13.out).mono ?_); rintro e w16 ⟨rfl, hi, hb, hk⟩; replace HK := Aside0.mk (KeepBut.trans (HK.out) hk (.inl rfl)); replace HB := Aside0.mk (hb); replace HI0 := Aside0.mk (hi); clear hi hb hk) | (go_at_call 110; (with_reducible refine (spec_reader_digits.calls kj2 g t118 t119 t120 t121 t122 w0 _ HI0.out HB.out A15.out).mono ?_); rintro e w17 ⟨rfl, hi, hb, hk⟩; replace HK := Aside0.mk (KeepBut.trans (HK.out) hk (.inl rfl)); replace HB := Aside0.mk (hb); replace HI0 := Aside0.mk (hi); clear hi hb hk))
   go_meet
   case rel => exact ⟨_, (!t120), (t121), (t122), rfl, H', ⟨by have := HJ2.out; first | omega | exact Nat.le_refl _⟩, ⟨HI0.out⟩, ⟨HK.out⟩, ⟨HB.out⟩⟩
  obtain ⟨kq, x19_11, x1000_11, x1001_11, rfl, HA, HJ11, HI0, HK, HB⟩ := hcut
  cases kq with
  | zero => exact absurd HA.out (by simp [spec_reader_number.j1])
  | succ kj11 =>
   have H := HA.out
   simp only [spec_reader_number.j1] at H
   by_cases c19 : x19_11 = true
   ·subst c19
    rw [if_pos rfl] at H
    simp only [Option.some.injEq, Prod.mk.injEq] at H
    obtain ⟨rfl, rfl, rfl⟩ := H
    go_wp2
    go_ret
    exact ⟨rfl, HI0.out, HB.out, HK.out⟩
   replace c19 := Bool.eq_false_iff.mpr c19
   subst c19
   rw [if_neg nofun] at H
   have HC20 := Aside0.mk H
   go_upto_region 6 with (fail)
   go_cut [25] (fun v25 wc => ∃ (kq : Nat) (x25_19 : Bool) (x1000_19 : ByteArray) (x1001_19 : Int), v25 = .bool x25_19 ∧ Aside0 (spec_reader_number.j2 kq x25_19 x1000_19 x1001_19 = some (r1, r2, r3)) ∧ Aside0 (kq ≤ kj11) ∧ Aside0 (IsS112 w0 wc g x1000_19 x1001_19) ∧ Aside0 (KeepBut w wc g none) ∧ Aside0 (Below w0.heap.size w0 wc))
   case first =>
    have H := HC20.out
    replace H := Option.bind_eq_some_iff.mp H
    obtain ⟨⟨t123, t124, t125⟩, A210, H⟩ := H
    have A21 := Aside0.mk A210
    by_cases c22 : t123 = true
    ·subst c22
     rw [if_pos rfl] at H
     have H' := Aside0.mk H
     go_wp2_with (first | (go_at_call 109; (with_reducible refine (spec_reader_take.calls g x1000_11 x1001_11 101 true t124 t125 w0 _ HI0.out HB.out A21.out).mono ?_); rintro e w23 ⟨rfl, hi, hb, hk⟩; replace HK := Aside0.mk (KeepBut.trans (HK.out) hk (.inl rfl)); replace HB := Aside0.mk (hb); replace HI0 := Aside0.mk (hi); clear hi hb hk))
     go_meet
     case rel => exact ⟨_, (true), (t124), (t125), rfl, H', ⟨by have := HJ2.out; have := HJ11.out; first | omega | exact Nat.le_refl _⟩, ⟨HI0.out⟩, ⟨HK.out⟩, ⟨HB.out⟩⟩
    replace c22 := Bool.eq_false_iff.mpr c22
    subst c22
    rw [if_neg nofun] at H
    replace H := Option.bind_eq_some_iff.mp H
    obtain ⟨⟨t126, t127, t128⟩, A240, H⟩ := H
    have A24 := Aside0.mk A240
    have H' := Aside0.mk H
    go_wp2_with (first | (go_at_call 109; (with_reducible refine (spec_reader_take.calls g x1000_11 x1001_11 101 false t124 t125 w0 _ HI0.out HB.out A21.out).mono ?_); rintro e w25 ⟨rfl, hi, hb, hk⟩; replace HK := Aside0.mk (KeepBut.trans (HK.out) hk (.inl rfl)); replace HB := Aside0.mk (hb); replace HI0 := Aside0.mk (hi); clear hi hb hk) | (go_at_call 109; (with_reducible refine (spec_reader_take.calls g t124 t125 69 t126 t127 t128 w0 _ HI0.out HB.out A24.out).mono ?_); rintro e w26 ⟨rfl, hi, hb, hk⟩; replace HK := Aside0.mk (KeepBut.trans (HK.out) hk (.inl rfl)); replace HB := Aside0.mk (hb); replace HI0 := Aside0.mk (hi); clear hi hb hk))
    go_meet
    case rel => exact ⟨_, (t126), (t127), (t128), rfl, H', ⟨by have := HJ2.out; have := HJ11.out; first | omega | exact Nat.le_refl _⟩, ⟨HI0.out⟩, ⟨HK.out⟩, ⟨HB.out⟩⟩
   obtain ⟨kq, x25_19, x1000_19, x1001_19, rfl, HA, HJ19, HI0, HK, HB⟩ := hcut
   cases kq with
   | zero => exact absurd HA.out (by simp [spec_reader_number.j2])
   | succ kj19 =>
    have H := HA.out
    simp only [spec_reader_number.j2] at H
    by_cases c27 : x25_19 = true
    rotate_left
    ·replace c27 := Bool.eq_false_iff.mpr c27
     subst c27
     rw [if_neg nofun] at H
     simp only [Option.some.injEq, Prod.mk.injEq] at H
     obtain ⟨rfl, rfl, rfl⟩ := H
     go_wp2
     go_ret
     exact ⟨rfl, HI0.out, HB.out, HK.out⟩
    subst c27
    rw [if_pos rfl] at H
    replace H := Option.bind_eq_some_iff.mp H
    obtain ⟨⟨t129, t130, t131⟩, A280, H⟩ := H
    have A28 := Aside0.mk A280
    by_cases c29 : t129 = true
    ·subst c29
     rw [if_pos rfl] at H
     replace H := Option.bind_eq_some_iff.mp H
     obtain ⟨⟨t132, t133, t134⟩, A300, H⟩ := H
     have A30 := Aside0.mk A300
     simp only [Option.some.injEq, Prod.mk.injEq] at H
     obtain ⟨rfl, rfl, rfl⟩ := H
     go_wp2_with (first | (go_at_call 109; (with_reducible refine (spec_reader_take.calls g x1000_19 x1001_19 43 true t130 t131 w0 _ HI0.out HB.out A28.out).mono ?_); rintro e w31 ⟨rfl, hi, hb, hk⟩; replace HK := Aside0.mk (KeepBut.trans (HK.out) hk (.inl rfl)); replace HB := Aside0.mk (hb); replace HI0 := Aside0.mk (hi); clear hi hb hk) | (go_at_call 110; (with_reducible refine (spec_reader_digits.calls kj19 g t130 t131 t132 t133 t134 w0 _ HI0.out HB.out A30.out).mono ?_); rintro e w32 ⟨rfl, hi, hb, hk⟩; replace HK := Aside0.mk (KeepBut.trans (HK.out) hk (.inl rfl)); replace HB := Aside0.mk (hb); replace HI0 := Aside0.mk (hi); clear hi hb hk))
     go_ret
     exact ⟨rfl, HI0.out, HB.out, HK.out⟩
    replace c29 := Bool.eq_false_iff.mpr c29
    subst c29
    rw [if_neg nofun] at H
    replace H := Option.bind_eq_some_iff.mp H
    obtain ⟨⟨t135, t136, t137⟩, A330, H⟩ := H
    have A33 := Aside0.mk A330
    replace H := Option.bind_eq_some_iff.mp H
    obtain ⟨⟨t138, t139, t140⟩, A340, H⟩ := H
    have A34 := Aside0.mk A340
    simp only [Option.some.injEq, Prod.mk.injEq] at H
    obtain ⟨rfl, rfl, rfl⟩ := H
    go_wp2_with (first | (go_at_call 109; (with_reducible refine (spec_reader_take.calls g x1000_19 x1001_19 43 false t130 t131 w0 _ HI0.out HB.out A28.out).mono ?_); rintro e w35 ⟨rfl, hi, hb, hk⟩; replace HK := Aside0.mk (KeepBut.trans (HK.out) hk (.inl rfl)); replace HB := Aside0.mk (hb); replace HI0 := Aside0.mk (hi); clear hi hb hk) | (go_at_call 109; (with_reducible refine (spec_reader_take.calls g t130 t131 45 t135 t136 t137 w0 _ HI0.out HB.out A33.out).mono ?_); rintro e w36 ⟨rfl, hi, hb, hk⟩; replace HK := Aside0.mk (KeepBut.trans (HK.out) hk (.inl rfl)); replace HB := Aside0.mk (hb); replace HI0 := Aside0.mk (hi); clear hi hb hk) | (go_at_call 110; (with_reducible refine (spec_reader_digits.calls kj19 g t136 t137 t138 t139 t140 w0 _ HI0.out HB.out A34.out).mono ?_); rintro e w37 ⟨rfl, hi, hb, hk⟩; replace HK := Aside0.mk (KeepBut.trans (HK.out) hk (.inl rfl)); replace HB := Aside0.mk (hb); replace HI0 := Aside0.mk (hi); clear hi hb hk))
    go_ret
    exact ⟨rfl, HI0.out, HB.out, HK.out⟩
mutual
def spec_hexDigit.j0 : Nat → Int → Bool → Option (Int × Bool)
 | 0, _, _ => none
 | k + 1, x0, x4 => if x4 = true then (some ((x0 - 48) % 256, true)) else (if 97 ≤ x0 then (spec_hexDigit.j1 k x0 (decide (x0 ≤ 102))) else (spec_hexDigit.j1 k x0 false))
def spec_hexDigit.j1 : Nat → Int → Bool → Option (Int × Bool)
 | 0, _, _ => none
 | k + 1, x0, x14 => if x14 = true then (some (((x0 - 97) % 256) + 10, true)) else (if 65 ≤ x0 then (if x0 ≤ 70 then (some (((x0 - 65) % 256) + 10, true)) else (some (0, false))) else (some (0, false)))
end
def spec_hexDigit.f (k : Nat) (a0 : Int) : Option (Int × Bool) := if 48 ≤ a0 then (spec_hexDigit.j0 k a0 (decide (a0 ≤ 57))) else (spec_hexDigit.j0 k a0 false)
theorem spec_hexDigit.calls (k : Nat) (a0 : Int) (r1 : Int) (r2 : Bool) (w : World) (h : spec_hexDigit.f k a0 = some (r1, r2)) :
  Calls Tryz.prog 87 #[.int .u8 a0] w fun e w' => e = .returned (.tuple #[.int .i64 r1, .bool r2]) ∧ Drawn0 w w' := by
 have H : (if 48 ≤ a0 then (spec_hexDigit.j0 k a0 (decide (a0 ≤ 57))) else (spec_hexDigit.j0 k a0 false)) = some (r1, r2) := h
 have HC2 := Aside0.mk H
 go_enter Tryz.func87, Tryz.ntmps87
 go_upto_region 1 with (fail)
 go_cut [4] (fun v4 wc => ∃ (kq : Nat) (x4_1 : Bool), v4 = .bool x4_1 ∧ Aside0 (spec_hexDigit.j0 kq a0 x4_1 = some (r1, r2)) ∧ Aside0 (kq ≤ k) ∧ Drawn0 w wc)
 case first =>
  have H := HC2.out
  by_cases c3 : 48 ≤ a0
  rotate_left
  ·rw [if_neg c3] at H
   have c3b0 : decide (48 ≤ a0) = false := decide_eq_false c3
   (first | rw [c3b0] | (simp only [i64_w, i32_w]; rw [c3b0]) | skip)
   have H' := Aside0.mk H
   go_wp2
   go_meet
   case rel => exact ⟨_, (false), rfl, H', ⟨by omega⟩, by repeat (first | exact Drawn0.refl _ | apply Drawn0.step)⟩
  rw [if_pos c3] at H
  have c3b0 : decide (48 ≤ a0) = true := decide_eq_true c3
  (first | rw [c3b0] | (simp only [i64_w, i32_w]; rw [c3b0]) | skip)
  have H' := Aside0.mk H
  go_wp2
  go_meet
  case rel => exact ⟨_, (decide (a0 ≤ 57)), rfl, H', ⟨by omega⟩, by repeat (first | exact Drawn0.refl _ | apply Drawn0.step)⟩
 obtain ⟨kq, x4_1, rfl, HA, HJ1, ⟨mc1, rfl⟩⟩ := hcut
 cases kq with
 | zero => exact absurd HA.out (by simp [spec_hexDigit.j0])
 | succ kj1 =>
  have H := HA.out
  simp only [spec_hexDigit.j0] at H
  by_cases c4 : x4_1 = true
  ·subst c4
   rw [if_pos rfl] at H
   simp only [Option.some.injEq, Prod.mk.injEq] at H
   obtain ⟨rfl, rfl⟩ := H
   go_wp2
   go_ret2
   exact ⟨by first | rfl | (simp; done) | (simp [*]; done), by repeat (first | exact Drawn0.refl _ | apply Drawn0.step)⟩
  replace c4 := Bool.eq_false_iff.mpr c4
  subst c4
  rw [if_neg nofun] at H
  have HC5 := Aside0.mk H
  go_upto_region 3 with (fail)
  go_cut [14] (fun v14 wc => ∃ (kq : Nat) (x14_4 : Bool), v14 = .bool x14_4 ∧ Aside0 (spec_hexDigit.j1 kq a0 x14_4 = some (r1, r2)) ∧ Aside0 (kq ≤ kj1) ∧ Drawn0 w wc)
  case first =>
   have H := HC5.out
   by_cases c6 : 97 ≤ a0
   rotate_left
   ·rw [if_neg c6] at H
    have c6b0 : decide (97 ≤ a0) = false := decide_eq_false c6
    (first | rw [c6b0] | (simp only [i64_w, i32_w]; rw [c6b0]) | skip)
    have H' := Aside0.mk H
    go_wp2
    go_meet
    case rel => exact ⟨_, (false), rfl, H', ⟨by have := HJ1.out; first | omega | exact Nat.le_refl _⟩, by repeat (first | exact Drawn0.refl _ | apply Drawn0.step)⟩
   rw [if_pos c6] at H
   have c6b0 : decide (97 ≤ a0) = true := decide_eq_true c6
   (first | rw [c6b0] | (simp only [i64_w, i32_w]; rw [c6b0]) | skip)
   have H' := Aside0.mk H
   go_wp2
   go_meet
   case rel => exact ⟨_, (decide (a0 ≤ 102)), rfl, H', ⟨by have := HJ1.out; first | omega | exact Nat.le_refl _⟩, by repeat (first | exact Drawn0.refl _ | apply Drawn0.step)⟩
  obtain ⟨kq, x14_4, rfl, HA, HJ4, ⟨mc4, rfl⟩⟩ := hcut
  cases kq with
  | zero => exact absurd HA.out (by simp [spec_hexDigit.j1])
  | succ kj4 =>
   have H := HA.out
   simp only [spec_hexDigit.j1] at H
   by_cases c7 : x14_4 = true
   ·subst c7
    rw [if_pos rfl] at H
    simp only [Option.some.injEq, Prod.mk.injEq] at H
    obtain ⟨rfl, rfl⟩ := H
    go_wp2
    go_ret2
    exact ⟨by first | rfl | (simp; done) | (simp [*]; done), by repeat (first | exact Drawn0.refl _ | apply Drawn0.step)⟩
   replace c7 := Bool.eq_false_iff.mpr c7
   subst c7
   rw [if_neg (show ¬ (false = true) by decide)] at H
   by_cases c8 : 65 ≤ a0
   rotate_left
   ·rw [if_neg c8] at H
    have c8b0 : decide (65 ≤ a0) = false := decide_eq_false c8
    simp only [Option.some.injEq, Prod.mk.injEq] at H
    obtain ⟨rfl, rfl⟩ := H
    go_wp2
    go_ret2
    exact ⟨by first | rfl | (simp; done) | (simp [*]; done), by repeat (first | exact Drawn0.refl _ | apply Drawn0.step)⟩
   rw [if_pos c8] at H
   have c8b0 : decide (65 ≤ a0) = true := decide_eq_true c8
   clear c8
   by_cases c9 : a0 ≤ 70
   rotate_left
   ·rw [if_neg c9] at H
    have c9b0 : decide (a0 ≤ 70) = false := decide_eq_false c9
    simp only [Option.some.injEq, Prod.mk.injEq] at H
    obtain ⟨rfl, rfl⟩ := H
    go_wp2
    go_ret2
    exact ⟨by first | rfl | (simp; done) | (simp [*]; done), by repeat (first | exact Drawn0.refl _ | apply Drawn0.step)⟩
   rw [if_pos c9] at H
   have c9b0 : decide (a0 ≤ 70) = true := decide_eq_true c9
   clear c9
   simp only [Option.some.injEq, Prod.mk.injEq] at H
   obtain ⟨rfl, rfl⟩ := H
   go_wp2
   go_ret2
   exact ⟨by first | rfl | (simp; done) | (simp [*]; done), by repeat (first | exact Drawn0.refl _ | apply Drawn0.step)⟩
set_option maxHeartbeats 8000000
set_option maxRecDepth 100000
mutual
def spec_reader_escape.j0 : Nat → Int → Bool → ByteArray → Int → Option (Bool × ByteArray × Int)
 | 0, _, _, _, _ => none
 | k + 1, x7, x8, x1000, x1001 => if x8 = true then (some (true, x1000, wrap64 (x1001 + 1))) else (if x7 = 117 then (spec_reader_escape.l0 k 0 x1000 (wrap64 (x1001 + 1))) else (some (false, x1000, x1001)))
def spec_reader_escape.l0 : Nat → Int → ByteArray → Int → Option (Bool × ByteArray × Int)
 | 0, _, _, _ => none
 | k + 1, x3, x1000, x1001 => if x3 < 4 then ((spec_reader_here.f x1000 x1001).bind fun bt144 => ((spec_hexDigit.f k bt144.1).bind fun bt147 => (if bt147.2 = true then (spec_reader_escape.l0 k (wrap64 (x3 + 1)) bt144.2.1 (wrap64 (bt144.2.2 + 1))) else (some (false, bt144.2.1, bt144.2.2))))) else (some (true, x1000, x1001))
end
def spec_reader_escape.f (k : Nat) (s0_0 : ByteArray) (s0_1 : Int) : Option (Bool × ByteArray × Int) := (spec_reader_here.f s0_0 s0_1).bind fun bt141 => (if bt141.1 = 34 then (spec_reader_escape.j0 k bt141.1 (bt141.1 == 34) bt141.2.1 bt141.2.2) else (if bt141.1 = 92 then (spec_reader_escape.j0 k bt141.1 (bt141.1 == 92) bt141.2.1 bt141.2.2) else (if bt141.1 = 47 then (spec_reader_escape.j0 k bt141.1 (bt141.1 == 47) bt141.2.1 bt141.2.2) else (if bt141.1 = 98 then (spec_reader_escape.j0 k bt141.1 (bt141.1 == 98) bt141.2.1 bt141.2.2) else (if bt141.1 = 102 then (spec_reader_escape.j0 k bt141.1 (bt141.1 == 102) bt141.2.1 bt141.2.2) else (if bt141.1 = 110 then (spec_reader_escape.j0 k bt141.1 (bt141.1 == 110) bt141.2.1 bt141.2.2) else (if bt141.1 = 114 then (spec_reader_escape.j0 k bt141.1 (bt141.1 == 114) bt141.2.1 bt141.2.2) else (spec_reader_escape.j0 k bt141.1 (bt141.1 == 116) bt141.2.1 bt141.2.2))))))))
theorem spec_reader_escape.calls (k : Nat) (g : Nat) (s0_0 : ByteArray) (s0_1 : Int) (r1 : Bool) (r2 : ByteArray) (r3 : Int) (w0 w : World) (hI : IsS112 w0 w g s0_0 s0_1) (hB : Below w0.heap.size w0 w) (h : spec_reader_escape.f k s0_0 s0_1 = some (r1, r2, r3)) :
  Calls Tryz.prog 131 #[.pointer (some ⟨g, 0, none⟩)] w fun e w' => e = .returned (.bool r1) ∧ IsS112 w0 w' g r2 r3 ∧ Below w0.heap.size w0 w' ∧ KeepBut w w' g none := by
 have HI0 := Aside0.mk hI
 have HK := Aside0.mk (KeepBut.refl w g none)
 have HL := Aside0.mk hB.size
 have HW0 := Aside0.mk hB.size
 have HB := Aside0.mk hB
 have H : ((spec_reader_here.f s0_0 s0_1).bind fun bt141 => (if bt141.1 = 34 then (spec_reader_escape.j0 k bt141.1 (bt141.1 == 34) bt141.2.1 bt141.2.2) else (if bt141.1 = 92 then (spec_reader_escape.j0 k bt141.1 (bt141.1 == 92) bt141.2.1 bt141.2.2) else (if bt141.1 = 47 then (spec_reader_escape.j0 k bt141.1 (bt141.1 == 47) bt141.2.1 bt141.2.2) else (if bt141.1 = 98 then (spec_reader_escape.j0 k bt141.1 (bt141.1 == 98) bt141.2.1 bt141.2.2) else (if bt141.1 = 102 then (spec_reader_escape.j0 k bt141.1 (bt141.1 == 102) bt141.2.1 bt141.2.2) else (if bt141.1 = 110 then (spec_reader_escape.j0 k bt141.1 (bt141.1 == 110) bt141.2.1 bt141.2.2) else (if bt141.1 = 114 then (spec_reader_escape.j0 k bt141.1 (bt141.1 == 114) bt141.2.1 bt141.2.2) else (spec_reader_escape.j0 k bt141.1 (bt141.1 == 116) bt141.2.1 bt141.2.2))))))))) = some (r1, r2, r3) := h
 replace H := Option.bind_eq_some_iff.mp H
 obtain ⟨⟨t141, t142, t143⟩, A20, H⟩ := H
 have A2 := Aside0.mk A20
 have HC3 := Aside0.mk H
 go_enter Tryz.func131, Tryz.ntmps131
 go_upto_if 8 with (first | (go_at_call 100; (with_reducible refine (spec_reader_here.calls g s0_0 s0_1 t141 t142 t143 w0 _ HI0.out HB.out A2.out).mono ?_); rintro e w4 ⟨rfl, hi, hb, hk⟩; replace HK := Aside0.mk (KeepBut.trans (HK.out) hk (.inl rfl)); replace HB := Aside0.mk (hb); replace HI0 := Aside0.mk (hi); clear hi hb hk))
 (try simp only [aP, aN, sT, sZ, sS])
 go_cut [8] (fun v8 wc => ∃ (kq : Nat) (x8_2 : Bool), v8 = .bool x8_2 ∧ Aside0 (spec_reader_escape.j0 kq t141 x8_2 t142 t143 = some (r1, r2, r3)) ∧ Aside0 (kq ≤ k) ∧ Aside0 (IsS112 w0 wc g t142 t143) ∧ Aside0 (KeepBut w wc g none) ∧ Aside0 (Below w0.heap.size w0 wc))
 case first =>
  have H := HC3.out
  by_cases c5 : t141 = 34
  ·rw [if_pos c5] at H
   have c5b0 : (t141 == 34) = true := beq_iff_eq.mpr c5
   have c5b1 : (t141 != 34) = false := bne_eq_false_iff_eq.mpr c5
   (first | rw [c5b0] | (simp only [i64_w, i32_w]; rw [c5b0]) | skip)
   have H' := Aside0.mk H
   go_wp2
   go_meet
   case rel => exact ⟨_, ((t141 == 34)), (by first | rfl | (simp; done) | (simp [*]; done)), H', ⟨by first | omega | exact Nat.le_refl _⟩, ⟨HI0.out⟩, ⟨HK.out⟩, ⟨HB.out⟩⟩
  rw [if_neg c5] at H
  have c5b0 : (t141 == 34) = false := beq_eq_false_iff_ne.mpr c5
  have c5b1 : (t141 != 34) = true := bne_iff_ne.mpr c5
  (first | rw [c5b0] | (simp only [i64_w, i32_w]; rw [c5b0]) | skip)
  by_cases c6 : t141 = 92
  ·rw [if_pos c6] at H
   have c6b0 : (t141 == 92) = true := beq_iff_eq.mpr c6
   have c6b1 : (t141 != 92) = false := bne_eq_false_iff_eq.mpr c6
   have H' := Aside0.mk H
   go_wp2
   go_meet
   case rel => exact ⟨_, ((t141 == 92)), (by first | rfl | (simp; done) | (simp [*]; done)), H', ⟨by first | omega | exact Nat.le_refl _⟩, ⟨HI0.out⟩, ⟨HK.out⟩, ⟨HB.out⟩⟩
  rw [if_neg c6] at H
  have c6b0 : (t141 == 92) = false := beq_eq_false_iff_ne.mpr c6
  have c6b1 : (t141 != 92) = true := bne_iff_ne.mpr c6
  by_cases c7 : t141 = 47
  ·rw [if_pos c7] at H
   have c7b0 : (t141 == 47) = true := beq_iff_eq.mpr c7
   have c7b1 : (t141 != 47) = false := bne_eq_false_iff_eq.mpr c7
   have H' := Aside0.mk H
   go_wp2
   go_meet
   case rel => exact ⟨_, ((t141 == 47)), (by first | rfl | (simp; done) | (simp [*]; done)), H', ⟨by first | omega | exact Nat.le_refl _⟩, ⟨HI0.out⟩, ⟨HK.out⟩, ⟨HB.out⟩⟩
  rw [if_neg c7] at H
  have c7b0 : (t141 == 47) = false := beq_eq_false_iff_ne.mpr c7
  have c7b1 : (t141 != 47) = true := bne_iff_ne.mpr c7
  by_cases c8 : t141 = 98
  ·rw [if_pos c8] at H
   have c8b0 : (t141 == 98) = true := beq_iff_eq.mpr c8
   have c8b1 : (t141 != 98) = false := bne_eq_false_iff_eq.mpr c8
   have H' := Aside0.mk H
   go_wp2
   go_meet
   case rel => exact ⟨_, ((t141 == 98)), (by first | rfl | (simp; done) | (simp [*]; done)), H', ⟨by first | omega | exact Nat.le_refl _⟩, ⟨HI0.out⟩, ⟨HK.out⟩, ⟨HB.out⟩⟩
  rw [if_neg c8] at H
  have c8b0 : (t141 == 98) = false := beq_eq_false_iff_ne.mpr c8
  have c8b1 : (t141 != 98) = true := bne_iff_ne.mpr c8
  by_cases c9 : t141 = 102
  ·rw [if_pos c9] at H
   have c9b0 : (t141 == 102) = true := beq_iff_eq.mpr c9
   have c9b1 : (t141 != 102) = false := bne_eq_false_iff_eq.mpr c9
   have H' := Aside0.mk H
   go_wp2
   go_meet
   case rel => exact ⟨_, ((t141 == 102)), (by first | rfl | (simp; done) | (simp [*]; done)), H', ⟨by first | omega | exact Nat.le_refl _⟩, ⟨HI0.out⟩, ⟨HK.out⟩, ⟨HB.out⟩⟩
  rw [if_neg c9] at H
  have c9b0 : (t141 == 102) = false := beq_eq_false_iff_ne.mpr c9
  have c9b1 : (t141 != 102) = true := bne_iff_ne.mpr c9
  by_cases c10 : t141 = 110
  ·rw [if_pos c10] at H
   have c10b0 : (t141 == 110) = true := beq_iff_eq.mpr c10
   have c10b1 : (t141 != 110) = false := bne_eq_false_iff_eq.mpr c10
   have H' := Aside0.mk H
   go_wp2
   go_meet
   case rel => exact ⟨_, ((t141 == 110)), (by first | rfl | (simp; done) | (simp [*]; done)), H', ⟨by first | omega | exact Nat.le_refl _⟩, ⟨HI0.out⟩, ⟨HK.out⟩, ⟨HB.out⟩⟩
  rw [if_neg c10] at H
  have c10b0 : (t141 == 110) = false := beq_eq_false_iff_ne.mpr c10
  have c10b1 : (t141 != 110) = true := bne_iff_ne.mpr c10
  by_cases c11 : t141 = 114
  rotate_left
  ·rw [if_neg c11] at H
   have c11b0 : (t141 == 114) = false := beq_eq_false_iff_ne.mpr c11
   have c11b1 : (t141 != 114) = true := bne_iff_ne.mpr c11
   have H' := Aside0.mk H
   go_wp2
   go_meet
   case rel => exact ⟨_, ((t141 == 116)), rfl, H', ⟨by omega⟩, ⟨HI0.out⟩, ⟨HK.out⟩, ⟨HB.out⟩⟩
  rw [if_pos c11] at H
  have c11b0 : (t141 == 114) = true := beq_iff_eq.mpr c11
  have c11b1 : (t141 != 114) = false := bne_eq_false_iff_eq.mpr c11
  have H' := Aside0.mk H
  go_wp2
  go_meet
  case rel => exact ⟨_, ((t141 == 114)), (by first | rfl | (simp; done) | (simp [*]; done)), H', ⟨by first | omega | exact Nat.le_refl _⟩, ⟨HI0.out⟩, ⟨HK.out⟩, ⟨HB.out⟩⟩
 obtain ⟨kq, x8_2, rfl, HA, HJ2, HI0, HK, HB⟩ := hcut
 cases kq with
 | zero => exact absurd HA.out (by simp [spec_reader_escape.j0])
 | succ kj2 =>
  have H := HA.out
  simp only [spec_reader_escape.j0] at H
  by_cases c12 : x8_2 = true
  ·subst c12
   rw [if_pos rfl] at H
   simp only [Option.some.injEq, Prod.mk.injEq] at H
   obtain ⟨rfl, rfl, rfl⟩ := H
   obtain ⟨HGz13, hgz13⟩ := HI0.out
   have hcz13_0 := cellS112_0 HGz13
   have hcz13_1 := cellS112_1 HGz13
   have hfz13_0 := blk_frozen HGz13 0
   have hfz13_1 := blk_frozen HGz13 1
   clear HGz13 hgz13
   go_wp2
   go_ret
   exact ⟨rfl, by repeat (first | (with_reducible first | exact HI0.out | apply iA | apply iN | apply i1) | exact HI0.out), by repeat (first | (with_reducible first | exact HB.out | apply bA | apply bN | apply bD | refine below_set ?_ (IsS112.ge HI0.out)) | exact HB.out), by repeat (first | (with_reducible first | exact HK.out | apply kS | apply kN | apply kA) | exact HK.out)⟩
  replace c12 := Bool.eq_false_iff.mpr c12
  subst c12
  rw [if_neg (show ¬ (false = true) by decide)] at H
  by_cases c14 : t141 = 117
  rotate_left
  ·rw [if_neg c14] at H
   have c14b0 : (t141 == 117) = false := beq_eq_false_iff_ne.mpr c14
   have c14b1 : (t141 != 117) = true := bne_iff_ne.mpr c14
   simp only [Option.some.injEq, Prod.mk.injEq] at H
   obtain ⟨rfl, rfl, rfl⟩ := H
   go_wp2
   go_ret
   exact ⟨rfl, HI0.out, HB.out, HK.out⟩
  rw [if_pos c14] at H
  have c14b0 : (t141 == 117) = true := beq_iff_eq.mpr c14
  have c14b1 : (t141 != 117) = false := bne_eq_false_iff_eq.mpr c14
  clear c14
  have H' := Aside0.mk H
  clear H
  obtain ⟨HGz15, hgz15⟩ := HI0.out
  have hcz15_0 := cellS112_0 HGz15
  have hcz15_1 := cellS112_1 HGz15
  have hfz15_0 := blk_frozen HGz15 0
  have hfz15_1 := blk_frozen HGz15 1
  clear HGz15 hgz15
  go_wp2
  go_loopg [3] kj2 (fun kq v3 w' => ∃ (x3_2 : Int) (x1000_2 : ByteArray) (x1001_2 : Int), v3 = .int .i64 x3_2 ∧ Aside0 (spec_reader_escape.l0 kq x3_2 x1000_2 x1001_2 = some (r1, r2, r3)) ∧ Aside0 (kq ≤ kj2) ∧ Aside0 (IsS112 w0 w' g x1000_2 x1001_2) ∧ Aside0 (KeepBut w w' g none) ∧ Aside0 (Below w0.heap.size w0 w'))
  case atStart => exact ⟨(0), (t142), (wrap64 (t143 + 1)), rfl, H', ⟨Nat.le_refl _⟩, ⟨by repeat (first | (with_reducible first | exact HI0.out | apply iA | apply iN | apply i1) | exact HI0.out)⟩, ⟨by repeat (first | (with_reducible first | exact HK.out | apply kS | apply kN | apply kA) | exact HK.out)⟩, ⟨by repeat (first | (with_reducible first | exact HB.out | apply bA | apply bN | apply bD | refine below_set ?_ (IsS112.ge HI0.out)) | exact HB.out)⟩⟩
  clear H'
  obtain ⟨x3_2, x1000_2, x1001_2, rfl, HA, HK2, HI0, HK, HB⟩ := hrel
  cases gk with
  | zero => exact absurd HA.out (by simp [spec_reader_escape.l0])
  | succ k2 =>
   have H := HA.out
   clear HA
   simp only [spec_reader_escape.l0] at H
   by_cases c16 : x3_2 < 4
   rotate_left
   ·rw [if_neg c16] at H
    have c16b0 : decide (x3_2 < 4) = false := decide_eq_false c16
    simp only [Option.some.injEq, Prod.mk.injEq] at H
    obtain ⟨rfl, rfl, rfl⟩ := H
    go_wp2
    go_ret
    exact ⟨rfl, HI0.out, HB.out, HK.out⟩
   rw [if_pos c16] at H
   have c16b0 : decide (x3_2 < 4) = true := decide_eq_true c16
   clear c16
   replace H := Option.bind_eq_some_iff.mp H
   obtain ⟨⟨t144, t145, t146⟩, A170, H⟩ := H
   have A17 := Aside0.mk A170
   clear A170
   replace H := Option.bind_eq_some_iff.mp H
   obtain ⟨⟨t147, t148⟩, A180, H⟩ := H
   have A18 := Aside0.mk A180
   clear A180
   by_cases c19 : t148 = true
   rotate_left
   ·replace c19 := Bool.eq_false_iff.mpr c19
    subst c19
    rw [if_neg nofun] at H
    simp only [Option.some.injEq, Prod.mk.injEq] at H
    obtain ⟨rfl, rfl, rfl⟩ := H
    go_wp2_with (first | (go_at_call 100; (with_reducible refine (spec_reader_here.calls g x1000_2 x1001_2 t144 t145 t146 w0 _ HI0.out HB.out A17.out).mono ?_); rintro e w22 ⟨rfl, hi, hb, hk⟩; replace HK := Aside0.mk (KeepBut.trans (HK.out) hk (.inl rfl)); replace HB := Aside0.mk (hb); replace HI0 := Aside0.mk (hi); clear hi hb hk) | (go_at_call 87; (with_reducible refine (spec_hexDigit.calls k2 t144 t147 false _ A18.out).mono ?_); rintro e w' ⟨rfl, ⟨nd, rfl⟩⟩))
    go_ret
    exact ⟨rfl, HI0.out, by repeat (first | (with_reducible first | exact HB.out | apply bA | apply bN | apply bD | refine below_set ?_ (IsS112.ge HI0.out)) | exact HB.out), HK.out⟩
   subst c19
   rw [if_pos rfl] at H
   have H' := Aside0.mk H
   clear H
   go_wp2_with (first | (go_at_call 100; (with_reducible refine (spec_reader_here.calls g x1000_2 x1001_2 t144 t145 t146 w0 _ ?side1 ?side2 A17.out).mono ?_); (case side1 => exact HI0.out); (case side2 => exact HB.out); rintro e w20 ⟨rfl, hi, hb, hk⟩; replace HK := Aside0.mk (KeepBut.trans (HK.out) hk (.inl rfl)); replace HB := Aside0.mk (hb); replace HI0 := Aside0.mk (hi); clear hi hb hk) | (go_at_call 87; (with_reducible refine (spec_hexDigit.calls k2 t144 t147 true _ A18.out).mono ?_); rintro e w' ⟨rfl, ⟨nd, rfl⟩⟩; (try (rw [drewN_self w20]; generalize hq_ : World.drewN w20 _ = w20; have n0_ : Aside0 (IsS112 w0 w20 g t145 t146) := ⟨by rw [← hq_]; exact (HI0.out)⟩; have n1_ : Aside0 (KeepBut w w20 g none) := ⟨by rw [← hq_]; exact (HK.out)⟩; have n2_ : Aside0 (Below w0.heap.size w0 w20) := ⟨by rw [← hq_]; exact (HB.out)⟩; clear HI0 HK HB hq_; have HI0 := n0_; have HK := n1_; have HB := n2_; clear n0_ n1_ n2_)); obtain ⟨HGz21, hgz21⟩ := HI0.out; have hcz21_0 := cellS112_0 HGz21; have hcz21_1 := cellS112_1 HGz21; have hfz21_0 := blk_frozen HGz21 0; have hfz21_1 := blk_frozen HGz21 1; clear HGz21 hgz21))
   go_roundg k2
   case measure => have := HJ2.out; have := HK2.out; omega
   case rel => exact ⟨(wrap64 (x3_2 + 1)), (t145), (wrap64 (t146 + 1)), rfl, H', ⟨by have := HJ2.out; have := HK2.out; omega⟩, ⟨by repeat (first | (with_reducible first | exact HI0.out | apply iA | apply iN | apply i1) | exact HI0.out)⟩, ⟨by repeat (first | (with_reducible first | exact HK.out | apply kS | apply kN | apply kA) | exact HK.out)⟩, ⟨by repeat (first | (with_reducible first | exact HB.out | apply bA | apply bN | apply bD | refine below_set ?_ (IsS112.ge HI0.out)) | exact HB.out)⟩⟩
def spec_reader_quoted.l0 : Nat → ByteArray → Int → Option (Bool × ByteArray × Int)
 | 0, _, _ => none
 | k + 1, x1000, x1001 => if x1001 < (x1000.size : Int) then (if 0 ≤ x1001 then (if (bt x1000 x1001) = 34 then (some (true, x1000, wrap64 (x1001 + 1))) else (if (bt x1000 x1001) < 32 then (some (false, x1000, wrap64 (x1001 + 1))) else (if (bt x1000 x1001) = 92 then ((spec_reader_escape.f k x1000 (wrap64 (x1001 + 1))).bind fun bt149 => (if bt149.1 = true then (spec_reader_quoted.l0 k bt149.2.1 bt149.2.2) else (some (false, bt149.2.1, bt149.2.2)))) else (spec_reader_quoted.l0 k x1000 (wrap64 (x1001 + 1)))))) else (none)) else (some (false, x1000, x1001))
def spec_reader_quoted.f (k : Nat) (s0_0 : ByteArray) (s0_1 : Int) : Option (Bool × ByteArray × Int) := spec_reader_quoted.l0 k s0_0 (wrap64 (s0_1 + 1))
theorem spec_reader_quoted.calls (k : Nat) (g : Nat) (s0_0 : ByteArray) (s0_1 : Int) (r1 : Bool) (r2 : ByteArray) (r3 : Int) (w0 w : World) (hI : IsS112 w0 w g s0_0 s0_1) (hB : Below w0.heap.size w0 w) (h : spec_reader_quoted.f k s0_0 s0_1 = some (r1, r2, r3)) :
  Calls Tryz.prog 103 #[.pointer (some ⟨g, 0, none⟩)] w fun e w' => e = .returned (.bool r1) ∧ IsS112 w0 w' g r2 r3 ∧ Below w0.heap.size w0 w' ∧ KeepBut w w' g none := by
 have HI0 := Aside0.mk hI
 have HK := Aside0.mk (KeepBut.refl w g none)
 have HL := Aside0.mk hB.size
 have HW0 := Aside0.mk hB.size
 have HB := Aside0.mk hB
 have H : (spec_reader_quoted.l0 k s0_0 (wrap64 (s0_1 + 1))) = some (r1, r2, r3) := h
 have H' := Aside0.mk H
 obtain ⟨HGz2, hgz2⟩ := HI0.out
 have hcz2_0 := cellS112_0 HGz2
 have hcz2_1 := cellS112_1 HGz2
 have hfz2_0 := blk_frozen HGz2 0
 have hfz2_1 := blk_frozen HGz2 1
 go_enter Tryz.func103, Tryz.ntmps103
 go_wp2
 repeat (go_quiet (fail); try go_wp2)
 go_loopg [] k (fun kq w' => ∃ (x1000_1 : ByteArray) (x1001_1 : Int), Aside0 (spec_reader_quoted.l0 kq x1000_1 x1001_1 = some (r1, r2, r3)) ∧ Aside0 (kq ≤ k) ∧ Aside0 (IsS112 w0 w' g x1000_1 x1001_1) ∧ Aside0 (KeepBut w w' g none) ∧ Aside0 (Below w0.heap.size w0 w'))
 case atStart => exact ⟨(s0_0), (wrap64 (s0_1 + 1)), H', ⟨Nat.le_refl _⟩, ⟨by repeat (first | (with_reducible first | exact HI0.out | apply iA | apply iN | apply i1) | exact HI0.out)⟩, ⟨by repeat (first | (with_reducible first | exact HK.out | apply kS | apply kN | apply kA) | exact HK.out)⟩, ⟨by repeat (first | (with_reducible first | exact HB.out | apply bA | apply bN | apply bD | refine below_set ?_ (IsS112.ge HI0.out)) | exact HB.out)⟩⟩
 obtain ⟨x1000_1, x1001_1, HA, HK1, HI0, HK, HB⟩ := hrel
 cases gk with
 | zero => exact absurd HA.out (by simp [spec_reader_quoted.l0])
 | succ k1 =>
  have H := HA.out
  simp only [spec_reader_quoted.l0] at H
  by_cases c3 : x1001_1 < (x1000_1.size : Int)
  rotate_left
  ·rw [if_neg c3] at H
   have c3b0 : decide (x1001_1 < (x1000_1.size : Int)) = false := decide_eq_false c3
   simp only [Option.some.injEq, Prod.mk.injEq] at H
   obtain ⟨rfl, rfl, rfl⟩ := H
   obtain ⟨HGz18, hgz18⟩ := HI0.out
   have hcz18_0 := cellS112_0 HGz18
   have hcz18_1 := cellS112_1 HGz18
   have hfz18_0 := blk_frozen HGz18 0
   have hfz18_1 := blk_frozen HGz18 1
   go_wp2
   repeat (go_quiet (fail); try go_wp2)
   go_ret
   exact ⟨rfl, HI0.out, by repeat (first | (with_reducible first | exact HB.out | apply bA | apply bN | apply bD | refine below_set ?_ (IsS112.ge HI0.out)) | exact HB.out), HK.out⟩
  rw [if_pos c3] at H
  have c3b0 : decide (x1001_1 < (x1000_1.size : Int)) = true := decide_eq_true c3
  by_cases c4 : 0 ≤ x1001_1
  rotate_left
  ·rw [if_neg c4] at H
   cases H
  rw [if_pos c4] at H
  have c4b0 : decide (0 ≤ x1001_1) = true := decide_eq_true c4
  by_cases c6 : (bt x1000_1 x1001_1) = 34
  ·rw [if_pos c6] at H
   have c6b0 : ((bt x1000_1 x1001_1) == 34) = true := beq_iff_eq.mpr c6
   have c6b1 : ((bt x1000_1 x1001_1) != 34) = false := bne_eq_false_iff_eq.mpr c6
   simp only [Option.some.injEq, Prod.mk.injEq] at H
   obtain ⟨rfl, rfl, rfl⟩ := H
   obtain ⟨HGz7, hgz7⟩ := HI0.out
   have hcz7_0 := cellS112_0 HGz7
   have hcz7_1 := cellS112_1 HGz7
   have hfz7_0 := blk_frozen HGz7 0
   have hfz7_1 := blk_frozen HGz7 1
   have p5 : 0 ≤ (x1001_1 : Int) := of_decide_eq_true (by assumption)
   have q5 : x1001_1 < (x1000_1.size : Int) := of_decide_eq_true (by assumption)
   have hx5 := bt_at x1000_1 x1001_1
   go_wp2
   repeat (go_quiet (fail); try go_wp2)
   go_ret
   exact ⟨rfl, by repeat (first | (with_reducible first | exact HI0.out | apply iA | apply iN | apply i1) | exact HI0.out), by repeat (first | (with_reducible first | exact HB.out | apply bA | apply bN | apply bD | refine below_set ?_ (IsS112.ge HI0.out)) | exact HB.out), by repeat (first | (with_reducible first | exact HK.out | apply kS | apply kN | apply kA) | exact HK.out)⟩
  rw [if_neg c6] at H
  have c6b0 : ((bt x1000_1 x1001_1) == 34) = false := beq_eq_false_iff_ne.mpr c6
  have c6b1 : ((bt x1000_1 x1001_1) != 34) = true := bne_iff_ne.mpr c6
  by_cases c8 : (bt x1000_1 x1001_1) < 32
  ·rw [if_pos c8] at H
   have c8b0 : decide ((bt x1000_1 x1001_1) < 32) = true := decide_eq_true c8
   simp only [Option.some.injEq, Prod.mk.injEq] at H
   obtain ⟨rfl, rfl, rfl⟩ := H
   obtain ⟨HGz9, hgz9⟩ := HI0.out
   have hcz9_0 := cellS112_0 HGz9
   have hcz9_1 := cellS112_1 HGz9
   have hfz9_0 := blk_frozen HGz9 0
   have hfz9_1 := blk_frozen HGz9 1
   clear HGz9 hgz9
   have p5 : 0 ≤ (x1001_1 : Int) := of_decide_eq_true (by assumption)
   have q5 : x1001_1 < (x1000_1.size : Int) := of_decide_eq_true (by assumption)
   have hx5 := bt_at x1000_1 x1001_1
   replace p5 := eq_true p5
   replace q5 := eq_true q5
   go_wp2
   repeat (go_quiet (fail); try go_wp2)
   go_ret
   exact ⟨rfl, by repeat (first | (with_reducible first | exact HI0.out | apply iA | apply iN | apply i1) | exact HI0.out), by repeat (first | (with_reducible first | exact HB.out | apply bA | apply bN | apply bD | refine below_set ?_ (IsS112.ge HI0.out)) | exact HB.out), by repeat (first | (with_reducible first | exact HK.out | apply kS | apply kN | apply kA) | exact HK.out)⟩
  rw [if_neg c8] at H
  have c8b0 : decide ((bt x1000_1 x1001_1) < 32) = false := decide_eq_false c8
  clear c8
  by_cases c10 : (bt x1000_1 x1001_1) = 92
  rotate_left
  ·rw [if_neg c10] at H
   have c10b0 : ((bt x1000_1 x1001_1) == 92) = false := beq_eq_false_iff_ne.mpr c10
   have c10b1 : ((bt x1000_1 x1001_1) != 92) = true := bne_iff_ne.mpr c10
   have H' := Aside0.mk H
   obtain ⟨HGz17, hgz17⟩ := HI0.out
   have hcz17_0 := cellS112_0 HGz17
   have hcz17_1 := cellS112_1 HGz17
   have hfz17_0 := blk_frozen HGz17 0
   have hfz17_1 := blk_frozen HGz17 1
   have p5 : 0 ≤ (x1001_1 : Int) := of_decide_eq_true (by assumption)
   have q5 : x1001_1 < (x1000_1.size : Int) := of_decide_eq_true (by assumption)
   have hx5 := bt_at x1000_1 x1001_1
   go_wp2
   repeat (go_quiet (fail); try go_wp2)
   go_roundg k1
   case measure => have := HK1.out; omega
   case rel => exact ⟨(x1000_1), (wrap64 (x1001_1 + 1)), H', ⟨by have := HK1.out; omega⟩, ⟨by repeat (first | (with_reducible first | exact HI0.out | apply iA | apply iN | apply i1) | exact HI0.out)⟩, ⟨by repeat (first | (with_reducible first | exact HK.out | apply kS | apply kN | apply kA) | exact HK.out)⟩, ⟨by repeat (first | (with_reducible first | exact HB.out | apply bA | apply bN | apply bD | refine below_set ?_ (IsS112.ge HI0.out)) | exact HB.out)⟩⟩
  rw [if_pos c10] at H
  have c10b0 : ((bt x1000_1 x1001_1) == 92) = true := beq_iff_eq.mpr c10
  have c10b1 : ((bt x1000_1 x1001_1) != 92) = false := bne_eq_false_iff_eq.mpr c10
  clear c10
  replace H := Option.bind_eq_some_iff.mp H
  obtain ⟨⟨t149, t150, t151⟩, A110, H⟩ := H
  have A11 := Aside0.mk A110
  clear A110
  by_cases c12 : t149 = true
  rotate_left
  ·replace c12 := Bool.eq_false_iff.mpr c12
   subst c12
   rw [if_neg (show ¬ (false = true) by decide)] at H
   simp only [Option.some.injEq, Prod.mk.injEq] at H
   obtain ⟨rfl, rfl, rfl⟩ := H
   obtain ⟨HGz15, hgz15⟩ := HI0.out
   have hcz15_0 := cellS112_0 HGz15
   have hcz15_1 := cellS112_1 HGz15
   have hfz15_0 := blk_frozen HGz15 0
   have hfz15_1 := blk_frozen HGz15 1
   clear HGz15 hgz15
   have p5 : 0 ≤ (x1001_1 : Int) := of_decide_eq_true (by assumption)
   have q5 : x1001_1 < (x1000_1.size : Int) := of_decide_eq_true (by first | (with_reducible assumption) | assumption)
   have hx5 := bt_at x1000_1 x1001_1
   replace p5 := eq_true p5
   replace q5 := eq_true q5
   go_wp2_with (first | (go_at_call 131; (with_reducible refine (spec_reader_escape.calls k1 g x1000_1 (wrap64 (x1001_1 + 1)) false t150 t151 w0 _ ?side1 ?side2 A11.out).mono ?_); (case side1 => repeat (first | (with_reducible first | exact HI0.out | apply iA | apply iN | apply i1) | exact HI0.out)); (case side2 => repeat (first | (with_reducible first | exact HB.out | apply bA | apply bN | apply bD | refine below_set ?_ (IsS112.ge HI0.out)) | exact HB.out)); rintro e w16 ⟨rfl, hi, hb, hk⟩; replace HK := Aside0.mk (KeepBut.trans (by repeat (first | (with_reducible first | exact HK.out | apply kS | apply kN | apply kA) | exact HK.out)) hk (.inl rfl)); replace HB := Aside0.mk (hb); replace HI0 := Aside0.mk (hi); clear hi hb hk))
   repeat (go_quiet (first | (go_at_call 131; (with_reducible refine (spec_reader_escape.calls k1 g x1000_1 (wrap64 (x1001_1 + 1)) false t150 t151 w0 _ ?side1 ?side2 A11.out).mono ?_); (case side1 => repeat (first | (with_reducible first | exact HI0.out | apply iA | apply iN | apply i1) | exact HI0.out)); (case side2 => repeat (first | (with_reducible first | exact HB.out | apply bA | apply bN | apply bD | refine below_set ?_ (IsS112.ge HI0.out)) | exact HB.out)); rintro e w16 ⟨rfl, hi, hb, hk⟩; replace HK := Aside0.mk (KeepBut.trans (by repeat (first | (with_reducible first | exact HK.out | apply kS | apply kN | apply kA) | exact HK.out)) hk (.inl rfl)); replace HB := Aside0.mk (hb); replace HI0 := Aside0.mk (hi); clear hi hb hk)); try go_wp2_with (first | (go_at_call 131; (with_reducible refine (spec_reader_escape.calls k1 g x1000_1 (wrap64 (x1001_1 + 1)) false t150 t151 w0 _ ?side1 ?side2 A11.out).mono ?_); (case side1 => repeat (first | (with_reducible first | exact HI0.out | apply iA | apply iN | apply i1) | exact HI0.out)); (case side2 => repeat (first | (with_reducible first | exact HB.out | apply bA | apply bN | apply bD | refine below_set ?_ (IsS112.ge HI0.out)) | exact HB.out)); rintro e w16 ⟨rfl, hi, hb, hk⟩; replace HK := Aside0.mk (KeepBut.trans (by repeat (first | (with_reducible first | exact HK.out | apply kS | apply kN | apply kA) | exact HK.out)) hk (.inl rfl)); replace HB := Aside0.mk (hb); replace HI0 := Aside0.mk (hi); clear hi hb hk)))
   go_ret
   exact ⟨rfl, HI0.out, HB.out, HK.out⟩
  subst c12
  rw [if_pos rfl] at H
  have H' := Aside0.mk H
  clear H
  obtain ⟨HGz13, hgz13⟩ := HI0.out
  have hcz13_0 := cellS112_0 HGz13
  have hcz13_1 := cellS112_1 HGz13
  have hfz13_0 := blk_frozen HGz13 0
  have hfz13_1 := blk_frozen HGz13 1
  clear HGz13 hgz13
  have p5 : 0 ≤ (x1001_1 : Int) := of_decide_eq_true (by assumption)
  have q5 : x1001_1 < (x1000_1.size : Int) := of_decide_eq_true (by first | (with_reducible assumption) | assumption)
  have hx5 := bt_at x1000_1 x1001_1
  replace p5 := eq_true p5
  replace q5 := eq_true q5
  go_wp2_with (first | (go_at_call 131; (with_reducible refine (spec_reader_escape.calls k1 g x1000_1 (wrap64 (x1001_1 + 1)) true t150 t151 w0 _ ?side1 ?side2 A11.out).mono ?_); (case side1 => repeat (first | (with_reducible first | exact HI0.out | apply iA | apply iN | apply i1) | exact HI0.out)); (case side2 => repeat (first | (with_reducible first | exact HB.out | apply bA | apply bN | apply bD | refine below_set ?_ (IsS112.ge HI0.out)) | exact HB.out)); rintro e w14 ⟨rfl, hi, hb, hk⟩; replace HK := Aside0.mk (KeepBut.trans (by repeat (first | (with_reducible first | exact HK.out | apply kS | apply kN | apply kA) | exact HK.out)) hk (.inl rfl)); replace HB := Aside0.mk (hb); replace HI0 := Aside0.mk (hi); clear hi hb hk))
  repeat (go_quiet (first | (go_at_call 131; (with_reducible refine (spec_reader_escape.calls k1 g x1000_1 (wrap64 (x1001_1 + 1)) true t150 t151 w0 _ ?side1 ?side2 A11.out).mono ?_); (case side1 => repeat (first | (with_reducible first | exact HI0.out | apply iA | apply iN | apply i1) | exact HI0.out)); (case side2 => repeat (first | (with_reducible first | exact HB.out | apply bA | apply bN | apply bD | refine below_set ?_ (IsS112.ge HI0.out)) | exact HB.out)); rintro e w14 ⟨rfl, hi, hb, hk⟩; replace HK := Aside0.mk (KeepBut.trans (by repeat (first | (with_reducible first | exact HK.out | apply kS | apply kN | apply kA) | exact HK.out)) hk (.inl rfl)); replace HB := Aside0.mk (hb); replace HI0 := Aside0.mk (hi); clear hi hb hk)); try go_wp2_with (first | (go_at_call 131; (with_reducible refine (spec_reader_escape.calls k1 g x1000_1 (wrap64 (x1001_1 + 1)) true t150 t151 w0 _ ?side1 ?side2 A11.out).mono ?_); (case side1 => repeat (first | (with_reducible first | exact HI0.out | apply iA | apply iN | apply i1) | exact HI0.out)); (case side2 => repeat (first | (with_reducible first | exact HB.out | apply bA | apply bN | apply bD | refine below_set ?_ (IsS112.ge HI0.out)) | exact HB.out)); rintro e w14 ⟨rfl, hi, hb, hk⟩; replace HK := Aside0.mk (KeepBut.trans (by repeat (first | (with_reducible first | exact HK.out | apply kS | apply kN | apply kA) | exact HK.out)) hk (.inl rfl)); replace HB := Aside0.mk (hb); replace HI0 := Aside0.mk (hi); clear hi hb hk)))
  go_roundg k1
  case measure => have := HK1.out; omega
  case rel => exact ⟨(t150), (t151), H', ⟨by have := HK1.out; omega⟩, ⟨HI0.out⟩, ⟨HK.out⟩, ⟨HB.out⟩⟩
def spec_reader_word.f (s0_0 : ByteArray) (s0_1 : Int) (a1 : ByteArray) : Option (Bool × ByteArray × Int) := if (wrap64 ((s0_0.size : Int) - s0_1)) < (a1.size : Int) then (some (false, s0_0, s0_1)) else (if 0 ≤ s0_1 then (if s0_1 ≤ (wrap64 (s0_1 + (a1.size : Int))) then (if (wrap64 (s0_1 + (a1.size : Int))) ≤ (s0_0.size : Int) then (if (s0_0.extract (s0_1 : Int).toNat ((wrap64 (s0_1 + (a1.size : Int))) : Int).toNat).toList = a1.toList then (some (true, s0_0, wrap64 (s0_1 + (a1.size : Int)))) else (some (false, s0_0, s0_1))) else (none)) else (none)) else (none))
theorem spec_reader_word.calls (g : Nat) (s0_0 : ByteArray) (s0_1 : Int) (a1 : ByteArray) (r1 : Bool) (r2 : ByteArray) (r3 : Int) (w0 w : World) (hI : IsS112 w0 w g s0_0 s0_1) (hB : Below w0.heap.size w0 w) (h : spec_reader_word.f s0_0 s0_1 a1 = some (r1, r2, r3)) :
  Calls Tryz.prog 104 #[.pointer (some ⟨g, 0, none⟩), .string a1] w fun e w' => e = .returned (.bool r1) ∧ IsS112 w0 w' g r2 r3 ∧ Below w0.heap.size w0 w' ∧ KeepBut w w' g none := by
 have HI0 := Aside0.mk hI
 have HK := Aside0.mk (KeepBut.refl w g none)
 have HL := Aside0.mk hB.size
 have HW0 := Aside0.mk hB.size
 have HB := Aside0.mk hB
 have H : (if (wrap64 ((s0_0.size : Int) - s0_1)) < (a1.size : Int) then (some (false, s0_0, s0_1)) else (if 0 ≤ s0_1 then (if s0_1 ≤ (wrap64 (s0_1 + (a1.size : Int))) then (if (wrap64 (s0_1 + (a1.size : Int))) ≤ (s0_0.size : Int) then (if (s0_0.extract (s0_1 : Int).toNat ((wrap64 (s0_1 + (a1.size : Int))) : Int).toNat).toList = a1.toList then (some (true, s0_0, wrap64 (s0_1 + (a1.size : Int)))) else (some (false, s0_0, s0_1))) else (none)) else (none)) else (none))) = some (r1, r2, r3) := h
 by_cases c3 : (wrap64 ((s0_0.size : Int) - s0_1)) < (a1.size : Int)
 ·rw [if_pos c3] at H
  have c3b0 : decide ((wrap64 ((s0_0.size : Int) - s0_1)) < (a1.size : Int)) = true := decide_eq_true c3
  simp only [Option.some.injEq, Prod.mk.injEq] at H
  obtain ⟨rfl, rfl, rfl⟩ := H
  obtain ⟨HGz4, hgz4⟩ := HI0.out
  have hcz4_0 := cellS112_0 HGz4
  have hcz4_1 := cellS112_1 HGz4
  have hfz4_0 := blk_frozen HGz4 0
  have hfz4_1 := blk_frozen HGz4 1
  go_enter Tryz.func104, Tryz.ntmps104
  go_wp2
  repeat (go_quiet (fail); try go_wp2)
  go_ret
  exact ⟨rfl, HI0.out, by repeat (first | (with_reducible first | exact HB.out | apply bA | apply bN | apply bD | refine below_set ?_ (IsS112.ge HI0.out)) | exact HB.out), HK.out⟩
 rw [if_neg c3] at H
 have c3b0 : decide ((wrap64 ((s0_0.size : Int) - s0_1)) < (a1.size : Int)) = false := decide_eq_false c3
 by_cases c5 : 0 ≤ s0_1
 rotate_left
 ·rw [if_neg c5] at H
  cases H
 rw [if_pos c5] at H
 have c5b0 := eq_true c5
 have c5b1 : decide (0 ≤ s0_1) = true := decide_eq_true c5
 by_cases c6 : s0_1 ≤ (wrap64 (s0_1 + (a1.size : Int)))
 rotate_left
 ·rw [if_neg c6] at H
  cases H
 rw [if_pos c6] at H
 have c6b0 := eq_true c6
 have c6b1 : decide (s0_1 ≤ (wrap64 (s0_1 + (a1.size : Int)))) = true := decide_eq_true c6
 by_cases c7 : (wrap64 (s0_1 + (a1.size : Int))) ≤ (s0_0.size : Int)
 rotate_left
 ·rw [if_neg c7] at H
  cases H
 rw [if_pos c7] at H
 have c7b0 := eq_true c7
 have c7b1 : decide ((wrap64 (s0_1 + (a1.size : Int))) ≤ (s0_0.size : Int)) = true := decide_eq_true c7
 by_cases c8 : (s0_0.extract (s0_1 : Int).toNat ((wrap64 (s0_1 + (a1.size : Int))) : Int).toNat).toList = a1.toList
 rotate_left
 ·rw [if_neg c8] at H
  have c8b0 : ((s0_0.extract (s0_1 : Int).toNat ((wrap64 (s0_1 + (a1.size : Int))) : Int).toNat).toList == a1.toList) = false := beq_eq_false_iff_ne.mpr c8
  have c8b1 : ((s0_0.extract (s0_1 : Int).toNat ((wrap64 (s0_1 + (a1.size : Int))) : Int).toNat).toList != a1.toList) = true := bne_iff_ne.mpr c8
  simp only [Option.some.injEq, Prod.mk.injEq] at H
  obtain ⟨rfl, rfl, rfl⟩ := H
  obtain ⟨HGz10, hgz10⟩ := HI0.out
  have hcz10_0 := cellS112_0 HGz10
  have hcz10_1 := cellS112_1 HGz10
  have hfz10_0 := blk_frozen HGz10 0
  have hfz10_1 := blk_frozen HGz10 1
  go_enter Tryz.func104, Tryz.ntmps104
  go_wp2
  repeat (go_quiet (fail); try go_wp2)
  go_ret
  exact ⟨rfl, HI0.out, by repeat (first | (with_reducible first | exact HB.out | apply bA | apply bN | apply bD | refine below_set ?_ (IsS112.ge HI0.out)) | exact HB.out), HK.out⟩
 rw [if_pos c8] at H
 have c8b0 : ((s0_0.extract (s0_1 : Int).toNat ((wrap64 (s0_1 + (a1.size : Int))) : Int).toNat).toList == a1.toList) = true := beq_iff_eq.mpr c8
 have c8b1 : ((s0_0.extract (s0_1 : Int).toNat ((wrap64 (s0_1 + (a1.size : Int))) : Int).toNat).toList != a1.toList) = false := bne_eq_false_iff_eq.mpr c8
 simp only [Option.some.injEq, Prod.mk.injEq] at H
 obtain ⟨rfl, rfl, rfl⟩ := H
 obtain ⟨HGz9, hgz9⟩ := HI0.out
 have hcz9_0 := cellS112_0 HGz9
 have hcz9_1 := cellS112_1 HGz9
 have hfz9_0 := blk_frozen HGz9 0
 have hfz9_1 := blk_frozen HGz9 1
 go_enter Tryz.func104, Tryz.ntmps104
 go_wp2
 repeat (go_quiet (fail); try go_wp2)
 go_ret
 exact ⟨rfl, by repeat (first | (with_reducible first | exact HI0.out | apply iA | apply iN | apply i1) | exact HI0.out), by repeat (first | (with_reducible first | exact HB.out | apply bA | apply bN | apply bD | refine below_set ?_ (IsS112.ge HI0.out)) | exact HB.out), by repeat (first | (with_reducible first | exact HK.out | apply kS | apply kN | apply kA) | exact HK.out)⟩
mutual
def spec_reader_members.l0 : Nat → List (S115) → List (S78) → ByteArray → Int → Option ((List (S115)) × (List (S78)) × Bool × ByteArray × Int)
 | 0, _, _, _, _ => none
 | k + 1, x5, x6, x1000, x1001 => (spec_reader_here.f x1000 x1001).bind fun bt157 => (if bt157.1 = 34 then ((spec_reader_quoted.f k bt157.2.1 bt157.2.2).bind fun bt160 => (spec_reader_members.j1 k x5 x6 x1001 (!bt160.1) bt160.2.1 bt160.2.2)) else (spec_reader_members.j1 k x5 x6 x1001 true bt157.2.1 bt157.2.2))
def spec_reader_members.j1 : Nat → List (S115) → List (S78) → Int → Bool → ByteArray → Int → Option ((List (S115)) × (List (S78)) × Bool × ByteArray × Int)
 | 0, _, _, _, _, _, _ => none
 | k + 1, x5, x6, x7, x32, x1000, x1001 => if x32 = true then (some (([] : List (S115)), ([] : List (S78)), false, x1000, x1001)) else (if x5.length < 8796093022208 then ((some (x5 ++ [(⟨x7, x1001⟩ : S115)] : List (S115))).bind fun y163 => ((spec_reader_blanks.f k x1000 x1001).bind fun bt166 => ((spec_reader_take.f bt166.1 bt166.2 58).bind fun bt168 => (if bt168.1 = true then ((spec_reader_blanks.f k bt168.2.1 bt168.2.2).bind fun bt171 => ((spec_reader_value.f k bt171.1 bt171.2).bind fun bt173 => (if bt173.2.2.2.2.2.1 = true then (if x6.length < 1954687338268 then ((some (x6 ++ [(⟨bt173.1, bt173.2.1, bt173.2.2.1, bt173.2.2.2.1, bt173.2.2.2.2.1⟩ : S78)] : List (S78))).bind fun y186 => ((spec_reader_blanks.f k bt173.2.2.2.2.2.2.1 bt173.2.2.2.2.2.2.2).bind fun bt189 => ((spec_reader_take.f bt189.1 bt189.2 125).bind fun bt191 => (if bt191.1 = true then (some (y163, y186, true, bt191.2.1, bt191.2.2)) else ((spec_reader_take.f bt191.2.1 bt191.2.2 44).bind fun bt194 => (if bt194.1 = true then ((spec_reader_blanks.f k bt194.2.1 bt194.2.2).bind fun bt197 => (spec_reader_members.l0 k y163 y186 bt197.1 bt197.2)) else (some (([] : List (S115)), ([] : List (S78)), false, bt194.2.1, bt194.2.2)))))))) else (none)) else (some (([] : List (S115)), ([] : List (S78)), false, bt173.2.2.2.2.2.2.1, bt173.2.2.2.2.2.2.2))))) else (some (([] : List (S115)), ([] : List (S78)), false, bt168.2.1, bt168.2.2)))))) else (none))
def spec_reader_members.f : Nat → ByteArray → Int → Option ((List (S115)) × (List (S78)) × Bool × ByteArray × Int)
 | 0, _, _ => none
 | k + 1, s0_0, s0_1 => (spec_reader_blanks.f k s0_0 (wrap64 (s0_1 + 1))).bind fun bt152 => ((spec_reader_take.f bt152.1 bt152.2 125).bind fun bt154 => (if bt154.1 = true then (some (([] : List (S115)), ([] : List (S78)), true, bt154.2.1, bt154.2.2)) else (spec_reader_members.l0 k ([] : List (S115)) ([] : List (S78)) bt154.2.1 bt154.2.2)))
def spec_reader_elements.l0 : Nat → List (S78) → ByteArray → Int → Option ((List (S78)) × Bool × ByteArray × Int)
 | 0, _, _, _ => none
 | k + 1, x4, x1000, x1001 => (spec_reader_value.f k x1000 x1001).bind fun bt204 => (if bt204.2.2.2.2.2.1 = true then (if x4.length < 1954687338268 then ((some (x4 ++ [(⟨bt204.1, bt204.2.1, bt204.2.2.1, bt204.2.2.2.1, bt204.2.2.2.2.1⟩ : S78)] : List (S78))).bind fun y217 => ((spec_reader_blanks.f k bt204.2.2.2.2.2.2.1 bt204.2.2.2.2.2.2.2).bind fun bt220 => ((spec_reader_take.f bt220.1 bt220.2 93).bind fun bt222 => (if bt222.1 = true then (some (y217, true, bt222.2.1, bt222.2.2)) else ((spec_reader_take.f bt222.2.1 bt222.2.2 44).bind fun bt225 => (if bt225.1 = true then ((spec_reader_blanks.f k bt225.2.1 bt225.2.2).bind fun bt228 => (spec_reader_elements.l0 k y217 bt228.1 bt228.2)) else (some (([] : List (S78)), false, bt225.2.1, bt225.2.2)))))))) else (none)) else (some (([] : List (S78)), false, bt204.2.2.2.2.2.2.1, bt204.2.2.2.2.2.2.2)))
def spec_reader_elements.f : Nat → ByteArray → Int → Option ((List (S78)) × Bool × ByteArray × Int)
 | 0, _, _ => none
 | k + 1, s0_0, s0_1 => (spec_reader_blanks.f k s0_0 (wrap64 (s0_1 + 1))).bind fun bt199 => ((spec_reader_take.f bt199.1 bt199.2 93).bind fun bt201 => (if bt201.1 = true then (some (([] : List (S78)), true, bt201.2.1, bt201.2.2)) else (spec_reader_elements.l0 k ([] : List (S78)) bt201.2.1 bt201.2.2)))
def spec_reader_value.j0 : Nat → Bool → Bool → ByteArray → Int → Int → Int → Int → Option (Int × Int × Int × (List (S115)) × (List (S78)) × Bool × ByteArray × Int)
 | 0, _, _, _, _, _, _, _ => none
 | k + 1, x5, x42, x1000, x1001, x232000, x232001, x232002 => if x42 = true then ((spec_reader_number.f k x1000 x1001).bind fun bt253 => (some (3, x232001, bt253.2.2, ([] : List (S115)), ([] : List (S78)), bt253.1, bt253.2.1, bt253.2.2))) else ((spec_reader_word.f x1000 x1001 (⟨#[110, 117, 108, 108]⟩ : ByteArray)).bind fun bt256 => (if bt256.1 = true then (some (0, x232001, bt256.2.2, ([] : List (S115)), ([] : List (S78)), x5, bt256.2.1, bt256.2.2)) else ((spec_reader_word.f bt256.2.1 bt256.2.2 (⟨#[102, 97, 108, 115, 101]⟩ : ByteArray)).bind fun bt259 => (if bt259.1 = true then (some (1, x232001, bt259.2.2, ([] : List (S115)), ([] : List (S78)), x5, bt259.2.1, bt259.2.2)) else ((spec_reader_word.f bt259.2.1 bt259.2.2 (⟨#[116, 114, 117, 101]⟩ : ByteArray)).bind fun bt262 => (if bt262.1 = true then (some (2, x232001, bt262.2.2, ([] : List (S115)), ([] : List (S78)), x5, bt262.2.1, bt262.2.2)) else (some (x232000, x232001, bt262.2.2, ([] : List (S115)), ([] : List (S78)), false, bt262.2.1, bt262.2.2))))))))
def spec_reader_value.f : Nat → ByteArray → Int → Option (Int × Int × Int × (List (S115)) × (List (S78)) × Bool × ByteArray × Int)
 | 0, _, _ => none
 | k + 1, s0_0, s0_1 => (spec_reader_here.f s0_0 s0_1).bind fun bt232 => (if bt232.1 = 123 then ((spec_reader_members.f k bt232.2.1 bt232.2.2).bind fun bt235 => (some (6, s0_1, bt235.2.2.2.2, bt235.1, bt235.2.1, bt235.2.2.1, bt235.2.2.2.1, bt235.2.2.2.2))) else (if bt232.1 = 91 then ((spec_reader_elements.f k bt232.2.1 bt232.2.2).bind fun bt244 => (some (5, s0_1, bt244.2.2.2, ([] : List (S115)), bt244.1, bt244.2.1, bt244.2.2.1, bt244.2.2.2))) else (if bt232.1 = 34 then ((spec_reader_quoted.f k bt232.2.1 bt232.2.2).bind fun bt250 => (some (4, s0_1, bt250.2.2, ([] : List (S115)), ([] : List (S78)), bt250.1, bt250.2.1, bt250.2.2))) else (if bt232.1 = 45 then (spec_reader_value.j0 k true true bt232.2.1 bt232.2.2 0 s0_1 0) else (if 48 ≤ bt232.1 then (spec_reader_value.j0 k true (decide (bt232.1 ≤ 57)) bt232.2.1 bt232.2.2 0 s0_1 0) else (spec_reader_value.j0 k true false bt232.2.1 bt232.2.2 0 s0_1 0))))))
end
@[reducible] def spec_reader_members.Spec (k : Nat) : Prop := ∀ (g : Nat) (s0_0 : ByteArray) (s0_1 : Int) (r1 : List (S115)) (r2 : List (S78)) (r3 : Bool) (r4 : ByteArray) (r5 : Int) (w0 w : World) (hI : IsS112 w0 w g s0_0 s0_1) (hB : Below w0.heap.size w0 w) (h : spec_reader_members.f k s0_0 s0_1 = some (r1, r2, r3, r4, r5)),
  Calls Tryz.prog 101 #[.pointer (some ⟨g, 0, none⟩)] w fun e w' => ∃ v0_ v1_ : Value, e = .returned (.tuple #[v0_, v1_, .bool r3]) ∧ Kd.R k115 115 w' w.heap.size (fun _ => True) v0_ r1 ∧ Kd.R k78 78 w' w.heap.size (fun k_ => some k_ ≠ (v0_ : Value).ownBlock) v1_ r2 ∧ IsS112 w0 w' g r4 r5 ∧ Below w0.heap.size w0 w' ∧ KeepBut w w' g none
@[reducible] def spec_reader_elements.Spec (k : Nat) : Prop := ∀ (g : Nat) (s0_0 : ByteArray) (s0_1 : Int) (r1 : List (S78)) (r2 : Bool) (r3 : ByteArray) (r4 : Int) (w0 w : World) (hI : IsS112 w0 w g s0_0 s0_1) (hB : Below w0.heap.size w0 w) (h : spec_reader_elements.f k s0_0 s0_1 = some (r1, r2, r3, r4)),
  Calls Tryz.prog 102 #[.pointer (some ⟨g, 0, none⟩)] w fun e w' => ∃ v0_ : Value, e = .returned (.tuple #[v0_, .bool r2]) ∧ Kd.R k78 78 w' w.heap.size (fun _ => True) v0_ r1 ∧ IsS112 w0 w' g r3 r4 ∧ Below w0.heap.size w0 w' ∧ KeepBut w w' g none
@[reducible] def spec_reader_value.Spec (k : Nat) : Prop := ∀ (g : Nat) (s0_0 : ByteArray) (s0_1 : Int) (r1 : Int) (r2 : Int) (r3 : Int) (r4 : List (S115)) (r5 : List (S78)) (r6 : Bool) (r7 : ByteArray) (r8 : Int) (w0 w : World) (hI : IsS112 w0 w g s0_0 s0_1) (hB : Below w0.heap.size w0 w) (h : spec_reader_value.f k s0_0 s0_1 = some (r1, r2, r3, r4, r5, r6, r7, r8)),
  Calls Tryz.prog 73 #[.pointer (some ⟨g, 0, none⟩)] w fun e w' => ∃ v3_ v4_ : Value, e = .returned (.tuple #[.agg #[.int .i64 r1, .int .i64 r2, .int .i64 r3, v3_, v4_], .bool r6]) ∧ Kd.R k115 115 w' w.heap.size (fun _ => True) v3_ r4 ∧ Kd.R k78 78 w' w.heap.size (fun k_ => some k_ ≠ (v3_ : Value).ownBlock) v4_ r5 ∧ IsS112 w0 w' g r7 r8 ∧ Below w0.heap.size w0 w' ∧ KeepBut w w' g none
end Go.Proofs.YtgiioglmkogpkaaGreatDoor.M
namespace Go.Proofs.YtgiioglmkogpkaaGreatDoor.L
open Go.RowKit Go.Proofs.YtgiioglmkogpkaaGreatDoorW.PrintWords Go.Proofs.YtgiioglmkogpkaaGreatDoorW.PrintLast Go.Proofs.YtgiioglmkogpkaaGreatDoorW.PrintMore
open M
theorem w64 {x : Int} (h0 : -1000000000000 ≤ x) (h1 : x ≤ 1000000000000) : wrap64 x = x := by unfold wrap64; omega
def isB (x : Int) : Prop := x = 32 ∨ x = 9 ∨ x = 10 ∨ x = 13
instance (x : Int) : Decidable (isB x) := by unfold isB; infer_instance
theorem blank_f (c : Int) : spec_Blank.f c = some (decide (isB c)) := by
 unfold spec_Blank.f isB
 by_cases h1 : c = 32
 ·simp [h1]
 by_cases h2 : c = 9
 ·simp [h2]
 by_cases h3 : c = 10
 ·simp [h3]
 simp [h1, h2, h3]
 by_cases h4 : c = 13
 ·simp [h4]
 ·simp [h4]
theorem blanks_ev (s : ByteArray) (hz : s.size ≤ 65536) : ∀ (d : Nat) (p : Int), 0 ≤ p → p + d = s.size →
  ∃ e, Ev (fun k => spec_reader_blanks.l0 k s p) (s, e) ∧ p ≤ e ∧ e ≤ s.size ∧ (∀ i, p ≤ i → i < e → isB (bt s i)) ∧ (e < s.size → ¬ isB (bt s e)) := by
 intro d
 induction d with
 | zero =>
  intro p h0 h1
  exact ⟨p, Ev.step (f := fun _ => some (s, p)) (fun k => by simp only [spec_reader_blanks.l0]; rw [if_neg (by omega)]) (Ev.now _), by omega, by omega, fun i a b => by omega, fun h => by omega⟩
 | succ d ih =>
  intro p h0 h1
  by_cases hb : isB (bt s p)
  rotate_left
  ·refine ⟨p, Ev.step (f := fun _ => some (s, p)) (fun k => ?_) (Ev.now _), by omega, by omega, fun i a b => by omega, fun _ => hb⟩
   simp only [spec_reader_blanks.l0]; rw [if_pos (by omega), if_pos h0, blank_f]; simp [hb]
  obtain ⟨e, he, e0, e1, e2, e3⟩ := ih (p + 1) (by omega) (by omega)
  refine ⟨e, Ev.step (f := fun k => spec_reader_blanks.l0 k s (p + 1)) (fun k => ?_) he, by omega, e1, fun i a b => ?_, e3⟩
  ·simp only [spec_reader_blanks.l0]; rw [if_pos (by omega), if_pos h0, blank_f]; simp only [Option.bind_some, hb, decide_true, if_true]; rw [w64 (by omega) (by omega)]
  by_cases e : i = p
  ·subst e; exact hb
  ·exact e2 i (by omega) b
theorem blanksf_ev (s : ByteArray) (hz : s.size ≤ 65536) (p : Int) (h0 : 0 ≤ p) (h1 : p ≤ s.size) :
  ∃ e, Ev (fun k => spec_reader_blanks.f k s p) (s, e) ∧ p ≤ e ∧ e ≤ s.size ∧ (∀ i, p ≤ i → i < e → isB (bt s i)) ∧ (e < s.size → ¬ isB (bt s e)) :=
 blanks_ev s hz ((s.size : Int) - p).toNat p h0 (by omega)
def hr (s : ByteArray) (p : Int) : Int := if p < (s.size : Int) then bt s p else 0
theorem here_f (s : ByteArray) (p : Int) (h0 : 0 ≤ p) : spec_reader_here.f s p = some (hr s p, s, p) := by
 unfold spec_reader_here.f hr
 by_cases h : p < (s.size : Int)
 ·rw [if_pos h, if_pos h0, if_pos h]
 ·rw [if_neg h, if_neg h]
theorem take_f (s : ByteArray) (p c : Int) (h0 : 0 ≤ p) (h1 : p ≤ s.size) (hz : s.size ≤ 65536) :
  spec_reader_take.f s p c = some (decide (p < (s.size : Int) ∧ bt s p = c), s, if p < (s.size : Int) ∧ bt s p = c then p + 1 else p) := by
 unfold spec_reader_take.f
 by_cases h : p < (s.size : Int)
 rotate_left
 ·rw [if_neg h, if_neg (fun q => h q.1)]; simp [h]
 rw [if_pos h, if_pos h0]
 by_cases e : bt s p = c
 ·rw [if_pos e, if_pos ⟨h, e⟩, w64 (by omega) (by omega)]; simp [h, e]
 ·rw [if_neg e, if_neg (fun q => e q.2)]; simp [e]
theorem take_yes (s : ByteArray) (p c : Int) (h0 : 0 ≤ p) (hz : s.size ≤ 65536) (h : p < (s.size : Int)) (e : bt s p = c) : spec_reader_take.f s p c = some (true, s, p + 1) := by
 rw [take_f s p c h0 (by omega) hz, if_pos ⟨h, e⟩]; simp [h, e]
theorem take_no (s : ByteArray) (p c : Int) (h0 : 0 ≤ p) (h1 : p ≤ s.size) (hz : s.size ≤ 65536) (h : ¬ (p < (s.size : Int) ∧ bt s p = c)) : spec_reader_take.f s p c = some (false, s, p) := by
 rw [take_f s p c h0 h1 hz, if_neg h]; simp only [Option.some.injEq, Prod.mk.injEq, and_self, and_true]; exact decide_eq_false h
def dig (x : Int) : Prop := 48 ≤ x ∧ x ≤ 57
instance (x : Int) : Decidable (dig x) := by unfold dig; infer_instance
theorem digl_ev (s : ByteArray) (hz : s.size ≤ 65536) (b : Int) (hb : 0 ≤ b) : ∀ (d : Nat) (p : Int), b ≤ p → p + d = s.size →
  ∃ e, Ev (fun k => spec_reader_digits.l0 k b (hr s p) s p) (decide (e > b), s, e) ∧ p ≤ e ∧ e ≤ s.size ∧ (∀ i, p ≤ i → i < e → dig (bt s i)) ∧ (e < s.size → ¬ dig (bt s e)) := by
 intro d
 induction d with
 | zero =>
  intro p h0 h1
  have hh : hr s p = 0 := by unfold hr; rw [if_neg (by omega)]
  refine ⟨p, Ev.step (f := fun _ => some (decide (p > b), s, p)) (fun k => ?_) (Ev.now _), by omega, by omega, fun i a b => by omega, fun h => by omega⟩
  rw [hh]; simp only [spec_reader_digits.l0]; rw [if_neg (by omega)]
 | succ d ih =>
  intro p h0 h1
  have hh : hr s p = bt s p := by unfold hr; rw [if_pos (by omega)]
  by_cases hd : dig (bt s p)
  rotate_left
  ·refine ⟨p, Ev.step (f := fun _ => some (decide (p > b), s, p)) (fun k => ?_) (Ev.now _), by omega, by omega, fun i a b => by omega, fun _ => hd⟩
   rw [hh]; simp only [spec_reader_digits.l0]
   by_cases h48 : 48 ≤ bt s p
   ·rw [if_pos h48, if_neg (fun q => hd ⟨h48, q⟩)]
   ·rw [if_neg h48]
  obtain ⟨e, he, e0, e1, e2, e3⟩ := ih (p + 1) (by omega) (by omega)
  refine ⟨e, Ev.step (f := fun k => spec_reader_digits.l0 k b (hr s (p + 1)) s (p + 1)) (fun k => ?_) he, by omega, e1, fun i a b => ?_, e3⟩
  ·rw [hh]; simp only [spec_reader_digits.l0]; rw [if_pos hd.1, if_pos hd.2, w64 (by omega) (by omega), here_f s (p + 1) (by omega)]; simp only [Option.bind_some]
  by_cases e : i = p
  ·subst e; exact hd
  ·exact e2 i (by omega) b
theorem digits_ev (s : ByteArray) (hz : s.size ≤ 65536) (p : Int) (h0 : 0 ≤ p) (h1 : p ≤ s.size) :
  ∃ e, Ev (fun k => spec_reader_digits.f k s p) (decide (e > p), s, e) ∧ p ≤ e ∧ e ≤ s.size ∧ (∀ i, p ≤ i → i < e → dig (bt s i)) ∧ (e < s.size → ¬ dig (bt s e)) := by
 obtain ⟨e, he, r⟩ := digl_ev s hz p h0 ((s.size : Int) - p).toNat p (by omega) (by omega)
 refine ⟨e, Ev.congr (fun k => ?_) he, r⟩
 simp only [spec_reader_digits.f]; rw [here_f s p h0]; simp only [Option.bind_some]
def RdTo (s : ByteArray) (g : Nat → Option (Bool × ByteArray × Int)) (p : Int) (G : Int → Prop) : Prop := ∃ ok e, Ev g (ok, s, e) ∧ p ≤ e ∧ e ≤ s.size ∧ (ok = true → G e)
theorem num_j2 (s : ByteArray) (hz : s.size ≤ 65536) (c p : Int) (x : Bool) (h0 : 0 ≤ p) (h1 : p ≤ s.size) (hx : x = true → p = c + 1 ∧ (bt s c = 101 ∨ bt s c = 69)) (hx0 : x = false → p = c) :
  RdTo s (fun k => spec_reader_number.j2 k x s p) p (fun e => c = e ∨ ((bt s c = 101 ∨ bt s c = 69) ∧ ∃ d, (d = c + 1 ∨ (d = c + 2 ∧ (bt s (c + 1) = 43 ∨ bt s (c + 1) = 45))) ∧ d < e ∧ ∀ i, d ≤ i → i < e → dig (bt s i))) := by
 cases x with
 | false =>
  refine ⟨true, p, Ev.step (f := fun _ => some (true, s, p)) (fun k => by simp only [spec_reader_number.j2]; rw [if_neg (by simp)]) (Ev.now _), by omega, h1, fun _ => .inl (hx0 rfl).symm⟩
 | true =>
  obtain ⟨rfl, hc⟩ := hx rfl
  by_cases h43 : c + 1 < (s.size : Int) ∧ bt s (c + 1) = 43
  ·obtain ⟨e, he, e0, e1, e2, e3⟩ := digits_ev s hz (c + 1 + 1) (by omega) (by omega)
   refine ⟨_, e, Ev.step (f := fun k => (spec_reader_digits.f k s (c + 1 + 1)).bind fun t => some (t.1, t.2.1, t.2.2)) (fun k => ?_) (Ev.bind he (Ev.now _)), by omega, e1, fun hh => .inr ⟨hc, c + 2, .inr ⟨rfl, .inl h43.2⟩, ?_, fun i a b => e2 i (by omega) b⟩⟩
   ·simp only [spec_reader_number.j2]; rw [if_pos trivial, take_yes s _ _ h0 hz h43.1 h43.2]; simp only [Option.bind_some, if_true]
   ·simp at hh; omega
  by_cases h45 : c + 1 < (s.size : Int) ∧ bt s (c + 1) = 45
  rotate_left
  ·obtain ⟨e, he, e0, e1, e2, e3⟩ := digits_ev s hz (c + 1) (by omega) (by omega)
   refine ⟨_, e, Ev.step (f := fun k => (spec_reader_digits.f k s (c + 1)).bind fun t => some (t.1, t.2.1, t.2.2)) (fun k => ?_) (Ev.bind he (Ev.now _)), by omega, e1, fun hh => .inr ⟨hc, c + 1, .inl rfl, ?_, fun i a b => e2 i (by omega) b⟩⟩
   ·simp only [spec_reader_number.j2]; rw [if_pos trivial, take_no s _ _ h0 h1 hz h43]; simp only [Option.bind_some, if_true, Bool.false_eq_true, if_false]; rw [take_no s _ _ h0 h1 hz h45]; simp only [Option.bind_some]
   ·simp at hh; omega
  obtain ⟨e, he, e0, e1, e2, e3⟩ := digits_ev s hz (c + 1 + 1) (by omega) (by omega)
  refine ⟨_, e, Ev.step (f := fun k => (spec_reader_digits.f k s (c + 1 + 1)).bind fun t => some (t.1, t.2.1, t.2.2)) (fun k => ?_) (Ev.bind he (Ev.now _)), by omega, e1, fun hh => .inr ⟨hc, c + 2, .inr ⟨rfl, .inr h45.2⟩, ?_, fun i a b => e2 i (by omega) b⟩⟩
  ·simp only [spec_reader_number.j2]; rw [if_pos trivial, take_no s _ _ h0 h1 hz h43]; simp only [Option.bind_some, if_true, Bool.false_eq_true, if_false]; rw [take_yes s _ _ h0 hz h45.1 h45.2]; simp only [Option.bind_some]
  ·simp at hh; omega
theorem RdTo.mono {s : ByteArray} {g : Nat → Option (Bool × ByteArray × Int)} {p p' : Int} {G G' : Int → Prop} (h : RdTo s g p G) (hp : p' ≤ p) (hG : ∀ e, p ≤ e → e ≤ s.size → G e → G' e) : RdTo s g p' G' := by
 obtain ⟨ok, e, h1, h2, h3, h4⟩ := h
 exact ⟨ok, e, h1, by omega, h3, fun q => hG e h2 h3 (h4 q)⟩
theorem RdTo.step {s : ByteArray} {g f : Nat → Option (Bool × ByteArray × Int)} {p : Int} {G : Int → Prop} (hs : ∀ k, g (k + 1) = f k) (h : RdTo s f p G) : RdTo s g p G := by
 obtain ⟨ok, e, h1, h2⟩ := h
 exact ⟨ok, e, Ev.step hs h1, h2⟩
theorem RdTo.congr {s : ByteArray} {g f : Nat → Option (Bool × ByteArray × Int)} {p : Int} {G : Int → Prop} (hs : ∀ k, g k = f k) (h : RdTo s f p G) : RdTo s g p G := by
 obtain ⟨ok, e, h1, h2⟩ := h
 exact ⟨ok, e, Ev.congr hs h1, h2⟩
theorem RdTo.bind {α : Type} {s : ByteArray} {g : Nat → Option α} {f : Nat → α → Option (Bool × ByteArray × Int)} {a : α} {p : Int} {G : Int → Prop} (hg : Ev g a) (h : RdTo s (fun k => f k a) p G) : RdTo s (fun k => (g k).bind (f k)) p G := by
 obtain ⟨ok, e, h1, h2⟩ := h
 exact ⟨ok, e, Ev.bind hg h1, h2⟩
theorem RdTo.no {s : ByteArray} {g : Nat → Option (Bool × ByteArray × Int)} {p e : Int} {G : Int → Prop} (hs : Ev g (false, s, e)) (h0 : p ≤ e) (h1 : e ≤ s.size) : RdTo s g p G := ⟨false, e, hs, h0, h1, fun q => by cases q⟩
abbrev ExpTo (s : ByteArray) (c e : Int) : Prop := c = e ∨ ((bt s c = 101 ∨ bt s c = 69) ∧ ∃ d, (d = c + 1 ∨ (d = c + 2 ∧ (bt s (c + 1) = 43 ∨ bt s (c + 1) = 45))) ∧ d < e ∧ ∀ i, d ≤ i → i < e → dig (bt s i))
theorem num_j1 (s : ByteArray) (hz : s.size ≤ 65536) (p : Int) (x : Bool) (h0 : 0 ≤ p) (h1 : p ≤ s.size) :
  RdTo s (fun k => spec_reader_number.j1 k x s p) p (fun e => x = false ∧ ExpTo s p e) := by
 cases x with
 | true => exact RdTo.no (Ev.step (f := fun _ => some (false, s, p)) (fun k => by simp only [spec_reader_number.j1]; rw [if_pos trivial]) (Ev.now _)) (by omega) h1
 | false =>
  by_cases h101 : p < (s.size : Int) ∧ bt s p = 101
  ·refine RdTo.step (f := fun k => spec_reader_number.j2 k true s (p + 1)) (fun k => ?_) ((num_j2 s hz p (p + 1) true (by omega) (by omega) (fun _ => ⟨rfl, .inl h101.2⟩) (by simp)).mono (by omega) (fun e _ _ h => ⟨rfl, h⟩))
   simp only [spec_reader_number.j1]; rw [if_neg (by simp), take_yes s _ _ h0 hz h101.1 h101.2]; simp only [Option.bind_some, if_true]
  by_cases h69 : p < (s.size : Int) ∧ bt s p = 69
  ·refine RdTo.step (f := fun k => spec_reader_number.j2 k true s (p + 1)) (fun k => ?_) ((num_j2 s hz p (p + 1) true (by omega) (by omega) (fun _ => ⟨rfl, .inr h69.2⟩) (by simp)).mono (by omega) (fun e _ _ h => ⟨rfl, h⟩))
   simp only [spec_reader_number.j1]; rw [if_neg (by simp), take_no s _ _ h0 h1 hz h101]; simp only [Option.bind_some, Bool.false_eq_true, if_false]; rw [take_yes s _ _ h0 hz h69.1 h69.2]; simp only [Option.bind_some]
  ·refine RdTo.step (f := fun k => spec_reader_number.j2 k false s p) (fun k => ?_) ((num_j2 s hz p p false (by omega) (by omega) (by simp) (fun _ => rfl)).mono (by omega) (fun e _ _ h => ⟨rfl, h⟩))
   simp only [spec_reader_number.j1]; rw [if_neg (by simp), take_no s _ _ h0 h1 hz h101]; simp only [Option.bind_some, Bool.false_eq_true, if_false]; rw [take_no s _ _ h0 h1 hz h69]; simp only [Option.bind_some]
abbrev FracTo (s : ByteArray) (b c : Int) : Prop := c = b ∨ (bt s b = 46 ∧ b + 1 < c ∧ ∀ i, b + 1 ≤ i → i < c → dig (bt s i))
theorem num_j0 (s : ByteArray) (hz : s.size ≤ 65536) (p : Int) (x : Bool) (h0 : 0 ≤ p) (h1 : p ≤ s.size) :
  RdTo s (fun k => spec_reader_number.j0 k x s p) p (fun e => x = false ∧ ∃ c, p ≤ c ∧ c ≤ e ∧ FracTo s p c ∧ ExpTo s c e) := by
 cases x with
 | true => exact RdTo.no (Ev.step (f := fun _ => some (false, s, p)) (fun k => by simp only [spec_reader_number.j0]; rw [if_pos trivial]) (Ev.now _)) (by omega) h1
 | false =>
  by_cases h46 : p < (s.size : Int) ∧ bt s p = 46
  rotate_left
  ·refine RdTo.step (f := fun k => spec_reader_number.j1 k false s p) (fun k => ?_) ((num_j1 s hz p false h0 h1).mono (by omega) (fun e q0 q1 h => ⟨rfl, p, by omega, q0, .inl rfl, h.2⟩))
   simp only [spec_reader_number.j0]; rw [if_neg (by simp), take_no s _ _ h0 h1 hz h46]; simp only [Option.bind_some, Bool.false_eq_true, if_false]
  obtain ⟨e, he, e0, e1, e2, e3⟩ := digits_ev s hz (p + 1) (by omega) (by omega)
  refine RdTo.step (f := fun k => (spec_reader_digits.f k s (p + 1)).bind fun t => spec_reader_number.j1 k (!t.1) t.2.1 t.2.2) (fun k => ?_) (RdTo.bind he ?_)
  ·simp only [spec_reader_number.j0]; rw [if_neg (by simp), take_yes s _ _ h0 hz h46.1 h46.2]; simp only [Option.bind_some, if_true]
  refine (num_j1 s hz e (!decide (e > p + 1)) (by omega) e1).mono (by omega) (fun e' q0 q1 h => ⟨rfl, e, by omega, q0, .inr ⟨h46.2, ?_, fun i a b => e2 i a b⟩, h.2⟩)
  have := h.1
  simp at this
  omega
def hexv (c : Int) : Option Int := if 48 ≤ c ∧ c ≤ 57 then some (c - 48) else if 97 ≤ c ∧ c ≤ 102 then some (c - 87) else if 65 ≤ c ∧ c ≤ 70 then some (c - 55) else none
theorem hexv_range {c v : Int} (h : hexv c = some v) : 0 ≤ v ∧ v ≤ 15 := by
 unfold hexv at h
 split at h
 ·simp at h; omega
 split at h
 ·simp at h; omega
 split at h
 ·simp at h; omega
 ·cases h
theorem hex_yes {c v : Int} (h : hexv c = some v) : Ev (fun k => spec_hexDigit.f k c) (v, true) := by
 unfold hexv at h
 by_cases h1 : 48 ≤ c ∧ c ≤ 57
 ·rw [if_pos h1] at h
  obtain rfl : c - 48 = v := by simpa using h
  refine Ev.congr (f := fun k => spec_hexDigit.j0 k c true) (fun k => ?_) (Ev.step (f := fun _ => some (c - 48, true)) (fun k => ?_) (Ev.now _))
  ·simp only [spec_hexDigit.f]; rw [if_pos h1.1, decide_eq_true h1.2]
  ·simp only [spec_hexDigit.j0, if_true]; rw [Int.emod_eq_of_lt (by omega) (by omega)]
 rw [if_neg h1] at h
 have e1 : ∀ k, spec_hexDigit.f k c = spec_hexDigit.j0 k c false := fun k => by
  simp only [spec_hexDigit.f]
  by_cases h48 : 48 ≤ c
  ·rw [if_pos h48, decide_eq_false (fun q => h1 ⟨h48, q⟩)]
  ·rw [if_neg h48]
 by_cases h2 : 97 ≤ c ∧ c ≤ 102
 ·rw [if_pos h2] at h
  obtain rfl : c - 87 = v := by simpa using h
  refine Ev.congr (f := fun k => spec_hexDigit.j0 k c false) e1 (Ev.step (f := fun k => spec_hexDigit.j1 k c true) (fun k => ?_) (Ev.step (f := fun _ => some (c - 87, true)) (fun k => ?_) (Ev.now _)))
  ·simp only [spec_hexDigit.j0, Bool.false_eq_true, if_false]; rw [if_pos h2.1, decide_eq_true h2.2]
  ·simp only [spec_hexDigit.j1, if_true]; rw [Int.emod_eq_of_lt (by omega) (by omega)]; simp only [Option.some.injEq, Prod.mk.injEq, and_true]; omega
 rw [if_neg h2] at h
 have e2 : ∀ k, spec_hexDigit.j0 (k + 1) c false = spec_hexDigit.j1 k c false := fun k => by
  simp only [spec_hexDigit.j0, Bool.false_eq_true, if_false]
  by_cases h97 : 97 ≤ c
  ·rw [if_pos h97, decide_eq_false (fun q => h2 ⟨h97, q⟩)]
  ·rw [if_neg h97]
 by_cases h3 : 65 ≤ c ∧ c ≤ 70
 rotate_left
 ·rw [if_neg h3] at h; cases h
 rw [if_pos h3] at h
 obtain rfl : c - 55 = v := by simpa using h
 refine Ev.congr (f := fun k => spec_hexDigit.j0 k c false) e1 (Ev.step (f := fun k => spec_hexDigit.j1 k c false) e2 (Ev.step (f := fun _ => some (c - 55, true)) (fun k => ?_) (Ev.now _)))
 simp only [spec_hexDigit.j1, Bool.false_eq_true, if_false]; rw [if_pos h3.1, if_pos h3.2, Int.emod_eq_of_lt (by omega) (by omega)]; simp only [Option.some.injEq, Prod.mk.injEq, and_true]; omega
theorem hex_no {c : Int} (h : hexv c = none) : Ev (fun k => spec_hexDigit.f k c) (0, false) := by
 unfold hexv at h
 by_cases h1 : 48 ≤ c ∧ c ≤ 57
 ·rw [if_pos h1] at h; cases h
 rw [if_neg h1] at h
 by_cases h2 : 97 ≤ c ∧ c ≤ 102
 ·rw [if_pos h2] at h; cases h
 rw [if_neg h2] at h
 by_cases h3 : 65 ≤ c ∧ c ≤ 70
 ·rw [if_pos h3] at h; cases h
 refine Ev.congr (f := fun k => spec_hexDigit.j0 k c false) (fun k => ?_) (Ev.step (f := fun k => spec_hexDigit.j1 k c false) (fun k => ?_) (Ev.step (f := fun _ => some (0, false)) (fun k => ?_) (Ev.now _)))
 ·simp only [spec_hexDigit.f]
  by_cases h48 : 48 ≤ c
  ·rw [if_pos h48, decide_eq_false (fun q => h1 ⟨h48, q⟩)]
  ·rw [if_neg h48]
 ·simp only [spec_hexDigit.j0, Bool.false_eq_true, if_false]
  by_cases h97 : 97 ≤ c
  ·rw [if_pos h97, decide_eq_false (fun q => h2 ⟨h97, q⟩)]
  ·rw [if_neg h97]
 simp only [spec_hexDigit.j1, Bool.false_eq_true, if_false]
 by_cases h65 : 65 ≤ c
 ·rw [if_pos h65]
  rw [if_neg (fun q => h3 ⟨h65, q⟩)]
 ·rw [if_neg h65]
theorem esc_l0 (s : ByteArray) (hz : s.size ≤ 65536) : ∀ (d : Nat) (x p : Int), 0 ≤ x → x + d = 4 → 0 ≤ p → p ≤ s.size →
  RdTo s (fun k => spec_reader_escape.l0 k x s p) p (fun e => e = p + d ∧ ∀ i, p ≤ i → i < e → (hexv (bt s i)).isSome = true) := by
 intro d
 induction d with
 | zero =>
  intro x p hx hd h0 h1
  refine ⟨true, p, Ev.step (f := fun _ => some (true, s, p)) (fun k => ?_) (Ev.now _), by omega, h1, fun _ => ⟨by omega, fun i a b => by omega⟩⟩
  simp only [spec_reader_escape.l0]; rw [if_neg (by omega)]
 | succ d ih =>
  intro x p hx hd h0 h1
  refine RdTo.step (f := fun k => (spec_hexDigit.f k (hr s p)).bind fun t => (if t.2 = true then (spec_reader_escape.l0 k (wrap64 (x + 1)) s (wrap64 (p + 1))) else (some (false, s, p)))) (fun k => ?_) ?_
  ·simp only [spec_reader_escape.l0]; rw [if_pos (by omega), here_f s p h0]; simp only [Option.bind_some]
  cases hv : hexv (hr s p) with
  | none => exact RdTo.bind (hex_no hv) (RdTo.congr (f := fun _ => some (false, s, p)) (fun k => by simp) (RdTo.no (Ev.now _) (by omega) h1))
  | some v =>
   have hp : p < s.size := by
    by_cases q : p < (s.size : Int)
    ·exact q
    ·rw [hr, if_neg q] at hv; simp [hexv] at hv
   have hb : hr s p = bt s p := by rw [hr, if_pos hp]
   refine RdTo.bind (hex_yes hv) (RdTo.congr (f := fun k => spec_reader_escape.l0 k (x + 1) s (p + 1)) (fun k => ?_) ((ih (x + 1) (p + 1) (by omega) (by omega) (by omega) (by omega)).mono (by omega) (fun e q0 q1 h => ⟨by omega, fun i a b => ?_⟩)))
   ·simp only [if_true]; rw [w64 (by omega) (by omega), w64 (by omega) (by omega)]
   by_cases e : i = p
   ·subst e; rw [← hb, hv]; rfl
   ·exact h.2 i (by omega) b
def isEsc (x : Int) : Prop := x = 34 ∨ x = 92 ∨ x = 47 ∨ x = 98 ∨ x = 102 ∨ x = 110 ∨ x = 114 ∨ x = 116
instance (x : Int) : Decidable (isEsc x) := by unfold isEsc; infer_instance
theorem esc_ev (s : ByteArray) (hz : s.size ≤ 65536) (p : Int) (h0 : 0 ≤ p) (h1 : p ≤ s.size) :
  RdTo s (fun k => spec_reader_escape.f k s p) p (fun e => (isEsc (bt s p) ∧ e = p + 1) ∨ (bt s p = 117 ∧ e = p + 5 ∧ ∀ i, p + 1 ≤ i → i < p + 5 → (hexv (bt s i)).isSome = true)) := by
 by_cases hE : p < (s.size : Int) ∧ isEsc (bt s p)
 ·have hb : hr s p = bt s p := by rw [hr, if_pos hE.1]
  refine RdTo.congr (f := fun k => spec_reader_escape.j0 k (bt s p) true s p) (fun k => ?_) (RdTo.step (f := fun _ => some (true, s, p + 1)) (fun k => ?_) ⟨true, p + 1, Ev.now _, by omega, by omega, fun _ => .inl ⟨hE.2, rfl⟩⟩)
  ·simp only [spec_reader_escape.f]; rw [here_f s p h0, hb]; simp only [Option.bind_some]
   rcases hE.2 with h | h | h | h | h | h | h | h <;> simp [h]
  ·simp only [spec_reader_escape.j0, if_true]; rw [w64 (by omega) (by omega)]
 have hn : hr s p ≠ 34 ∧ hr s p ≠ 92 ∧ hr s p ≠ 47 ∧ hr s p ≠ 98 ∧ hr s p ≠ 102 ∧ hr s p ≠ 110 ∧ hr s p ≠ 114 ∧ hr s p ≠ 116 := by
  unfold hr
  by_cases q : p < (s.size : Int)
  rotate_left
  ·rw [if_neg q]; omega
  rw [if_pos q]
  have : ¬ isEsc (bt s p) := fun h => hE ⟨q, h⟩
  unfold isEsc at this
  omega
 have hf : ∀ k, spec_reader_escape.f k s p = spec_reader_escape.j0 k (hr s p) false s p := fun k => by
  simp only [spec_reader_escape.f]; rw [here_f s p h0]; simp only [Option.bind_some]
  rw [if_neg hn.1, if_neg hn.2.1, if_neg hn.2.2.1, if_neg hn.2.2.2.1, if_neg hn.2.2.2.2.1, if_neg hn.2.2.2.2.2.1, if_neg hn.2.2.2.2.2.2.1, beq_eq_false_iff_ne.mpr hn.2.2.2.2.2.2.2]
 refine RdTo.congr hf ?_
 by_cases hu : hr s p = 117
 rotate_left
 ·refine RdTo.step (f := fun _ => some (false, s, p)) (fun k => ?_) (RdTo.no (Ev.now _) (by omega) h1)
  simp only [spec_reader_escape.j0, Bool.false_eq_true, if_false]; rw [if_neg hu]
 have hp : p < s.size := by
  by_cases q : p < (s.size : Int)
  ·exact q
  ·rw [hr, if_neg q] at hu; omega
 have hb : bt s p = 117 := by rw [← hu, hr, if_pos hp]
 refine RdTo.step (f := fun k => spec_reader_escape.l0 k 0 s (p + 1)) (fun k => ?_) ((esc_l0 s hz 4 0 (p + 1) (by omega) (by omega) (by omega) (by omega)).mono (by omega) (fun e q0 q1 h => .inr ⟨hb, by omega, fun i a b => h.2 i a (by omega)⟩))
 simp only [spec_reader_escape.j0, Bool.false_eq_true, if_false]; rw [if_pos hu, w64 (by omega) (by omega)]
def hex4 (s : ByteArray) (p : Int) : Prop := ∀ i, p ≤ i → i < p + 4 → (hexv (bt s i)).isSome = true
inductive Bod (s : ByteArray) (j : Int) : Int → Prop
 | nil : Bod s j j
 | plain (i : Int) : i < j → bt s i ≠ 34 → bt s i ≠ 92 → 32 ≤ bt s i → Bod s j (i + 1) → Bod s j i
 | esc (i : Int) : i + 1 < j → bt s i = 92 → isEsc (bt s (i + 1)) → Bod s j (i + 2) → Bod s j i
 | uni (i : Int) : i + 5 < j → bt s i = 92 → bt s (i + 1) = 117 → hex4 s (i + 2) → Bod s j (i + 6) → Bod s j i
theorem Bod.le {s : ByteArray} {j i : Int} (h : Bod s j i) : i ≤ j := by
 induction h with
 | nil => omega
 | plain => omega
 | esc => omega
 | uni => omega
theorem quo_l0 (s : ByteArray) (hz : s.size ≤ 65536) : ∀ (n : Nat) (p : Int), 0 ≤ p → p ≤ s.size → (s.size : Int) - p < n →
  RdTo s (fun k => spec_reader_quoted.l0 k s p) p (fun e => ∃ j, e = j + 1 ∧ p ≤ j ∧ bt s j = 34 ∧ Bod s j p) := by
 intro n
 induction n with
 | zero => intro p h0 h1 h2; omega
 | succ n ih =>
  intro p h0 h1 h2
  by_cases hp : p < (s.size : Int)
  rotate_left
  ·refine RdTo.step (f := fun _ => some (false, s, p)) (fun k => ?_) (RdTo.no (Ev.now _) (by omega) h1)
   simp only [spec_reader_quoted.l0]; rw [if_neg hp]
  have hb := bt_range s p
  by_cases c34 : bt s p = 34
  ·refine RdTo.step (f := fun _ => some (true, s, p + 1)) (fun k => ?_) ⟨true, p + 1, Ev.now _, by omega, by omega, fun _ => ⟨p, rfl, by omega, c34, .nil⟩⟩
   simp only [spec_reader_quoted.l0]; rw [if_pos hp, if_pos h0, if_pos c34, w64 (by omega) (by omega)]
  by_cases c32 : bt s p < 32
  ·refine RdTo.step (f := fun _ => some (false, s, p + 1)) (fun k => ?_) (RdTo.no (Ev.now _) (by omega) (by omega))
   simp only [spec_reader_quoted.l0]; rw [if_pos hp, if_pos h0, if_neg c34, if_pos c32, w64 (by omega) (by omega)]
  by_cases c92 : bt s p = 92
  rotate_left
  ·refine RdTo.step (f := fun k => spec_reader_quoted.l0 k s (p + 1)) (fun k => ?_) ((ih (p + 1) (by omega) (by omega) (by omega)).mono (by omega) (fun e' q0 q1 h => ?_))
   ·simp only [spec_reader_quoted.l0]; rw [if_pos hp, if_pos h0, if_neg c34, if_neg c32, if_neg c92, w64 (by omega) (by omega)]
   ·obtain ⟨j, r1, r2, r3, r4⟩ := h
    exact ⟨j, r1, by omega, r3, .plain p (by omega) c34 c92 (by omega) r4⟩
  refine RdTo.step (f := fun k => (spec_reader_escape.f k s (p + 1)).bind fun t => (if t.1 = true then (spec_reader_quoted.l0 k t.2.1 t.2.2) else (some (false, t.2.1, t.2.2)))) (fun k => ?_) ?_
  ·simp only [spec_reader_quoted.l0]; rw [if_pos hp, if_pos h0, if_neg c34, if_neg c32, if_pos c92, w64 (by omega) (by omega)]
  obtain ⟨ok, e, he, e0, e1, hG⟩ := esc_ev s hz (p + 1) (by omega) (by omega)
  refine RdTo.bind he ?_
  cases ok with
  | false => exact RdTo.congr (f := fun _ => some (false, s, e)) (fun k => by simp) (RdTo.no (Ev.now _) (by omega) e1)
  | true =>
   refine RdTo.congr (f := fun k => spec_reader_quoted.l0 k s e) (fun k => by simp) ((ih e (by omega) e1 (by omega)).mono (by omega) (fun e' q0 q1 h => ?_))
   obtain ⟨j, r1, r2, r3, r4⟩ := h
   refine ⟨j, r1, by omega, r3, ?_⟩
   rcases hG rfl with ⟨g1, rfl⟩ | ⟨g1, rfl, g3⟩
   ·exact .esc p (by omega) c92 g1 (by rw [show p + 2 = p + 1 + 1 by omega]; exact r4)
   ·exact .uni p (by omega) c92 g1 (fun i a b => g3 i (by omega) (by omega)) (by rw [show p + 6 = p + 1 + 5 by omega]; exact r4)
def Str (s : ByteArray) (p e : Int) : Prop := 0 ≤ p ∧ bt s p = 34 ∧ ∃ j, e = j + 1 ∧ p + 1 ≤ j ∧ e ≤ s.size ∧ bt s j = 34 ∧ Bod s j (p + 1)
theorem quoted_ev (s : ByteArray) (hz : s.size ≤ 65536) (p : Int) (h0 : 0 ≤ p) (h1 : p < s.size) (h34 : bt s p = 34) : RdTo s (fun k => spec_reader_quoted.f k s p) (p + 1) (Str s p) := by
 refine RdTo.congr (f := fun k => spec_reader_quoted.l0 k s (p + 1)) (fun k => ?_) ((quo_l0 s hz ((s.size : Int) - p + 1).toNat (p + 1) (by omega) (by omega) (by omega)).mono (by omega) (fun e q0 q1 h => ?_))
 ·simp only [spec_reader_quoted.f]; rw [w64 (by omega) (by omega)]
 ·obtain ⟨j, r1, r2, r3, r4⟩ := h
  exact ⟨h0, h34, j, r1, r2, q1, r3, r4⟩
def Wd (s : ByteArray) (p e : Int) (l : ByteArray) : Prop := e = p + l.size ∧ e ≤ s.size ∧ (s.extract p.toNat e.toNat).toList = l.toList
theorem word_ev (s : ByteArray) (hz : s.size ≤ 65536) (p : Int) (l : ByteArray) (h0 : 0 ≤ p) (h1 : p ≤ s.size) (hl : l.size ≤ 10) :
  (spec_reader_word.f s p l = some (true, s, p + l.size) ∧ Wd s p (p + l.size) l) ∨ spec_reader_word.f s p l = some (false, s, p) := by
 unfold spec_reader_word.f
 by_cases c : (s.size : Int) - p < l.size
 ·right; rw [w64 (by omega) (by omega), if_pos c]
 rw [w64 (x := (s.size : Int) - p) (by omega) (by omega), if_neg c, if_pos h0, w64 (by omega) (by omega), if_pos (by omega), if_pos (by omega)]
 by_cases e : (s.extract p.toNat (p + (l.size : Int)).toNat).toList = l.toList
 ·left; rw [if_pos e]; exact ⟨rfl, rfl, by omega, e⟩
 ·right; rw [if_neg e]
def wNull : ByteArray := ⟨#[110, 117, 108, 108]⟩
def wFalse : ByteArray := ⟨#[102, 97, 108, 115, 101]⟩
def wTrue : ByteArray := ⟨#[116, 114, 117, 101]⟩
end Go.Proofs.YtgiioglmkogpkaaGreatDoor.L
namespace Go.Proofs.YtgiioglmkogpkaaGreatDoor.V
open Go.RowKit Go.Proofs.YtgiioglmkogpkaaGreatDoorW.PrintWords Go.Proofs.YtgiioglmkogpkaaGreatDoorW.PrintLast Go.Proofs.YtgiioglmkogpkaaGreatDoorW.PrintMore
open M L
def NumG (s : ByteArray) (st e : Int) : Prop := ∃ a b c, ((a = st ∧ bt s st ≠ 45) ∨ (a = st + 1 ∧ bt s st = 45)) ∧ a < b ∧ b ≤ c ∧ c ≤ e ∧ e ≤ s.size ∧ (bt s a = 48 → b = a + 1) ∧
 (∀ i, a ≤ i → i < b → dig (bt s i)) ∧ FracTo s b c ∧ ExpTo s c e
theorem num_int' (s : ByteArray) (hz : s.size ≤ 65536) (a : Int) (h0 : 0 ≤ a) (h1 : a ≤ s.size) :
  RdTo s (fun k => (spec_reader_take.f s a 48).bind fun t => (if t.1 = true then (spec_reader_number.j0 k false t.2.1 t.2.2) else ((spec_reader_digits.f k t.2.1 t.2.2).bind fun u => (spec_reader_number.j0 k (!u.1) u.2.1 u.2.2)))) a
   (fun e => ∃ b c, a < b ∧ b ≤ c ∧ c ≤ e ∧ (bt s a = 48 → b = a + 1) ∧ (∀ i, a ≤ i → i < b → dig (bt s i)) ∧ FracTo s b c ∧ ExpTo s c e) := by
 by_cases h48 : a < (s.size : Int) ∧ bt s a = 48
 ·refine RdTo.congr (f := fun k => spec_reader_number.j0 k false s (a + 1)) (fun k => ?_) ((num_j0 s hz (a + 1) false (by omega) (by omega)).mono (by omega) (fun e q0 q1 h => ?_))
  ·rw [take_yes s _ _ h0 hz h48.1 h48.2]; simp only [Option.bind_some, if_true]
  obtain ⟨_, c, c0, c1, hf, he⟩ := h
  refine ⟨a + 1, c, by omega, c0, c1, fun _ => rfl, fun i x y => ?_, hf, he⟩
  obtain rfl : i = a := by omega
  rw [h48.2]; exact ⟨by omega, by omega⟩
 obtain ⟨b, he, e0, e1, e2, e3⟩ := digits_ev s hz a h0 h1
 refine RdTo.congr (f := fun k => (spec_reader_digits.f k s a).bind fun u => (spec_reader_number.j0 k (!u.1) u.2.1 u.2.2)) (fun k => ?_) (RdTo.bind he ?_)
 ·rw [take_no s _ _ h0 h1 hz h48]; simp only [Option.bind_some, Bool.false_eq_true, if_false]
 refine (num_j0 s hz b (!decide (b > a)) (by omega) e1).mono (by omega) (fun e q0 q1 h => ?_)
 obtain ⟨hb, c, c0, c1, hf, he⟩ := h
 simp at hb
 exact ⟨b, c, hb, c0, c1, fun q => absurd ⟨by omega, q⟩ h48, e2, hf, he⟩
theorem numberG_ev (s : ByteArray) (hz : s.size ≤ 65536) (st : Int) (h0 : 0 ≤ st) (h1 : st ≤ s.size) : RdTo s (fun k => spec_reader_number.f k s st) st (NumG s st) := by
 by_cases h45 : st < (s.size : Int) ∧ bt s st = 45
 rotate_left
 ·refine RdTo.congr (fun k => ?_) ((num_int' s hz st h0 h1).mono (by omega) (fun e q0 q1 h => ?_))
  ·simp only [spec_reader_number.f]; rw [take_no s _ _ h0 h1 hz h45]; simp only [Option.bind_some]
  ·obtain ⟨b, c, x1, x2, x3, x4, x5, x6⟩ := h
   exact ⟨st, b, c, .inl ⟨rfl, fun q => h45 ⟨by omega, q⟩⟩, x1, x2, x3, q1, x4, x5, x6⟩
 refine RdTo.congr (fun k => ?_) ((num_int' s hz (st + 1) (by omega) (by omega)).mono (by omega) (fun e q0 q1 h => ?_))
 ·simp only [spec_reader_number.f]; rw [take_yes s _ _ h0 hz h45.1 h45.2]; simp only [Option.bind_some]
 ·obtain ⟨b, c, x1, x2, x3, x4, x5, x6⟩ := h
  exact ⟨st + 1, b, c, .inr ⟨rfl, h45.2⟩, x1, x2, x3, q1, x4, x5, x6⟩
def Bl (s : ByteArray) (a b : Int) : Prop := a ≤ b ∧ ∀ i, a ≤ i → i < b → isB (bt s i)
inductive It
 | val (q : S78)
 | els (p : Int) (C : List S78) (e : Int)
 | mems (p : Int) (N : List S115) (C : List S78) (e : Int)
inductive G (s : ByteArray) : It → Prop
 | num (p e : Int) : 0 ≤ p → NumG s p e → G s (.val ⟨3, p, e, [], []⟩)
 | str (p e : Int) : Str s p e → G s (.val ⟨4, p, e, [], []⟩)
 | null (p e : Int) : 0 ≤ p → Wd s p e wNull → G s (.val ⟨0, p, e, [], []⟩)
 | fals (p e : Int) : 0 ≤ p → Wd s p e wFalse → G s (.val ⟨1, p, e, [], []⟩)
 | tru (p e : Int) : 0 ≤ p → Wd s p e wTrue → G s (.val ⟨2, p, e, [], []⟩)
 | arr0 (p b : Int) : 0 ≤ p → bt s p = 91 → Bl s (p + 1) b → b < s.size → bt s b = 93 → G s (.val ⟨5, p, b + 1, [], []⟩)
 | arr (p b e : Int) (C : List S78) : 0 ≤ p → bt s p = 91 → Bl s (p + 1) b → G s (.els b C e) → G s (.val ⟨5, p, e, [], C⟩)
 | obj0 (p b : Int) : 0 ≤ p → bt s p = 123 → Bl s (p + 1) b → b < s.size → bt s b = 125 → G s (.val ⟨6, p, b + 1, [], []⟩)
 | obj (p b e : Int) (N : List S115) (C : List S78) : 0 ≤ p → bt s p = 123 → Bl s (p + 1) b → G s (.mems b N C e) → G s (.val ⟨6, p, e, N, C⟩)
 | els1 (c : S78) (b : Int) : G s (.val c) → Bl s c.f2 b → b < s.size → bt s b = 93 → G s (.els c.f1 [c] (b + 1))
 | elsn (c : S78) (b p e : Int) (C : List S78) : G s (.val c) → Bl s c.f2 b → b < s.size → bt s b = 44 → Bl s (b + 1) p → G s (.els p C e) → G s (.els c.f1 (c :: C) e)
 | mem1 (n : S115) (c : S78) (b x : Int) : Str s n.f0 n.f1 → Bl s n.f1 b → bt s b = 58 → Bl s (b + 1) c.f1 → G s (.val c) → Bl s c.f2 x → x < s.size → bt s x = 125 → G s (.mems n.f0 [n] [c] (x + 1))
 | memn (n : S115) (c : S78) (b x p e : Int) (N : List S115) (C : List S78) : Str s n.f0 n.f1 → Bl s n.f1 b → bt s b = 58 → Bl s (b + 1) c.f1 → G s (.val c) → Bl s c.f2 x → x < s.size → bt s x = 44 → Bl s (x + 1) p → G s (.mems p N C e) → G s (.mems n.f0 (n :: N) (c :: C) e)
def It.ok (s : ByteArray) : It → Prop
 | .val q => 0 ≤ q.f1 ∧ q.f1 < q.f2 ∧ q.f2 ≤ s.size ∧ (q.f3.length : Int) ≤ q.f2 ∧ (q.f4.length : Int) ≤ q.f2
 | .els p C e => 0 ≤ p ∧ p < e ∧ e ≤ s.size ∧ p + C.length ≤ e
 | .mems p N C e => 0 ≤ p ∧ p < e ∧ e ≤ s.size ∧ p + N.length ≤ e ∧ p + C.length ≤ e
theorem G.ok {s : ByteArray} {it : It} (h : G s it) : it.ok s := by
 induction h with
 | num p e h0 h =>
  obtain ⟨a, b, c, n1, n2, n3, n4, n5, _⟩ := h
  refine ⟨h0, ?_, n5, ?_, ?_⟩ <;> (try dsimp only [List.length_nil]) <;> rcases n1 with ⟨rfl, _⟩ | ⟨rfl, _⟩ <;> omega
 | str p e h =>
  obtain ⟨h0, _, j, h1, h2, h3, _⟩ := h
  refine ⟨h0, ?_, h3, ?_, ?_⟩ <;> (try dsimp only [List.length_nil]) <;> omega
 | null p e h0 h => obtain ⟨h1, h2, _⟩ := h; have : wNull.size = 4 := rfl; refine ⟨h0, ?_, h2, ?_, ?_⟩ <;> (try dsimp only [List.length_nil]) <;> omega
 | fals p e h0 h => obtain ⟨h1, h2, _⟩ := h; have : wFalse.size = 5 := rfl; refine ⟨h0, ?_, h2, ?_, ?_⟩ <;> (try dsimp only [List.length_nil]) <;> omega
 | tru p e h0 h => obtain ⟨h1, h2, _⟩ := h; have : wTrue.size = 4 := rfl; refine ⟨h0, ?_, h2, ?_, ?_⟩ <;> (try dsimp only [List.length_nil]) <;> omega
 | arr0 p b h0 h1 h2 h3 h4 => have := h2.1; refine ⟨h0, ?_, ?_, ?_, ?_⟩ <;> (try dsimp only [List.length_nil]) <;> omega
 | arr p b e C h0 h1 h2 h3 ih => have := h2.1; obtain ⟨i0, i1, i2, i3⟩ := ih; refine ⟨h0, ?_, ?_, ?_, ?_⟩ <;> (try dsimp only [List.length_nil]) <;> omega
 | obj0 p b h0 h1 h2 h3 h4 => have := h2.1; refine ⟨h0, ?_, ?_, ?_, ?_⟩ <;> (try dsimp only [List.length_nil]) <;> omega
 | obj p b e N C h0 h1 h2 h3 ih => have := h2.1; obtain ⟨i0, i1, i2, i3, i4⟩ := ih; refine ⟨h0, ?_, ?_, ?_, ?_⟩ <;> (try dsimp only) <;> omega
 | els1 c b h0 h1 h2 h3 ih => have := h1.1; obtain ⟨i0, i1, i2, i3⟩ := ih; refine ⟨i0, ?_, ?_, ?_⟩ <;> (try dsimp only [List.length_nil, List.length_cons]) <;> omega
 | elsn c b p e C h0 h1 h2 h3 h4 h5 ih ih2 => have := h1.1; have := h4.1; obtain ⟨i0, i1, i2, i3⟩ := ih; obtain ⟨j0, j1, j2, j3⟩ := ih2; refine ⟨i0, ?_, ?_, ?_⟩ <;> (try dsimp only [List.length_cons]) <;> omega
 | mem1 n c b x h0 h1 h2 h3 h4 h5 h6 h7 ih =>
  have := h1.1; have := h3.1; have := h5.1; obtain ⟨k0, _, j, k1, k2, k3, _⟩ := h0; obtain ⟨i0, i1, i2, i3⟩ := ih; refine ⟨k0, ?_, ?_, ?_, ?_⟩ <;> (try dsimp only [List.length_nil, List.length_cons]) <;> omega
 | memn n c b x p e N C h0 h1 h2 h3 h4 h5 h6 h7 h8 h9 ih ih2 =>
  have := h1.1; have := h3.1; have := h5.1; have := h8.1; obtain ⟨k0, _, j, k1, k2, k3, _⟩ := h0; obtain ⟨i0, i1, i2, i3⟩ := ih; obtain ⟨j0, j1, j2, j3, j4⟩ := ih2; refine ⟨k0, ?_, ?_, ?_, ?_⟩ <;> (try dsimp only [List.length_nil, List.length_cons]) <;> omega
def ValTo (s : ByteArray) (p : Int) : Prop := ∃ K e N C ok, Ev (fun k => spec_reader_value.f k s p) (K, p, e, N, C, ok, s, e) ∧ p ≤ e ∧ e ≤ s.size ∧ (ok = true → G s (.val ⟨K, p, e, N, C⟩))
def ElTo (s : ByteArray) (g : Nat → Option ((List S78) × Bool × ByteArray × Int)) (C : List S78) (p : Int) (P : List S78 → Int → Prop) : Prop := ∃ D ok e, Ev g (D, ok, s, e) ∧ p ≤ e ∧ e ≤ s.size ∧ (ok = true → ∃ C', D = C ++ C' ∧ P C' e)
theorem ElTo.mono {s : ByteArray} {g : Nat → Option ((List S78) × Bool × ByteArray × Int)} {C C' : List S78} {p p' : Int} {P P' : List S78 → Int → Prop} (h : ElTo s g C p P) (hp : p' ≤ p) (hC : ∀ D e, P D e → ∃ D', C ++ D = C' ++ D' ∧ P' D' e) : ElTo s g C' p' P' := by
 obtain ⟨D, ok, e, h1, h2, h3, h4⟩ := h
 refine ⟨D, ok, e, h1, by omega, h3, fun q => ?_⟩
 obtain ⟨E, rfl, hE⟩ := h4 q
 exact hC E e hE
theorem ElTo.step {s : ByteArray} {g f : Nat → Option ((List S78) × Bool × ByteArray × Int)} {C : List S78} {p : Int} {P : List S78 → Int → Prop} (hs : ∀ k, g (k + 1) = f k) (h : ElTo s f C p P) : ElTo s g C p P := by
 obtain ⟨D, ok, e, h1, h2⟩ := h
 exact ⟨D, ok, e, Ev.step hs h1, h2⟩
theorem ElTo.congr {s : ByteArray} {g f : Nat → Option ((List S78) × Bool × ByteArray × Int)} {C : List S78} {p : Int} {P : List S78 → Int → Prop} (hs : ∀ k, g k = f k) (h : ElTo s f C p P) : ElTo s g C p P := by
 obtain ⟨D, ok, e, h1, h2⟩ := h
 exact ⟨D, ok, e, Ev.congr hs h1, h2⟩
theorem ElTo.bind {α : Type} {s : ByteArray} {g : Nat → Option α} {f : Nat → α → Option ((List S78) × Bool × ByteArray × Int)} {a : α} {C : List S78} {p : Int} {P : List S78 → Int → Prop} (hg : Ev g a) (h : ElTo s (fun k => f k a) C p P) : ElTo s (fun k => (g k).bind (f k)) C p P := by
 obtain ⟨D, ok, e, h1, h2⟩ := h
 exact ⟨D, ok, e, Ev.bind hg h1, h2⟩
theorem ElTo.no {s : ByteArray} {g : Nat → Option ((List S78) × Bool × ByteArray × Int)} {p e : Int} {C D : List S78} {P : List S78 → Int → Prop} (hs : Ev g (D, false, s, e)) (h0 : p ≤ e) (h1 : e ≤ s.size) : ElTo s g C p P := ⟨D, false, e, hs, h0, h1, fun q => by cases q⟩
theorem el_l0 (s : ByteArray) (hz : s.size ≤ 65536) (p0 : Int) (IH : ∀ p, p0 < p → p ≤ s.size → ValTo s p) (h00 : 0 ≤ p0) : ∀ (n : Nat) (C : List S78) (p : Int), p0 < p → p ≤ s.size → (s.size : Int) - p < n → (C.length : Int) ≤ p →
  ElTo s (fun k => spec_reader_elements.l0 k C s p) C p (fun D e => G s (.els p D e)) := by
 intro n
 induction n with
 | zero => intro C p h0 h1 h2 hC; omega
 | succ n ih =>
  intro C p h0 h1 h2 hC
  obtain ⟨K, e, N, D, ok, hv, e0, e1, hok⟩ := IH p h0 h1
  refine ElTo.step (f := fun k => (spec_reader_value.f k s p).bind fun t => (if t.2.2.2.2.2.1 = true then (if C.length < 1954687338268 then ((some (C ++ [(⟨t.1, t.2.1, t.2.2.1, t.2.2.2.1, t.2.2.2.2.1⟩ : S78)] : List (S78))).bind fun y => ((spec_reader_blanks.f k t.2.2.2.2.2.2.1 t.2.2.2.2.2.2.2).bind fun b => ((spec_reader_take.f b.1 b.2 93).bind fun u => (if u.1 = true then (some (y, true, u.2.1, u.2.2)) else ((spec_reader_take.f u.2.1 u.2.2 44).bind fun v => (if v.1 = true then ((spec_reader_blanks.f k v.2.1 v.2.2).bind fun z => (spec_reader_elements.l0 k y z.1 z.2)) else (some (([] : List (S78)), false, v.2.1, v.2.2)))))))) else (none)) else (some (([] : List (S78)), false, t.2.2.2.2.2.2.1, t.2.2.2.2.2.2.2)))) (fun k => ?_) (ElTo.bind hv ?_)
  ·simp only [spec_reader_elements.l0]
  cases ok with
  | false => exact ElTo.congr (f := fun _ => some ([], false, s, e)) (fun k => by simp) (ElTo.no (Ev.now _) e0 e1)
  | true =>
   have g := hok rfl
   obtain ⟨b, hb, b0, b1, b2, b3⟩ := blanksf_ev s hz e (by omega) e1
   obtain ⟨_, g0, _⟩ := g.ok
   dsimp only at g0
   refine ElTo.congr (f := fun k => (spec_reader_blanks.f k s e).bind fun b => ((spec_reader_take.f b.1 b.2 93).bind fun u => (if u.1 = true then (some (C ++ [⟨K, p, e, N, D⟩], true, u.2.1, u.2.2)) else ((spec_reader_take.f u.2.1 u.2.2 44).bind fun v => (if v.1 = true then ((spec_reader_blanks.f k v.2.1 v.2.2).bind fun z => (spec_reader_elements.l0 k (C ++ [⟨K, p, e, N, D⟩]) z.1 z.2)) else (some (([] : List (S78)), false, v.2.1, v.2.2))))))) (fun k => ?_) (ElTo.bind hb ?_)
   ·simp only [if_true]; rw [if_pos (by omega)]; simp only [Option.bind_some]
   by_cases c93 : b < (s.size : Int) ∧ bt s b = 93
   ·refine ElTo.congr (f := fun k => some (C ++ [⟨K, p, e, N, D⟩], true, s, b + 1)) (fun k => ?_) ⟨_, true, b + 1, Ev.now _, by omega, by omega, fun _ => ⟨_, rfl, .els1 ⟨K, p, e, N, D⟩ b g ⟨b0, b2⟩ c93.1 c93.2⟩⟩
    rw [take_yes s b 93 (by omega) hz c93.1 c93.2]; simp only [Option.bind_some, if_true]
   by_cases c44 : b < (s.size : Int) ∧ bt s b = 44
   rotate_left
   ·refine ElTo.congr (f := fun k => some ([], false, s, b)) (fun k => ?_) (ElTo.no (Ev.now _) (by omega) b1)
    rw [take_no s b 93 (by omega) b1 hz c93]; simp only [Option.bind_some, Bool.false_eq_true, if_false]; rw [take_no s b 44 (by omega) b1 hz c44]; simp only [Option.bind_some, Bool.false_eq_true, if_false]
   obtain ⟨z, hzz, z0, z1, z2, z3⟩ := blanksf_ev s hz (b + 1) (by omega) (by omega)
   refine ElTo.congr (f := fun k => (spec_reader_blanks.f k s (b + 1)).bind fun z => (spec_reader_elements.l0 k (C ++ [⟨K, p, e, N, D⟩]) z.1 z.2)) (fun k => ?_) (ElTo.bind hzz ((ih _ z (by omega) z1 (by omega) (by simp; omega)).mono (by omega) (fun D' e' hD => ⟨⟨K, p, e, N, D⟩ :: D', by simp, .elsn ⟨K, p, e, N, D⟩ b z e' D' g ⟨b0, b2⟩ c44.1 c44.2 ⟨z0, z2⟩ hD⟩)))
   rw [take_no s b 93 (by omega) b1 hz c93]; simp only [Option.bind_some, Bool.false_eq_true, if_false]; rw [take_yes s b 44 (by omega) hz c44.1 c44.2]; simp only [Option.bind_some, if_true]
theorem el_f (s : ByteArray) (hz : s.size ≤ 65536) (p : Int) (h0 : 0 ≤ p) (h1 : p < s.size) (h91 : bt s p = 91) (IH : ∀ q, p < q → q ≤ s.size → ValTo s q) : ElTo s (fun k => spec_reader_elements.f k s p) [] p (fun C e => G s (.val ⟨5, p, e, [], C⟩)) := by
 obtain ⟨b, hb, b0, b1, b2, b3⟩ := blanksf_ev s hz (p + 1) (by omega) (by omega)
 refine ElTo.step (f := fun k => (spec_reader_blanks.f k s (p + 1)).bind fun b => ((spec_reader_take.f b.1 b.2 93).bind fun t => (if t.1 = true then (some (([] : List (S78)), true, t.2.1, t.2.2)) else (spec_reader_elements.l0 k ([] : List (S78)) t.2.1 t.2.2)))) (fun k => ?_) (ElTo.bind hb ?_)
 ·simp only [spec_reader_elements.f]; rw [w64 (by omega) (by omega)]
 by_cases c93 : b < (s.size : Int) ∧ bt s b = 93
 ·refine ElTo.congr (f := fun k => some ([], true, s, b + 1)) (fun k => ?_) ⟨_, true, b + 1, Ev.now _, by omega, by omega, fun _ => ⟨[], rfl, .arr0 p b h0 h91 ⟨b0, b2⟩ c93.1 c93.2⟩⟩
  rw [take_yes s b 93 (by omega) hz c93.1 c93.2]; simp only [Option.bind_some, if_true]
 ·refine ElTo.congr (f := fun k => spec_reader_elements.l0 k ([] : List (S78)) s b) (fun k => ?_) ((el_l0 s hz p IH h0 ((s.size : Int) - b + 1).toNat [] b (by omega) b1 (by omega) (by simp; omega)).mono (by omega) (fun D e hD => ⟨D, rfl, .arr p b e D h0 h91 ⟨b0, b2⟩ hD⟩))
  rw [take_no s b 93 (by omega) b1 hz c93]; simp only [Option.bind_some, Bool.false_eq_true, if_false]
def MeTo (s : ByteArray) (g : Nat → Option ((List S115) × (List S78) × Bool × ByteArray × Int)) (N : List S115) (C : List S78) (p : Int) (P : List S115 → List S78 → Int → Prop) : Prop := ∃ M D ok e, Ev g (M, D, ok, s, e) ∧ p ≤ e ∧ e ≤ s.size ∧ (ok = true → ∃ N' C', M = N ++ N' ∧ D = C ++ C' ∧ P N' C' e)
theorem MeTo.mono {s : ByteArray} {g : Nat → Option ((List S115) × (List S78) × Bool × ByteArray × Int)} {N N' : List S115} {C C' : List S78} {p p' : Int} {P P' : List S115 → List S78 → Int → Prop} (h : MeTo s g N C p P) (hp : p' ≤ p) (hC : ∀ M D e, P M D e → ∃ M' D', N ++ M = N' ++ M' ∧ C ++ D = C' ++ D' ∧ P' M' D' e) : MeTo s g N' C' p' P' := by
 obtain ⟨M, D, ok, e, h1, h2, h3, h4⟩ := h
 refine ⟨M, D, ok, e, h1, by omega, h3, fun q => ?_⟩
 obtain ⟨E, F, rfl, rfl, hE⟩ := h4 q
 exact hC E F e hE
theorem MeTo.step {s : ByteArray} {g f : Nat → Option ((List S115) × (List S78) × Bool × ByteArray × Int)} {N : List S115} {C : List S78} {p : Int} {P : List S115 → List S78 → Int → Prop} (hs : ∀ k, g (k + 1) = f k) (h : MeTo s f N C p P) : MeTo s g N C p P := by
 obtain ⟨M, D, ok, e, h1, h2⟩ := h
 exact ⟨M, D, ok, e, Ev.step hs h1, h2⟩
theorem MeTo.congr {s : ByteArray} {g f : Nat → Option ((List S115) × (List S78) × Bool × ByteArray × Int)} {N : List S115} {C : List S78} {p : Int} {P : List S115 → List S78 → Int → Prop} (hs : ∀ k, g k = f k) (h : MeTo s f N C p P) : MeTo s g N C p P := by
 obtain ⟨M, D, ok, e, h1, h2⟩ := h
 exact ⟨M, D, ok, e, Ev.congr hs h1, h2⟩
theorem MeTo.bind {α : Type} {s : ByteArray} {g : Nat → Option α} {f : Nat → α → Option ((List S115) × (List S78) × Bool × ByteArray × Int)} {a : α} {N : List S115} {C : List S78} {p : Int} {P : List S115 → List S78 → Int → Prop} (hg : Ev g a) (h : MeTo s (fun k => f k a) N C p P) : MeTo s (fun k => (g k).bind (f k)) N C p P := by
 obtain ⟨M, D, ok, e, h1, h2⟩ := h
 exact ⟨M, D, ok, e, Ev.bind hg h1, h2⟩
theorem MeTo.no {s : ByteArray} {g : Nat → Option ((List S115) × (List S78) × Bool × ByteArray × Int)} {p e : Int} {N M : List S115} {C D : List S78} {P : List S115 → List S78 → Int → Prop} (hs : Ev g (M, D, false, s, e)) (h0 : p ≤ e) (h1 : e ≤ s.size) : MeTo s g N C p P := ⟨M, D, false, e, hs, h0, h1, fun q => by cases q⟩
theorem me_l0 (s : ByteArray) (hz : s.size ≤ 65536) (p0 : Int) (IH : ∀ p, p0 < p → p ≤ s.size → ValTo s p) (h00 : 0 ≤ p0) : ∀ (n : Nat) (N : List S115) (C : List S78) (p : Int), p0 < p → p ≤ s.size → (s.size : Int) - p < n → (N.length : Int) ≤ p → (C.length : Int) ≤ p →
  MeTo s (fun k => spec_reader_members.l0 k N C s p) N C p (fun M D e => G s (.mems p M D e)) := by
 intro n
 induction n with
 | zero => intro N C p h0 h1 h2 hN hC; omega
 | succ n ih =>
  intro N C p h0 h1 h2 hN hC
  by_cases h34 : p < (s.size : Int) ∧ bt s p = 34
  rotate_left
  ·refine MeTo.step (f := fun k => spec_reader_members.j1 k N C p true s p) (fun k => ?_) (MeTo.step (f := fun _ => some ([], [], false, s, p)) (fun k => by simp only [spec_reader_members.j1, if_true]) (MeTo.no (Ev.now _) (by omega) h1))
   simp only [spec_reader_members.l0]; rw [here_f s p (by omega)]; simp only [Option.bind_some]; rw [if_neg]
   rw [hr]
   by_cases q : p < (s.size : Int)
   ·rw [if_pos q]; exact fun r => h34 ⟨q, r⟩
   ·rw [if_neg q]; omega
  obtain ⟨ok, q, hq, q0, q1, hS⟩ := quoted_ev s hz p (by omega) h34.1 h34.2
  refine MeTo.step (f := fun k => (spec_reader_quoted.f k s p).bind fun t => (spec_reader_members.j1 k N C p (!t.1) t.2.1 t.2.2)) (fun k => ?_) (MeTo.bind hq ?_)
  ·simp only [spec_reader_members.l0]; rw [here_f s p (by omega)]; simp only [Option.bind_some]; rw [if_pos (by rw [hr, if_pos h34.1]; exact h34.2)]
  cases ok with
  | false => exact MeTo.step (f := fun _ => some ([], [], false, s, q)) (fun k => by simp only [spec_reader_members.j1]; rw [if_pos (by rfl)]) (MeTo.no (Ev.now _) (by omega) q1)
  | true =>
   have hStr := hS rfl
   obtain ⟨b, hb, b0, b1, b2, b3⟩ := blanksf_ev s hz q (by omega) q1
   refine MeTo.step (f := fun k => (spec_reader_blanks.f k s q).bind fun b => ((spec_reader_take.f b.1 b.2 58).bind fun t => (if t.1 = true then ((spec_reader_blanks.f k t.2.1 t.2.2).bind fun y => ((spec_reader_value.f k y.1 y.2).bind fun v => (if v.2.2.2.2.2.1 = true then (if C.length < 1954687338268 then ((some (C ++ [(⟨v.1, v.2.1, v.2.2.1, v.2.2.2.1, v.2.2.2.2.1⟩ : S78)] : List (S78))).bind fun y186 => ((spec_reader_blanks.f k v.2.2.2.2.2.2.1 v.2.2.2.2.2.2.2).bind fun bt189 => ((spec_reader_take.f bt189.1 bt189.2 125).bind fun bt191 => (if bt191.1 = true then (some (N ++ [⟨p, q⟩], y186, true, bt191.2.1, bt191.2.2)) else ((spec_reader_take.f bt191.2.1 bt191.2.2 44).bind fun bt194 => (if bt194.1 = true then ((spec_reader_blanks.f k bt194.2.1 bt194.2.2).bind fun bt197 => (spec_reader_members.l0 k (N ++ [⟨p, q⟩]) y186 bt197.1 bt197.2)) else (some (([] : List (S115)), ([] : List (S78)), false, bt194.2.1, bt194.2.2)))))))) else (none)) else (some (([] : List (S115)), ([] : List (S78)), false, v.2.2.2.2.2.2.1, v.2.2.2.2.2.2.2))))) else (some (([] : List (S115)), ([] : List (S78)), false, t.2.1, t.2.2))))) (fun k => ?_) (MeTo.bind hb ?_)
   ·simp only [spec_reader_members.j1, Bool.not_true, Bool.false_eq_true, if_false]; rw [if_pos (by omega)]; simp only [Option.bind_some]
   by_cases c58 : b < (s.size : Int) ∧ bt s b = 58
   rotate_left
   ·refine MeTo.congr (f := fun k => some ([], [], false, s, b)) (fun k => ?_) (MeTo.no (Ev.now _) (by omega) b1)
    rw [take_no s b 58 (by omega) b1 hz c58]; simp only [Option.bind_some, Bool.false_eq_true, if_false]
   obtain ⟨y, hy, y0, y1, y2, y3⟩ := blanksf_ev s hz (b + 1) (by omega) (by omega)
   obtain ⟨K, e, N', D, ok, hv, e0, e1, hok⟩ := IH y (by omega) y1
   refine MeTo.congr (f := fun k => (spec_reader_blanks.f k s (b + 1)).bind fun y => ((spec_reader_value.f k y.1 y.2).bind fun v => (if v.2.2.2.2.2.1 = true then (if C.length < 1954687338268 then ((some (C ++ [(⟨v.1, v.2.1, v.2.2.1, v.2.2.2.1, v.2.2.2.2.1⟩ : S78)] : List (S78))).bind fun y186 => ((spec_reader_blanks.f k v.2.2.2.2.2.2.1 v.2.2.2.2.2.2.2).bind fun bt189 => ((spec_reader_take.f bt189.1 bt189.2 125).bind fun bt191 => (if bt191.1 = true then (some (N ++ [⟨p, q⟩], y186, true, bt191.2.1, bt191.2.2)) else ((spec_reader_take.f bt191.2.1 bt191.2.2 44).bind fun bt194 => (if bt194.1 = true then ((spec_reader_blanks.f k bt194.2.1 bt194.2.2).bind fun bt197 => (spec_reader_members.l0 k (N ++ [⟨p, q⟩]) y186 bt197.1 bt197.2)) else (some (([] : List (S115)), ([] : List (S78)), false, bt194.2.1, bt194.2.2)))))))) else (none)) else (some (([] : List (S115)), ([] : List (S78)), false, v.2.2.2.2.2.2.1, v.2.2.2.2.2.2.2))))) (fun k => ?_) (MeTo.bind hy (MeTo.bind hv ?_))
   ·rw [take_yes s b 58 (by omega) hz c58.1 c58.2]; simp only [Option.bind_some, if_true]
   cases ok with
   | false => exact MeTo.congr (f := fun _ => some ([], [], false, s, e)) (fun k => by simp) (MeTo.no (Ev.now _) (by omega) e1)
   | true =>
    have g := hok rfl
    obtain ⟨_, g0, _⟩ := g.ok
    dsimp only at g0
    obtain ⟨x, hx, x0, x1, x2, x3⟩ := blanksf_ev s hz e (by omega) e1
    refine MeTo.congr (f := fun k => (spec_reader_blanks.f k s e).bind fun bt189 => ((spec_reader_take.f bt189.1 bt189.2 125).bind fun bt191 => (if bt191.1 = true then (some (N ++ [⟨p, q⟩], C ++ [⟨K, y, e, N', D⟩], true, bt191.2.1, bt191.2.2)) else ((spec_reader_take.f bt191.2.1 bt191.2.2 44).bind fun bt194 => (if bt194.1 = true then ((spec_reader_blanks.f k bt194.2.1 bt194.2.2).bind fun bt197 => (spec_reader_members.l0 k (N ++ [⟨p, q⟩]) (C ++ [⟨K, y, e, N', D⟩]) bt197.1 bt197.2)) else (some (([] : List (S115)), ([] : List (S78)), false, bt194.2.1, bt194.2.2))))))) (fun k => ?_) (MeTo.bind hx ?_)
    ·simp only [if_true]; rw [if_pos (by omega)]; simp only [Option.bind_some]
    by_cases c125 : x < (s.size : Int) ∧ bt s x = 125
    ·refine MeTo.congr (f := fun k => some (N ++ [⟨p, q⟩], C ++ [⟨K, y, e, N', D⟩], true, s, x + 1)) (fun k => ?_) ⟨_, _, true, x + 1, Ev.now _, by omega, by omega, fun _ => ⟨_, _, rfl, rfl, .mem1 ⟨p, q⟩ ⟨K, y, e, N', D⟩ b x hStr ⟨b0, b2⟩ c58.2 ⟨y0, y2⟩ g ⟨x0, x2⟩ c125.1 c125.2⟩⟩
     rw [take_yes s x 125 (by omega) hz c125.1 c125.2]; simp only [Option.bind_some, if_true]
    by_cases c44 : x < (s.size : Int) ∧ bt s x = 44
    rotate_left
    ·refine MeTo.congr (f := fun k => some ([], [], false, s, x)) (fun k => ?_) (MeTo.no (Ev.now _) (by omega) x1)
     rw [take_no s x 125 (by omega) x1 hz c125]; simp only [Option.bind_some, Bool.false_eq_true, if_false]; rw [take_no s x 44 (by omega) x1 hz c44]; simp only [Option.bind_some, Bool.false_eq_true, if_false]
    obtain ⟨z, hzz, z0, z1, z2, z3⟩ := blanksf_ev s hz (x + 1) (by omega) (by omega)
    refine MeTo.congr (f := fun k => (spec_reader_blanks.f k s (x + 1)).bind fun z => (spec_reader_members.l0 k (N ++ [⟨p, q⟩]) (C ++ [⟨K, y, e, N', D⟩]) z.1 z.2)) (fun k => ?_) (MeTo.bind hzz ((ih _ _ z (by omega) z1 (by omega) (by simp; omega) (by simp; omega)).mono (by omega) (fun M' D' e' hD => ⟨⟨p, q⟩ :: M', ⟨K, y, e, N', D⟩ :: D', by simp, by simp, .memn ⟨p, q⟩ ⟨K, y, e, N', D⟩ b x z e' M' D' hStr ⟨b0, b2⟩ c58.2 ⟨y0, y2⟩ g ⟨x0, x2⟩ c44.1 c44.2 ⟨z0, z2⟩ hD⟩)))
    rw [take_no s x 125 (by omega) x1 hz c125]; simp only [Option.bind_some, Bool.false_eq_true, if_false]; rw [take_yes s x 44 (by omega) hz c44.1 c44.2]; simp only [Option.bind_some, if_true]
theorem me_f (s : ByteArray) (hz : s.size ≤ 65536) (p : Int) (h0 : 0 ≤ p) (h1 : p < s.size) (h123 : bt s p = 123) (IH : ∀ q, p < q → q ≤ s.size → ValTo s q) : MeTo s (fun k => spec_reader_members.f k s p) [] [] p (fun N C e => G s (.val ⟨6, p, e, N, C⟩)) := by
 obtain ⟨b, hb, b0, b1, b2, b3⟩ := blanksf_ev s hz (p + 1) (by omega) (by omega)
 refine MeTo.step (f := fun k => (spec_reader_blanks.f k s (p + 1)).bind fun b => ((spec_reader_take.f b.1 b.2 125).bind fun t => (if t.1 = true then (some (([] : List (S115)), ([] : List (S78)), true, t.2.1, t.2.2)) else (spec_reader_members.l0 k ([] : List (S115)) ([] : List (S78)) t.2.1 t.2.2)))) (fun k => ?_) (MeTo.bind hb ?_)
 ·simp only [spec_reader_members.f]; rw [w64 (by omega) (by omega)]
 by_cases c93 : b < (s.size : Int) ∧ bt s b = 125
 ·refine MeTo.congr (f := fun k => some ([], [], true, s, b + 1)) (fun k => ?_) ⟨_, _, true, b + 1, Ev.now _, by omega, by omega, fun _ => ⟨[], [], rfl, rfl, .obj0 p b h0 h123 ⟨b0, b2⟩ c93.1 c93.2⟩⟩
  rw [take_yes s b 125 (by omega) hz c93.1 c93.2]; simp only [Option.bind_some, if_true]
 ·refine MeTo.congr (f := fun k => spec_reader_members.l0 k [] [] s b) (fun k => ?_) ((me_l0 s hz p IH h0 ((s.size : Int) - b + 1).toNat [] [] b (by omega) b1 (by omega) (by simp; omega) (by simp; omega)).mono (by omega) (fun M D e hD => ⟨M, D, rfl, rfl, .obj p b e M D h0 h123 ⟨b0, b2⟩ hD⟩))
  rw [take_no s b 125 (by omega) b1 hz c93]; simp only [Option.bind_some, Bool.false_eq_true, if_false]
theorem val_j0 (s : ByteArray) (hz : s.size ≤ 65536) (p : Int) (h0 : 0 ≤ p) (h1 : p ≤ s.size) (x : Bool) : ∃ K e N C ok, Ev (fun k => spec_reader_value.j0 k true x s p 0 p 0) (K, p, e, N, C, ok, s, e) ∧ p ≤ e ∧ e ≤ s.size ∧ (ok = true → G s (.val ⟨K, p, e, N, C⟩)) := by
 cases x with
 | true =>
  obtain ⟨ok, e, he, e0, e1, hG⟩ := numberG_ev s hz p h0 h1
  refine ⟨3, e, [], [], ok, Ev.step (f := fun k => (spec_reader_number.f k s p).bind fun t => some (3, p, t.2.2, [], [], t.1, t.2.1, t.2.2)) (fun k => by simp only [spec_reader_value.j0, if_true]) (Ev.bind he (Ev.now _)), e0, e1, fun hk => ?_⟩
  exact .num p e h0 (hG hk)
 | false =>
  rcases word_ev s hz p wNull h0 h1 (by decide) with ⟨hw, hW⟩ | hw
  ·refine ⟨0, _, [], [], true, Ev.step (f := fun k => some (0, p, p + wNull.size, [], [], true, s, p + wNull.size)) (fun k => ?_) (Ev.now _), by omega, hW.2.1, fun _ => .null p _ h0 hW⟩
   simp only [spec_reader_value.j0, Bool.false_eq_true, if_false]
   rw [show (⟨#[110, 117, 108, 108]⟩ : ByteArray) = wNull from rfl, hw]; simp only [Option.bind_some, if_true]
  rcases word_ev s hz p wFalse h0 h1 (by decide) with ⟨hw2, hW⟩ | hw2
  ·refine ⟨1, _, [], [], true, Ev.step (f := fun k => some (1, p, p + wFalse.size, [], [], true, s, p + wFalse.size)) (fun k => ?_) (Ev.now _), by omega, hW.2.1, fun _ => .fals p _ h0 hW⟩
   simp only [spec_reader_value.j0, Bool.false_eq_true, if_false]
   rw [show (⟨#[110, 117, 108, 108]⟩ : ByteArray) = wNull from rfl, hw]; simp only [Option.bind_some, Bool.false_eq_true, if_false]
   rw [show (⟨#[102, 97, 108, 115, 101]⟩ : ByteArray) = wFalse from rfl, hw2]; simp only [Option.bind_some, if_true]
  rcases word_ev s hz p wTrue h0 h1 (by decide) with ⟨hw3, hW⟩ | hw3
  rotate_left
  ·refine ⟨0, p, [], [], false, Ev.step (f := fun k => some (0, p, p, [], [], false, s, p)) (fun k => ?_) (Ev.now _), by omega, h1, fun h => by cases h⟩
   simp only [spec_reader_value.j0, Bool.false_eq_true, if_false]
   rw [show (⟨#[110, 117, 108, 108]⟩ : ByteArray) = wNull from rfl, hw]; simp only [Option.bind_some, Bool.false_eq_true, if_false]
   rw [show (⟨#[102, 97, 108, 115, 101]⟩ : ByteArray) = wFalse from rfl, hw2]; simp only [Option.bind_some, Bool.false_eq_true, if_false]
   rw [show (⟨#[116, 114, 117, 101]⟩ : ByteArray) = wTrue from rfl, hw3]; simp only [Option.bind_some, Bool.false_eq_true, if_false]
  refine ⟨2, _, [], [], true, Ev.step (f := fun k => some (2, p, p + wTrue.size, [], [], true, s, p + wTrue.size)) (fun k => ?_) (Ev.now _), by omega, hW.2.1, fun _ => .tru p _ h0 hW⟩
  simp only [spec_reader_value.j0, Bool.false_eq_true, if_false]
  rw [show (⟨#[110, 117, 108, 108]⟩ : ByteArray) = wNull from rfl, hw]; simp only [Option.bind_some, Bool.false_eq_true, if_false]
  rw [show (⟨#[102, 97, 108, 115, 101]⟩ : ByteArray) = wFalse from rfl, hw2]; simp only [Option.bind_some, Bool.false_eq_true, if_false]
  rw [show (⟨#[116, 114, 117, 101]⟩ : ByteArray) = wTrue from rfl, hw3]; simp only [Option.bind_some, if_true]
theorem value_ev (s : ByteArray) (hz : s.size ≤ 65536) : ∀ (n : Nat) (p : Int), 0 ≤ p → p ≤ s.size → (s.size : Int) - p < n → ValTo s p := by
 intro n
 induction n with
 | zero => intro p h0 h1 h2; omega
 | succ n ih =>
  intro p h0 h1 h2
  have IH : ∀ q, p < q → q ≤ s.size → ValTo s q := fun q a b => ih q (by omega) b (by omega)
  have hh : ∀ c, c ≠ 0 → (hr s p = c ↔ p < (s.size : Int) ∧ bt s p = c) := by
   intro c hc
   unfold hr
   by_cases q : p < (s.size : Int)
   ·rw [if_pos q]; exact ⟨fun r => ⟨q, r⟩, fun r => r.2⟩
   ·rw [if_neg q]; exact ⟨fun r => absurd r.symm hc, fun r => absurd r.1 q⟩
  by_cases c1 : hr s p = 123
  ·obtain ⟨q0, q1⟩ := (hh 123 (by omega)).mp c1
   obtain ⟨N, C, ok, e, he, e0, e1, hG⟩ := me_f s hz p h0 q0 q1 IH
   refine ⟨6, e, N, C, ok, Ev.step (f := fun k => (spec_reader_members.f k s p).bind fun t => some (6, p, t.2.2.2.2, t.1, t.2.1, t.2.2.1, t.2.2.2.1, t.2.2.2.2)) (fun k => ?_) (Ev.bind he (Ev.now _)), e0, e1, fun hk => ?_⟩
   ·simp only [spec_reader_value.f]; rw [here_f s p h0]; simp only [Option.bind_some]; rw [if_pos c1]
   ·obtain ⟨N', C', rfl, rfl, g⟩ := hG hk
    exact g
  by_cases c2 : hr s p = 91
  ·obtain ⟨q0, q1⟩ := (hh 91 (by omega)).mp c2
   obtain ⟨C, ok, e, he, e0, e1, hG⟩ := el_f s hz p h0 q0 q1 IH
   refine ⟨5, e, [], C, ok, Ev.step (f := fun k => (spec_reader_elements.f k s p).bind fun t => some (5, p, t.2.2.2, [], t.1, t.2.1, t.2.2.1, t.2.2.2)) (fun k => ?_) (Ev.bind he (Ev.now _)), e0, e1, fun hk => ?_⟩
   ·simp only [spec_reader_value.f]; rw [here_f s p h0]; simp only [Option.bind_some]; rw [if_neg c1, if_pos c2]
   ·obtain ⟨C', rfl, g⟩ := hG hk
    exact g
  by_cases c3 : hr s p = 34
  ·obtain ⟨q0, q1⟩ := (hh 34 (by omega)).mp c3
   obtain ⟨ok, e, he, e0, e1, hG⟩ := quoted_ev s hz p h0 q0 q1
   refine ⟨4, e, [], [], ok, Ev.step (f := fun k => (spec_reader_quoted.f k s p).bind fun t => some (4, p, t.2.2, [], [], t.1, t.2.1, t.2.2)) (fun k => ?_) (Ev.bind he (Ev.now _)), by omega, e1, fun hk => ?_⟩
   ·simp only [spec_reader_value.f]; rw [here_f s p h0]; simp only [Option.bind_some]; rw [if_neg c1, if_neg c2, if_pos c3]
   ·exact .str p e (hG hk)
  have key : ∃ x, ∀ k, spec_reader_value.f (k + 1) s p = spec_reader_value.j0 k true x s p 0 p 0 := by
   by_cases c4 : hr s p = 45
   ·exact ⟨true, fun k => by simp only [spec_reader_value.f]; rw [here_f s p h0]; simp only [Option.bind_some]; rw [if_neg c1, if_neg c2, if_neg c3, if_pos c4]⟩
   by_cases c5 : 48 ≤ hr s p
   ·exact ⟨decide (hr s p ≤ 57), fun k => by simp only [spec_reader_value.f]; rw [here_f s p h0]; simp only [Option.bind_some]; rw [if_neg c1, if_neg c2, if_neg c3, if_neg c4, if_pos c5]⟩
   ·exact ⟨false, fun k => by simp only [spec_reader_value.f]; rw [here_f s p h0]; simp only [Option.bind_some]; rw [if_neg c1, if_neg c2, if_neg c3, if_neg c4, if_neg c5]⟩
  obtain ⟨x, hx⟩ := key
  obtain ⟨K, e, N, C, ok, he, r⟩ := val_j0 s hz p h0 h1 x
  exact ⟨K, e, N, C, ok, Ev.step hx he, r⟩
end Go.Proofs.YtgiioglmkogpkaaGreatDoor.V
namespace Go.Proofs.YtgiioglmkogpkaaGreatDoor.M
open Go.RowKit Go.Proofs.YtgiioglmkogpkaaGreatDoorW.PrintWords Go.Proofs.YtgiioglmkogpkaaGreatDoorW.PrintLast Go.Proofs.YtgiioglmkogpkaaGreatDoorW.PrintMore
set_option maxHeartbeats 4000000
set_option maxRecDepth 8192
theorem stored_keep5 (W : World) (r : Nat) (a b c d e : Value) :
  KeepBut W (((((W.setCell ⟨r, 0, none⟩ a).setCell ⟨r, 1, none⟩ b).setCell ⟨r, 2, none⟩ c).setCell ⟨r, 3, none⟩ d).setCell ⟨r, 4, none⟩ e) r none :=
 KeepBut.set_ (KeepBut.set_ (KeepBut.set_ (KeepBut.set_ (KeepBut.set_ (KeepBut.refl _ _ _) _ _) _ _) _ _) _ _) _ _
structure Vw (w0 w W : World) (g : Nat) (s : ByteArray) (pos : Int) (K b e : Int) (v3 v4 : Value) : Prop where
 hi : IsS112 w0 W g s pos
 hr : W.heap[w.heap.size]? = some (.cells #[.int .i64 0, .int .i64 0, .int .i64 0, .slice none 0 0, .slice none 0 0] 78 (0, 0))
 hp : W.heap[w.heap.size + 1]? = some (.cells #[.int .i64 K, .int .i64 b, .int .i64 e, v3, v4] 78 (0, 0))
 be : Below w0.heap.size w0 W
 ke : KeepBut w W g none
 gl : g < w.heap.size
section
variable {w0 w W W2 : World} {g : Nat} {s s2 : ByteArray} {pos p2 K b e : Int} {v3 v4 : Value}
theorem Vw.new (hI : IsS112 w0 w g s pos) (hB : Below w0.heap.size w0 w) : Vw w0 w ((w.alloc (.cells #[.int .i64 0, .int .i64 0, .int .i64 0, .slice none 0 0, .slice none 0 0] 78)).alloc (.cells #[.int .i64 0, .int .i64 pos, .int .i64 0, .slice none 0 0, .slice none 0 0] 78)) g s pos 0 pos 0 (.slice none 0 0) (.slice none 0 0) := by
 have e := heap_alloc_new (w.alloc (.cells #[.int .i64 0, .int .i64 0, .int .i64 0, .slice none 0 0, .slice none 0 0] 78)) (.cells #[.int .i64 0, .int .i64 pos, .int .i64 0, .slice none 0 0, .slice none 0 0] 78)
 rw [show (w.alloc (.cells #[.int .i64 0, .int .i64 0, .int .i64 0, .slice none 0 0, .slice none 0 0] 78)).heap.size = w.heap.size + 1 by simp] at e
 exact ⟨(hI.alloc _).alloc _, (Below.heap_alloc _ _ _ (by simp)).trans (heap_alloc_new w _), e, below_alloc (below_alloc hB _) _, keep_alloc (keep_alloc (KeepBut.refl _ _ _) _) _, blk_lt hI.1⟩
theorem Vw.step (h : Vw w0 w W g s pos K b e v3 v4) (hi : IsS112 w0 W2 g s2 p2) (hb : Below w0.heap.size w0 W2) (hk : KeepBut W W2 g none) : Vw w0 w W2 g s2 p2 K b e v3 v4 :=
 ⟨hi, hk.blk h.hr (by have := h.gl; omega) (by simp), hk.blk h.hp (by have := h.gl; omega) (by simp), hb, KeepBut.trans h.ke hk (.inl rfl), h.gl⟩
theorem Vw.cells (h : Vw w0 w W g s pos K b e v3 v4) : W.cell? ⟨g, 1, none⟩ = some (.int .i64 pos) ∧ W.cell? ⟨w.heap.size, 0, none⟩ = some (.int .i64 0) ∧ W.cell? ⟨w.heap.size, 1, none⟩ = some (.int .i64 0) ∧ W.cell? ⟨w.heap.size, 2, none⟩ = some (.int .i64 0) ∧ W.cell? ⟨w.heap.size, 3, none⟩ = some (.slice none 0 0) ∧ W.cell? ⟨w.heap.size, 4, none⟩ = some (.slice none 0 0) ∧ (∀ i, W.frozen? ⟨w.heap.size, i, none⟩ = false) ∧
  W.cell? ⟨w.heap.size + 1, 0, none⟩ = some (.int .i64 K) ∧ W.cell? ⟨w.heap.size + 1, 1, none⟩ = some (.int .i64 b) ∧ W.cell? ⟨w.heap.size + 1, 2, none⟩ = some (.int .i64 e) ∧ W.cell? ⟨w.heap.size + 1, 3, none⟩ = some v3 ∧ W.cell? ⟨w.heap.size + 1, 4, none⟩ = some v4 ∧ (∀ i, W.frozen? ⟨w.heap.size + 1, i, none⟩ = false) :=
 ⟨blk_cell h.hi.1 1, blk_cell h.hr 0, blk_cell h.hr 1, blk_cell h.hr 2, blk_cell h.hr 3, blk_cell h.hr 4, fun i => blk_frozen h.hr i, blk_cell h.hp 0, blk_cell h.hp 1, blk_cell h.hp 2, blk_cell h.hp 3, blk_cell h.hp 4, fun i => blk_frozen h.hp i⟩
theorem Vw.setK (h : Vw w0 w W g s pos K b e v3 v4) (K' : Int) : Vw w0 w (W.setCell ⟨w.heap.size + 1, 0, none⟩ (.int .i64 K')) g s pos K' b e v3 v4 := by
 have := h.gl
 have := h.hi.2
 exact ⟨⟨blk_far h.hi.1 (by dsimp only; omega) _, h.hi.2⟩, blk_far h.hr (by dsimp only; omega) _, blk_set h.hp 0 _, below_set h.be (show w0.heap.size ≤ w.heap.size + 1 by omega), ⟨by have := h.ke.1; simpa using this, fun i h1 h2 h3 => (Below.heap_setCell W ⟨w.heap.size + 1, 0, none⟩ _ i (show i ≠ w.heap.size + 1 by omega)).trans (h.ke.2 i h1 h2 h3)⟩, h.gl⟩
theorem Vw.set2 (h : Vw w0 w W g s pos K b e v3 v4) (e' : Int) : Vw w0 w (W.setCell ⟨w.heap.size + 1, 2, none⟩ (.int .i64 e')) g s pos K b e' v3 v4 := by
 have := h.gl
 have := h.hi.2
 exact ⟨⟨blk_far h.hi.1 (by dsimp only; omega) _, h.hi.2⟩, blk_far h.hr (by dsimp only; omega) _, blk_set h.hp 2 _, below_set h.be (show w0.heap.size ≤ w.heap.size + 1 by omega), ⟨by have := h.ke.1; simpa using this, fun i h1 h2 h3 => (Below.heap_setCell W ⟨w.heap.size + 1, 2, none⟩ _ i (show i ≠ w.heap.size + 1 by omega)).trans (h.ke.2 i h1 h2 h3)⟩, h.gl⟩
theorem Vw.set3 (h : Vw w0 w W g s pos K b e v3 v4) (v : Value) : Vw w0 w (W.setCell ⟨w.heap.size + 1, 3, none⟩ v) g s pos K b e v v4 := by
 have := h.gl
 have := h.hi.2
 exact ⟨⟨blk_far h.hi.1 (by dsimp only; omega) _, h.hi.2⟩, blk_far h.hr (by dsimp only; omega) _, blk_set h.hp 3 _, below_set h.be (show w0.heap.size ≤ w.heap.size + 1 by omega), ⟨by have := h.ke.1; simpa using this, fun i h1 h2 h3 => (Below.heap_setCell W ⟨w.heap.size + 1, 3, none⟩ _ i (show i ≠ w.heap.size + 1 by omega)).trans (h.ke.2 i h1 h2 h3)⟩, h.gl⟩
theorem Vw.set4 (h : Vw w0 w W g s pos K b e v3 v4) (v : Value) : Vw w0 w (W.setCell ⟨w.heap.size + 1, 4, none⟩ v) g s pos K b e v3 v := by
 have := h.gl
 have := h.hi.2
 exact ⟨⟨blk_far h.hi.1 (by dsimp only; omega) _, h.hi.2⟩, blk_far h.hr (by dsimp only; omega) _, blk_set h.hp 4 _, below_set h.be (show w0.heap.size ≤ w.heap.size + 1 by omega), ⟨by have := h.ke.1; simpa using this, fun i h1 h2 h3 => (Below.heap_setCell W ⟨w.heap.size + 1, 4, none⟩ _ i (show i ≠ w.heap.size + 1 by omega)).trans (h.ke.2 i h1 h2 h3)⟩, h.gl⟩
def Hk (w W W2 : World) : Prop := W2.heap.size = W.heap.size ∧ ∀ k, w.heap.size + 1 < k → W2.heap[k]? = W.heap[k]?
theorem Hk.refl (w W : World) : Hk w W W := ⟨rfl, fun _ _ => rfl⟩
theorem Hk.set {a : Addr} (h : Hk w W W2) (ha : a.block ≤ w.heap.size + 1) (v : Value) : Hk w W (W2.setCell a v) := ⟨by simpa using h.1, fun k hk => (Below.heap_setCell W2 a v k (by omega)).trans (h.2 k hk)⟩
theorem Hk.R {α : Type} {d : Kd α} {e' base : Nat} {ok : Nat → Prop} {v : Value} {xs : List α} (h : Hk w W W2) (hr : d.R e' W base ok v xs) (hb : w.heap.size + 1 < base) : d.R e' W2 w.heap.size ok v xs :=
 Kd.R_lower (Kd.R_mono (Kd.R_step (Kd.R_bound hr) (fun k h1 h2 => h.2 k (by have := h1.2.1; omega))) (fun k h1 => h1.1)) (by omega)
theorem vwEnd (P : Ending → World → Prop) (K p q : Int) (v3 v4 : Value) (hv3 : ∃ A n c, v3 = .slice A n c) (hv4 : ∃ A n c, v4 = .slice A n c) (ok : Bool) (W : World) (r : Nat) (tm : Array Value) (h2 : tm.getD 2 undef = .pointer (some ⟨r, 0, none⟩)) (h3 : tm.getD 3 undef = .bool ok) (hg : W.heap[r]? = some (.cells #[.int .i64 K, .int .i64 p, .int .i64 q, v3, v4] 78 (0, 0))) (hb : P (.returned (.tuple #[.agg #[.int .i64 K, .int .i64 p, .int .i64 q, v3, v4], .bool ok])) W) :
  bodyPost Tryz.prog Tryz.f73 P .ret ⟨tm, []⟩ W := by
 obtain ⟨A3, n3, c3, rfl⟩ := hv3
 obtain ⟨A4, n4, c4, rfl⟩ := hv4
 have n0 := blk_cell hg 0
 have n1 := blk_cell hg 1
 have n2 := blk_cell hg 2
 have n3 := blk_cell hg 3
 have n4 := blk_cell hg 4
 refine bodyPost_ret (v := .tuple #[.agg #[.int .i64 K, .int .i64 p, .int .i64 q, .slice A3 _ c3, .slice A4 _ c4], .bool ok]) ?_ rfl hb
 simp only [results, Tryz.results73]
 have h2' := h2
 have h3' := h3
 simp only [Array.getD_eq_getD_getElem?] at h2' h3'
 simp [go_sem, h2, h2', h3, h3', n0, n1, n2, n3, n4]
def VPost (w0 w : World) (g : Nat) (K b e : Int) (N : List S115) (C : List S78) (ok : Bool) (s : ByteArray) (pos : Int) (e' : Ending) (w' : World) : Prop := ∃ v3_ v4_ : Value, e' = .returned (.tuple #[.agg #[.int .i64 K, .int .i64 b, .int .i64 e, v3_, v4_], .bool ok]) ∧ Kd.R k115 115 w' w.heap.size (fun _ => True) v3_ N ∧ Kd.R k78 78 w' w.heap.size (fun k_ => some k_ ≠ (v3_ : Value).ownBlock) v4_ C ∧ IsS112 w0 w' g s pos ∧ Below w0.heap.size w0 w' ∧ KeepBut w w' g none
theorem Vw.done {W3 : World} {A3 A4 : Option Addr} {m3 m4 c3 c4 B : Nat} {N : List S115} {C : List S78} (h : Vw w0 w W g s pos K b e (.slice A3 m3 c3) (.slice A4 m4 c4)) (hk : Hk w W3 W) (hB : w.heap.size + 1 < B) (hN : Kd.R k115 115 W3 B (fun _ => True) (.slice A3 m3 c3) N) (hC : Kd.R k78 78 W3 B (fun k_ => some k_ ≠ (Value.slice A3 m3 c3).ownBlock) (.slice A4 m4 c4) C) (ok : Bool) (tm : Array Value) (h2 : tm.getD 2 undef = .pointer (some ⟨w.heap.size, 0, none⟩)) (h3 : tm.getD 3 undef = .bool ok) :
  bodyPost Tryz.prog Tryz.f73 (VPost w0 w g K b e N C ok s pos) .ret ⟨tm, []⟩ (((((W.setCell ⟨w.heap.size, 0, none⟩ (.int .i64 K)).setCell ⟨w.heap.size, 1, none⟩ (.int .i64 b)).setCell ⟨w.heap.size, 2, none⟩ (.int .i64 e)).setCell ⟨w.heap.size, 3, none⟩ (.slice A3 m3 c3)).setCell ⟨w.heap.size, 4, none⟩ (.slice A4 m4 c4)) := by
 have hg := h.gl
 have hg2 := h.hi.2
 have hkk : Hk w W3 (((((W.setCell ⟨w.heap.size, 0, none⟩ (.int .i64 K)).setCell ⟨w.heap.size, 1, none⟩ (.int .i64 b)).setCell ⟨w.heap.size, 2, none⟩ (.int .i64 e)).setCell ⟨w.heap.size, 3, none⟩ (.slice A3 m3 c3)).setCell ⟨w.heap.size, 4, none⟩ (.slice A4 m4 c4)) :=
  ((((hk.set (by dsimp only; omega) _).set (by dsimp only; omega) _).set (by dsimp only; omega) _).set (by dsimp only; omega) _).set (by dsimp only; omega) _
 have ks := stored_keep5 W w.heap.size (.int .i64 K) (.int .i64 b) (.int .i64 e) (.slice A3 m3 c3) (.slice A4 m4 c4)
 refine vwEnd _ K b e (.slice A3 m3 c3) (.slice A4 m4 c4) ⟨_, _, _, rfl⟩ ⟨_, _, _, rfl⟩ ok _ w.heap.size tm h2 h3 (blk_set (blk_set (blk_set (blk_set (blk_set h.hr 0 _) 1 _) 2 _) 3 _) 4 _) ⟨_, _, rfl, hkk.R hN hB, hkk.R hC hB, ⟨ks.blk h.hi.1 (by omega) (by simp), h.hi.2⟩, below_set (below_set (below_set (below_set (below_set h.be (show w0.heap.size ≤ w.heap.size by omega)) (show w0.heap.size ≤ w.heap.size by omega)) (show w0.heap.size ≤ w.heap.size by omega)) (show w0.heap.size ≤ w.heap.size by omega)) (show w0.heap.size ≤ w.heap.size by omega), ⟨Nat.le_trans h.ke.1 ks.1, fun i h1 h2 h3 => (ks.2 i (Nat.lt_of_lt_of_le h1 h.ke.1) (by omega) (by simp)).trans (h.ke.2 i h1 h2 h3)⟩⟩
end
theorem value_step (k : Nat) (ih101_ : ∀ m_, m_ < k → spec_reader_members.Spec m_) (ih102_ : ∀ m_, m_ < k → spec_reader_elements.Spec m_) (ih73_ : ∀ m_, m_ < k → spec_reader_value.Spec m_) : spec_reader_value.Spec k := by
 intro g s0 s1 r1 r2 r3 r4 r5 r6 r7 r8 w0 w hI hB h
 cases k with
 | zero => exact absurd h (by simp [spec_reader_value.f])
 | succ k =>
 simp only [spec_reader_value.f] at h
 obtain ⟨⟨c, s2, p2⟩, hh, h⟩ := Option.bind_eq_some_iff.mp h
 dsimp only at h
 have HV := Aside0.mk (Vw.new hI hB)
 have HH := Aside0.mk hh
 have n0 : ∀ o, (w.alloc o).cell? ⟨g, 1, none⟩ = some (.int .i64 s1) := fun o => blk_cell (hI.alloc o).1 1
 clear hI hB hh
 go_enter Tryz.func73, Tryz.ntmps73
 go_upto_block 0 with (go_at_call 100; refine (spec_reader_here.calls g s0 s1 c s2 p2 w0 _ HV.out.hi HV.out.be HH.out).mono ?_; rintro e' w1 ⟨rfl, hi, hb, hk⟩; have H1 := Aside0.mk (HV.out.step hi hb hk); clear hi hb hk)
 have ng : g ≠ w.heap.size + 1 := by have := H1.out.gl; omega
 have ng2 : g ≠ w.heap.size := by have := H1.out.gl; omega
 obtain ⟨m0, m1, m2, m3, m4, m5, g0, j0, j1, j2, j3, j4, g1⟩ := H1.out.cells
 by_cases c1 : c = 123
 ·rw [if_pos c1] at h
  have x1 : (c == 123) = true := beq_iff_eq.mpr c1
  obtain ⟨⟨N, C, ok, s3, p3⟩, hm, h⟩ := Option.bind_eq_some_iff.mp h
  simp only [Option.some.injEq, Prod.mk.injEq] at h
  obtain ⟨rfl, rfl, rfl, rfl, rfl, rfl, rfl, rfl⟩ := h
  have HM := Aside0.mk hm
  clear c1 hm
  go_wp2_with (go_at_call 101; refine (ih101_ k (Nat.lt_succ_self _) g s2 p2 N C ok s3 p3 w0 _ (H1.out.setK 6).hi (H1.out.setK 6).be HM.out).mono ?_; rintro e' w3 ⟨v0, v1, rfl, hr0, hr1, hi, hb, hk⟩; obtain ⟨A3, c3, rfl⟩ := Kd.R_slice hr0; obtain ⟨A4, c4, rfl⟩ := Kd.R_slice hr1; have H3 := Aside0.mk ((H1.out.setK 6).step hi hb hk); have HRR := Aside0.mk (And.intro hr0 hr1); clear hr0 hr1 hi hb hk m0 m1 m2 m3 m4 m5 g0 j0 j1 j2 j3 j4 g1; obtain ⟨m0, m1, m2, m3, m4, m5, g0, j0, j1, j2, j3, j4, g1⟩ := H3.out.cells)
  exact Vw.done (((H3.out.set3 (.slice A3 N.length c3)).set4 (.slice A4 C.length c4)).set2 p3) ((((Hk.refl w w3).set (by dsimp only; omega) _).set (by dsimp only; omega) _).set (by dsimp only; omega) _) (by have := blk_lt H1.out.hp; simp; omega) HRR.out.1 HRR.out.2 ok _ rfl rfl
 rw [if_neg c1] at h
 have x1 : (c == 123) = false := beq_eq_false_iff_ne.mpr c1
 by_cases c2 : c = 91
 ·rw [if_pos c2] at h
  have x2 : (c == 91) = true := beq_iff_eq.mpr c2
  obtain ⟨⟨C, ok, s3, p3⟩, hm, h⟩ := Option.bind_eq_some_iff.mp h
  simp only [Option.some.injEq, Prod.mk.injEq] at h
  obtain ⟨rfl, rfl, rfl, rfl, rfl, rfl, rfl, rfl⟩ := h
  have HM := Aside0.mk hm
  clear c1 c2 hm
  go_wp2_with (go_at_call 102; refine (ih102_ k (Nat.lt_succ_self _) g s2 p2 C ok s3 p3 w0 _ (H1.out.setK 5).hi (H1.out.setK 5).be HM.out).mono ?_; rintro e' w3 ⟨v1, rfl, hr1, hi, hb, hk⟩; obtain ⟨A4, c4, rfl⟩ := Kd.R_slice hr1; have H3 := Aside0.mk ((H1.out.setK 5).step hi hb hk); have HRR := Aside0.mk hr1; clear hr1 hi hb hk m0 m1 m2 m3 m4 m5 g0 j0 j1 j2 j3 j4 g1; obtain ⟨m0, m1, m2, m3, m4, m5, g0, j0, j1, j2, j3, j4, g1⟩ := H3.out.cells)
  exact Vw.done ((H3.out.set4 (.slice A4 C.length c4)).set2 p3) (((Hk.refl w w3).set (by dsimp only; omega) _).set (by dsimp only; omega) _) (by have := blk_lt H1.out.hp; simp; omega) (Kd.R_nil _ _ _ _ _) (Kd.R_mono HRR.out (fun k _ => by simp [Value.ownBlock])) ok _ rfl rfl
 rw [if_neg c2] at h
 have x2 : (c == 91) = false := beq_eq_false_iff_ne.mpr c2
 by_cases c3 : c = 34
 ·rw [if_pos c3] at h
  have x3 : (c == 34) = true := beq_iff_eq.mpr c3
  obtain ⟨⟨ok, s3, p3⟩, hm, h⟩ := Option.bind_eq_some_iff.mp h
  simp only [Option.some.injEq, Prod.mk.injEq] at h
  obtain ⟨rfl, rfl, rfl, rfl, rfl, rfl, rfl, rfl⟩ := h
  have HM := Aside0.mk hm
  clear c1 c2 c3 hm
  go_wp2_with (go_at_call 103; refine (spec_reader_quoted.calls k g s2 p2 ok s3 p3 w0 _ (H1.out.setK 4).hi (H1.out.setK 4).be HM.out).mono ?_; rintro e' w3 ⟨rfl, hi, hb, hk⟩; have H3 := Aside0.mk ((H1.out.setK 4).step hi hb hk); clear hi hb hk m0 m1 m2 m3 m4 m5 g0 j0 j1 j2 j3 j4 g1; obtain ⟨m0, m1, m2, m3, m4, m5, g0, j0, j1, j2, j3, j4, g1⟩ := H3.out.cells)
  exact Vw.done (B := w.heap.size + 2) (H3.out.set2 p3) ((Hk.refl w w3).set (by dsimp only; omega) _) (by omega) (Kd.R_nil _ _ _ _ _) (Kd.R_nil _ _ _ _ _) ok _ rfl rfl
 rw [if_neg c3] at h
 have x3 : (c == 34) = false := beq_eq_false_iff_ne.mpr c3
 have key : ∃ nb, spec_reader_value.j0 k true nb s2 p2 0 s1 0 = some (r1, r2, r3, r4, r5, r6, r7, r8) ∧ (((c == 45) = true ∧ nb = true) ∨ ((c == 45) = false ∧ decide (48 ≤ c) = true ∧ decide (c ≤ 57) = nb) ∨ ((c == 45) = false ∧ decide (48 ≤ c) = false ∧ nb = false)) := by
  by_cases c4 : c = 45
  ·rw [if_pos c4] at h
   exact ⟨true, h, .inl ⟨beq_iff_eq.mpr c4, rfl⟩⟩
  rw [if_neg c4] at h
  by_cases c5 : 48 ≤ c
  ·rw [if_pos c5] at h
   exact ⟨_, h, .inr (.inl ⟨beq_eq_false_iff_ne.mpr c4, decide_eq_true c5, rfl⟩)⟩
  ·rw [if_neg c5] at h
   exact ⟨false, h, .inr (.inr ⟨beq_eq_false_iff_ne.mpr c4, decide_eq_false c5, rfl⟩)⟩
 clear h c1 c2 c3
 obtain ⟨nb, h, hc⟩ := key
 cases k with
 | zero => exact absurd h (by simp [spec_reader_value.j0])
 | succ k =>
 simp only [spec_reader_value.j0] at h
 cases nb
 rotate_left
 ·simp only [if_true] at h
  obtain ⟨⟨ok, s3, p3⟩, hm, h⟩ := Option.bind_eq_some_iff.mp h
  simp only [Option.some.injEq, Prod.mk.injEq] at h
  obtain ⟨rfl, rfl, rfl, rfl, rfl, rfl, rfl, rfl⟩ := h
  have HM := Aside0.mk hm
  clear hm
  rcases hc with ⟨x4, _⟩ | ⟨x4, x5, x6⟩ | ⟨x4, x5, h⟩
  rotate_left 2
  ·cases h
  all_goals go_wp2_with (go_at_call 78; refine (spec_reader_number.calls k g s2 p2 ok s3 p3 w0 _ (H1.out.setK 3).hi (H1.out.setK 3).be HM.out).mono ?_; rintro e' w3 ⟨rfl, hi, hb, hk⟩; have H3 := Aside0.mk ((H1.out.setK 3).step hi hb hk); clear hi hb hk m0 m1 m2 m3 m4 m5 g0 j0 j1 j2 j3 j4 g1; obtain ⟨m0, m1, m2, m3, m4, m5, g0, j0, j1, j2, j3, j4, g1⟩ := H3.out.cells)
  all_goals exact Vw.done (B := w.heap.size + 2) (H3.out.set2 p3) ((Hk.refl w w3).set (by dsimp only; omega) _) (by omega) (Kd.R_nil _ _ _ _ _) (Kd.R_nil _ _ _ _ _) _ _ rfl rfl
 simp only [Bool.false_eq_true, if_false] at h
 obtain ⟨⟨b1, s3, p3⟩, hm1, h⟩ := Option.bind_eq_some_iff.mp h
 have HM1 := Aside0.mk hm1
 clear hm1
 cases b1
 rotate_left
 ·simp only [if_true, Option.some.injEq, Prod.mk.injEq] at h
  obtain ⟨rfl, rfl, rfl, rfl, rfl, rfl, rfl, rfl⟩ := h
  rcases hc with ⟨x4, h⟩ | ⟨x4, x5, x6⟩ | ⟨x4, x5, _⟩
  ·cases h
  all_goals go_wp2_with (go_at_call 104; refine (spec_reader_word.calls g s2 p2 _ _ _ _ w0 _ H1.out.hi H1.out.be HM1.out).mono ?_; rintro e' w3 ⟨rfl, hi, hb, hk⟩; have H3 := Aside0.mk (H1.out.step hi hb hk); clear hi hb hk m0 m1 m2 m3 m4 m5 g0 j0 j1 j2 j3 j4 g1; obtain ⟨m0, m1, m2, m3, m4, m5, g0, j0, j1, j2, j3, j4, g1⟩ := H3.out.cells)
  all_goals exact Vw.done (B := w.heap.size + 2) ((H3.out.setK 0).set2 p3) (((Hk.refl w w3).set (by dsimp only; omega) _).set (by dsimp only; omega) _) (by omega) (Kd.R_nil _ _ _ _ _) (Kd.R_nil _ _ _ _ _) _ _ rfl rfl
 simp only [Bool.false_eq_true, if_false] at h
 obtain ⟨⟨b2, s4, p4⟩, hm2, h⟩ := Option.bind_eq_some_iff.mp h
 have HM2 := Aside0.mk hm2
 clear hm2
 cases b2
 rotate_left
 ·simp only [if_true, Option.some.injEq, Prod.mk.injEq] at h
  obtain ⟨rfl, rfl, rfl, rfl, rfl, rfl, rfl, rfl⟩ := h
  rcases hc with ⟨x4, h⟩ | ⟨x4, x5, x6⟩ | ⟨x4, x5, _⟩
  ·cases h
  all_goals go_wp2_with (first
   | (go_at_call 104; refine (spec_reader_word.calls g s3 p3 _ _ _ _ w0 _ H3.out.hi H3.out.be HM2.out).mono ?_; rintro e' w4 ⟨rfl, hi, hb, hk⟩; have H4 := Aside0.mk (H3.out.step hi hb hk); clear hi hb hk m0 m1 m2 m3 m4 m5 g0 j0 j1 j2 j3 j4 g1; obtain ⟨m0, m1, m2, m3, m4, m5, g0, j0, j1, j2, j3, j4, g1⟩ := H4.out.cells)
   | (go_at_call 104; refine (spec_reader_word.calls g s2 p2 _ _ _ _ w0 _ H1.out.hi H1.out.be HM1.out).mono ?_; rintro e' w3 ⟨rfl, hi, hb, hk⟩; have H3 := Aside0.mk (H1.out.step hi hb hk); clear hi hb hk m0 m1 m2 m3 m4 m5 g0 j0 j1 j2 j3 j4 g1; obtain ⟨m0, m1, m2, m3, m4, m5, g0, j0, j1, j2, j3, j4, g1⟩ := H3.out.cells))
  all_goals exact Vw.done (B := w.heap.size + 2) ((H4.out.setK 1).set2 p4) (((Hk.refl w w4).set (by dsimp only; omega) _).set (by dsimp only; omega) _) (by omega) (Kd.R_nil _ _ _ _ _) (Kd.R_nil _ _ _ _ _) _ _ rfl rfl
 simp only [Bool.false_eq_true, if_false] at h
 obtain ⟨⟨b3, s5, p5⟩, hm3, h⟩ := Option.bind_eq_some_iff.mp h
 have HM3 := Aside0.mk hm3
 clear hm3
 cases b3
 rotate_left
 ·simp only [if_true, Option.some.injEq, Prod.mk.injEq] at h
  obtain ⟨rfl, rfl, rfl, rfl, rfl, rfl, rfl, rfl⟩ := h
  rcases hc with ⟨x4, h⟩ | ⟨x4, x5, x6⟩ | ⟨x4, x5, _⟩
  ·cases h
  all_goals go_wp2_with (first
   | (go_at_call 104; refine (spec_reader_word.calls g s4 p4 _ _ _ _ w0 _ H4.out.hi H4.out.be HM3.out).mono ?_; rintro e' w5 ⟨rfl, hi, hb, hk⟩; have H5 := Aside0.mk (H4.out.step hi hb hk); clear hi hb hk m0 m1 m2 m3 m4 m5 g0 j0 j1 j2 j3 j4 g1; obtain ⟨m0, m1, m2, m3, m4, m5, g0, j0, j1, j2, j3, j4, g1⟩ := H5.out.cells)
   | (go_at_call 104; refine (spec_reader_word.calls g s3 p3 _ _ _ _ w0 _ H3.out.hi H3.out.be HM2.out).mono ?_; rintro e' w4 ⟨rfl, hi, hb, hk⟩; have H4 := Aside0.mk (H3.out.step hi hb hk); clear hi hb hk m0 m1 m2 m3 m4 m5 g0 j0 j1 j2 j3 j4 g1; obtain ⟨m0, m1, m2, m3, m4, m5, g0, j0, j1, j2, j3, j4, g1⟩ := H4.out.cells)
   | (go_at_call 104; refine (spec_reader_word.calls g s2 p2 _ _ _ _ w0 _ H1.out.hi H1.out.be HM1.out).mono ?_; rintro e' w3 ⟨rfl, hi, hb, hk⟩; have H3 := Aside0.mk (H1.out.step hi hb hk); clear hi hb hk m0 m1 m2 m3 m4 m5 g0 j0 j1 j2 j3 j4 g1; obtain ⟨m0, m1, m2, m3, m4, m5, g0, j0, j1, j2, j3, j4, g1⟩ := H3.out.cells))
  all_goals exact Vw.done (B := w.heap.size + 2) ((H5.out.setK 2).set2 p5) (((Hk.refl w w5).set (by dsimp only; omega) _).set (by dsimp only; omega) _) (by omega) (Kd.R_nil _ _ _ _ _) (Kd.R_nil _ _ _ _ _) _ _ rfl rfl
 simp only [Bool.false_eq_true, if_false, Option.some.injEq, Prod.mk.injEq] at h
 obtain ⟨rfl, rfl, rfl, rfl, rfl, rfl, rfl, rfl⟩ := h
 rcases hc with ⟨x4, h⟩ | ⟨x4, x5, x6⟩ | ⟨x4, x5, _⟩
 ·cases h
 all_goals go_wp2_with (first
  | (go_at_call 104; refine (spec_reader_word.calls g s4 p4 _ _ _ _ w0 _ H4.out.hi H4.out.be HM3.out).mono ?_; rintro e' w5 ⟨rfl, hi, hb, hk⟩; have H5 := Aside0.mk (H4.out.step hi hb hk); clear hi hb hk m0 m1 m2 m3 m4 m5 g0 j0 j1 j2 j3 j4 g1; obtain ⟨m0, m1, m2, m3, m4, m5, g0, j0, j1, j2, j3, j4, g1⟩ := H5.out.cells)
  | (go_at_call 104; refine (spec_reader_word.calls g s3 p3 _ _ _ _ w0 _ H3.out.hi H3.out.be HM2.out).mono ?_; rintro e' w4 ⟨rfl, hi, hb, hk⟩; have H4 := Aside0.mk (H3.out.step hi hb hk); clear hi hb hk m0 m1 m2 m3 m4 m5 g0 j0 j1 j2 j3 j4 g1; obtain ⟨m0, m1, m2, m3, m4, m5, g0, j0, j1, j2, j3, j4, g1⟩ := H4.out.cells)
  | (go_at_call 104; refine (spec_reader_word.calls g s2 p2 _ _ _ _ w0 _ H1.out.hi H1.out.be HM1.out).mono ?_; rintro e' w3 ⟨rfl, hi, hb, hk⟩; have H3 := Aside0.mk (H1.out.step hi hb hk); clear hi hb hk m0 m1 m2 m3 m4 m5 g0 j0 j1 j2 j3 j4 g1; obtain ⟨m0, m1, m2, m3, m4, m5, g0, j0, j1, j2, j3, j4, g1⟩ := H3.out.cells))
 all_goals exact Vw.done (B := w.heap.size + 2) (H5.out.set2 p5) ((Hk.refl w w5).set (by dsimp only; omega) _) (by omega) (Kd.R_nil _ _ _ _ _) (Kd.R_nil _ _ _ _ _) _ _ rfl rfl
set_option maxHeartbeats 4000000
set_option maxRecDepth 8192
structure Es (w0 w W : World) (g : Nat) (s : ByteArray) (pos : Int) (u : Value) (acc : List S78) : Prop where
 hi : IsS112 w0 W g s pos
 be : Below w0.heap.size w0 W
 ke : KeepBut w W g none
 ro : Kd.R k78 78 W w.heap.size (fun _ => True) u acc
 gl : g < w.heap.size
section
variable {w0 w W W2 : World} {g : Nat} {s s2 : ByteArray} {pos p2 : Int} {u : Value} {acc : List S78}
theorem Es.step (h : Es w0 w W g s pos u acc) (hi : IsS112 w0 W2 g s2 p2) (hb : Below w0.heap.size w0 W2) (hk : KeepBut W W2 g none) : Es w0 w W2 g s2 p2 u acc :=
 ⟨hi, hb, KeepBut.trans h.ke hk (.inl rfl), Kd.R_mono (Kd.R_keep (Kd.R_bound h.ro) hk (fun k hk => by have := hk.2.1; have := h.gl; omega)) (fun _ _ => trivial), h.gl⟩
theorem Es.alloc (h : Es w0 w W g s pos u acc) (o : Obj) : Es w0 w (W.alloc o) g s pos u acc := ⟨h.hi.alloc o, below_alloc h.be o, keep_alloc h.ke o, Kd.R_alloc h.ro o, h.gl⟩
theorem Es.grown {w5 : World} {v1 : Value} {acc' : List S78} (h : Es w0 w W g s pos u acc) (h0 : w0.heap.size ≤ w.heap.size) (hg : W.grownBy w5 u.ownBlock) (hbl : Below w.heap.size W w5) (ho : Kd.R k78 78 w5 w.heap.size (fun _ => True) v1 acc') : Es w0 w w5 g s pos v1 acc' :=
 ⟨IsS112.grown h.hi hg (fun he => by have := Kd.R_base h.ro g he.symm; have := h.gl; omega), below_weaken h.be h0 hbl, KeepBut.trans h.ke (KeepBut.of_grown hg g) (Kd.R_base2 h.ro), ho, h.gl⟩
theorem Es.own (h : Es w0 w W g s pos u acc) : ∀ k, W.heap.size ≤ k → some k ≠ u.ownBlock := fun k hk he => by
 have := ((Kd.R_bound h.ro).1 k he.symm).2.2.1
 omega
theorem Es.elem {w3 : World} {ok0 ok1 : Nat → Prop} {K b e : Int} {v3 v4 : Value} {N : List S115} {C : List S78} (h : Es w0 w W g s pos u acc) (h0 : Kd.R k115 115 w3 W.heap.size ok0 v3 N) (h1 : Kd.R k78 78 w3 W.heap.size ok1 v4 C) (o : Obj) : k78.M (w3.alloc o) w.heap.size (fun k => W.heap.size ≤ k) (⟨K, b, e, N, C⟩ : S78) [.int .i64 K, .int .i64 b, .int .i64 e, v3, v4] :=
 k78_mkM _ _ _ (⟨K, b, e, N, C⟩ : S78) (Kd.R_lower (Kd.R_mono (Kd.R_bound (Kd.R_alloc h0 o)) (fun k h => h.2.1)) h.ke.1) (Kd.R_lower (Kd.R_mono (Kd.R_bound (Kd.R_alloc h1 o)) (fun k h => h.2.1)) h.ke.1)
end
theorem elements_step (k : Nat) (ih73_ : ∀ m_, m_ < k → spec_reader_value.Spec m_) : spec_reader_elements.Spec k := by
 intro g s0 s1 r1 r2 r3 r4 w0 w hI hB h
 cases k with
 | zero => exact absurd h (by simp [spec_reader_elements.f])
 | succ k =>
 simp only [spec_reader_elements.f] at h
 have H0 := Aside0.mk (show Es w0 w w g s0 s1 (.slice none 0 0) [] from ⟨hI, hB, KeepBut.refl _ _ _, Kd.R_nil _ _ _ _ _, blk_lt hI.1⟩)
 have n0 := blk_cell hI.1 1
 have f0 := fun i => blk_frozen hI.1 i
 obtain ⟨⟨s2, p2⟩, hb1, h⟩ := Option.bind_eq_some_iff.mp h
 obtain ⟨⟨b1, s3, p3⟩, ht1, h⟩ := Option.bind_eq_some_iff.mp h
 have HE := Aside0.mk (And.intro hb1 ht1)
 have hI1 : IsS112 w0 (w.setCell ⟨g, 1, none⟩ (.int .i64 (wrap64 (s1 + 1)))) g s0 (wrap64 (s1 + 1)) := ⟨blk_set hI.1 1 _, hI.2⟩
 have H1 := Aside0.mk (H0.out.step hI1 (below_set hB hI.2) (KeepBut.set_ (KeepBut.refl _ _ _) _ _))
 clear hb1 ht1 hI hB hI1 H0
 dsimp only at h
 have HH := Aside0.mk h
 clear h
 cases b1
 rotate_left
 ·have h := HH.out
  simp only [if_true, Option.some.injEq, Prod.mk.injEq] at h
  obtain ⟨rfl, rfl, rfl, rfl⟩ := h
  go_enter Tryz.func102, Tryz.ntmps102
  go_wp2_with (first
   | (go_at_call 72; refine (spec_reader_blanks.calls k g s0 _ s2 p2 w0 _ H1.out.hi H1.out.be HE.out.1).mono ?_; rintro e' w1 ⟨rfl, hi, hb, hk⟩; have H2 := Aside0.mk (H1.out.step hi hb hk); clear hi hb hk)
   | (go_at_call 109; refine (spec_reader_take.calls g s2 p2 93 true s3 p3 w0 _ H2.out.hi H2.out.be HE.out.2).mono ?_; rintro e' w2 ⟨rfl, hi, hb, hk⟩; have H3 := Aside0.mk (H2.out.step hi hb hk); clear hi hb hk))
  go_ret2
  exact ⟨_, rfl, H3.out.ro, H3.out.hi, H3.out.be, H3.out.ke⟩
 have h := HH.out
 simp only [Bool.false_eq_true, if_false] at h
 have HH2 := Aside0.mk h
 clear h HH
 go_enter Tryz.func102, Tryz.ntmps102
 go_upto_block 0 with (first
  | (go_at_call 72; refine (spec_reader_blanks.calls k g s0 _ s2 p2 w0 _ H1.out.hi H1.out.be HE.out.1).mono ?_; rintro e' w1 ⟨rfl, hi, hb, hk⟩; have H2 := Aside0.mk (H1.out.step hi hb hk); clear hi hb hk)
  | (go_at_call 109; refine (spec_reader_take.calls g s2 p2 93 false s3 p3 w0 _ H2.out.hi H2.out.be HE.out.2).mono ?_; rintro e' w2 ⟨rfl, hi, hb, hk⟩; have H3 := Aside0.mk (H2.out.step hi hb hk); clear hi hb hk))
 clear H1 H2
 have h0 : w0.heap.size ≤ w.heap.size := by have := H3.out.gl; have := H3.out.hi.2; omega
 have HL := Aside0.mk h0
 clear HE h0 n0 f0
 go_wp2_with fail
 go_loopg [4] k (fun kq v4 w' => ∃ (acc : List S78) (s : ByteArray) (p : Int), Aside0 (spec_reader_elements.l0 kq acc s p = some (r1, r2, r3, r4)) ∧ kq ≤ k ∧ Aside0 (Es w0 w w' g s p v4 acc))
 case atStart => exact ⟨[], s3, p3, HH2, Nat.le_refl _, H3⟩
 obtain ⟨acc, s, p, HA, hkk, HS⟩ := hrel
 cases gk with
 | zero => exact absurd HA.out (by simp [spec_reader_elements.l0])
 | succ k1 =>
 have h := HA.out
 simp only [spec_reader_elements.l0] at h
 obtain ⟨⟨K, b, e, N, C, ok, s4, p4⟩, hv, h⟩ := Option.bind_eq_some_iff.mp h
 have HV := Aside0.mk hv
 dsimp only at h
 have hlt : k1 < k + 1 := by omega
 clear hv HA
 cases ok
 ·simp only [Bool.false_eq_true, if_false, Option.some.injEq, Prod.mk.injEq] at h
  obtain ⟨rfl, rfl, rfl, rfl⟩ := h
  go_wp2_with (go_at_call 73; refine (ih73_ k1 hlt g s p K b e N C false s4 p4 w0 _ HS.out.hi HS.out.be HV.out).mono ?_; rintro e' w3 ⟨v3, v4, rfl, ho0, ho1, hi, hb, hk⟩; obtain ⟨A3, c3, rfl⟩ := Kd.R_slice ho0; obtain ⟨A4, c4, rfl⟩ := Kd.R_slice ho1; have H4 := Aside0.mk (HS.out.step hi hb hk); have HO := Aside0.mk (And.intro ho0 ho1); clear ho0 ho1 hi hb hk)
  go_ret2
  exact ⟨_, rfl, Kd.R_nil _ _ _ _ _, (H4.out.alloc _).hi, (H4.out.alloc _).be, (H4.out.alloc _).ke⟩
 simp only [if_true] at h
 by_cases hlm : acc.length < 1954687338268
 rotate_left
 ·rw [if_neg hlm] at h
  cases h
 rw [if_pos hlm] at h
 simp only [Option.bind_some] at h
 have HLM := Aside0.mk (show (acc.length + 1) * 72 ≤ 140737488355328 by omega)
 obtain ⟨⟨s5, p5⟩, hb5, h⟩ := Option.bind_eq_some_iff.mp h
 obtain ⟨⟨b6, s6, p6⟩, ht6, h⟩ := Option.bind_eq_some_iff.mp h
 have HE := Aside0.mk (And.intro hb5 ht6)
 have HX := Aside0.mk h
 clear hlm hb5 ht6 h
 go_upto_region 9 with (go_at_call 73; refine (ih73_ k1 hlt g s p K b e N C true s4 p4 w0 _ HS.out.hi HS.out.be HV.out).mono ?_; rintro e' w3 ⟨v3, v4, rfl, ho0, ho1, hi, hb, hk⟩; obtain ⟨A3, c3, rfl⟩ := Kd.R_slice ho0; obtain ⟨A4, c4, rfl⟩ := Kd.R_slice ho1; have H4 := Aside0.mk (HS.out.step hi hb hk); have HO := Aside0.mk (And.intro ho0 ho1); clear ho0 ho1 hi hb hk)
 have HM := Aside0.mk (HS.out.elem (K := K) (b := b) (e := e) HO.out.1 HO.out.2 (.cells #[.int .i64 K, .int .i64 b, .int .i64 e, .slice A3 N.length c3, .slice A4 C.length c4] 78))
 have H4b := Aside0.mk (H4.out.alloc (.cells #[.int .i64 K, .int .i64 b, .int .i64 e, .slice A3 N.length c3, .slice A4 C.length c4] 78))
 have hbx := heap_alloc_new w3 (.cells #[.int .i64 K, .int .i64 b, .int .i64 e, .slice A3 N.length c3, .slice A4 C.length c4] 78)
 have q0 := blk_cell hbx 0
 have q1 := blk_cell hbx 1
 have q2 := blk_cell hbx 2
 have q3 := blk_cell hbx 3
 have q4 := blk_cell hbx 4
 clear hbx
 generalize w3.alloc (.cells #[.int .i64 K, .int .i64 b, .int .i64 e, .slice A3 N.length c3, .slice A4 C.length c4] 78) = W4 at *
 go_upto_region 10 with ((with_reducible refine gate_builtin (b := .append) (xs := #[.tmp 25, .tmp 27]) rfl ?_); at_builtin; refine Kd.R_append k78 w.heap.size rfl (.tmp 25) (.tmp 27) 76 78 (.agg #[(.int .i64 0), (.int .i64 0), (.int .i64 0), (.slice none 0 0), (.slice none 0 0)]) 72 rfl Tryz.underlying76 info78 rfl (by decide) (by omega) u4 acc (⟨K, b, e, N, C⟩ : S78) [.int .i64 K, .int .i64 b, .int .i64 e, .slice A3 N.length c3, .slice A4 C.length c4] (fun _ => True) (fun k => wr.heap.size ≤ k) rfl rfl ?aP ?aK ?aF ?aO (Below.refl _ _) ?aS ?aL ?_; (case aP => exact HM.out); (case aK => exact fun k hk => ⟨trivial, HS.out.own k hk⟩); (case aF => exact fun _ _ => trivial); (case aO => exact H4b.out.ro); (case aS => exact H4b.out.ke.1); (case aL => exact HLM.out); intro v1 w5 ho hbl hg hat; have H5 := Aside0.mk (H4b.out.grown HL.out hg hbl ho); clear ho hbl hg hat)
 clear q0 q1 q2 q3 q4 HM H4b
 have h := HX.out
 try dsimp only at h
 cases b6
 rotate_left
 ·simp only [if_true, Option.some.injEq, Prod.mk.injEq] at h
  obtain ⟨rfl, rfl, rfl, rfl⟩ := h
  go_wp2_with (first
   | (go_at_call 72; refine (spec_reader_blanks.calls k1 g s4 p4 s5 p5 w0 _ H5.out.hi H5.out.be HE.out.1).mono ?_; rintro e' w6 ⟨rfl, hi, hb, hk⟩; have H6 := Aside0.mk (H5.out.step hi hb hk); clear hi hb hk)
   | (go_at_call 109; refine (spec_reader_take.calls g s5 p5 93 true s6 p6 w0 _ H6.out.hi H6.out.be HE.out.2).mono ?_; rintro e' w7 ⟨rfl, hi, hb, hk⟩; have H7 := Aside0.mk (H6.out.step hi hb hk); clear hi hb hk))
  go_ret2
  exact ⟨_, rfl, H7.out.ro, H7.out.hi, H7.out.be, H7.out.ke⟩
 simp only [Bool.false_eq_true, if_false] at h
 obtain ⟨⟨b7, s7, p7⟩, ht7, h⟩ := Option.bind_eq_some_iff.mp h
 have HT7 := Aside0.mk ht7
 try dsimp only at h
 cases b7
 ·simp only [Bool.false_eq_true, if_false, Option.some.injEq, Prod.mk.injEq] at h
  obtain ⟨rfl, rfl, rfl, rfl⟩ := h
  clear ht7
  go_wp2_with (first
   | (go_at_call 72; refine (spec_reader_blanks.calls k1 g s4 p4 s5 p5 w0 _ H5.out.hi H5.out.be HE.out.1).mono ?_; rintro e' w6 ⟨rfl, hi, hb, hk⟩; have H6 := Aside0.mk (H5.out.step hi hb hk); clear hi hb hk)
   | (go_at_call 109; refine (spec_reader_take.calls g s6 p6 44 _ _ _ w0 _ H7.out.hi H7.out.be HT7.out).mono ?_; rintro e' w8 ⟨rfl, hi, hb, hk⟩; have H8 := Aside0.mk (H7.out.step hi hb hk); clear hi hb hk)
   | (go_at_call 109; refine (spec_reader_take.calls g s5 p5 93 false s6 p6 w0 _ H6.out.hi H6.out.be HE.out.2).mono ?_; rintro e' w7 ⟨rfl, hi, hb, hk⟩; have H7 := Aside0.mk (H6.out.step hi hb hk); clear hi hb hk))
  go_ret2
  exact ⟨_, rfl, Kd.R_nil _ _ _ _ _, H8.out.hi, H8.out.be, H8.out.ke⟩
 simp only [if_true] at h
 obtain ⟨⟨s8, p8⟩, hb8, h⟩ := Option.bind_eq_some_iff.mp h
 have HB8 := Aside0.mk hb8
 have HN := Aside0.mk h
 clear ht7 hb8 h
 go_wp2_with (first
  | (go_at_call 72; refine (spec_reader_blanks.calls k1 g s7 p7 s8 p8 w0 _ H8.out.hi H8.out.be HB8.out).mono ?_; rintro e' w9 ⟨rfl, hi, hb, hk⟩; have H9 := Aside0.mk (H8.out.step hi hb hk); clear hi hb hk)
  | (go_at_call 72; refine (spec_reader_blanks.calls k1 g s4 p4 s5 p5 w0 _ H5.out.hi H5.out.be HE.out.1).mono ?_; rintro e' w6 ⟨rfl, hi, hb, hk⟩; have H6 := Aside0.mk (H5.out.step hi hb hk); clear hi hb hk)
  | (go_at_call 109; refine (spec_reader_take.calls g s6 p6 44 _ _ _ w0 _ H7.out.hi H7.out.be HT7.out).mono ?_; rintro e' w8 ⟨rfl, hi, hb, hk⟩; have H8 := Aside0.mk (H7.out.step hi hb hk); clear hi hb hk)
  | (go_at_call 109; refine (spec_reader_take.calls g s5 p5 93 false s6 p6 w0 _ H6.out.hi H6.out.be HE.out.2).mono ?_; rintro e' w7 ⟨rfl, hi, hb, hk⟩; have H7 := Aside0.mk (H6.out.step hi hb hk); clear hi hb hk))
 go_roundg k1
 case measure => omega
 case rel => exact ⟨_, s8, p8, HN, by omega, H9⟩
set_option maxHeartbeats 4000000
set_option maxRecDepth 8192
structure Ms (w0 w W : World) (g : Nat) (s : ByteArray) (pos : Int) (u v : Value) (N : List S115) (C : List S78) : Prop where
 hi : IsS112 w0 W g s pos
 be : Below w0.heap.size w0 W
 ke : KeepBut w W g none
 rn : Kd.R k115 115 W w.heap.size (fun _ => True) u N
 rk : Kd.R k78 78 W w.heap.size (fun k => some k ≠ u.ownBlock) v C
 gl : g < w.heap.size
section
variable {w0 w W W2 : World} {g : Nat} {s s2 : ByteArray} {pos p2 : Int} {u v : Value} {N : List S115} {C : List S78}
theorem Ms.step (h : Ms w0 w W g s pos u v N C) (hi : IsS112 w0 W2 g s2 p2) (hb : Below w0.heap.size w0 W2) (hk : KeepBut W W2 g none) : Ms w0 w W2 g s2 p2 u v N C :=
 ⟨hi, hb, KeepBut.trans h.ke hk (.inl rfl), Kd.R_mono (Kd.R_keep (Kd.R_bound h.rn) hk (fun k hk => by have := hk.2.1; have := h.gl; omega)) (fun _ _ => trivial), Kd.R_mono (Kd.R_keep (Kd.R_bound h.rk) hk (fun k hk => by have := hk.2.1; have := h.gl; omega)) (fun _ h => h.1), h.gl⟩
theorem Ms.alloc (h : Ms w0 w W g s pos u v N C) (o : Obj) : Ms w0 w (W.alloc o) g s pos u v N C := ⟨h.hi.alloc o, below_alloc h.be o, keep_alloc h.ke o, Kd.R_alloc h.rn o, Kd.R_alloc h.rk o, h.gl⟩
theorem Ms.ownN (h : Ms w0 w W g s pos u v N C) : ∀ k, W.heap.size ≤ k → some k ≠ u.ownBlock := fun k hk he => by
 have := ((Kd.R_bound h.rn).1 k he.symm).2.2.1
 omega
theorem Ms.ownC (h : Ms w0 w W g s pos u v N C) : ∀ k, W.heap.size ≤ k → some k ≠ v.ownBlock := fun k hk he => by
 have := ((Kd.R_bound h.rk).1 k he.symm).2.2.1
 omega
theorem Ms.names {w5 : World} {u1 : Value} {N' : List S115} (h : Ms w0 w W g s pos u v N C) (h0 : w0.heap.size ≤ w.heap.size) (hg : W.grownBy w5 u.ownBlock) (hbl : Below w.heap.size W w5) (ho : Kd.R k115 115 w5 w.heap.size (fun _ => True) u1 N') (hat : u1.ownBlock = u.ownBlock ∨ ∃ b, u1.ownBlock = some b ∧ W.heap.size ≤ b) : Ms w0 w w5 g s pos u1 v N' C :=
 ⟨IsS112.grown h.hi hg (fun he => by have := Kd.R_base h.rn g he.symm; have := h.gl; omega), below_weaken h.be h0 hbl, KeepBut.trans h.ke (KeepBut.of_grown hg g) (Kd.R_base2 h.rn), ho,
  Kd.R_mono (Kd.R_grown (Kd.R_bound h.rk) hg (fun k hk => hk.1)) (fun k hk he => by
   rcases hat with e | ⟨b, e, hb⟩
   ·exact hk.1 (he.trans e)
   ·rw [e] at he
    have := hk.2.2.1
    injection he with he
    omega), h.gl⟩
theorem Ms.kids {w5 : World} {v1 : Value} {C' : List S78} (h : Ms w0 w W g s pos u v N C) (h0 : w0.heap.size ≤ w.heap.size) (hg : W.grownBy w5 v.ownBlock) (hbl : Below w.heap.size W w5) (ho : Kd.R k78 78 w5 w.heap.size (fun k => some k ≠ u.ownBlock) v1 C') : Ms w0 w w5 g s pos u v1 N C' :=
 ⟨IsS112.grown h.hi hg (fun he => by have := Kd.R_base h.rk g he.symm; have := h.gl; omega), below_weaken h.be h0 hbl, KeepBut.trans h.ke (KeepBut.of_grown hg g) (Kd.R_base2 h.rk),
  Kd.R_mono (Kd.R_grown (Kd.R_tight rfl h.rn) hg (fun k hk he => h.rk.1 k he.symm hk)) (fun _ _ => trivial), ho, h.gl⟩
theorem Ms.elem {w3 : World} {ok0 ok1 : Nat → Prop} {K b e : Int} {v3 v4 : Value} {N2 : List S115} {C2 : List S78} (h : Ms w0 w W g s pos u v N C) (h0 : Kd.R k115 115 w3 W.heap.size ok0 v3 N2) (h1 : Kd.R k78 78 w3 W.heap.size ok1 v4 C2) (o : Obj) : k78.M (w3.alloc o) w.heap.size (fun k => W.heap.size ≤ k) (⟨K, b, e, N2, C2⟩ : S78) [.int .i64 K, .int .i64 b, .int .i64 e, v3, v4] :=
 k78_mkM _ _ _ (⟨K, b, e, N2, C2⟩ : S78) (Kd.R_lower (Kd.R_mono (Kd.R_bound (Kd.R_alloc h0 o)) (fun k h => h.2.1)) h.ke.1) (Kd.R_lower (Kd.R_mono (Kd.R_bound (Kd.R_alloc h1 o)) (fun k h => h.2.1)) h.ke.1)
end
theorem members_step (k : Nat) (ih73_ : ∀ m_, m_ < k → spec_reader_value.Spec m_) : spec_reader_members.Spec k := by
 intro g s0 s1 r1 r2 r3 r4 r5 w0 w hI hB h
 cases k with
 | zero => exact absurd h (by simp [spec_reader_members.f])
 | succ k =>
 simp only [spec_reader_members.f] at h
 have H0 := Aside0.mk (show Ms w0 w w g s0 s1 (.slice none 0 0) (.slice none 0 0) [] [] from ⟨hI, hB, KeepBut.refl _ _ _, Kd.R_nil _ _ _ _ _, Kd.R_nil _ _ _ _ _, blk_lt hI.1⟩)
 have n0 := blk_cell hI.1 1
 have f0 := fun i => blk_frozen hI.1 i
 obtain ⟨⟨s2, p2⟩, hb1, h⟩ := Option.bind_eq_some_iff.mp h
 obtain ⟨⟨b1, s3, p3⟩, ht1, h⟩ := Option.bind_eq_some_iff.mp h
 have HE := Aside0.mk (And.intro hb1 ht1)
 have hI1 : IsS112 w0 (w.setCell ⟨g, 1, none⟩ (.int .i64 (wrap64 (s1 + 1)))) g s0 (wrap64 (s1 + 1)) := ⟨blk_set hI.1 1 _, hI.2⟩
 have H1 := Aside0.mk (H0.out.step hI1 (below_set hB hI.2) (KeepBut.set_ (KeepBut.refl _ _ _) _ _))
 clear hb1 ht1 hI hB hI1 H0
 dsimp only at h
 have HH := Aside0.mk h
 clear h
 cases b1
 rotate_left
 ·have h := HH.out
  simp only [if_true, Option.some.injEq, Prod.mk.injEq] at h
  obtain ⟨rfl, rfl, rfl, rfl, rfl⟩ := h
  go_enter Tryz.func101, Tryz.ntmps101
  go_wp2_with (first
   | (go_at_call 72; refine (spec_reader_blanks.calls k g s0 _ s2 p2 w0 _ H1.out.hi H1.out.be HE.out.1).mono ?_; rintro e' w1 ⟨rfl, hi, hb, hk⟩; have H2 := Aside0.mk (H1.out.step hi hb hk); clear hi hb hk)
   | (go_at_call 109; refine (spec_reader_take.calls g s2 p2 125 true s3 p3 w0 _ H2.out.hi H2.out.be HE.out.2).mono ?_; rintro e' w2 ⟨rfl, hi, hb, hk⟩; have H3 := Aside0.mk (H2.out.step hi hb hk); clear hi hb hk))
  go_ret3
  exact ⟨_, _, rfl, H3.out.rn, H3.out.rk, H3.out.hi, H3.out.be, H3.out.ke⟩
 have h := HH.out
 simp only [Bool.false_eq_true, if_false] at h
 have HH2 := Aside0.mk h
 clear h HH
 go_enter Tryz.func101, Tryz.ntmps101
 go_upto_block 0 with (first
  | (go_at_call 72; refine (spec_reader_blanks.calls k g s0 _ s2 p2 w0 _ H1.out.hi H1.out.be HE.out.1).mono ?_; rintro e' w1 ⟨rfl, hi, hb, hk⟩; have H2 := Aside0.mk (H1.out.step hi hb hk); clear hi hb hk)
  | (go_at_call 109; refine (spec_reader_take.calls g s2 p2 125 false s3 p3 w0 _ H2.out.hi H2.out.be HE.out.2).mono ?_; rintro e' w2 ⟨rfl, hi, hb, hk⟩; have H3 := Aside0.mk (H2.out.step hi hb hk); clear hi hb hk))
 clear H1 H2
 have h0 : w0.heap.size ≤ w.heap.size := by have := H3.out.gl; have := H3.out.hi.2; omega
 have HL := Aside0.mk h0
 clear HE h0 n0 f0
 go_wp2_with fail
 go_loopg [5, 6] k (fun kq v5 v6 w' => ∃ (N : List S115) (C : List S78) (s : ByteArray) (p : Int), Aside0 (spec_reader_members.l0 kq N C s p = some (r1, r2, r3, r4, r5)) ∧ kq ≤ k ∧ Aside0 (Ms w0 w w' g s p v5 v6 N C))
 case atStart => exact ⟨[], [], s3, p3, HH2, Nat.le_refl _, H3⟩
 obtain ⟨N, C, s, p, HA, hkk, HS⟩ := hrel
 cases gk with
 | zero => exact absurd HA.out (by simp [spec_reader_members.l0])
 | succ k1 =>
 have h := HA.out
 simp only [spec_reader_members.l0] at h
 obtain ⟨⟨c, s4, p4⟩, hh4, h⟩ := Option.bind_eq_some_iff.mp h
 have HC4 := Aside0.mk hh4
 dsimp only at h
 have HX := Aside0.mk h
 clear hh4 h HA
 have q0 := blk_cell HS.out.hi.1 0
 have q1 := blk_cell HS.out.hi.1 1
 go_upto_region 8 with (fail)
 go_cut [32] (fun v32 wc => ∃ (kq : Nat) (b : Bool) (s5 : ByteArray) (p5 : Int), v32 = .bool b ∧ Aside0 (spec_reader_members.j1 kq N C p b s5 p5 = some (r1, r2, r3, r4, r5)) ∧ kq ≤ k1 ∧ Aside0 (Ms w0 w wc g s5 p5 u5 u6 N C))
 case first =>
  have h := HX.out
  by_cases c34 : c = 34
  rotate_left
  ·rw [if_neg c34] at h
   have H' := Aside0.mk h
   have b0 : (c == 34) = false := beq_eq_false_iff_ne.mpr c34
   have b1 : (c != 34) = true := bne_iff_ne.mpr c34
   clear c34 h
   go_wp2_with (go_at_call 100; refine (spec_reader_here.calls g s p c s4 p4 w0 _ HS.out.hi HS.out.be HC4.out).mono ?_; rintro e' w4 ⟨rfl, hi, hb, hk⟩; have H4 := Aside0.mk (HS.out.step hi hb hk); clear hi hb hk)
   go_meet
   case rel => exact ⟨k1, true, s4, p4, rfl, H', Nat.le_refl _, H4⟩
  rw [if_pos c34] at h
  obtain ⟨⟨b5, s5, p5⟩, hq5, h⟩ := Option.bind_eq_some_iff.mp h
  have HQ5 := Aside0.mk hq5
  dsimp only at h
  have H' := Aside0.mk h
  have b0 : (c == 34) = true := beq_iff_eq.mpr c34
  have b1 : (c != 34) = false := bne_eq_false_iff_eq.mpr c34
  clear c34 hq5 h
  go_wp2_with (first
   | (go_at_call 100; refine (spec_reader_here.calls g s p c s4 p4 w0 _ HS.out.hi HS.out.be HC4.out).mono ?_; rintro e' w4 ⟨rfl, hi, hb, hk⟩; have H4 := Aside0.mk (HS.out.step hi hb hk); clear hi hb hk)
   | (go_at_call 103; refine (spec_reader_quoted.calls k1 g s4 p4 b5 s5 p5 w0 _ H4.out.hi H4.out.be HQ5.out).mono ?_; rintro e' w5 ⟨rfl, hi, hb, hk⟩; have H5 := Aside0.mk (H4.out.step hi hb hk); clear hi hb hk))
  go_meet
  case rel => exact ⟨k1, !b5, s5, p5, rfl, H', Nat.le_refl _, H5⟩
 clear HX HC4 HS q0 q1
 obtain ⟨kq, b, s5, p5, rfl, HJ, hkj, HS⟩ := hcut
 cases kq with
 | zero => exact absurd HJ.out (by simp [spec_reader_members.j1])
 | succ kj =>
 have h := HJ.out
 simp only [spec_reader_members.j1] at h
 clear HJ
 cases b
 rotate_left
 ·simp only [if_true, Option.some.injEq, Prod.mk.injEq] at h
  obtain ⟨rfl, rfl, rfl, rfl, rfl⟩ := h
  go_wp2
  go_ret3
  exact ⟨_, _, rfl, Kd.R_nil _ _ _ _ _, Kd.R_nil _ _ _ _ _, HS.out.hi, HS.out.be, HS.out.ke⟩
 simp only [Bool.false_eq_true, if_false] at h
 by_cases hl : N.length < 8796093022208
 rotate_left
 ·rw [if_neg hl] at h
  cases h
 rw [if_pos hl] at h
 simp only [Option.bind_some] at h
 have HLN := Aside0.mk (show (N.length + 1) * 16 ≤ 140737488355328 by omega)
 obtain ⟨⟨s6, p6⟩, hb6, h⟩ := Option.bind_eq_some_iff.mp h
 obtain ⟨⟨b7, s7, p7⟩, ht7, h⟩ := Option.bind_eq_some_iff.mp h
 have HE := Aside0.mk (And.intro hb6 ht7)
 dsimp only at h
 have HX := Aside0.mk h
 clear hl hb6 ht7 h
 have q1 := blk_cell HS.out.hi.1 1
 go_upto_region 11 with ((with_reducible refine gate_builtin (b := .append) (xs := #[.tmp 33, .tmp 40]) rfl ?_); at_builtin; refine Kd.R_append k115 w.heap.size rfl (.tmp 33) (.tmp 40) 75 115 (.agg #[(.int .i64 0), (.int .i64 0)]) 16 rfl Tryz.underlying75 info115 rfl (by decide) (by omega) u5 N (⟨p, p5⟩ : S115) [.int .i64 p, .int .i64 p5] (fun _ => True) (fun _ => False) rfl rfl ?aP (fun _ hk => hk.elim) ?aF ?aO (Below.refl _ _) ?aS ?aL ?_; (case aP => exact k115_mkM _ _ _ (⟨p, p5⟩ : S115)); (case aF => exact (fun _ _ => trivial)); (case aO => exact HS.out.rn); (case aS => exact HS.out.ke.1); (case aL => exact HLN.out); intro v1 w5 ho hbl hg hat; have H5 := Aside0.mk (HS.out.names HL.out hg hbl ho hat); clear ho hbl hg hat)
 clear q1 HS
 have h := HX.out
 try dsimp only at h
 cases b7
 ·simp only [Bool.false_eq_true, if_false, Option.some.injEq, Prod.mk.injEq] at h
  obtain ⟨rfl, rfl, rfl, rfl, rfl⟩ := h
  go_wp2_with (first
   | (go_at_call 109; refine (spec_reader_take.calls g s6 p6 58 false s7 p7 w0 _ H6.out.hi H6.out.be HE.out.2).mono ?_; rintro e' w7 ⟨rfl, hi, hb, hk⟩; have H7 := Aside0.mk (H6.out.step hi hb hk); clear hi hb hk)
   | (go_at_call 72; refine (spec_reader_blanks.calls kj g s5 p5 s6 p6 w0 _ H5.out.hi H5.out.be HE.out.1).mono ?_; rintro e' w6 ⟨rfl, hi, hb, hk⟩; have H6 := Aside0.mk (H5.out.step hi hb hk); clear hi hb hk))
  go_ret3
  exact ⟨_, _, rfl, Kd.R_nil _ _ _ _ _, Kd.R_nil _ _ _ _ _, H7.out.hi, H7.out.be, H7.out.ke⟩
 simp only [if_true] at h
 obtain ⟨⟨s8, p8⟩, hb8, h⟩ := Option.bind_eq_some_iff.mp h
 obtain ⟨⟨K, b, e, N2, C2, ok, s9, p9⟩, hv, h⟩ := Option.bind_eq_some_iff.mp h
 have HB8 := Aside0.mk hb8
 have HV := Aside0.mk hv
 have hlt : kj < k + 1 := by omega
 dsimp only at h
 clear hb8 hv HX
 cases ok
 ·simp only [Bool.false_eq_true, if_false, Option.some.injEq, Prod.mk.injEq] at h
  obtain ⟨rfl, rfl, rfl, rfl, rfl⟩ := h
  go_wp2_with (first
   | (go_at_call 73; refine (ih73_ kj hlt g s8 p8 K b e N2 C2 false s9 p9 w0 _ H8.out.hi H8.out.be HV.out).mono ?_; rintro e' w9 ⟨v3, v4, rfl, ho0, ho1, hi, hb, hk⟩; obtain ⟨A3, c3, rfl⟩ := Kd.R_slice ho0; obtain ⟨A4, c4, rfl⟩ := Kd.R_slice ho1; have H9 := Aside0.mk (H8.out.step hi hb hk); have HO := Aside0.mk (And.intro ho0 ho1); clear ho0 ho1 hi hb hk)
   | (go_at_call 72; refine (spec_reader_blanks.calls kj g s7 p7 s8 p8 w0 _ H7.out.hi H7.out.be HB8.out).mono ?_; rintro e' w8 ⟨rfl, hi, hb, hk⟩; have H8 := Aside0.mk (H7.out.step hi hb hk); clear hi hb hk)
   | (go_at_call 109; refine (spec_reader_take.calls g s6 p6 58 true s7 p7 w0 _ H6.out.hi H6.out.be HE.out.2).mono ?_; rintro e' w7 ⟨rfl, hi, hb, hk⟩; have H7 := Aside0.mk (H6.out.step hi hb hk); clear hi hb hk)
   | (go_at_call 72; refine (spec_reader_blanks.calls kj g s5 p5 s6 p6 w0 _ H5.out.hi H5.out.be HE.out.1).mono ?_; rintro e' w6 ⟨rfl, hi, hb, hk⟩; have H6 := Aside0.mk (H5.out.step hi hb hk); clear hi hb hk))
  go_ret3
  exact ⟨_, _, rfl, Kd.R_nil _ _ _ _ _, Kd.R_nil _ _ _ _ _, (H9.out.alloc _).hi, (H9.out.alloc _).be, (H9.out.alloc _).ke⟩
 simp only [if_true] at h
 by_cases hlm : C.length < 1954687338268
 rotate_left
 ·rw [if_neg hlm] at h
  cases h
 rw [if_pos hlm] at h
 try simp only [Option.bind_some] at h
 have HLM := Aside0.mk (show (C.length + 1) * 72 ≤ 140737488355328 by omega)
 obtain ⟨⟨s10, p10⟩, hb10, h⟩ := Option.bind_eq_some_iff.mp h
 obtain ⟨⟨b11, s11, p11⟩, ht11, h⟩ := Option.bind_eq_some_iff.mp h
 have HE2 := Aside0.mk (And.intro hb10 ht11)
 dsimp only at h
 have HX := Aside0.mk h
 clear hlm hb10 ht11 h
 go_upto_region 18 with (first
  | (go_at_call 73; refine (ih73_ kj hlt g s8 p8 K b e N2 C2 true s9 p9 w0 _ H8.out.hi H8.out.be HV.out).mono ?_; rintro e' w9 ⟨v3, v4, rfl, ho0, ho1, hi, hb, hk⟩; obtain ⟨A3, c3, rfl⟩ := Kd.R_slice ho0; obtain ⟨A4, c4, rfl⟩ := Kd.R_slice ho1; have H9 := Aside0.mk (H8.out.step hi hb hk); have HO := Aside0.mk (And.intro ho0 ho1); clear ho0 ho1 hi hb hk)
  | (go_at_call 72; refine (spec_reader_blanks.calls kj g s7 p7 s8 p8 w0 _ H7.out.hi H7.out.be HB8.out).mono ?_; rintro e' w8 ⟨rfl, hi, hb, hk⟩; have H8 := Aside0.mk (H7.out.step hi hb hk); clear hi hb hk)
  | (go_at_call 109; refine (spec_reader_take.calls g s6 p6 58 true s7 p7 w0 _ H6.out.hi H6.out.be HE.out.2).mono ?_; rintro e' w7 ⟨rfl, hi, hb, hk⟩; have H7 := Aside0.mk (H6.out.step hi hb hk); clear hi hb hk)
  | (go_at_call 72; refine (spec_reader_blanks.calls kj g s5 p5 s6 p6 w0 _ H5.out.hi H5.out.be HE.out.1).mono ?_; rintro e' w6 ⟨rfl, hi, hb, hk⟩; have H6 := Aside0.mk (H5.out.step hi hb hk); clear hi hb hk))
 have HM := Aside0.mk (H8.out.elem (K := K) (b := b) (e := e) HO.out.1 HO.out.2 (.cells #[.int .i64 K, .int .i64 b, .int .i64 e, .slice A3 N2.length c3, .slice A4 C2.length c4] 78))
 have hoN := H8.out.ownN
 have hoC := H8.out.ownC
 have HOW := Aside0.mk (And.intro hoN hoC)
 have H9b := Aside0.mk (H9.out.alloc (.cells #[.int .i64 K, .int .i64 b, .int .i64 e, .slice A3 N2.length c3, .slice A4 C2.length c4] 78))
 have hbx := heap_alloc_new w9 (.cells #[.int .i64 K, .int .i64 b, .int .i64 e, .slice A3 N2.length c3, .slice A4 C2.length c4] 78)
 have q0 := blk_cell hbx 0
 have q1 := blk_cell hbx 1
 have q2 := blk_cell hbx 2
 have q3 := blk_cell hbx 3
 have q4 := blk_cell hbx 4
 clear hbx hoN hoC
 generalize w9.alloc (.cells #[.int .i64 K, .int .i64 b, .int .i64 e, .slice A3 N2.length c3, .slice A4 C2.length c4] 78) = W4 at *
 go_upto_region 19 with ((with_reducible refine gate_builtin (b := .append) (xs := #[.tmp 56, .tmp 58]) rfl ?_); at_builtin; refine Kd.R_append k78 w.heap.size rfl (.tmp 56) (.tmp 58) 76 78 (.agg #[(.int .i64 0), (.int .i64 0), (.int .i64 0), (.slice none 0 0), (.slice none 0 0)]) 72 rfl Tryz.underlying76 info78 rfl (by decide) (by omega) u6 C (⟨K, b, e, N2, C2⟩ : S78) [.int .i64 K, .int .i64 b, .int .i64 e, .slice A3 N2.length c3, .slice A4 C2.length c4] (fun k => some k ≠ v1.ownBlock) (fun k => w8.heap.size ≤ k) rfl rfl ?aP ?aK ?aF ?aO (Below.refl _ _) ?aS ?aL ?_; (case aP => exact HM.out); (case aK => exact fun k hk => ⟨HOW.out.1 k hk, HOW.out.2 k hk⟩); (case aF => exact H9b.out.ownN); (case aO => exact H9b.out.rk); (case aS => exact H9b.out.ke.1); (case aL => exact HLM.out); intro v2 w10 ho hbl hg hat; have H10 := Aside0.mk (H9b.out.kids HL.out hg hbl ho); clear ho hbl hg hat)
 clear q0 q1 q2 q3 q4 HM H9b HOW HE HB8 HV
 have h := HX.out
 try dsimp only at h
 cases b11
 rotate_left
 ·simp only [if_true, Option.some.injEq, Prod.mk.injEq] at h
  obtain ⟨rfl, rfl, rfl, rfl, rfl⟩ := h
  go_wp2_with (first
   | (go_at_call 109; refine (spec_reader_take.calls g s10 p10 125 true s11 p11 w0 _ H11.out.hi H11.out.be HE2.out.2).mono ?_; rintro e' w12 ⟨rfl, hi, hb, hk⟩; have H12 := Aside0.mk (H11.out.step hi hb hk); clear hi hb hk)
   | (go_at_call 72; refine (spec_reader_blanks.calls kj g s9 p9 s10 p10 w0 _ H10.out.hi H10.out.be HE2.out.1).mono ?_; rintro e' w11 ⟨rfl, hi, hb, hk⟩; have H11 := Aside0.mk (H10.out.step hi hb hk); clear hi hb hk))
  go_ret3
  exact ⟨_, _, rfl, H12.out.rn, H12.out.rk, H12.out.hi, H12.out.be, H12.out.ke⟩
 simp only [Bool.false_eq_true, if_false] at h
 obtain ⟨⟨b12, s12, p12⟩, ht12, h⟩ := Option.bind_eq_some_iff.mp h
 have HT12 := Aside0.mk ht12
 try dsimp only at h
 cases b12
 ·simp only [Bool.false_eq_true, if_false, Option.some.injEq, Prod.mk.injEq] at h
  obtain ⟨rfl, rfl, rfl, rfl, rfl⟩ := h
  clear ht12
  go_wp2_with (first
   | (go_at_call 109; refine (spec_reader_take.calls g s11 p11 44 _ s12 p12 w0 _ H12.out.hi H12.out.be HT12.out).mono ?_; rintro e' w13 ⟨rfl, hi, hb, hk⟩; have H13 := Aside0.mk (H12.out.step hi hb hk); clear hi hb hk)
   | (go_at_call 109; refine (spec_reader_take.calls g s10 p10 125 false s11 p11 w0 _ H11.out.hi H11.out.be HE2.out.2).mono ?_; rintro e' w12 ⟨rfl, hi, hb, hk⟩; have H12 := Aside0.mk (H11.out.step hi hb hk); clear hi hb hk)
   | (go_at_call 72; refine (spec_reader_blanks.calls kj g s9 p9 s10 p10 w0 _ H10.out.hi H10.out.be HE2.out.1).mono ?_; rintro e' w11 ⟨rfl, hi, hb, hk⟩; have H11 := Aside0.mk (H10.out.step hi hb hk); clear hi hb hk))
  go_ret3
  exact ⟨_, _, rfl, Kd.R_nil _ _ _ _ _, Kd.R_nil _ _ _ _ _, H13.out.hi, H13.out.be, H13.out.ke⟩
 simp only [if_true] at h
 obtain ⟨⟨s13, p13⟩, hb13, h⟩ := Option.bind_eq_some_iff.mp h
 have HB13 := Aside0.mk hb13
 have HN := Aside0.mk h
 clear ht12 hb13 h
 go_wp2_with (first
  | (go_at_call 72; refine (spec_reader_blanks.calls kj g s12 p12 s13 p13 w0 _ H13.out.hi H13.out.be HB13.out).mono ?_; rintro e' w14 ⟨rfl, hi, hb, hk⟩; have H14 := Aside0.mk (H13.out.step hi hb hk); clear hi hb hk)
  | (go_at_call 109; refine (spec_reader_take.calls g s11 p11 44 true s12 p12 w0 _ H12.out.hi H12.out.be HT12.out).mono ?_; rintro e' w13 ⟨rfl, hi, hb, hk⟩; have H13 := Aside0.mk (H12.out.step hi hb hk); clear hi hb hk)
  | (go_at_call 109; refine (spec_reader_take.calls g s10 p10 125 false s11 p11 w0 _ H11.out.hi H11.out.be HE2.out.2).mono ?_; rintro e' w12 ⟨rfl, hi, hb, hk⟩; have H12 := Aside0.mk (H11.out.step hi hb hk); clear hi hb hk)
  | (go_at_call 72; refine (spec_reader_blanks.calls kj g s9 p9 s10 p10 w0 _ H10.out.hi H10.out.be HE2.out.1).mono ?_; rintro e' w11 ⟨rfl, hi, hb, hk⟩; have H11 := Aside0.mk (H10.out.step hi hb hk); clear hi hb hk))
 go_roundg kj
 case measure => omega
 case rel => exact ⟨_, _, s13, p13, HN, by omega, H14⟩
set_option maxHeartbeats 8000000
set_option maxRecDepth 100000
attribute [local go_sem] max2_int min2_int max_two min_two max_three min_three max_four min_four
theorem spec_reader_members.group_all : ∀ k, spec_reader_members.Spec k ∧ spec_reader_elements.Spec k ∧ spec_reader_value.Spec k := by
 intro k
 induction k using Nat.strongRecOn with
 | _ k ih =>
 exact ⟨members_step k (fun m_ hm_ => (ih m_ hm_).2.2), elements_step k (fun m_ hm_ => (ih m_ hm_).2.2), value_step k (fun m_ hm_ => (ih m_ hm_).1) (fun m_ hm_ => (ih m_ hm_).2.1) (fun m_ hm_ => (ih m_ hm_).2.2)⟩
theorem spec_reader_value.calls (k : Nat) : ∀ (g : Nat) (s0_0 : ByteArray) (s0_1 : Int) (r1 : Int) (r2 : Int) (r3 : Int) (r4 : List (S115)) (r5 : List (S78)) (r6 : Bool) (r7 : ByteArray) (r8 : Int) (w0 w : World) (hI : IsS112 w0 w g s0_0 s0_1) (hB : Below w0.heap.size w0 w) (h : spec_reader_value.f k s0_0 s0_1 = some (r1, r2, r3, r4, r5, r6, r7, r8)),
  Calls Tryz.prog 73 #[.pointer (some ⟨g, 0, none⟩)] w fun e w' => ∃ v3_ v4_ : Value, e = .returned (.tuple #[.agg #[.int .i64 r1, .int .i64 r2, .int .i64 r3, v3_, v4_], .bool r6]) ∧ Kd.R k115 115 w' w.heap.size (fun _ => True) v3_ r4 ∧ Kd.R k78 78 w' w.heap.size (fun k_ => some k_ ≠ (v3_ : Value).ownBlock) v4_ r5 ∧ IsS112 w0 w' g r7 r8 ∧ Below w0.heap.size w0 w' ∧ KeepBut w w' g none := (spec_reader_members.group_all k).2.2
mutual
def spec_unit.j0 : Nat → ByteArray → Int → Bool → Option (Int × Bool)
 | 0, _, _, _ => none
 | k + 1, x0, x1, x27 => if x27 = true then (some (0, false)) else (spec_unit.l0 k x0 x1 0 (wrap64 (x1 + 2)))
def spec_unit.l0 : Nat → ByteArray → Int → Int → Int → Option (Int × Bool)
 | 0, _, _, _, _ => none
 | k + 1, x0, x1, x6, x7 => if x7 < (wrap64 (x1 + 6)) then (if 0 ≤ x7 then (if x7 < (x0.size : Int) then ((spec_hexDigit.f k (bt x0 x7)).bind fun bt284 => (if bt284.2 = true then (spec_unit.l0 k x0 x1 (wrap64 ((wrap64 (x6 * 16)) + bt284.1)) (wrap64 (x7 + 1))) else (some (0, false)))) else (none)) else (none)) else (some (x6, true))
end
def spec_unit.f (k : Nat) (a0 : ByteArray) (a1 : Int) : Option (Int × Bool) := if (wrap64 ((a0.size : Int) - a1)) < 6 then (spec_unit.j0 k a0 a1 true) else (if 0 ≤ a1 then (if a1 < (a0.size : Int) then (if (bt a0 a1) = 92 then (if 0 ≤ (wrap64 (a1 + 1)) then (if (wrap64 (a1 + 1)) < (a0.size : Int) then (spec_unit.j0 k a0 a1 ((bt a0 (wrap64 (a1 + 1))) != 117)) else (none)) else (none)) else (spec_unit.j0 k a0 a1 true)) else (none)) else (none))
theorem spec_unit.calls (k : Nat) (a0 : ByteArray) (a1 : Int) (r1 : Int) (r2 : Bool) (w : World) (h : spec_unit.f k a0 a1 = some (r1, r2)) :
  Calls Tryz.prog 59 #[.string a0, .int .i64 a1] w fun e w' => e = .returned (.tuple #[.int .i64 r1, .bool r2]) ∧ Drawn0 w w' := by
 have H : (if (wrap64 ((a0.size : Int) - a1)) < 6 then (spec_unit.j0 k a0 a1 true) else (if 0 ≤ a1 then (if a1 < (a0.size : Int) then (if (bt a0 a1) = 92 then (if 0 ≤ (wrap64 (a1 + 1)) then (if (wrap64 (a1 + 1)) < (a0.size : Int) then (spec_unit.j0 k a0 a1 ((bt a0 (wrap64 (a1 + 1))) != 117)) else (none)) else (none)) else (spec_unit.j0 k a0 a1 true)) else (none)) else (none))) = some (r1, r2) := h
 have HC3 := Aside0.mk H
 go_enter Tryz.func59, Tryz.ntmps59
 go_upto_region 1 with (fail)
 go_cut [27] (fun v27 wc => ∃ (kq : Nat) (x27_2 : Bool), v27 = .bool x27_2 ∧ Aside0 (spec_unit.j0 kq a0 a1 x27_2 = some (r1, r2)) ∧ Aside0 (kq ≤ k) ∧ Drawn0 w wc)
 case first =>
  have H := HC3.out
  by_cases c4 : (wrap64 ((a0.size : Int) - a1)) < 6
  ·rw [if_pos c4] at H
   have c4b0 : decide ((wrap64 ((a0.size : Int) - a1)) < 6) = true := decide_eq_true c4
   (first | rw [c4b0] | (simp only [i64_w, i32_w]; rw [c4b0]) | skip)
   have H' := Aside0.mk H
   go_wp2
   go_meet
   case rel => exact ⟨_, (true), rfl, H', ⟨by omega⟩, by repeat (first | exact Drawn0.refl _ | apply Drawn0.step)⟩
  rw [if_neg c4] at H
  have c4b0 : decide ((wrap64 ((a0.size : Int) - a1)) < 6) = false := decide_eq_false c4
  (first | rw [c4b0] | (simp only [i64_w, i32_w]; rw [c4b0]) | skip)
  by_cases c5 : 0 ≤ a1
  rotate_left
  ·rw [if_neg c5] at H
   cases H
  rw [if_pos c5] at H
  have c5b0 : decide (0 ≤ a1) = true := decide_eq_true c5
  by_cases c6 : a1 < (a0.size : Int)
  rotate_left
  ·rw [if_neg c6] at H
   cases H
  rw [if_pos c6] at H
  have c6b0 : decide (a1 < (a0.size : Int)) = true := decide_eq_true c6
  by_cases c8 : (bt a0 a1) = 92
  rotate_left
  ·rw [if_neg c8] at H
   have c8b0 : ((bt a0 a1) == 92) = false := beq_eq_false_iff_ne.mpr c8
   have c8b1 : ((bt a0 a1) != 92) = true := bne_iff_ne.mpr c8
   have H' := Aside0.mk H
   have p7 : 0 ≤ (a1 : Int) := of_decide_eq_true (by assumption)
   have q7 : a1 < (a0.size : Int) := of_decide_eq_true (by assumption)
   have hx7 := bt_at a0 a1
   go_wp2
   go_meet
   case rel => exact ⟨_, (true), rfl, H', ⟨by omega⟩, by repeat (first | exact Drawn0.refl _ | apply Drawn0.step)⟩
  rw [if_pos c8] at H
  have c8b0 : ((bt a0 a1) == 92) = true := beq_iff_eq.mpr c8
  have c8b1 : ((bt a0 a1) != 92) = false := bne_eq_false_iff_eq.mpr c8
  obtain ⟨ji9, hji9⟩ : ∃ j_ : Int, (wrap64 (a1 + 1)) = j_ := ⟨_, rfl⟩
  replace H : (if 0 ≤ (ji9) then (if (ji9) < (a0.size : Int) then (spec_unit.j0 k a0 a1 ((bt a0 (ji9)) != 117)) else (none)) else (none)) = some (r1, r2) := by first | (rw [hji9] at H; exact H) | (simp only [hji9] at H ⊢; exact H)
  have hji9w : (IntKind.i64.wrap (a1 + 1)) = ji9 := (i64_w _).trans hji9
  by_cases c10 : 0 ≤ (ji9)
  rotate_left
  ·rw [if_neg c10] at H
   cases H
  rw [if_pos c10] at H
  have c10b0 : decide (0 ≤ (ji9)) = true := decide_eq_true c10
  by_cases c11 : (ji9) < (a0.size : Int)
  rotate_left
  ·rw [if_neg c11] at H
   cases H
  rw [if_pos c11] at H
  have c11b0 : decide ((ji9) < (a0.size : Int)) = true := decide_eq_true c11
  have H' := Aside0.mk H
  have p7 : 0 ≤ (a1 : Int) := of_decide_eq_true (by assumption)
  have q7 : a1 < (a0.size : Int) := of_decide_eq_true (by assumption)
  have hx7 := bt_at a0 a1
  have p12 : 0 ≤ ((ji9) : Int) := of_decide_eq_true (by assumption)
  have q12 : (ji9) < (a0.size : Int) := of_decide_eq_true (by assumption)
  have hx12 := bt_at a0 (ji9)
  go_wp2
  go_meet
  case rel => exact ⟨_, (((bt a0 (ji9)) != 117)), (by first | rfl | (simp; done) | (simp only [← hji9] <;> (first | rfl | simp)) | (simp [*]; done)), H', ⟨by omega⟩, by repeat (first | exact Drawn0.refl _ | apply Drawn0.step)⟩
 obtain ⟨kq, x27_2, rfl, HA, HJ2, ⟨mc2, rfl⟩⟩ := hcut
 cases kq with
 | zero => exact absurd HA.out (by simp [spec_unit.j0])
 | succ kj2 =>
  have H := HA.out
  simp only [spec_unit.j0] at H
  by_cases c13 : x27_2 = true
  ·subst c13
   rw [if_pos rfl] at H
   simp only [Option.some.injEq, Prod.mk.injEq] at H
   obtain ⟨rfl, rfl⟩ := H
   go_wp2
   go_ret2
   exact ⟨by first | rfl | (simp; done) | (simp [*]; done), by repeat (first | exact Drawn0.refl _ | apply Drawn0.step)⟩
  replace c13 := Bool.eq_false_iff.mpr c13
  subst c13
  rw [if_neg nofun] at H
  have H' := Aside0.mk H
  go_wp2
  go_loopg [6, 7] kj2 (fun kq v6 v7 w' => ∃ (x6_2 : Int) (x7_2 : Int), v6 = .int .i64 x6_2 ∧ v7 = .int .i64 x7_2 ∧ Aside0 (spec_unit.l0 kq a0 a1 x6_2 x7_2 = some (r1, r2)) ∧ Aside0 (kq ≤ kj2) ∧ Drawn0 w w')
  case atStart => exact ⟨(0), (wrap64 (a1 + 2)), rfl, rfl, H', ⟨Nat.le_refl _⟩, by repeat (first | exact Drawn0.refl _ | apply Drawn0.step)⟩
  obtain ⟨x6_2, x7_2, rfl, rfl, HA, HK2, ⟨m2, rfl⟩⟩ := hrel
  cases gk with
  | zero => exact absurd HA.out (by simp [spec_unit.l0])
  | succ k2 =>
   have H := HA.out
   simp only [spec_unit.l0] at H
   by_cases c14 : x7_2 < (wrap64 (a1 + 6))
   rotate_left
   ·rw [if_neg c14] at H
    have c14b0 : decide (x7_2 < (wrap64 (a1 + 6))) = false := decide_eq_false c14
    simp only [Option.some.injEq, Prod.mk.injEq] at H
    obtain ⟨rfl, rfl⟩ := H
    go_wp2
    go_ret2
    exact ⟨by first | rfl | (simp; done) | (simp [*]; done), by repeat (first | exact Drawn0.refl _ | apply Drawn0.step)⟩
   rw [if_pos c14] at H
   have c14b0 : decide (x7_2 < (wrap64 (a1 + 6))) = true := decide_eq_true c14
   by_cases c15 : 0 ≤ x7_2
   rotate_left
   ·rw [if_neg c15] at H
    cases H
   rw [if_pos c15] at H
   have c15b0 : decide (0 ≤ x7_2) = true := decide_eq_true c15
   by_cases c16 : x7_2 < (a0.size : Int)
   rotate_left
   ·rw [if_neg c16] at H
    cases H
   rw [if_pos c16] at H
   have c16b0 : decide (x7_2 < (a0.size : Int)) = true := decide_eq_true c16
   replace H := Option.bind_eq_some_iff.mp H
   obtain ⟨⟨t284, t285⟩, A180, H⟩ := H
   have A18 := Aside0.mk A180
   by_cases c19 : t285 = true
   ·subst c19
    rw [if_pos rfl] at H
    have H' := Aside0.mk H
    have p17 : 0 ≤ (x7_2 : Int) := of_decide_eq_true (by assumption)
    have q17 : x7_2 < (a0.size : Int) := of_decide_eq_true (by assumption)
    have hx17 := bt_at a0 x7_2
    go_wp2_with (first | (go_at_call 87; (with_reducible refine (spec_hexDigit.calls k2 (bt a0 x7_2) t284 true _ A18.out).mono ?_); rintro e w' ⟨rfl, ⟨nd, rfl⟩⟩))
    go_roundg k2
    case measure => have := HJ2.out; have := HK2.out; omega
    case rel => exact ⟨(wrap64 ((wrap64 (x6_2 * 16)) + t284)), (wrap64 (x7_2 + 1)), rfl, rfl, H', ⟨by have := HJ2.out; have := HK2.out; omega⟩, by repeat (first | exact Drawn0.refl _ | apply Drawn0.step)⟩
   replace c19 := Bool.eq_false_iff.mpr c19
   subst c19
   rw [if_neg nofun] at H
   simp only [Option.some.injEq, Prod.mk.injEq] at H
   obtain ⟨rfl, rfl⟩ := H
   have p17 : 0 ≤ (x7_2 : Int) := of_decide_eq_true (by assumption)
   have q17 : x7_2 < (a0.size : Int) := of_decide_eq_true (by assumption)
   have hx17 := bt_at a0 x7_2
   go_wp2_with (first | (go_at_call 87; (with_reducible refine (spec_hexDigit.calls k2 (bt a0 x7_2) t284 false _ A18.out).mono ?_); rintro e w' ⟨rfl, ⟨nd, rfl⟩⟩))
   go_ret2
   exact ⟨by first | rfl | (simp; done) | (simp [*]; done), by repeat (first | exact Drawn0.refl _ | apply Drawn0.step)⟩
def spec_high.f (a0 : Int) : Option (Bool) := if 55296 ≤ a0 then (some (decide (a0 ≤ 56319))) else (some false)
theorem spec_high.calls (a0 : Int) (r : Bool) (w : World) (h : spec_high.f a0 = some r) :
  Calls Tryz.prog 60 #[.int .i64 a0] w fun e w' => e = .returned (.bool r) ∧ Drawn0 w w' := by
 have H : (if 55296 ≤ a0 then (some (decide (a0 ≤ 56319))) else (some false)) = some r := h
 by_cases c2 : 55296 ≤ a0
 rotate_left
 ·rw [if_neg c2] at H
  have c2b0 : decide (55296 ≤ a0) = false := decide_eq_false c2
  obtain rfl := Option.some.inj H
  go_enter Tryz.func60, Tryz.ntmps60
  go_wp2
  go_ret
  exact ⟨by first | rfl | (simp; done) | (simp [*]; done), by repeat (first | exact Drawn0.refl _ | apply Drawn0.step)⟩
 rw [if_pos c2] at H
 have c2b0 : decide (55296 ≤ a0) = true := decide_eq_true c2
 obtain rfl := Option.some.inj H
 go_enter Tryz.func60, Tryz.ntmps60
 go_wp2
 go_ret
 exact ⟨by first | rfl | (simp; done) | (simp [*]; done), by repeat (first | exact Drawn0.refl _ | apply Drawn0.step)⟩
def spec_low.f (a0 : Int) : Option (Bool) := if 56320 ≤ a0 then (some (decide (a0 ≤ 57343))) else (some false)
theorem spec_low.calls (a0 : Int) (r : Bool) (w : World) (h : spec_low.f a0 = some r) :
  Calls Tryz.prog 61 #[.int .i64 a0] w fun e w' => e = .returned (.bool r) ∧ Drawn0 w w' := by
 have H : (if 56320 ≤ a0 then (some (decide (a0 ≤ 57343))) else (some false)) = some r := h
 by_cases c2 : 56320 ≤ a0
 rotate_left
 ·rw [if_neg c2] at H
  have c2b0 : decide (56320 ≤ a0) = false := decide_eq_false c2
  obtain rfl := Option.some.inj H
  go_enter Tryz.func61, Tryz.ntmps61
  go_wp2
  go_ret
  exact ⟨by first | rfl | (simp; done) | (simp [*]; done), by repeat (first | exact Drawn0.refl _ | apply Drawn0.step)⟩
 rw [if_pos c2] at H
 have c2b0 : decide (56320 ≤ a0) = true := decide_eq_true c2
 obtain rfl := Option.some.inj H
 go_enter Tryz.func61, Tryz.ntmps61
 go_wp2
 go_ret
 exact ⟨by first | rfl | (simp; done) | (simp [*]; done), by repeat (first | exact Drawn0.refl _ | apply Drawn0.step)⟩
def spec_short.f (a0 : Int) : Option (Int) := if a0 = 98 then (some 8) else (if a0 = 102 then (some 12) else (if a0 = 110 then (some 10) else (if a0 = 114 then (some 13) else (if a0 = 116 then (some 9) else (some a0)))))
theorem spec_short.calls (a0 : Int) (r : Int) (w : World) (h : spec_short.f a0 = some r) :
  Calls Tryz.prog 105 #[.int .u8 a0] w fun e w' => e = .returned (.int .u8 r) ∧ Drawn0 w w' := by
 have H : (if a0 = 98 then (some 8) else (if a0 = 102 then (some 12) else (if a0 = 110 then (some 10) else (if a0 = 114 then (some 13) else (if a0 = 116 then (some 9) else (some a0)))))) = some r := h
 by_cases c2 : a0 = 98
 ·rw [if_pos c2] at H
  have c2b0 : (a0 == 98) = true := beq_iff_eq.mpr c2
  have c2b1 : (a0 != 98) = false := bne_eq_false_iff_eq.mpr c2
  obtain rfl := Option.some.inj H
  go_enter Tryz.func105, Tryz.ntmps105
  go_wp2
  go_ret
  exact ⟨by first | rfl | (simp; done) | (simp [*]; done), by repeat (first | exact Drawn0.refl _ | apply Drawn0.step)⟩
 rw [if_neg c2] at H
 have c2b0 : (a0 == 98) = false := beq_eq_false_iff_ne.mpr c2
 have c2b1 : (a0 != 98) = true := bne_iff_ne.mpr c2
 by_cases c3 : a0 = 102
 ·rw [if_pos c3] at H
  have c3b0 : (a0 == 102) = true := beq_iff_eq.mpr c3
  have c3b1 : (a0 != 102) = false := bne_eq_false_iff_eq.mpr c3
  obtain rfl := Option.some.inj H
  go_enter Tryz.func105, Tryz.ntmps105
  go_wp2
  go_ret
  exact ⟨by first | rfl | (simp; done) | (simp [*]; done), by repeat (first | exact Drawn0.refl _ | apply Drawn0.step)⟩
 rw [if_neg c3] at H
 have c3b0 : (a0 == 102) = false := beq_eq_false_iff_ne.mpr c3
 have c3b1 : (a0 != 102) = true := bne_iff_ne.mpr c3
 by_cases c4 : a0 = 110
 ·rw [if_pos c4] at H
  have c4b0 : (a0 == 110) = true := beq_iff_eq.mpr c4
  have c4b1 : (a0 != 110) = false := bne_eq_false_iff_eq.mpr c4
  obtain rfl := Option.some.inj H
  go_enter Tryz.func105, Tryz.ntmps105
  go_wp2
  go_ret
  exact ⟨by first | rfl | (simp; done) | (simp [*]; done), by repeat (first | exact Drawn0.refl _ | apply Drawn0.step)⟩
 rw [if_neg c4] at H
 have c4b0 : (a0 == 110) = false := beq_eq_false_iff_ne.mpr c4
 have c4b1 : (a0 != 110) = true := bne_iff_ne.mpr c4
 by_cases c5 : a0 = 114
 ·rw [if_pos c5] at H
  have c5b0 : (a0 == 114) = true := beq_iff_eq.mpr c5
  have c5b1 : (a0 != 114) = false := bne_eq_false_iff_eq.mpr c5
  obtain rfl := Option.some.inj H
  go_enter Tryz.func105, Tryz.ntmps105
  go_wp2
  go_ret
  exact ⟨by first | rfl | (simp; done) | (simp [*]; done), by repeat (first | exact Drawn0.refl _ | apply Drawn0.step)⟩
 rw [if_neg c5] at H
 have c5b0 : (a0 == 114) = false := beq_eq_false_iff_ne.mpr c5
 have c5b1 : (a0 != 114) = true := bne_iff_ne.mpr c5
 by_cases c6 : a0 = 116
 rotate_left
 ·rw [if_neg c6] at H
  have c6b0 : (a0 == 116) = false := beq_eq_false_iff_ne.mpr c6
  have c6b1 : (a0 != 116) = true := bne_iff_ne.mpr c6
  obtain rfl := Option.some.inj H
  go_enter Tryz.func105, Tryz.ntmps105
  go_wp2
  go_ret
  exact ⟨by first | rfl | (simp; done) | (simp [*]; done), by repeat (first | exact Drawn0.refl _ | apply Drawn0.step)⟩
 rw [if_pos c6] at H
 have c6b0 : (a0 == 116) = true := beq_iff_eq.mpr c6
 have c6b1 : (a0 != 116) = false := bne_eq_false_iff_eq.mpr c6
 obtain rfl := Option.some.inj H
 go_enter Tryz.func105, Tryz.ntmps105
 go_wp2
 go_ret
 exact ⟨by first | rfl | (simp; done) | (simp [*]; done), by repeat (first | exact Drawn0.refl _ | apply Drawn0.step)⟩
set_option maxHeartbeats 8000000
set_option maxRecDepth 100000
def spec_appendUTF8.j0 : Nat → List Int → Int → Bool → Option (List Int)
 | 0, _, _, _ => none
 | k + 1, x0, x1, x27 => if x27 = true then ((some (([239, 191, 189] : List Int) : List Int)).bind fun y297 => (if x0.length + y297.length < 140737488355328 then (some (x0 ++ y297)) else (none))) else (if x1 < 65536 then ((some (([(wrap64 (224 + (wrap64 (Int.tdiv x1 4096)))) % 256, (wrap64 (128 + (Int.tmod (wrap64 (Int.tdiv x1 64)) 64))) % 256, (wrap64 (128 + (Int.tmod x1 64))) % 256] : List Int) : List Int)).bind fun y303 => (if x0.length + y303.length < 140737488355328 then (some (x0 ++ y303)) else (none))) else ((some (([(wrap64 (240 + (wrap64 (Int.tdiv x1 262144)))) % 256, (wrap64 (128 + (Int.tmod (wrap64 (Int.tdiv x1 4096)) 64))) % 256, (wrap64 (128 + (Int.tmod (wrap64 (Int.tdiv x1 64)) 64))) % 256, (wrap64 (128 + (Int.tmod x1 64))) % 256] : List Int) : List Int)).bind fun y309 => (if x0.length + y309.length < 140737488355328 then (some (x0 ++ y309)) else (none))))
def spec_appendUTF8.f (k : Nat) (l0 : List Int) (a1 : Int) : Option (List Int) := if a1 < 128 then (if l0.length < 140737488355328 then (some (l0 ++ [(a1) % 256])) else (none)) else (if a1 < 2048 then ((some (([(wrap64 (192 + (wrap64 (Int.tdiv a1 64)))) % 256, (wrap64 (128 + (Int.tmod a1 64))) % 256] : List Int) : List Int)).bind fun y289 => (if l0.length + y289.length < 140737488355328 then (some (l0 ++ y289)) else (none))) else ((spec_high.f a1).bind fun t295 => (if t295 = true then (spec_appendUTF8.j0 k l0 a1 true) else ((spec_low.f a1).bind fun t296 => (spec_appendUTF8.j0 k l0 a1 t296)))))
theorem spec_appendUTF8.calls (k : Nat) (P0_ : Nat → Prop) (u9000_ : Value) (l0 : List Int) (a1 : Int) (r : List Int) (w0 w : World) (hB : Below w0.heap.size w0 w) (ho0 : Kd.R (Kd.int .u8) 5 w w0.heap.size P0_ u9000_ l0) (h : spec_appendUTF8.f k l0 a1 = some r) :
  Calls Tryz.prog 106 #[u9000_, .int .i64 a1] w fun e w' => ∃ v0_ : Value, e = .returned (v0_) ∧ Kd.R (Kd.int .u8) 5 w' w0.heap.size (fun k_ => (P0_ k_ ∨ w.heap.size ≤ k_)) v0_ r ∧ Below w0.heap.size w0 w' ∧ Kept w w' (fun k_ => P0_ k_) := by
 have HO0 := Aside0.mk (show Kd.R (Kd.int .u8) 5 w w0.heap.size (fun k_ => (P0_ k_ ∨ w.heap.size ≤ k_)) u9000_ l0 from Kd.R_mono ho0 (fun k_ hk => (.inl hk)))
 have HK := Aside0.mk (Kept.refl w (fun k_ => P0_ k_))
 have HW0 := Aside0.mk hB.size
 have HB := Aside0.mk hB
 clear hB
 have H : (if a1 < 128 then (if l0.length < 140737488355328 then (some (l0 ++ [(a1) % 256])) else (none)) else (if a1 < 2048 then ((some (([(wrap64 (192 + (wrap64 (Int.tdiv a1 64)))) % 256, (wrap64 (128 + (Int.tmod a1 64))) % 256] : List Int) : List Int)).bind fun y289 => (if l0.length + y289.length < 140737488355328 then (some (l0 ++ y289)) else (none))) else ((spec_high.f a1).bind fun t295 => (if t295 = true then (spec_appendUTF8.j0 k l0 a1 true) else ((spec_low.f a1).bind fun t296 => (spec_appendUTF8.j0 k l0 a1 t296)))))) = some r := h
 clear h
 by_cases c3 : a1 < 128
 ·rw [if_pos c3] at H
  have c3b0 : decide (a1 < 128) = true := decide_eq_true c3
  clear c3
  by_cases c4 : l0.length < 140737488355328
  rotate_left
  ·rw [if_neg c4] at H
   exact absurd H (by simp)
  rw [if_pos c4] at H
  have LMc4 := Aside0.mk c4
  clear c4
  obtain ⟨y286, hy286⟩ : ∃ y_ : List Int, y_ = (l0 ++ [(a1) % 256]) := ⟨_, rfl⟩
  simp only [Option.bind_some, ← hy286] at H
  have Ny286 := Aside0.mk hy286
  clear hy286
  obtain rfl := Option.some.inj H
  go_enter Tryz.func106, Tryz.ntmps106
  go_wp2_with (first | ((with_reducible refine gate_builtin (b := .append) (xs := #[.tmp 8, .tmp 11]) rfl ?_); at_builtin; refine Kd.R_append (Kd.int .u8) (w0 := w0) w0.heap.size rfl (.tmp 8) (.tmp 11) 103 5 (.int .u8 0) 1 rfl Tryz.underlying103 info5 rfl (by decide) (by omega) u9000_ l0 ((a1) % 256) [.int .u8 ((a1) % 256)] (fun k_ => (P0_ k_ ∨ w.heap.size ≤ k_)) (fun _ => False) rfl rfl ?aP (fun _ hk => hk.elim) ?aF ?aO ?aB ?aS ?aL ?_; (case aP => exact rfl); (case aB => exact (by repeat (first | (with_reducible first | exact HB.out | apply bA | apply bN | apply bD) | exact HB.out))); (case aF => exact (fun k_ hk => (.inr (Nat.le_trans (by first | exact HK.out.1 | exact (show Kept w _ (fun k_ => P0_ k_) from by repeat (first | (with_reducible first | exact HK.out | apply Kept.alloc | apply Kept.drewN | apply Kept.drew) | exact HK.out)).1) hk)))); (case aO => exact (by (with_reducible repeat (first | apply rA | apply rN)); exact HO0.out)); (case aS => exact (below_size (by repeat (first | (with_reducible first | exact HB.out | apply bA | apply bN | apply bD) | exact HB.out)))); (case aL => have := LMc4.out; omega); intro v287 w5 ho hb hg hat; rw [← Ny286.out] at ho; replace HB := Aside0.mk (hb); replace HK := Aside0.mk (Kept.of_grown (S := (fun k_ => P0_ k_)) hg (by repeat (first | (with_reducible first | exact HK.out | apply Kept.alloc | apply Kept.drewN | apply Kept.drew) | exact HK.out)) (fun k_ e_ => (HO0.out.1 k_ e_))); have HO288 := Aside0.mk (ho); clear HO0;  clear ho hb hg hat))
  go_ret
  exact ⟨_, by first | rfl | (simp [errW_none, errW_some] <;> rfl) | (simp [*, errW_none, errW_some] <;> rfl), by (with_reducible repeat (first | apply rA | apply rN)); exact HO288.out, by repeat (first | (with_reducible first | exact HB.out | apply bA | apply bN | apply bD) | exact HB.out), by repeat (first | (with_reducible first | exact HK.out | apply Kept.alloc | apply Kept.drewN | apply Kept.drew) | exact HK.out)⟩
 rw [if_neg c3] at H
 have c3b0 : decide (a1 < 128) = false := decide_eq_false c3
 clear c3
 by_cases c6 : a1 < 2048
 ·rw [if_pos c6] at H
  have c6b0 : decide (a1 < 2048) = true := decide_eq_true c6
  clear c6
  obtain ⟨y289, hy289⟩ : ∃ y_ : List Int, y_ = (([(wrap64 (192 + (wrap64 (Int.tdiv a1 64)))) % 256, (wrap64 (128 + (Int.tmod a1 64))) % 256] : List Int)) := ⟨_, rfl⟩
  replace H : (if l0.length + y289.length < 140737488355328 then (some (l0 ++ y289)) else (none)) = some r := by first | (rw [hy289]; with_reducible exact H) | (have H2_ := (Option.bind_some _ _).symm.trans H; rw [hy289]; with_reducible exact H2_) | (have H2_ := (Option.bind_some _ _).symm.trans H; with_reducible exact H2_) | with_reducible exact H | (rw [hy289]; exact H) | exact H
  have Ny289 := Aside0.mk hy289
  clear hy289
  by_cases c7 : l0.length + y289.length < 140737488355328
  rotate_left
  ·rw [if_neg c7] at H
   exact absurd H (by simp)
  rw [if_pos c7] at H
  have LMc7 := Aside0.mk c7
  clear c7
  obtain ⟨y292, hy292⟩ : ∃ y_ : List Int, y_ = (l0 ++ y289) := ⟨_, rfl⟩
  replace H : (some y292) = some r := by first | (rw [hy292]; with_reducible exact H) | (have H2_ := (Option.bind_some _ _).symm.trans H; rw [hy292]; with_reducible exact H2_) | (have H2_ := (Option.bind_some _ _).symm.trans H; with_reducible exact H2_) | with_reducible exact H | (rw [hy292]; exact H) | exact H
  have Ny292 := Aside0.mk hy292
  clear hy292
  obtain rfl := Option.some.inj H
  go_enter Tryz.func106, Tryz.ntmps106
  go_wp2_with (first | ((with_reducible refine gate_dst (N := 25) rfl ?_); refine Kd.R_lit (Kd.int .u8) _ 5 ?hg (N := 25) ?hd (xs := ([(wrap64 (192 + (wrap64 (Int.tdiv a1 64)))) % 256, (wrap64 (128 + (Int.tmod a1 64))) % 256] : List Int)) (inner := [.int .u8 ((wrap64 (192 + (wrap64 (Int.tdiv a1 64)))) % 256), .int .u8 ((wrap64 (128 + (Int.tmod a1 64))) % 256)]) (ok := fun _ => True) (okp := fun _ => True) ?hr ?hp (fun _ hk => hk) trivial (Below.refl _ _) (Nat.le_refl _) (by simp) ?_; (case hd => rfl); (case hg => rfl); (case hr => first | (go_simp; done) | (go_simp; rfl)); (case hp => exact (Reps.one (show Kd.M (Kd.int .u8) _ _ _ ((wrap64 (192 + (wrap64 (Int.tdiv a1 64)))) % 256) [.int .u8 ((wrap64 (192 + (wrap64 (Int.tdiv a1 64)))) % 256)] from rfl) (Reps.one (show Kd.M (Kd.int .u8) _ _ _ ((wrap64 (128 + (Int.tmod a1 64))) % 256) [.int .u8 ((wrap64 (128 + (Int.tmod a1 64))) % 256)] from rfl) (Reps.none _ _)))); intro v290 w8 ho9 hb hg_ hnew_; clear hg_ hnew_; (first | rw [← Ny289.out] at ho9 | (simp only [Int.reduceToNat] at ho9; rw [← Ny289.out] at ho9)); have n0_ := Aside0.mk (Kd.R_elder' (by (with_reducible repeat (first | apply rA | apply rN)); exact HO0.out) (Kd.R_base ho9) hb); have n1_ := Aside0.mk (Kd.R_lower (Kd.R_new' (Kd.R_newM (M := fun k_ => (P0_ k_ ∨ w.heap.size ≤ k_)) ho9 (by first | exact HK.out.1 | exact (show Kept w _ (fun k_ => P0_ k_) from by repeat (first | (with_reducible first | exact HK.out | apply Kept.alloc | apply Kept.drewN | apply Kept.drew) | exact HK.out)).1) (fun k_ h_ => .inr h_)) (Kd.R_lt (by (with_reducible repeat (first | apply rA | apply rN)); exact HO0.out))) (below_size (by repeat (first | (with_reducible first | exact HB.out | apply bA | apply bN | apply bD) | exact HB.out)))); have n2_ := Aside0.mk (Kept.below (S := (fun k_ => P0_ k_)) (by repeat (first | (with_reducible first | exact HK.out | apply Kept.alloc | apply Kept.drewN | apply Kept.drew) | exact HK.out)) hb); have n3_ := Aside0.mk (below_step (by repeat (first | (with_reducible first | exact HB.out | apply bA | apply bN | apply bD) | exact HB.out)) hb); clear HO0; clear HK; clear HB; have HO0 := n0_; have HO291 := n1_; have HK := n2_; have HB := n3_; clear n0_ n1_ n2_ n3_; clear hb ho9; obtain ⟨Ao11, co11, eo11⟩ := Kd.R_slice HO291.out; subst eo11) | ((with_reducible refine gate_builtin (b := .append) (xs := #[.tmp 16, .tmp 25]) rfl ?_); at_builtin; refine Kd.R_append_rows (Kd.int .u8) (w0 := w0) w0.heap.size rfl (.tmp 16) (.tmp 25) 103 5 (.int .u8 0) 1 rfl Tryz.underlying103 info5 rfl (by decide) (by omega) u9000_ l0 y289 _ _ _ (fun k_ => (P0_ k_ ∨ w.heap.size ≤ k_) ∧ some k_ ≠ (.slice Ao11 y289.length co11 : Value).ownBlock) (fun _ => False) rfl rfl ?aO ?aR (fun _ _ h => h) (fun _ h => h.elim) ?aF ?aB ?aS ?aL ?_; (case aR => repeat (first | exact (Kd.R_reads' HO291.out).2.2 | (with_reducible refine Kd.C_alloc ?_ _) | (with_reducible refine Kd.C_drewN ?_ _) | (with_reducible refine Kd.C_drew ?_))); (case aB => exact (by repeat (first | (with_reducible first | exact HB.out | apply bA | apply bN | apply bD) | exact HB.out))); (case aF => exact (fun k_ hk => ⟨(.inr (Nat.le_trans (by first | exact HK.out.1 | exact (show Kept w _ (fun k_ => P0_ k_) from by repeat (first | (with_reducible first | exact HK.out | apply Kept.alloc | apply Kept.drewN | apply Kept.drew) | exact HK.out)).1) hk)), Kd.fresh' (Kd.R_lt (by (with_reducible repeat (first | apply rA | apply rN)); exact HO291.out)) k_ hk⟩)); (case aO => exact (by (with_reducible repeat (first | apply rA | apply rN)); exact HO0.out)); (case aS => exact (below_size (by repeat (first | (with_reducible first | exact HB.out | apply bA | apply bN | apply bD) | exact HB.out)))); (case aL => have := LMc7.out; omega); intro v293 w10 ho hb hg hat; rw [← Ny292.out] at ho; have n0_ := Aside0.mk (Kd.R_after (ok := (fun k_ => (P0_ k_ ∨ w.heap.size ≤ k_))) (by (with_reducible repeat (first | apply rA | apply rN)); exact Kd.R_mono HO291.out (fun _ hk => ⟨hk.1.1, hk.2⟩)) hg hat); have n1_ := Aside0.mk (hb); have n2_ := Aside0.mk (Kept.of_grown (S := (fun k_ => P0_ k_)) hg (by repeat (first | (with_reducible first | exact HK.out | apply Kept.alloc | apply Kept.drewN | apply Kept.drew) | exact HK.out)) (fun k_ e_ => (HO0.out.1 k_ e_).1)); have n3_ := Aside0.mk (ho); clear HO291; clear HB; clear HK; clear HO0; have HO291 := n0_; have HB := n1_; have HK := n2_; have HO294 := n3_; clear n0_ n1_ n2_ n3_; clear ho hb hg hat))
  go_ret
  exact ⟨_, rfl, Kd.R_mono HO294.out (fun _ hk => hk.1), HB.out, HK.out⟩
 rw [if_neg c6] at H
 have c6b0 : decide (a1 < 2048) = false := decide_eq_false c6
 clear c6
 have HC12 := Aside0.mk H
 clear H
 go_enter Tryz.func106, Tryz.ntmps106
 go_upto_region 5 with (fail)
 go_cut [27] (fun v27 wc => ∃ (kq : Nat) (x27_11 : Bool), v27 = .bool x27_11 ∧ Aside0 (spec_appendUTF8.j0 kq l0 a1 x27_11 = some r) ∧ Aside0 (kq ≤ k) ∧ Aside0 (Kd.R (Kd.int .u8) 5 wc w0.heap.size (fun k_ => (P0_ k_ ∨ w.heap.size ≤ k_)) u9000_ l0) ∧ Aside0 (Kept w wc (fun k_ => P0_ k_)) ∧ Aside0 (Below w0.heap.size w0 wc))
 case first =>
  have H := HC12.out
  clear HC12
  replace H := Option.bind_eq_some_iff.mp H
  obtain ⟨t295, A130, H⟩ := H
  have A13 := Aside0.mk A130
  clear A130
  by_cases c14 : t295 = true
  ·subst c14
   rw [if_pos rfl] at H
   have H' := Aside0.mk H
   clear H
   go_wp2_with (first | (go_at_call 60; (with_reducible refine (spec_high.calls a1 true _ A13.out).mono ?_); rintro e w' ⟨rfl, ⟨nd, rfl⟩⟩))
   go_meet
   case rel => exact ⟨_, (true), rfl, H', ⟨by omega⟩, ⟨by (with_reducible repeat (first | apply rA | apply rN)); exact HO0.out⟩, ⟨by repeat (first | (with_reducible first | exact HK.out | apply Kept.alloc | apply Kept.drewN | apply Kept.drew) | exact HK.out)⟩, ⟨by repeat (first | (with_reducible first | exact HB.out | apply bA | apply bN | apply bD) | exact HB.out)⟩⟩
  replace c14 := Bool.eq_false_iff.mpr c14
  subst c14
  rw [if_neg (show ¬ (false = true) by decide)] at H
  replace H := Option.bind_eq_some_iff.mp H
  obtain ⟨t296, A150, H⟩ := H
  have A15 := Aside0.mk A150
  clear A150
  have H' := Aside0.mk H
  clear H
  go_wp2_with (first | (go_at_call 60; (with_reducible refine (spec_high.calls a1 false _ A13.out).mono ?_); rintro e w' ⟨rfl, ⟨nd, rfl⟩⟩) | (go_at_call 61; (with_reducible refine (spec_low.calls a1 t296 _ A15.out).mono ?_); rintro e w' ⟨rfl, ⟨nd, rfl⟩⟩))
  go_meet
  case rel => exact ⟨_, (t296), rfl, H', ⟨by omega⟩, ⟨by (with_reducible repeat (first | apply rA | apply rN)); exact HO0.out⟩, ⟨by repeat (first | (with_reducible first | exact HK.out | apply Kept.alloc | apply Kept.drewN | apply Kept.drew) | exact HK.out)⟩, ⟨by repeat (first | (with_reducible first | exact HB.out | apply bA | apply bN | apply bD) | exact HB.out)⟩⟩
 clear HC12
 try clear c6
 try clear c6b0
 try clear p6
 try clear c7
 try clear c10
 try clear c14
 obtain ⟨kq, x27_11, rfl, HA, HJ11, HO_0, HK, HB⟩ := hcut
 cases kq with
 | zero => exact absurd HA.out (by simp [spec_appendUTF8.j0])
 | succ kj11 =>
  have H := HA.out
  clear HA
  simp only [spec_appendUTF8.j0] at H
  by_cases c16 : x27_11 = true
  ·subst c16
   have H1 : ((some (([239, 191, 189] : List Int) : List Int)).bind fun y297 => (if l0.length + y297.length < 140737488355328 then (some (l0 ++ y297)) else (none))) = some r := by rw [if_pos rfl] at H; exact H
   clear H
   have H := H1
   clear H1
   obtain ⟨y297, hy297⟩ : ∃ y_ : List Int, y_ = (([239, 191, 189] : List Int)) := ⟨_, rfl⟩
   replace H : (if l0.length + y297.length < 140737488355328 then (some (l0 ++ y297)) else (none)) = some r := by first | (rw [hy297]; with_reducible exact H) | (have H2_ := (Option.bind_some _ _).symm.trans H; rw [hy297]; with_reducible exact H2_) | (have H2_ := (Option.bind_some _ _).symm.trans H; with_reducible exact H2_) | with_reducible exact H | (rw [hy297]; exact H) | exact H
   have Ny297 := Aside0.mk hy297
   clear hy297
   by_cases c17 : l0.length + y297.length < 140737488355328
   rotate_left
   ·rw [if_neg c17] at H
    exact absurd H (by simp)
   rw [if_pos c17] at H
   have LMc17 := Aside0.mk c17
   clear c17
   obtain ⟨y300, hy300⟩ : ∃ y_ : List Int, y_ = (l0 ++ y297) := ⟨_, rfl⟩
   replace H : (some y300) = some r := by first | (rw [hy300]; with_reducible exact H) | (have H2_ := (Option.bind_some _ _).symm.trans H; rw [hy300]; with_reducible exact H2_) | (have H2_ := (Option.bind_some _ _).symm.trans H; with_reducible exact H2_) | with_reducible exact H | (rw [hy300]; exact H) | exact H
   have Ny300 := Aside0.mk hy300
   clear hy300
   obtain rfl := Option.some.inj H
   go_wp2_with (first | ((with_reducible refine gate_dst (N := 35) rfl ?_); refine Kd.R_lit (Kd.int .u8) _ 5 ?hg (N := 35) ?hd (xs := ([239, 191, 189] : List Int)) (inner := [.int .u8 239, .int .u8 191, .int .u8 189]) (ok := fun _ => True) (okp := fun _ => True) ?hr ?hp (fun _ hk => hk) trivial (Below.refl _ _) (Nat.le_refl _) (by simp) ?_; (case hd => rfl); (case hg => rfl); (case hr => first | (go_simp; done) | (go_simp; rfl)); (case hp => exact (Reps.one (show Kd.M (Kd.int .u8) _ _ _ 239 [.int .u8 239] from rfl) (Reps.one (show Kd.M (Kd.int .u8) _ _ _ 191 [.int .u8 191] from rfl) (Reps.one (show Kd.M (Kd.int .u8) _ _ _ 189 [.int .u8 189] from rfl) (Reps.none _ _))))); intro v298 w18 ho19 hb hg_ hnew_; clear hg_ hnew_; (first | rw [← Ny297.out] at ho19 | (simp only [Int.reduceToNat] at ho19; rw [← Ny297.out] at ho19)); have n0_ := Aside0.mk (Kd.R_elder' (by (with_reducible repeat (first | apply rA | apply rN)); exact HO_0.out) (Kd.R_base ho19) hb); have n1_ := Aside0.mk (Kd.R_lower (Kd.R_new' (Kd.R_newM (M := fun k_ => (P0_ k_ ∨ w.heap.size ≤ k_)) ho19 (by first | exact HK.out.1 | exact (show Kept w _ (fun k_ => P0_ k_) from by repeat (first | (with_reducible first | exact HK.out | apply Kept.alloc | apply Kept.drewN | apply Kept.drew) | exact HK.out)).1) (fun k_ h_ => .inr h_)) (Kd.R_lt (by (with_reducible repeat (first | apply rA | apply rN)); exact HO_0.out))) (below_size (by repeat (first | (with_reducible first | exact HB.out | apply bA | apply bN | apply bD) | exact HB.out)))); have n2_ := Aside0.mk (Kept.below (S := (fun k_ => P0_ k_)) (by repeat (first | (with_reducible first | exact HK.out | apply Kept.alloc | apply Kept.drewN | apply Kept.drew) | exact HK.out)) hb); have n3_ := Aside0.mk (below_step (by repeat (first | (with_reducible first | exact HB.out | apply bA | apply bN | apply bD) | exact HB.out)) hb); clear HO_0; clear HK; clear HB; have HO_0 := n0_; have HO299 := n1_; have HK := n2_; have HB := n3_; clear n0_ n1_ n2_ n3_; clear hb ho19; obtain ⟨Ao21, co21, eo21⟩ := Kd.R_slice HO299.out; subst eo21) | ((with_reducible refine gate_builtin (b := .append) (xs := #[.tmp 34, .tmp 35]) rfl ?_); at_builtin; refine Kd.R_append_rows (Kd.int .u8) (w0 := w0) w0.heap.size rfl (.tmp 34) (.tmp 35) 103 5 (.int .u8 0) 1 rfl Tryz.underlying103 info5 rfl (by decide) (by omega) u9000_ l0 y297 _ _ _ (fun k_ => (P0_ k_ ∨ w.heap.size ≤ k_) ∧ some k_ ≠ (.slice Ao21 y297.length co21 : Value).ownBlock) (fun _ => False) rfl rfl ?aO ?aR (fun _ _ h => h) (fun _ h => h.elim) ?aF ?aB ?aS ?aL ?_; (case aR => repeat (first | exact (Kd.R_reads' HO299.out).2.2 | (with_reducible refine Kd.C_alloc ?_ _) | (with_reducible refine Kd.C_drewN ?_ _) | (with_reducible refine Kd.C_drew ?_))); (case aB => exact (by repeat (first | (with_reducible first | exact HB.out | apply bA | apply bN | apply bD) | exact HB.out))); (case aF => exact (fun k_ hk => ⟨(.inr (Nat.le_trans (by first | exact HK.out.1 | exact (show Kept w _ (fun k_ => P0_ k_) from by repeat (first | (with_reducible first | exact HK.out | apply Kept.alloc | apply Kept.drewN | apply Kept.drew) | exact HK.out)).1) hk)), Kd.fresh' (Kd.R_lt (by (with_reducible repeat (first | apply rA | apply rN)); exact HO299.out)) k_ hk⟩)); (case aO => exact (by (with_reducible repeat (first | apply rA | apply rN)); exact HO_0.out)); (case aS => exact (below_size (by repeat (first | (with_reducible first | exact HB.out | apply bA | apply bN | apply bD) | exact HB.out)))); (case aL => have := LMc17.out; omega); intro v301 w20 ho hb hg hat; rw [← Ny300.out] at ho; have n0_ := Aside0.mk (Kd.R_after (ok := (fun k_ => (P0_ k_ ∨ w.heap.size ≤ k_))) (by (with_reducible repeat (first | apply rA | apply rN)); exact Kd.R_mono HO299.out (fun _ hk => ⟨hk.1.1, hk.2⟩)) hg hat); have n1_ := Aside0.mk (hb); have n2_ := Aside0.mk (Kept.of_grown (S := (fun k_ => P0_ k_)) hg (by repeat (first | (with_reducible first | exact HK.out | apply Kept.alloc | apply Kept.drewN | apply Kept.drew) | exact HK.out)) (fun k_ e_ => (HO_0.out.1 k_ e_).1)); have n3_ := Aside0.mk (ho); clear HO299; clear HB; clear HK; clear HO_0; have HO299 := n0_; have HB := n1_; have HK := n2_; have HO302 := n3_; clear n0_ n1_ n2_ n3_; clear ho hb hg hat))
   go_ret
   exact ⟨_, by first | rfl | (simp [errW_none, errW_some] <;> rfl) | (simp [*, errW_none, errW_some] <;> rfl), by (with_reducible repeat (first | apply rA | apply rN)); exact Kd.R_mono HO302.out (fun _ hk => hk.1), by repeat (first | (with_reducible first | exact HB.out | apply bA | apply bN | apply bD) | exact HB.out), by repeat (first | (with_reducible first | exact HK.out | apply Kept.alloc | apply Kept.drewN | apply Kept.drew) | exact HK.out)⟩
  replace c16 := Bool.eq_false_iff.mpr c16
  subst c16
  have H1 : (if a1 < 65536 then ((some (([(wrap64 (224 + (wrap64 (Int.tdiv a1 4096)))) % 256, (wrap64 (128 + (Int.tmod (wrap64 (Int.tdiv a1 64)) 64))) % 256, (wrap64 (128 + (Int.tmod a1 64))) % 256] : List Int) : List Int)).bind fun y303 => (if l0.length + y303.length < 140737488355328 then (some (l0 ++ y303)) else (none))) else ((some (([(wrap64 (240 + (wrap64 (Int.tdiv a1 262144)))) % 256, (wrap64 (128 + (Int.tmod (wrap64 (Int.tdiv a1 4096)) 64))) % 256, (wrap64 (128 + (Int.tmod (wrap64 (Int.tdiv a1 64)) 64))) % 256, (wrap64 (128 + (Int.tmod a1 64))) % 256] : List Int) : List Int)).bind fun y309 => (if l0.length + y309.length < 140737488355328 then (some (l0 ++ y309)) else (none)))) = some r := by rw [if_neg (show ¬ (false = true) by decide)] at H; exact H
  clear H
  have H := H1
  clear H1
  by_cases c22 : a1 < 65536
  rotate_left
  ·rw [if_neg c22] at H
   have c22b0 : decide (a1 < 65536) = false := decide_eq_false c22
   clear c22
   obtain ⟨y309, hy309⟩ : ∃ y_ : List Int, y_ = (([(wrap64 (240 + (wrap64 (Int.tdiv a1 262144)))) % 256, (wrap64 (128 + (Int.tmod (wrap64 (Int.tdiv a1 4096)) 64))) % 256, (wrap64 (128 + (Int.tmod (wrap64 (Int.tdiv a1 64)) 64))) % 256, (wrap64 (128 + (Int.tmod a1 64))) % 256] : List Int)) := ⟨_, rfl⟩
   replace H : (if l0.length + y309.length < 140737488355328 then (some (l0 ++ y309)) else (none)) = some r := by first | (rw [hy309]; with_reducible exact H) | (have H2_ := (Option.bind_some _ _).symm.trans H; rw [hy309]; with_reducible exact H2_) | (have H2_ := (Option.bind_some _ _).symm.trans H; with_reducible exact H2_) | with_reducible exact H | (rw [hy309]; exact H) | exact H
   have Ny309 := Aside0.mk hy309
   clear hy309
   by_cases c28 : l0.length + y309.length < 140737488355328
   rotate_left
   ·rw [if_neg c28] at H
    exact absurd H (by simp)
   rw [if_pos c28] at H
   have LMc28 := Aside0.mk c28
   clear c28
   obtain ⟨y312, hy312⟩ : ∃ y_ : List Int, y_ = (l0 ++ y309) := ⟨_, rfl⟩
   replace H : (some y312) = some r := by first | (rw [hy312]; with_reducible exact H) | (have H2_ := (Option.bind_some _ _).symm.trans H; rw [hy312]; with_reducible exact H2_) | (have H2_ := (Option.bind_some _ _).symm.trans H; with_reducible exact H2_) | with_reducible exact H | (rw [hy312]; exact H) | exact H
   have Ny312 := Aside0.mk hy312
   clear hy312
   obtain rfl := Option.some.inj H
   go_wp2_with (first | ((with_reducible refine gate_dst (N := 75) rfl ?_); refine Kd.R_lit (Kd.int .u8) _ 5 ?hg (N := 75) ?hd (xs := ([(wrap64 (240 + (wrap64 (Int.tdiv a1 262144)))) % 256, (wrap64 (128 + (Int.tmod (wrap64 (Int.tdiv a1 4096)) 64))) % 256, (wrap64 (128 + (Int.tmod (wrap64 (Int.tdiv a1 64)) 64))) % 256, (wrap64 (128 + (Int.tmod a1 64))) % 256] : List Int)) (inner := [.int .u8 ((wrap64 (240 + (wrap64 (Int.tdiv a1 262144)))) % 256), .int .u8 ((wrap64 (128 + (Int.tmod (wrap64 (Int.tdiv a1 4096)) 64))) % 256), .int .u8 ((wrap64 (128 + (Int.tmod (wrap64 (Int.tdiv a1 64)) 64))) % 256), .int .u8 ((wrap64 (128 + (Int.tmod a1 64))) % 256)]) (ok := fun _ => True) (okp := fun _ => True) ?hr ?hp (fun _ hk => hk) trivial (Below.refl _ _) (Nat.le_refl _) (by simp) ?_; (case hd => rfl); (case hg => rfl); (case hr => first | (go_simp; done) | (go_simp; rfl)); (case hp => exact (Reps.one (show Kd.M (Kd.int .u8) _ _ _ ((wrap64 (240 + (wrap64 (Int.tdiv a1 262144)))) % 256) [.int .u8 ((wrap64 (240 + (wrap64 (Int.tdiv a1 262144)))) % 256)] from rfl) (Reps.one (show Kd.M (Kd.int .u8) _ _ _ ((wrap64 (128 + (Int.tmod (wrap64 (Int.tdiv a1 4096)) 64))) % 256) [.int .u8 ((wrap64 (128 + (Int.tmod (wrap64 (Int.tdiv a1 4096)) 64))) % 256)] from rfl) (Reps.one (show Kd.M (Kd.int .u8) _ _ _ ((wrap64 (128 + (Int.tmod (wrap64 (Int.tdiv a1 64)) 64))) % 256) [.int .u8 ((wrap64 (128 + (Int.tmod (wrap64 (Int.tdiv a1 64)) 64))) % 256)] from rfl) (Reps.one (show Kd.M (Kd.int .u8) _ _ _ ((wrap64 (128 + (Int.tmod a1 64))) % 256) [.int .u8 ((wrap64 (128 + (Int.tmod a1 64))) % 256)] from rfl) (Reps.none _ _)))))); intro v310 w29 ho30 hb hg_ hnew_; clear hg_ hnew_; (first | rw [← Ny309.out] at ho30 | (simp only [Int.reduceToNat] at ho30; rw [← Ny309.out] at ho30)); have n0_ := Aside0.mk (Kd.R_elder' (by (with_reducible repeat (first | apply rA | apply rN)); exact HO_0.out) (Kd.R_base ho30) hb); have n1_ := Aside0.mk (Kd.R_lower (Kd.R_new' (Kd.R_newM (M := fun k_ => (P0_ k_ ∨ w.heap.size ≤ k_)) ho30 (by first | exact HK.out.1 | exact (show Kept w _ (fun k_ => P0_ k_) from by repeat (first | (with_reducible first | exact HK.out | apply Kept.alloc | apply Kept.drewN | apply Kept.drew) | exact HK.out)).1) (fun k_ h_ => .inr h_)) (Kd.R_lt (by (with_reducible repeat (first | apply rA | apply rN)); exact HO_0.out))) (below_size (by repeat (first | (with_reducible first | exact HB.out | apply bA | apply bN | apply bD) | exact HB.out)))); have n2_ := Aside0.mk (Kept.below (S := (fun k_ => P0_ k_)) (by repeat (first | (with_reducible first | exact HK.out | apply Kept.alloc | apply Kept.drewN | apply Kept.drew) | exact HK.out)) hb); have n3_ := Aside0.mk (below_step (by repeat (first | (with_reducible first | exact HB.out | apply bA | apply bN | apply bD) | exact HB.out)) hb); clear HO_0; clear HK; clear HB; have HO_0 := n0_; have HO311 := n1_; have HK := n2_; have HB := n3_; clear n0_ n1_ n2_ n3_; clear hb ho30; obtain ⟨Ao32, co32, eo32⟩ := Kd.R_slice HO311.out; subst eo32) | ((with_reducible refine gate_builtin (b := .append) (xs := #[.tmp 56, .tmp 75]) rfl ?_); at_builtin; refine Kd.R_append_rows (Kd.int .u8) (w0 := w0) w0.heap.size rfl (.tmp 56) (.tmp 75) 103 5 (.int .u8 0) 1 rfl Tryz.underlying103 info5 rfl (by decide) (by omega) u9000_ l0 y309 _ _ _ (fun k_ => (P0_ k_ ∨ w.heap.size ≤ k_) ∧ some k_ ≠ (.slice Ao32 y309.length co32 : Value).ownBlock) (fun _ => False) rfl rfl ?aO ?aR (fun _ _ h => h) (fun _ h => h.elim) ?aF ?aB ?aS ?aL ?_; (case aR => repeat (first | exact (Kd.R_reads' HO311.out).2.2 | (with_reducible refine Kd.C_alloc ?_ _) | (with_reducible refine Kd.C_drewN ?_ _) | (with_reducible refine Kd.C_drew ?_))); (case aB => exact (by repeat (first | (with_reducible first | exact HB.out | apply bA | apply bN | apply bD) | exact HB.out))); (case aF => exact (fun k_ hk => ⟨(.inr (Nat.le_trans (by first | exact HK.out.1 | exact (show Kept w _ (fun k_ => P0_ k_) from by repeat (first | (with_reducible first | exact HK.out | apply Kept.alloc | apply Kept.drewN | apply Kept.drew) | exact HK.out)).1) hk)), Kd.fresh' (Kd.R_lt (by (with_reducible repeat (first | apply rA | apply rN)); exact HO311.out)) k_ hk⟩)); (case aO => exact (by (with_reducible repeat (first | apply rA | apply rN)); exact HO_0.out)); (case aS => exact (below_size (by repeat (first | (with_reducible first | exact HB.out | apply bA | apply bN | apply bD) | exact HB.out)))); (case aL => have := LMc28.out; omega); intro v313 w31 ho hb hg hat; rw [← Ny312.out] at ho; have n0_ := Aside0.mk (Kd.R_after (ok := (fun k_ => (P0_ k_ ∨ w.heap.size ≤ k_))) (by (with_reducible repeat (first | apply rA | apply rN)); exact Kd.R_mono HO311.out (fun _ hk => ⟨hk.1.1, hk.2⟩)) hg hat); have n1_ := Aside0.mk (hb); have n2_ := Aside0.mk (Kept.of_grown (S := (fun k_ => P0_ k_)) hg (by repeat (first | (with_reducible first | exact HK.out | apply Kept.alloc | apply Kept.drewN | apply Kept.drew) | exact HK.out)) (fun k_ e_ => (HO_0.out.1 k_ e_).1)); have n3_ := Aside0.mk (ho); clear HO311; clear HB; clear HK; clear HO_0; have HO311 := n0_; have HB := n1_; have HK := n2_; have HO314 := n3_; clear n0_ n1_ n2_ n3_; clear ho hb hg hat))
   go_ret
   exact ⟨_, rfl, Kd.R_mono HO314.out (fun _ hk => hk.1), HB.out, HK.out⟩
  rw [if_pos c22] at H
  have c22b0 : decide (a1 < 65536) = true := decide_eq_true c22
  clear c22
  obtain ⟨y303, hy303⟩ : ∃ y_ : List Int, y_ = (([(wrap64 (224 + (wrap64 (Int.tdiv a1 4096)))) % 256, (wrap64 (128 + (Int.tmod (wrap64 (Int.tdiv a1 64)) 64))) % 256, (wrap64 (128 + (Int.tmod a1 64))) % 256] : List Int)) := ⟨_, rfl⟩
  replace H : (if l0.length + y303.length < 140737488355328 then (some (l0 ++ y303)) else (none)) = some r := by first | (rw [hy303]; with_reducible exact H) | (have H2_ := (Option.bind_some _ _).symm.trans H; rw [hy303]; with_reducible exact H2_) | (have H2_ := (Option.bind_some _ _).symm.trans H; with_reducible exact H2_) | with_reducible exact H | (rw [hy303]; exact H) | exact H
  have Ny303 := Aside0.mk hy303
  clear hy303
  by_cases c23 : l0.length + y303.length < 140737488355328
  rotate_left
  ·rw [if_neg c23] at H
   exact absurd H (by simp)
  rw [if_pos c23] at H
  have LMc23 := Aside0.mk c23
  clear c23
  obtain ⟨y306, hy306⟩ : ∃ y_ : List Int, y_ = (l0 ++ y303) := ⟨_, rfl⟩
  replace H : (some y306) = some r := by first | (rw [hy306]; with_reducible exact H) | (have H2_ := (Option.bind_some _ _).symm.trans H; rw [hy306]; with_reducible exact H2_) | (have H2_ := (Option.bind_some _ _).symm.trans H; with_reducible exact H2_) | with_reducible exact H | (rw [hy306]; exact H) | exact H
  have Ny306 := Aside0.mk hy306
  clear hy306
  obtain rfl := Option.some.inj H
  go_wp2_with (first | ((with_reducible refine gate_dst (N := 54) rfl ?_); refine Kd.R_lit (Kd.int .u8) _ 5 ?hg (N := 54) ?hd (xs := ([(wrap64 (224 + (wrap64 (Int.tdiv a1 4096)))) % 256, (wrap64 (128 + (Int.tmod (wrap64 (Int.tdiv a1 64)) 64))) % 256, (wrap64 (128 + (Int.tmod a1 64))) % 256] : List Int)) (inner := [.int .u8 ((wrap64 (224 + (wrap64 (Int.tdiv a1 4096)))) % 256), .int .u8 ((wrap64 (128 + (Int.tmod (wrap64 (Int.tdiv a1 64)) 64))) % 256), .int .u8 ((wrap64 (128 + (Int.tmod a1 64))) % 256)]) (ok := fun _ => True) (okp := fun _ => True) ?hr ?hp (fun _ hk => hk) trivial (Below.refl _ _) (Nat.le_refl _) (by simp) ?_; (case hd => rfl); (case hg => rfl); (case hr => first | (go_simp; done) | (go_simp; rfl)); (case hp => exact (Reps.one (show Kd.M (Kd.int .u8) _ _ _ ((wrap64 (224 + (wrap64 (Int.tdiv a1 4096)))) % 256) [.int .u8 ((wrap64 (224 + (wrap64 (Int.tdiv a1 4096)))) % 256)] from rfl) (Reps.one (show Kd.M (Kd.int .u8) _ _ _ ((wrap64 (128 + (Int.tmod (wrap64 (Int.tdiv a1 64)) 64))) % 256) [.int .u8 ((wrap64 (128 + (Int.tmod (wrap64 (Int.tdiv a1 64)) 64))) % 256)] from rfl) (Reps.one (show Kd.M (Kd.int .u8) _ _ _ ((wrap64 (128 + (Int.tmod a1 64))) % 256) [.int .u8 ((wrap64 (128 + (Int.tmod a1 64))) % 256)] from rfl) (Reps.none _ _))))); intro v304 w24 ho25 hb hg_ hnew_; clear hg_ hnew_; (first | rw [← Ny303.out] at ho25 | (simp only [Int.reduceToNat] at ho25; rw [← Ny303.out] at ho25)); have n0_ := Aside0.mk (Kd.R_elder' (by (with_reducible repeat (first | apply rA | apply rN)); exact HO_0.out) (Kd.R_base ho25) hb); have n1_ := Aside0.mk (Kd.R_lower (Kd.R_new' (Kd.R_newM (M := fun k_ => (P0_ k_ ∨ w.heap.size ≤ k_)) ho25 (by first | exact HK.out.1 | exact (show Kept w _ (fun k_ => P0_ k_) from by repeat (first | (with_reducible first | exact HK.out | apply Kept.alloc | apply Kept.drewN | apply Kept.drew) | exact HK.out)).1) (fun k_ h_ => .inr h_)) (Kd.R_lt (by (with_reducible repeat (first | apply rA | apply rN)); exact HO_0.out))) (below_size (by repeat (first | (with_reducible first | exact HB.out | apply bA | apply bN | apply bD) | exact HB.out)))); have n2_ := Aside0.mk (Kept.below (S := (fun k_ => P0_ k_)) (by repeat (first | (with_reducible first | exact HK.out | apply Kept.alloc | apply Kept.drewN | apply Kept.drew) | exact HK.out)) hb); have n3_ := Aside0.mk (below_step (by repeat (first | (with_reducible first | exact HB.out | apply bA | apply bN | apply bD) | exact HB.out)) hb); clear HO_0; clear HK; clear HB; have HO_0 := n0_; have HO305 := n1_; have HK := n2_; have HB := n3_; clear n0_ n1_ n2_ n3_; clear hb ho25; obtain ⟨Ao27, co27, eo27⟩ := Kd.R_slice HO305.out; subst eo27) | ((with_reducible refine gate_builtin (b := .append) (xs := #[.tmp 40, .tmp 54]) rfl ?_); at_builtin; refine Kd.R_append_rows (Kd.int .u8) (w0 := w0) w0.heap.size rfl (.tmp 40) (.tmp 54) 103 5 (.int .u8 0) 1 rfl Tryz.underlying103 info5 rfl (by decide) (by omega) u9000_ l0 y303 _ _ _ (fun k_ => (P0_ k_ ∨ w.heap.size ≤ k_) ∧ some k_ ≠ (.slice Ao27 y303.length co27 : Value).ownBlock) (fun _ => False) rfl rfl ?aO ?aR (fun _ _ h => h) (fun _ h => h.elim) ?aF ?aB ?aS ?aL ?_; (case aR => repeat (first | exact (Kd.R_reads' HO305.out).2.2 | (with_reducible refine Kd.C_alloc ?_ _) | (with_reducible refine Kd.C_drewN ?_ _) | (with_reducible refine Kd.C_drew ?_))); (case aB => exact (by repeat (first | (with_reducible first | exact HB.out | apply bA | apply bN | apply bD) | exact HB.out))); (case aF => exact (fun k_ hk => ⟨(.inr (Nat.le_trans (by first | exact HK.out.1 | exact (show Kept w _ (fun k_ => P0_ k_) from by repeat (first | (with_reducible first | exact HK.out | apply Kept.alloc | apply Kept.drewN | apply Kept.drew) | exact HK.out)).1) hk)), Kd.fresh' (Kd.R_lt (by (with_reducible repeat (first | apply rA | apply rN)); exact HO305.out)) k_ hk⟩)); (case aO => exact (by (with_reducible repeat (first | apply rA | apply rN)); exact HO_0.out)); (case aS => exact (below_size (by repeat (first | (with_reducible first | exact HB.out | apply bA | apply bN | apply bD) | exact HB.out)))); (case aL => have := LMc23.out; omega); intro v307 w26 ho hb hg hat; rw [← Ny306.out] at ho; have n0_ := Aside0.mk (Kd.R_after (ok := (fun k_ => (P0_ k_ ∨ w.heap.size ≤ k_))) (by (with_reducible repeat (first | apply rA | apply rN)); exact Kd.R_mono HO305.out (fun _ hk => ⟨hk.1.1, hk.2⟩)) hg hat); have n1_ := Aside0.mk (hb); have n2_ := Aside0.mk (Kept.of_grown (S := (fun k_ => P0_ k_)) hg (by repeat (first | (with_reducible first | exact HK.out | apply Kept.alloc | apply Kept.drewN | apply Kept.drew) | exact HK.out)) (fun k_ e_ => (HO_0.out.1 k_ e_).1)); have n3_ := Aside0.mk (ho); clear HO305; clear HB; clear HK; clear HO_0; have HO305 := n0_; have HB := n1_; have HK := n2_; have HO308 := n3_; clear n0_ n1_ n2_ n3_; clear ho hb hg hat))
  go_ret
  exact ⟨_, by first | rfl | (simp [errW_none, errW_some] <;> rfl) | (simp [*, errW_none, errW_some] <;> rfl), by (with_reducible repeat (first | apply rA | apply rN)); exact Kd.R_mono HO308.out (fun _ hk => hk.1), by repeat (first | (with_reducible first | exact HB.out | apply bA | apply bN | apply bD) | exact HB.out), by repeat (first | (with_reducible first | exact HK.out | apply Kept.alloc | apply Kept.drewN | apply Kept.drew) | exact HK.out)⟩
def spec_Unquote.l0 : Nat → List Int → ByteArray → Int → Option (ByteArray)
 | 0, _, _, _ => none
 | k + 1, x3, x4, x5 => if x5 < (x4.size : Int) then (if 0 ≤ x5 then (if (bt x4 x5) = 92 then ((spec_unit.f k x4 x5).bind fun bt318 => (if bt318.2 = true then ((spec_unit.f k x4 (wrap64 (x5 + 6))).bind fun bt324 => (if bt324.2 = true then ((spec_high.f bt318.1).bind fun t326 => (if t326 = true then ((spec_low.f bt324.1).bind fun t327 => (if t327 = true then ((spec_appendUTF8.f k x3 (wrap64 ((wrap64 (65536 + (wrap64 ((wrap64 (bt318.1 - 55296)) * 1024)))) + (wrap64 (bt324.1 - 56320))))).bind fun t328 => (spec_Unquote.l0 k t328 x4 (wrap64 ((wrap64 (x5 + 6)) + 6)))) else ((spec_appendUTF8.f k x3 bt318.1).bind fun t331 => (spec_Unquote.l0 k t331 x4 (wrap64 (x5 + 6)))))) else ((spec_appendUTF8.f k x3 bt318.1).bind fun t334 => (spec_Unquote.l0 k t334 x4 (wrap64 (x5 + 6)))))) else ((spec_appendUTF8.f k x3 bt318.1).bind fun t337 => (spec_Unquote.l0 k t337 x4 (wrap64 (x5 + 6)))))) else (if 0 ≤ (wrap64 (x5 + 1)) then (if (wrap64 (x5 + 1)) < (x4.size : Int) then ((spec_short.f (bt x4 (wrap64 (x5 + 1)))).bind fun t320 => (if x3.length < 140737488355328 then (spec_Unquote.l0 k (x3 ++ [t320]) x4 (wrap64 (x5 + 2))) else (none))) else (none)) else (none)))) else (if x3.length < 140737488355328 then (spec_Unquote.l0 k (x3 ++ [bt x4 x5]) x4 (wrap64 (x5 + 1))) else (none))) else (none)) else (some (strOfNums x3))
def spec_Unquote.f (k : Nat) (a0 : ByteArray) : Option (ByteArray) := if 1 ≤ (wrap64 ((a0.size : Int) - 1)) then (if (wrap64 ((a0.size : Int) - 1)) ≤ (a0.size : Int) then (spec_Unquote.l0 k ([] : List Int) (a0.extract 1 ((wrap64 ((a0.size : Int) - 1)) : Int).toNat) 0) else (none)) else (none)
theorem spec_Unquote.calls (k : Nat) (a0 : ByteArray) (r : ByteArray) (w : World) (h : spec_Unquote.f k a0 = some r) :
  Calls Tryz.prog 74 #[.string a0] w fun e w' => e = .returned (.string r) ∧ Below w.heap.size w w' := by
 have HB := Aside0.mk (Below.refl w.heap.size w)
 have H : (if 1 ≤ (wrap64 ((a0.size : Int) - 1)) then (if (wrap64 ((a0.size : Int) - 1)) ≤ (a0.size : Int) then (spec_Unquote.l0 k ([] : List Int) (a0.extract 1 ((wrap64 ((a0.size : Int) - 1)) : Int).toNat) 0) else (none)) else (none)) = some r := h
 clear h
 by_cases c2 : 1 ≤ (wrap64 ((a0.size : Int) - 1))
 rotate_left
 ·rw [if_neg c2] at H
  exact absurd H (by simp)
 rw [if_pos c2] at H
 have c2b0 := eq_true c2
 have c2b1 : decide (1 ≤ (wrap64 ((a0.size : Int) - 1))) = true := decide_eq_true c2
 clear c2
 by_cases c3 : (wrap64 ((a0.size : Int) - 1)) ≤ (a0.size : Int)
 rotate_left
 ·rw [if_neg c3] at H
  exact absurd H (by simp)
 rw [if_pos c3] at H
 have c3b0 := eq_true c3
 have c3b1 : decide ((wrap64 ((a0.size : Int) - 1)) ≤ (a0.size : Int)) = true := decide_eq_true c3
 clear c3
 have H' := Aside0.mk H
 clear H
 go_enter Tryz.func74, Tryz.ntmps74
 go_wp2
 generalize a0.extract 1 (wrap64 ((a0.size : Int) - 1)).toNat = t4 at *
 go_loopg [3, 5] k (fun kq v3 v5 w' => ∃ (x3_1 : List Int) (x5_1 : Int), v5 = .int .i64 x5_1 ∧ Aside0 (spec_Unquote.l0 kq x3_1 t4 x5_1 = some r) ∧ Aside0 (kq ≤ k) ∧ Aside0 (Kd.R (Kd.int .u8) 5 w' w.heap.size (fun _ => True) v3 x3_1) ∧ Aside0 (Below w.heap.size w w'))
 case atStart => exact ⟨(([] : List Int)), (0), rfl, H', ⟨Nat.le_refl _⟩, ⟨by first | exact Kd.R_nil _ _ _ _ _ | exact Kd.N_nil _ _ _ _ _ | exact Kd.V_nil _ _ _ _ _ | exact Kd.Q_nil _ _ _ _ _ | exact Kd.S_nil _ _ _ _ _⟩, ⟨HB.out⟩⟩
 clear H'
 obtain ⟨x3_1, x5_1, rfl, HA, HK1, HO_3, HB⟩ := hrel
 cases gk with
 | zero => exact absurd HA.out (by simp [spec_Unquote.l0])
 | succ k1 =>
  have H := HA.out
  clear HA
  simp only [spec_Unquote.l0] at H
  by_cases c4 : x5_1 < (t4.size : Int)
  rotate_left
  ·rw [if_neg c4] at H
   have c4b0 : decide (x5_1 < (t4.size : Int)) = false := decide_eq_false c4
   clear c4
   obtain rfl := Option.some.inj H
   have hcv38 := own_string (P := Tryz.prog) Tryz.underlying103 Tryz.underlying5 Tryz.underlying9 (Kd.own_of_R HO_3.out)
   go_wp2
   go_ret
   exact ⟨rfl, HB.out⟩
  rw [if_pos c4] at H
  have c4b0 : decide (x5_1 < (t4.size : Int)) = true := decide_eq_true c4
  clear c4
  by_cases c5 : 0 ≤ x5_1
  rotate_left
  ·rw [if_neg c5] at H
   exact absurd H (by simp)
  rw [if_pos c5] at H
  have c5b0 : decide (0 ≤ x5_1) = true := decide_eq_true c5
  clear c5
  by_cases c7 : (bt t4 x5_1) = 92
  rotate_left
  ·rw [if_neg c7] at H
   have c7b0 : ((bt t4 x5_1) == 92) = false := beq_eq_false_iff_ne.mpr c7
   have c7b1 : ((bt t4 x5_1) != 92) = true := bne_iff_ne.mpr c7
   by_cases c36 : x3_1.length < 140737488355328
   rotate_left
   ·rw [if_neg c36] at H
    exact absurd H (by simp)
   rw [if_pos c36] at H
   have LMc36 := Aside0.mk c36
   clear c36
   obtain ⟨y315, hy315⟩ : ∃ y_ : List Int, y_ = (x3_1 ++ [bt t4 x5_1]) := ⟨_, rfl⟩
   simp only [Option.bind_some, ← hy315] at H
   have Ny315 := Aside0.mk hy315
   clear hy315
   have H' := Aside0.mk H
   clear H
   have p6 : 0 ≤ (x5_1 : Int) := of_decide_eq_true (by assumption)
   have q6 : x5_1 < (t4.size : Int) := of_decide_eq_true (by assumption)
   have hx6 := bt_at t4 x5_1
   replace p6 := eq_true p6
   replace q6 := eq_true q6
   have p35 : 0 ≤ (x5_1 : Int) := of_decide_eq_true (by assumption)
   have q35 : x5_1 < (t4.size : Int) := of_decide_eq_true (by assumption)
   have hx35 := bt_at t4 x5_1
   replace p35 := eq_true p35
   replace q35 := eq_true q35
   go_wp2_with (first | ((with_reducible refine gate_builtin (b := .append) (xs := #[.tmp 23, .tmp 27]) rfl ?_); at_builtin; refine Kd.R_append (Kd.int .u8) (w0 := w) w.heap.size rfl (.tmp 23) (.tmp 27) 103 5 (.int .u8 0) 1 rfl Tryz.underlying103 info5 rfl (by decide) (by omega) u3 x3_1 (bt t4 x5_1) [.int .u8 (bt t4 x5_1)] (fun _ => True) (fun _ => False) rfl rfl ?aP (fun _ hk => hk.elim) ?aF ?aO ?aB ?aS ?aL ?_; (case aP => exact rfl); (case aB => exact (HB.out)); (case aF => exact (fun _ _ => trivial)); (case aO => exact (HO_3.out)); (case aS => exact (below_size (HB.out))); (case aL => have := LMc36.out; omega); intro v316 w37 ho hb hg hat; rw [← Ny315.out] at ho; replace HB := Aside0.mk (hb); have HO317 := Aside0.mk (ho); clear HO_3;  clear ho hb hg hat))
   go_roundg k1
   case measure => have := HK1.out; omega
   case rel => exact ⟨(y315), (wrap64 (x5_1 + 1)), rfl, H', ⟨by have := HK1.out; omega⟩, ⟨HO317.out⟩, ⟨HB.out⟩⟩
  rw [if_pos c7] at H
  have c7b0 : ((bt t4 x5_1) == 92) = true := beq_iff_eq.mpr c7
  have c7b1 : ((bt t4 x5_1) != 92) = false := bne_eq_false_iff_eq.mpr c7
  clear c7
  replace H := Option.bind_eq_some_iff.mp H
  obtain ⟨⟨t318, t319⟩, A80, H⟩ := H
  have A8 := Aside0.mk A80
  clear A80
  by_cases c9 : t319 = true
  rotate_left
  ·replace c9 := Bool.eq_false_iff.mpr c9
   subst c9
   rw [if_neg (show ¬ (false = true) by decide)] at H
   obtain ⟨ji28, hji28⟩ : ∃ j_ : Int, (wrap64 (x5_1 + 1)) = j_ := ⟨_, rfl⟩
   replace H : (if 0 ≤ (ji28) then (if (ji28) < (t4.size : Int) then ((spec_short.f (bt t4 (ji28))).bind fun t320 => (if x3_1.length < 140737488355328 then (spec_Unquote.l0 k1 (x3_1 ++ [t320]) t4 (wrap64 (x5_1 + 2))) else (none))) else (none)) else (none)) = some r := by first | (rw [hji28] at H; exact H) | (simp only [hji28] at H ⊢; exact H)
   (try rw [hji28] at A8)
   have hji28w : (IntKind.i64.wrap (x5_1 + 1)) = ji28 := (i64_w _).trans hji28
   by_cases c29 : 0 ≤ (ji28)
   rotate_left
   ·rw [if_neg c29] at H
    exact absurd H (by simp)
   rw [if_pos c29] at H
   have c29b0 : decide (0 ≤ (ji28)) = true := decide_eq_true c29
   clear c29
   by_cases c30 : (ji28) < (t4.size : Int)
   rotate_left
   ·rw [if_neg c30] at H
    exact absurd H (by simp)
   rw [if_pos c30] at H
   have c30b0 : decide ((ji28) < (t4.size : Int)) = true := decide_eq_true c30
   clear c30
   replace H := Option.bind_eq_some_iff.mp H
   obtain ⟨t320, A320, H⟩ := H
   have A32 := Aside0.mk A320
   clear A320
   by_cases c33 : x3_1.length < 140737488355328
   rotate_left
   ·rw [if_neg c33] at H
    exact absurd H (by simp)
   rw [if_pos c33] at H
   have LMc33 := Aside0.mk c33
   clear c33
   obtain ⟨y321, hy321⟩ : ∃ y_ : List Int, y_ = (x3_1 ++ [t320]) := ⟨_, rfl⟩
   simp only [Option.bind_some, ← hy321] at H
   have Ny321 := Aside0.mk hy321
   clear hy321
   have H' := Aside0.mk H
   clear H
   have p6 : 0 ≤ (x5_1 : Int) := of_decide_eq_true (by first | (with_reducible assumption) | assumption)
   have q6 : x5_1 < (t4.size : Int) := of_decide_eq_true (by first | (with_reducible assumption) | assumption)
   have hx6 := bt_at t4 x5_1
   replace p6 := eq_true p6
   replace q6 := eq_true q6
   go_wp2_with (first | (go_at_call 59; (with_reducible refine (spec_unit.calls k1 t4 x5_1 t318 false _ A8.out).mono ?_); rintro e w' ⟨rfl, ⟨nd, rfl⟩⟩; have p31 : 0 ≤ ((ji28) : Int) := of_decide_eq_true (by assumption); have q31 : (ji28) < (t4.size : Int) := of_decide_eq_true (by assumption); have hx31 := bt_at t4 (ji28); replace p31 := eq_true p31; replace q31 := eq_true q31) | ((with_reducible refine gate_callee (f := 105) rfl ?_); refine goesL_ (some 44) rfl rfl Tryz.func105 (by kernel_rfl) rfl #[.int .u8 (bt t4 (ji28))] rfl (by (try simp only [List.map_toArray, List.map_cons, List.map_nil]); first | done | (simp only [hji28]; rfl) | rfl | (simp only [List.length_drop, List.length_take]; rfl)) ?_; (with_reducible refine (spec_short.calls (bt t4 (ji28)) t320 _ A32.out).mono ?_); rintro e w' ⟨rfl, ⟨nd, rfl⟩⟩; refine ⟨_, rfl, ?_⟩) | ((with_reducible refine gate_builtin (b := .append) (xs := #[.tmp 39, .tmp 45]) rfl ?_); at_builtin; refine Kd.R_append (Kd.int .u8) (w0 := w) w.heap.size rfl (.tmp 39) (.tmp 45) 103 5 (.int .u8 0) 1 rfl Tryz.underlying103 info5 rfl (by decide) (by omega) u3 x3_1 t320 [.int .u8 t320] (fun _ => True) (fun _ => False) rfl rfl ?aP (fun _ hk => hk.elim) ?aF ?aO ?aB ?aS ?aL ?_; (case aP => exact rfl); (case aB => exact (by repeat (first | (with_reducible first | exact HB.out | apply bA | apply bN | apply bD) | exact HB.out))); (case aF => exact (fun _ _ => trivial)); (case aO => exact (by (with_reducible repeat (first | apply rA | apply rN)); exact HO_3.out)); (case aS => exact (below_size (by repeat (first | (with_reducible first | exact HB.out | apply bA | apply bN | apply bD) | exact HB.out)))); (case aL => have := LMc33.out; omega); intro v322 w34 ho hb hg hat; rw [← Ny321.out] at ho; replace HB := Aside0.mk (hb); have HO323 := Aside0.mk (ho); clear HO_3;  clear ho hb hg hat))
   go_roundg k1
   case measure => have := HK1.out; omega
   case rel => exact ⟨(y321), (wrap64 (x5_1 + 2)), rfl, H', ⟨by have := HK1.out; omega⟩, ⟨HO323.out⟩, ⟨HB.out⟩⟩
  subst c9
  rw [if_pos rfl] at H
  replace H := Option.bind_eq_some_iff.mp H
  obtain ⟨⟨t324, t325⟩, A100, H⟩ := H
  have A10 := Aside0.mk A100
  clear A100
  by_cases c11 : t325 = true
  rotate_left
  ·replace c11 := Bool.eq_false_iff.mpr c11
   subst c11
   rw [if_neg (show ¬ (false = true) by decide)] at H
   replace H := Option.bind_eq_some_iff.mp H
   obtain ⟨t337, A250, H⟩ := H
   have A25 := Aside0.mk A250
   clear A250
   have H' := Aside0.mk H
   clear H
   have p6 : 0 ≤ (x5_1 : Int) := of_decide_eq_true (by first | (with_reducible assumption) | assumption)
   have q6 : x5_1 < (t4.size : Int) := of_decide_eq_true (by first | (with_reducible assumption) | assumption)
   have hx6 := bt_at t4 x5_1
   replace p6 := eq_true p6
   replace q6 := eq_true q6
   go_wp2_with (first | (go_at_call 59; (with_reducible refine (spec_unit.calls k1 t4 x5_1 t318 true _ A8.out).mono ?_); rintro e w' ⟨rfl, ⟨nd, rfl⟩⟩) | (go_at_call 59; (with_reducible refine (spec_unit.calls k1 t4 (wrap64 (x5_1 + 6)) t324 false _ A10.out).mono ?_); rintro e w' ⟨rfl, ⟨nd, rfl⟩⟩; obtain ⟨Ao26, co26, eo26⟩ := Kd.R_slice HO_3.out; subst eo26) | (go_at_call 106; (with_reducible refine (spec_appendUTF8.calls k1 (fun k_ => some k_ = (.slice Ao26 x3_1.length co26 : Value).ownBlock) (.slice Ao26 x3_1.length co26) x3_1 t318 t337 w _ ?side1 ?side2 A25.out).mono ?_); (case side1 => repeat (first | (with_reducible first | exact HB.out | apply bA | apply bN | apply bD) | exact HB.out)); (case side2 => exact Kd.R_tight rfl HO_3.out); rintro e w27 ⟨v338, rfl, ho0, hb, hkp⟩; have HO339 := Aside0.mk (Kd.R_mono (ok' := fun k_ => True) ho0 (fun k_ hk_ => trivial)); replace HB := Aside0.mk (hb); clear HO_3;  (try clear hb); (try clear hkp); (try clear ho0)))
   go_roundg k1
   case measure => have := HK1.out; omega
   case rel => exact ⟨(t337), (wrap64 (x5_1 + 6)), rfl, H', ⟨by have := HK1.out; omega⟩, ⟨HO339.out⟩, ⟨HB.out⟩⟩
  subst c11
  rw [if_pos rfl] at H
  replace H := Option.bind_eq_some_iff.mp H
  obtain ⟨t326, A120, H⟩ := H
  have A12 := Aside0.mk A120
  clear A120
  by_cases c13 : t326 = true
  rotate_left
  ·replace c13 := Bool.eq_false_iff.mpr c13
   subst c13
   rw [if_neg (show ¬ (false = true) by decide)] at H
   replace H := Option.bind_eq_some_iff.mp H
   obtain ⟨t334, A220, H⟩ := H
   have A22 := Aside0.mk A220
   clear A220
   have H' := Aside0.mk H
   clear H
   have p6 : 0 ≤ (x5_1 : Int) := of_decide_eq_true (by first | (with_reducible assumption) | assumption)
   have q6 : x5_1 < (t4.size : Int) := of_decide_eq_true (by first | (with_reducible assumption) | assumption)
   have hx6 := bt_at t4 x5_1
   replace p6 := eq_true p6
   replace q6 := eq_true q6
   go_wp2_with (first | (go_at_call 59; (with_reducible refine (spec_unit.calls k1 t4 x5_1 t318 true _ A8.out).mono ?_); rintro e w' ⟨rfl, ⟨nd, rfl⟩⟩) | (go_at_call 59; (with_reducible refine (spec_unit.calls k1 t4 (wrap64 (x5_1 + 6)) t324 true _ A10.out).mono ?_); rintro e w' ⟨rfl, ⟨nd, rfl⟩⟩) | (go_at_call 60; (with_reducible refine (spec_high.calls t318 false _ A12.out).mono ?_); rintro e w' ⟨rfl, ⟨nd, rfl⟩⟩; obtain ⟨Ao23, co23, eo23⟩ := Kd.R_slice HO_3.out; subst eo23) | (go_at_call 106; (with_reducible refine (spec_appendUTF8.calls k1 (fun k_ => some k_ = (.slice Ao23 x3_1.length co23 : Value).ownBlock) (.slice Ao23 x3_1.length co23) x3_1 t318 t334 w _ ?side1 ?side2 A22.out).mono ?_); (case side1 => repeat (first | (with_reducible first | exact HB.out | apply bA | apply bN | apply bD) | exact HB.out)); (case side2 => exact Kd.R_tight rfl HO_3.out); rintro e w24 ⟨v335, rfl, ho0, hb, hkp⟩; have HO336 := Aside0.mk (Kd.R_mono (ok' := fun k_ => True) ho0 (fun k_ hk_ => trivial)); replace HB := Aside0.mk (hb); clear HO_3;  (try clear hb); (try clear hkp); (try clear ho0)))
   go_roundg k1
   case measure => have := HK1.out; omega
   case rel => exact ⟨(t334), (wrap64 (x5_1 + 6)), rfl, H', ⟨by have := HK1.out; omega⟩, ⟨HO336.out⟩, ⟨HB.out⟩⟩
  subst c13
  rw [if_pos rfl] at H
  replace H := Option.bind_eq_some_iff.mp H
  obtain ⟨t327, A140, H⟩ := H
  have A14 := Aside0.mk A140
  clear A140
  by_cases c15 : t327 = true
  ·subst c15
   rw [if_pos rfl] at H
   replace H := Option.bind_eq_some_iff.mp H
   obtain ⟨t328, A160, H⟩ := H
   have A16 := Aside0.mk A160
   clear A160
   have H' := Aside0.mk H
   clear H
   have p6 : 0 ≤ (x5_1 : Int) := of_decide_eq_true (by first | (with_reducible assumption) | assumption)
   have q6 : x5_1 < (t4.size : Int) := of_decide_eq_true (by first | (with_reducible assumption) | assumption)
   have hx6 := bt_at t4 x5_1
   replace p6 := eq_true p6
   replace q6 := eq_true q6
   go_wp2_with (first | (go_at_call 59; (with_reducible refine (spec_unit.calls k1 t4 x5_1 t318 true _ A8.out).mono ?_); rintro e w' ⟨rfl, ⟨nd, rfl⟩⟩) | (go_at_call 59; (with_reducible refine (spec_unit.calls k1 t4 (wrap64 (x5_1 + 6)) t324 true _ A10.out).mono ?_); rintro e w' ⟨rfl, ⟨nd, rfl⟩⟩) | (go_at_call 60; (with_reducible refine (spec_high.calls t318 true _ A12.out).mono ?_); rintro e w' ⟨rfl, ⟨nd, rfl⟩⟩) | (go_at_call 61; (with_reducible refine (spec_low.calls t324 true _ A14.out).mono ?_); rintro e w' ⟨rfl, ⟨nd, rfl⟩⟩; obtain ⟨Ao17, co17, eo17⟩ := Kd.R_slice HO_3.out; subst eo17) | (go_at_call 106; (with_reducible refine (spec_appendUTF8.calls k1 (fun k_ => some k_ = (.slice Ao17 x3_1.length co17 : Value).ownBlock) (.slice Ao17 x3_1.length co17) x3_1 (wrap64 ((wrap64 (65536 + (wrap64 ((wrap64 (t318 - 55296)) * 1024)))) + (wrap64 (t324 - 56320)))) t328 w _ ?side1 ?side2 A16.out).mono ?_); (case side1 => repeat (first | (with_reducible first | exact HB.out | apply bA | apply bN | apply bD) | exact HB.out)); (case side2 => exact Kd.R_tight rfl HO_3.out); rintro e w18 ⟨v329, rfl, ho0, hb, hkp⟩; have HO330 := Aside0.mk (Kd.R_mono (ok' := fun k_ => True) ho0 (fun k_ hk_ => trivial)); replace HB := Aside0.mk (hb); clear HO_3;  (try clear hb); (try clear hkp); (try clear ho0)))
   go_roundg k1
   case measure => have := HK1.out; omega
   case rel => exact ⟨(t328), (wrap64 ((wrap64 (x5_1 + 6)) + 6)), rfl, H', ⟨by have := HK1.out; omega⟩, ⟨HO330.out⟩, ⟨HB.out⟩⟩
  replace c15 := Bool.eq_false_iff.mpr c15
  subst c15
  rw [if_neg (show ¬ (false = true) by decide)] at H
  replace H := Option.bind_eq_some_iff.mp H
  obtain ⟨t331, A190, H⟩ := H
  have A19 := Aside0.mk A190
  clear A190
  have H' := Aside0.mk H
  clear H
  have p6 : 0 ≤ (x5_1 : Int) := of_decide_eq_true (by first | (with_reducible assumption) | assumption)
  have q6 : x5_1 < (t4.size : Int) := of_decide_eq_true (by first | (with_reducible assumption) | assumption)
  have hx6 := bt_at t4 x5_1
  replace p6 := eq_true p6
  replace q6 := eq_true q6
  go_wp2_with (first | (go_at_call 59; (with_reducible refine (spec_unit.calls k1 t4 x5_1 t318 true _ A8.out).mono ?_); rintro e w' ⟨rfl, ⟨nd, rfl⟩⟩) | (go_at_call 59; (with_reducible refine (spec_unit.calls k1 t4 (wrap64 (x5_1 + 6)) t324 true _ A10.out).mono ?_); rintro e w' ⟨rfl, ⟨nd, rfl⟩⟩) | (go_at_call 60; (with_reducible refine (spec_high.calls t318 true _ A12.out).mono ?_); rintro e w' ⟨rfl, ⟨nd, rfl⟩⟩) | (go_at_call 61; (with_reducible refine (spec_low.calls t324 false _ A14.out).mono ?_); rintro e w' ⟨rfl, ⟨nd, rfl⟩⟩; obtain ⟨Ao20, co20, eo20⟩ := Kd.R_slice HO_3.out; subst eo20) | (go_at_call 106; (with_reducible refine (spec_appendUTF8.calls k1 (fun k_ => some k_ = (.slice Ao20 x3_1.length co20 : Value).ownBlock) (.slice Ao20 x3_1.length co20) x3_1 t318 t331 w _ ?side1 ?side2 A19.out).mono ?_); (case side1 => repeat (first | (with_reducible first | exact HB.out | apply bA | apply bN | apply bD) | exact HB.out)); (case side2 => exact Kd.R_tight rfl HO_3.out); rintro e w21 ⟨v332, rfl, ho0, hb, hkp⟩; have HO333 := Aside0.mk (Kd.R_mono (ok' := fun k_ => True) ho0 (fun k_ hk_ => trivial)); replace HB := Aside0.mk (hb); clear HO_3;  (try clear hb); (try clear hkp); (try clear ho0)))
  go_roundg k1
  case measure => have := HK1.out; omega
  case rel => exact ⟨(t331), (wrap64 (x5_1 + 6)), rfl, H', ⟨by have := HK1.out; omega⟩, ⟨HO333.out⟩, ⟨HB.out⟩⟩
end Go.Proofs.YtgiioglmkogpkaaGreatDoor.M

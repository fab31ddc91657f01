/- Texts behind the law FnGjAnyLines: part 4. -/
import Derived.Test.YtgiioglmkogpkaaGreatDoorZa
import Derived.Shelf.Strconv.Itoa0
import Derived.Shelf.Strconv.Itoa1
import Derived.Shelf.LaysM
import Derived.Shelf.Strconv.Itoa2
import Derived.Shelf.Strconv.Clone
import Derived.Shelf.Strconv.Lower
import Derived.Shelf.Strconv.RangeError
import Derived.Shelf.LaysC
import Derived.Shelf.Strconv.ToErrorRange
import Derived.Shelf.Bits.Mul64
import Derived.Test.YtgiioglmkogpkaaGreatDoorProg
import Derived.Laws.Externs
import Derived.WalkLawsBesides
import Derived.Laws.FloatArith
import Derived.WalkMore
import Derived.Deep.LoopGhost
import GoSem.PinnedTables
import Derived.Shelf.Strings.Builder1
set_option linter.unusedVariables false
set_option linter.unusedSimpArgs false
namespace Go.Proofs.YtgiioglmkogpkaaGreatDoor.M
open Go.RowKit Go.Proofs.YtgiioglmkogpkaaGreatDoorW.PrintWords Go.Proofs.YtgiioglmkogpkaaGreatDoorW.PrintLast Go.Proofs.YtgiioglmkogpkaaGreatDoorW.PrintMore
set_option maxHeartbeats 8000000
set_option maxRecDepth 100000
attribute [local go_sem] max2_int min2_int max_two min_two max_three min_three max_four min_four
def strconv_log2Pow10.f (a0 : Int) : Option (Int) := some ((wrap64 (a0 * 108853)) / 32768)
theorem strconv_log2Pow10.calls (a0 : Int) (r : Int) (w : World) (h : strconv_log2Pow10.f a0 = some r) :
  Calls Tryz.prog 194 #[.int .i64 a0] w fun e w' => e = .returned (.int .i64 r) ∧ Drawn0 w w' := by
 have H : (some ((wrap64 (a0 * 108853)) / 32768)) = some r := h
 clear h
 obtain rfl := Option.some.inj H
 go_enter Tryz.func194, Tryz.ntmps194
 go_wp2
 go_ret
 exact ⟨by first | rfl | (simp; done) | (simp [*]; done), by repeat (first | exact Drawn0.refl _ | apply Drawn0.step)⟩
def bits_Mul64.f (a0 : Int) (a1 : Int) : Option (Int × Int) := some (IntKind.u64.wrap ((IntKind.u64.wrap ((IntKind.u64.wrap ((a0 / 4294967296) * (a1 / 4294967296))) + ((IntKind.u64.wrap ((IntKind.u64.wrap ((a0 / 4294967296) * (Go.bits .and .u64 a1 4294967295))) + ((IntKind.u64.wrap ((Go.bits .and .u64 a0 4294967295) * (Go.bits .and .u64 a1 4294967295))) / 4294967296))) / 4294967296))) + ((IntKind.u64.wrap ((Go.bits .and .u64 (IntKind.u64.wrap ((IntKind.u64.wrap ((a0 / 4294967296) * (Go.bits .and .u64 a1 4294967295))) + ((IntKind.u64.wrap ((Go.bits .and .u64 a0 4294967295) * (Go.bits .and .u64 a1 4294967295))) / 4294967296))) 4294967295) + (IntKind.u64.wrap ((Go.bits .and .u64 a0 4294967295) * (a1 / 4294967296))))) / 4294967296)), IntKind.u64.wrap (a0 * a1))
theorem bits_Mul64.calls (a0 : Int) (a1 : Int) (r1 : Int) (r2 : Int) (w : World) (h : bits_Mul64.f a0 a1 = some (r1, r2)) :
  Calls Tryz.prog 231 #[.int .u64 a0, .int .u64 a1] w fun e w' => e = .returned (.tuple #[.int .u64 r1, .int .u64 r2]) ∧ Drawn0 w w' := by
 have H : (some (IntKind.u64.wrap ((IntKind.u64.wrap ((IntKind.u64.wrap ((a0 / 4294967296) * (a1 / 4294967296))) + ((IntKind.u64.wrap ((IntKind.u64.wrap ((a0 / 4294967296) * (Go.bits .and .u64 a1 4294967295))) + ((IntKind.u64.wrap ((Go.bits .and .u64 a0 4294967295) * (Go.bits .and .u64 a1 4294967295))) / 4294967296))) / 4294967296))) + ((IntKind.u64.wrap ((Go.bits .and .u64 (IntKind.u64.wrap ((IntKind.u64.wrap ((a0 / 4294967296) * (Go.bits .and .u64 a1 4294967295))) + ((IntKind.u64.wrap ((Go.bits .and .u64 a0 4294967295) * (Go.bits .and .u64 a1 4294967295))) / 4294967296))) 4294967295) + (IntKind.u64.wrap ((Go.bits .and .u64 a0 4294967295) * (a1 / 4294967296))))) / 4294967296)), IntKind.u64.wrap (a0 * a1))) = some (r1, r2) := h
 clear h
 simp only [Option.some.injEq, Prod.mk.injEq] at H
 obtain ⟨rfl, rfl⟩ := H
 go_enter Tryz.func231, Tryz.ntmps231
 go_wp2
 go_ret2
 exact ⟨by first | rfl | (simp; done) | (simp [*]; done), by repeat (first | exact Drawn0.refl _ | apply Drawn0.step)⟩
def IsS228 (w0 W : World) (g : Nat) (f0 : Int) (f1 : Int) (f2 : Int) : Prop := W.heap[g]? = some (.cells #[.int .u64 f0, .int .u64 f1, .int .i64 f2] 228 (0, 0)) ∧ w0.heap.size ≤ g
theorem cellS228_0 {W : World} {g : Nat} {f0 : Int} {f1 : Int} {f2 : Int} (h : W.heap[g]? = some (.cells #[.int .u64 f0, .int .u64 f1, .int .i64 f2] 228 (0, 0))) : W.cell? ⟨g, 0, none⟩ = some (.int .u64 f0) := (blk_cell h 0).trans rfl
theorem IsS228.set_0 {w0 W : World} {g : Nat} {f0 : Int} {f1 : Int} {f2 : Int} (h : IsS228 w0 W g f0 f1 f2) (x : Int) : IsS228 w0 (W.setCell ⟨g, 0, none⟩ (.int .u64 x)) g x f1 f2 := by
 obtain ⟨hb, hg⟩ := h
 exact ⟨by simpa using blk_set hb 0 (.int .u64 x), hg⟩
theorem cellS228_1 {W : World} {g : Nat} {f0 : Int} {f1 : Int} {f2 : Int} (h : W.heap[g]? = some (.cells #[.int .u64 f0, .int .u64 f1, .int .i64 f2] 228 (0, 0))) : W.cell? ⟨g, 1, none⟩ = some (.int .u64 f1) := (blk_cell h 1).trans rfl
theorem IsS228.set_1 {w0 W : World} {g : Nat} {f0 : Int} {f1 : Int} {f2 : Int} (h : IsS228 w0 W g f0 f1 f2) (x : Int) : IsS228 w0 (W.setCell ⟨g, 1, none⟩ (.int .u64 x)) g f0 x f2 := by
 obtain ⟨hb, hg⟩ := h
 exact ⟨by simpa using blk_set hb 1 (.int .u64 x), hg⟩
theorem cellS228_2 {W : World} {g : Nat} {f0 : Int} {f1 : Int} {f2 : Int} (h : W.heap[g]? = some (.cells #[.int .u64 f0, .int .u64 f1, .int .i64 f2] 228 (0, 0))) : W.cell? ⟨g, 2, none⟩ = some (.int .i64 f2) := (blk_cell h 2).trans rfl
theorem IsS228.set_2 {w0 W : World} {g : Nat} {f0 : Int} {f1 : Int} {f2 : Int} (h : IsS228 w0 W g f0 f1 f2) (x : Int) : IsS228 w0 (W.setCell ⟨g, 2, none⟩ (.int .i64 x)) g f0 f1 x := by
 obtain ⟨hb, hg⟩ := h
 exact ⟨by simpa using blk_set hb 2 (.int .i64 x), hg⟩
theorem IsS228.new (w0 W : World) (f0 : Int) (f1 : Int) (f2 : Int) (hB : Below w0.heap.size w0 W) : IsS228 w0 (W.alloc (.cells #[.int .u64 f0, .int .u64 f1, .int .i64 f2] 228)) W.heap.size f0 f1 f2 := ⟨by simpa using heap_alloc_new W _, hB.size⟩
def strconv_unrounded_round.f (a0 : Int) : Option (Int) := some ((IntKind.u64.wrap ((IntKind.u64.wrap (a0 + 1)) + (Go.bits .and .u64 (a0 / 4) 1))) / 4)
theorem strconv_unrounded_round.calls (a0 : Int) (r : Int) (w : World) (h : strconv_unrounded_round.f a0 = some r) :
  Calls Tryz.prog 199 #[.int .u64 a0] w fun e w' => e = .returned (.int .u64 r) ∧ Drawn0 w w' := by
 have H : (some ((IntKind.u64.wrap ((IntKind.u64.wrap (a0 + 1)) + (Go.bits .and .u64 (a0 / 4) 1))) / 4)) = some r := h
 clear h
 obtain rfl := Option.some.inj H
 go_enter Tryz.func199, Tryz.ntmps199
 go_wp2
 go_ret
 exact ⟨by first | rfl | (simp; done) | (simp [*]; done), by repeat (first | exact Drawn0.refl _ | apply Drawn0.step)⟩
def strconv_unmin.f (a0 : Int) : Option (Int) := some (IntKind.u64.wrap ((IntKind.u64.wrap (a0 * 4)) - 2))
theorem strconv_unmin.calls (a0 : Int) (r : Int) (w : World) (h : strconv_unmin.f a0 = some r) :
  Calls Tryz.prog 202 #[.int .u64 a0] w fun e w' => e = .returned (.int .u64 r) ∧ Drawn0 w w' := by
 have H : (some (IntKind.u64.wrap ((IntKind.u64.wrap (a0 * 4)) - 2))) = some r := h
 clear h
 obtain rfl := Option.some.inj H
 go_enter Tryz.func202, Tryz.ntmps202
 go_wp2
 go_ret
 exact ⟨by first | rfl | (simp; done) | (simp [*]; done), by repeat (first | exact Drawn0.refl _ | apply Drawn0.step)⟩
def strconv_prefixIsLessThan.l0 : Nat → List Int → ByteArray → Int → Option (Bool)
 | 0, _, _, _ => none
 | k + 1, x0, x1, x5 => if x5 < (x1.size : Int) then (if x5 ≥ (x0.length : Int) then (some true) else (if 0 ≤ x5 then (if x5 < (x0.length : Int) then (if (rd x0 x5) = (bt x1 x5) then (strconv_prefixIsLessThan.l0 k x0 x1 (wrap64 (x5 + 1))) else (some (decide ((rd x0 x5) < (bt x1 x5))))) else (none)) else (none))) else (some false)
def strconv_prefixIsLessThan.f (k : Nat) (l0 : List Int) (a1 : ByteArray) : Option (Bool) := strconv_prefixIsLessThan.l0 k l0 a1 0
theorem strconv_prefixIsLessThan.calls (k : Nat) (A0 : Option Addr) (c0 : Nat) (l0 : List Int) (a1 : ByteArray) (r : Bool) (w : World) (hr0 : Kd.C (Kd.int .u8) w A0 l0.length l0) (hc0 : l0.length ≤ c0) (h : strconv_prefixIsLessThan.f k l0 a1 = some r) :
  Calls Tryz.prog 233 #[.slice A0 l0.length c0, .string a1] w fun e w' => e = .returned (.bool r) ∧ Drawn0 w w' := by
 have HR0 := Aside0.mk hr0
 have HC0 := Aside0.mk hc0
 clear hr0 hc0
 have H : (strconv_prefixIsLessThan.l0 k l0 a1 0) = some r := h
 clear h
 have H' := Aside0.mk H
 clear H
 go_enter Tryz.func233, Tryz.ntmps233
 go_wp2
 repeat (go_quiet (fail); try go_wp2)
 go_loopg [5] k (fun kq v5 w' => ∃ (x5_1 : Int), v5 = .int .i64 x5_1 ∧ Aside0 (strconv_prefixIsLessThan.l0 kq l0 a1 x5_1 = some r) ∧ Aside0 (kq ≤ k) ∧ Drawn0 w w')
 case atStart => exact ⟨(0), (by first | rfl | (simp; done) | (simp [*]; done)), H', ⟨Nat.le_refl _⟩, by repeat (first | exact Drawn0.refl _ | apply Drawn0.step)⟩
 clear H'
 try clear c2
 try clear p2
 obtain ⟨x5_1, rfl, HA, HK1, ⟨m1, rfl⟩⟩ := hrel
 cases gk with
 | zero => exact absurd HA.out (by simp [strconv_prefixIsLessThan.l0])
 | succ k1 =>
  have H := HA.out
  clear HA
  simp only [strconv_prefixIsLessThan.l0] at H
  by_cases c3 : x5_1 < (a1.size : Int)
  rotate_left
  ·rw [if_neg c3] at H
   have c3b0 : decide (x5_1 < (a1.size : Int)) = false := decide_eq_false c3
   clear c3
   obtain rfl := Option.some.inj H
   go_wp2
   repeat (go_quiet (fail); try go_wp2)
   go_ret
   exact ⟨by first | rfl | (simp; done) | (simp [*]; done), by repeat (first | exact Drawn0.refl _ | apply Drawn0.step)⟩
  rw [if_pos c3] at H
  have c3b0 : decide (x5_1 < (a1.size : Int)) = true := decide_eq_true c3
  clear c3
  by_cases c4 : x5_1 ≥ (l0.length : Int)
  ·rw [if_pos c4] at H
   have c4b0 : decide ((l0.length : Int) ≤ x5_1) = true := decide_eq_true c4
   clear c4
   obtain rfl := Option.some.inj H
   go_wp2
   repeat (go_quiet (fail); try go_wp2)
   go_ret
   exact ⟨by first | rfl | (simp; done) | (simp [*]; done), by repeat (first | exact Drawn0.refl _ | apply Drawn0.step)⟩
  rw [if_neg c4] at H
  have c4b0 : decide ((l0.length : Int) ≤ x5_1) = false := decide_eq_false c4
  clear c4
  by_cases c5 : 0 ≤ x5_1
  rotate_left
  ·rw [if_neg c5] at H
   exact absurd H (by simp)
  rw [if_pos c5] at H
  have c5b0 : decide (0 ≤ x5_1) = true := decide_eq_true c5
  clear c5
  by_cases c6 : x5_1 < (l0.length : Int)
  rotate_left
  ·rw [if_neg c6] at H
   exact absurd H (by simp)
  rw [if_pos c6] at H
  have c6b0 : decide (x5_1 < (l0.length : Int)) = true := decide_eq_true c6
  clear c6
  by_cases c8 : (rd l0 x5_1) = (bt a1 x5_1)
  ·rw [if_pos c8] at H
   have c8b0 : ((rd l0 x5_1) == (bt a1 x5_1)) = true := beq_iff_eq.mpr c8
   have c8b1 : ((rd l0 x5_1) != (bt a1 x5_1)) = false := bne_eq_false_iff_eq.mpr c8
   clear c8
   have H' := Aside0.mk H
   clear H
   have p548 : 0 ≤ (x5_1 : Int) := of_decide_eq_true (by first | (with_reducible assumption) | assumption)
   have q548 : x5_1 < (l0.length : Int) := of_decide_eq_true (by first | (with_reducible assumption) | assumption)
   obtain ⟨ad548, e548, hx548_0⟩ := Kd.at_int HR0.out x5_1 p548 q548
   cases e548
   replace p548 := eq_true p548
   replace q548 := eq_true q548
   have p7 : 0 ≤ (x5_1 : Int) := of_decide_eq_true (by first | (with_reducible assumption) | assumption)
   have q7 : x5_1 < (a1.size : Int) := of_decide_eq_true (by first | (with_reducible assumption) | assumption)
   have hx7 := bt_at a1 x5_1
   replace p7 := eq_true p7
   replace q7 := eq_true q7
   go_wp2
   repeat (go_quiet (fail); try go_wp2)
   go_roundg k1
   case measure => have := HK1.out; omega
   case rel => exact ⟨(wrap64 (x5_1 + 1)), (by first | rfl | (simp; done) | (simp [*]; done)), H', ⟨by have := HK1.out; omega⟩, by repeat (first | exact Drawn0.refl _ | apply Drawn0.step)⟩
  rw [if_neg c8] at H
  have c8b0 : ((rd l0 x5_1) == (bt a1 x5_1)) = false := beq_eq_false_iff_ne.mpr c8
  have c8b1 : ((rd l0 x5_1) != (bt a1 x5_1)) = true := bne_iff_ne.mpr c8
  obtain rfl := Option.some.inj H
  have p548 : 0 ≤ (x5_1 : Int) := of_decide_eq_true (by first | (with_reducible assumption) | assumption)
  have q548 : x5_1 < (l0.length : Int) := of_decide_eq_true (by first | (with_reducible assumption) | assumption)
  obtain ⟨ad548, e548, hx548_0⟩ := Kd.at_int HR0.out x5_1 p548 q548
  cases e548
  replace p548 := eq_true p548
  replace q548 := eq_true q548
  have p7 : 0 ≤ (x5_1 : Int) := of_decide_eq_true (by first | (with_reducible assumption) | assumption)
  have q7 : x5_1 < (a1.size : Int) := of_decide_eq_true (by first | (with_reducible assumption) | assumption)
  have hx7 := bt_at a1 x5_1
  replace p7 := eq_true p7
  replace q7 := eq_true q7
  have p549 : 0 ≤ (x5_1 : Int) := of_decide_eq_true (by first | (with_reducible assumption) | assumption)
  have q549 : x5_1 < (l0.length : Int) := of_decide_eq_true (by first | (with_reducible assumption) | assumption)
  obtain ⟨ad549, e549, hx549_0⟩ := Kd.at_int HR0.out x5_1 p549 q549
  obtain rfl : ad548 = ad549 := (by injection e549)
  replace p549 := eq_true p549
  replace q549 := eq_true q549
  have p9 : 0 ≤ (x5_1 : Int) := of_decide_eq_true (by first | (with_reducible assumption) | assumption)
  have q9 : x5_1 < (a1.size : Int) := of_decide_eq_true (by first | (with_reducible assumption) | assumption)
  have hx9 := bt_at a1 x5_1
  replace p9 := eq_true p9
  replace q9 := eq_true q9
  go_wp2
  repeat (go_quiet (fail); try go_wp2)
  go_ret
  exact ⟨by first | rfl | (simp; done) | (simp [*]; done), by repeat (first | exact Drawn0.refl _ | apply Drawn0.step)⟩
end Go.Proofs.YtgiioglmkogpkaaGreatDoor.M
namespace Go.Proofs
open Go.Shelf
def Tryz.lays129_ren : Go.Shelf.Ren := ⟨fun | 129 => 162 | n => n, fun | 53 => 159 | 3 => 3 | 4 => 4 | 46 => 162 | 5 => 5 | 9 => 9 | n => n, fun | n => n⟩
theorem Tryz.lays129 : Go.Proofs.Lays.n129 Tryz.prog Tryz.lays129_ren := {
 mixed := by kernel_rfl
 f129 := Tryz.func162.trans (congrArg some (by kernel_rfl))
 t3 := Tryz.underlying3
 a3 := Tryz.isAgg3
 z3 := Tryz.sizeOf3
 v3 := Tryz.zeroValue3
 t4 := Tryz.underlying4
 a4 := Tryz.isAgg4
 z4 := Tryz.sizeOf4
 v4 := Tryz.zeroValue4
 t5 := Tryz.underlying5
 a5 := Tryz.isAgg5
 z5 := Tryz.sizeOf5
 v5 := Tryz.zeroValue5
 t9 := Tryz.underlying9
 a9 := Tryz.isAgg9
 z9 := Tryz.sizeOf9
 v9 := Tryz.zeroValue9
 t46 := Tryz.underlying162
 a46 := Tryz.isAgg162
 z46 := Tryz.sizeOf162
 v46 := Tryz.zeroValue162
 t53 := Tryz.underlying159
 a53 := Tryz.isAgg159
 z53 := Tryz.sizeOf159
 v53 := Tryz.zeroValue159 }
theorem Tryz.bits_Len64 (x : Int) (w : World) (h0 : 0 ≤ x) (h1 : x ≤ 18446744073709551615) :
  Calls Tryz.prog 162 #[.int .u64 x] w fun e w' => e = .returned (.int .i64 (Lib.bitLen x.toNat)) ∧ w' = w := Any.bits_Len64 Tryz.lays129 x w h0 h1
def Tryz.lays318_ren : Go.Shelf.Ren := ⟨fun | 318 => 201 | n => n, fun | 3 => 3 | 4 => 4 | n => n, fun | n => n⟩
theorem Tryz.lays318 : Go.Proofs.Lays.n318 Tryz.prog Tryz.lays318_ren := {
 mixed := by kernel_rfl
 f318 := Tryz.func201.trans (congrArg some (by kernel_rfl))
 t3 := Tryz.underlying3
 a3 := Tryz.isAgg3
 z3 := Tryz.sizeOf3
 v3 := Tryz.zeroValue3
 t4 := Tryz.underlying4
 a4 := Tryz.isAgg4
 z4 := Tryz.sizeOf4
 v4 := Tryz.zeroValue4 }
open Go.Lib in
theorem Tryz.internal_strconv_bool2_int (b : Bool) (w : World) :
  Calls Tryz.prog 201 #[.bool b] w fun e w' => e = .returned (.int .i64 (if b then 1 else 0)) ∧ w' = w := Any.internal_strconv_bool2_int Tryz.lays318 b w
def Tryz.lays321_ren : Go.Shelf.Ren := ⟨fun | 321 => 188 | n => n, fun | 5 => 5 | n => n, fun | n => n⟩
theorem Tryz.lays321 : Go.Proofs.Lays.n321 Tryz.prog Tryz.lays321_ren := {
 mixed := by kernel_rfl
 f321 := Tryz.func188.trans (congrArg some (by kernel_rfl))
 t5 := Tryz.underlying5
 a5 := Tryz.isAgg5
 z5 := Tryz.sizeOf5
 v5 := Tryz.zeroValue5 }
open Go.RowKit in
theorem Tryz.internal_strconv_lower (c : Int) (w : World) :
  Calls Tryz.prog 188 #[.int .u8 c] w fun e w' => e = .returned (.int .u8 (bits .or .u8 c 32)) ∧ w' = w := Any.internal_strconv_lower Tryz.lays321 c w
def Tryz.laysC245_ren : Go.Shelf.Ren := ⟨fun | 245 => 121 | 279 => 149 | 280 => 150 | 281 => 151 | 282 => 152 | 316 => 185 | 171 => 187 | 205 => 186 | 243 => 228 | 246 => 244 | 283 => 229 | 284 => 165 | 285 => 200 | 286 => 230 | 129 => 162 | 317 => 166 | 318 => 201 | 319 => 245 | 320 => 246 | 337 => 249 | 338 => 250 | n => n, fun | 9 => 9 | 3 => 3 | 75 => 123 | 167 => 181 | 4 => 4 | 168 => 182 | 210 => 222 | 37 => 103 | 0 => 0 | 127 => 149 | 145 => 275 | 143 => 273 | 2 => 2 | 171 => 197 | 53 => 159 | 5 => 5 | 173 => 276 | 212 => 237 | 51 => 163 | 20 => 20 | 213 => 296 | 46 => 162 | 232 => 191 | 233 => 301 | 80 => 83 | n => n, fun | 15 => 2 | 16 => 3 | 17 => 4 | 18 => 12 | 19 => 13 | n => n⟩
theorem Tryz.laysC245 : Go.Proofs.LaysC.n245 Tryz.prog Tryz.laysC245_ren := {
 mixed := by kernel_rfl
 f129 := Tryz.func162.trans (congrArg some (by kernel_rfl))
 f171 := Tryz.func187.trans (congrArg some (by kernel_rfl))
 f205 := Tryz.func186.trans (congrArg some (by kernel_rfl))
 f243 := Tryz.func228.trans (congrArg some (by kernel_rfl))
 f245 := Tryz.func121.trans (congrArg some (by kernel_rfl))
 f246 := Tryz.func244.trans (congrArg some (by kernel_rfl))
 f279 := Tryz.func149.trans (congrArg some (by kernel_rfl))
 f280 := Tryz.func150.trans (congrArg some (by kernel_rfl))
 f281 := Tryz.func151.trans (congrArg some (by kernel_rfl))
 f282 := Tryz.func152.trans (congrArg some (by kernel_rfl))
 f283 := Tryz.func229.trans (congrArg some (by kernel_rfl))
 f284 := Tryz.func165.trans (congrArg some (by kernel_rfl))
 f285 := Tryz.func200.trans (congrArg some (by kernel_rfl))
 f286 := Tryz.func230.trans (congrArg some (by kernel_rfl))
 f316 := Tryz.func185.trans (congrArg some (by kernel_rfl))
 f317 := Tryz.func166.trans (congrArg some (by kernel_rfl))
 f318 := Tryz.func201.trans (congrArg some (by kernel_rfl))
 f319 := Tryz.func245.trans (congrArg some (by kernel_rfl))
 f320 := Tryz.func246.trans (congrArg some (by kernel_rfl))
 f337 := Tryz.func249.trans (congrArg some (by kernel_rfl))
 f338 := Tryz.func250.trans (congrArg some (by kernel_rfl))
 t0 := Tryz.underlying0
 a0 := Tryz.isAgg0
 z0 := Tryz.sizeOf0
 v0 := Tryz.zeroValue0
 t2 := Tryz.underlying2
 a2 := Tryz.isAgg2
 z2 := Tryz.sizeOf2
 v2 := Tryz.zeroValue2
 t3 := Tryz.underlying3
 a3 := Tryz.isAgg3
 z3 := Tryz.sizeOf3
 v3 := Tryz.zeroValue3
 t4 := Tryz.underlying4
 a4 := Tryz.isAgg4
 z4 := Tryz.sizeOf4
 v4 := Tryz.zeroValue4
 t5 := Tryz.underlying5
 a5 := Tryz.isAgg5
 z5 := Tryz.sizeOf5
 v5 := Tryz.zeroValue5
 t9 := Tryz.underlying9
 a9 := Tryz.isAgg9
 z9 := Tryz.sizeOf9
 v9 := Tryz.zeroValue9
 t20 := Tryz.underlying20
 a20 := Tryz.isAgg20
 z20 := Tryz.sizeOf20
 v20 := Tryz.zeroValue20
 t37 := Tryz.underlying103
 a37 := Tryz.isAgg103
 z37 := Tryz.sizeOf103
 v37 := Tryz.zeroValue103
 t46 := Tryz.underlying162
 a46 := Tryz.isAgg162
 z46 := Tryz.sizeOf162
 v46 := Tryz.zeroValue162
 t51 := Tryz.underlying163
 a51 := Tryz.isAgg163
 z51 := Tryz.sizeOf163
 v51 := Tryz.zeroValue163
 t53 := Tryz.underlying159
 a53 := Tryz.isAgg159
 z53 := Tryz.sizeOf159
 v53 := Tryz.zeroValue159
 t75 := Tryz.underlying123
 a75 := Tryz.isAgg123
 z75 := Tryz.sizeOf123
 v75 := Tryz.zeroValue123
 t127 := Tryz.underlying149
 a127 := Tryz.isAgg149
 z127 := Tryz.sizeOf149
 v127 := Tryz.zeroValue149
 t143 := Tryz.underlying273
 a143 := Tryz.isAgg273
 z143 := Tryz.sizeOf273
 v143 := Tryz.zeroValue273
 t145 := Tryz.underlying275
 a145 := Tryz.isAgg275
 z145 := Tryz.sizeOf275
 v145 := Tryz.zeroValue275
 t167 := Tryz.underlying181
 a167 := Tryz.isAgg181
 z167 := Tryz.sizeOf181
 v167 := Tryz.zeroValue181
 t168 := Tryz.underlying182
 a168 := Tryz.isAgg182
 z168 := Tryz.sizeOf182
 v168 := Tryz.zeroValue182
 t171 := Tryz.underlying197
 a171 := Tryz.isAgg197
 z171 := Tryz.sizeOf197
 v171 := Tryz.zeroValue197
 t173 := Tryz.underlying276
 a173 := Tryz.isAgg276
 z173 := Tryz.sizeOf276
 v173 := Tryz.zeroValue276
 t210 := Tryz.underlying222
 a210 := Tryz.isAgg222
 z210 := Tryz.sizeOf222
 v210 := Tryz.zeroValue222
 t212 := Tryz.underlying237
 a212 := Tryz.isAgg237
 z212 := Tryz.sizeOf237
 v212 := Tryz.zeroValue237
 t213 := Tryz.underlying296
 a213 := Tryz.isAgg296
 z213 := Tryz.sizeOf296
 t232 := Tryz.underlying191
 a232 := Tryz.isAgg191
 z232 := Tryz.sizeOf191
 v232 := Tryz.zeroValue191
 t233 := Tryz.underlying301
 a233 := Tryz.isAgg301
 z233 := Tryz.sizeOf301
 v233 := Tryz.zeroValue301
 g15 := by kernel_rfl
 g16 := by kernel_rfl
 g17 := by kernel_rfl
 g18 := by kernel_rfl
 g19 := by kernel_rfl
 t80 := Tryz.underlying83
 a80 := Tryz.isAgg83
 z80 := Tryz.sizeOf83
 v80 := Tryz.zeroValue83
 i0 := by kernel_rfl
 i2 := by kernel_rfl
 i3 := by kernel_rfl
 i4 := by kernel_rfl
 i5 := by kernel_rfl
 i9 := by kernel_rfl
 i20 := by kernel_rfl
 i37 := by kernel_rfl
 i46 := by kernel_rfl
 i51 := by kernel_rfl
 i53 := by kernel_rfl
 i75 := by kernel_rfl
 i80 := by kernel_rfl
 i127 := by kernel_rfl
 i143 := by kernel_rfl
 i145 := by kernel_rfl
 i167 := by kernel_rfl
 i168 := by kernel_rfl
 i171 := by kernel_rfl
 i173 := by kernel_rfl
 i210 := by kernel_rfl
 i212 := by kernel_rfl
 i232 := by kernel_rfl
 i233 := by kernel_rfl
 m15 := by kernel_rfl
 m16 := by kernel_rfl
 m17 := by kernel_rfl
 m18 := by kernel_rfl
 m19 := by kernel_rfl
 c0 := by kernel_rfl
 c2 := by kernel_rfl
 c3 := by kernel_rfl
 c4 := by kernel_rfl
 c5 := by kernel_rfl
 c9 := by kernel_rfl
 c20 := by kernel_rfl
 c37 := by kernel_rfl
 c46 := by kernel_rfl
 c51 := by kernel_rfl
 c53 := by kernel_rfl
 c75 := by kernel_rfl
 c80 := by kernel_rfl
 c127 := by kernel_rfl
 c143 := by kernel_rfl
 c145 := by kernel_rfl
 c167 := by kernel_rfl
 c168 := by kernel_rfl
 c171 := by kernel_rfl
 c173 := by kernel_rfl
 c210 := by kernel_rfl
 c212 := by kernel_rfl
 c213 := by kernel_rfl
 c232 := by kernel_rfl
 c233 := by kernel_rfl }
open Go.RowKit in
theorem Tryz.strconv_toError_range (fn s : ByteArray) (base bits : Int) (ev : Value) (w : World) (hlim : s.size ≤ 281474976710656) (hv : w.cell? ⟨3, 0, none⟩ = some ev) (hev : ev = .nilIface ∨ ∃ te pe, ev = .iface te pe) :
  Calls Tryz.prog 121 #[.string fn, .string s, .int .i64 base, .int .i64 bits, .iface 181 (.int .i64 1)] w fun e w' => ∃ N, e = .returned (.iface 182 (.pointer (some ⟨N, 0, none⟩))) ∧ w.heap.size ≤ N ∧ w'.heap[N]? = some (.cells #[.string fn, .string s, ev] 222 (0, 0)) ∧ Below w.heap.size w w' := Any.strconv_toError_range Tryz.laysC245 fn s base bits ev w hlim hv hev
end Go.Proofs
namespace Go.Proofs.YtgiioglmkogpkaaGreatDoor.F
open Go.RowKit Go.Proofs.YtgiioglmkogpkaaGreatDoorW.PrintWords Go.Proofs.YtgiioglmkogpkaaGreatDoorW.PrintLast Go.Proofs.YtgiioglmkogpkaaGreatDoorW.PrintMore
open M
set_option maxHeartbeats 400000
theorem prescale_calls (g : Nat) (a b c e lp hi lo : Int) (q : Nat) (w0 w : World) (hI : IsS228 w0 w g a b c) (hB : Below w0.heap.size w0 w)
  (hq : q < 696) (hx : w.cell? ⟨7, q * 2, none⟩ = some (.int .u64 hi)) (hy : w.cell? ⟨7, q * 2 + 1, none⟩ = some (.int .u64 lo)) (hg : 7 < g)
  (he : -5000 ≤ e ∧ e ≤ 5000) (hl : -5000 ≤ lp ∧ lp ≤ 5000) :
  Calls Tryz.prog 193 #[.pointer (some ⟨g, 0, none⟩), .int .i64 e, .int .i64 ((q : Int) - 348), .int .i64 lp] w fun x w' => x = .returned (.tuple #[]) ∧ IsS228 w0 w' g hi lo (-(e + lp + 3)) ∧ Below w0.heap.size w0 w' ∧ KeepBut w w' g none := by
 obtain ⟨HG, hgg⟩ := hI
 have h0 := cellS228_0 HG
 have h1 := cellS228_1 HG
 have h2 := cellS228_2 HG
 have f0 := blk_frozen HG 0
 have f1 := blk_frozen HG 1
 have f2 := blk_frozen HG 2
 have HB := Aside0.mk hB
 have HGG := Aside0.mk HG
 have HK := Aside0.mk (KeepBut.refl w g none)
 clear HG hB
 go_enter Tryz.func193, Tryz.ntmps193
 go_wp2
 go_end0
 exact ⟨rfl, by repeat (first | (with_reducible first | exact ⟨HGG.out, hgg⟩ | apply IsS228.set_0 | apply IsS228.set_1 | apply IsS228.set_2) | exact ⟨HGG.out, hgg⟩), by repeat (first | (with_reducible first | exact HB.out | refine below_set ?_ hgg) | exact HB.out), by repeat (first | (with_reducible first | exact HK.out | apply KeepBut.set_) | exact HK.out)⟩
theorem run_frombits (m : Int) (w : World) : (callFunc 225 #[.int .u64 m]).run Tryz.prog w = .ok (.value (.float .f64 m.toNat)) w := by
 rw [run_callFunc_extern Tryz.func225 (by kernel_rfl) (by kernel_rfl) (by kernel_rfl) (e := Extern.MathFloatBits.float64frombits) (by kernel_rfl)]
 rfl
theorem bits_range (op : BinOp) (a b : Int) : 0 ≤ bits op .u64 a b ∧ bits op .u64 a b < 18446744073709551616 := by
 unfold bits
 dsimp only
 generalize (BitVec.toNat _ : Nat) = n
 simp only [IntKind.wrap, IntKind.bits, IntKind.signed]
 simp
 omega
theorem bits_mask64 (c : Int) (h0 : 0 ≤ c) (h1 : c < 64) : bits .and .i64 c 63 = c := by
 have := bits_mask .i64 63 (by decide) (fun n _ _ => by rw [IntKind.wrap_i64]; omega) 6 (by decide) c h0 (by omega)
 simpa using this.trans (by omega)
theorem bool2_same (b : Bool) (w : World) : Calls Tryz.prog 224 #[.bool b] w (fun e w' => e = .returned (.int .u64 (if b = true then 1 else 0)) ∧ w' = w) := by
 cases b
 rotate_left
 ·go_enter Tryz.func224, Tryz.ntmps224
  go_wp2
  go_ret
  exact ⟨rfl, rfl⟩
 go_enter Tryz.func224, Tryz.ntmps224
 go_wp2
 go_ret
 exact ⟨rfl, rfl⟩
theorem bitLenAux_le : ∀ f n, Lib.bitLenAux f n ≤ f
 | 0, _ => Nat.le_refl _
 | f + 1, n => by
  have := bitLenAux_le f (n / 2)
  simp only [Lib.bitLenAux]
  split <;> omega
theorem bitLen_le (n : Nat) : Lib.bitLen n ≤ 64 := bitLenAux_le 64 n
def Pow (w : World) : Prop := ∀ i, i < 1392 → ∃ n : Int, w.cell? ⟨7, i, none⟩ = some (.int .u64 n)
theorem Pow.below {w w' : World} (h : Pow w) (hb : Below w.heap.size w w') : Pow w' := fun i hi => by
 obtain ⟨n, hn⟩ := h i hi
 exact ⟨n, pw_cell_below hb hn⟩
structure DecC (cs : Array Value) (d : Nat → Int) (nd dp : Int) (ng tr : Bool) : Prop where
 sz : cs.size = 804
 dg : ∀ i, i < 800 → cs[i]? = some (.int .u8 (d i))
 c0 : cs[800]? = some (.int .i64 nd)
 c1 : cs[801]? = some (.int .i64 dp)
 c2 : cs[802]? = some (.bool ng)
 c3 : cs[803]? = some (.bool tr)
structure Dec (w0 W : World) (g : Nat) (d : Nat → Int) (nd dp : Int) (ng tr : Bool) : Prop where
 hp : ∃ cs, W.heap[g]? = some (.cells cs 202 (0, 0)) ∧ DecC cs d nd dp ng tr
 ge : w0.heap.size ≤ g
 be : Below w0.heap.size w0 W
def setD (d : Nat → Int) (j : Nat) (x : Int) : Nat → Int := fun i => if i = j then x else d i
section
variable {w0 W : World} {g : Nat} {d : Nat → Int} {nd dp : Int} {ng tr : Bool}
theorem Dec.dig (h : Dec w0 W g d nd dp ng tr) (i : Nat) (hi : i < 800) : W.cell? ⟨g, i, none⟩ = some (.int .u8 (d i)) := by
 obtain ⟨cs, hb, hc⟩ := h.hp
 exact (blk_cell hb i).trans (hc.dg i hi)
theorem Dec.cnd (h : Dec w0 W g d nd dp ng tr) : W.cell? ⟨g, 800, none⟩ = some (.int .i64 nd) := by
 obtain ⟨cs, hb, hc⟩ := h.hp
 exact (blk_cell hb 800).trans hc.c0
theorem Dec.cdp (h : Dec w0 W g d nd dp ng tr) : W.cell? ⟨g, 801, none⟩ = some (.int .i64 dp) := by
 obtain ⟨cs, hb, hc⟩ := h.hp
 exact (blk_cell hb 801).trans hc.c1
theorem Dec.cng (h : Dec w0 W g d nd dp ng tr) : W.cell? ⟨g, 802, none⟩ = some (.bool ng) := by
 obtain ⟨cs, hb, hc⟩ := h.hp
 exact (blk_cell hb 802).trans hc.c2
theorem Dec.ctr (h : Dec w0 W g d nd dp ng tr) : W.cell? ⟨g, 803, none⟩ = some (.bool tr) := by
 obtain ⟨cs, hb, hc⟩ := h.hp
 exact (blk_cell hb 803).trans hc.c3
theorem Dec.fr (h : Dec w0 W g d nd dp ng tr) (i : Nat) : W.frozen? ⟨g, i, none⟩ = false := by
 obtain ⟨cs, hb, hc⟩ := h.hp
 exact blk_frozen hb i
theorem Dec.drewN (h : Dec w0 W g d nd dp ng tr) (m : Nat) : Dec w0 (W.drewN m) g d nd dp ng tr := ⟨h.hp, h.ge, pw_below_drewN h.be m⟩
theorem Dec.drew (h : Dec w0 W g d nd dp ng tr) : Dec w0 W.drew g d nd dp ng tr := ⟨h.hp, h.ge, below_drew1 h.be⟩
theorem Dec.set_any (h : Dec w0 W g d nd dp ng tr) (j : Nat) (u : Value) {d' : Nat → Int} {nd' dp' : Int} {ng' tr' : Bool} (hc : ∀ cs, DecC cs d nd dp ng tr → DecC (cs.setIfInBounds j u) d' nd' dp' ng' tr') :
  Dec w0 (W.setCell ⟨g, j, none⟩ u) g d' nd' dp' ng' tr' := by
 obtain ⟨cs, hb, h1⟩ := h.hp
 exact ⟨⟨_, blk_set hb j u, hc cs h1⟩, h.ge, below_set h.be h.ge⟩
theorem Dec.set_d (h : Dec w0 W g d nd dp ng tr) (j : Nat) (hj : j < 800) (x : Int) : Dec w0 (W.setCell ⟨g, j, none⟩ (.int .u8 x)) g (setD d j x) nd dp ng tr :=
 h.set_any j _ fun cs hc => by
  have hs := hc.sz
  refine ⟨by simpa using hs, fun i hi => ?_, ?_, ?_, ?_, ?_⟩
  ·rw [Array.getElem?_setIfInBounds]
   unfold setD
   by_cases e : j = i
   ·subst e; rw [if_pos rfl, if_pos (by omega), if_pos rfl]
   ·rw [if_neg e, if_neg (fun q => e q.symm)]; exact hc.dg i hi
  ·rw [Array.getElem?_setIfInBounds, if_neg (by omega)]; exact hc.c0
  ·rw [Array.getElem?_setIfInBounds, if_neg (by omega)]; exact hc.c1
  ·rw [Array.getElem?_setIfInBounds, if_neg (by omega)]; exact hc.c2
  ·rw [Array.getElem?_setIfInBounds, if_neg (by omega)]; exact hc.c3
theorem Dec.set_nd (h : Dec w0 W g d nd dp ng tr) (x : Int) : Dec w0 (W.setCell ⟨g, 800, none⟩ (.int .i64 x)) g d x dp ng tr :=
 h.set_any 800 _ fun cs hc => by
  have hs := hc.sz
  refine ⟨by simpa using hs, fun i hi => ?_, ?_, ?_, ?_, ?_⟩
  ·rw [Array.getElem?_setIfInBounds, if_neg (by omega)]; exact hc.dg i hi
  ·rw [Array.getElem?_setIfInBounds, if_pos rfl, if_pos (by omega)]
  ·rw [Array.getElem?_setIfInBounds, if_neg (by omega)]; exact hc.c1
  ·rw [Array.getElem?_setIfInBounds, if_neg (by omega)]; exact hc.c2
  ·rw [Array.getElem?_setIfInBounds, if_neg (by omega)]; exact hc.c3
theorem Dec.set_dp (h : Dec w0 W g d nd dp ng tr) (x : Int) : Dec w0 (W.setCell ⟨g, 801, none⟩ (.int .i64 x)) g d nd x ng tr :=
 h.set_any 801 _ fun cs hc => by
  have hs := hc.sz
  refine ⟨by simpa using hs, fun i hi => ?_, ?_, ?_, ?_, ?_⟩
  ·rw [Array.getElem?_setIfInBounds, if_neg (by omega)]; exact hc.dg i hi
  ·rw [Array.getElem?_setIfInBounds, if_neg (by omega)]; exact hc.c0
  ·rw [Array.getElem?_setIfInBounds, if_pos rfl, if_pos (by omega)]
  ·rw [Array.getElem?_setIfInBounds, if_neg (by omega)]; exact hc.c2
  ·rw [Array.getElem?_setIfInBounds, if_neg (by omega)]; exact hc.c3
theorem Dec.set_ng (h : Dec w0 W g d nd dp ng tr) (x : Bool) : Dec w0 (W.setCell ⟨g, 802, none⟩ (.bool x)) g d nd dp x tr :=
 h.set_any 802 _ fun cs hc => by
  have hs := hc.sz
  refine ⟨by simpa using hs, fun i hi => ?_, ?_, ?_, ?_, ?_⟩
  ·rw [Array.getElem?_setIfInBounds, if_neg (by omega)]; exact hc.dg i hi
  ·rw [Array.getElem?_setIfInBounds, if_neg (by omega)]; exact hc.c0
  ·rw [Array.getElem?_setIfInBounds, if_neg (by omega)]; exact hc.c1
  ·rw [Array.getElem?_setIfInBounds, if_pos rfl, if_pos (by omega)]
  ·rw [Array.getElem?_setIfInBounds, if_neg (by omega)]; exact hc.c3
theorem Dec.set_tr (h : Dec w0 W g d nd dp ng tr) (x : Bool) : Dec w0 (W.setCell ⟨g, 803, none⟩ (.bool x)) g d nd dp ng x :=
 h.set_any 803 _ fun cs hc => by
  have hs := hc.sz
  refine ⟨by simpa using hs, fun i hi => ?_, ?_, ?_, ?_, ?_⟩
  ·rw [Array.getElem?_setIfInBounds, if_neg (by omega)]; exact hc.dg i hi
  ·rw [Array.getElem?_setIfInBounds, if_neg (by omega)]; exact hc.c0
  ·rw [Array.getElem?_setIfInBounds, if_neg (by omega)]; exact hc.c1
  ·rw [Array.getElem?_setIfInBounds, if_neg (by omega)]; exact hc.c2
  ·rw [Array.getElem?_setIfInBounds, if_pos rfl, if_pos (by omega)]
end
set_option maxHeartbeats 1000000
structure DV where
 d : Nat → Int
 nd : Nat
 dp : Int
 tr : Bool
inductive Lp {S : Type} (c : S → Prop) (f : S → S) : S → S → Prop
 | done {s : S} : ¬ c s → Lp c f s s
 | next {s t : S} : c s → Lp c f (f s) t → Lp c f s t
theorem Lp.one {S : Type} {c : S → Prop} {f : S → S} {s t : S} (h : Lp c f s t) : ∀ {u : S}, Lp c f s u → t = u := by
 induction h with
 | done hc =>
  intro u hu
  cases hu with
  | done _ => rfl
  | next h _ => exact absurd h hc
 | next hc _ ih =>
  intro u hu
  cases hu with
  | done h => exact absurd hc h
  | next _ h => exact ih h
theorem Lp.go {S : Type} {c : S → Prop} {f : S → S} {s s' : S} {R : S → Prop} (h : ∀ t, Lp c f s t → R t) (hc : c s) (e : s' = f s) : ∀ t, Lp c f s' t → R t := fun t ht => h t (.next hc (e ▸ ht))
def trimN (d : Nat → Int) : Nat → Nat
 | 0 => 0
 | k + 1 => if d k = 48 then trimN d k else k + 1
theorem trimN_le (d : Nat → Int) : ∀ k, trimN d k ≤ k
 | 0 => Nat.le_refl _
 | k + 1 => by
  unfold trimN
  have := trimN_le d k
  split <;> omega
theorem trimN_pos {d : Nat → Int} (h : d 0 ≠ 48) : ∀ k, 0 < k → 0 < trimN d k
 | 0, h0 => by omega
 | 1, _ => by unfold trimN; rw [if_neg h]; omega
 | k + 2, _ => by
  unfold trimN
  have := trimN_pos h (k + 1) (by omega)
  split <;> omega
theorem trim_det (w0 w : World) (g : Nat) (d : Nat → Int) (nd : Nat) (dp : Int) (ng tr : Bool) (H : Dec w0 w g d nd dp ng tr) (hn : nd ≤ 800) (h0 : 0 < nd → d 0 ≠ 48) :
  Calls Tryz.prog 204 #[.pointer (some ⟨g, 0, none⟩)] w fun e w' => e = .returned (.tuple #[]) ∧ Dec w0 w' g d (trimN d nd : Nat) (if nd = 0 then 0 else dp) ng tr := by
 have HD := Aside0.mk H
 clear H
 go_enter Tryz.func204, Tryz.ntmps204
 go_wp2_with fail
 go_loopg [] nd (fun kq w' => Aside0 (Dec w0 w' g d kq dp ng tr) ∧ kq ≤ nd ∧ (0 < nd → 1 ≤ kq) ∧ Aside0 (trimN d nd = trimN d kq))
 case atStart => exact ⟨HD, by omega, by omega, ⟨rfl⟩⟩
 obtain ⟨HD, hn1, hn2, HT⟩ := hrel
 have c0 := HD.out.cnd
 have c1 := HD.out.cdp
 have f0 := HD.out.fr
 cases gk with
 | zero =>
  go_wp2_with fail
  repeat (go_quiet (fail); try (go_wp2_with fail))
  go_end0
  exact ⟨rfl, (HD.out.drewN _).set_dp _⟩
 | succ k =>
  have cd := HD.out.dig k (by omega)
  have g4 : k < 800 := by omega
  have g5 : IntKind.i64.wrap (k : Int) = k := by rw [IntKind.wrap_i64]; omega
  have c2 : wr.cell? ⟨g, 800, none⟩ = some (.int .i64 ((k : Int) + 1)) := c0
  have f1 := f0 800
  clear c0
  have h0' : k = 0 → d k ≠ 48 := fun e => by rw [e]; exact h0 (by omega)
  have hh := Aside0.mk h0'
  clear h0'
  generalize hx : d k = x at cd
  rw [hx] at hh
  have HX := Aside0.mk hx
  by_cases e48 : x = 48
  rotate_left
  ·have e48b : (x == 48) = false := beq_eq_false_iff_ne.mpr e48
   have E48 := Aside0.mk e48
   clear e48
   go_wp2_with fail
   go_quiet (fail)
   go_wp2_with fail
   go_end0
   have hT : trimN d nd = k + 1 := HT.out.trans (by unfold trimN; rw [if_neg (by rw [HX.out]; exact E48.out)])
   rw [hT]
   exact ⟨rfl, HD.out.drewN _⟩
  have e48b : (x == 48) = true := beq_iff_eq.mpr e48
  have hk0 : k ≠ 0 := fun e => hh.out e e48
  have E48 := Aside0.mk e48
  clear e48
  go_wp2_with fail
  go_quiet (fail)
  go_wp2_with fail
  go_roundg k
  case measure => omega
  refine ⟨⟨?_⟩, by omega, by omega, ⟨HT.out.trans (by show (if d k = 48 then _ else _) = _; rw [if_pos (by rw [HX.out]; exact E48.out)])⟩⟩
  exact (HD.out.drewN _).set_nd _
theorem trim_n (w0 w : World) (g : Nat) (d : Nat → Int) (nd : Nat) (dp : Int) (ng tr : Bool) (H : Dec w0 w g d nd dp ng tr) (hn : nd ≤ 800) (hp : 0 < nd) (h0 : d 0 ≠ 48) :
  Calls Tryz.prog 204 #[.pointer (some ⟨g, 0, none⟩)] w fun e w' => e = .returned (.tuple #[]) ∧ Dec w0 w' g d (trimN d nd : Nat) dp ng tr ∧ 1 ≤ trimN d nd ∧ trimN d nd ≤ nd :=
 (trim_det w0 w g d nd dp ng tr H hn fun _ => h0).mono fun e w' h => ⟨h.1, by have := h.2; rwa [if_neg (Nat.ne_of_gt hp)] at this, trimN_pos h0 nd hp, trimN_le d nd⟩
end Go.Proofs.YtgiioglmkogpkaaGreatDoor.F
namespace Go.Proofs.YtgiioglmkogpkaaGreatDoor.F
def W : List Nat → Nat
 | [] => 0
 | x :: a => x * 10 ^ a.length + W a
def cmp : List Nat → List Nat → Bool
 | _, [] => false
 | [], _ :: _ => true
 | x :: a, y :: b => if x = y then cmp a b else decide (x < y)
theorem W_lt : ∀ a : List Nat, (∀ x ∈ a, x ≤ 9) → W a < 10 ^ a.length
 | [], _ => by simp [W]
 | x :: a, h => by
  have ih := W_lt a fun y hy => h y (List.mem_cons_of_mem _ hy)
  have hx := h x (List.mem_cons_self ..)
  simp only [W, List.length_cons, Nat.pow_succ]
  have : x * 10 ^ a.length ≤ 9 * 10 ^ a.length := Nat.mul_le_mul_right _ hx
  omega
def Sharp : List Nat → Prop
 | [] => False
 | [x] => x ≠ 0
 | _ :: a => Sharp a
theorem W_pos : ∀ a, Sharp a → 0 < W a
 | [], h => h.elim
 | [x], h => by simp [W, Sharp] at *; omega
 | x :: y :: a, h => by
  have := W_pos (y :: a) h
  simp only [W] at *
  omega
theorem cmp_true : ∀ a b, (∀ x ∈ a, x ≤ 9) → (b = [] ∨ Sharp b) → cmp a b = true → W a * 10 ^ b.length < W b * 10 ^ a.length
 | _, [], _, _, h => by simp [cmp] at h
 | [], y :: b, _, hs, _ => by
  have := W_pos _ (hs.resolve_left (by simp))
  simp only [List.length_nil, Nat.pow_zero, Nat.mul_one]
  simpa [W] using this
 | x :: a, y :: b, ha, hs, h => by
  have hs' : b = [] ∨ Sharp b := by
   rcases hs with h | h
   ·simp at h
   ·cases b with
    | nil => exact .inl rfl
    | cons z b => exact .inr h
  have ha' : ∀ x ∈ a, x ≤ 9 := fun z hz => ha z (List.mem_cons_of_mem _ hz)
  have hlt := W_lt a ha'
  unfold cmp at h
  simp only [W, List.length_cons, Nat.pow_succ]
  generalize hA : 10 ^ a.length = A at *
  generalize hB : 10 ^ b.length = B at *
  have hA0 : 0 < A := by rw [← hA]; exact Nat.pow_pos (by omega)
  have hB0 : 0 < B := by rw [← hB]; exact Nat.pow_pos (by omega)
  by_cases e : x = y
  ·rw [if_pos e] at h
   subst e
   have ih := cmp_true a b ha' hs' h
   rw [hA, hB] at ih
   have e1 : (x * A + W a) * (B * 10) = x * A * B * 10 + W a * B * 10 := by rw [Nat.add_mul, ← Nat.mul_assoc, ← Nat.mul_assoc]
   have e2 : (x * B + W b) * (A * 10) = x * A * B * 10 + W b * A * 10 := by rw [Nat.add_mul, ← Nat.mul_assoc, ← Nat.mul_assoc, Nat.mul_right_comm x B A]
   rw [e1, e2]; omega
  ·rw [if_neg e] at h
   have hlt2 : x < y := of_decide_eq_true h
   have h1 : x * A + W a < y * A := Nat.lt_of_lt_of_le (Nat.add_lt_add_left hlt _) (by rw [← Nat.succ_mul]; exact Nat.mul_le_mul_right _ hlt2)
   have h2 : (x * A + W a) * (B * 10) < y * A * (B * 10) := Nat.mul_lt_mul_of_pos_right h1 (by omega)
   have e2 : y * A * (B * 10) = y * B * (A * 10) := by rw [← Nat.mul_assoc, ← Nat.mul_assoc, Nat.mul_right_comm y A B]
   have h3 : y * B * (A * 10) ≤ (y * B + W b) * (A * 10) := Nat.mul_le_mul_right _ (by omega)
   omega
theorem cmp_false : ∀ a b, (∀ x ∈ b, x ≤ 9) → cmp a b = false → W b * 10 ^ a.length ≤ W a * 10 ^ b.length
 | a, [], _, _ => by simp [W]
 | [], y :: b, _, h => by simp [cmp] at h
 | x :: a, y :: b, hb, h => by
  have hb' : ∀ x ∈ b, x ≤ 9 := fun z hz => hb z (List.mem_cons_of_mem _ hz)
  have hlt := W_lt b hb'
  unfold cmp at h
  simp only [W, List.length_cons, Nat.pow_succ]
  generalize hA : 10 ^ a.length = A at *
  generalize hB : 10 ^ b.length = B at *
  have hA0 : 0 < A := by rw [← hA]; exact Nat.pow_pos (by omega)
  by_cases e : x = y
  ·rw [if_pos e] at h
   subst e
   have ih := cmp_false a b hb' h
   rw [hA, hB] at ih
   have e1 : (x * A + W a) * (B * 10) = x * A * B * 10 + W a * B * 10 := by rw [Nat.add_mul, ← Nat.mul_assoc, ← Nat.mul_assoc]
   have e2 : (x * B + W b) * (A * 10) = x * A * B * 10 + W b * A * 10 := by rw [Nat.add_mul, ← Nat.mul_assoc, ← Nat.mul_assoc, Nat.mul_right_comm x B A]
   rw [e1, e2]; omega
  ·rw [if_neg e] at h
   have hlt2 : y < x := by have := of_decide_eq_false h; omega
   have h1 : y * B + W b < x * B := Nat.lt_of_lt_of_le (Nat.add_lt_add_left hlt _) (by rw [← Nat.succ_mul]; exact Nat.mul_le_mul_right _ hlt2)
   have h2 : (y * B + W b) * (A * 10) ≤ x * B * (A * 10) := Nat.mul_le_mul_right _ (by omega)
   have e2 : x * B * (A * 10) = x * A * (B * 10) := by rw [← Nat.mul_assoc, ← Nat.mul_assoc, Nat.mul_right_comm x B A]
   have h3 : x * A * (B * 10) ≤ (x * A + W a) * (B * 10) := Nat.mul_le_mul_right _ (by omega)
   omega
def carry (k : Nat) (d : Nat → Nat) (nd : Nat) : Nat → Nat
 | 0 => 0
 | j + 1 => (carry k d nd j + d (nd - 1 - j) * 2 ^ k) / 10
def tail (d : Nat → Nat) (nd : Nat) : Nat → Nat
 | 0 => 0
 | j + 1 => d (nd - 1 - j) * 10 ^ j + tail d nd j
theorem carry_bounds (k : Nat) (d : Nat → Nat) (nd : Nat) : ∀ j, carry k d nd j * 10 ^ j ≤ tail d nd j * 2 ^ k ∧ tail d nd j * 2 ^ k < (carry k d nd j + 1) * 10 ^ j
 | 0 => by simp [carry, tail]
 | j + 1 => by
  obtain ⟨h1, h2⟩ := carry_bounds k d nd j
  simp only [carry, tail, Nat.pow_succ]
  generalize hc : d (nd - 1 - j) = c
  generalize hn : carry k d nd j = n at *
  generalize hx : n + c * 2 ^ k = x
  have hd := Nat.div_add_mod x 10
  have hm := Nat.mod_lt x (show 0 < 10 by omega)
  generalize x / 10 = q at *
  generalize hP : 10 ^ j = P at *
  have hP0 : 0 < P := by rw [← hP]; exact Nat.pow_pos (by omega)
  have e1 : (c * P + tail d nd j) * 2 ^ k = c * 2 ^ k * P + tail d nd j * 2 ^ k := by rw [Nat.add_mul, Nat.mul_right_comm]
  rw [e1]
  constructor
  ·have h3 : q * 10 * P ≤ x * P := Nat.mul_le_mul_right _ (by omega)
   have e2 : q * (P * 10) = q * 10 * P := by rw [Nat.mul_comm P 10, ← Nat.mul_assoc]
   rw [e2]
   have e3 : x * P = n * P + c * 2 ^ k * P := by rw [← hx, Nat.add_mul]
   omega
  ·have h3 : (x + 1) * P ≤ (q * 10 + 10) * P := Nat.mul_le_mul_right _ (by omega)
   have e2 : (q + 1) * (P * 10) = (q * 10 + 10) * P := by rw [Nat.mul_comm P 10, ← Nat.mul_assoc, Nat.add_mul]
   rw [e2]
   have e3 : (x + 1) * P = (n + 1) * P + c * 2 ^ k * P := by rw [← hx, ← Nat.add_mul]; congr 1; omega
   omega
theorem tail_lt (d : Nat → Nat) (nd : Nat) (h : ∀ i, i < nd → d i ≤ 9) : ∀ j, j ≤ nd → tail d nd j < 10 ^ j
 | 0, _ => by simp [tail]
 | j + 1, hj => by
  have ih := tail_lt d nd h j (by omega)
  have hx := h (nd - 1 - j) (by omega)
  simp only [tail, Nat.pow_succ]
  have : d (nd - 1 - j) * 10 ^ j ≤ 9 * 10 ^ j := Nat.mul_le_mul_right _ hx
  omega
theorem carry_lt (k : Nat) (d : Nat → Nat) (nd : Nat) (h : ∀ i, i < nd → d i ≤ 9) (j : Nat) (hj : j ≤ nd) : carry k d nd j < 2 ^ k := by
 have h1 := (carry_bounds k d nd j).1
 have h2 := tail_lt d nd h j hj
 have h3 : tail d nd j * 2 ^ k < 10 ^ j * 2 ^ k := Nat.mul_lt_mul_of_pos_right h2 (Nat.pow_pos (by omega))
 have h4 : carry k d nd j * 10 ^ j < 2 ^ k * 10 ^ j := by rw [Nat.mul_comm (2 ^ k)]; omega
 exact Nat.lt_of_mul_lt_mul_right h4
def row (d : Nat → Nat) (a : Nat) : Nat → List Nat
 | 0 => []
 | n + 1 => d a :: row d (a + 1) n
theorem row_length (d : Nat → Nat) : ∀ n a, (row d a n).length = n
 | 0, _ => rfl
 | n + 1, a => by simp [row, row_length d n]
theorem row_tail (d : Nat → Nat) (nd : Nat) : ∀ j, j ≤ nd → W (row d (nd - j) j) = tail d nd j
 | 0, _ => rfl
 | j + 1, hj => by
  simp only [row, W, row_length, tail]
  rw [show nd - (j + 1) + 1 = nd - j by omega, row_tail d nd j (by omega), show nd - (j + 1) = nd - 1 - j by omega]
theorem row_all (d : Nat → Nat) : ∀ n a, (∀ i, a ≤ i → i < a + n → d i ≤ 9) → ∀ x ∈ row d a n, x ≤ 9
 | 0, _, _, _, h => by simp [row] at h
 | n + 1, a, hd, x, h => by
  rcases List.mem_cons.mp h with rfl | h
  ·exact hd a (by omega) (by omega)
  ·exact row_all d n (a + 1) (fun i h1 h2 => hd i (by omega) (by omega)) x h
structure Cheat (k : Nat) (de : Nat) (c : List Nat) : Prop where
 w : W c = 5 ^ k
 le : c.length ≤ k
 de : de = k + 1 - c.length
 lt : 5 ^ k < 10 ^ c.length
 ge : 10 ^ c.length ≤ 5 ^ k * 10
 sh : Sharp c
 dg : ∀ x ∈ c, x ≤ 9
theorem pow_split (k l : Nat) (h : l ≤ k) : 10 ^ k = 10 ^ (k - l) * 10 ^ l := by rw [← Nat.pow_add]; congr 1; omega
theorem ten (k : Nat) : 10 ^ k = 2 ^ k * 5 ^ k := by rw [← Nat.mul_pow]
theorem carry_end (k de : Nat) (c : List Nat) (h : Cheat k de c) (d : Nat → Nat) (nd : Nat) (hd : ∀ i, i < nd → d i ≤ 9) (h0 : 0 < nd) (hd0 : d 0 ≠ 0) (b : Bool) (hb : cmp (row d 0 nd) c = b) (e : Nat) (he : e = if b = true then de - 1 else de) :
  carry k d nd nd < 10 ^ e ∧ (0 < e → 10 ^ (e - 1) ≤ carry k d nd nd) := by
 have hrow : W (row d 0 nd) = tail d nd nd := by have := row_tail d nd nd (Nat.le_refl _); simpa using this
 have hlen := row_length d nd 0
 obtain ⟨b1, b2⟩ := carry_bounds k d nd nd
 have hall := row_all d nd 0 (fun i _ h => hd i (by omega))
 generalize carry k d nd nd = n at *
 generalize hT : tail d nd nd = T at *
 have hl := h.le
 have hde := h.de
 have hP : 0 < 10 ^ nd := Nat.pow_pos (by omega)
 have hL : 0 < 10 ^ c.length := Nat.pow_pos (by omega)
 have h2 : 0 < 2 ^ k := Nat.pow_pos (by omega)
 have hk := pow_split k c.length hl
 have hten := ten k
 have hTlt : T < 10 ^ nd := by rw [← hT]; exact tail_lt d nd hd nd (Nat.le_refl _)
 have hTge : 10 ^ (nd - 1) ≤ T := by
  rw [← hT]
  obtain ⟨m, rfl⟩ : ∃ m, nd = m + 1 := ⟨nd - 1, by omega⟩
  simp only [tail]
  rw [show m + 1 - 1 - m = 0 by omega, show m + 1 - 1 = m by omega]
  have : 1 * 10 ^ m ≤ d 0 * 10 ^ m := Nat.mul_le_mul_right _ (by omega)
  omega
 have hpp : 10 ^ nd = 10 ^ (nd - 1) * 10 := by rw [← Nat.pow_succ]; congr 1; omega
 have h2gt : 10 ^ (k - c.length) < 2 ^ k := by
  have h3 : 2 ^ k * 5 ^ k < 2 ^ k * 10 ^ c.length := Nat.mul_lt_mul_of_pos_left h.lt h2
  have h4 : 10 ^ (k - c.length) * 10 ^ c.length < 2 ^ k * 10 ^ c.length := by rw [← hk, hten]; exact h3
  exact Nat.lt_of_mul_lt_mul_right h4
 cases b with
 | true =>
  rw [if_pos rfl] at he
  have hc := cmp_true _ _ hall (.inr h.sh) hb
  rw [hrow, hlen, h.w] at hc
  have ee : e = k - c.length := by omega
  constructor
  rotate_left
  ·intro he0
   have h5 : 10 ^ (nd - 1) * 2 ^ k ≤ T * 2 ^ k := Nat.mul_le_mul_right _ hTge
   have h6 : 10 ^ (nd - 1) * 2 ^ k < (n + 1) * 10 ^ nd := Nat.lt_of_le_of_lt h5 b2
   have e1 : (n + 1) * 10 ^ nd = 10 ^ (nd - 1) * ((n + 1) * 10) := by rw [hpp, Nat.mul_comm (n + 1), Nat.mul_assoc, Nat.mul_comm 10]
   rw [e1] at h6
   have h7 : 2 ^ k < (n + 1) * 10 := Nat.lt_of_mul_lt_mul_left h6
   have e2 : 10 ^ e = 10 ^ (e - 1) * 10 := by rw [← Nat.pow_succ]; congr 1; omega
   rw [← ee, e2] at h2gt
   omega
  have h5 : T * 10 ^ c.length * 2 ^ k < 5 ^ k * 10 ^ nd * 2 ^ k := Nat.mul_lt_mul_of_pos_right hc h2
  have h6 : n * 10 ^ nd * 10 ^ c.length ≤ T * 2 ^ k * 10 ^ c.length := Nat.mul_le_mul_right _ b1
  have e1 : T * 2 ^ k * 10 ^ c.length = T * 10 ^ c.length * 2 ^ k := Nat.mul_right_comm ..
  have e2 : 5 ^ k * 10 ^ nd * 2 ^ k = 10 ^ k * 10 ^ nd := by rw [hten, Nat.mul_right_comm, Nat.mul_comm (5 ^ k)]
  have h7 : n * 10 ^ c.length * 10 ^ nd < 10 ^ k * 10 ^ nd := by rw [Nat.mul_right_comm n]; omega
  have h8 := Nat.lt_of_mul_lt_mul_right h7
  rw [hk] at h8
  rw [ee]
  exact Nat.lt_of_mul_lt_mul_right h8
 | false =>
  rw [if_neg (by simp)] at he
  have hc := cmp_false _ _ h.dg hb
  rw [hrow, hlen, h.w] at hc
  have ee : e = k - c.length + 1 := by omega
  constructor
  rotate_left
  ·intro _
   have h5 : 5 ^ k * 10 ^ nd * 2 ^ k ≤ T * 10 ^ c.length * 2 ^ k := Nat.mul_le_mul_right _ hc
   have e2 : 5 ^ k * 10 ^ nd * 2 ^ k = 10 ^ k * 10 ^ nd := by rw [hten, Nat.mul_right_comm, Nat.mul_comm (5 ^ k)]
   have e1 : T * 10 ^ c.length * 2 ^ k = T * 2 ^ k * 10 ^ c.length := Nat.mul_right_comm ..
   have h6 : T * 2 ^ k * 10 ^ c.length < (n + 1) * 10 ^ nd * 10 ^ c.length := Nat.mul_lt_mul_of_pos_right b2 hL
   have h7 : 10 ^ (k - c.length) * 10 ^ nd * 10 ^ c.length < (n + 1) * 10 ^ nd * 10 ^ c.length := by
    rw [Nat.mul_right_comm, ← hk]; omega
   have h8 := Nat.lt_of_mul_lt_mul_right (Nat.lt_of_mul_lt_mul_right h7)
   rw [ee, Nat.add_sub_cancel]
   omega
  have h3 : n * 10 ^ nd < 2 ^ k * 10 ^ nd := by
   have : T * 2 ^ k < 10 ^ nd * 2 ^ k := Nat.mul_lt_mul_of_pos_right hTlt h2
   rw [Nat.mul_comm (2 ^ k)]; omega
  have h4 : n < 2 ^ k := Nat.lt_of_mul_lt_mul_right h3
  have h5 : 2 ^ k ≤ 10 ^ e := by
   have hWge : 10 ^ c.length ≤ 5 ^ k * 10 := h.ge
   have h6 : 2 ^ k * 10 ^ c.length ≤ 2 ^ k * (5 ^ k * 10) := Nat.mul_le_mul_left _ hWge
   have e1 : 2 ^ k * (5 ^ k * 10) = 10 ^ e * 10 ^ c.length := by
    rw [← Nat.mul_assoc, ← hten, ee, ← Nat.pow_succ, ← Nat.pow_add]; congr 1; omega
   rw [e1] at h6
   exact Nat.le_of_mul_le_mul_right h6 hL
  omega
def sharpB : List Nat → Bool
 | [] => false
 | [x] => x != 0
 | _ :: a => sharpB a
theorem sharp_of : ∀ a, sharpB a = true → Sharp a
 | [], h => by simp [sharpB] at h
 | [x], h => by simpa [sharpB, Sharp] using h
 | _ :: y :: a, h => sharp_of (y :: a) h
def cheatB (k : Nat) (de : Nat) (c : List Nat) : Bool := W c == 5 ^ k && decide (c.length ≤ k) && de == k + 1 - c.length && decide (5 ^ k < 10 ^ c.length) && decide (10 ^ c.length ≤ 5 ^ k * 10) && sharpB c && c.all fun x => decide (x ≤ 9)
theorem cheat_of (k de : Nat) (c : List Nat) (h : cheatB k de c = true) : Cheat k de c := by
 simp only [cheatB, Bool.and_eq_true, beq_iff_eq, decide_eq_true_eq, List.all_eq_true] at h
 obtain ⟨⟨⟨⟨⟨⟨h1, h2⟩, h3⟩, h4⟩, h5⟩, h6⟩, h7⟩ := h
 exact ⟨h1, h2, h3, h4, h5, sharp_of c h6, h7⟩
def byteOk (u : UInt8) : Bool := decide (48 ≤ u.toNat) && decide (u.toNat ≤ 57)
theorem cheats_all : (List.range 61).all (fun k => k == 0 || match Go.Pinned.cheatRows[k]? with
  | some x => cheatB k x.1 (x.2.map fun u => u.toNat - 48) && x.2.all byteOk && decide (x.2.length ≤ 100)
  | none => false) = true := by decide +kernel
theorem cheats (k : Nat) (hk : k < 61) (h0 : 0 < k) : ∃ x, Go.Pinned.cheatRows[k]? = some x ∧ Cheat k x.1 (x.2.map fun u => u.toNat - 48) ∧ (∀ u ∈ x.2, 48 ≤ u.toNat ∧ u.toNat ≤ 57) ∧ x.2.length ≤ 100 := by
 have h := List.all_eq_true.mp cheats_all k (List.mem_range.mpr hk)
 simp only [Bool.or_eq_true, beq_iff_eq] at h
 rcases h with h | h
 ·omega
 revert h
 cases Go.Pinned.cheatRows[k]? with
 | none => intro h; simp at h
 | some x =>
  intro h
  simp only [Bool.and_eq_true, decide_eq_true_eq, List.all_eq_true, byteOk] at h
  exact ⟨x, rfl, cheat_of _ _ _ h.1.1, fun u hu => h.1.2 u hu, h.2⟩
end Go.Proofs.YtgiioglmkogpkaaGreatDoor.F
namespace Go.Proofs.YtgiioglmkogpkaaGreatDoor.F
open Go.RowKit Go.Proofs.YtgiioglmkogpkaaGreatDoorW.PrintWords Go.Proofs.YtgiioglmkogpkaaGreatDoorW.PrintLast Go.Proofs.YtgiioglmkogpkaaGreatDoorW.PrintMore
open M
def dig (d : Nat → Int) : Nat → Nat := fun i => (d i - 48).toNat
def rowI (d : Nat → Int) (a : Nat) : Nat → List Int
 | 0 => []
 | n + 1 => d a :: rowI d (a + 1) n
theorem rowI_length (d : Nat → Int) : ∀ n a, (rowI d a n).length = n
 | 0, _ => rfl
 | n + 1, a => by simp [rowI, rowI_length d n]
theorem rowI_get (d : Nat → Int) : ∀ n a i, (rowI d a n)[i]? = if i < n then some (d (a + i)) else none
 | 0, _, i => by simp [rowI]
 | n + 1, a, 0 => by simp [rowI]
 | n + 1, a, i + 1 => by
  simp only [rowI, List.getElem?_cons_succ, rowI_get d n (a + 1) i]
  rw [show a + 1 + i = a + (i + 1) by omega]
  by_cases h : i < n
  ·rw [if_pos h, if_pos (by omega)]
  ·rw [if_neg h, if_neg (by omega)]
theorem bt_list (l : List UInt8) (i : Nat) : bt ⟨l.toArray⟩ (i : Int) = ((l.getD i 0).toNat : Int) := by
 unfold bt
 have hs : (⟨l.toArray⟩ : ByteArray).size = l.length := by simp [ByteArray.size]
 split <;> rename_i h
 rotate_left
 ·rw [hs] at h
  simp only [Int.toNat_natCast] at h
  rw [List.getD_eq_getElem?_getD, List.getElem?_eq_none (by omega)]; rfl
 rw [hs] at h
 simp only [Int.toNat_natCast] at h ⊢
 have : (⟨l.toArray⟩ : ByteArray)[i]'(by rw [hs]; exact h) = l[i] := rfl
 rw [this, List.getD_eq_getElem?_getD, List.getElem?_eq_getElem h]; rfl
theorem prefix_total (d : Nat → Int) (nd : Nat) (hnd : nd < 100000) (hd : ∀ i, i < nd → 48 ≤ d i ∧ d i ≤ 57) (l : List UInt8) (hl : ∀ u ∈ l, 48 ≤ u.toNat ∧ u.toNat ≤ 57) (hlen : l.length < 100000) :
  ∀ m i, i + m = l.length → i ≤ nd → strconv_prefixIsLessThan.l0 (m + 1) (rowI d 0 nd) ⟨l.toArray⟩ (i : Int) = some (cmp (row (dig d) i (nd - i)) ((l.drop i).map fun u => u.toNat - 48)) := by
 have hs : (⟨l.toArray⟩ : ByteArray).size = l.length := by simp [ByteArray.size]
 intro m
 induction m with
 | zero =>
  intro i hi hin
  have e : l.drop i = [] := List.drop_eq_nil_of_le (by omega)
  unfold strconv_prefixIsLessThan.l0
  rw [hs, if_neg (by omega), e]
  cases row (dig d) i (nd - i) <;> rfl
 | succ m ih =>
  intro i hi hin
  obtain ⟨u, hu⟩ : ∃ u, l[i]? = some u := ⟨l[i]'(by omega), List.getElem?_eq_getElem (by omega)⟩
  have hub := hl u (List.mem_of_getElem? hu)
  have e : l.drop i = u :: l.drop (i + 1) := by
   have hlt : i < l.length := by omega
   rw [List.drop_eq_getElem_cons hlt]
   congr 1
   rw [List.getElem?_eq_getElem hlt] at hu
   exact Option.some.inj hu
  have hb : bt ⟨l.toArray⟩ (i : Int) = u.toNat := by rw [bt_list, List.getD_eq_getElem?_getD, hu]; rfl
  unfold strconv_prefixIsLessThan.l0
  rw [hs, if_pos (by omega), rowI_length, hb, e, List.map_cons]
  by_cases e1 : i = nd
  ·subst e1
   rw [if_pos (by omega), Nat.sub_self]
   rfl
  rw [if_neg (by omega), if_pos (by omega), if_pos (by omega)]
  obtain ⟨k, hk⟩ : ∃ k, nd - i = k + 1 := ⟨nd - i - 1, by omega⟩
  have hrd : rd (rowI d 0 nd) (i : Int) = d i := by
   unfold rd
   rw [Int.toNat_natCast, List.getD_eq_getElem?_getD, rowI_get, if_pos (by omega)]
   simp
  have hdi := hd i (by omega)
  rw [hrd, hk]
  simp only [row, cmp]
  by_cases e2 : d i = (u.toNat : Int)
  ·rw [if_pos e2, if_pos (by unfold dig; omega)]
   have ew : wrap64 ((i : Int) + 1) = ((i + 1 : Nat) : Int) := by unfold wrap64; omega
   rw [ew, ih (i + 1) ((Nat.add_right_comm i 1 m).trans hi) (Nat.lt_of_le_of_ne hin e1), show nd - (i + 1) = k from by rw [Nat.sub_succ, hk]; rfl]
  rw [if_neg e2, if_neg (by unfold dig; omega)]
  congr 1
  unfold dig
  by_cases e3 : d i < (u.toNat : Int)
  ·rw [decide_eq_true e3, decide_eq_true (by omega)]
  ·rw [decide_eq_false e3, decide_eq_false (by omega)]
theorem prefix_calls (w : World) (g : Nat) (d : Nat → Int) (nd : Nat) (c : Nat) (hnc : nd ≤ c) (hnd : nd ≤ 800) (hc : ∀ i, i < nd → w.cell? ⟨g, i, none⟩ = some (.int .u8 (d i))) (hd : ∀ i, i < nd → 48 ≤ d i ∧ d i ≤ 57) (l : List UInt8) (hl : ∀ u ∈ l, 48 ≤ u.toNat ∧ u.toNat ≤ 57) (hlen : l.length < 100000) (a : Nat) :
  Calls Tryz.prog 233 #[.slice (some ⟨g, 0, none⟩) nd c, .string ⟨l.toArray⟩] (w.drewN a) fun e w' => e = .returned (.bool (cmp (row (dig d) 0 nd) (l.map fun u => u.toNat - 48))) ∧ ∃ n, w' = (w.drewN a).drewN n := by
 have h := prefix_total d nd (by omega) hd l hl hlen l.length 0 (by omega) (by omega)
 rw [Nat.sub_zero, List.drop_zero] at h
 have hC : Kd.C (Kd.int .u8) (w.drewN a) (some ⟨g, 0, none⟩) (rowI d 0 nd).length (rowI d 0 nd) := by
  refine ⟨rfl, by rw [rowI_length]; omega, fun _ => ⟨_, rfl, fun j p hj => ⟨[.int .u8 p], rfl, rfl, fun i u hu => ?_⟩⟩⟩
  rw [rowI_get] at hj
  split at hj
  rotate_left
  ·cases hj
  cases hj
  cases i with
  | zero =>
   cases hu
   rw [add_plain, show j * (Kd.int .u8).sz + 0 = j from by show j * 1 + 0 = j; omega, Nat.zero_add]
   exact hc j (by assumption)
  | succ i => simp at hu
 have := strconv_prefixIsLessThan.calls (l.length + 1) (some ⟨g, 0, none⟩) c (rowI d 0 nd) ⟨l.toArray⟩ _ (w.drewN a) hC (by rw [rowI_length]; exact hnc) h
 rw [rowI_length] at this
 exact this.mono fun e w' h => ⟨h.1, by obtain ⟨n, hn⟩ := h.2; exact ⟨n, by first | exact hn | exact hn.symm⟩⟩
set_option maxHeartbeats 4000000
set_option maxRecDepth 4096
def Cheats (w : World) : Prop := ∃ (a : Addr) (c : Nat), w.cell? ⟨8, 0, none⟩ = some (.slice (some a) 61 c) ∧
 ∀ k x, Go.Pinned.cheatRows[k]? = some x → w.cell? (a.add (k * 2)) = some (.int .i64 x.1) ∧ w.cell? ⟨(a.add (k * 2)).block, (a.add (k * 2)).off + 1, none⟩ = some (.string ⟨x.2.toArray⟩)
theorem run_slice800 (g nd : Nat) (h : nd ≤ 800) (w : World) : (Instr.sliceAt 200 (.pointer (some ⟨g, 0, none⟩)) (some (.int .i64 0)) (some (.int .i64 (nd : Int))) none).run Tryz.prog w = .ok (.slice (some ⟨g, 0, none⟩) nd 800) w := by
 have ht : Tryz.prog.underlying 200 = some (.array (Tryz.prog.arrayLen 200) (Tryz.prog.elem 200)) := by kernel_rfl
 have hl : Tryz.prog.arrayLen 200 = 800 := by kernel_rfl
 have hs : (sizeOf (Tryz.prog.elem 200)).run Tryz.prog w = .ok 1 w := by kernel_rfl
 have := run_sliceAt_array_lh (P := Tryz.prog) w 200 ⟨g, 0, none⟩ ht .i64 .i64 0 nd (by omega) (by omega) (by rw [hl]; omega)
 rw [this, hs, hl]
 simp [Result.andThen, slicedAt, add_plain]
def lsE (k : Nat) (d : Nat → Int) (nd : Nat) : Nat := match Go.Pinned.cheatRows[k]? with
 | some x => if cmp (row (dig d) 0 nd) (x.2.map fun u => u.toNat - 48) = true then x.1 - 1 else x.1
 | none => 0
structure LSt where
 q : Nat
 n : Nat
 d : Nat → Int
 tr : Bool
def laF (k e : Nat) (s : LSt) : LSt :=
 ⟨s.q - 1, (s.n + dig s.d (s.q - 1) * 2 ^ k) / 10, if s.q - 1 + e < 800 then setD s.d (s.q - 1 + e) (((s.n + dig s.d (s.q - 1) * 2 ^ k) % 10 : Nat) + 48) else s.d, if s.q - 1 + e < 800 ∨ (s.n + dig s.d (s.q - 1) * 2 ^ k) % 10 = 0 then s.tr else true⟩
def lbF (s : LSt) : LSt := ⟨s.q - 1, s.n / 10, setD s.d (s.q - 1) ((s.n % 10 : Nat) + 48), s.tr⟩
def LS (k : Nat) (X X' : DV) : Prop := ∃ s1 s2 : LSt, Lp (fun s => 0 < s.q) (laF k (lsE k X.d X.nd)) ⟨X.nd, 0, X.d, X.tr⟩ s1 ∧ Lp (fun s => 0 < s.n) lbF ⟨lsE k X.d X.nd, s1.n, s1.d, s1.tr⟩ s2 ∧
 X' = ⟨s2.d, trimN s2.d (min 800 (X.nd + lsE k X.d X.nd)), X.dp + lsE k X.d X.nd, s2.tr⟩
theorem LS.one {k : Nat} {X A B : DV} (h : LS k X A) (h' : LS k X B) : A = B := by
 obtain ⟨s1, s2, a1, a2, rfl⟩ := h
 obtain ⟨t1, t2, b1, b2, rfl⟩ := h'
 obtain rfl := a1.one b1
 obtain rfl := a2.one b2
 rfl
theorem LS.of {k e nd : Nat} {d : Nat → Int} {dp : Int} {tr : Bool} {X' : DV} {s1 s2 : LSt} (hE : lsE k d nd = e) (h1 : Lp (fun s => 0 < s.q) (laF k e) ⟨nd, 0, d, tr⟩ s1) (h2 : Lp (fun s => 0 < s.n) lbF ⟨e, s1.n, s1.d, s1.tr⟩ s2)
  (hX : X' = ⟨s2.d, trimN s2.d (min 800 (nd + e)), dp + e, s2.tr⟩) : LS k ⟨d, nd, dp, tr⟩ X' := by
 subst hE
 exact ⟨s1, s2, h1, h2, hX⟩
theorem la_lo {k e q N Y X Q : Nat} {d : Nat → Int} {tr : Bool} {r : Int} (h8 : q + e < 800) (hY : Y = dig d q * 2 ^ k) (hX : X = N + Y) (hQ : Q = X / 10) (hr : r = ((X % 10 : Nat) : Int) + 48) : (⟨q, Q, setD d (q + e) r, tr⟩ : LSt) = laF k e ⟨q + 1, N, d, tr⟩ := by
 subst hr hQ hX hY
 simp only [laF, Nat.add_sub_cancel, if_pos h8, if_pos (Or.inl h8)]
theorem la_hi {k e q N Y X Q : Nat} {d : Nat → Int} {tr t : Bool} (h8 : ¬ q + e < 800) (hY : Y = dig d q * 2 ^ k) (hX : X = N + Y) (hQ : Q = X / 10) (ht : (X % 10 = 0 ∧ t = tr) ∨ (X % 10 ≠ 0 ∧ t = true)) : (⟨q, Q, d, t⟩ : LSt) = laF k e ⟨q + 1, N, d, tr⟩ := by
 subst hQ hX hY
 rcases ht with ⟨h, rfl⟩ | ⟨h, rfl⟩
 ·simp only [laF, Nat.add_sub_cancel, if_neg h8, if_pos (Or.inr h)]
 ·simp only [laF, Nat.add_sub_cancel, if_neg h8, if_neg (not_or.mpr ⟨h8, h⟩)]
theorem lb_lo {q n Q : Nat} {d : Nat → Int} {tr : Bool} {r : Int} (hQ : Q = n / 10) (hr : r = ((n % 10 : Nat) : Int) + 48) : (⟨q, Q, setD d q r, tr⟩ : LSt) = lbF ⟨q + 1, n, d, tr⟩ := by
 subst hr hQ
 simp only [lbF, Nat.add_sub_cancel]
def DPost (w0 : World) (g : Nat) (d : Nat → Int) (nd : Nat) (dp : Int) (ng tr : Bool) (k : Nat) (e : Ending) (w' : World) : Prop :=
 e = .returned (.tuple #[]) ∧ ∃ (d' : Nat → Int) (nd' : Nat) (dp' : Int) (tr' : Bool), Dec w0 w' g d' nd' dp' ng tr' ∧ (1 ≤ nd' ∧ nd' ≤ 800) ∧ (∀ i, i < nd' → 48 ≤ d' i ∧ d' i ≤ 57) ∧ d' 0 ≠ 48 ∧ (dp ≤ dp' ∧ dp' ≤ dp + 60) ∧ (dp' = dp → d 0 + 1 ≤ d' 0) ∧ LS k ⟨d, nd, dp, tr⟩ ⟨d', nd', dp', tr'⟩
theorem u64_nat (n : Nat) (h : n < 18446744073709551616) : IntKind.u64.wrap (n : Int) = n := by
 simp only [IntKind.wrap, IntKind.bits, IntKind.signed]
 simp
 omega
theorem u64_eq {x : Int} (n : Nat) (e : x = n) (h : n < 18446744073709551616) : IntKind.u64.wrap x = n := by rw [e]; exact u64_nat n h
theorem leftShift_calls (w0 w : World) (g : Nat) (d : Nat → Int) (nd : Nat) (dp : Int) (ng tr : Bool) (k : Nat) (H : Dec w0 w g d nd dp ng tr) (hT : Cheats w0) (hk : 1 ≤ k ∧ k ≤ 60)
  (hn : 1 ≤ nd ∧ nd ≤ 800) (hd : ∀ i, i < nd → 48 ≤ d i ∧ d i ≤ 57) (h0 : d 0 ≠ 48) (hp : -1000000000 ≤ dp ∧ dp ≤ 1000000000) :
  Calls Tryz.prog 205 #[.pointer (some ⟨g, 0, none⟩), .int .u64 k] w (DPost w0 g d nd dp ng tr k) := by
 obtain ⟨⟨de, l⟩, hx, hC, hxd, hxl⟩ := cheats k (by omega) (by omega)
 dsimp only at hC hxd hxl
 obtain ⟨a, cc, t8, tc⟩ := hT
 obtain ⟨t1, t2⟩ := tc k _ hx
 dsimp only at t1 t2
 have hdd : ∀ i, i < nd → dig d i ≤ 9 := fun i hi => by have := hd i hi; unfold dig; omega
 have hd0' : dig d 0 ≠ 0 := by have := hd 0 (by omega); unfold dig; omega
 have hend := carry_end k de _ hC (dig d) nd hdd (by omega) hd0' _ rfl _ rfl
 have hde1 : 1 ≤ de ∧ de ≤ 60 := by
  have h1 := hC.de
  have h2 := hC.le
  have h3 := hC.sh
  rw [List.length_map] at h1 h2
  cases l with
  | nil => exact h3.elim
  | cons u l => rw [List.length_cons] at h1 h2; omega
 have hcl := carry_lt k (dig d) nd hdd
 generalize hb : cmp (row (dig d) 0 nd) (l.map fun u => u.toNat - 48) = b at hend
 obtain ⟨e, he⟩ : ∃ e, e = if b = true then de - 1 else de := ⟨_, rfl⟩
 have hlsE : lsE k d nd = e := by
  unfold lsE
  rw [hx]
  dsimp only
  rw [hb, he]
 have HLE := Aside0.mk hlsE
 clear hlsE
 rw [← he] at hend
 have he60 : e ≤ 60 := by rw [he]; split <;> omega
 have hsl := run_slice800 g nd hn.2
 have t8' := pw_cell_below H.be t8
 have t1' := pw_cell_below H.be t1
 have t2' := pw_cell_below H.be t2
 clear t8 tc t1 t2 hx
 have c0 := H.cnd
 have f0 := H.fr
 have cd := H.dig
 have HD := Aside0.mk H
 clear H
 have hk2 : (k : Int) < 61 := by omega
 have HE := Aside0.mk hend
 have HC := Aside0.mk hcl
 have HDD := Aside0.mk hdd
 clear hend hcl hdd
 cases b
 case' true =>
  obtain ⟨e', rfl⟩ : ∃ e', de = e' + 1 := ⟨de - 1, by omega⟩
  have hee : e = e' := by rw [he]; simp
  subst hee
 case' false =>
  have hee : e = de := by rw [he]; simp
  subst hee
 all_goals clear he hC
 all_goals
  go_enter Tryz.func205, Tryz.ntmps205
  go_wp2_with fail
  go_quiet ((go_at_call 233; refine Calls.quiet_of (prefix_calls w g d nd 800 (by omega) (by omega) (fun i hi => cd i (by omega)) hd l hxd (by omega) _)))
  rw [hb]
  go_wp2_with fail
  clear t8' t1' t2' hb hxd hxl
  go_loopg [5, 6, 7] nd (fun kq v5 v6 v7 w' => ∃ (d' : Nat → Int) (tr' : Bool), kq ≤ nd ∧ v5 = .int .i64 ((kq : Int) - 1) ∧ v6 = .int .i64 ((kq : Int) + e) ∧ v7 = .int .u64 (carry k (dig d) nd (nd - kq) : Nat) ∧ Aside0 (Dec w0 w' g d' nd dp ng tr') ∧
   Aside0 (∀ i, i < kq + e → d' i = d i) ∧ Aside0 (∀ i, kq + e ≤ i → i < nd + e → i < 800 → 48 ≤ d' i ∧ d' i ≤ 57) ∧ Aside0 (kq = 0 → e = 0 → d 0 + 1 ≤ d' 0) ∧ Aside0 (∀ t, Lp (fun s => 0 < s.q) (laF k e) ⟨kq, carry k (dig d) nd (nd - kq), d', tr'⟩ t → Lp (fun s => 0 < s.q) (laF k e) ⟨nd, 0, d, tr⟩ t))
  case atStart => exact ⟨d, tr, by omega, rfl, rfl, by rw [Nat.sub_self]; rfl, ⟨HD.out.drewN _⟩, ⟨fun _ _ => rfl⟩, ⟨by omega⟩, ⟨by omega⟩, ⟨fun t ht => by rw [Nat.sub_self] at ht; exact ht⟩⟩
  case round =>
   clear c0 f0 cd
   obtain ⟨d', tr', hkn, rfl, rfl, rfl, HD2, HI1, HI2, HI3, HI5⟩ := hrel
   have c0 := HD2.out.cnd
   have c1 := HD2.out.cdp
   have f0 := HD2.out.fr
   cases gk with
   | zero =>
    rw [Nat.sub_zero]
    have hi5 := HI5.out
    rw [Nat.sub_zero] at hi5
    clear HI5
    have hend := HE.out
    have hlt := HC.out nd (Nat.le_refl _)
    have h2k : 2 ^ k ≤ 2 ^ 60 := Nat.pow_le_pow_right (by omega) hk.2
    generalize carry k (dig d) nd nd = N at hend hlt hi5 ⊢
    have HS1 := Aside0.mk (hi5 _ (.done (by simp)))
    clear hi5
    have hN64 : N < 1152921504606846976 := by omega
    clear hlt h2k
    go_wp2_with fail
    go_loopg [6, 7] e (fun kq v6 v7 w' => ∃ (d' : Nat → Int) (tr' : Bool) (n : Nat), kq ≤ e ∧ v6 = .int .i64 (kq : Int) ∧ v7 = .int .u64 (n : Int) ∧ Aside0 (Dec w0 w' g d' nd dp ng tr') ∧ n < 1152921504606846976 ∧ Aside0 (n < 10 ^ kq) ∧ Aside0 (0 < kq → 10 ^ (kq - 1) ≤ n) ∧
     Aside0 (∀ i, kq ≤ i → i < nd + e → i < 800 → 48 ≤ d' i ∧ d' i ≤ 57) ∧ Aside0 (kq = 0 → 0 < e → d' 0 ≠ 48) ∧ Aside0 (e = 0 → d 0 + 1 ≤ d' 0) ∧
     Aside0 (∀ t, Lp (fun s => 0 < s.n) lbF ⟨kq, n, d', tr'⟩ t → ∃ s1, Lp (fun s => 0 < s.q) (laF k e) ⟨nd, 0, d, tr⟩ s1 ∧ Lp (fun s => 0 < s.n) lbF ⟨e, s1.n, s1.d, s1.tr⟩ t))
    case atStart => exact ⟨d', tr', N, by omega, by simp, rfl, HD2, hN64, ⟨hend.1⟩, ⟨hend.2⟩, ⟨fun i h1 h2 h3 => HI2.out i (by omega) h2 h3⟩, ⟨by omega⟩, ⟨fun h => HI3.out (by simp) h⟩, ⟨fun t ht => ⟨_, HS1.out, ht⟩⟩⟩
    case round =>
     clear c0 c1 f0 HI1 HI2 HI3 HD2 hend hN64 HS1
     obtain ⟨d', tr', n, hke, rfl, rfl, HD2, hn64, HB1, HB2, HI2, HI3, HI4, HI5⟩ := hrel
     have c0 := HD2.out.cnd
     have c1 := HD2.out.cdp
     have c3 := HD2.out.ctr
     have f0 := HD2.out.fr
     cases gk with
     | zero =>
      have hn0 : n = 0 := by have := HB1.out; simp at this; exact this
      subst hn0
      obtain ⟨s1, hs1, hs2⟩ := HI5.out _ (.done (by simp))
      have HLS : Aside0 (∀ X', X' = (⟨d', trimN d' (min 800 (nd + e)), dp + e, tr'⟩ : DV) → LS k ⟨d, nd, dp, tr⟩ X') := ⟨fun X' h => LS.of HLE.out hs1 hs2 h⟩
      clear hs1 hs2
      have hne : e = 0 → d 0 + 1 ≤ d' 0 := HI4.out
      have hd'0 : d' 0 ≠ 48 := by
       by_cases e0 : e = 0
       ·have := hne e0; have := hd 0 (by omega); omega
       ·exact HI3.out rfl (by omega)
      by_cases h800 : 800 ≤ nd + e
      ·have h800' : (800 : Int) ≤ (nd : Int) + e := by omega
       go_wp2_with fail
       refine (trim_n w0 _ g d' 800 (dp + e) ng tr' (by exact ((HD2.out.set_nd _).set_nd _).set_dp _) (by omega) (by omega) hd'0).mono ?_
       rintro _ w' ⟨rfl, HD3, hA1, hA2⟩
       go_wp2_with fail
       go_end0
       exact ⟨rfl, d', _, _, tr', HD3, by omega, fun i hi => HI2.out i (by omega) (by omega) (by omega), hd'0, by omega, fun h => hne (by omega), HLS.out _ (by rw [Nat.min_eq_left (by omega)])⟩
      ·have h800' : ¬ (800 : Int) ≤ (nd : Int) + e := by omega
       go_wp2_with fail
       refine (trim_n w0 _ g d' (nd + e) (dp + e) ng tr' (by rw [show ((nd + e : Nat) : Int) = (nd : Int) + e from by omega]; exact (HD2.out.set_nd _).set_dp _) (by omega) (by omega) hd'0).mono ?_
       rintro _ w' ⟨rfl, HD3, hA1, hA2⟩
       go_wp2_with fail
       go_end0
       exact ⟨rfl, d', _, _, tr', HD3, by omega, fun i hi => HI2.out i (by omega) (by omega) (by omega), hd'0, by omega, fun h => hne (by omega), HLS.out _ (by rw [Nat.min_eq_right (by omega)])⟩
     | succ q =>
      have hq8 : q < 800 := by omega
      have hq8' : (q : Int) < 800 := by omega
      have cd := HD2.out.dig q hq8
      have hn1 : 10 ^ q ≤ n := by have := HB2.out (by omega); simpa using this
      have hn2 : n < 10 ^ q * 10 := by have := HB1.out; rwa [Nat.pow_succ] at this
      have hn0 : 0 < n := Nat.lt_of_lt_of_le (Nat.pow_pos (by omega)) hn1
      have hn0' : (0 : Int) < n := by omega
      obtain ⟨Q, hQ⟩ : ∃ Q, Q = n / 10 := ⟨_, rfl⟩
      obtain ⟨Q10, hQ10⟩ : ∃ Q10, Q10 = 10 * Q := ⟨_, rfl⟩
      obtain ⟨R, hR⟩ : ∃ R, R = n % 10 := ⟨_, rfl⟩
      have w3 : IntKind.u64.wrap ((n : Int).tdiv 10) = Q := u64_eq Q (by rw [hQ, Int.tdiv_eq_ediv_of_nonneg (by omega)]; omega) (by omega)
      have w3' : IntKind.u64.wrap ((n : Int) / 10) = Q := u64_eq Q (by omega) (by omega)
      have w4 : IntKind.u64.wrap (10 * (Q : Int)) = Q10 := u64_eq Q10 (by omega) (by omega)
      have w5 : IntKind.u64.wrap ((n : Int) - (Q10 : Int)) = R := u64_eq R (by omega) (by omega)
      have w6 : IntKind.u64.wrap ((R : Int) + 48) = ((R + 48 : Nat) : Int) := u64_eq _ (by omega) (by omega)
      have w7 : IntKind.u8.wrap ((R : Int) + 48) = (R : Int) + 48 := by
       simp only [IntKind.wrap, IntKind.bits, IntKind.signed]
       simp
       omega
      go_wp2_with fail
      go_roundg q
      case measure => omega
      case rel =>
       refine ⟨setD d' q _, tr', n / 10, by omega, congrArg (Value.int .i64) (by omega), congrArg (Value.int .u64) (by omega), ⟨HD2.out.set_d q hq8 _⟩, by omega, ⟨by omega⟩, ⟨fun h => ?_⟩, ⟨fun i h1 h2 h3 => ?_⟩, ⟨fun h _ => ?_⟩, ⟨by omega⟩, ⟨Lp.go HI5.out hn0 (lb_lo rfl (by omega))⟩⟩
       ·have e1 : 10 ^ q = 10 ^ (q - 1) * 10 := by rw [← Nat.pow_succ]; congr 1; omega
        omega
       ·unfold setD
        by_cases e1 : i = q
        ·rw [if_pos e1]; omega
        ·rw [if_neg e1]; exact HI2.out i (by omega) h2 h3
       ·subst h
        simp only [Nat.pow_zero] at hn1 hn2
        unfold setD
        rw [if_pos rfl]
        omega
   | succ q =>
    have cd := HD2.out.dig q (by omega)
    have c3 := HD2.out.ctr
    rw [HI1.out q (by omega)] at cd
    have hdq := hd q (by omega)
    have hq8 : q < 800 := by omega
    have hq8' : (q : Int) < 800 := by omega
    have hcl := HC.out (nd - (q + 1)) (by omega)
    have hi5 := HI5.out
    clear HI5
    have hdq' : dig d' q = dig d q := by unfold dig; rw [HI1.out q (by omega)]
    have HDQ := Aside0.mk hdq'
    clear hdq'
    have hnx : carry k (dig d) nd (nd - q) = (carry k (dig d) nd (nd - (q + 1)) + dig d q * 2 ^ k) / 10 := by
     rw [show nd - q = nd - (q + 1) + 1 by omega]
     simp only [carry]
     rw [show nd - 1 - (nd - (q + 1)) = q by omega]
    have h2k : 2 ^ k ≤ 2 ^ 60 := Nat.pow_le_pow_right (by omega) hk.2
    have h2k2 : 2 ≤ 2 ^ k := by
     have := Nat.pow_le_pow_right (show 0 < 2 by omega) hk.1
     simpa using this
    have hdc : dig d q ≤ 9 := HDD.out q (by omega)
    obtain ⟨Y, hY⟩ : ∃ Y, Y = dig d q * 2 ^ k := ⟨_, rfl⟩
    have hYb : Y ≤ 9 * 2 ^ k := by rw [hY]; exact Nat.mul_le_mul_right _ hdc
    have w1 : IntKind.u64.wrap ((d q - 48) * 2 ^ k) = Y := u64_eq Y (by rw [hY]; unfold dig; push_cast; rw [Int.toNat_of_nonneg (by omega)]) (by omega)
    have hY2 : 2 * dig d q ≤ Y := by rw [hY, Nat.mul_comm 2]; exact Nat.mul_le_mul_left _ h2k2
    rw [← hY] at hnx
    have HNX := Aside0.mk hnx
    generalize carry k (dig d) nd (nd - (q + 1)) = N at hcl hnx hi5 ⊢
    have HI5 := Aside0.mk hi5
    clear hi5
    obtain ⟨X, hX⟩ : ∃ X, X = N + Y := ⟨_, rfl⟩
    rw [← hX] at hnx
    obtain ⟨Q, hQ⟩ : ∃ Q, Q = X / 10 := ⟨_, rfl⟩
    obtain ⟨Q10, hQ10⟩ : ∃ Q10, Q10 = 10 * Q := ⟨_, rfl⟩
    obtain ⟨R, hR⟩ : ∃ R, R = X % 10 := ⟨_, rfl⟩
    have hX64 : X < 18446744073709551616 := by omega
    have w2 : IntKind.u64.wrap ((N : Int) + (Y : Int)) = X := u64_eq X (by omega) (by omega)
    have w3' : IntKind.u64.wrap ((X : Int) / 10) = Q := u64_eq Q (by omega) (by omega)
    have w3 : IntKind.u64.wrap ((X : Int).tdiv 10) = Q := u64_eq Q (by rw [hQ, Int.tdiv_eq_ediv_of_nonneg (by omega)]; omega) (by omega)
    have w4 : IntKind.u64.wrap (10 * (Q : Int)) = Q10 := u64_eq Q10 (by omega) (by omega)
    have w5 : IntKind.u64.wrap ((X : Int) - (Q10 : Int)) = R := u64_eq R (by omega) (by omega)
    have w6 : IntKind.u64.wrap ((R : Int) + 48) = ((R + 48 : Nat) : Int) := u64_eq _ (by omega) (by omega)
    have w7 : IntKind.u8.wrap ((R : Int) + 48) = (R : Int) + 48 := by
     simp only [IntKind.wrap, IntKind.bits, IntKind.signed]
     simp
     omega
    clear h2k h2k2 hdc
    have AY := Aside0.mk (And.intro hY (And.intro hX (And.intro hQ (And.intro hQ10 (And.intro hR (And.intro hY2 (And.intro hnx (And.intro hX64 hYb))))))))
    clear hY hX hQ hQ10 hR hY2 hnx hX64 hYb
    by_cases h8 : q + e < 800
    ·have c8 : (q : Int) + 1 + e - 1 < 800 := by omega
     have ce := HD2.out.dig (q + e) h8
     go_wp2_with fail
     go_roundg q
     case measure => omega
     case rel =>
      obtain ⟨hY, hX, hQ, hQ10, hR, hY2, hnx, hX64, hYb⟩ := AY.out
      have hla := Lp.go (s' := ⟨q, carry k (dig d) nd (nd - q), setD d' (q + e) ((R : Int) + 48), tr'⟩) HI5.out (by simp) (la_lo h8 (by rw [HDQ.out]; exact hY) hX hnx (by rw [hR]))
      clear hY
      refine ⟨setD d' (q + e) _, tr', by omega, congrArg (Value.int .i64) (by omega), congrArg (Value.int .i64) (by omega), ?_, ⟨HD2.out.set_d (q + e) h8 _⟩, ⟨fun i h1 => ?_⟩, ⟨fun i h1 h2 h3 => ?_⟩, ⟨fun h1 h2 => ?_⟩, ⟨hla⟩⟩
      ·rw [HNX.out]; exact congrArg (Value.int .u64) (by have := HNX.out; omega)
      ·unfold setD
       rw [if_neg (by omega)]
       exact HI1.out i (by omega)
      ·unfold setD
       by_cases e1 : i = q + e
       ·rw [if_pos e1]; omega
       ·rw [if_neg e1]; exact HI2.out i (by omega) h2 h3
      ·subst h1
       subst h2
       have hz := HE.out.1
       rw [Nat.sub_zero] at hnx
       have hq0 : Q = 0 := by rw [hQ, ← hnx]; simpa using hz
       have h00 : d 0 = (dig d 0 : Int) + 48 := by unfold dig; rw [Int.toNat_of_nonneg (by omega)]; omega
       unfold setD
       rw [if_pos rfl]
       omega
    ·have c8 : (800 : Int) ≤ (q : Int) + 1 + e - 1 := by omega
     go_wp2_with fail
     all_goals
      go_roundg q
      case measure => omega
      case rel =>
       obtain ⟨hY, hX, hQ, hQ10, hR, hY2, hnx, hX64, hYb⟩ := AY.out
       have hla := fun t ht => Lp.go (s' := ⟨q, carry k (dig d) nd (nd - q), d', t⟩) HI5.out (by simp) (la_hi h8 (by rw [HDQ.out]; exact hY) hX hnx ht)
       rw [← hR] at hla
       clear hY
       refine ⟨d', _, by omega, congrArg (Value.int .i64) (by omega), congrArg (Value.int .i64) (by omega), ?_, ⟨by first | exact HD2.out | exact HD2.out.set_tr _⟩, ⟨fun i h1 => HI1.out i (by omega)⟩, ⟨fun i h1 h2 h3 => HI2.out i (by omega) h2 h3⟩, ⟨by omega⟩, ⟨hla _ (by first | exact .inr ⟨by simp_all; omega, rfl⟩ | exact .inl ⟨by simp_all; omega, rfl⟩)⟩⟩
       rw [HNX.out]; exact congrArg (Value.int .u64) (by have := HNX.out; omega)
set_option maxHeartbeats 4000000
set_option maxRecDepth 4096
structure RS1 where
 r : Nat
 n : Nat
structure RS2 where
 r : Nat
 w : Nat
 n : Nat
 d : Nat → Int
def raF (d : Nat → Int) (nd : Nat) (s : RS1) : RS1 := ⟨s.r + 1, s.n * 10 + if s.r < nd then dig d s.r else 0⟩
def rbF (k : Nat) (s : RS2) : RS2 := ⟨s.r + 1, s.w + 1, s.n % 2 ^ k * 10 + dig s.d s.r, setD s.d s.w ((s.n / 2 ^ k : Nat) + 48)⟩
def rcF (k : Nat) (s : LSt) : LSt := if s.q < 800 then ⟨s.q + 1, s.n % 2 ^ k * 10, setD s.d s.q ((s.n / 2 ^ k : Nat) + 48), s.tr⟩ else ⟨s.q, s.n % 2 ^ k * 10, s.d, if s.n / 2 ^ k = 0 then s.tr else true⟩
def RSr (k : Nat) (X : DV) (s1 : RS1) (X' : DV) : Prop := ∃ (s2 : RS2) (s3 : LSt), Lp (fun s => s.r < X.nd) (rbF k) ⟨s1.r, 0, s1.n, X.d⟩ s2 ∧ Lp (fun s => 0 < s.n) (rcF k) ⟨s2.w, s2.n, s2.d, X.tr⟩ s3 ∧
 X' = ⟨s3.d, trimN s3.d s3.q, X.dp - ((s1.r : Int) - 1), s3.tr⟩
def RS (k : Nat) (X X' : DV) : Prop := ∃ s1 : RS1, Lp (fun s => s.n < 2 ^ k) (raF X.d X.nd) ⟨0, 0⟩ s1 ∧ RSr k X s1 X'
theorem RS.one {k : Nat} {X A B : DV} (h : RS k X A) (h' : RS k X B) : A = B := by
 obtain ⟨s1, a1, s2, s3, a2, a3, rfl⟩ := h
 obtain ⟨t1, b1, t2, t3, b2, b3, rfl⟩ := h'
 obtain rfl := a1.one b1
 obtain rfl := a2.one b2
 obtain rfl := a3.one b3
 rfl
theorem rb_lo {k r w n M D c : Nat} {d : Nat → Int} {x : Int} (hM : M = n % 2 ^ k) (hD : D = n / 2 ^ k) (hc : c = dig d r) (hx : x = (D : Int) + 48) : (⟨r + 1, w + 1, M * 10 + c, setD d w x⟩ : RS2) = rbF k ⟨r, w, n, d⟩ := by
 subst hx hM hD hc
 rfl
theorem rc_lo {k w n M D : Nat} {d : Nat → Int} {tr : Bool} {x : Int} (h8 : w < 800) (hM : M = n % 2 ^ k) (hD : D = n / 2 ^ k) (hx : x = (D : Int) + 48) : (⟨w + 1, M * 10, setD d w x, tr⟩ : LSt) = rcF k ⟨w, n, d, tr⟩ := by
 subst hx hM hD
 simp only [rcF, if_pos h8]
theorem rc_hi {k w n M D : Nat} {d : Nat → Int} {tr t : Bool} (h8 : ¬ w < 800) (hM : M = n % 2 ^ k) (hD : D = n / 2 ^ k) (ht : (D = 0 ∧ t = tr) ∨ (D ≠ 0 ∧ t = true)) : (⟨w, M * 10, d, t⟩ : LSt) = rcF k ⟨w, n, d, tr⟩ := by
 subst hM hD
 rcases ht with ⟨h, rfl⟩ | ⟨h, rfl⟩
 ·simp only [rcF, if_neg h8, if_pos h]
 ·simp only [rcF, if_neg h8, if_neg h]
def RPost (w0 : World) (g : Nat) (d : Nat → Int) (nd : Nat) (dp : Int) (ng tr : Bool) (k : Nat) (e : Ending) (w' : World) : Prop :=
 e = .returned (.tuple #[]) ∧ ∃ (d' : Nat → Int) (nd' : Nat) (dp' : Int) (tr' : Bool), Dec w0 w' g d' nd' dp' ng tr' ∧ (1 ≤ nd' ∧ nd' ≤ 800) ∧ (∀ i, i < nd' → 48 ≤ d' i ∧ d' i ≤ 57) ∧ d' 0 ≠ 48 ∧ (dp - 61 ≤ dp' ∧ dp' ≤ dp) ∧ (dp' = dp → d' 0 + 1 ≤ d 0) ∧ RS k ⟨d, nd, dp, tr⟩ ⟨d', nd', dp', tr'⟩
def tlr : Code → Code
 | .seq _ c => c
 | c => c
noncomputable def rsTail : Code := match Tryz.f206.body with
 | some c => tlr (tlr (tlr (tlr c)))
 | none => .skip
theorem and_mask (n k : Nat) (hn : n < 18446744073709551616) (hk : k ≤ 64) : bits .and .u64 (n : Int) (2 ^ k - 1) = ((n % 2 ^ k : Nat) : Int) := by
 have := bits_mask .u64 64 (by decide) (fun m h0 h1 => by
  have h1' : m < 18446744073709551616 := h1
  simp only [IntKind.wrap, IntKind.bits, IntKind.signed]
  simp
  omega) k hk (n : Int) (by omega) (by show (n : Int) < 18446744073709551616; omega)
 rw [this]; push_cast; rfl
theorem dvd_step (k q nn : Nat) (hq : q ≤ k) (h : 2 ^ (k - q) ∣ nn) : (q = 0 → nn % 2 ^ k * 10 = 0) ∧ 2 ^ (k + 1 - q) ∣ nn % 2 ^ k * 10 := by
 constructor
 rotate_left
 ·have h1 : 2 ^ (k - q) ∣ nn % 2 ^ k := (Nat.dvd_mod_iff (Nat.pow_dvd_pow 2 (Nat.sub_le k q))).mpr h
  rw [show k + 1 - q = (k - q) + 1 by omega, Nat.pow_succ, show (10 : Nat) = 2 * 5 from rfl, ← Nat.mul_assoc]
  exact Nat.dvd_trans (Nat.mul_dvd_mul h1 (Nat.dvd_refl 2)) (Nat.dvd_mul_right _ 5)
 rintro rfl
 rw [Nat.sub_zero] at h
 rw [Nat.mod_eq_zero_of_dvd h, Nat.zero_mul]
theorem rightShift_tail (w0 w : World) (g : Nat) (d : Nat → Int) (nd : Nat) (dp : Int) (ng tr : Bool) (k r n : Nat) (u2 u3 u7 u8 u9 u10 u11 u12 u13 u14 u15 u16 u17 u18 u19 u20 u21 u22 u23 u24 u25 u26 u27 u28 u29 u30 u31 u32 u33 u34 u35 u36 u37 u38 u39 u40 u41 u42 u43 u44 u45 u46 u47 u48 : Value) (H : Dec w0 w g d nd dp ng tr) (hk : 1 ≤ k ∧ k ≤ 60)
  (hn : nd ≤ 800) (hd : ∀ i, i < nd → 48 ≤ d i ∧ d i ≤ 57) (hp : -1000000000 ≤ dp ∧ dp ≤ 1000000000) (hr : 1 ≤ r ∧ r ≤ 61) (h1 : 2 ^ k ≤ n) (h2 : n < 10 * 2 ^ k) (h3 : r = 1 → (n : Int) = d 0 - 48) (hS : Lp (fun s => s.n < 2 ^ k) (raF d nd) ⟨0, 0⟩ ⟨r, n⟩) :
  rsTail.wp Tryz.prog (bodyPost Tryz.prog Tryz.f206 (RPost w0 g d nd dp ng tr k)) ⟨List.toArray [.pointer (some ⟨g, 0, none⟩), .int .u64 (k : Int), u2, u3, .int .i64 (r : Int), .int .i64 0, .int .u64 (n : Int), u7, u8, u9, u10, u11, u12, u13, u14, u15, u16, u17, u18, u19, u20, u21, u22, u23, u24, u25, u26, u27, u28, u29, u30, u31, u32, u33, u34, u35, u36, u37, u38, u39, u40, u41, u42, u43, u44, u45, u46, u47, u48, undef, undef, undef, undef, undef, undef, undef, undef, undef, undef, undef, undef, undef, undef, undef, undef, undef, undef, undef, undef, undef, undef, undef, undef, undef, undef, undef, undef, undef, undef, undef, undef, undef, undef, undef, undef, undef, undef, undef, undef, undef, undef, undef, undef, undef, undef, undef, undef, undef, undef, undef, undef, undef, undef, undef, undef, undef, undef, undef, undef, undef, undef, undef, undef, undef, undef, undef, undef, undef, undef, undef, undef, undef, undef, undef, undef, undef, undef, undef, undef, undef], []⟩ w := by
 have h2k : 2 ^ k ≤ 2 ^ 60 := Nat.pow_le_pow_right (by omega) hk.2
 have h2k2 : 2 ≤ 2 ^ k := by
  have := Nat.pow_le_pow_right (show 0 < 2 by omega) hk.1
  simpa using this
 have hk2 : (k : Int) < 64 := by omega
 have c0 := H.cnd
 have c1 := H.cdp
 have f0 := H.fr
 have HD := Aside0.mk H
 clear H
 have HS := Aside0.mk hS
 clear hS
 have hm1 : IntKind.u64.wrap ((2 : Int) ^ k) = 2 ^ k := by
  have := u64_nat (2 ^ k) (by omega)
  simpa using this
 have hm2 : IntKind.u64.wrap ((2 : Int) ^ k - 1) = 2 ^ k - 1 := by
  have e1 : ((2 : Int) ^ k - 1) = ((2 ^ k - 1 : Nat) : Int) := by
   have : ((2 ^ k : Nat) : Int) = 2 ^ k := by push_cast; rfl
   omega
  rw [e1]; exact u64_nat _ (by omega)
 have hma := fun (m : Nat) (hm : m < 18446744073709551616) => and_mask m k hm (by omega)
 generalize hQ : bodyPost Tryz.prog Tryz.f206 (RPost w0 g d nd dp ng tr k) = Q
 simp only [rsTail, Tryz.f206, tlr]
 subst hQ
 go_wp2_with fail
 have HD1 := Aside0.mk (HD.out.set_dp (dp - ((r : Int) - 1)))
 clear HD c0 c1 f0
 go_loopg [4, 5, 6] (nd - r) (fun kq v4 v5 v6 w' => ∃ (ww nn : Nat) (d' : Nat → Int), v4 = .int .i64 ((r : Int) + ww) ∧ v5 = .int .i64 (ww : Int) ∧ v6 = .int .u64 (nn : Int) ∧ (nd - (r + ww) = kq ∧ (ww = 0 ∨ r + ww ≤ nd)) ∧ Aside0 (nn < 10 * 2 ^ k) ∧ Aside0 (Dec w0 w' g d' nd (dp - ((r : Int) - 1)) ng tr) ∧
  Aside0 (∀ i, i < ww → 48 ≤ d' i ∧ d' i ≤ 57) ∧ Aside0 (∀ i, ww ≤ i → d' i = d i) ∧ Aside0 (ww = 0 → nn = n) ∧ Aside0 (0 < ww → d' 0 = 48 + ((n / 2 ^ k : Nat) : Int)) ∧ Aside0 (∀ t, Lp (fun s => s.r < nd) (rbF k) ⟨r + ww, ww, nn, d'⟩ t → Lp (fun s => s.r < nd) (rbF k) ⟨r, 0, n, d⟩ t))
 case atStart => exact ⟨0, n, d, by simp, rfl, rfl, by omega, ⟨h2⟩, HD1, ⟨by omega⟩, ⟨fun _ _ => rfl⟩, ⟨fun _ => rfl⟩, ⟨by omega⟩, ⟨fun t ht => ht⟩⟩
 clear HD1
 obtain ⟨ww, nn, d', rfl, rfl, rfl, hg, HN, HD2, HI1, HI2, HI3, HI4, HI5⟩ := hrel
 have c0 := HD2.out.cnd
 have f0 := HD2.out.fr
 cases gk with
 | zero =>
  have hge : ¬ ((r : Int) + ww < nd) := by omega
  have hw8 : ww ≤ 800 := by omega
  have HS2 := Aside0.mk (HI5.out _ (.done (show ¬ r + ww < nd by omega)))
  clear HI5
  have HI1' : Aside0 (∀ i, i < ww → 48 ≤ d' i ∧ d' i ≤ 57) := HI1
  go_wp2_with fail
  go_loopg [5, 6] (k + 1) (fun kq v5 v6 w' => ∃ (ww nn : Nat) (d' : Nat → Int) (tr' : Bool), v5 = .int .i64 (ww : Int) ∧ v6 = .int .u64 (nn : Int) ∧ ww ≤ 800 ∧ kq ≤ k + 1 ∧ Aside0 (nn < 10 * 2 ^ k) ∧ Aside0 (Dec w0 w' g d' nd (dp - ((r : Int) - 1)) ng tr') ∧
   Aside0 (∀ i, i < ww → 48 ≤ d' i ∧ d' i ≤ 57) ∧ Aside0 (ww = 0 → nn = n) ∧ Aside0 (0 < ww → d' 0 = 48 + ((n / 2 ^ k : Nat) : Int)) ∧ Aside0 (kq = 0 → nn = 0) ∧ Aside0 (2 ^ (k + 1 - kq) ∣ nn) ∧ Aside0 (∀ t, Lp (fun s => 0 < s.n) (rcF k) ⟨ww, nn, d', tr'⟩ t → RSr k ⟨d, nd, dp, tr⟩ ⟨r, n⟩ ⟨t.d, trimN t.d t.q, dp - ((r : Int) - 1), t.tr⟩))
  case atStart => exact ⟨ww, nn, d', tr, rfl, rfl, hw8, by omega, HN, HD2, HI1, HI3, HI4, ⟨by omega⟩, ⟨by rw [Nat.sub_self]; simp⟩, ⟨fun t ht => ⟨_, t, HS2.out, ht, rfl⟩⟩⟩
  clear c0 f0 HN HD2 HI1' HI1 HI2 HI3 HI4 hw8 hge hg HS2
  obtain ⟨ww, nn, d', tr', rfl, rfl, hw8, hkq, HN, HD2, HI1, HI3, HI4, HZ, HV, HI5⟩ := hrel
  have c0 := HD2.out.cnd
  have c1 := HD2.out.cdp
  have c3 := HD2.out.ctr
  have f0 := HD2.out.fr
  by_cases hz : nn = 0
  ·subst hz
   have hww : 0 < ww := Nat.pos_of_ne_zero fun e => by have := HI3.out e; omega
   have hd0 := HI4.out hww
   have hq1 : 1 ≤ n / 2 ^ k := (Nat.le_div_iff_mul_le (by omega)).mpr (by omega)
   have hd'0 : d' 0 ≠ 48 := by omega
   clear hd0 hq1
   have HR := Aside0.mk (HI5.out _ (.done (by simp)))
   clear HI5
   go_wp2_with fail
   refine (trim_n w0 _ g d' ww (dp - ((r : Int) - 1)) ng tr' (HD2.out.set_nd _) hw8 hww hd'0).mono ?_
   rintro _ w' ⟨rfl, HD3, hA1, hA2⟩
   go_wp2_with fail
   go_end0
   refine ⟨rfl, d', _, _, tr', HD3, by omega, fun i hi => HI1.out i (by omega), hd'0, by omega, fun h => ?_, ⟨_, HS.out, HR.out⟩⟩
   have hr1 : r = 1 := by omega
   have h3' := h3 hr1
   have hd0 := HI4.out hww
   have hlt : n / 2 ^ k < n := Nat.div_lt_self (by omega) (by omega)
   omega
  cases gk with
  | zero => exact absurd (HZ.out rfl) hz
  | succ q =>
   have hn := HN.out
   have hnz : (0 : Int) < nn := by omega
   obtain ⟨M, hM⟩ : ∃ M, M = nn % 2 ^ k := ⟨_, rfl⟩
   obtain ⟨D, hD⟩ : ∃ D, D = nn / 2 ^ k := ⟨_, rfl⟩
   have hM1 : M < 2 ^ k := by rw [hM]; exact Nat.mod_lt _ (by omega)
   have hD1 : D ≤ 9 := by
    have : D < 10 := by rw [hD]; exact (Nat.div_lt_iff_lt_mul (by omega)).mpr hn
    omega
   have e1 : bits .and .u64 (nn : Int) (2 ^ k - 1) = (M : Int) := by rw [hM]; exact hma nn (by omega)
   have e2 : (nn : Int) / 2 ^ k = (D : Int) := by rw [hD]; push_cast; rfl
   have AA := Aside0.mk (And.intro hM hD)
   clear hM hD
   clear hma
   by_cases h8 : ww < 800
   rotate_left
   ·have h8' : ¬ (ww : Int) < 800 := by omega
    go_wp2_with fail
    all_goals
     go_roundg q
     case measure => omega
     case rel =>
      obtain ⟨hM, hD⟩ := AA.out
      obtain ⟨hv1, hv2⟩ := dvd_step k q nn (by omega) (by have := HV.out; rwa [Nat.add_sub_add_right] at this)
      rw [← hM] at hv1 hv2
      have hrc := fun t ht => Lp.go (s' := ⟨ww, M * 10, d', t⟩) HI5.out (show 0 < nn by omega) (rc_hi h8 hM hD ht)
      exact ⟨ww, M * 10, d', _, rfl, rfl, by omega, by omega, ⟨by omega⟩, ⟨by first | exact HD2.out | exact HD2.out.set_tr _⟩, HI1, ⟨by omega⟩, HI4, ⟨hv1⟩, ⟨hv2⟩, ⟨hrc _ (by first | exact .inr ⟨by omega, rfl⟩ | exact .inl ⟨by omega, rfl⟩)⟩⟩
   have h8' : (ww : Int) < 800 := by omega
   have cw := HD2.out.dig ww h8
   go_wp2_with fail
   go_roundg q
   case measure => omega
   obtain ⟨hM, hD⟩ := AA.out
   obtain ⟨hv1, hv2⟩ := dvd_step k q nn (by omega) (by have := HV.out; rwa [Nat.add_sub_add_right] at this)
   rw [← hM] at hv1 hv2
   refine ⟨ww + 1, M * 10, setD d' ww _, tr', rfl, rfl, by omega, by omega, ⟨by omega⟩, ⟨HD2.out.set_d ww h8 _⟩, ⟨fun i hi => ?_⟩, ⟨by omega⟩, ⟨fun _ => ?_⟩, ⟨hv1⟩, ⟨hv2⟩, ⟨Lp.go HI5.out (show 0 < nn by omega) (rc_lo h8 hM hD (by omega))⟩⟩
   ·unfold setD
    by_cases e3 : i = ww
    ·rw [if_pos e3]; omega
    ·rw [if_neg e3]; exact HI1.out i (by omega)
   unfold setD
   by_cases e3 : 0 = ww
   rotate_left
   ·rw [if_neg e3]; exact HI4.out (by omega)
   rw [if_pos e3]
   have hnn := HI3.out e3.symm
   rw [← hnn, ← hD]
   omega
 | succ q =>
  have cd := HD2.out.dig (r + ww) (by omega)
  rw [HI2.out (r + ww) (by omega)] at cd
  have hdr := hd (r + ww) (by omega)
  have cw := HD2.out.dig ww (by omega)
  have hlt : (r : Int) + ww < nd := by omega
  have hlt8 : (r : Int) + ww < 800 := by omega
  have hlt8' : r + ww < 800 := by omega
  have hw8 : ww < 800 := by omega
  have hw8' : (ww : Int) < 800 := by omega
  have hn := HN.out
  obtain ⟨M, hM⟩ : ∃ M, M = nn % 2 ^ k := ⟨_, rfl⟩
  obtain ⟨D, hD⟩ : ∃ D, D = nn / 2 ^ k := ⟨_, rfl⟩
  have hM1 : M < 2 ^ k := by rw [hM]; exact Nat.mod_lt _ (by omega)
  have hD1 : D ≤ 9 := by
   have : D < 10 := by rw [hD]; exact (Nat.div_lt_iff_lt_mul (by omega)).mpr hn
   omega
  have e1 : bits .and .u64 (nn : Int) (2 ^ k - 1) = (M : Int) := by rw [hM]; exact hma nn (by omega)
  have e2 : (nn : Int) / 2 ^ k = (D : Int) := by rw [hD]; push_cast; rfl
  have AA := Aside0.mk (And.intro hM hD)
  clear hM hD
  clear hma
  go_wp2_with fail
  go_roundg q
  case measure => omega
  obtain ⟨hM, hD⟩ := AA.out
  obtain ⟨c, hc⟩ : ∃ c : Nat, d (r + ww) = (c : Int) + 48 := ⟨(d (r + ww) - 48).toNat, by omega⟩
  have hc' : c = dig d' (r + ww) := by unfold dig; rw [HI2.out (r + ww) (by omega)]; omega
  refine ⟨ww + 1, M * 10 + c, setD d' ww _, congrArg (Value.int .i64) (by omega), rfl, congrArg (Value.int .u64) (by omega), by omega, ⟨by omega⟩, ⟨HD2.out.set_d ww hw8 _⟩, ⟨fun i hi => ?_⟩, ⟨fun i hi => ?_⟩, ⟨by omega⟩, ⟨fun _ => ?_⟩, ⟨Lp.go HI5.out (show r + ww < nd by omega) (rb_lo hM hD hc' (by omega))⟩⟩
  ·unfold setD
   by_cases e3 : i = ww
   ·rw [if_pos e3]; omega
   ·rw [if_neg e3]; exact HI1.out i (by omega)
  ·unfold setD
   rw [if_neg (by omega)]; exact HI2.out i (by omega)
  unfold setD
  by_cases e3 : 0 = ww
  rotate_left
  ·rw [if_neg e3]; exact HI4.out (by omega)
  rw [if_pos e3]
  have hnn := HI3.out e3.symm
  rw [← hnn, ← hD]
  omega
set_option maxHeartbeats 4000000
set_option maxRecDepth 4096
theorem ra_lo {d : Nat → Int} {nd r n c : Nat} (h : r < nd) (hc : c = dig d r) : (⟨r + 1, n * 10 + c⟩ : RS1) = raF d nd ⟨r, n⟩ := by
 subst hc
 simp only [raF, if_pos h]
theorem ra_hi {d : Nat → Int} {nd r n : Nat} (h : nd ≤ r) : (⟨r + 1, n * 10⟩ : RS1) = raF d nd ⟨r, n⟩ := by
 simp only [raF, if_neg (Nat.not_lt.mpr h), Nat.add_zero]
theorem rightShift_calls (w0 w : World) (g : Nat) (d : Nat → Int) (nd : Nat) (dp : Int) (ng tr : Bool) (k : Nat) (H : Dec w0 w g d nd dp ng tr) (hk : 1 ≤ k ∧ k ≤ 60)
  (hn : 1 ≤ nd ∧ nd ≤ 800) (hd : ∀ i, i < nd → 48 ≤ d i ∧ d i ≤ 57) (h0 : d 0 ≠ 48) (hp : -1000000000 ≤ dp ∧ dp ≤ 1000000000) :
  Calls Tryz.prog 206 #[.pointer (some ⟨g, 0, none⟩), .int .u64 k] w (RPost w0 g d nd dp ng tr k) := by
 have h2k : 2 ^ k ≤ 2 ^ 60 := Nat.pow_le_pow_right (by omega) hk.2
 have hk2 : (k : Int) < 64 := by omega
 have c0 := H.cnd
 have cd := H.dig
 have hP : ((2 : Int) ^ k) = ((2 ^ k : Nat) : Int) := by push_cast; rfl
 have hP0 : 0 < 2 ^ k := Nat.pow_pos (by omega)
 have HP := Aside0.mk hP
 clear hP
 go_enter Tryz.func206, Tryz.ntmps206
 go_wp2_with fail
 rename_i K aK
 have AK := Aside0.mk aK
 clear aK
 go_loopg [4, 6] 100 (fun kq v4 v6 w' => ∃ r n : Nat, v4 = .int .i64 (r : Int) ∧ v6 = .int .u64 (n : Int) ∧ w = w' ∧ kq + r = 100 ∧ r ≤ 61 ∧ n < 10 * 2 ^ k ∧ (r = 0 → n = 0) ∧ Aside0 (1 ≤ r → 2 ^ (r - 1) ≤ n) ∧ (r = 1 → (n : Int) = d 0 - 48) ∧ Aside0 (∀ t, Lp (fun s => s.n < 2 ^ k) (raF d nd) ⟨r, n⟩ t → Lp (fun s => s.n < 2 ^ k) (raF d nd) ⟨0, 0⟩ t))
 case atStart => exact ⟨0, 0, rfl, rfl, rfl, by omega, by omega, by omega, by omega, ⟨by omega⟩, by omega, ⟨fun _ h => h⟩⟩
 obtain ⟨r, n, rfl, rfl, rfl, hkr, hr61, hn10, hr0, HL, hr1, HI5⟩ := hrel
 by_cases hz : n < 2 ^ k
 rotate_left
 ·have e1 : ¬ (n : Int) / 2 ^ k = 0 := by
   rw [HP.out]
   intro e
   have : n / 2 ^ k = 0 := by omega
   have := (Nat.div_eq_zero_iff).mp this
   omega
  have e1b : ((n : Int) / 2 ^ k == 0) = false := beq_eq_false_iff_ne.mpr e1
  go_wp2_with fail
  refine AK.out _ _ (rightShift_tail w0 w g d nd dp ng tr k r n _ _ _ _ _ _ _ _ _ _ _ _ _ _ _ _ _ _ _ _ _ _ _ _ _ _ _ _ _ _ _ _ _ _ _ _ _ _ _ _ _ _ _ _ H hk hn.2 hd hp ⟨by omega, by omega⟩ (by omega) hn10 hr1 (HI5.out _ (.done (show ¬ n < 2 ^ k from hz))))
 have e1 : (n : Int) / 2 ^ k = 0 := by rw [HP.out]; exact Int.ediv_eq_zero_of_lt (by omega) (by omega)
 have hrk : r ≤ k := by
  by_cases e : r = 0
  ·omega
  have h1 := HL.out (by omega)
  have h2 : 2 ^ (r - 1) < 2 ^ k := Nat.lt_of_le_of_lt h1 hz
  have := (Nat.pow_lt_pow_iff_right (show 1 < 2 by omega)).mp h2
  omega
 by_cases hrn : r < nd
 ·have cr := cd r (by omega)
  have hdr := hd r hrn
  have hrn' : (r : Int) < nd := by omega
  have hr8 : (r : Int) < 800 := by omega
  have hr8' : r < 800 := by omega
  go_wp2_with fail
  go_roundg (gk - 1)
  case measure => omega
  obtain ⟨c, hc⟩ : ∃ c : Nat, d r = (c : Int) + 48 := ⟨(d r - 48).toNat, by omega⟩
  refine ⟨r + 1, n * 10 + c, rfl, congrArg (Value.int .u64) (by omega), rfl, by omega, by omega, by omega, by omega, ⟨fun _ => ?_⟩, fun e => ?_, ⟨Lp.go HI5.out hz (ra_lo hrn (by unfold dig; omega))⟩⟩
  rotate_left
  ·have : r = 0 := by omega
   clear HI5
   subst this
   have := hr0 rfl
   omega
  rw [Nat.add_sub_cancel]
  by_cases e : r = 0
  ·subst e; have := hr0 rfl; simp; omega
  have h1 := HL.out (by omega)
  have : 2 ^ r = 2 ^ (r - 1) * 2 := by rw [← Nat.pow_succ]; congr 1; omega
  omega
 have hrn' : ¬ (r : Int) < nd := by omega
 have hrge : (nd : Int) ≤ r := by omega
 have hn0 : n ≠ 0 := by
  have h1 := HL.out (by omega)
  have : 0 < 2 ^ (r - 1) := Nat.pow_pos (by omega)
  omega
 have hn0' : ¬ (n : Int) = 0 := by omega
 have hn0b : ((n : Int) == 0) = false := beq_eq_false_iff_ne.mpr hn0'
 go_wp2_with fail
 go_loopg [4, 6] gk (fun kq v4 v6 w' => ∃ r n : Nat, v4 = .int .i64 (r : Int) ∧ v6 = .int .u64 (n : Int) ∧ w = w' ∧ kq + r = 100 ∧ r ≤ 61 ∧ n < 10 * 2 ^ k ∧ 1 ≤ r ∧ Aside0 (2 ^ (r - 1) ≤ n) ∧ (r = 1 → (n : Int) = d 0 - 48) ∧ Aside0 (nd ≤ r) ∧ Aside0 (∀ t, Lp (fun s => s.n < 2 ^ k) (raF d nd) ⟨r, n⟩ t → Lp (fun s => s.n < 2 ^ k) (raF d nd) ⟨0, 0⟩ t))
 case atStart => exact ⟨r, n, rfl, rfl, rfl, by omega, by omega, by omega, by omega, ⟨HL.out (by omega)⟩, hr1, ⟨by omega⟩, HI5⟩
 clear e1 hn0b hn0' hn0 hrge hrn' hrn hrk hz hr1 HL hr0 hn10 hr61 hkr HI5
 obtain ⟨r, n, rfl, rfl, rfl, hkr, hr61, hn10, hr0, HL, hr1, HGE, HI5⟩ := hrel
 by_cases hz : n < 2 ^ k
 rotate_left
 ·have e1 : ¬ (n : Int) / 2 ^ k = 0 := by
   rw [HP.out]
   intro e
   have : n / 2 ^ k = 0 := by omega
   have := (Nat.div_eq_zero_iff).mp this
   omega
  have e1b : ((n : Int) / 2 ^ k == 0) = false := beq_eq_false_iff_ne.mpr e1
  have hh := Aside0.mk (And.intro H (And.intro hr1 HL))
  go_wp2_with fail
  refine AK.out _ _ (rightShift_tail w0 w g d nd dp ng tr k r n _ _ _ _ _ _ _ _ _ _ _ _ _ _ _ _ _ _ _ _ _ _ _ _ _ _ _ _ _ _ _ _ _ _ _ _ _ _ _ _ _ _ _ _ H hk hn.2 hd hp ⟨by omega, by omega⟩ (by omega) hn10 hr1 (HI5.out _ (.done (show ¬ n < 2 ^ k from hz))))
 have e1 : (n : Int) / 2 ^ k = 0 := by rw [HP.out]; exact Int.ediv_eq_zero_of_lt (by omega) (by omega)
 have hrk : r ≤ k := by
  have h1 := HL.out
  have h2 : 2 ^ (r - 1) < 2 ^ k := Nat.lt_of_le_of_lt h1 hz
  have := (Nat.pow_lt_pow_iff_right (show 1 < 2 by omega)).mp h2
  omega
 go_wp2_with fail
 go_roundg (gk - 1)
 case measure => omega
 refine ⟨r + 1, n * 10, rfl, congrArg (Value.int .u64) (by omega), rfl, by omega, by omega, by omega, by omega, ⟨?_⟩, by omega, ⟨by have := HGE.out; omega⟩, ⟨Lp.go HI5.out hz (ra_hi HGE.out)⟩⟩
 rw [Nat.add_sub_cancel]
 have h1 := HL.out
 have : 2 ^ r = 2 ^ (r - 1) * 2 := by rw [← Nat.pow_succ]; congr 1; omega
 omega
set_option maxHeartbeats 4000000
theorem shiftL_calls (w0 w : World) (g : Nat) (d : Nat → Int) (nd : Nat) (dp : Int) (ng tr : Bool) (k : Nat) (H : Dec w0 w g d nd dp ng tr) (hT : Cheats w0) (hk : 1 ≤ k ∧ k ≤ 60)
  (hn : 1 ≤ nd ∧ nd ≤ 800) (hd : ∀ i, i < nd → 48 ≤ d i ∧ d i ≤ 57) (h0 : d 0 ≠ 48) (hp : -1000000000 ≤ dp ∧ dp ≤ 1000000000) :
  Calls Tryz.prog 169 #[.pointer (some ⟨g, 0, none⟩), .int .i64 k] w (DPost w0 g d nd dp ng tr k) := by
 have hc := leftShift_calls w0 w g d nd dp ng tr k H hT hk hn hd h0 hp
 have c0 := H.cnd
 clear H hd h0 hT
 have hk1 : (0 : Int) < k := by omega
 have hk2 : ¬ (60 : Int) < k := by omega
 have hnd : ((nd : Int) == 0) = false := beq_eq_false_iff_ne.mpr (by omega)
 have hku : IntKind.u64.wrap (k : Int) = k := u64_nat k (by omega)
 go_enter Tryz.func169, Tryz.ntmps169
 go_wp2_with fail
 go_loopg [1] 0 (fun kq v1 w' => v1 = .int .i64 (k : Int) ∧ w = w')
 case atStart => exact ⟨rfl, rfl⟩
 obtain ⟨rfl, rfl⟩ := hrel
 go_wp2_with fail
 refine hc.mono ?_
 rintro e w' ⟨rfl, hh⟩
 go_wp2_with fail
 go_end0
 exact ⟨rfl, hh⟩
theorem shiftR_calls (w0 w : World) (g : Nat) (d : Nat → Int) (nd : Nat) (dp : Int) (ng tr : Bool) (k : Nat) (H : Dec w0 w g d nd dp ng tr) (hk : 1 ≤ k ∧ k ≤ 60)
  (hn : 1 ≤ nd ∧ nd ≤ 800) (hd : ∀ i, i < nd → 48 ≤ d i ∧ d i ≤ 57) (h0 : d 0 ≠ 48) (hp : -1000000000 ≤ dp ∧ dp ≤ 1000000000) :
  Calls Tryz.prog 169 #[.pointer (some ⟨g, 0, none⟩), .int .i64 (-(k : Int))] w (RPost w0 g d nd dp ng tr k) := by
 have hc := rightShift_calls w0 w g d nd dp ng tr k H hk hn hd h0 hp
 have c0 := H.cnd
 clear H hd h0
 have hk1 : ¬ (0 : Int) < -(k : Int) := by omega
 have hk1' : -(k : Int) < 0 := by omega
 have hk2 : ¬ -(k : Int) < -60 := by omega
 have hnd : ((nd : Int) == 0) = false := beq_eq_false_iff_ne.mpr (by omega)
 have hku : IntKind.u64.wrap (k : Int) = k := u64_nat k (by omega)
 go_enter Tryz.func169, Tryz.ntmps169
 go_wp2_with fail
 go_loopg [1] 0 (fun kq v1 w' => v1 = .int .i64 (-(k : Int)) ∧ w = w')
 case atStart => exact ⟨rfl, rfl⟩
 obtain ⟨rfl, rfl⟩ := hrel
 go_wp2_with fail
 refine hc.mono ?_
 rintro e w' ⟨rfl, hh⟩
 go_wp2_with fail
 go_end0
 exact ⟨rfl, hh⟩
inductive SA : Nat → DV → DV → Prop
 | small {k : Nat} {X X' : DV} : k ≤ 60 → RS k X X' → SA k X X'
 | big {k : Nat} {X X1 X' : DV} : 60 < k → RS 60 X X1 → SA (k - 60) X1 X' → SA k X X'
theorem SA.one {k : Nat} {X A : DV} (h : SA k X A) : ∀ {B : DV}, SA k X B → A = B := by
 induction h with
 | small hk hr =>
  intro B hb
  cases hb with
  | small _ h => exact hr.one h
  | big h _ _ => omega
 | big hk hr _ ih =>
  intro B hb
  cases hb with
  | small h _ => omega
  | big _ h h2 => obtain rfl := hr.one h; exact ih h2
def GPost (w0 : World) (g : Nat) (X : DV) (k : Nat) (lo hi : Int) (ng : Bool) (e : Ending) (w' : World) : Prop :=
 e = .returned (.tuple #[]) ∧ ∃ (d' : Nat → Int) (nd' : Nat) (dp' : Int) (tr' : Bool), Dec w0 w' g d' nd' dp' ng tr' ∧ (1 ≤ nd' ∧ nd' ≤ 800) ∧ (∀ i, i < nd' → 48 ≤ d' i ∧ d' i ≤ 57) ∧ d' 0 ≠ 48 ∧ (lo ≤ dp' ∧ dp' ≤ hi) ∧ SA k X ⟨d', nd', dp', tr'⟩
theorem shiftAny_calls (w0 w : World) (g : Nat) (d : Nat → Int) (nd : Nat) (dp : Int) (ng tr : Bool) (k : Nat) (H : Dec w0 w g d nd dp ng tr) (hk : 1 ≤ k ∧ k ≤ 1000000)
  (hn : 1 ≤ nd ∧ nd ≤ 800) (hd : ∀ i, i < nd → 48 ≤ d i ∧ d i ≤ 57) (h0 : d 0 ≠ 48) (hp : -10000000 ≤ dp ∧ dp ≤ 10000000) :
  Calls Tryz.prog 169 #[.pointer (some ⟨g, 0, none⟩), .int .i64 (-(k : Int))] w (GPost w0 g ⟨d, nd, dp, tr⟩ k (dp - 62 * k) dp ng) := by
 have c0 := H.cnd
 have hk1 : ¬ (0 : Int) < -(k : Int) := by omega
 have hk1' : -(k : Int) < 0 := by omega
 have hnd : ((nd : Int) == 0) = false := beq_eq_false_iff_ne.mpr (by omega)
 have HD := Aside0.mk H
 clear H
 go_enter Tryz.func169, Tryz.ntmps169
 go_wp2_with fail
 go_loopg [1] k (fun kq v1 w' => ∃ (d' : Nat → Int) (nd' : Nat) (dp' : Int) (tr' : Bool), (1 ≤ kq ∧ kq ≤ k) ∧ v1 = .int .i64 (-(kq : Int)) ∧ Aside0 (Dec w0 w' g d' nd' dp' ng tr') ∧ (1 ≤ nd' ∧ nd' ≤ 800) ∧ Aside0 (∀ i, i < nd' → 48 ≤ d' i ∧ d' i ≤ 57) ∧ Aside0 (d' 0 ≠ 48) ∧ (dp - 62 * (k - kq) ≤ dp' ∧ dp' ≤ dp) ∧ Aside0 (∀ X', SA kq ⟨d', nd', dp', tr'⟩ X' → SA k ⟨d, nd, dp, tr⟩ X'))
 case atStart => exact ⟨d, nd, dp, tr, by omega, rfl, HD, hn, ⟨hd⟩, ⟨h0⟩, by omega, ⟨fun _ h => h⟩⟩
 clear HD c0 hnd hd h0
 obtain ⟨d', nd', dp', tr', hkq, rfl, HD2, hn', HI1, HI2, hb, HI5⟩ := hrel
 by_cases h60 : gk ≤ 60
 rotate_left
 ·have hc := rightShift_calls w0 wr g d' nd' dp' ng tr' 60 HD2.out (by omega) hn' HI1.out HI2.out (by omega)
  have hk2 : -(gk : Int) < -60 := by omega
  go_wp2_with fail
  refine hc.mono ?_
  rintro e w' ⟨rfl, d2, nd2, dp2, tr2, H2, hn2, hd2, h02, hb2, _, hR⟩
  go_wp2_with fail
  go_roundg (gk - 60)
  case measure => omega
  case rel => exact ⟨d2, nd2, dp2, tr2, by omega, congrArg (Value.int .i64) (by omega), ⟨H2⟩, hn2, ⟨hd2⟩, ⟨h02⟩, by omega, ⟨fun X' h => HI5.out _ (.big (by omega) hR h)⟩⟩
 have hc := rightShift_calls w0 wr g d' nd' dp' ng tr' gk HD2.out (by omega) hn' HI1.out HI2.out (by omega)
 have hk2 : ¬ -(gk : Int) < -60 := by omega
 have hku : IntKind.u64.wrap (gk : Int) = gk := u64_nat gk (by omega)
 go_wp2_with fail
 refine hc.mono ?_
 rintro e w' ⟨rfl, d2, nd2, dp2, tr2, H2, hn2, hd2, h02, hb2, _, hR⟩
 go_wp2_with fail
 go_end0
 exact ⟨rfl, d2, nd2, dp2, tr2, H2, hn2, hd2, h02, by omega, HI5.out _ (.small h60 hR)⟩
set_option maxHeartbeats 4000000
set_option maxRecDepth 4096
def srU (d : Nat → Int) (nd : Nat) (tr : Bool) (x : Int) : Bool :=
 if x < 0 ∨ (nd : Int) ≤ x then false
 else if d x.toNat = 53 ∧ x + 1 = nd then (if tr = true then true else if x = 0 then false else (d (x.toNat - 1) - 48) % 2 != 0)
 else decide (53 ≤ d x.toNat)
structure RIs where
 i : Nat
 n : Int
def riF (d : Nat → Int) (nd : Nat) (s : RIs) : RIs := ⟨s.i + 1, if s.i < nd then IntKind.u64.wrap (IntKind.u64.wrap (s.n * 10) + (d s.i - 48)) else IntKind.u64.wrap (s.n * 10)⟩
def RI (X : DV) (n : Int) : Prop := (20 < X.dp ∧ n = 18446744073709551615) ∨ (¬ 20 < X.dp ∧ ∃ s, Lp (fun s => (s.i : Int) < X.dp) (riF X.d X.nd) ⟨0, 0⟩ s ∧ n = if srU X.d X.nd X.tr X.dp = true then IntKind.u64.wrap (s.n + 1) else s.n)
theorem RI.one {X : DV} {m n : Int} (h : RI X m) (h' : RI X n) : m = n := by
 rcases h with ⟨h, rfl⟩ | ⟨h, s, a, rfl⟩ <;> rcases h' with ⟨h', rfl⟩ | ⟨h', t, b, rfl⟩
 ·rfl
 ·exact absurd h h'
 ·exact absurd h' h
 ·obtain rfl := a.one b; rfl
theorem sr_neg {d : Nat → Int} {nd : Nat} {tr : Bool} {x : Int} (h : x < 0) : srU d nd tr x = false := by
 unfold srU
 rw [if_pos (Or.inl h)]
theorem sr_ge {d : Nat → Int} {nd : Nat} {tr : Bool} {x : Int} (h : (nd : Int) ≤ x) : srU d nd tr x = false := by
 unfold srU
 rw [if_pos (Or.inr h)]
theorem sr_eq {d : Nat → Int} {nd j : Nat} {tr : Bool} {x : Int} (hx : x = j) (h : j < nd) : srU d nd tr x = if d j = 53 ∧ j + 1 = nd then (if tr = true then true else if j = 0 then false else (d (j - 1) - 48) % 2 != 0) else decide (53 ≤ d j) := by
 subst hx
 unfold srU
 have h1 : ¬ ((j : Int) < 0 ∨ (nd : Int) ≤ (j : Int)) := by omega
 rw [if_neg h1, Int.toNat_natCast]
 by_cases e : d j = 53 ∧ j + 1 = nd
 ·have h2 : d j = 53 ∧ (j : Int) + 1 = nd := ⟨e.1, by omega⟩
  rw [if_pos e, if_pos h2]
  by_cases e0 : j = 0
  ·have h3 : (j : Int) = 0 := by omega
   rw [if_pos e0, if_pos h3]
  ·have h3 : ¬ (j : Int) = 0 := by omega
   rw [if_neg e0, if_neg h3]
 ·have h2 : ¬ (d j = 53 ∧ (j : Int) + 1 = nd) := fun q => e ⟨q.1, by omega⟩
  rw [if_neg e, if_neg h2]
theorem sr_a {d : Nat → Int} {nd j : Nat} {x y : Int} (hx : x = j) (h5 : d j = 53) (hn : (y == (nd : Int)) = true) (hy : y = (j : Int) + 1) : true = srU d nd true x := by
 have hn := eq_of_beq hn
 have h1 : d j = 53 ∧ j + 1 = nd := ⟨h5, by omega⟩
 rw [sr_eq hx (by omega), if_pos h1, if_pos rfl]
theorem sr_b {d : Nat → Int} {nd : Nat} {y : Int} (h5 : d 0 = 53) (hn : (y == (nd : Int)) = true) (hy : y = 1) : false = srU d nd false 0 := by
 have hn := eq_of_beq hn
 have h1 : d 0 = 53 ∧ 0 + 1 = nd := ⟨h5, by omega⟩
 rw [sr_eq (show (0 : Int) = ((0 : Nat) : Int) from rfl) (by omega), if_pos h1]
 rfl
theorem sr_c {d : Nat → Int} {nd i : Nat} {x y : Int} (hx : x = (i + 1 : Nat)) (h5 : d (i + 1) = 53) (hn : (y == (nd : Int)) = true) (hy : y = ((i + 1 : Nat) : Int) + 1) : ((d i - 48) % 2 != 0) = srU d nd false x := by
 have hn := eq_of_beq hn
 have h1 : d (i + 1) = 53 ∧ i + 1 + 1 = nd := ⟨h5, by omega⟩
 rw [sr_eq hx (by omega), if_pos h1]
 rfl
theorem sr_d {d : Nat → Int} {nd j : Nat} {tr : Bool} {x y : Int} (hx : x = j) (hj : j < nd) (h5 : d j = 53) (hn : (y == (nd : Int)) = false) (hy : y = (j : Int) + 1) : true = srU d nd tr x := by
 have hn := beq_eq_false_iff_ne.mp hn
 have h1 : ¬ (d j = 53 ∧ j + 1 = nd) := fun q => hn (by omega)
 rw [sr_eq hx hj, if_neg h1, h5]
 rfl
theorem sr_e {d : Nat → Int} {nd j : Nat} {tr : Bool} {x : Int} (hx : x = j) (hj : j < nd) (h5 : ¬ d j = 53) : decide (53 ≤ d j) = srU d nd tr x := by
 rw [sr_eq hx hj, if_neg (fun q => h5 q.1)]
def ABool (b : Bool) (w : World) (e : Ending) (w' : World) : Prop := e = .returned (.bool b) ∧ w = w'
theorem ABool.of {b c : Bool} {w : World} {e : Ending} (h : e = .returned (.bool c)) (hb : c = b) : ABool b w e w := by
 subst hb
 exact ⟨h, rfl⟩
def AU64 (X : DV) (w : World) (e : Ending) (w' : World) : Prop := ∃ n : Int, e = .returned (.int .u64 n) ∧ w = w' ∧ RI X n
theorem ri_lo {d : Nat → Int} {nd i : Nat} {n m : Int} (h : i < nd) (hm : m = IntKind.u64.wrap (IntKind.u64.wrap (n * 10) + (d i - 48))) : (⟨i + 1, m⟩ : RIs) = riF d nd ⟨i, n⟩ := by
 subst hm
 simp only [riF, if_pos h]
theorem ri_hi {d : Nat → Int} {nd i : Nat} {n m : Int} (h : nd ≤ i) (hm : m = IntKind.u64.wrap (n * 10)) : (⟨i + 1, m⟩ : RIs) = riF d nd ⟨i, n⟩ := by
 subst hm
 simp only [riF, if_neg (Nat.not_lt.mpr h)]
theorem ri_end {b c : Bool} {m n : Int} (h : b = c) (hm : m = if c = true then IntKind.u64.wrap (n + 1) else n) : m = if b = true then IntKind.u64.wrap (n + 1) else n := by rw [h]; exact hm
theorem shouldRoundUp_calls (w0 w : World) (g : Nat) (d : Nat → Int) (nd : Nat) (dp : Int) (ng tr : Bool) (x : Int) (H : Dec w0 w g d nd dp ng tr)
  (hn : nd ≤ 800) (hd : ∀ i, i < nd → 48 ≤ d i ∧ d i ≤ 57) (hx : -1000000000 ≤ x ∧ x ≤ 1000000000) :
  Calls Tryz.prog 207 #[.pointer (some ⟨g, 0, none⟩), .int .i64 x] w (ABool (srU d nd tr x) w) := by
 have c0 := H.cnd
 have c3 := H.ctr
 have cd := H.dig
 clear H
 by_cases h1 : x < 0
 ·have h1' : decide (x < 0) = true := decide_eq_true h1
  go_enter Tryz.func207, Tryz.ntmps207
  go_wp2_with fail
  go_ret
  exact ⟨by rw [sr_neg h1]; rfl, rfl⟩
 by_cases h2 : (nd : Int) ≤ x
 ·go_enter Tryz.func207, Tryz.ntmps207
  go_wp2_with fail
  go_ret
  exact ⟨by rw [sr_ge h2]; rfl, rfl⟩
 obtain ⟨j, rfl⟩ : ∃ j : Nat, x = (j : Int) := ⟨x.toNat, by omega⟩
 have hj8 : j < 800 := by omega
 have hj8' : (j : Int) < 800 := by omega
 have cj := cd j hj8
 have hdj := hd j (by omega)
 by_cases h3 : j = 0
 ·subst h3
  go_enter Tryz.func207, Tryz.ntmps207
  go_wp2_with fail
  all_goals (try go_ret)
  all_goals refine ABool.of rfl ?_
  all_goals first
   | exact sr_a (j := 0) rfl (by assumption) (by assumption) (by omega)
   | exact sr_b (by assumption) (by assumption) (by omega)
   | exact sr_d (j := 0) rfl (by omega) (by assumption) (by assumption) (by omega)
   | exact sr_e (j := 0) rfl (by omega) (by assumption)
 obtain ⟨i, rfl⟩ : ∃ i, j = i + 1 := ⟨j - 1, by omega⟩
 have hi8 : i < 800 := by omega
 have hi8' : (i : Int) < 800 := by omega
 have ci := cd i hi8
 have hdi := hd i (by omega)
 have hi0 : (0 : Int) < (i : Int) + 1 := by omega
 go_enter Tryz.func207, Tryz.ntmps207
 go_wp2_with fail
 all_goals (try go_ret)
 all_goals refine ABool.of rfl ?_
 all_goals first
  | exact sr_a (j := i + 1) (by omega) (by assumption) (by assumption) (by omega)
  | exact sr_c (by omega) (by assumption) (by assumption) (by omega)
  | exact sr_d (j := i + 1) (by omega) (by omega) (by assumption) (by assumption) (by omega)
  | exact sr_e (j := i + 1) (by omega) (by omega) (by assumption)
theorem roundedInteger_calls (w0 w : World) (g : Nat) (d : Nat → Int) (nd : Nat) (dp : Int) (ng tr : Bool) (H : Dec w0 w g d nd dp ng tr)
  (hn : nd ≤ 800) (hd : ∀ i, i < nd → 48 ≤ d i ∧ d i ≤ 57) (hp : -1000000000 ≤ dp ∧ dp ≤ 1000000000) :
  Calls Tryz.prog 242 #[.pointer (some ⟨g, 0, none⟩)] w (AU64 ⟨d, nd, dp, tr⟩ w) := by
 have hr := shouldRoundUp_calls w0 w g d nd dp ng tr dp H hn hd hp
 have c0 := H.cnd
 have c1 := H.cdp
 have cd := H.dig
 clear H
 by_cases h20 : 20 < dp
 ·go_enter Tryz.func242, Tryz.ntmps242
  go_wp2_with fail
  go_ret
  exact ⟨_, rfl, rfl, .inl ⟨h20, rfl⟩⟩
 go_enter Tryz.func242, Tryz.ntmps242
 go_wp2_with fail
 go_loopg [3, 4] nd (fun kq v3 v4 w' => ∃ (i : Nat) (n : Int), v3 = .int .i64 (i : Int) ∧ v4 = .int .u64 n ∧ kq + i = nd ∧ w = w' ∧ Aside0 (∀ t, Lp (fun s => (s.i : Int) < dp) (riF d nd) ⟨i, n⟩ t → Lp (fun s => (s.i : Int) < dp) (riF d nd) ⟨0, 0⟩ t))
 case atStart => exact ⟨0, 0, rfl, rfl, by omega, rfl, ⟨fun _ h => h⟩⟩
 obtain ⟨i, n, rfl, rfl, hk, rfl, HI5⟩ := hrel
 by_cases e1 : (i : Int) < dp
 rotate_left
 ·go_wp2_with fail
  go_loopg [3, 4] (dp - i).toNat (fun kq v3 v4 w' => ∃ (i : Nat) (n : Int), v3 = .int .i64 (i : Int) ∧ v4 = .int .u64 n ∧ (dp - i ≤ kq ∧ i ≤ 801) ∧ w = w' ∧ Aside0 ((i : Int) < dp → nd ≤ i) ∧ Aside0 (∀ t, Lp (fun s => (s.i : Int) < dp) (riF d nd) ⟨i, n⟩ t → Lp (fun s => (s.i : Int) < dp) (riF d nd) ⟨0, 0⟩ t))
  case atStart => exact ⟨i, _, rfl, rfl, by omega, rfl, ⟨by omega⟩, HI5⟩
  clear hk e1 HI5
  obtain ⟨i, n, rfl, rfl, hk, rfl, HG, HI5⟩ := hrel
  by_cases e1 : (i : Int) < dp
  ·go_wp2_with fail
   go_roundg (gk - 1)
   case measure => omega
   case rel => exact ⟨i + 1, _, rfl, rfl, by omega, rfl, ⟨by have := HG.out e1; omega⟩, ⟨Lp.go HI5.out e1 (by first | exact ri_hi (HG.out e1) rfl)⟩⟩
  go_wp2_with fail
  refine hr.mono ?_
  rintro e w' ⟨rfl, rfl⟩
  have hs := HI5.out _ (.done (Int.not_lt.mpr e1))
  go_wp2_with fail
  all_goals go_ret
  all_goals exact ⟨_, rfl, rfl, .inr ⟨Int.not_lt.mpr h20, _, hs, by first | exact ri_end (by assumption) rfl⟩⟩
 by_cases e2 : i < nd
 ·have e2' : (i : Int) < nd := by omega
  have hi8 : i < 800 := by omega
  have hi8' : (i : Int) < 800 := by omega
  have ci := cd i hi8
  have hdi := hd i e2
  go_wp2_with fail
  go_roundg (gk - 1)
  case measure => omega
  case rel => exact ⟨i + 1, _, rfl, rfl, by omega, rfl, ⟨Lp.go HI5.out e1 (by first | exact ri_lo e2 rfl)⟩⟩
 have e2' : ¬ (i : Int) < nd := by omega
 go_wp2_with fail
 go_loopg [3, 4] (dp - i).toNat (fun kq v3 v4 w' => ∃ (i : Nat) (n : Int), v3 = .int .i64 (i : Int) ∧ v4 = .int .u64 n ∧ (dp - i ≤ kq ∧ i ≤ 801) ∧ w = w' ∧ Aside0 ((i : Int) < dp → nd ≤ i) ∧ Aside0 (∀ t, Lp (fun s => (s.i : Int) < dp) (riF d nd) ⟨i, n⟩ t → Lp (fun s => (s.i : Int) < dp) (riF d nd) ⟨0, 0⟩ t))
 case atStart => exact ⟨i, _, rfl, rfl, by omega, rfl, ⟨by omega⟩, HI5⟩
 clear hk e1 e2 e2' HI5
 obtain ⟨i, n, rfl, rfl, hk, rfl, HG, HI5⟩ := hrel
 by_cases e1 : (i : Int) < dp
 ·go_wp2_with fail
  go_roundg (gk - 1)
  case measure => omega
  case rel => exact ⟨i + 1, _, rfl, rfl, by omega, rfl, ⟨by have := HG.out e1; omega⟩, ⟨Lp.go HI5.out e1 (by first | exact ri_hi (HG.out e1) rfl)⟩⟩
 go_wp2_with fail
 refine hr.mono ?_
 rintro e w' ⟨rfl, rfl⟩
 have hs := HI5.out _ (.done (Int.not_lt.mpr e1))
 go_wp2_with fail
 all_goals go_ret
 all_goals exact ⟨_, rfl, rfl, .inr ⟨Int.not_lt.mpr h20, _, hs, by first | exact ri_end (by assumption) rfl⟩⟩
theorem results_tmp7 {fn : Func} {t1 t2 t3 t4 t5 t6 t7 : Tmp} (h : fn.results = #[.tmp t1, .tmp t2, .tmp t3, .tmp t4, .tmp t5, .tmp t6, .tmp t7]) (tmps : Array Value) (P : Program) (w : World) :
  (results fn tmps).run P w = .ok (.tuple #[tmps.getD t1 undef, tmps.getD t2 undef, tmps.getD t3 undef, tmps.getD t4 undef, tmps.getD t5 undef, tmps.getD t6 undef, tmps.getD t7 undef]) w := by
 simp [results, h]
structure NumAt (s : ByteArray) (a b c : Int) : Prop where
 a0 : a = 0 ∨ (a = 1 ∧ bt s 0 = 45)
 ab : a < b
 bc : b ≤ c
 cs : c ≤ s.size
 ints : ∀ i, a ≤ i → i < b → 48 ≤ bt s i ∧ bt s i ≤ 57
 frac : c = b ∨ (bt s b = 46 ∧ b + 1 < c ∧ ∀ i, b + 1 ≤ i → i < c → 48 ≤ bt s i ∧ bt s i ≤ 57)
 ex : c = s.size ∨ ((bt s c = 101 ∨ bt s c = 69) ∧ ∃ d, (d = c + 1 ∨ (d = c + 2 ∧ (bt s (c + 1) = 43 ∨ bt s (c + 1) = 45))) ∧ d < s.size ∧ ∀ i, d ≤ i → i < s.size → 48 ≤ bt s i ∧ bt s i ≤ 57)
theorem lower_x : ∀ x : Int, 0 ≤ x → x ≤ 255 → x ≠ 120 → x ≠ 88 → bits .or .u8 x 32 ≠ 120 := by
 intro x h0 h1 h2 h3
 obtain ⟨n, rfl⟩ : ∃ n : Nat, x = (n : Int) := ⟨x.toNat, by omega⟩
 have : ∀ n : Nat, n < 256 → n ≠ 120 → n ≠ 88 → bits .or .u8 (n : Int) 32 ≠ 120 := by decide +kernel
 exact this n (by omega) (by omega) (by omega)
theorem wrapu64 (x : Int) : 0 ≤ IntKind.u64.wrap x ∧ IntKind.u64.wrap x < 18446744073709551616 := by
 simp only [IntKind.wrap, IntKind.bits, IntKind.signed]
 simp
 omega
def tl : Code → Code
 | .seq _ c => c
 | c => c
def unscope : Code → Code
 | .scope c => c
 | c => c
noncomputable def rfTail : Code := match Tryz.f216.body with
 | some c => tl (tl (tl (tl (tl (tl (tl (tl (tl (tl (tl (tl (tl (unscope (tl c))))))))))))))
 | none => .skip
set_option maxHeartbeats 8000000
set_option maxRecDepth 8192
def jumpQ (P : Program) (c : Code) (Q : Exit → Act → World → Prop) : Nat → Exit → Act → World → Prop
 | 0, e, a, w => Exit.noGoto Q e a w
 | n + 1, .goto l, a, w => ∃ rest, findLabel c l = some rest ∧ rest.wp P (jumpQ P c Q n) a w
 | _ + 1, e, a, w => Q e a w
section
variable {P : Program} {a : Act} {w : World} {Q : Exit → Act → World → Prop}
theorem wp_scope_fwd {c : Code} (n : Nat) (first : c.wp P (jumpQ P c Q n) a w) : (Code.scope c).wp P Q a w := by
 intro b k cs
 have key : ∀ n (x : Code) a w, x.wp P (jumpQ P c Q n) a w → ∃ e a' w', Q e a' w' ∧ Arrives P (lone (b.at a (.code x :: .inScope c :: k)) cs w) b k cs e a' w' := by
  intro n
  induction n with
  | zero =>
   intro x a w hx
   obtain ⟨e, a₁, w₁, hq, harr⟩ := hx b (.inScope c :: k) cs
   cases e with
   | normal => exact ⟨.normal, a₁, w₁, hq, Steps.trans harr (.one step_inScope)⟩
   | exit id => exact ⟨.exit id, a₁, w₁, hq, fun k' hk => harr k' (by simp [exitTo, hk])⟩
   | goto l' => exact hq.elim
   | ret => exact ⟨_, a₁, w₁, hq, harr⟩
   | panic ch => exact ⟨_, a₁, w₁, hq, harr⟩
   | outgrown => exact ⟨_, a₁, w₁, hq, harr⟩
  | succ n ih =>
   intro x a w hx
   obtain ⟨e, a₁, w₁, hq, harr⟩ := hx b (.inScope c :: k) cs
   cases e with
   | normal => exact ⟨.normal, a₁, w₁, hq, Steps.trans harr (.one step_inScope)⟩
   | exit id => exact ⟨.exit id, a₁, w₁, hq, fun k' hk => harr k' (by simp [exitTo, hk])⟩
   | goto l' =>
    obtain ⟨rest, hf, hr⟩ := hq
    have hg : gotoIn l' (.inScope c :: k) = some (.code rest :: .inScope c :: k) := by simp [gotoIn, hf]
    obtain ⟨e₂, a₂, w₂, hq₂, harr₂⟩ := ih rest a₁ w₁ hr
    exact ⟨e₂, a₂, w₂, hq₂, .of_steps (harr _ hg) harr₂⟩
   | ret => exact ⟨_, a₁, w₁, hq, harr⟩
   | panic ch => exact ⟨_, a₁, w₁, hq, harr⟩
   | outgrown => exact ⟨_, a₁, w₁, hq, harr⟩
 obtain ⟨e, a', w', hq, harr⟩ := key n c a w first
 exact ⟨e, a', w', hq, .of_steps (.one step_scope) harr⟩
end
def unsc : Code → Code
 | .scope c => c
 | c => c
noncomputable def fbBody : Code := match Tryz.f223.body with
 | some c => unsc (tlr c)
 | none => .skip
noncomputable def fbOut : Code := (findLabel fbBody 0).getD .skip
noncomputable def fbOver : Code := (findLabel fbBody 1).getD .skip
def FBPost (w0 : World) (R : Int × Bool → Prop) (e : Ending) (w' : World) : Prop := ∃ (x : Int) (b : Bool), e = .returned (.tuple #[.int .u64 x, .bool b]) ∧ Below w0.heap.size w0 w' ∧ R (x, b)
def outV (ex mt : Int) (ng : Bool) : Int :=
 if ng = true then bits .or .u64 (bits .or .u64 (bits .and .u64 mt 4503599627370495) (IntKind.u64.wrap (IntKind.u64.wrap (bits .and .i64 (wrap64 (ex + 1023)) 2047) * 4503599627370496))) 9223372036854775808
 else bits .or .u64 (bits .and .u64 mt 4503599627370495) (IntKind.u64.wrap (IntKind.u64.wrap (bits .and .i64 (wrap64 (ex + 1023)) 2047) * 4503599627370496))
def overV (ng : Bool) : Int :=
 if ng = true then bits .or .u64 (bits .or .u64 (bits .and .u64 0 4503599627370495) (IntKind.u64.wrap (IntKind.u64.wrap (bits .and .i64 2047 2047) * 4503599627370496))) 9223372036854775808
 else bits .or .u64 (bits .and .u64 0 4503599627370495) (IntKind.u64.wrap (IntKind.u64.wrap (bits .and .i64 2047 2047) * 4503599627370496))
structure FI (w : World) : Prop where
 a : w.cell? ⟨6, 0, none⟩ = some (.int .u64 52)
 b : w.cell? ⟨6, 1, none⟩ = some (.int .u64 11)
 c : w.cell? ⟨6, 2, none⟩ = some (.int .i64 (-1023))
theorem out_eq {R : Int × Bool → Prop} {x y : Int} {b c : Bool} (hb : b = c) (h : R (y, c)) (e : x = y) : R (x, b) := by
 subst hb e
 exact h
theorem fbOut_wp (w0 w : World) (g : Nat) (d : Nat → Int) (nd : Nat) (dp : Int) (ng tr : Bool) (ov : Bool) (ex mt : Int) (R : Int × Bool → Prop) (Q : Exit → Act → World → Prop) (hq : ∀ a w, bodyPost Tryz.prog Tryz.f223 (FBPost w0 R) .ret a w → Q .ret a w) (u2 u3 u4 u8 u9 u10 u11 u12 u13 u14 u15 u16 u17 u18 u19 u20 u21 u22 u23 u24 u25 u26 u27 u28 u29 u30 u31 u32 u33 u34 u35 u36 u37 u38 u39 u40 u41 u42 u43 u44 u45 u46 u47 u48 u49 u50 u51 u52 u53 u54 u55 u56 u57 u58 u59 u60 u61 u62 u63 u64 u65 u66 u67 u68 u69 u70 u71 u72 u73 u74 u75 u76 u77 u78 u79 u80 u81 u82 u83 u84 u85 u86 u87 u88 u89 u90 u91 u92 u93 u94 u95 u96 u97 u98 u99 u100 u101 u102 u103 u104 u105 u106 u107 u108 u109 u110 u111 u112 u113 u114 u115 u116 u117 u118 u119 u120 u121 u122 u123 u124 u125 u126 u127 u128 u129 u130 u131 u132 u133 u134 u135 u136 u137 u138 u139 u140 u141 u142 u143 u144 u145 u146 u147 u148 u149 u150 u151 u152 u153 u154 u155 u156 u157 u158 u159 u160 u161 u162 u163 u164 u165 u166 u167 u168 u169 u170 u171 u172 u173 u174 u175 u176 u177 u178 u179 u180 u181 u182 u183 u184 u185 u186 u187 u188 u189 u190 u191 u192 u193 u194 u195 : Value) (H : Dec w0 w g d nd dp ng tr) (hF : FI w0) (hR : R (outV ex mt ng, ov)) :
  fbOut.wp Tryz.prog Q ⟨List.toArray [.pointer (some ⟨g, 0, none⟩), .pointer (some ⟨6, 0, none⟩), u2, u3, u4, .bool ov, .int .i64 ex, .int .u64 mt, u8, u9, u10, u11, u12, u13, u14, u15, u16, u17, u18, u19, u20, u21, u22, u23, u24, u25, u26, u27, u28, u29, u30, u31, u32, u33, u34, u35, u36, u37, u38, u39, u40, u41, u42, u43, u44, u45, u46, u47, u48, u49, u50, u51, u52, u53, u54, u55, u56, u57, u58, u59, u60, u61, u62, u63, u64, u65, u66, u67, u68, u69, u70, u71, u72, u73, u74, u75, u76, u77, u78, u79, u80, u81, u82, u83, u84, u85, u86, u87, u88, u89, u90, u91, u92, u93, u94, u95, u96, u97, u98, u99, u100, u101, u102, u103, u104, u105, u106, u107, u108, u109, u110, u111, u112, u113, u114, u115, u116, u117, u118, u119, u120, u121, u122, u123, u124, u125, u126, u127, u128, u129, u130, u131, u132, u133, u134, u135, u136, u137, u138, u139, u140, u141, u142, u143, u144, u145, u146, u147, u148, u149, u150, u151, u152, u153, u154, u155, u156, u157, u158, u159, u160, u161, u162, u163, u164, u165, u166, u167, u168, u169, u170, u171, u172, u173, u174, u175, u176, u177, u178, u179, u180, u181, u182, u183, u184, u185, u186, u187, u188, u189, u190, u191, u192, u193, u194, u195, undef, undef, undef, undef, undef, undef, undef, undef, undef, undef, undef, undef, undef, undef, undef, undef, undef, undef, undef, undef, undef, undef, undef, undef, undef, undef, undef, undef, undef, undef, undef, undef, undef, undef, undef, undef, undef, undef, undef, undef, undef, undef, undef, undef, undef, undef, undef], []⟩ w := by
 have c2 := H.cng
 have b1 := pw_cell_below H.be hF.a
 have b2 := pw_cell_below H.be hF.b
 have b3 := pw_cell_below H.be hF.c
 have HD := Aside0.mk H
 clear H hF
 have hQ := Aside0.mk hq
 clear hq
 have HR := Aside0.mk hR
 clear hR
 simp only [fbOut, fbBody, Tryz.f223, tlr, unsc, findLabel, Nat.reduceBEq, Bool.false_eq_true, ↓reduceIte, Option.getD_some, beq_self_eq_true]
 go_wp2_with fail
 repeat (go_quiet (fail); try (go_wp2_with fail))
 all_goals refine hQ.out _ _ ?_
 all_goals go_ret2
 all_goals refine ⟨_, _, rfl, by repeat (first | exact HD.out.be | apply pw_below_drewN), ?_⟩
 all_goals (refine out_eq rfl HR.out ?_; first | exact (if_pos (by assumption)).symm | exact (if_neg (by simp_all)).symm)
theorem fbOver_wp (w0 w : World) (g : Nat) (d : Nat → Int) (nd : Nat) (dp : Int) (ng tr : Bool) (R : Int × Bool → Prop) (Q : Exit → Act → World → Prop) (hq : ∀ a w, bodyPost Tryz.prog Tryz.f223 (FBPost w0 R) .ret a w → Q .ret a w) (u2 u3 u4 u5 u6 u7 u8 u9 u10 u11 u12 u13 u14 u15 u16 u17 u18 u19 u20 u21 u22 u23 u24 u25 u26 u27 u28 u29 u30 u31 u32 u33 u34 u35 u36 u37 u38 u39 u40 u41 u42 u43 u44 u45 u46 u47 u48 u49 u50 u51 u52 u53 u54 u55 u56 u57 u58 u59 u60 u61 u62 u63 u64 u65 u66 u67 u68 u69 u70 u71 u72 u73 u74 u75 u76 u77 u78 u79 u80 u81 u82 u83 u84 u85 u86 u87 u88 u89 u90 u91 u92 u93 u94 u95 u96 u97 u98 u99 u100 u101 u102 u103 u104 u105 u106 u107 u108 u109 u110 u111 u112 u113 u114 u115 u116 u117 u118 u119 u120 u121 u122 u123 u124 u125 u126 u127 u128 u129 u130 u131 u132 u133 u134 u135 u136 u137 u138 u139 u140 u141 u142 u143 u144 u145 u146 u147 u148 u149 u150 u151 u152 u153 u154 u155 u156 u157 u158 u159 u160 u161 u162 u163 u164 u165 u166 u167 u168 u169 u170 u171 u172 u173 u174 u175 u176 u177 u178 u179 u180 u181 u182 u183 u184 : Value) (H : Dec w0 w g d nd dp ng tr) (hF : FI w0) (hR : R (overV ng, true)) :
  fbOver.wp Tryz.prog Q ⟨List.toArray [.pointer (some ⟨g, 0, none⟩), .pointer (some ⟨6, 0, none⟩), u2, u3, u4, u5, u6, u7, u8, u9, u10, u11, u12, u13, u14, u15, u16, u17, u18, u19, u20, u21, u22, u23, u24, u25, u26, u27, u28, u29, u30, u31, u32, u33, u34, u35, u36, u37, u38, u39, u40, u41, u42, u43, u44, u45, u46, u47, u48, u49, u50, u51, u52, u53, u54, u55, u56, u57, u58, u59, u60, u61, u62, u63, u64, u65, u66, u67, u68, u69, u70, u71, u72, u73, u74, u75, u76, u77, u78, u79, u80, u81, u82, u83, u84, u85, u86, u87, u88, u89, u90, u91, u92, u93, u94, u95, u96, u97, u98, u99, u100, u101, u102, u103, u104, u105, u106, u107, u108, u109, u110, u111, u112, u113, u114, u115, u116, u117, u118, u119, u120, u121, u122, u123, u124, u125, u126, u127, u128, u129, u130, u131, u132, u133, u134, u135, u136, u137, u138, u139, u140, u141, u142, u143, u144, u145, u146, u147, u148, u149, u150, u151, u152, u153, u154, u155, u156, u157, u158, u159, u160, u161, u162, u163, u164, u165, u166, u167, u168, u169, u170, u171, u172, u173, u174, u175, u176, u177, u178, u179, u180, u181, u182, u183, u184, undef, undef, undef, undef, undef, undef, undef, undef, undef, undef, undef, undef, undef, undef, undef, undef, undef, undef, undef, undef, undef, undef, undef, undef, undef, undef, undef, undef, undef, undef, undef, undef, undef, undef, undef, undef, undef, undef, undef, undef, undef, undef, undef, undef, undef, undef, undef, undef, undef, undef, undef, undef, undef, undef, undef, undef, undef, undef], []⟩ w := by
 have c2 := H.cng
 have b1 := pw_cell_below H.be hF.a
 have b2 := pw_cell_below H.be hF.b
 have b3 := pw_cell_below H.be hF.c
 have HD := Aside0.mk H
 clear H hF
 have hQ := Aside0.mk hq
 clear hq
 have HR := Aside0.mk hR
 clear hR
 simp only [fbOver, fbBody, Tryz.f223, tlr, unsc, findLabel, Nat.reduceBEq, Bool.false_eq_true, ↓reduceIte, Option.getD_some, beq_self_eq_true]
 go_wp2_with fail
 repeat (go_quiet (fail); try (go_wp2_with fail))
 all_goals go_step3
 all_goals go_wp2_with fail
 all_goals (repeat (go_quiet (fail); try (go_wp2_with fail)))
 all_goals refine hQ.out _ _ ?_
 all_goals go_ret2
 all_goals refine ⟨_, _, rfl, by repeat (first | exact HD.out.be | apply pw_below_drewN), ?_⟩
 all_goals (refine out_eq rfl HR.out ?_; first | exact (if_pos (by assumption)).symm | exact (if_neg (by simp_all)).symm)
def powtabL : List Int := [1, 3, 6, 9, 13, 16, 19, 23, 26]
def pwN (x : Int) : Nat := if 9 ≤ x then 27 else (powtabL.getD x.toNat 0).toNat
def fbEnd (ng : Bool) (ex m : Int) : Int × Bool := if bits .and .u64 m 4503599627370496 = 0 then (outV (-1023) m ng, false) else (outV ex m ng, false)
def FB5 (ng : Bool) (ex m : Int) : Int × Bool := if m = 9007199254740992 then (if 1024 ≤ ex + 1 then (overV ng, true) else fbEnd ng (ex + 1) (m / 2)) else fbEnd ng ex m
def FB4 (ng : Bool) (X : DV) (ex : Int) (o : Int × Bool) : Prop := (1024 ≤ ex ∧ o = (overV ng, true)) ∨ (ex < 1024 ∧ ∃ X' m, LS 53 X X' ∧ RI X' m ∧ o = FB5 ng ex m)
def FB3 (ng : Bool) (X : DV) (ex : Int) (o : Int × Bool) : Prop := (ex - 1 < -1022 ∧ ∃ X', SA (-1022 - (ex - 1)).toNat X X' ∧ FB4 ng X' (-1022) o) ∨ (¬ ex - 1 < -1022 ∧ FB4 ng X (ex - 1) o)
inductive FB2 (ng : Bool) : DV → Int → Int × Bool → Prop
 | step {X X' : DV} {ex : Int} {o : Int × Bool} : (X.dp < 0 ∨ X.dp = 0 ∧ X.d 0 < 53) → LS (pwN (-X.dp)) X X' → FB2 ng X' (ex - pwN (-X.dp)) o → FB2 ng X ex o
 | done {X : DV} {ex : Int} {o : Int × Bool} : ¬ (X.dp < 0 ∨ X.dp = 0 ∧ X.d 0 < 53) → FB3 ng X ex o → FB2 ng X ex o
inductive FB1 (ng : Bool) : DV → Int → Int × Bool → Prop
 | step {X X' : DV} {ex : Int} {o : Int × Bool} : 0 < X.dp → RS (pwN X.dp) X X' → FB1 ng X' (ex + pwN X.dp) o → FB1 ng X ex o
 | done {X : DV} {ex : Int} {o : Int × Bool} : ¬ 0 < X.dp → FB2 ng X ex o → FB1 ng X ex o
def FB (ng : Bool) (X : DV) (o : Int × Bool) : Prop := if X.nd = 0 then o = (outV (-1023) 0 ng, false) else if 310 < X.dp then o = (overV ng, true) else if X.dp < -330 then o = (outV (-1023) 0 ng, false) else FB1 ng X 0 o
theorem FB4.one {ng : Bool} {X : DV} {ex : Int} {o u : Int × Bool} (h : FB4 ng X ex o) (h' : FB4 ng X ex u) : o = u := by
 rcases h with ⟨h, rfl⟩ | ⟨h, A, m, a1, a2, rfl⟩ <;> rcases h' with ⟨h', rfl⟩ | ⟨h', B, n, b1, b2, rfl⟩
 ·rfl
 ·omega
 ·omega
 ·obtain rfl := a1.one b1
  obtain rfl := a2.one b2
  rfl
theorem FB3.one {ng : Bool} {X : DV} {ex : Int} {o u : Int × Bool} (h : FB3 ng X ex o) (h' : FB3 ng X ex u) : o = u := by
 rcases h with ⟨h, A, a1, a2⟩ | ⟨h, a2⟩ <;> rcases h' with ⟨h', B, b1, b2⟩ | ⟨h', b2⟩
 ·obtain rfl := a1.one b1
  exact a2.one b2
 ·omega
 ·omega
 ·exact a2.one b2
theorem FB2.one {ng : Bool} {X : DV} {ex : Int} {o : Int × Bool} (h : FB2 ng X ex o) : ∀ {u : Int × Bool}, FB2 ng X ex u → o = u := by
 induction h with
 | step hc hs _ ih =>
  intro u hu
  cases hu with
  | step _ h h2 => obtain rfl := hs.one h; exact ih h2
  | done h _ => exact absurd hc h
 | done hc hs =>
  intro u hu
  cases hu with
  | step h _ _ => exact absurd h hc
  | done _ h => exact hs.one h
theorem FB1.one {ng : Bool} {X : DV} {ex : Int} {o : Int × Bool} (h : FB1 ng X ex o) : ∀ {u : Int × Bool}, FB1 ng X ex u → o = u := by
 induction h with
 | step hc hs _ ih =>
  intro u hu
  cases hu with
  | step _ h h2 => obtain rfl := hs.one h; exact ih h2
  | done h _ => exact absurd hc h
 | done hc hs =>
  intro u hu
  cases hu with
  | step h _ _ => exact absurd h hc
  | done _ h => exact hs.one h
theorem FB.one {ng : Bool} {X : DV} {o u : Int × Bool} (h : FB ng X o) (h' : FB ng X u) : o = u := by
 unfold FB at h h'
 split at h
 ·rename_i e; rw [if_pos e] at h'; exact h.trans h'.symm
 rename_i e; rw [if_neg e] at h'
 split at h
 ·rename_i e; rw [if_pos e] at h'; exact h.trans h'.symm
 rename_i e; rw [if_neg e] at h'
 split at h
 ·rename_i e; rw [if_pos e] at h'; exact h.trans h'.symm
 rename_i e; rw [if_neg e] at h'
 exact h.one h'
def PowTab (w : World) : Prop := ∃ (a : Addr) (c : Nat), w.cell? ⟨10, 0, none⟩ = some (.slice (some a) 9 c) ∧ (∀ i, i < 9 → w.cell? (a.add i) = some (.int .i64 (powtabL.getD i 0))) ∧ w.cell? a = some (.int .i64 1)
theorem powtab_k0 (i : Nat) (h : i < 9) : ∃ k : Nat, powtabL.getD i 0 = (k : Int) ∧ 1 ≤ k ∧ k ≤ 26 := by
 have : ∀ i : Nat, i < 9 → ∃ k : Nat, k < 27 ∧ powtabL.getD i 0 = (k : Int) ∧ 1 ≤ k ∧ k ≤ 26 := by decide
 obtain ⟨k, _, h1, h2⟩ := this i h
 exact ⟨k, h1, h2⟩
theorem pw_hi {x : Int} (h : 9 ≤ x) : pwN x = 27 := if_pos h
theorem pw_lo {j k : Nat} (h : j < 9) (hk : powtabL.getD j 0 = (k : Int)) : pwN (j : Int) = k := by
 have h1 : ¬ (9 : Int) ≤ (j : Int) := by omega
 unfold pwN
 rw [if_neg h1, Int.toNat_natCast, hk, Int.toNat_natCast]
theorem powtab_k (i : Nat) (h0 : 1 ≤ i) (h : i < 9) : ∃ k : Nat, powtabL.getD i 0 = (k : Int) ∧ 1 ≤ k ∧ k ≤ 26 := by
 have : ∀ i : Nat, i < 9 → ∃ k : Nat, k < 27 ∧ powtabL.getD i 0 = (k : Int) ∧ 1 ≤ k ∧ k ≤ 26 := by decide
 obtain ⟨k, _, h1, h2⟩ := this i h
 exact ⟨k, h1, h2⟩
theorem FB.z0 {ng : Bool} {d : Nat → Int} {nd : Nat} {dp : Int} {tr : Bool} (h : nd = 0) : FB ng ⟨d, nd, dp, tr⟩ (outV (-1023) 0 ng, false) := by
 unfold FB
 rw [if_pos h]
theorem FB.hi {ng : Bool} {d : Nat → Int} {nd : Nat} {dp : Int} {tr : Bool} (h0 : ¬ nd = 0) (h : 310 < dp) : FB ng ⟨d, nd, dp, tr⟩ (overV ng, true) := by
 unfold FB
 rw [if_neg h0, if_pos h]
theorem FB.lo {ng : Bool} {d : Nat → Int} {nd : Nat} {dp : Int} {tr : Bool} (h0 : ¬ nd = 0) (h1 : ¬ 310 < dp) (h : dp < -330) : FB ng ⟨d, nd, dp, tr⟩ (outV (-1023) 0 ng, false) := by
 unfold FB
 rw [if_neg h0, if_neg h1, if_pos h]
theorem FB.go {ng : Bool} {d : Nat → Int} {nd : Nat} {dp : Int} {tr : Bool} {o : Int × Bool} (h0 : ¬ nd = 0) (h1 : ¬ 310 < dp) (h2 : ¬ dp < -330) (h : FB1 ng ⟨d, nd, dp, tr⟩ 0 o) : FB ng ⟨d, nd, dp, tr⟩ o := by
 unfold FB
 rw [if_neg h0, if_neg h1, if_neg h2]
 exact h
theorem fb_a {ng : Bool} {R : Int × Bool → Prop} {X X' : DV} {b m : Int} (hR : ∀ o, FB4 ng X b o → R o) (hb : b < 1024) (hL : LS 53 X X') (hI : RI X' m) (hm : (m == 9007199254740992) = true) (ho : 1024 ≤ b + 1) : R (overV ng, true) :=
 hR _ (.inr ⟨hb, X', m, hL, hI, by unfold FB5; rw [if_pos (eq_of_beq hm), if_pos ho]⟩)
theorem fb_b {ng : Bool} {R : Int × Bool → Prop} {X X' : DV} {b m e n : Int} (hR : ∀ o, FB4 ng X b o → R o) (hb : b < 1024) (hL : LS 53 X X') (hI : RI X' m) (hm : (m == 9007199254740992) = true) (ho : b + 1 < 1024) (hz : (bits .and .u64 n 4503599627370496 == 0) = true) (hn : n = m / 2) (he : e = -1023) : R (outV e n ng, false) := by
 subst hn he
 exact hR _ (.inr ⟨hb, X', m, hL, hI, by unfold FB5 fbEnd; rw [if_pos (eq_of_beq hm), if_neg (Int.not_le.mpr ho), if_pos (eq_of_beq hz)]⟩)
theorem fb_c {ng : Bool} {R : Int × Bool → Prop} {X X' : DV} {b m e n : Int} (hR : ∀ o, FB4 ng X b o → R o) (hb : b < 1024) (hL : LS 53 X X') (hI : RI X' m) (hm : (m == 9007199254740992) = true) (ho : b + 1 < 1024) (hz : (bits .and .u64 n 4503599627370496 == 0) = false) (hn : n = m / 2) (he : e = b + 1) : R (outV e n ng, false) := by
 subst hn he
 exact hR _ (.inr ⟨hb, X', m, hL, hI, by unfold FB5 fbEnd; rw [if_pos (eq_of_beq hm), if_neg (Int.not_le.mpr ho), if_neg (beq_eq_false_iff_ne.mp hz)]⟩)
theorem fb_d {ng : Bool} {R : Int × Bool → Prop} {X X' : DV} {b m e n : Int} (hR : ∀ o, FB4 ng X b o → R o) (hb : b < 1024) (hL : LS 53 X X') (hI : RI X' m) (hm : (m == 9007199254740992) = false) (hz : (bits .and .u64 n 4503599627370496 == 0) = true) (hn : n = m) (he : e = -1023) : R (outV e n ng, false) := by
 subst hn he
 exact hR _ (.inr ⟨hb, X', n, hL, hI, by unfold FB5 fbEnd; rw [if_neg (beq_eq_false_iff_ne.mp hm), if_pos (eq_of_beq hz)]⟩)
theorem fb_e {ng : Bool} {R : Int × Bool → Prop} {X X' : DV} {b m e n : Int} (hR : ∀ o, FB4 ng X b o → R o) (hb : b < 1024) (hL : LS 53 X X') (hI : RI X' m) (hm : (m == 9007199254740992) = false) (hz : (bits .and .u64 n 4503599627370496 == 0) = false) (hn : n = m) (he : e = b) : R (outV e n ng, false) := by
 subst hn he
 exact hR _ (.inr ⟨hb, X', n, hL, hI, by unfold FB5 fbEnd; rw [if_neg (beq_eq_false_iff_ne.mp hm), if_neg (beq_eq_false_iff_ne.mp hz)]⟩)
theorem fbMain_wp (w0 w : World) (g : Nat) (d : Nat → Int) (nd : Nat) (dp : Int) (ng tr : Bool) (H : Dec w0 w g d nd dp ng tr) (hF : FI w0) (hT : Cheats w0) (hP : PowTab w0)
  (hn : nd ≤ 800) (hd : ∀ i, i < nd → 48 ≤ d i ∧ d i ≤ 57) (h0 : 0 < nd → d 0 ≠ 48) (hp : -2000000000 ≤ dp ∧ dp ≤ 2000000000)
  (R : Int × Bool → Prop) (hR : ∀ o, FB ng ⟨d, nd, dp, tr⟩ o → R o) (Q Q0 Q1 : Exit → Act → World → Prop) (hr : ∀ a w, bodyPost Tryz.prog Tryz.f223 (FBPost w0 R) .ret a w → Q .ret a w) (hr0 : ∀ a w, bodyPost Tryz.prog Tryz.f223 (FBPost w0 R) .ret a w → Q0 .ret a w) (hr1 : ∀ a w, bodyPost Tryz.prog Tryz.f223 (FBPost w0 R) .ret a w → Q1 .ret a w)
  (hg0 : ∀ a w, fbOut.wp Tryz.prog Q0 a w → Q (.goto 0) a w) (hg1 : ∀ a w, fbOver.wp Tryz.prog Q1 a w → Q (.goto 1) a w) :
  fbBody.wp Tryz.prog Q ⟨List.toArray [.pointer (some ⟨g, 0, none⟩), .pointer (some ⟨6, 0, none⟩), undef, undef, .int .u64 0, .bool false, undef, undef, undef, undef, undef, undef, undef, undef, undef, undef, undef, undef, undef, undef, undef, undef, undef, undef, undef, undef, undef, undef, undef, undef, undef, undef, undef, undef, undef, undef, undef, undef, undef, undef, undef, undef, undef, undef, undef, undef, undef, undef, undef, undef, undef, undef, undef, undef, undef, undef, undef, undef, undef, undef, undef, undef, undef, undef, undef, undef, undef, undef, undef, undef, undef, undef, undef, undef, undef, undef, undef, undef, undef, undef, undef, undef, undef, undef, undef, undef, undef, undef, undef, undef, undef, undef, undef, undef, undef, undef, undef, undef, undef, undef, undef, undef, undef, undef, undef, undef, undef, undef, undef, undef, undef, undef, undef, undef, undef, undef, undef, undef, undef, undef, undef, undef, undef, undef, undef, undef, undef, undef, undef, undef, undef, undef, undef, undef, undef, undef, undef, undef, undef, undef, undef, undef, undef, undef, undef, undef, undef, undef, undef, undef, undef, undef, undef, undef, undef, undef, undef, undef, undef, undef, undef, undef, undef, undef, undef, undef, undef, undef, undef, undef, undef, undef, undef, undef, undef, undef, undef, undef, undef, undef, undef, undef, undef, undef, undef, undef, undef, undef, undef, undef, undef, undef, undef, undef, undef, undef, undef, undef, undef, undef, undef, undef, undef, undef, undef, undef, undef, undef, undef, undef, undef, undef, undef, undef, undef, undef, undef, undef, undef, undef, undef, undef, undef, undef, undef, undef, undef, undef, undef, undef, undef, undef, undef, undef, undef, undef, undef, undef, undef, undef, undef, undef, undef], []⟩ w := by
 have HA := Aside0.mk (And.intro hr (And.intro hr0 (And.intro hr1 (And.intro hg0 hg1))))
 have HR := Aside0.mk hR
 clear hr hr0 hr1 hg0 hg1 hR
 have c0 := H.cnd
 have c1 := H.cdp
 have b1 := pw_cell_below H.be hF.a
 have b2 := pw_cell_below H.be hF.b
 have b3 := pw_cell_below H.be hF.c
 have HD := Aside0.mk H
 clear H
 simp only [fbBody, Tryz.f223, tlr, unsc]
 by_cases e0 : nd = 0
 ·subst e0
  go_wp2_with fail
  have HDX := HD.out
  obtain ⟨hr, hr0, hr1, hg0, hg1⟩ := HA.out
  go_step3
  exact hg0 _ _ (fbOut_wp w0 _ g _ _ _ _ _ _ _ _ R Q0 hr0 _ _ _ _ _ _ _ _ _ _ _ _ _ _ _ _ _ _ _ _ _ _ _ _ _ _ _ _ _ _ _ _ _ _ _ _ _ _ _ _ _ _ _ _ _ _ _ _ _ _ _ _ _ _ _ _ _ _ _ _ _ _ _ _ _ _ _ _ _ _ _ _ _ _ _ _ _ _ _ _ _ _ _ _ _ _ _ _ _ _ _ _ _ _ _ _ _ _ _ _ _ _ _ _ _ _ _ _ _ _ _ _ _ _ _ _ _ _ _ _ _ _ _ _ _ _ _ _ _ _ _ _ _ _ _ _ _ _ _ _ _ _ _ _ _ _ _ _ _ _ _ _ _ _ _ _ _ _ _ _ _ _ _ _ _ _ _ _ _ _ _ _ _ _ _ _ _ _ _ _ _ _ _ _ _ _ _ _ _ _ _ HDX hF (HR.out _ (FB.z0 rfl)))
 have hnd : ((nd : Int) == 0) = false := beq_eq_false_iff_ne.mpr (by omega)
 by_cases e1 : 310 < dp
 ·go_wp2_with fail
  have HDX := HD.out
  obtain ⟨hr, hr0, hr1, hg0, hg1⟩ := HA.out
  go_step3
  exact hg1 _ _ (fbOver_wp w0 _ g _ _ _ _ _ R Q1 hr1 _ _ _ _ _ _ _ _ _ _ _ _ _ _ _ _ _ _ _ _ _ _ _ _ _ _ _ _ _ _ _ _ _ _ _ _ _ _ _ _ _ _ _ _ _ _ _ _ _ _ _ _ _ _ _ _ _ _ _ _ _ _ _ _ _ _ _ _ _ _ _ _ _ _ _ _ _ _ _ _ _ _ _ _ _ _ _ _ _ _ _ _ _ _ _ _ _ _ _ _ _ _ _ _ _ _ _ _ _ _ _ _ _ _ _ _ _ _ _ _ _ _ _ _ _ _ _ _ _ _ _ _ _ _ _ _ _ _ _ _ _ _ _ _ _ _ _ _ _ _ _ _ _ _ _ _ _ _ _ _ _ _ _ _ _ _ _ _ _ _ _ _ _ _ _ _ _ _ _ _ _ _ _ HDX hF (HR.out _ (FB.hi e0 (by omega))))
 by_cases e2 : dp < -330
 ·go_wp2_with fail
  have HDX := HD.out
  obtain ⟨hr, hr0, hr1, hg0, hg1⟩ := HA.out
  go_step3
  exact hg0 _ _ (fbOut_wp w0 _ g _ _ _ _ _ _ _ _ R Q0 hr0 _ _ _ _ _ _ _ _ _ _ _ _ _ _ _ _ _ _ _ _ _ _ _ _ _ _ _ _ _ _ _ _ _ _ _ _ _ _ _ _ _ _ _ _ _ _ _ _ _ _ _ _ _ _ _ _ _ _ _ _ _ _ _ _ _ _ _ _ _ _ _ _ _ _ _ _ _ _ _ _ _ _ _ _ _ _ _ _ _ _ _ _ _ _ _ _ _ _ _ _ _ _ _ _ _ _ _ _ _ _ _ _ _ _ _ _ _ _ _ _ _ _ _ _ _ _ _ _ _ _ _ _ _ _ _ _ _ _ _ _ _ _ _ _ _ _ _ _ _ _ _ _ _ _ _ _ _ _ _ _ _ _ _ _ _ _ _ _ _ _ _ _ _ _ _ _ _ _ _ _ _ _ _ _ _ _ _ _ _ _ _ HDX hF (HR.out _ (FB.lo e0 (by omega) (by omega))))
 have HGO : Aside0 (∀ o, FB1 ng ⟨d, nd, dp, tr⟩ 0 o → R o) := ⟨fun o h => HR.out o (FB.go e0 e1 e2 h)⟩
 clear HR
 go_wp2_with fail
 go_loopg [6, 8] (10 * dp + d 0 + 100000).toNat (fun kq v6 v8 w' => ∃ (d' : Nat → Int) (nd' : Nat) (dp' : Int) (tr' : Bool) (ex : Int), v6 = .int .i64 ex ∧ Aside0 (Dec w0 w' g d' nd' dp' ng tr') ∧ (1 ≤ nd' ∧ nd' ≤ 800) ∧ Aside0 (∀ i, i < nd' → 48 ≤ d' i ∧ d' i ≤ 57) ∧ Aside0 (d' 0 ≠ 48) ∧
  (kq : Int) = 10 * dp' + d' 0 + 100000 ∧ (-330 ≤ dp' ∧ dp' ≤ 310) ∧ (0 ≤ ex ∧ ex + 27 * (kq : Int) ≤ 2800000) ∧ Aside0 (∀ o, FB1 ng ⟨d', nd', dp', tr'⟩ ex o → R o))
 case atStart => exact ⟨d, nd, dp, tr, 0, rfl, ⟨by first | exact HD.out | exact HD.out.drewN _⟩, by omega, ⟨hd⟩, ⟨h0 (by omega)⟩, by have := hd 0 (by omega); omega, by omega, by have := hd 0 (by omega); omega, HGO⟩
 clear HD c0 c1 b1 b2 b3 hnd e0 e1 e2 hd h0 hn hp HGO
 obtain ⟨d', nd', dp', tr', ex, rfl, HD2, hn', HI1, HI2, hkq, hb, hex, HI5⟩ := hrel
 have c0 := HD2.out.cnd
 have c1 := HD2.out.cdp
 have b1 := pw_cell_below HD2.out.be hF.a
 have b2 := pw_cell_below HD2.out.be hF.b
 have b3 := pw_cell_below HD2.out.be hF.c
 have hd0 := HI1.out 0 (by omega)
 have hd00 := HI2.out
 by_cases e3 : 0 < dp'
 ·obtain ⟨j, rfl⟩ : ∃ j : Nat, dp' = (j : Int) := ⟨dp'.toNat, by omega⟩
  obtain ⟨a, cc, t10, tc, ta⟩ := hP
  have t10' := pw_cell_below HD2.out.be t10
  by_cases e4 : (9 : Int) ≤ (j : Int)
  ·go_wp2_with fail
   repeat (go_quiet (fail); try (go_wp2_with fail))
   have hc : Calls Tryz.prog 169 #[.pointer (some ⟨g, 0, none⟩), .int .i64 (-27)] (wr.drewN nq) (RPost w0 g d' nd' j ng tr' 27) := shiftR_calls w0 (wr.drewN nq) g d' nd' j ng tr' 27 (HD2.out.drewN _) (by omega) hn' HI1.out hd00 (by omega)
   refine hc.mono ?_
   rintro e w' ⟨rfl, d2, nd2, dp2, tr2, H2, hn2, hd2, h02, hb2, hs2, hR1⟩
   have hd20 := hd2 0 (by omega)
   go_wp2_with fail
   have hlt : 10 * dp2 + d2 0 + 1 ≤ 10 * (j : Int) + d' 0 := by
    by_cases e : dp2 = j
    ·have := hs2 e; omega
    ·omega
   go_roundg (10 * dp2 + d2 0 + 100000).toNat
   case measure => omega
   case rel => exact ⟨d2, nd2, dp2, tr2, _, rfl, ⟨H2⟩, hn2, ⟨hd2⟩, ⟨h02⟩, by omega, by omega, by omega, ⟨fun o h => HI5.out _ (.step (by omega) (by rw [pw_hi (by omega)]; exact hR1) (by rw [pw_hi (by omega)]; exact h))⟩⟩
  have hj9 : (j : Int) < 9 := by omega
  have hj9' : j < 9 := by omega
  obtain ⟨k, hk, hk1, hk2⟩ := powtab_k j (by omega) hj9'
  have tj := pw_cell_below HD2.out.be (tc j hj9')
  rw [hk] at tj
  have hpw := pw_lo hj9' hk
  clear hk
  go_wp2_with fail
  repeat (go_quiet (fail); try (go_wp2_with fail))
  refine (shiftR_calls w0 _ g d' nd' j ng tr' k (HD2.out.drewN _) ⟨hk1, by omega⟩ hn' HI1.out hd00 (by omega)).mono ?_
  rintro e w' ⟨rfl, d2, nd2, dp2, tr2, H2, hn2, hd2, h02, hb2, hs2, hR1⟩
  have hd20 := hd2 0 (by omega)
  go_wp2_with fail
  have hlt : 10 * dp2 + d2 0 + 1 ≤ 10 * (j : Int) + d' 0 := by
   by_cases e : dp2 = j
   ·have := hs2 e; omega
   ·omega
  go_roundg (10 * dp2 + d2 0 + 100000).toNat
  case measure => omega
  case rel => exact ⟨d2, nd2, dp2, tr2, _, rfl, ⟨H2⟩, hn2, ⟨hd2⟩, ⟨h02⟩, by omega, by omega, by omega, ⟨fun o h => HI5.out _ (.step (by omega) (by rw [hpw]; exact hR1) (by rw [hpw]; exact h))⟩⟩
 go_wp2_with fail
 go_loopg [6, 9] (100000 - 10 * dp' - d' 0).toNat (fun kq v6 v9 w' => ∃ (d' : Nat → Int) (nd' : Nat) (dp' : Int) (tr' : Bool) (ex : Int), v6 = .int .i64 ex ∧ Aside0 (Dec w0 w' g d' nd' dp' ng tr') ∧ (1 ≤ nd' ∧ nd' ≤ 800) ∧ Aside0 (∀ i, i < nd' → 48 ≤ d' i ∧ d' i ≤ 57) ∧ Aside0 (d' 0 ≠ 48) ∧
  (kq : Int) = 100000 - 10 * dp' - d' 0 ∧ (-400 ≤ dp' ∧ dp' ≤ 60) ∧ (ex ≤ 2800000 ∧ 27 * (kq : Int) - 2808000 ≤ ex) ∧ Aside0 (∀ o, FB2 ng ⟨d', nd', dp', tr'⟩ ex o → R o))
 case atStart => exact ⟨d', nd', dp', tr', ex, rfl, HD2, hn', HI1, HI2, by omega, by omega, by omega, ⟨fun o h => HI5.out o (.done (show ¬ 0 < dp' by omega) h)⟩⟩
 clear c0 c1 b1 b2 b3 hd0 hd00 e3 HD2 HI1 HI2 hkq hb hex hn' HI5
 obtain ⟨d', nd', dp', tr', ex, rfl, HD2, hn', HI1, HI2, hkq, hb, hex, HI5⟩ := hrel
 have c0 := HD2.out.cnd
 have c1 := HD2.out.cdp
 have b1 := pw_cell_below HD2.out.be hF.a
 have b2 := pw_cell_below HD2.out.be hF.b
 have b3 := pw_cell_below HD2.out.be hF.c
 have hd0 := HI1.out 0 (by omega)
 have hd00 := HI2.out
 have cd0 := HD2.out.dig 0 (by omega)
 obtain ⟨a, cc, t10, tc, ta⟩ := hP
 have t10' := pw_cell_below HD2.out.be t10
 by_cases e3 : dp' ≤ 0
 rotate_left
 ·have hpos : ¬ dp' < 0 := by omega
  have hpz : (dp' == 0) = false := beq_eq_false_iff_ne.mpr (by omega)
  have H3R : Aside0 (∀ o, FB3 ng ⟨d', nd', dp', tr'⟩ ex o → R o) := ⟨fun o h => HI5.out o (.done (show ¬ (dp' < 0 ∨ dp' = 0 ∧ d' 0 < 53) by omega) h)⟩
  clear HI5
  by_cases e7 : ex - 1 < -1022
  rotate_left
  ·have HF : Aside0 (∀ o, FB4 ng ⟨d', nd', dp', tr'⟩ (ex - 1) o → R o) := ⟨fun o h => H3R.out o (.inr ⟨e7, h⟩)⟩
   go_wp2_with fail
   repeat (go_quiet (fail); try (go_wp2_with fail))
   all_goals first
    | (obtain ⟨hr, hr0, hr1, hg0, hg1⟩ := HA.out; have HX := HD2.out; go_step3; exact hg1 _ _ (fbOver_wp w0 _ g _ _ _ _ _ R Q1 hr1 _ _ _ _ _ _ _ _ _ _ _ _ _ _ _ _ _ _ _ _ _ _ _ _ _ _ _ _ _ _ _ _ _ _ _ _ _ _ _ _ _ _ _ _ _ _ _ _ _ _ _ _ _ _ _ _ _ _ _ _ _ _ _ _ _ _ _ _ _ _ _ _ _ _ _ _ _ _ _ _ _ _ _ _ _ _ _ _ _ _ _ _ _ _ _ _ _ _ _ _ _ _ _ _ _ _ _ _ _ _ _ _ _ _ _ _ _ _ _ _ _ _ _ _ _ _ _ _ _ _ _ _ _ _ _ _ _ _ _ _ _ _ _ _ _ _ _ _ _ _ _ _ _ _ _ _ _ _ _ _ _ _ _ _ _ _ _ _ _ _ _ _ _ _ _ _ _ _ _ _ _ _ _ HX hF (by exact H3R.out _ (.inr ⟨by omega, .inl ⟨by omega, rfl⟩⟩))))
    | (obtain ⟨hr, hr0, hr1, hg0, hg1⟩ := HA.out; have HX := (HD2.out).drewN nq; go_step3; exact hg1 _ _ (fbOver_wp w0 _ g _ _ _ _ _ R Q1 hr1 _ _ _ _ _ _ _ _ _ _ _ _ _ _ _ _ _ _ _ _ _ _ _ _ _ _ _ _ _ _ _ _ _ _ _ _ _ _ _ _ _ _ _ _ _ _ _ _ _ _ _ _ _ _ _ _ _ _ _ _ _ _ _ _ _ _ _ _ _ _ _ _ _ _ _ _ _ _ _ _ _ _ _ _ _ _ _ _ _ _ _ _ _ _ _ _ _ _ _ _ _ _ _ _ _ _ _ _ _ _ _ _ _ _ _ _ _ _ _ _ _ _ _ _ _ _ _ _ _ _ _ _ _ _ _ _ _ _ _ _ _ _ _ _ _ _ _ _ _ _ _ _ _ _ _ _ _ _ _ _ _ _ _ _ _ _ _ _ _ _ _ _ _ _ _ _ _ _ _ _ _ _ _ HX hF (by exact H3R.out _ (.inr ⟨by omega, .inl ⟨by omega, rfl⟩⟩))))
    | skip
   refine (shiftL_calls w0 _ g d' nd' dp' ng tr' 53 (by first | exact HD2.out | exact HD2.out.drewN _) hT (by omega) hn' HI1.out hd00 (by omega)).mono ?_
   rintro e w' ⟨rfl, d3, nd3, dp3, tr3, H3, hn3, hd3, h03, hb3, _, hL3⟩
   have q1 := pw_cell_below H3.be hF.a
   have q2 := pw_cell_below H3.be hF.b
   have q3 := pw_cell_below H3.be hF.c
   go_wp2_with fail
   refine (roundedInteger_calls w0 _ g d3 nd3 dp3 ng tr3 H3 hn3.2 hd3 (by omega)).mono ?_
   rintro e w' ⟨m, rfl, rfl, hRI⟩
   go_wp2_with fail
   all_goals (repeat (go_quiet (fail); try (go_wp2_with fail)))
   all_goals obtain ⟨hr, hr0, hr1, hg0, hg1⟩ := HA.out
   all_goals go_step3
   all_goals first
    | (refine hg1 _ _ ?_; (have hv : R (overV ng, true) := fb_a HF.out (by omega) hL3 hRI (by with_reducible assumption) (by omega)); first | exact fbOver_wp w0 _ g _ _ _ _ _ R Q1 hr1 _ _ _ _ _ _ _ _ _ _ _ _ _ _ _ _ _ _ _ _ _ _ _ _ _ _ _ _ _ _ _ _ _ _ _ _ _ _ _ _ _ _ _ _ _ _ _ _ _ _ _ _ _ _ _ _ _ _ _ _ _ _ _ _ _ _ _ _ _ _ _ _ _ _ _ _ _ _ _ _ _ _ _ _ _ _ _ _ _ _ _ _ _ _ _ _ _ _ _ _ _ _ _ _ _ _ _ _ _ _ _ _ _ _ _ _ _ _ _ _ _ _ _ _ _ _ _ _ _ _ _ _ _ _ _ _ _ _ _ _ _ _ _ _ _ _ _ _ _ _ _ _ _ _ _ _ _ _ _ _ _ _ _ _ _ _ _ _ _ _ _ _ _ _ _ _ _ _ _ _ _ _ _ H3 hF hv | exact fbOver_wp w0 _ g _ _ _ _ _ R Q1 hr1 _ _ _ _ _ _ _ _ _ _ _ _ _ _ _ _ _ _ _ _ _ _ _ _ _ _ _ _ _ _ _ _ _ _ _ _ _ _ _ _ _ _ _ _ _ _ _ _ _ _ _ _ _ _ _ _ _ _ _ _ _ _ _ _ _ _ _ _ _ _ _ _ _ _ _ _ _ _ _ _ _ _ _ _ _ _ _ _ _ _ _ _ _ _ _ _ _ _ _ _ _ _ _ _ _ _ _ _ _ _ _ _ _ _ _ _ _ _ _ _ _ _ _ _ _ _ _ _ _ _ _ _ _ _ _ _ _ _ _ _ _ _ _ _ _ _ _ _ _ _ _ _ _ _ _ _ _ _ _ _ _ _ _ _ _ _ _ _ _ _ _ _ _ _ _ _ _ _ _ _ _ _ _ (H3.drewN nq) hF hv)
    | (refine hg0 _ _ ?_; (first | refine fbOut_wp w0 _ g _ _ _ _ _ _ _ _ R Q0 hr0 _ _ _ _ _ _ _ _ _ _ _ _ _ _ _ _ _ _ _ _ _ _ _ _ _ _ _ _ _ _ _ _ _ _ _ _ _ _ _ _ _ _ _ _ _ _ _ _ _ _ _ _ _ _ _ _ _ _ _ _ _ _ _ _ _ _ _ _ _ _ _ _ _ _ _ _ _ _ _ _ _ _ _ _ _ _ _ _ _ _ _ _ _ _ _ _ _ _ _ _ _ _ _ _ _ _ _ _ _ _ _ _ _ _ _ _ _ _ _ _ _ _ _ _ _ _ _ _ _ _ _ _ _ _ _ _ _ _ _ _ _ _ _ _ _ _ _ _ _ _ _ _ _ _ _ _ _ _ _ _ _ _ _ _ _ _ _ _ _ _ _ _ _ _ _ _ _ _ _ _ _ _ _ _ _ _ _ _ _ _ _ H3 hF ?_ | refine fbOut_wp w0 _ g _ _ _ _ _ _ _ _ R Q0 hr0 _ _ _ _ _ _ _ _ _ _ _ _ _ _ _ _ _ _ _ _ _ _ _ _ _ _ _ _ _ _ _ _ _ _ _ _ _ _ _ _ _ _ _ _ _ _ _ _ _ _ _ _ _ _ _ _ _ _ _ _ _ _ _ _ _ _ _ _ _ _ _ _ _ _ _ _ _ _ _ _ _ _ _ _ _ _ _ _ _ _ _ _ _ _ _ _ _ _ _ _ _ _ _ _ _ _ _ _ _ _ _ _ _ _ _ _ _ _ _ _ _ _ _ _ _ _ _ _ _ _ _ _ _ _ _ _ _ _ _ _ _ _ _ _ _ _ _ _ _ _ _ _ _ _ _ _ _ _ _ _ _ _ _ _ _ _ _ _ _ _ _ _ _ _ _ _ _ _ _ _ _ _ _ _ _ _ _ _ _ _ _ (H3.drewN nq) hF ?_); first | exact fb_d HF.out (by omega) hL3 hRI (by with_reducible assumption) (by with_reducible assumption) rfl rfl | exact fb_e HF.out (by omega) hL3 hRI (by with_reducible assumption) (by with_reducible assumption) rfl (by omega) | exact fb_b HF.out (by omega) hL3 hRI (by with_reducible assumption) (by omega) (by with_reducible assumption) rfl rfl | exact fb_c HF.out (by omega) hL3 hRI (by with_reducible assumption) (by omega) (by with_reducible assumption) rfl (by omega))
  obtain ⟨n, hn1⟩ : ∃ n : Nat, -1022 - (ex - 1) = (n : Int) := ⟨(-1022 - (ex - 1)).toNat, by omega⟩
  have hn1' := Aside0.mk hn1
  clear hn1
  go_wp2_with fail
  rw [hn1'.out]
  refine (shiftAny_calls w0 _ g d' nd' dp' ng tr' n (by first | exact HD2.out | exact HD2.out.drewN _) (by have := hn1'.out; omega) hn' HI1.out hd00 (by omega)).mono ?_
  rintro e w' ⟨rfl, d2, nd2, dp2, tr2, H2, hn2, hd2, h02, hb2, hSA⟩
  have hn3' := hn1'.out
  have HF : Aside0 (∀ o, FB4 ng ⟨d2, nd2, dp2, tr2⟩ (-1022) o → R o) := ⟨fun o h => H3R.out o (.inl ⟨e7, _, by rw [hn3', Int.toNat_natCast]; exact hSA, h⟩)⟩
  have p0 := H2.cnd
  have p1 := H2.cdp
  have p2 := pw_cell_below H2.be hF.a
  have p3 := pw_cell_below H2.be hF.b
  have p4 := pw_cell_below H2.be hF.c
  go_wp2_with fail
  repeat (go_quiet (fail); try (go_wp2_with fail))
  refine (shiftL_calls w0 _ g d2 nd2 dp2 ng tr2 53 (by first | exact H2 | exact H2.drewN _) hT (by omega) hn2 hd2 h02 (by omega)).mono ?_
  rintro e w' ⟨rfl, d3, nd3, dp3, tr3, H3, hn3, hd3, h03, hb3, _, hL3⟩
  have q1 := pw_cell_below H3.be hF.a
  have q2 := pw_cell_below H3.be hF.b
  have q3 := pw_cell_below H3.be hF.c
  go_wp2_with fail
  refine (roundedInteger_calls w0 _ g d3 nd3 dp3 ng tr3 H3 hn3.2 hd3 (by omega)).mono ?_
  rintro e w' ⟨m, rfl, rfl, hRI⟩
  go_wp2_with fail
  all_goals (repeat (go_quiet (fail); try (go_wp2_with fail)))
  all_goals obtain ⟨hr, hr0, hr1, hg0, hg1⟩ := HA.out
  all_goals go_step3
  all_goals first
   | (refine hg1 _ _ ?_; (have hv : R (overV ng, true) := fb_a HF.out (by omega) hL3 hRI (by with_reducible assumption) (by omega)); first | exact fbOver_wp w0 _ g _ _ _ _ _ R Q1 hr1 _ _ _ _ _ _ _ _ _ _ _ _ _ _ _ _ _ _ _ _ _ _ _ _ _ _ _ _ _ _ _ _ _ _ _ _ _ _ _ _ _ _ _ _ _ _ _ _ _ _ _ _ _ _ _ _ _ _ _ _ _ _ _ _ _ _ _ _ _ _ _ _ _ _ _ _ _ _ _ _ _ _ _ _ _ _ _ _ _ _ _ _ _ _ _ _ _ _ _ _ _ _ _ _ _ _ _ _ _ _ _ _ _ _ _ _ _ _ _ _ _ _ _ _ _ _ _ _ _ _ _ _ _ _ _ _ _ _ _ _ _ _ _ _ _ _ _ _ _ _ _ _ _ _ _ _ _ _ _ _ _ _ _ _ _ _ _ _ _ _ _ _ _ _ _ _ _ _ _ _ _ _ _ H3 hF hv | exact fbOver_wp w0 _ g _ _ _ _ _ R Q1 hr1 _ _ _ _ _ _ _ _ _ _ _ _ _ _ _ _ _ _ _ _ _ _ _ _ _ _ _ _ _ _ _ _ _ _ _ _ _ _ _ _ _ _ _ _ _ _ _ _ _ _ _ _ _ _ _ _ _ _ _ _ _ _ _ _ _ _ _ _ _ _ _ _ _ _ _ _ _ _ _ _ _ _ _ _ _ _ _ _ _ _ _ _ _ _ _ _ _ _ _ _ _ _ _ _ _ _ _ _ _ _ _ _ _ _ _ _ _ _ _ _ _ _ _ _ _ _ _ _ _ _ _ _ _ _ _ _ _ _ _ _ _ _ _ _ _ _ _ _ _ _ _ _ _ _ _ _ _ _ _ _ _ _ _ _ _ _ _ _ _ _ _ _ _ _ _ _ _ _ _ _ _ _ _ (H3.drewN nq) hF hv)
   | (refine hg0 _ _ ?_; (first | refine fbOut_wp w0 _ g _ _ _ _ _ _ _ _ R Q0 hr0 _ _ _ _ _ _ _ _ _ _ _ _ _ _ _ _ _ _ _ _ _ _ _ _ _ _ _ _ _ _ _ _ _ _ _ _ _ _ _ _ _ _ _ _ _ _ _ _ _ _ _ _ _ _ _ _ _ _ _ _ _ _ _ _ _ _ _ _ _ _ _ _ _ _ _ _ _ _ _ _ _ _ _ _ _ _ _ _ _ _ _ _ _ _ _ _ _ _ _ _ _ _ _ _ _ _ _ _ _ _ _ _ _ _ _ _ _ _ _ _ _ _ _ _ _ _ _ _ _ _ _ _ _ _ _ _ _ _ _ _ _ _ _ _ _ _ _ _ _ _ _ _ _ _ _ _ _ _ _ _ _ _ _ _ _ _ _ _ _ _ _ _ _ _ _ _ _ _ _ _ _ _ _ _ _ _ _ _ _ _ _ H3 hF ?_ | refine fbOut_wp w0 _ g _ _ _ _ _ _ _ _ R Q0 hr0 _ _ _ _ _ _ _ _ _ _ _ _ _ _ _ _ _ _ _ _ _ _ _ _ _ _ _ _ _ _ _ _ _ _ _ _ _ _ _ _ _ _ _ _ _ _ _ _ _ _ _ _ _ _ _ _ _ _ _ _ _ _ _ _ _ _ _ _ _ _ _ _ _ _ _ _ _ _ _ _ _ _ _ _ _ _ _ _ _ _ _ _ _ _ _ _ _ _ _ _ _ _ _ _ _ _ _ _ _ _ _ _ _ _ _ _ _ _ _ _ _ _ _ _ _ _ _ _ _ _ _ _ _ _ _ _ _ _ _ _ _ _ _ _ _ _ _ _ _ _ _ _ _ _ _ _ _ _ _ _ _ _ _ _ _ _ _ _ _ _ _ _ _ _ _ _ _ _ _ _ _ _ _ _ _ _ _ _ _ _ _ (H3.drewN nq) hF ?_); first | exact fb_d HF.out (by omega) hL3 hRI (by with_reducible assumption) (by with_reducible assumption) rfl rfl | exact fb_e HF.out (by omega) hL3 hRI (by with_reducible assumption) (by with_reducible assumption) rfl (by omega) | exact fb_b HF.out (by omega) hL3 hRI (by with_reducible assumption) (by omega) (by with_reducible assumption) rfl rfl | exact fb_c HF.out (by omega) hL3 hRI (by with_reducible assumption) (by omega) (by with_reducible assumption) rfl (by omega))
 obtain ⟨j, rfl⟩ : ∃ j : Nat, dp' = -(j : Int) := ⟨(-dp').toNat, by omega⟩
 by_cases e5 : j = 0
 rotate_left
 ·have hneg : -(j : Int) < 0 := by omega
  have hdec : decide (-(j : Int) < 0) = true := decide_eq_true hneg
  by_cases e4 : (9 : Int) ≤ (j : Int)
  ·go_wp2_with fail
   repeat (go_quiet (fail); try (go_wp2_with fail))
   have hc : Calls Tryz.prog 169 #[.pointer (some ⟨g, 0, none⟩), .int .i64 27] (wr.drewN nq) (DPost w0 g d' nd' (-(j : Int)) ng tr' 27) := shiftL_calls w0 (wr.drewN nq) g d' nd' (-(j : Int)) ng tr' 27 (HD2.out.drewN _) hT (by omega) hn' HI1.out hd00 (by omega)
   refine hc.mono ?_
   rintro e w' ⟨rfl, d2, nd2, dp2, tr2, H2, hn2, hd2, h02, hb2, hs2, hR1⟩
   have hd20 := hd2 0 (by omega)
   go_wp2_with fail
   have hlt : 10 * (-(j : Int)) + d' 0 + 1 ≤ 10 * dp2 + d2 0 := by
    by_cases e : dp2 = -(j : Int)
    ·have := hs2 e; omega
    ·omega
   go_roundg (100000 - 10 * dp2 - d2 0).toNat
   case measure => omega
   case rel => exact ⟨d2, nd2, dp2, tr2, _, rfl, ⟨H2⟩, hn2, ⟨hd2⟩, ⟨h02⟩, by omega, by omega, by omega, ⟨fun o h => HI5.out _ (.step (show -(j : Int) < 0 ∨ -(j : Int) = 0 ∧ d' 0 < 53 by omega) (by rw [Int.neg_neg, pw_hi (by omega)]; exact hR1) (by rw [Int.neg_neg, pw_hi (by omega)]; exact h))⟩⟩
  have hj9 : (j : Int) < 9 := by omega
  have hj9' : j < 9 := by omega
  obtain ⟨k, hk, hk1, hk2⟩ := powtab_k0 j hj9'
  have tj := pw_cell_below HD2.out.be (tc j hj9')
  rw [hk] at tj
  have hpw := pw_lo hj9' hk
  clear hk
  go_wp2_with fail
  repeat (go_quiet (fail); try (go_wp2_with fail))
  refine (shiftL_calls w0 _ g d' nd' (-(j : Int)) ng tr' k (HD2.out.drewN _) hT ⟨hk1, by omega⟩ hn' HI1.out hd00 (by omega)).mono ?_
  rintro e w' ⟨rfl, d2, nd2, dp2, tr2, H2, hn2, hd2, h02, hb2, hs2, hR1⟩
  have hd20 := hd2 0 (by omega)
  go_wp2_with fail
  have hlt : 10 * (-(j : Int)) + d' 0 + 1 ≤ 10 * dp2 + d2 0 := by
   by_cases e : dp2 = -(j : Int)
   ·have := hs2 e; omega
   ·omega
  go_roundg (100000 - 10 * dp2 - d2 0).toNat
  case measure => omega
  case rel => exact ⟨d2, nd2, dp2, tr2, _, rfl, ⟨H2⟩, hn2, ⟨hd2⟩, ⟨h02⟩, by omega, by omega, by omega, ⟨fun o h => HI5.out _ (.step (show -(j : Int) < 0 ∨ -(j : Int) = 0 ∧ d' 0 < 53 by omega) (by rw [Int.neg_neg, hpw]; exact hR1) (by rw [Int.neg_neg, hpw]; exact h))⟩⟩
 subst e5
 have c1' : wr.cell? ⟨g, 801, none⟩ = some (.int .i64 0) := c1
 clear c1
 have HD3 : Aside0 (Dec w0 wr g d' nd' 0 ng tr') := HD2
 clear HD2
 by_cases e6 : d' 0 < 53
 ·have tj0 := pw_cell_below HD3.out.be ta
  have tj : wr.cell? (a.add 0) = some (.int .i64 1) := pw_cell_below HD3.out.be (tc 0 (by omega))
  have hbz : -400 ≤ (0 : Int) ∧ (0 : Int) ≤ 60 := by omega
  go_wp2_with fail
  repeat (go_quiet (fail); try (go_wp2_with fail))
  refine (shiftL_calls w0 _ g d' nd' 0 ng tr' 1 (HD3.out.drewN _) hT (by omega) hn' HI1.out hd00 (by omega)).mono ?_
  rintro e w' ⟨rfl, d2, nd2, dp2, tr2, H2, hn2, hd2, h02, hb2, hs2, hR1⟩
  have hd20 := hd2 0 (by omega)
  go_wp2_with fail
  have hlt : d' 0 + 1 ≤ 10 * dp2 + d2 0 := by
   by_cases e : dp2 = 0
   ·have := hs2 e; omega
   ·omega
  go_roundg (100000 - 10 * dp2 - d2 0).toNat
  case measure => omega
  case rel => exact ⟨d2, nd2, dp2, tr2, _, rfl, ⟨H2⟩, hn2, ⟨hd2⟩, ⟨h02⟩, by omega, by omega, by omega, ⟨fun o h => HI5.out _ (.step (show (0 : Int) < 0 ∨ (0 : Int) = 0 ∧ d' 0 < 53 by omega) hR1 h)⟩⟩
 have H3R : Aside0 (∀ o, FB3 ng ⟨d', nd', 0, tr'⟩ ex o → R o) := ⟨fun o h => HI5.out o (.done (show ¬ ((0 : Int) < 0 ∨ (0 : Int) = 0 ∧ d' 0 < 53) by omega) h)⟩
 clear HI5
 by_cases e7 : ex - 1 < -1022
 rotate_left
 ·have HF : Aside0 (∀ o, FB4 ng ⟨d', nd', 0, tr'⟩ (ex - 1) o → R o) := ⟨fun o h => H3R.out o (.inr ⟨e7, h⟩)⟩
  go_wp2_with fail
  repeat (go_quiet (fail); try (go_wp2_with fail))
  all_goals first
   | (obtain ⟨hr, hr0, hr1, hg0, hg1⟩ := HA.out; have HX := HD3.out; go_step3; exact hg1 _ _ (fbOver_wp w0 _ g _ _ _ _ _ R Q1 hr1 _ _ _ _ _ _ _ _ _ _ _ _ _ _ _ _ _ _ _ _ _ _ _ _ _ _ _ _ _ _ _ _ _ _ _ _ _ _ _ _ _ _ _ _ _ _ _ _ _ _ _ _ _ _ _ _ _ _ _ _ _ _ _ _ _ _ _ _ _ _ _ _ _ _ _ _ _ _ _ _ _ _ _ _ _ _ _ _ _ _ _ _ _ _ _ _ _ _ _ _ _ _ _ _ _ _ _ _ _ _ _ _ _ _ _ _ _ _ _ _ _ _ _ _ _ _ _ _ _ _ _ _ _ _ _ _ _ _ _ _ _ _ _ _ _ _ _ _ _ _ _ _ _ _ _ _ _ _ _ _ _ _ _ _ _ _ _ _ _ _ _ _ _ _ _ _ _ _ _ _ _ _ _ HX hF (by exact H3R.out _ (.inr ⟨by omega, .inl ⟨by omega, rfl⟩⟩))))
   | (obtain ⟨hr, hr0, hr1, hg0, hg1⟩ := HA.out; have HX := (HD3.out).drewN nq; go_step3; exact hg1 _ _ (fbOver_wp w0 _ g _ _ _ _ _ R Q1 hr1 _ _ _ _ _ _ _ _ _ _ _ _ _ _ _ _ _ _ _ _ _ _ _ _ _ _ _ _ _ _ _ _ _ _ _ _ _ _ _ _ _ _ _ _ _ _ _ _ _ _ _ _ _ _ _ _ _ _ _ _ _ _ _ _ _ _ _ _ _ _ _ _ _ _ _ _ _ _ _ _ _ _ _ _ _ _ _ _ _ _ _ _ _ _ _ _ _ _ _ _ _ _ _ _ _ _ _ _ _ _ _ _ _ _ _ _ _ _ _ _ _ _ _ _ _ _ _ _ _ _ _ _ _ _ _ _ _ _ _ _ _ _ _ _ _ _ _ _ _ _ _ _ _ _ _ _ _ _ _ _ _ _ _ _ _ _ _ _ _ _ _ _ _ _ _ _ _ _ _ _ _ _ _ HX hF (by exact H3R.out _ (.inr ⟨by omega, .inl ⟨by omega, rfl⟩⟩))))
   | skip
  refine (shiftL_calls w0 _ g d' nd' 0 ng tr' 53 (by first | exact HD3.out | exact HD3.out.drewN _) hT (by omega) hn' HI1.out hd00 (by omega)).mono ?_
  rintro e w' ⟨rfl, d3, nd3, dp3, tr3, H3, hn3, hd3, h03, hb3, _, hL3⟩
  have q1 := pw_cell_below H3.be hF.a
  have q2 := pw_cell_below H3.be hF.b
  have q3 := pw_cell_below H3.be hF.c
  go_wp2_with fail
  refine (roundedInteger_calls w0 _ g d3 nd3 dp3 ng tr3 H3 hn3.2 hd3 (by omega)).mono ?_
  rintro e w' ⟨m, rfl, rfl, hRI⟩
  go_wp2_with fail
  all_goals (repeat (go_quiet (fail); try (go_wp2_with fail)))
  all_goals obtain ⟨hr, hr0, hr1, hg0, hg1⟩ := HA.out
  all_goals go_step3
  all_goals first
   | (refine hg1 _ _ ?_; (have hv : R (overV ng, true) := fb_a HF.out (by omega) hL3 hRI (by with_reducible assumption) (by omega)); first | exact fbOver_wp w0 _ g _ _ _ _ _ R Q1 hr1 _ _ _ _ _ _ _ _ _ _ _ _ _ _ _ _ _ _ _ _ _ _ _ _ _ _ _ _ _ _ _ _ _ _ _ _ _ _ _ _ _ _ _ _ _ _ _ _ _ _ _ _ _ _ _ _ _ _ _ _ _ _ _ _ _ _ _ _ _ _ _ _ _ _ _ _ _ _ _ _ _ _ _ _ _ _ _ _ _ _ _ _ _ _ _ _ _ _ _ _ _ _ _ _ _ _ _ _ _ _ _ _ _ _ _ _ _ _ _ _ _ _ _ _ _ _ _ _ _ _ _ _ _ _ _ _ _ _ _ _ _ _ _ _ _ _ _ _ _ _ _ _ _ _ _ _ _ _ _ _ _ _ _ _ _ _ _ _ _ _ _ _ _ _ _ _ _ _ _ _ _ _ _ H3 hF hv | exact fbOver_wp w0 _ g _ _ _ _ _ R Q1 hr1 _ _ _ _ _ _ _ _ _ _ _ _ _ _ _ _ _ _ _ _ _ _ _ _ _ _ _ _ _ _ _ _ _ _ _ _ _ _ _ _ _ _ _ _ _ _ _ _ _ _ _ _ _ _ _ _ _ _ _ _ _ _ _ _ _ _ _ _ _ _ _ _ _ _ _ _ _ _ _ _ _ _ _ _ _ _ _ _ _ _ _ _ _ _ _ _ _ _ _ _ _ _ _ _ _ _ _ _ _ _ _ _ _ _ _ _ _ _ _ _ _ _ _ _ _ _ _ _ _ _ _ _ _ _ _ _ _ _ _ _ _ _ _ _ _ _ _ _ _ _ _ _ _ _ _ _ _ _ _ _ _ _ _ _ _ _ _ _ _ _ _ _ _ _ _ _ _ _ _ _ _ _ _ (H3.drewN nq) hF hv)
   | (refine hg0 _ _ ?_; (first | refine fbOut_wp w0 _ g _ _ _ _ _ _ _ _ R Q0 hr0 _ _ _ _ _ _ _ _ _ _ _ _ _ _ _ _ _ _ _ _ _ _ _ _ _ _ _ _ _ _ _ _ _ _ _ _ _ _ _ _ _ _ _ _ _ _ _ _ _ _ _ _ _ _ _ _ _ _ _ _ _ _ _ _ _ _ _ _ _ _ _ _ _ _ _ _ _ _ _ _ _ _ _ _ _ _ _ _ _ _ _ _ _ _ _ _ _ _ _ _ _ _ _ _ _ _ _ _ _ _ _ _ _ _ _ _ _ _ _ _ _ _ _ _ _ _ _ _ _ _ _ _ _ _ _ _ _ _ _ _ _ _ _ _ _ _ _ _ _ _ _ _ _ _ _ _ _ _ _ _ _ _ _ _ _ _ _ _ _ _ _ _ _ _ _ _ _ _ _ _ _ _ _ _ _ _ _ _ _ _ _ H3 hF ?_ | refine fbOut_wp w0 _ g _ _ _ _ _ _ _ _ R Q0 hr0 _ _ _ _ _ _ _ _ _ _ _ _ _ _ _ _ _ _ _ _ _ _ _ _ _ _ _ _ _ _ _ _ _ _ _ _ _ _ _ _ _ _ _ _ _ _ _ _ _ _ _ _ _ _ _ _ _ _ _ _ _ _ _ _ _ _ _ _ _ _ _ _ _ _ _ _ _ _ _ _ _ _ _ _ _ _ _ _ _ _ _ _ _ _ _ _ _ _ _ _ _ _ _ _ _ _ _ _ _ _ _ _ _ _ _ _ _ _ _ _ _ _ _ _ _ _ _ _ _ _ _ _ _ _ _ _ _ _ _ _ _ _ _ _ _ _ _ _ _ _ _ _ _ _ _ _ _ _ _ _ _ _ _ _ _ _ _ _ _ _ _ _ _ _ _ _ _ _ _ _ _ _ _ _ _ _ _ _ _ _ _ (H3.drewN nq) hF ?_); first | exact fb_d HF.out (by omega) hL3 hRI (by with_reducible assumption) (by with_reducible assumption) rfl rfl | exact fb_e HF.out (by omega) hL3 hRI (by with_reducible assumption) (by with_reducible assumption) rfl (by omega) | exact fb_b HF.out (by omega) hL3 hRI (by with_reducible assumption) (by omega) (by with_reducible assumption) rfl rfl | exact fb_c HF.out (by omega) hL3 hRI (by with_reducible assumption) (by omega) (by with_reducible assumption) rfl (by omega))
 obtain ⟨n, hn1⟩ : ∃ n : Nat, -1022 - (ex - 1) = (n : Int) := ⟨(-1022 - (ex - 1)).toNat, by omega⟩
 have hn1' := Aside0.mk hn1
 clear hn1
 go_wp2_with fail
 rw [hn1'.out]
 refine (shiftAny_calls w0 _ g d' nd' 0 ng tr' n (by first | exact HD3.out | exact HD3.out.drewN _) (by have := hn1'.out; omega) hn' HI1.out hd00 (by omega)).mono ?_
 rintro e w' ⟨rfl, d2, nd2, dp2, tr2, H2, hn2, hd2, h02, hb2, hSA⟩
 have hn3' := hn1'.out
 have HF : Aside0 (∀ o, FB4 ng ⟨d2, nd2, dp2, tr2⟩ (-1022) o → R o) := ⟨fun o h => H3R.out o (.inl ⟨e7, _, by rw [hn3', Int.toNat_natCast]; exact hSA, h⟩)⟩
 have p0 := H2.cnd
 have p1 := H2.cdp
 have p2 := pw_cell_below H2.be hF.a
 have p3 := pw_cell_below H2.be hF.b
 have p4 := pw_cell_below H2.be hF.c
 go_wp2_with fail
 repeat (go_quiet (fail); try (go_wp2_with fail))
 refine (shiftL_calls w0 _ g d2 nd2 dp2 ng tr2 53 (by first | exact H2 | exact H2.drewN _) hT (by omega) hn2 hd2 h02 (by omega)).mono ?_
 rintro e w' ⟨rfl, d3, nd3, dp3, tr3, H3, hn3, hd3, h03, hb3, _, hL3⟩
 have q1 := pw_cell_below H3.be hF.a
 have q2 := pw_cell_below H3.be hF.b
 have q3 := pw_cell_below H3.be hF.c
 go_wp2_with fail
 refine (roundedInteger_calls w0 _ g d3 nd3 dp3 ng tr3 H3 hn3.2 hd3 (by omega)).mono ?_
 rintro e w' ⟨m, rfl, rfl, hRI⟩
 go_wp2_with fail
 all_goals (repeat (go_quiet (fail); try (go_wp2_with fail)))
 all_goals obtain ⟨hr, hr0, hr1, hg0, hg1⟩ := HA.out
 all_goals go_step3
 all_goals first
  | (refine hg1 _ _ ?_; (have hv : R (overV ng, true) := fb_a HF.out (by omega) hL3 hRI (by with_reducible assumption) (by omega)); first | exact fbOver_wp w0 _ g _ _ _ _ _ R Q1 hr1 _ _ _ _ _ _ _ _ _ _ _ _ _ _ _ _ _ _ _ _ _ _ _ _ _ _ _ _ _ _ _ _ _ _ _ _ _ _ _ _ _ _ _ _ _ _ _ _ _ _ _ _ _ _ _ _ _ _ _ _ _ _ _ _ _ _ _ _ _ _ _ _ _ _ _ _ _ _ _ _ _ _ _ _ _ _ _ _ _ _ _ _ _ _ _ _ _ _ _ _ _ _ _ _ _ _ _ _ _ _ _ _ _ _ _ _ _ _ _ _ _ _ _ _ _ _ _ _ _ _ _ _ _ _ _ _ _ _ _ _ _ _ _ _ _ _ _ _ _ _ _ _ _ _ _ _ _ _ _ _ _ _ _ _ _ _ _ _ _ _ _ _ _ _ _ _ _ _ _ _ _ _ _ H3 hF hv | exact fbOver_wp w0 _ g _ _ _ _ _ R Q1 hr1 _ _ _ _ _ _ _ _ _ _ _ _ _ _ _ _ _ _ _ _ _ _ _ _ _ _ _ _ _ _ _ _ _ _ _ _ _ _ _ _ _ _ _ _ _ _ _ _ _ _ _ _ _ _ _ _ _ _ _ _ _ _ _ _ _ _ _ _ _ _ _ _ _ _ _ _ _ _ _ _ _ _ _ _ _ _ _ _ _ _ _ _ _ _ _ _ _ _ _ _ _ _ _ _ _ _ _ _ _ _ _ _ _ _ _ _ _ _ _ _ _ _ _ _ _ _ _ _ _ _ _ _ _ _ _ _ _ _ _ _ _ _ _ _ _ _ _ _ _ _ _ _ _ _ _ _ _ _ _ _ _ _ _ _ _ _ _ _ _ _ _ _ _ _ _ _ _ _ _ _ _ _ _ (H3.drewN nq) hF hv)
  | (refine hg0 _ _ ?_; (first | refine fbOut_wp w0 _ g _ _ _ _ _ _ _ _ R Q0 hr0 _ _ _ _ _ _ _ _ _ _ _ _ _ _ _ _ _ _ _ _ _ _ _ _ _ _ _ _ _ _ _ _ _ _ _ _ _ _ _ _ _ _ _ _ _ _ _ _ _ _ _ _ _ _ _ _ _ _ _ _ _ _ _ _ _ _ _ _ _ _ _ _ _ _ _ _ _ _ _ _ _ _ _ _ _ _ _ _ _ _ _ _ _ _ _ _ _ _ _ _ _ _ _ _ _ _ _ _ _ _ _ _ _ _ _ _ _ _ _ _ _ _ _ _ _ _ _ _ _ _ _ _ _ _ _ _ _ _ _ _ _ _ _ _ _ _ _ _ _ _ _ _ _ _ _ _ _ _ _ _ _ _ _ _ _ _ _ _ _ _ _ _ _ _ _ _ _ _ _ _ _ _ _ _ _ _ _ _ _ _ _ H3 hF ?_ | refine fbOut_wp w0 _ g _ _ _ _ _ _ _ _ R Q0 hr0 _ _ _ _ _ _ _ _ _ _ _ _ _ _ _ _ _ _ _ _ _ _ _ _ _ _ _ _ _ _ _ _ _ _ _ _ _ _ _ _ _ _ _ _ _ _ _ _ _ _ _ _ _ _ _ _ _ _ _ _ _ _ _ _ _ _ _ _ _ _ _ _ _ _ _ _ _ _ _ _ _ _ _ _ _ _ _ _ _ _ _ _ _ _ _ _ _ _ _ _ _ _ _ _ _ _ _ _ _ _ _ _ _ _ _ _ _ _ _ _ _ _ _ _ _ _ _ _ _ _ _ _ _ _ _ _ _ _ _ _ _ _ _ _ _ _ _ _ _ _ _ _ _ _ _ _ _ _ _ _ _ _ _ _ _ _ _ _ _ _ _ _ _ _ _ _ _ _ _ _ _ _ _ _ _ _ _ _ _ _ _ (H3.drewN nq) hF ?_); first | exact fb_d HF.out (by omega) hL3 hRI (by with_reducible assumption) (by with_reducible assumption) rfl rfl | exact fb_e HF.out (by omega) hL3 hRI (by with_reducible assumption) (by with_reducible assumption) rfl (by omega) | exact fb_b HF.out (by omega) hL3 hRI (by with_reducible assumption) (by omega) (by with_reducible assumption) rfl rfl | exact fb_c HF.out (by omega) hL3 hRI (by with_reducible assumption) (by omega) (by with_reducible assumption) rfl (by omega))
theorem fb_out : findLabel fbBody 0 = some fbOut := by
 simp only [fbOut, fbBody, Tryz.f223, tlr, unsc, findLabel, Nat.reduceBEq, Bool.false_eq_true, ↓reduceIte, Option.getD_some, beq_self_eq_true]
theorem fb_over : findLabel fbBody 1 = some fbOver := by
 simp only [fbOver, fbBody, Tryz.f223, tlr, unsc, findLabel, Nat.reduceBEq, Bool.false_eq_true, ↓reduceIte, Option.getD_some, beq_self_eq_true]
theorem floatBits_calls (w0 w : World) (g : Nat) (d : Nat → Int) (nd : Nat) (dp : Int) (ng tr : Bool) (H : Dec w0 w g d nd dp ng tr) (hF : FI w0) (hT : Cheats w0) (hP : PowTab w0)
  (hn : nd ≤ 800) (hd : ∀ i, i < nd → 48 ≤ d i ∧ d i ≤ 57) (h0 : 0 < nd → d 0 ≠ 48) (hp : -2000000000 ≤ dp ∧ dp ≤ 2000000000) :
  Calls Tryz.prog 223 #[.pointer (some ⟨g, 0, none⟩), .pointer (some ⟨6, 0, none⟩)] w (FBPost w0 (FB ng ⟨d, nd, dp, tr⟩)) := by
 go_enter Tryz.func223, Tryz.ntmps223
 go_wp2_with fail
 refine wp_scope_fwd (c := fbBody) 2 ?_
 exact fbMain_wp w0 w g d nd dp ng tr H hF hT hP hn hd h0 hp _ (fun _ h => h) _ (jumpQ Tryz.prog fbBody (bodyPost Tryz.prog Tryz.f223 (FBPost w0 (FB ng ⟨d, nd, dp, tr⟩))) 1) (jumpQ Tryz.prog fbBody (bodyPost Tryz.prog Tryz.f223 (FBPost w0 (FB ng ⟨d, nd, dp, tr⟩))) 1) (fun _ _ h => h) (fun _ _ h => h) (fun _ _ h => h) (fun _ _ h => ⟨_, fb_out, h⟩) (fun _ _ h => ⟨_, fb_over, h⟩)
end Go.Proofs.YtgiioglmkogpkaaGreatDoor.F
namespace Go.Proofs
open Go.Shelf
end Go.Proofs

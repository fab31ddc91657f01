/- Texts behind the law FnGjString: part 1. -/
import Derived.Below
import Derived.Deep.Draws
import Derived.Deep.AppendLies
import Derived.Maps.AppendAt
import Derived.OwnWalk
import Derived.Laws.BytesArg
import Derived.Laws.MakeOwn
import Derived.Laws.OwnMore
import Derived.Deep.OwnRows
import Derived.Tactics
import Derived.Lib.ConvBytes
import Derived.Laws.Slices
import Derived.WalkKit
import Derived.KernelRfl
import Derived.RowKit3
import Derived.Deep.LoopGhost
import Derived.Deep.QuietTactic
import Derived.BigQuiet
import Derived.WideLaws
import Derived.Deep.DeepCutAuto
import Derived.Deep.CutBlock
import Derived.Deep.RegionHeld3
import Derived.Laws.Rows
import Derived.Lib.AppendStr
import Derived.ArgAppend
import Derived.Laws.IdiomCopy
import Derived.RowKit
import Derived.OrdersHeld
import Derived.Laws.BitsLemmas
import Derived.Laws.StructEq
import Derived.Test.YtgiioglmkogpkaaGreatDoorProg
import Derived.Shelf.Strconv.Itoa0
import Derived.Shelf.Strconv.Itoa1
import Derived.Shelf.LaysM
import Derived.Shelf.Strconv.Itoa2
import Derived.Shelf.Strconv.Clone
import Derived.Shelf.Strconv.Lower
import Derived.Shelf.Strconv.RangeError
import Derived.Shelf.LaysC
import Derived.Shelf.Strconv.ToErrorRange
import Derived.Shelf.Bits.Mul64
import Derived.Laws.Externs
import Derived.WalkLawsBesides
import Derived.Laws.FloatArith
import Derived.WalkMore
import GoSem.PinnedTables
set_option linter.unusedVariables false
set_option linter.unusedSimpArgs false
namespace Go.Proofs.YtgiioglmkogpkaaGreatDoorW.PrintWords
open Go.RowKit
structure Aside0 (p : Prop) : Prop where mk :: (out : p)
structure Drawn0 (w w' : World) : Prop where mk :: (out : ∃ n, w' = w.drewN n)
theorem Drawn0.refl (w : World) : Drawn0 w w := ⟨⟨0, rfl⟩⟩
theorem Drawn0.step {w w' : World} (h : Drawn0 w w') (n : Nat) : Drawn0 w (w'.drewN n) := by
 obtain ⟨m, rfl⟩ := h
 exact ⟨⟨m + n, World.drewN_drewN ..⟩⟩
theorem Drawn0.below {w w' : World} (h : Drawn0 w w') : Below w.heap.size w w' := by
 obtain ⟨n, rfl⟩ := h
 induction n with
 | zero => exact Below.refl _ _
 | succ n ih => rw [← World.drew_drewN]; exact ih.drew
def rd (xs : List Int) (i : Int) : Int := xs.getD i.toNat 0
def bt (s : ByteArray) (i : Int) : Int := if h : i.toNat < s.size then ((s[i.toNat]'h).toNat : Int) else 0
theorem bt_at (s : ByteArray) (i : Int) : ∀ h : i.toNat < s.size, ((s[i.toNat]'h).toNat : Int) = bt s i := fun h => by simp [bt, h]
theorem bt_range (s : ByteArray) (i : Int) : 0 ≤ bt s i ∧ bt s i ≤ 255 := by
 unfold bt
 split
 ·rename_i h
  have := (s[i.toNat]'h).toNat_lt
  omega
 ·omega
def nums (k : IntKind) (xs : List Int) : List Value := xs.map fun x => .int k x
theorem nums_length (k : IntKind) (xs : List Int) : (nums k xs).length = xs.length := by simp [nums]
theorem nums_append (k : IntKind) (xs ys : List Int) : nums k (xs ++ ys) = nums k xs ++ nums k ys := by simp [nums]
theorem below_alloc {w W : World} (h : Below w.heap.size w W) (o : Obj) : Below w.heap.size w (W.alloc o) := h.alloc h.size o
theorem below_drew {B : Nat} {w W : World} (h : Below B w W) : Below B w W.drew := ⟨h.os, h.tape, h.output, h.size, h.block⟩
theorem pw_below_drewN {B : Nat} {w W : World} (h : Below B w W) (n : Nat) : Below B w (W.drewN n) := ⟨h.os, h.tape, h.output, h.size, h.block⟩
theorem below_then {B : Nat} {w w1 w2 : World} (h : Below B w w1) (hB : B ≤ w1.heap.size) (k : Below w1.heap.size w1 w2) : Below B w w2 :=
 h.trans ⟨k.os, k.tape, k.output, k.size, fun i hi => k.block i (Nat.lt_of_lt_of_le hi hB)⟩
theorem grown_of_below {w w1 : World} (h : Below w.heap.size w w1) (row : Option Nat) : w.grownBy w1 row := ⟨h.os, h.tape, h.output, h.size, fun i hi _ => h.block i hi⟩
theorem pw_cell_below {w w1 : World} (h : Below w.heap.size w w1) {a : Addr} {v : Value} (hc : w.cell? a = some v) : w1.cell? a = some v := (h.cell (World.block_lt_of_cell? w a hc)).trans hc
theorem add_plain (g j : Nat) : (⟨g, 0, none⟩ : Addr).add j = ⟨g, j, none⟩ := by unfold Addr.add; split <;> simp_all
def ReadsInt (w : World) (k : IntKind) (A : Option Addr) (n : Nat) (xs : List Int) : Prop :=
 xs.length = n ∧ n ≤ 9223372036854775807 ∧ (0 < n → ∃ ad, A = some ad ∧ ∀ j, j < n → w.cell? (ad.add j) = some (.int k (xs.getD j 0)))
theorem own_nil (W : World) (base : Nat) (e : TypeId) (size : Nat) : W.ownsRow base e size (.slice none 0 0) 0 [] := ⟨by simp, .inl ⟨rfl, rfl⟩⟩
theorem own_base {w : World} {base : Nat} {e : TypeId} {size n : Nat} {v : Value} {xs : List Value} (h : w.ownsRow base e size v n xs) (k : Nat) (hk : v.ownBlock = some k) : base ≤ k := by
 rcases h.2 with ⟨rfl, _⟩ | ⟨g, cap, cur, rfl, hb, _⟩
 ·simp [Value.ownBlock] at hk
 ·have : g = k := by simpa [Value.ownBlock] using hk
  omega
theorem own_lt {w : World} {base : Nat} {e : TypeId} {size n : Nat} {v : Value} {xs : List Value} (h : w.ownsRow base e size v n xs) (k : Nat) (hk : v.ownBlock = some k) : k < w.heap.size := by
 rcases h.2 with ⟨rfl, _⟩ | ⟨g, cap, cur, rfl, hb, hh, _⟩
 ·simp [Value.ownBlock] at hk
 ·have : g = k := by simpa [Value.ownBlock] using hk
  subst this
  exact (Array.getElem?_eq_some_iff.1 hh).1
theorem own_string {P : Program} {w : World} {base n : Nat} {e' src dst e : TypeId} {v : Value} {xs : List Int} (hs : P.underlying src = some (.slice e)) (he : P.underlying e = some (.int .u8)) (hd : P.underlying dst = some .string)
  (h : w.ownsRow base e' 1 v n (nums .u8 xs)) : (convert src dst v).run P w = .ok (.string (strOfNums xs)) w := by
 have hl : xs.length = n := by have := h.1; simp [nums] at this; exact this
 rcases h.2 with ⟨rfl, rfl⟩ | ⟨g, cap, cur, rfl, _⟩
 ·obtain rfl : xs = [] := List.eq_nil_of_length_eq_zero hl
  exact run_convert_bytes_nil w src e hs he 0 0 dst hd
 ·refine run_convert_bytes_arg w src e hs he g 0 n cap xs hl (fun i hi => ?_) dst hd
  have hc := h.cells (g := g) rfl i (.int .u8 (xs.getD i 0)) (by simp [nums, List.getElem?_eq_getElem (show i < xs.length by omega), List.getD_eq_getElem?_getD])
  have ha : (⟨g, 0, none⟩ : Addr).add i = ⟨g, 0 + i, none⟩ := by unfold Addr.add; split <;> simp_all
  rwa [ha] at hc
section
variable {P : Program} {ops : Array Oper} {rest : List Oper} {o : Oper} {a : Act} {Q : Exit → Act → World → Prop}
theorem print_append {w0 W : World} (base : Nat) (hgd : o.guard = none) (s x : Operand) (t e : TypeId) (z : Value) (bytes : Nat)
  (ho : o.op = .call { callee := .builtin .append, args := #[s, x], argTypes := #[t, t] })
  (ht : P.underlying t = some (.slice e)) (hinfo : (P.info? e).map (fun i => (i.zero, i.size, i.bytes)) = some (some z, 1, bytes)) (hz : z.cells.size = 1) (hb0 : 0 < bytes)
  (v : Value) (xs : List Value) (y : Value) (hs : a.eval s = v) (hx : a.eval x = .slice (some ⟨W.heap.size, 0, none⟩) 1 1) (h1 : y.oneCell' = true)
  (HO : W.ownsRow base e 1 v xs.length xs) (HB : Below base w0 W) (hbase : base ≤ W.heap.size) (hl : (xs.length + 1) * bytes ≤ 140737488355328)
  (h : ∀ v1 w1, w1.ownsRow base e 1 v1 (xs ++ [y]).length (xs ++ [y]) → Below base w0 w1 → W.grownBy w1 v.ownBlock → (v1.ownBlock = v.ownBlock ∨ ∃ b, v1.ownBlock = some b ∧ W.heap.size ≤ b) → wpList P ops Q rest (a.put o.dst v1) w1) :
  wpList P ops Q (o :: rest) a (W.alloc (.cells #[y] e)) := by
 obtain ⟨i0, hi, hzz⟩ := Option.map_eq_some_iff.1 hinfo
 simp only [Prod.mk.injEq] at hzz
 obtain ⟨hz0, hz1, hz2⟩ := hzz
 have hlen : xs.length + 1 ≤ 140737488355328 := Nat.le_trans (Nat.le_mul_of_pos_right _ hb0) hl
 refine wpList_append_own_at (W.alloc (.cells #[y] e)) hgd s x t ho base e i0 z 1 bytes ht hi hz0 hz1 hz2 hz (by omega) v xs.length xs hs (HO.alloc _) ⟨W.heap.size, 0, none⟩ 1 1 [y] hx rfl
  (World.news_of_block (cs := #[y]) (t := e) (fr := (0, 0)) (heap_alloc_new W _)) (by simpa using h1) (by simp only [maxLen]; omega) hl (by simp; omega) ?_
 intro v1 w1 hown hg _ hat
 refine h v1 w1 (by simpa using hown) ((HB.alloc hbase _).grown hg (by simp; omega) (own_base HO)) (World.grownBy.trans (World.grownBy_alloc W _ _) hg) ?_
 rcases hat with hat | hat
 ·exact .inl hat
 ·exact .inr ⟨_, hat, by simp⟩
theorem print_append_num {w0 W : World} (base : Nat) (hgd : o.guard = none) (s x : Operand) (t e : TypeId) (k : IntKind) (bytes : Nat)
  (ho : o.op = .call { callee := .builtin .append, args := #[s, x], argTypes := #[t, t] })
  (ht : P.underlying t = some (.slice e)) (hinfo : (P.info? e).map (fun i => (i.zero, i.size, i.bytes)) = some (some (.int k 0), 1, bytes)) (hb0 : 0 < bytes)
  (v : Value) (xs : List Int) (y : Int) (hs : a.eval s = v) (hx : a.eval x = .slice (some ⟨W.heap.size, 0, none⟩) 1 1)
  (HO : W.ownsRow base e 1 v xs.length (nums k xs)) (HB : Below base w0 W) (hbase : base ≤ W.heap.size) (hl : (xs.length + 1) * bytes ≤ 140737488355328)
  (h : ∀ v1 w1, w1.ownsRow base e 1 v1 (xs ++ [y]).length (nums k (xs ++ [y])) → Below base w0 w1 → W.grownBy w1 v.ownBlock → (v1.ownBlock = v.ownBlock ∨ ∃ b, v1.ownBlock = some b ∧ W.heap.size ≤ b) → wpList P ops Q rest (a.put o.dst v1) w1) :
  wpList P ops Q (o :: rest) a (W.alloc (.cells #[.int k y] e)) :=
 print_append base hgd s x t e (.int k 0) bytes ho ht hinfo rfl hb0 v (nums k xs) (.int k y) hs hx rfl (by rw [nums_length]; exact HO) HB hbase (by rw [nums_length]; exact hl)
  fun v1 w1 hown hB hg hat => h v1 w1 (by simpa [nums] using hown) hB hg hat
end
section
variable {P : Program}
end
theorem own_at {W : World} {base g n cap : Nat} {e : TypeId} {k : IntKind} {xs : List Int} (h : W.ownsRow base e 1 (.slice (some ⟨g, 0, none⟩) n cap) n (nums k xs)) (i : Int) (h0 : 0 ≤ i) (h1 : i < n) :
  W.cell? ⟨g, i.toNat, none⟩ = some (.int k (rd xs i)) ∧ W.frozen? ⟨g, i.toNat, none⟩ = false := by
 have hl : xs.length = n := by have := h.1; simp [nums] at this; exact this
 constructor
 ·have hc := h.cells (g := g) rfl i.toNat (.int k (rd xs i)) (by simp [nums, rd, List.getElem?_eq_getElem (show i.toNat < xs.length by omega), List.getD_eq_getElem?_getD])
  rwa [add_plain] at hc
 ·rcases h.2 with ⟨h', _⟩ | ⟨g', cap', cur, h', _, hh, _⟩
  ·cases h'
  ·have : g = g' := by injection h' with h'; injection h' with h'; injection h' with h'
   subst this
   simp [World.frozen?, hh]
theorem own_store {W : World} {base g n cap : Nat} {e : TypeId} {k : IntKind} {xs : List Int} (h : W.ownsRow base e 1 (.slice (some ⟨g, 0, none⟩) n cap) n (nums k xs)) (i x : Int) :
  (W.setCell ⟨g, i.toNat, none⟩ (.int k x)).ownsRow base e 1 (.slice (some ⟨g, 0, none⟩) n cap) n (nums k (xs.set i.toNat x)) ∧ W.grownBy (W.setCell ⟨g, i.toNat, none⟩ (.int k x)) (some g) := by
 have hs := h.stored i.toNat (.int k x)
 have he : (nums k xs).set i.toNat (.int k x) = nums k (xs.set i.toNat x) := by simp [nums, List.map_set]
 rwa [he] at hs
section
variable {P : Program} {ops : Array Oper} {rest : List Oper} {o : Oper} {a : Act} {Q : Exit → Act → World → Prop}
end
def bytesOf (s : ByteArray) : List Int := s.data.toList.map fun b => (b.toNat : Int)
theorem data_length (s : ByteArray) : s.data.toList.length = s.size := by rw [Array.length_toList]; rfl
theorem bytesOf_length (s : ByteArray) : (bytesOf s).length = s.size := by rw [bytesOf, List.length_map, data_length]
theorem rd_bytesOf (s : ByteArray) (i : Int) : rd (bytesOf s) i = bt s i := by
 unfold rd bt bytesOf
 split
 ·rename_i h
  have h' : i.toNat < s.data.toList.length := by rw [data_length]; exact h
  simp [List.getD_eq_getElem?_getD, List.getElem?_eq_getElem h']
  rfl
 ·rename_i h
  have h' : s.data.toList.length ≤ i.toNat := by rw [data_length]; omega
  simp [List.getD_eq_getElem?_getD, List.getElem?_eq_none h']
theorem bytes_reads (W : World) (e : TypeId) (s : ByteArray) (hs : s.size ≤ 9223372036854775807) : ReadsInt (Lib.bytesWorld W e s) .u8 (some ⟨W.heap.size, 0, none⟩) s.size (bytesOf s) := by
 refine ⟨bytesOf_length s, hs, fun _ => ⟨_, rfl, fun j hj => ?_⟩⟩
 rw [add_plain, Lib.bytesWorld_cell W e s j hj]
 have h' : j < s.data.toList.length := by rw [data_length]; exact hj
 simp [bytesOf, List.getD_eq_getElem?_getD, List.getElem?_eq_getElem h']
theorem bytes_below {B : Nat} {w W : World} (h : Below B w W) (hB : B ≤ W.heap.size) (e : TypeId) (s : ByteArray) : Below B w (Lib.bytesWorld W e s) :=
 h.trans ⟨rfl, rfl, rfl, by rw [Lib.bytesWorld_size]; omega, fun i hi => Lib.bytesWorld_at_old W e s i (by omega)⟩
def Reps {α : Type} (R : α → List Value → Prop) (size : Nat) (ps : List α) (cs : List Value) : Prop :=
 cs.length = ps.length * size ∧ ∀ j p, ps[j]? = some p → R p ((cs.drop (j * size)).take size)
theorem Reps.none {α : Type} (R : α → List Value → Prop) (size : Nat) : Reps R size [] [] := ⟨by simp, fun j p h => by simp at h⟩
theorem Reps.snoc {α : Type} {R : α → List Value → Prop} {size : Nat} {ps : List α} {cs c : List Value} {p : α} (h : Reps R size ps cs) (hp : R p c) (hc : c.length = size) : Reps R size (ps ++ [p]) (cs ++ c) := by
 refine ⟨by rw [List.length_append, h.1, hc, List.length_append, List.length_singleton, Nat.add_mul, Nat.one_mul], fun j q hq => ?_⟩
 rcases Nat.lt_or_ge j ps.length with hj | hj
 ·rw [List.getElem?_append_left hj] at hq
  have h1 : j * size + size ≤ cs.length := by rw [h.1, ← Nat.succ_mul]; exact Nat.mul_le_mul_right _ hj
  have h2 := h.2 j q hq
  rw [List.drop_append_of_le_length (by omega), List.take_append_of_le_length (by rw [List.length_drop]; omega)]
  exact h2
 ·have hj' : j = ps.length := by
   have := (List.getElem?_eq_some_iff.1 hq).1
   rw [List.length_append, List.length_singleton] at this
   omega
  subst hj'
  have hq' : p = q := by simpa using hq
  subst hq'
  rw [← h.1, List.drop_left, ← hc, List.take_length]
  exact hp
theorem Reps.imp_ {α : Type} {R R' : α → List Value → Prop} {size : Nat} {ps : List α} {cs : List Value} (h : Reps R size ps cs) (hR : ∀ p c, R p c → R' p c) : Reps R' size ps cs := ⟨h.1, fun j p hj => hR _ _ (h.2 j p hj)⟩
def ReadsRow {α : Type} (R : α → List Value → Prop) (size : Nat) (w : World) (A : Option Addr) (n : Nat) (ps : List α) : Prop :=
 ps.length = n ∧ n ≤ 9223372036854775807 ∧ (0 < n → ∃ ad, A = some ad ∧ ∀ j p, ps[j]? = some p → ∃ c, c.length = size ∧ R p c ∧ ∀ i u, c[i]? = some u → w.cell? (ad.add (j * size + i)) = some u)
theorem ReadsRow.get_ {α : Type} {R : α → List Value → Prop} {size : Nat} {w : World} {A : Option Addr} {n : Nat} {ps : List α} (h : ReadsRow R size w A n ps) (d : α) (i : Int) (h0 : 0 ≤ i) (h1 : i < n) :
  ∃ ad c, A = some ad ∧ c.length = size ∧ R (ps.getD i.toNat d) c ∧ ∀ j u, c[j]? = some u → w.cell? (ad.add (i.toNat * size + j)) = some u := by
 obtain ⟨ad, e, hc⟩ := h.2.2 (by omega)
 have hl : i.toNat < ps.length := by have := h.1; omega
 obtain ⟨c, hs, hr, hcell⟩ := hc i.toNat _ (List.getElem?_eq_getElem hl)
 refine ⟨ad, c, e, hs, ?_, hcell⟩
 rw [List.getD_eq_getElem?_getD, List.getElem?_eq_getElem hl]
 exact hr
theorem ReadsRow.imp_ {α : Type} {R R' : α → List Value → Prop} {size : Nat} {w w1 : World} {A : Option Addr} {n : Nat} {ps : List α} (h : ReadsRow R size w A n ps) (hb : Below w.heap.size w w1) (hR : ∀ p c, R p c → R' p c) : ReadsRow R' size w1 A n ps :=
 ⟨h.1, h.2.1, fun hn => by
  obtain ⟨ad, e, hc⟩ := h.2.2 hn
  refine ⟨ad, e, fun j p hj => ?_⟩
  obtain ⟨c, hs, hr, hcell⟩ := hc j p hj
  exact ⟨c, hs, hR _ _ hr, fun i u hu => pw_cell_below hb (hcell i u hu)⟩⟩
theorem own_reads_row {α : Type} {R : α → List Value → Prop} {w : World} {base n size : Nat} {e : TypeId} {v : Value} {ps : List α} {cs : List Value} (h : w.ownsRow base e size v n cs) (hR : Reps R size ps cs) (hn : ps.length = n) :
  ∃ A c, v = .slice A n c ∧ ReadsRow R size w A n ps := by
 rcases Nat.eq_zero_or_pos n with h0 | h0
 ·rcases h.2 with ⟨rfl, rfl⟩ | ⟨g, cap, cur, rfl, _⟩
  ·exact ⟨none, 0, rfl, hn, by omega, fun hp => absurd hp (by omega)⟩
  ·exact ⟨_, cap, rfl, hn, by omega, fun hp => absurd hp (by omega)⟩
 ·obtain ⟨g, cap, rfl, _, _⟩ := h.form h0
  have hm : n ≤ 9223372036854775807 := by
   rcases h.2 with ⟨_, h1⟩ | ⟨g', cap', cur, he, _, _, h1, h2, _⟩
   ·omega
   ·simp only [maxLen] at h2
    omega
  refine ⟨_, cap, rfl, hn, hm, fun _ => ⟨_, rfl, fun j p hj => ⟨(cs.drop (j * size)).take size, ?_, hR.2 j p hj, fun i u hu => ?_⟩⟩⟩
  ·have hjl := (List.getElem?_eq_some_iff.1 hj).1
   have h1 : j * size + size ≤ cs.length := by rw [hR.1, ← Nat.succ_mul]; exact Nat.mul_le_mul_right _ hjl
   rw [List.length_take, List.length_drop]
   omega
  ·refine h.cells (g := g) rfl _ u ?_
   rw [List.getElem?_take] at hu
   split at hu
   ·rw [List.getElem?_drop] at hu
    exact hu
   ·cases hu
theorem add_field (ad : Addr) (m j : Nat) (hj : 0 < j) : ad.add (m + j) = ⟨(ad.add m).block, (ad.add m).off + j, none⟩ := by
 unfold Addr.add
 by_cases hm : m = 0
 ·subst hm
  simp [Nat.ne_of_gt hj]
 ·simp [hm, Nat.add_assoc]
section
variable {P : Program} {ops : Array Oper} {rest : List Oper} {o : Oper} {a : Act} {Q : Exit → Act → World → Prop}
theorem print_append_cells {w0 W : World} (base : Nat) (hgd : o.guard = none) (s x : Operand) (t e : TypeId) (z : Value) (size bytes : Nat)
  (ho : o.op = .call { callee := .builtin .append, args := #[s, x], argTypes := #[t, t] })
  (ht : P.underlying t = some (.slice e)) (hinfo : (P.info? e).map (fun i => (i.zero, i.size, i.bytes)) = some (some z, size, bytes)) (hz : z.cells.size = size) (hs0 : 0 < size) (hb0 : 0 < bytes)
  (v : Value) (n : Nat) (xs ys : List Value) (hs : a.eval s = v) (hx : a.eval x = .slice (some ⟨W.heap.size, 0, none⟩) 1 1) (hys : ys.length = size) (h1 : ∀ u ∈ ys, u.oneCell' = true)
  (HO : W.ownsRow base e size v n xs) (HB : Below base w0 W) (hbase : base ≤ W.heap.size) (hl : (n + 1) * bytes ≤ 140737488355328)
  (h : ∀ v1 w1, w1.ownsRow base e size v1 (n + 1) (xs ++ ys) → Below base w0 w1 → W.grownBy w1 v.ownBlock → (v1.ownBlock = v.ownBlock ∨ ∃ b, v1.ownBlock = some b ∧ W.heap.size ≤ b) → wpList P ops Q rest (a.put o.dst v1) w1) :
  wpList P ops Q (o :: rest) a (W.alloc (.cells ys.toArray e)) := by
 obtain ⟨i0, hi, hzz⟩ := Option.map_eq_some_iff.1 hinfo
 simp only [Prod.mk.injEq] at hzz
 obtain ⟨hz0, hz1, hz2⟩ := hzz
 have hlen : n + 1 ≤ 140737488355328 := Nat.le_trans (Nat.le_mul_of_pos_right _ hb0) hl
 refine wpList_append_own_at (W.alloc (.cells ys.toArray e)) hgd s x t ho base e i0 z size bytes ht hi hz0 hz1 hz2 hz hs0 v n xs hs (HO.alloc _) ⟨W.heap.size, 0, none⟩ 1 1 ys hx (by rw [hys]; simp)
  (by simpa using World.news_of_block (cs := ys.toArray) (t := e) (fr := (0, 0)) (heap_alloc_new W (.cells ys.toArray e))) h1 (by simp only [maxLen]; omega) hl (by simp; omega) ?_
 intro v1 w1 hown hg _ hat
 refine h v1 w1 hown ((HB.alloc hbase _).grown hg (by simp; omega) (own_base HO)) (World.grownBy.trans (World.grownBy_alloc W _ _) hg) ?_
 rcases hat with hat | hat
 ·exact .inl hat
 ·exact .inr ⟨_, hat, by simp⟩
end
theorem own_ne {w : World} {base : Nat} {e t : TypeId} {size n g : Nat} {v : Value} {xs : List Value} {cs : Array Value} (h : w.ownsRow base e size v n xs) (hg : w.heap[g]? = some (.cells cs t (0, 0))) (hne : e ≠ t) : some g ≠ v.ownBlock := by
 rcases h.2 with ⟨rfl, _⟩ | ⟨g', cap, cur, rfl, _, hh, _⟩
 ·simp [Value.ownBlock]
 ·intro he
  have : g = g' := by simpa [Value.ownBlock] using he
  subst this
  rw [hg] at hh
  injection hh with hh
  injection hh with _ ht
  exact hne ht.symm
theorem blk_set {w : World} {g : Nat} {t : TypeId} {cs : Array Value} (h : w.heap[g]? = some (.cells cs t (0, 0))) (i : Nat) (u : Value) : (w.setCell ⟨g, i, none⟩ u).heap[g]? = some (.cells (cs.setIfInBounds i u) t (0, 0)) := by
 simp [World.setCell, Array.getElem?_modify, h]
theorem blk_far {w : World} {g : Nat} {t : TypeId} {cs : Array Value} (h : w.heap[g]? = some (.cells cs t (0, 0))) {p : Addr} (hp : g ≠ p.block) (u : Value) : (w.setCell p u).heap[g]? = some (.cells cs t (0, 0)) := (Below.heap_setCell w p u g hp).trans h
theorem blk_lt {w : World} {g : Nat} {o : Obj} (h : w.heap[g]? = some o) : g < w.heap.size := (Array.getElem?_eq_some_iff.1 h).1
theorem blk_cell {w : World} {g : Nat} {t : TypeId} {cs : Array Value} (h : w.heap[g]? = some (.cells cs t (0, 0))) (i : Nat) : w.cell? ⟨g, i, none⟩ = cs[i]? := cell_of_row w g i cs t (0, 0) h
theorem blk_frozen {w : World} {g : Nat} {t : TypeId} {cs : Array Value} (h : w.heap[g]? = some (.cells cs t (0, 0))) (i : Nat) : w.frozen? ⟨g, i, none⟩ = false := by simp [World.frozen?, h]
theorem blk_grown {w w1 : World} {g : Nat} {o : Obj} {row : Option Nat} (h : w.heap[g]? = some o) (hg : w.grownBy w1 row) (hne : some g ≠ row) : w1.heap[g]? = some o := (hg.block g (blk_lt h) hne).trans h
def KeepBut (w w' : World) (g : Nat) (row : Option Nat) : Prop := w.heap.size ≤ w'.heap.size ∧ ∀ i, i < w.heap.size → i ≠ g → some i ≠ row → w'.heap[i]? = w.heap[i]?
theorem KeepBut.refl (w : World) (g : Nat) (row : Option Nat) : KeepBut w w g row := ⟨Nat.le_refl _, fun _ _ _ _ => rfl⟩
theorem KeepBut.of_grown {w w1 : World} {row : Option Nat} (h : w.grownBy w1 row) (g : Nat) : KeepBut w w1 g row := ⟨h.size, fun i hi _ hr => h.block i hi hr⟩
theorem KeepBut.of_below {w w1 : World} (h : Below w.heap.size w w1) (g : Nat) (row : Option Nat) : KeepBut w w1 g row := ⟨h.size, fun i hi _ _ => h.block i hi⟩
theorem KeepBut.set_ {w w1 : World} {g : Nat} {row : Option Nat} (h : KeepBut w w1 g row) (j : Nat) (u : Value) : KeepBut w (w1.setCell ⟨g, j, none⟩ u) g row :=
 ⟨by simpa [World.setCell] using h.1, fun i hi hg hr => (Below.heap_setCell w1 ⟨g, j, none⟩ u i hg).trans (h.2 i hi hg hr)⟩
theorem KeepBut.trans {w w1 w2 : World} {g : Nat} {row row1 : Option Nat} (h : KeepBut w w1 g row) (k : KeepBut w1 w2 g row1) (hr : row1 = row ∨ ∃ b, row1 = some b ∧ w.heap.size ≤ b) : KeepBut w w2 g row :=
 ⟨Nat.le_trans h.1 k.1, fun i hi hg hn => by
  refine (k.2 i (Nat.lt_of_lt_of_le hi h.1) hg ?_).trans (h.2 i hi hg hn)
  rcases hr with rfl | ⟨b, rfl, hb⟩
  ·exact hn
  ·intro e
   injection e with e
   omega⟩
theorem KeepBut.blk {w w1 : World} {g g' : Nat} {row : Option Nat} {o : Obj} (h : KeepBut w w1 g row) (hb : w.heap[g']? = some o) (hg : g' ≠ g) (hr : some g' ≠ row) : w1.heap[g']? = some o := (h.2 g' (blk_lt hb) hg hr).trans hb
theorem KeepBut.own {w w1 : World} {g : Nat} {row : Option Nat} {base : Nat} {e : TypeId} {size n : Nat} {v : Value} {xs : List Value} (h : KeepBut w w1 g row) (ho : w.ownsRow base e size v n xs) (hg : v.ownBlock ≠ some g) (hr : v.ownBlock = none ∨ v.ownBlock ≠ row) : w1.ownsRow base e size v n xs := by
 obtain ⟨h1, h2⟩ := ho
 refine ⟨h1, ?_⟩
 rcases h2 with h2 | ⟨b, cap, cur, rfl, hb, hh, r⟩
 ·exact .inl h2
 ·refine .inr ⟨b, cap, cur, rfl, hb, h.blk hh ?_ ?_, r⟩
  ·intro e
   exact hg (by rw [← e]; rfl)
  ·rcases hr with hr | hr
   ·simp [Value.ownBlock] at hr
   ·exact hr
def Ev {α : Type} (g : Nat → Option α) (r : α) : Prop := ∃ K, ∀ k, K ≤ k → g k = some r
theorem Ev.now {α : Type} (r : α) : Ev (fun _ => some r) r := ⟨0, fun _ _ => rfl⟩
theorem Ev.bind {α β : Type} {g : Nat → Option α} {f : Nat → α → Option β} {a : α} {r : β} (h : Ev g a) (k : Ev (fun n => f n a) r) : Ev (fun n => (g n).bind (f n)) r := by
 obtain ⟨K, h⟩ := h
 obtain ⟨K', k⟩ := k
 refine ⟨max K K', fun n hn => ?_⟩
 have h1 := h n (by omega)
 have h2 := k n (by omega)
 simp only [h1, Option.bind_some]
 exact h2
theorem Ev.step {α : Type} {g f : Nat → Option α} {r : α} (h : ∀ k, g (k + 1) = f k) (k : Ev f r) : Ev g r := by
 obtain ⟨K, k⟩ := k
 refine ⟨K + 1, fun n hn => ?_⟩
 obtain ⟨m, rfl⟩ : ∃ m, n = m + 1 := ⟨n - 1, by omega⟩
 rw [h]
 exact k m (by omega)
theorem Ev.congr {α : Type} {g f : Nat → Option α} {r : α} (h : ∀ k, g k = f k) (k : Ev f r) : Ev g r := by
 obtain ⟨K, k⟩ := k
 exact ⟨K, fun n hn => (h n).trans (k n hn)⟩
section
variable {P : Program} {ops : Array Oper} {o : Oper} {a : Act} {Q : Exit → Act → World → Prop} {K : Act → World → Prop}
theorem step_append_cells {w0 W : World} (base : Nat) (hw : Region.wanted o (yielded ops a.tmps) = true) (s x : Operand) (t e : TypeId) (z : Value) (size bytes : Nat)
  (ho : o.op = .call { callee := .builtin .append, args := #[s, x], argTypes := #[t, t] })
  (ht : P.underlying t = some (.slice e)) (hinfo : (P.info? e).map (fun i => (i.zero, i.size, i.bytes)) = some (some z, size, bytes)) (hz : z.cells.size = size) (hs0 : 0 < size) (hb0 : 0 < bytes)
  (v : Value) (n : Nat) (xs ys : List Value) (hs : a.eval s = v) (hx : a.eval x = .slice (some ⟨W.heap.size, 0, none⟩) 1 1) (hys : ys.length = size) (h1 : ∀ u ∈ ys, u.oneCell' = true)
  (HO : W.ownsRow base e size v n xs) (HB : Below base w0 W) (hbase : base ≤ W.heap.size) (hl : (n + 1) * bytes ≤ 140737488355328)
  (h : ∀ v1 w1, w1.ownsRow base e size v1 (n + 1) (xs ++ ys) → Below base w0 w1 → W.grownBy w1 v.ownBlock → (v1.ownBlock = v.ownBlock ∨ ∃ b, v1.ownBlock = some b ∧ W.heap.size ≤ b) → K (a.put o.dst v1) w1) :
  if Region.wanted o (yielded ops a.tmps) = true then Oper.wp P o a (W.alloc (.cells ys.toArray e)) K Q else K (a.put o.dst undef) (W.alloc (.cells ys.toArray e)) := by
 obtain ⟨i0, hi, hzz⟩ := Option.map_eq_some_iff.1 hinfo
 simp only [Prod.mk.injEq] at hzz
 obtain ⟨hz0, hz1, hz2⟩ := hzz
 have hlen : n + 1 ≤ 140737488355328 := Nat.le_trans (Nat.le_mul_of_pos_right _ hb0) hl
 rw [if_pos hw]
 obtain ⟨v1, w1, hr, hown, hg, _, hat⟩ := run_append_own_at (P := P) (W.alloc (.cells ys.toArray e)) base t o.type e i0 z size bytes ht hi hz0 hz1 hz2 hz hs0 v n xs (HO.alloc _) ⟨W.heap.size, 0, none⟩ 1 1 ys (by rw [hys]; simp)
  (by simpa using World.news_of_block (cs := ys.toArray) (t := e) (fr := (0, 0)) (heap_alloc_new W (.cells ys.toArray e))) h1 (by simp only [maxLen]; omega) hl (by simp; omega)
 unfold Oper.wp execOp
 simp only [ho, resolve, invoke, builtin, Sem.run_bind, Sem.run_pure, Result.andThen_ok, List.map_toArray, List.map_cons, List.map_nil, hs, hx, hr]
 refine h v1 w1 hown ((HB.alloc hbase _).grown hg (by simp; omega) (own_base HO)) (World.grownBy.trans (World.grownBy_alloc W _ _) hg) ?_
 rcases hat with hat | hat
 ·exact .inl hat
 ·exact .inr ⟨_, hat, by simp⟩
end
theorem own_weaken {w : World} {base base' : Nat} {e : TypeId} {size n : Nat} {v : Value} {xs : List Value} (h : w.ownsRow base e size v n xs) (hb : base' ≤ base) : w.ownsRow base' e size v n xs := by
 obtain ⟨h1, h2⟩ := h
 refine ⟨h1, ?_⟩
 rcases h2 with h2 | ⟨g, cap, cur, rfl, hg, r⟩
 ·exact .inl h2
 ·exact .inr ⟨g, cap, cur, rfl, Nat.le_trans hb hg, r⟩
section
variable {α : Type} {enc : α → Value} {d : α}
def encs (enc : α → Value) (xs : List α) : List Value := xs.map enc
def rdOf (d : α) (xs : List α) (i : Int) : α := xs.getD i.toNat d
theorem encs_length (xs : List α) : (encs enc xs).length = xs.length := by simp [encs]
def ReadsOf (enc : α → Value) (d : α) (w : World) (A : Option Addr) (n : Nat) (xs : List α) : Prop :=
 xs.length = n ∧ n ≤ 9223372036854775807 ∧ (0 < n → ∃ ad, A = some ad ∧ ∀ j, j < n → w.cell? (ad.add j) = some (enc (xs.getD j d)))
theorem ReadsOf.at_ {w : World} {A : Option Addr} {n : Nat} {xs : List α} (h : ReadsOf enc d w A n xs) (i : Int) (h0 : 0 ≤ i) (h1 : i < n) : ∃ ad, A = some ad ∧ w.cell? (ad.add i.toNat) = some (enc (rdOf d xs i)) := by
 obtain ⟨ad, e, hc⟩ := h.2.2 (by omega)
 exact ⟨ad, e, hc _ (by omega)⟩
end
section
variable {α : Type} {P : Program} {ops : Array Oper} {rest : List Oper} {o : Oper} {a : Act} {Q : Exit → Act → World → Prop}
end
theorem blk_alloc {w : World} {g : Nat} {o : Obj} (h : w.heap[g]? = some o) (o' : Obj) : (w.alloc o').heap[g]? = some o := (Below.heap_alloc w o' g (blk_lt h)).trans h
theorem blk_drew {w : World} {g : Nat} {o : Obj} (h : w.heap[g]? = some o) : w.drew.heap[g]? = some o := h
theorem blk_below {w w1 : World} {g : Nat} {o : Obj} (h : w.heap[g]? = some o) (hb : Below w.heap.size w w1) : w1.heap[g]? = some o := (hb.block g (blk_lt h)).trans h
theorem blk_new (w : World) (o : Obj) : (w.alloc o).heap[w.heap.size]? = some o := heap_alloc_new w o
section
variable {P : Program}
theorem results_ct {fn : Func} {p u : Tmp} {ty : TypeId} (h : fn.results = #[.cell p ty, .tmp u]) (tmps : Array Value) (w : World) (g : Nat) (t : TypeId) (cs : Array Value) (fr : Nat × Nat) (d : TypeDesc)
  (hp : tmps.getD p undef = .pointer (some ⟨g, 0, none⟩)) (hg : w.heap[g]? = some (.cells cs t fr))
  (hu : P.underlying ty = some d) (hd : (match d with | .struct _ | .array _ _ => true | _ => false) = true) (hi : (P.info? ty).map (·.size) = some cs.size) :
  (results fn tmps).run P w = .ok (.tuple #[.agg cs, tmps.getD u undef]) w := by
 have hp' : tmps[p]?.getD undef = .pointer (some ⟨g, 0, none⟩) := by simpa using hp
 simp [results, h, hp', asAddr, run_loadVar_row w g t ty cs fr d hg hu hd hi]
end
theorem own_le {w : World} {base n m c size : Nat} {e : TypeId} {A : Option Addr} {xs : List Value} (h : w.ownsRow base e size (.slice A m c) n xs) : m ≤ c := by
 rcases h.2 with ⟨he, _⟩ | ⟨g, cap, cur, he, _, _, hnc, _⟩
 ·injection he with _ h2 h3
  omega
 ·injection he with _ h2 h3
  omega
def OwnRow {α : Type} (R : α → List Value → Prop) (e : TypeId) (size : Nat) (w : World) (base : Nat) (v : Value) (ps : List α) : Prop :=
 ∃ inner, w.ownsRow base e size v ps.length inner ∧ Reps R size ps inner
section
variable {α : Type} {R R' : α → List Value → Prop} {e : TypeId} {size : Nat} {w w1 : World} {base : Nat} {v : Value} {ps : List α}
theorem OwnRow.none_ (R : α → List Value → Prop) (e : TypeId) (size : Nat) (w : World) (base : Nat) : OwnRow R e size w base (.slice none 0 0) [] := ⟨[], own_nil _ _ _ _, Reps.none _ _⟩
theorem OwnRow.imp_ (h : OwnRow R e size w base v ps) (hR : ∀ p c, R p c → R' p c) : OwnRow R' e size w base v ps := by
 obtain ⟨inner, ho, hr⟩ := h
 exact ⟨inner, ho, hr.imp_ hR⟩
theorem OwnRow.reads (h : OwnRow R e size w base v ps) : ∃ A c, v = .slice A ps.length c ∧ ps.length ≤ c ∧ ReadsRow R size w A ps.length ps := by
 obtain ⟨inner, ho, hr⟩ := h
 obtain ⟨A, c, rfl, hrow⟩ := own_reads_row ho hr rfl
 exact ⟨A, c, rfl, own_le ho, hrow⟩
theorem OwnRow.ne_block (h : OwnRow R e size w base v ps) {g : Nat} {t : TypeId} {cells : Array Value} (hb : w.heap[g]? = some (.cells cells t (0, 0))) (ht : e ≠ t) : some g ≠ v.ownBlock := by
 obtain ⟨inner, ho, hr⟩ := h
 exact own_ne ho hb ht
end
section
variable {P : Program} {ops : Array Oper} {rest : List Oper} {o : Oper} {a : Act} {Q : Exit → Act → World → Prop} {α : Type} {R : α → List Value → Prop}
end
section
variable {P : Program} {ops : Array Oper} {o : Oper} {a : Act} {Q : Exit → Act → World → Prop} {K : Act → World → Prop} {α : Type} {R : α → List Value → Prop}
end
theorem ReadsRow.inner_ {α : Type} {R : α → List Value → Prop} {size : Nat} {w : World} {ad : Addr} {n : Nat} {ps : List α} (h : ReadsRow R size w (some ad) n ps) :
  ∃ inner, Reps R size ps inner ∧ ∀ j u, inner[j]? = some u → w.cell? (ad.add j) = some u := by
 have key : ∀ m, m ≤ ps.length → ∃ inner, Reps R size (ps.take m) inner ∧ ∀ j u, inner[j]? = some u → w.cell? (ad.add j) = some u := by
  intro m
  induction m with
  | zero => exact fun _ => ⟨[], Reps.none _ _, fun j u hu => by simp at hu⟩
  | succ m ih =>
   intro hm
   obtain ⟨inner, hr, hc⟩ := ih (by omega)
   obtain ⟨ad', he, hcell⟩ := h.2.2 (by have := h.1; omega)
   injection he with he
   subst he
   obtain ⟨c, hcl, hp, hcc⟩ := hcell m _ (List.getElem?_eq_getElem (show m < ps.length by omega))
   refine ⟨inner ++ c, ?_, fun j u hu => ?_⟩
   ·rw [List.take_succ_eq_append_getElem (show m < ps.length by omega)]
    exact hr.snoc hp hcl
   ·have hil : inner.length = m * size := by rw [hr.1, List.length_take, Nat.min_eq_left (by omega)]
    rcases Nat.lt_or_ge j inner.length with hj | hj
    ·rw [List.getElem?_append_left hj] at hu
     exact hc j u hu
    ·rw [List.getElem?_append_right hj] at hu
     have := hcc (j - inner.length) u hu
     rwa [hil, Nat.add_sub_cancel' (by omega)] at this
 obtain ⟨inner, hr, hc⟩ := key ps.length (Nat.le_refl _)
 rw [List.take_length] at hr
 exact ⟨inner, hr, hc⟩
section
variable {α : Type} {P : Program}
end
section
variable {P : Program} {ops : Array Oper} {rest : List Oper} {o : Oper} {a : Act} {Q : Exit → Act → World → Prop}
theorem print_append_str {w0 W : World} (base : Nat) (hgd : o.guard = none) (s x : Operand) (t u e : TypeId)
  (ho : o.op = .call { callee := .builtin .append, args := #[s, x], argTypes := #[t, u] })
  (ht : P.underlying t = some (.slice e)) (hu : P.underlying u = some .string) (hinfo : (P.info? e).map (fun i => (i.zero, i.size, i.bytes)) = some (some (.int .u8 0), 1, 1))
  (v : Value) (xs : List Int) (y : ByteArray) (hs : a.eval s = v) (hx : a.eval x = .string y)
  (HO : W.ownsRow base e 1 v xs.length (nums .u8 xs)) (HB : Below base w0 W) (hbase : base ≤ W.heap.size) (hl : xs.length + y.size ≤ 140737488355328)
  (h : ∀ v1 w1, w1.ownsRow base e 1 v1 (xs ++ bytesOf y).length (nums .u8 (xs ++ bytesOf y)) → Below base w0 w1 → W.grownBy w1 v.ownBlock → wpList P ops Q rest (a.put o.dst v1) w1) :
  wpList P ops Q (o :: rest) a W := by
 obtain ⟨i0, hi, hzz⟩ := Option.map_eq_some_iff.1 hinfo
 simp only [Prod.mk.injEq] at hzz
 obtain ⟨hz0, hz1, hz2⟩ := hzz
 refine Lib.wpList_append_own_string W hgd s x t u ho base e i0 ht hu hi hz0 hz1 hz2 v xs.length (nums .u8 xs) hs HO y hx (by simp only [maxLen]; omega) hl hbase ?_
 intro v1 w1 hown hg _
 have hl2 : (xs ++ bytesOf y).length = xs.length + y.size := by rw [List.length_append, bytesOf_length]
 have hc : nums .u8 (xs ++ bytesOf y) = nums .u8 xs ++ Lib.strCells y := by
  rw [nums_append]
  congr 1
  simp [nums, bytesOf, Lib.strCells]
 exact h v1 w1 (by rw [hl2, hc]; exact hown) (HB.grown hg hbase (own_base HO)) hg
end
structure Kd (α : Type) where
 sz : Nat
 E : List Nat
 K : World → α → List Value → Prop
 M : World → Nat → (Nat → Prop) → α → List Value → Prop
 K_len : ∀ {w x cs}, K w x cs → cs.length = sz
 K_one : ∀ {w x cs}, K w x cs → ∀ u ∈ cs, u.oneCell' = true
 K_below : ∀ {w w1 : World} {x cs}, Below w.heap.size w w1 → K w x cs → K w1 x cs
 K_of_M : ∀ {w base ok x cs}, M w base ok x cs → K w x cs
 M_mono : ∀ {w base ok ok' x cs}, (∀ k, ok k → ok' k) → M w base ok x cs → M w base ok' x cs
 M_bound : ∀ {w : World} {base ok x cs}, M w base ok x cs → M w base (fun k => ok k ∧ base ≤ k ∧ k < w.heap.size ∧ ∃ q, q ∈ E ∧ ∃ cells, w.heap[k]? = some (.cells cells q (0, 0))) x cs
 M_move : ∀ {w w1 : World} {base ok x cs}, (∀ k, ok k → w1.heap[k]? = w.heap[k]?) → M w base ok x cs → M w1 base ok x cs
 M_lower : ∀ {w base base' ok x cs}, base' ≤ base → M w base ok x cs → M w base' ok x cs
theorem own_move {w w1 : World} {base : Nat} {e : TypeId} {size n : Nat} {v : Value} {xs : List Value} (h : w.ownsRow base e size v n xs) (hm : ∀ k, v.ownBlock = some k → w1.heap[k]? = w.heap[k]?) : w1.ownsRow base e size v n xs := by
 obtain ⟨h1, h2⟩ := h
 refine ⟨h1, ?_⟩
 rcases h2 with h2 | ⟨g, cap, cur, rfl, hg, hh, r⟩
 ·exact .inl h2
 ·exact .inr ⟨g, cap, cur, rfl, hg, (hm g (by simp [Value.ownBlock])).trans hh, r⟩
theorem own_typed {w : World} {base : Nat} {e : TypeId} {size n : Nat} {v : Value} {xs : List Value} (h : w.ownsRow base e size v n xs) (k : Nat) (hk : v.ownBlock = some k) : ∃ cells, w.heap[k]? = some (.cells cells e (0, 0)) := by
 rcases h.2 with ⟨rfl, _⟩ | ⟨g, cap, cur, rfl, hg, hh, r⟩
 ·simp [Value.ownBlock] at hk
 ·have : g = k := by simpa [Value.ownBlock] using hk
  subst this
  exact ⟨cur, hh⟩
namespace Kd
def C {α : Type} (d : Kd α) (w : World) (A : Option Addr) (n : Nat) (xs : List α) : Prop := ReadsRow (d.K w) d.sz w A n xs
def R {α : Type} (d : Kd α) (e : Nat) (w : World) (base : Nat) (ok : Nat → Prop) (v : Value) (xs : List α) : Prop :=
 (∀ k, v.ownBlock = some k → ok k) ∧ OwnRow (d.M w base (fun k => ok k ∧ some k ≠ v.ownBlock)) e d.sz w base v xs
section
variable {α : Type} {d : Kd α} {e : Nat} {w w1 : World} {base : Nat} {ok ok' : Nat → Prop} {v : Value} {xs : List α}
theorem C_below {A : Option Addr} {n : Nat} (h : d.C w A n xs) (hb : Below w.heap.size w w1) : d.C w1 A n xs := ReadsRow.imp_ h hb (fun _ _ hp => d.K_below hb hp)
theorem R_nil (d : Kd α) (e : Nat) (w : World) (base : Nat) (ok : Nat → Prop) : d.R e w base ok (.slice none 0 0) [] := ⟨fun k hk => by simp [Value.ownBlock] at hk, OwnRow.none_ _ _ _ _ _⟩
theorem R_mono (h : d.R e w base ok v xs) (hok : ∀ k, ok k → ok' k) : d.R e w base ok' v xs := ⟨fun k hk => hok k (h.1 k hk), h.2.imp_ (fun _ _ hp => d.M_mono (fun k hk => ⟨hok k hk.1, hk.2⟩) hp)⟩
theorem R_bound (h : d.R e w base ok v xs) : d.R e w base (fun k => ok k ∧ base ≤ k ∧ k < w.heap.size ∧ ∃ q, q ∈ e :: d.E ∧ ∃ cells, w.heap[k]? = some (.cells cells q (0, 0))) v xs := by
 obtain ⟨h0, inner, ho, hr⟩ := h
 refine ⟨fun k hk => ?_, inner, ho, hr.imp_ (fun _ _ hp => d.M_mono (fun k hk => ?_) (d.M_bound hp))⟩
 ·obtain ⟨cells, hc⟩ := own_typed ho k hk
  exact ⟨h0 k hk, own_base ho k hk, own_lt ho k hk, e, List.mem_cons_self, cells, hc⟩
 ·obtain ⟨⟨h1, h2⟩, h3, h4, q, hq, hc⟩ := hk
  exact ⟨⟨h1, h3, h4, q, List.mem_cons_of_mem _ hq, hc⟩, h2⟩
theorem R_move (h : d.R e w base ok v xs) (hm : ∀ k, ok k → w1.heap[k]? = w.heap[k]?) : d.R e w1 base ok v xs := by
 obtain ⟨h0, inner, ho, hr⟩ := h
 exact ⟨h0, inner, own_move ho (fun k hk => hm k (h0 k hk)), hr.imp_ (fun _ _ hp => d.M_move (fun k hk => hm k hk.1) hp)⟩
theorem R_lower {base' : Nat} (h : d.R e w base ok v xs) (hb : base' ≤ base) : d.R e w base' ok v xs := by
 obtain ⟨h0, inner, ho, hr⟩ := h
 exact ⟨h0, inner, own_weaken ho hb, hr.imp_ (fun _ _ hp => d.M_lower hb hp)⟩
theorem R_step (h : d.R e w base ok v xs) (hm : ∀ k, ok k → k < w.heap.size → w1.heap[k]? = w.heap[k]?) : d.R e w1 base ok v xs :=
 R_mono (R_move (R_bound h) (fun k hk => hm k hk.1 hk.2.2.1)) (fun _ hk => hk.1)
theorem M_step {x : α} {cs : List Value} (h : d.M w base ok x cs) (hm : ∀ k, ok k → k < w.heap.size → w1.heap[k]? = w.heap[k]?) : d.M w1 base ok x cs :=
 d.M_mono (fun _ hk => hk.1) (d.M_move (fun k hk => hm k hk.1 hk.2.2.1) (d.M_bound h))
theorem R_below (h : d.R e w base ok v xs) (hb : Below w.heap.size w w1) : d.R e w1 base ok v xs := R_step h (fun k _ hk => hb.block k hk)
theorem M_below {x : α} {cs : List Value} (h : d.M w base ok x cs) (hb : Below w.heap.size w w1) : d.M w1 base ok x cs := M_step h (fun k _ hk => hb.block k hk)
theorem R_far (h : d.R e w base ok v xs) {p : Addr} (hok : ∀ k, ok k → k ≠ p.block) (u : Value) : d.R e (w.setCell p u) base ok v xs := R_step h (fun k ho _ => Below.heap_setCell w p u k (hok k ho))
theorem R_keep (h : d.R e w base ok v xs) {g : Nat} (hk : KeepBut w w1 g none) (hok : ∀ k, ok k → k ≠ g) : d.R e w1 base ok v xs := R_step h (fun k ho hlt => hk.2 k hlt (hok k ho) (by simp))
theorem R_types (h : d.R e w base ok v xs) {g t : Nat} {cells : Array Value} (hb : w.heap[g]? = some (.cells cells t (0, 0))) (ht : ∀ q, q ∈ e :: d.E → q ≠ t) : d.R e w base (fun k => ok k ∧ k ≠ g) v xs :=
 R_mono (R_bound h) (fun k hk => ⟨hk.1, by
  obtain ⟨_, _, _, q, hq, cells', hc⟩ := hk
  rintro rfl
  rw [hc] at hb
  injection hb with hb
  injection hb with _ hb
  exact ht q hq hb⟩)
theorem R_reads (h : d.R e w base ok v xs) : ∃ A c, v = .slice A xs.length c ∧ xs.length ≤ c ∧ d.C w A xs.length xs := by
 obtain ⟨A, c, he, hl, hr⟩ := OwnRow.reads h.2
 exact ⟨A, c, he, hl, hr.imp_ (Below.refl _ _) (fun _ _ hp => d.K_of_M hp)⟩
theorem R_slice (h : d.R e w base ok v xs) : ∃ A c, v = .slice A xs.length c := by
 obtain ⟨A, c, he, _⟩ := R_reads h
 exact ⟨A, c, he⟩
theorem R_own (h : d.R e w base ok v xs) : ∃ inner, w.ownsRow base e d.sz v xs.length inner := by
 obtain ⟨_, inner, ho, _⟩ := h
 exact ⟨inner, ho⟩
theorem R_ne (h : d.R e w base ok v xs) {g t : Nat} {cells : Array Value} (hb : w.heap[g]? = some (.cells cells t (0, 0))) (ht : e ≠ t) : some g ≠ v.ownBlock := OwnRow.ne_block h.2 hb ht
end
def scalar {α : Type} (enc : α → Value) (h1 : ∀ x, (enc x).oneCell' = true) : Kd α where
 sz := 1
 E := []
 K := fun _ x cs => cs = [enc x]
 M := fun _ _ _ x cs => cs = [enc x]
 K_len := fun h => by rw [h]; rfl
 K_one := fun h u hu => by
  rw [h] at hu
  rw [List.mem_singleton.1 hu]
  exact h1 _
 K_below := fun _ h => h
 K_of_M := fun h => h
 M_mono := fun _ h => h
 M_bound := fun h => h
 M_move := fun _ h => h
 M_lower := fun _ h => h
def int (k : IntKind) : Kd Int := scalar (Value.int k) (fun _ => rfl)
def string : Kd ByteArray := scalar Value.string (fun _ => rfl)
def slice {α : Type} (e : Nat) (d : Kd α) : Kd (List α) where
 sz := 1
 E := e :: d.E
 K := fun w xs cs => ∃ A c, cs = [.slice A xs.length c] ∧ xs.length ≤ c ∧ d.C w A xs.length xs
 M := fun w base ok xs cs => ∃ v, cs = [v] ∧ d.R e w base ok v xs
 K_len := by
  rintro w x cs ⟨A, c, rfl, _⟩
  rfl
 K_one := by
  rintro w x cs ⟨A, c, rfl, _⟩ u hu
  rw [List.mem_singleton.1 hu]
  rfl
 K_below := by
  rintro w w1 x cs hb ⟨A, c, rfl, hl, hr⟩
  exact ⟨A, c, rfl, hl, C_below hr hb⟩
 K_of_M := by
  rintro w base ok x cs ⟨v, rfl, h⟩
  obtain ⟨A, c, rfl, hl, hr⟩ := R_reads h
  exact ⟨A, c, rfl, hl, hr⟩
 M_mono := by
  rintro w base ok ok' x cs hok ⟨v, rfl, h⟩
  exact ⟨v, rfl, R_mono h hok⟩
 M_bound := by
  rintro w base ok x cs ⟨v, rfl, h⟩
  exact ⟨v, rfl, R_bound h⟩
 M_move := by
  rintro w w1 base ok x cs hm ⟨v, rfl, h⟩
  exact ⟨v, rfl, R_move h hm⟩
 M_lower := by
  rintro w base base' ok x cs hb ⟨v, rfl, h⟩
  exact ⟨v, rfl, R_lower h hb⟩
def pair {α β : Type} (a : Kd α) (b : Kd β) : Kd (α × β) where
 sz := a.sz + b.sz
 E := a.E ++ b.E
 K := fun w x cs => ∃ c0 c1, cs = c0 ++ c1 ∧ a.K w x.1 c0 ∧ b.K w x.2 c1
 M := fun w base ok x cs => ∃ c0 c1, cs = c0 ++ c1 ∧ a.M w base ok x.1 c0 ∧ b.M w base ok x.2 c1
 K_len := by
  rintro w x cs ⟨c0, c1, rfl, h0, h1⟩
  rw [List.length_append, a.K_len h0, b.K_len h1]
 K_one := by
  rintro w x cs ⟨c0, c1, rfl, h0, h1⟩ u hu
  rcases List.mem_append.1 hu with hu | hu
  ·exact a.K_one h0 u hu
  ·exact b.K_one h1 u hu
 K_below := by
  rintro w w1 x cs hb ⟨c0, c1, rfl, h0, h1⟩
  exact ⟨c0, c1, rfl, a.K_below hb h0, b.K_below hb h1⟩
 K_of_M := by
  rintro w base ok x cs ⟨c0, c1, rfl, h0, h1⟩
  exact ⟨c0, c1, rfl, a.K_of_M h0, b.K_of_M h1⟩
 M_mono := by
  rintro w base ok ok' x cs hok ⟨c0, c1, rfl, h0, h1⟩
  exact ⟨c0, c1, rfl, a.M_mono hok h0, b.M_mono hok h1⟩
 M_bound := by
  rintro w base ok x cs ⟨c0, c1, rfl, h0, h1⟩
  refine ⟨c0, c1, rfl, a.M_mono ?_ (a.M_bound h0), b.M_mono ?_ (b.M_bound h1)⟩
  ·rintro k ⟨h2, h3, h4, q, hq, hc⟩
   exact ⟨h2, h3, h4, q, List.mem_append_left _ hq, hc⟩
  ·rintro k ⟨h2, h3, h4, q, hq, hc⟩
   exact ⟨h2, h3, h4, q, List.mem_append_right _ hq, hc⟩
 M_move := by
  rintro w w1 base ok x cs hm ⟨c0, c1, rfl, h0, h1⟩
  exact ⟨c0, c1, rfl, a.M_move hm h0, b.M_move hm h1⟩
 M_lower := by
  rintro w base base' ok x cs hb ⟨c0, c1, rfl, h0, h1⟩
  exact ⟨c0, c1, rfl, a.M_lower hb h0, b.M_lower hb h1⟩
def iso {α β : Type} (d : Kd α) (f : β → α) : Kd β where
 sz := d.sz
 E := d.E
 K := fun w x cs => d.K w (f x) cs
 M := fun w base ok x cs => d.M w base ok (f x) cs
 K_len := d.K_len
 K_one := d.K_one
 K_below := d.K_below
 K_of_M := d.K_of_M
 M_mono := d.M_mono
 M_bound := d.M_bound
 M_move := d.M_move
 M_lower := d.M_lower
def bot {α : Type} (sz : Nat) (E : List Nat) : Kd α where
 sz := sz
 E := E
 K := fun _ _ _ => False
 M := fun _ _ _ _ _ => False
 K_len := fun h => h.elim
 K_one := fun h => h.elim
 K_below := fun _ h => h
 K_of_M := fun h => h
 M_mono := fun _ h => h
 M_bound := fun h => h
 M_move := fun _ h => h
 M_lower := fun _ h => h
def upto {α : Type} (F : Kd α → Kd α) (sz : Nat) (E : List Nat) : Nat → Kd α
 | 0 => bot sz E
 | n + 1 => F (upto F sz E n)
def fix {α : Type} (F : Kd α → Kd α) (sz : Nat) (E : List Nat) (hs : ∀ n, (upto F sz E n).sz = sz) (hE : ∀ n q, q ∈ (upto F sz E n).E → q ∈ E) : Kd α where
 sz := sz
 E := E
 K := fun w x cs => ∃ n, (upto F sz E n).K w x cs
 M := fun w base ok x cs => ∃ n, (upto F sz E n).M w base ok x cs
 K_len := by
  rintro w x cs ⟨n, h⟩
  rw [(upto F sz E n).K_len h, hs n]
 K_one := by
  rintro w x cs ⟨n, h⟩
  exact (upto F sz E n).K_one h
 K_below := by
  rintro w w1 x cs hb ⟨n, h⟩
  exact ⟨n, (upto F sz E n).K_below hb h⟩
 K_of_M := by
  rintro w base ok x cs ⟨n, h⟩
  exact ⟨n, (upto F sz E n).K_of_M h⟩
 M_mono := by
  rintro w base ok ok' x cs hok ⟨n, h⟩
  exact ⟨n, (upto F sz E n).M_mono hok h⟩
 M_bound := by
  rintro w base ok x cs ⟨n, h⟩
  refine ⟨n, (upto F sz E n).M_mono ?_ ((upto F sz E n).M_bound h)⟩
  rintro k ⟨h2, h3, h4, q, hq, hc⟩
  exact ⟨h2, h3, h4, q, hE n q hq, hc⟩
 M_move := by
  rintro w w1 base ok x cs hm ⟨n, h⟩
  exact ⟨n, (upto F sz E n).M_move hm h⟩
 M_lower := by
  rintro w base base' ok x cs hb ⟨n, h⟩
  exact ⟨n, (upto F sz E n).M_lower hb h⟩
theorem C_get {α : Type} {d : Kd α} {w : World} {A : Option Addr} {n : Nat} {xs : List α} (h : d.C w A n xs) (z : α) (i : Int) (h0 : 0 ≤ i) (h1 : i < n) :
  ∃ ad c, A = some ad ∧ c.length = d.sz ∧ d.K w (xs.getD i.toNat z) c ∧ ∀ j u, c[j]? = some u → w.cell? (ad.add (i.toNat * d.sz + j)) = some u := ReadsRow.get_ h z i h0 h1
theorem R_appended {α : Type} {d : Kd α} {e base : Nat} {ok okp : Nat → Prop} {W w1 : World} {v v1 : Value} {xs : List α} {p : α} {inner cs : List Value} (h0 : ∀ k, v.ownBlock = some k → ok k) (hr : Reps (d.M W base (fun k => ok k ∧ some k ≠ v.ownBlock)) d.sz xs inner) (hp : d.M W base okp p cs) (hokp : ∀ k, okp k → ok k ∧ some k ≠ v.ownBlock) (hfresh : ∀ k, W.heap.size ≤ k → ok k)
  (hown : w1.ownsRow base e d.sz v1 (xs.length + 1) (inner ++ cs)) (hg : W.grownBy w1 v.ownBlock) (hat : v1.ownBlock = v.ownBlock ∨ ∃ b, v1.ownBlock = some b ∧ W.heap.size ≤ b) : d.R e w1 base ok v1 (xs ++ [p]) := by
 have hne : ∀ k, some k ≠ v.ownBlock → k < W.heap.size → some k ≠ v1.ownBlock := by
  intro k hk hlt
  rcases hat with hat | ⟨b, hb, hle⟩
  ·rw [hat]; exact hk
  ·rw [hb]
   intro he
   injection he with he
   omega
 have step : ∀ {q : α} {c : List Value} {o : Nat → Prop}, d.M W base o q c → (∀ k, o k → ok k ∧ some k ≠ v.ownBlock) → d.M w1 base (fun k => ok k ∧ some k ≠ v1.ownBlock) q c := by
  intro q c o hq ho
  have h1 := d.M_move (w1 := w1) (fun k hk => hg.block k hk.2.2.1 (ho k hk.1).2) (d.M_bound hq)
  exact d.M_mono (fun k hk => ⟨(ho k hk.1).1, hne k (ho k hk.1).2 hk.2.2.1⟩) h1
 refine ⟨fun k hk => ?_, inner ++ cs, by rw [List.length_append, List.length_singleton]; exact hown, ?_⟩
 ·rcases hat with hat | ⟨b, hb, hle⟩
  ·exact h0 k (hat ▸ hk)
  ·rw [hb] at hk
   injection hk with hk
   exact hfresh k (by omega)
 ·exact (hr.imp_ (fun _ _ hq => step hq (fun _ hk => hk))).snoc (step hp hokp) (d.K_len (d.K_of_M hp))
section
variable {P : Program} {ops : Array Oper} {rest : List Oper} {o : Oper} {a : Act} {Q : Exit → Act → World → Prop} {α : Type}
theorem R_append (d : Kd α) {w0 W : World} (base : Nat) (hgd : o.guard = none) (s x : Operand) (t e : TypeId) (z : Value) (bytes : Nat)
  (ho : o.op = .call { callee := .builtin .append, args := #[s, x], argTypes := #[t, t] })
  (ht : P.underlying t = some (.slice e)) (hinfo : (P.info? e).map (fun i => (i.zero, i.size, i.bytes)) = some (some z, d.sz, bytes)) (hz : z.cells.size = d.sz) (hs0 : 0 < d.sz) (hb0 : 0 < bytes)
  (v : Value) (xs : List α) (p : α) (cs : List Value) (ok okp : Nat → Prop) (hs : a.eval s = v) (hx : a.eval x = .slice (some ⟨W.heap.size, 0, none⟩) 1 1) (hp : d.M W base okp p cs) (hokp : ∀ k, okp k → ok k ∧ some k ≠ v.ownBlock) (hfresh : ∀ k, W.heap.size ≤ k → ok k)
  (HO : d.R e W base ok v xs) (HB : Below base w0 W) (hbase : base ≤ W.heap.size) (hl : (xs.length + 1) * bytes ≤ 140737488355328)
  (h : ∀ v1 w1, d.R e w1 base ok v1 (xs ++ [p]) → Below base w0 w1 → W.grownBy w1 v.ownBlock → (v1.ownBlock = v.ownBlock ∨ ∃ b, v1.ownBlock = some b ∧ W.heap.size ≤ b) → wpList P ops Q rest (a.put o.dst v1) w1) :
  wpList P ops Q (o :: rest) a (W.alloc (.cells cs.toArray e)) := by
 obtain ⟨h0, inner, hown, hr⟩ := HO
 refine print_append_cells base hgd s x t e z d.sz bytes ho ht hinfo hz hs0 hb0 v xs.length inner cs hs hx (d.K_len (d.K_of_M hp)) (d.K_one (d.K_of_M hp)) hown HB hbase hl ?_
 intro v1 w1 hown1 hb1 hg1 hat1
 exact h v1 w1 (R_appended h0 hr hp hokp hfresh hown1 hg1 hat1) hb1 hg1 hat1
end
section
variable {P : Program} {ops : Array Oper} {o : Oper} {a : Act} {Q : Exit → Act → World → Prop} {Kc : Act → World → Prop} {α : Type}
theorem R_append_step (d : Kd α) {w0 W : World} (base : Nat) (hw : Region.wanted o (yielded ops a.tmps) = true) (s x : Operand) (t e : TypeId) (z : Value) (bytes : Nat)
  (ho : o.op = .call { callee := .builtin .append, args := #[s, x], argTypes := #[t, t] })
  (ht : P.underlying t = some (.slice e)) (hinfo : (P.info? e).map (fun i => (i.zero, i.size, i.bytes)) = some (some z, d.sz, bytes)) (hz : z.cells.size = d.sz) (hs0 : 0 < d.sz) (hb0 : 0 < bytes)
  (v : Value) (xs : List α) (p : α) (cs : List Value) (ok okp : Nat → Prop) (hs : a.eval s = v) (hx : a.eval x = .slice (some ⟨W.heap.size, 0, none⟩) 1 1) (hp : d.M W base okp p cs) (hokp : ∀ k, okp k → ok k ∧ some k ≠ v.ownBlock) (hfresh : ∀ k, W.heap.size ≤ k → ok k)
  (HO : d.R e W base ok v xs) (HB : Below base w0 W) (hbase : base ≤ W.heap.size) (hl : (xs.length + 1) * bytes ≤ 140737488355328)
  (h : ∀ v1 w1, d.R e w1 base ok v1 (xs ++ [p]) → Below base w0 w1 → W.grownBy w1 v.ownBlock → (v1.ownBlock = v.ownBlock ∨ ∃ b, v1.ownBlock = some b ∧ W.heap.size ≤ b) → Kc (a.put o.dst v1) w1) :
  if Region.wanted o (yielded ops a.tmps) = true then Oper.wp P o a (W.alloc (.cells cs.toArray e)) Kc Q else Kc (a.put o.dst undef) (W.alloc (.cells cs.toArray e)) := by
 obtain ⟨h0, inner, hown, hr⟩ := HO
 refine step_append_cells base hw s x t e z d.sz bytes ho ht hinfo hz hs0 hb0 v xs.length inner cs hs hx (d.K_len (d.K_of_M hp)) (d.K_one (d.K_of_M hp)) hown HB hbase hl ?_
 intro v1 w1 hown1 hb1 hg1 hat1
 exact h v1 w1 (R_appended h0 hr hp hokp hfresh hown1 hg1 hat1) hb1 hg1 hat1
end
theorem own_of_R {α : Type} {enc : α → Value} {h1 : ∀ x, (enc x).oneCell' = true} {e : Nat} {w : World} {base : Nat} {ok : Nat → Prop} {v : Value} {xs : List α} (h : (scalar enc h1).R e w base ok v xs) : w.ownsRow base e 1 v xs.length (encs enc xs) := by
 obtain ⟨_, inner, ho, hr⟩ := h
 have : inner = encs enc xs := by
  apply List.ext_getElem?
  intro j
  rcases Nat.lt_or_ge j xs.length with hj | hj
  ·have h2 := hr.2 j _ (List.getElem?_eq_getElem hj)
   have hl : j < inner.length := by have := hr.1; simp [scalar] at this; omega
   have h3 : (inner.drop (j * 1)).take 1 = [enc xs[j]] := h2
   rw [Nat.mul_one, List.drop_eq_getElem_cons hl] at h3
   have h4 : inner[j] = enc xs[j] := by
    have h5 := congrArg List.head? h3
    rw [List.take_succ_cons] at h5
    exact Option.some.inj h5
   rw [List.getElem?_eq_getElem hl, h4]
   simp [encs, List.getElem?_eq_getElem hj]
  ·have h3 : inner.length = xs.length := by have := hr.1; simp [scalar] at this; omega
   rw [List.getElem?_eq_none (by omega), List.getElem?_eq_none (by rw [encs_length]; omega)]
 rw [← this]
 exact ho
theorem reads_of_C {α : Type} {enc : α → Value} {d : α} {h1 : ∀ x, (enc x).oneCell' = true} {w : World} {A : Option Addr} {n : Nat} {xs : List α} (h : (scalar enc h1).C w A n xs) : ReadsOf enc d w A n xs := by
 refine ⟨h.1, h.2.1, fun hn => ?_⟩
 obtain ⟨ad, e, hc⟩ := h.2.2 hn
 refine ⟨ad, e, fun j hj => ?_⟩
 have hl : j < xs.length := by have := h.1; omega
 obtain ⟨c, _, hK, hcell⟩ := hc j _ (List.getElem?_eq_getElem hl)
 have hK' : c = [enc xs[j]] := hK
 subst hK'
 have := hcell 0 _ rfl
 simpa [scalar, List.getD_eq_getElem?_getD, List.getElem?_eq_getElem hl] using this
end Kd
namespace Kd
structure Mono {α β : Type} (F : Kd α → Kd β) : Prop where
 sz : ∀ d d' : Kd α, d.sz = d'.sz → (F d).sz = (F d').sz
 K : ∀ d d' : Kd α, d.sz = d'.sz → (∀ w x cs, d.K w x cs → d'.K w x cs) → ∀ w x cs, (F d).K w x cs → (F d').K w x cs
 M : ∀ d d' : Kd α, d.sz = d'.sz → (∀ w base ok x cs, d.M w base ok x cs → d'.M w base ok x cs) → ∀ w base ok x cs, (F d).M w base ok x cs → (F d').M w base ok x cs
theorem mono_const {α β : Type} (k : Kd β) : Mono (fun _ : Kd α => k) := ⟨fun _ _ _ => rfl, fun _ _ _ _ _ _ _ h => h, fun _ _ _ _ _ _ _ _ _ h => h⟩
theorem mono_id {α : Type} : Mono (fun d : Kd α => d) := ⟨fun _ _ h => h, fun _ _ _ h => h, fun _ _ _ h => h⟩
theorem C_imp {α : Type} {d d' : Kd α} (hs : d.sz = d'.sz) (h : ∀ w x cs, d.K w x cs → d'.K w x cs) {w : World} {A : Option Addr} {n : Nat} {xs : List α} (hc : d.C w A n xs) : d'.C w A n xs := by
 unfold C at hc ⊢
 rw [← hs]
 exact hc.imp_ (Below.refl _ _) (fun _ _ hp => h _ _ _ hp)
theorem R_imp {α : Type} {d d' : Kd α} (hs : d.sz = d'.sz) (h : ∀ w base ok x cs, d.M w base ok x cs → d'.M w base ok x cs) {e : Nat} {w : World} {base : Nat} {ok : Nat → Prop} {v : Value} {xs : List α} (hr : d.R e w base ok v xs) : d'.R e w base ok v xs := by
 unfold R at hr ⊢
 rw [← hs]
 exact ⟨hr.1, hr.2.imp_ (fun _ _ hp => h _ _ _ _ _ hp)⟩
theorem mono_slice {α β : Type} (e : Nat) {G : Kd α → Kd β} (hG : Mono G) : Mono (fun d => slice e (G d)) := by
 refine ⟨fun _ _ _ => rfl, ?_, ?_⟩
 ·rintro d d' hs h w x cs ⟨A, c, rfl, hl, hr⟩
  exact ⟨A, c, rfl, hl, C_imp (hG.sz d d' hs) (hG.K d d' hs h) hr⟩
 ·rintro d d' hs h w base ok x cs ⟨v, rfl, hr⟩
  exact ⟨v, rfl, R_imp (hG.sz d d' hs) (hG.M d d' hs h) hr⟩
theorem mono_pair {α β γ : Type} {G : Kd α → Kd β} {H : Kd α → Kd γ} (hG : Mono G) (hH : Mono H) : Mono (fun d => pair (G d) (H d)) := by
 refine ⟨fun d d' hs => ?_, ?_, ?_⟩
 ·show (G d).sz + (H d).sz = (G d').sz + (H d').sz
  rw [hG.sz d d' hs, hH.sz d d' hs]
 ·rintro d d' hs h w x cs ⟨c0, c1, rfl, h0, h1⟩
  exact ⟨c0, c1, rfl, hG.K d d' hs h _ _ _ h0, hH.K d d' hs h _ _ _ h1⟩
 ·rintro d d' hs h w base ok x cs ⟨c0, c1, rfl, h0, h1⟩
  exact ⟨c0, c1, rfl, hG.M d d' hs h _ _ _ _ _ h0, hH.M d d' hs h _ _ _ _ _ h1⟩
theorem mono_iso {α β γ : Type} {G : Kd α → Kd β} (f : γ → β) (hG : Mono G) : Mono (fun d => iso (G d) f) :=
 ⟨hG.sz, fun d d' hs h w x cs => hG.K d d' hs h w (f x) cs, fun d d' hs h w base ok x cs => hG.M d d' hs h w base ok (f x) cs⟩
def Sub {α β : Type} (F : Kd α → Kd β) (E : List Nat) : Prop := ∀ d : Kd α, (∀ q, q ∈ d.E → q ∈ E) → ∀ q, q ∈ (F d).E → q ∈ E
theorem sub_const {α β : Type} {E : List Nat} (k : Kd β) (h : ∀ q, q ∈ k.E → q ∈ E) : Sub (fun _ : Kd α => k) E := fun _ _ => h
theorem sub_id {α : Type} {E : List Nat} : Sub (fun d : Kd α => d) E := fun _ h => h
theorem sub_slice {α β : Type} {E : List Nat} (e : Nat) {G : Kd α → Kd β} (he : e ∈ E) (hG : Sub G E) : Sub (fun d => slice e (G d)) E := fun d h q hq => by
 rcases List.mem_cons.1 hq with rfl | hq
 ·exact he
 ·exact hG d h q hq
theorem sub_pair {α β γ : Type} {E : List Nat} {G : Kd α → Kd β} {H : Kd α → Kd γ} (hG : Sub G E) (hH : Sub H E) : Sub (fun d => pair (G d) (H d)) E := fun d h q hq => by
 rcases List.mem_append.1 hq with hq | hq
 ·exact hG d h q hq
 ·exact hH d h q hq
theorem sub_iso {α β γ : Type} {E : List Nat} {G : Kd α → Kd β} (f : γ → β) (hG : Sub G E) : Sub (fun d => iso (G d) f) E := hG
theorem upto_E {α : Type} {F : Kd α → Kd α} {sz : Nat} {E : List Nat} (h : Sub F E) : ∀ n q, q ∈ (upto F sz E n).E → q ∈ E
 | 0, _, hq => hq
 | n + 1, q, hq => h _ (upto_E h n) q hq
theorem upto_sz {α : Type} {F : Kd α → Kd α} {sz : Nat} {E : List Nat} (h : ∀ d : Kd α, (F d).sz = sz) : ∀ n, (upto F sz E n).sz = sz
 | 0 => rfl
 | _ + 1 => h _
section
variable {α : Type} {F : Kd α → Kd α} {sz : Nat} {E : List Nat} {hs : ∀ n, (upto F sz E n).sz = sz} {hE : ∀ n q, q ∈ (upto F sz E n).E → q ∈ E}
theorem upto_M (hm : Mono F) (hs : ∀ n, (upto F sz E n).sz = sz) : ∀ n {w base ok x cs}, (upto F sz E n).M w base ok x cs → (upto F sz E (n + 1)).M w base ok x cs
 | 0, _, _, _, _, _, h => h.elim
 | n + 1, _, _, _, _, _, h => hm.M _ _ (by rw [hs n, hs (n + 1)]) (fun _ _ _ _ _ hk => upto_M hm hs n hk) _ _ _ _ _ h
theorem upto_M_le (hm : Mono F) (hs : ∀ n, (upto F sz E n).sz = sz) {n m : Nat} (hnm : n ≤ m) {w base ok x cs} (h : (upto F sz E n).M w base ok x cs) : (upto F sz E m).M w base ok x cs := by
 obtain ⟨j, rfl⟩ := Nat.exists_eq_add_of_le hnm
 induction j with
 | zero => exact h
 | succ j ih => exact upto_M hm hs _ (ih (by omega))
theorem fix_C {n : Nat} {w : World} {A : Option Addr} {m : Nat} {xs : List α} (h : (upto F sz E n).C w A m xs) : (fix F sz E hs hE).C w A m xs := C_imp (d' := fix F sz E hs hE) (hs n) (fun w x cs hp => (⟨n, hp⟩ : ∃ n, (upto F sz E n).K w x cs)) h
theorem bounded {P : Nat → Nat → Prop} (hP : ∀ n m j, n ≤ m → P n j → P m j) : ∀ m, (∀ j, j < m → ∃ n, P n j) → ∃ N, ∀ j, j < m → P N j
 | 0, _ => ⟨0, fun j hj => absurd hj (Nat.not_lt_zero j)⟩
 | m + 1, h => by
  obtain ⟨N, hN⟩ := bounded hP m (fun j hj => h j (by omega))
  obtain ⟨n, hn⟩ := h m (by omega)
  refine ⟨max N n, fun j hj => ?_⟩
  rcases Nat.lt_or_ge j m with hj' | hj'
  ·exact hP N _ j (Nat.le_max_left _ _) (hN j hj')
  ·have : j = m := by omega
   subst this
   exact hP n _ j (Nat.le_max_right _ _) hn
theorem reps_bounded {α : Type} {R : Nat → α → List Value → Prop} (hR : ∀ n m p c, n ≤ m → R n p c → R m p c) {size : Nat} {ps : List α} {cs : List Value} (h : Reps (fun p c => ∃ n, R n p c) size ps cs) : ∃ N, Reps (R N) size ps cs := by
 obtain ⟨N, hN⟩ := bounded (P := fun n j => ∀ p, ps[j]? = some p → R n p ((cs.drop (j * size)).take size)) (fun n m j hnm hp p hj => hR n m p _ hnm (hp p hj)) ps.length
  (fun j hj => by
   obtain ⟨n, hn⟩ := h.2 j _ (List.getElem?_eq_getElem hj)
   refine ⟨n, fun p hp => ?_⟩
   rw [List.getElem?_eq_getElem hj] at hp
   injection hp with hp
   rw [← hp]
   exact hn)
 exact ⟨N, h.1, fun j p hj => hN j (List.getElem?_eq_some_iff.1 hj).1 p hj⟩
theorem fix_R_back (hm : Mono F) {e : Nat} {w : World} {base : Nat} {ok : Nat → Prop} {v : Value} {xs : List α} (h : (fix F sz E hs hE).R e w base ok v xs) : ∃ n, (upto F sz E n).R e w base ok v xs := by
 obtain ⟨h0, inner, ho, hr⟩ := h
 obtain ⟨N, hN⟩ := reps_bounded (R := fun n p c => (upto F sz E n).M w base (fun k => ok k ∧ some k ≠ v.ownBlock) p c) (fun n m p c hnm hp => upto_M_le hm hs hnm hp) hr
 refine ⟨N, h0, inner, ?_, ?_⟩
 ·rw [hs N]; exact ho
 ·rw [hs N]; exact hN
theorem upto_R_le (hm : Mono F) (hs : ∀ n, (upto F sz E n).sz = sz) {n m : Nat} (hnm : n ≤ m) {e : Nat} {w : World} {base : Nat} {ok : Nat → Prop} {v : Value} {xs : List α} (h : (upto F sz E n).R e w base ok v xs) : (upto F sz E m).R e w base ok v xs := R_imp (by rw [hs n, hs m]) (fun _ _ _ _ _ hp => upto_M_le hm hs hnm hp) h
end
end Kd
namespace Kd
theorem R_after {α : Type} {d : Kd α} {e base : Nat} {ok : Nat → Prop} {W w1 : World} {u v v1 : Value} {xs : List α} (h : d.R e W base (fun k => ok k ∧ some k ≠ v.ownBlock) u xs) (hg : W.grownBy w1 v.ownBlock) (hat : v1.ownBlock = v.ownBlock ∨ ∃ b, v1.ownBlock = some b ∧ W.heap.size ≤ b) : d.R e w1 base (fun k => ok k ∧ some k ≠ v1.ownBlock) u xs := by
 refine R_mono (R_move (R_bound h) (fun k hk => hg.block k hk.2.2.1 hk.1.2)) (fun k hk => ⟨hk.1.1, ?_⟩)
 rcases hat with hat | ⟨b, hb, hle⟩
 ·rw [hat]; exact hk.1.2
 ·rw [hb]
  intro he
  injection he with he
  have := hk.2.2.1
  omega
end Kd
namespace Kd
section
variable {α β : Type} {d : Kd α} {d' : Kd β} {e e' : Nat} {w w1 W : World} {base b b' : Nat} {ok ok' okv oku : Nat → Prop} {v u : Value} {xs : List α} {ys : List β}
theorem R_alloc (h : d.R e w base ok v xs) (o : Obj) : d.R e (w.alloc o) base ok v xs := R_below h (below_alloc (Below.refl _ _) o)
theorem R_drew (h : d.R e w base ok v xs) : d.R e w.drew base ok v xs := R_below h (below_drew (Below.refl _ _))
theorem R_drewN (h : d.R e w base ok v xs) (m : Nat) : d.R e (w.drewN m) base ok v xs := R_below h (pw_below_drewN (Below.refl _ _) m)
theorem C_alloc {A : Option Addr} {n : Nat} (h : d.C w A n xs) (o : Obj) : d.C (w.alloc o) A n xs := C_below h (below_alloc (Below.refl _ _) o)
theorem R_reads' {A : Option Addr} {n c : Nat} (h : d.R e w base ok (.slice A n c) xs) : n = xs.length ∧ n ≤ c ∧ d.C w A xs.length xs := by
 obtain ⟨A', c', he, hl, hr⟩ := R_reads h
 injection he with h1 h2 h3
 subst h1
 exact ⟨h2, by omega, hr⟩
theorem R_lt (h : d.R e w base ok v xs) : ∀ k, v.ownBlock = some k → k < w.heap.size := by
 obtain ⟨inner, ho⟩ := R_own h
 exact own_lt ho
theorem R_base (h : d.R e w base ok v xs) : ∀ k, v.ownBlock = some k → base ≤ k := by
 obtain ⟨inner, ho⟩ := R_own h
 exact own_base ho
theorem R_away (h : d.R e w base ok v xs) {g : Nat} (hok : ∀ k, ok k → k ≠ g) : some g ≠ v.ownBlock := fun e => hok g (h.1 g e.symm) rfl
end
section
variable {w W : World} {A : Option Addr} {n : Nat}
theorem at_int {k : IntKind} {xs : List Int} (h : (Kd.int k).C w A n xs) (i : Int) (h0 : 0 ≤ i) (h1 : i < n) : ∃ ad, A = some ad ∧ w.cell? (ad.add i.toNat) = some (.int k (rd xs i)) :=
 ReadsOf.at_ (reads_of_C (enc := Value.int k) (d := (0 : Int)) (h1 := fun _ => rfl) h) i h0 h1
variable {α : Type} {enc : α → Value} {h1 : ∀ x, (enc x).oneCell' = true} {e base g cap : Nat} {ok : Nat → Prop} {xs : List α}
end
section
variable {P : Program} {ops : Array Oper} {rest : List Oper} {o : Oper} {a : Act} {Q : Exit → Act → World → Prop}
theorem event_run {W w1 : World} {v : Value} (hgd : o.guard = none) (hrun : (execOp a.eval o).run P W = .ok (.value v) w1) (h : wpList P ops Q rest (a.put o.dst v) w1) : wpList P ops Q (o :: rest) a W := by
 refine wpList_plain hgd fun K hK => ?_
 unfold Oper.wp
 rw [hrun]
 exact hK _ _ h
variable {α : Type}
theorem R_lit (d : Kd α) {w0 W : World} (base e : Nat) (hgd : o.guard = none) {N : Tmp} (_hd : o.dst = some N) {xs : List α} {inner : List Value} {ok okp : Nat → Prop}
  (hrun : (execOp a.eval o).run P W = .ok (.value (.slice (some ⟨W.heap.size, 0, none⟩) xs.length xs.length)) (W.alloc (.cells inner.toArray e)))
  (hrep : Reps (d.M W base okp) d.sz xs inner) (hok : ∀ k, okp k → ok k) (hfresh : ok W.heap.size) (HB : Below base w0 W) (hbase : base ≤ W.heap.size) (hm : xs.length ≤ 9223372036854775807)
  (h : ∀ v1 w1, d.R e w1 base ok v1 xs → Below base w0 w1 → W.grownBy w1 none → (∃ b, v1.ownBlock = some b ∧ W.heap.size ≤ b) → wpList P ops Q rest (a.put o.dst v1) w1) : wpList P ops Q (o :: rest) a W := by
 refine event_run hgd hrun (h _ _ ⟨fun k hk => ?_, inner, ?_, ?_⟩ (HB.alloc hbase _) (World.grownBy_alloc W _ none) ⟨W.heap.size, by simp [Value.ownBlock], Nat.le_refl _⟩)
 ·have : W.heap.size = k := by simpa [Value.ownBlock] using hk
  subst this
  exact hfresh
 ·have h2 := World.ownsRow_lit (base := base) (e := e) (size := d.sz) W inner.toArray xs.length hbase (by simpa [maxLen] using hm) (by simpa using hrep.1)
  simpa using h2
 ·refine hrep.imp_ (fun p c hp => d.M_mono (fun k hk => ⟨hok k hk.1, fun he => ?_⟩) (M_below (d.M_bound hp) (below_alloc (Below.refl _ _) _)))
  have h3 : k = W.heap.size := by simpa [Value.ownBlock] using he
  have := hk.2.2.1
  omega
end
end Kd
section
variable {P : Program}
end
section
variable {w w1 : World} {base n size : Nat} {e : TypeId} {v : Value} {xs : List Value}
end
section
variable {P : Program}
end
namespace Kd
section
variable {α : Type} {d : Kd α} {e : Nat} {w w1 W : World} {base : Nat} {ok ok' : Nat → Prop} {v : Value} {xs : List α}
end
section
variable {P : Program} {ops : Array Oper} {rest : List Oper} {o : Oper} {a : Act} {Q' : Exit → Act → World → Prop} {Kc : Act → World → Prop} {α : Type}
end
end Kd
namespace Kd
section
variable {α : Type} {d : Kd α} {e e' : Nat} {w w1 W : World} {base : Nat} {ok : Nat → Prop} {u v : Value} {xs : List α}
theorem R_typed (h : d.R e w base ok v xs) : ∀ k, v.ownBlock = some k → ∃ cells, w.heap[k]? = some (.cells cells e (0, 0)) := by
 obtain ⟨inner, ho⟩ := R_own h
 exact fun k hk => own_typed ho k hk
theorem R_over' (h : d.R e W base ok u xs) (hty : ∀ k, v.ownBlock = some k → ∃ cells, W.heap[k]? = some (.cells cells e' (0, 0))) (ht : ∀ q, q ∈ e :: d.E → q ≠ e') (hg : W.grownBy w1 v.ownBlock) : d.R e w1 base ok u xs := by
 refine R_mono (R_move (R_bound h) (fun k hk => hg.block k hk.2.2.1 (fun he => ?_))) (fun _ hk => hk.1)
 obtain ⟨_, _, _, q, hq, cells, hc⟩ := hk
 obtain ⟨cells', hc'⟩ := hty k he.symm
 rw [hc] at hc'
 injection hc' with hc'
 injection hc' with _ hc'
 exact ht q hq hc'
theorem R_apart' (h : d.R e W base ok u xs) (hty : ∀ k, v.ownBlock = some k → ∃ cells, W.heap[k]? = some (.cells cells e' (0, 0))) (ht : ∀ q, q ∈ e :: d.E → q ≠ e') : d.R e W base (fun k => ok k ∧ some k ≠ v.ownBlock) u xs := by
 refine R_mono (R_bound h) (fun k hk => ⟨hk.1, fun he => ?_⟩)
 obtain ⟨_, _, _, q, hq, cells, hc⟩ := hk
 obtain ⟨cells', hc'⟩ := hty k he.symm
 rw [hc] at hc'
 injection hc' with hc'
 injection hc' with _ hc'
 exact ht q hq hc'
theorem R_elder' (hu : d.R e W base ok u xs) (hbase : ∀ k, v.ownBlock = some k → W.heap.size ≤ k) (hb : Below W.heap.size W w1) : d.R e w1 base (fun k => ok k ∧ some k ≠ v.ownBlock) u xs :=
 R_mono (R_move (R_bound hu) (fun k hk => hb.block k hk.2.2.1)) (fun k hk => ⟨hk.1, fun he => by have := hbase k he.symm; have := hk.2.2.1; omega⟩)
theorem R_new' (h : d.R e w1 W.heap.size ok v xs) (hlt : ∀ k, u.ownBlock = some k → k < W.heap.size) : d.R e w1 W.heap.size (fun k => ok k ∧ some k ≠ u.ownBlock) v xs :=
 R_mono (R_bound h) (fun k hk => ⟨hk.1, fun he => by have := hlt k he.symm; have := hk.2.1; omega⟩)
theorem fresh' (hlt : ∀ k, u.ownBlock = some k → k < W.heap.size) : ∀ k, W.heap.size ≤ k → some k ≠ u.ownBlock := fun k hk he => by have := hlt k he.symm; omega
end
end Kd
namespace Kd
section
variable {α : Type} {d : Kd α} {e base g n cap : Nat} {ok okp : Nat → Prop} {W : World} {xs : List α}
end
end Kd
namespace Kd
section
variable {α : Type} {F : Kd α → Kd α} {sz : Nat} {E : List Nat} {hs : ∀ n, (upto F sz E n).sz = sz} {hE : ∀ n q, q ∈ (upto F sz E n).E → q ∈ E}
end
end Kd
namespace Kd
theorem reps_append {α : Type} {R : α → List Value → Prop} {size : Nat} {ps qs : List α} {cs ds : List Value} (h : Reps R size ps cs) (h' : Reps R size qs ds) : Reps R size (ps ++ qs) (cs ++ ds) := by
 refine ⟨by rw [List.length_append, List.length_append, h.1, h'.1, Nat.add_mul], fun j p hj => ?_⟩
 rcases Nat.lt_or_ge j ps.length with hlt | hge
 ·rw [List.getElem?_append_left hlt] at hj
  have hle : j * size + size ≤ cs.length := by rw [h.1, ← Nat.succ_mul]; exact Nat.mul_le_mul_right _ hlt
  rw [List.drop_append_of_le_length (by omega), List.take_append_of_le_length (by rw [List.length_drop]; omega)]
  exact h.2 j p hj
 ·rw [List.getElem?_append_right hge] at hj
  have h2 := h'.2 (j - ps.length) p hj
  have hle : ps.length * size ≤ j * size := Nat.mul_le_mul_right _ hge
  rw [List.drop_append, List.drop_eq_nil_of_le (by rw [h.1]; exact hle), List.nil_append, h.1, ← Nat.sub_mul]
  exact h2
section
variable {P : Program} {ops : Array Oper} {rest : List Oper} {o : Oper} {a : Act} {Q : Exit → Act → World → Prop} {α : Type}
theorem R_append_rows (d : Kd α) {Rr : α → List Value → Prop} {w0 W : World} (base : Nat) (hgd : o.guard = none) (s x : Operand) (t e : TypeId) (z : Value) (bytes : Nat)
  (ho : o.op = .call { callee := .builtin .append, args := #[s, x], argTypes := #[t, t] })
  (ht : P.underlying t = some (.slice e)) (hinfo : (P.info? e).map (fun i => (i.zero, i.size, i.bytes)) = some (some z, d.sz, bytes)) (hz : z.cells.size = d.sz) (hs0 : 0 < d.sz) (hb0 : 0 < bytes)
  (v : Value) (xs ys : List α) (A : Option Addr) (m c : Nat) (ok okp : Nat → Prop) (hs : a.eval s = v) (hx : a.eval x = .slice A m c)
  (HO : d.R e W base ok v xs) (HR : ReadsRow Rr d.sz W A m ys) (hKM : ∀ x cs, Rr x cs → d.M W base okp x cs) (hokp : ∀ k, okp k → ok k ∧ some k ≠ v.ownBlock) (hfresh : ∀ k, W.heap.size ≤ k → ok k)
  (HB : Below base w0 W) (hbase : base ≤ W.heap.size) (hl : (xs.length + m) * bytes ≤ 140737488355328)
  (h : ∀ v1 w1, d.R e w1 base ok v1 (xs ++ ys) → Below base w0 w1 → W.grownBy w1 v.ownBlock → (v1.ownBlock = v.ownBlock ∨ ∃ b, v1.ownBlock = some b ∧ W.heap.size ≤ b) → wpList P ops Q rest (a.put o.dst v1) w1) :
  wpList P ops Q (o :: rest) a W := by
 obtain ⟨i0, hi, hzz⟩ := Option.map_eq_some_iff.1 hinfo
 simp only [Prod.mk.injEq] at hzz
 obtain ⟨hz0, hz1, hz2⟩ := hzz
 have hm : ys.length = m := HR.1
 have hlen : xs.length + m ≤ 140737488355328 := Nat.le_trans (Nat.le_mul_of_pos_right _ hb0) hl
 obtain ⟨hok, inner, hown, hr⟩ := HO
 have hrun : ∃ v1 w1, (Builtin.append_ #[t, t] o.type #[v, .slice A m c]).run P W = .ok v1 w1 ∧ d.R e w1 base ok v1 (xs ++ ys) ∧ W.grownBy w1 v.ownBlock ∧ (v1.ownBlock = v.ownBlock ∨ ∃ b, v1.ownBlock = some b ∧ W.heap.size ≤ b) := by
  rcases A with _ | ad
  ·have h0 : m = 0 := by
    rcases Nat.eq_zero_or_pos m with h0 | h0
    ·exact h0
    ·obtain ⟨ad, h, _⟩ := HR.2.2 h0
     cases h
   subst h0
   obtain rfl : ys = [] := List.eq_nil_of_length_eq_zero hm
   refine ⟨v, W, ?_, by rw [List.append_nil]; exact ⟨hok, inner, hown, hr⟩, World.grownBy.refl W _, .inl rfl⟩
   rcases hown.2 with ⟨rfl, hn⟩ | ⟨g, cap, cur, rfl, _, _, hnc, _⟩
   ·simp [Builtin.append_, run_underlying ht, sizeOf, typeInfo, hi, Builtin.lenOf, Builtin.firstCells]
   ·simp [Builtin.append_, run_underlying ht, sizeOf, typeInfo, hi, Builtin.lenOf, Builtin.firstCells, hnc, storeCells]
  ·obtain ⟨news, hnr, hnc⟩ := ReadsRow.inner_ HR
   have hnM : Reps (d.M W base okp) d.sz ys news := hnr.imp_ (fun p c hp => hKM p c hp)
   have hone : ∀ u ∈ news, u.oneCell' = true := by
    intro u hu
    obtain ⟨q, hq, rfl⟩ := List.mem_iff_getElem.1 hu
    have hql : q / d.sz < ys.length := by
     rw [Nat.div_lt_iff_lt_mul hs0]
     rw [← hnM.1]
     exact hq
    have hc := hnM.2 (q / d.sz) _ (List.getElem?_eq_getElem hql)
    refine d.K_one (d.K_of_M hc) _ ?_
    rw [List.mem_iff_getElem?]
    refine ⟨q % d.sz, ?_⟩
    rw [List.getElem?_take, if_pos (Nat.mod_lt _ hs0), List.getElem?_drop, Nat.mul_comm, Nat.div_add_mod, List.getElem?_eq_getElem hq]
   obtain ⟨v1, w1, hrun, h2, hg, _, hat⟩ := run_append_own_at (P := P) W base t o.type e i0 z d.sz bytes ht hi hz0 hz1 hz2 hz hs0 v xs.length inner hown ad m c news (by rw [hnM.1, hm]) hnc hone (by simp only [maxLen]; omega) hl hbase
   have hat' : v1.ownBlock = v.ownBlock ∨ ∃ b, v1.ownBlock = some b ∧ W.heap.size ≤ b := by
    rcases hat with hat | hat
    ·exact .inl hat
    ·exact .inr ⟨_, hat, Nat.le_refl _⟩
   have hne : ∀ k, some k ≠ v.ownBlock → k < W.heap.size → some k ≠ v1.ownBlock := by
    intro k hk hlt
    rcases hat' with hat | ⟨b, hb, hle⟩
    ·rw [hat]; exact hk
    ·rw [hb]
     intro he
     injection he with he
     omega
   have step : ∀ {q : α} {c : List Value} {o : Nat → Prop}, d.M W base o q c → (∀ k, o k → ok k ∧ some k ≠ v.ownBlock) → d.M w1 base (fun k => ok k ∧ some k ≠ v1.ownBlock) q c := by
    intro q c o hq ho
    have h1 := d.M_move (w1 := w1) (fun k hk => hg.block k hk.2.2.1 (ho k hk.1).2) (d.M_bound hq)
    exact d.M_mono (fun k hk => ⟨(ho k hk.1).1, hne k (ho k hk.1).2 hk.2.2.1⟩) h1
   refine ⟨v1, w1, hrun, ⟨fun k hk => ?_, inner ++ news, by rw [List.length_append, hm]; exact h2, reps_append (hr.imp_ (fun _ _ hq => step hq (fun _ hk => hk))) (hnM.imp_ (fun _ _ hq => step hq hokp))⟩, hg, hat'⟩
   rcases hat' with hat | ⟨b, hb, hle⟩
   ·exact hok k (hat ▸ hk)
   ·rw [hb] at hk
    injection hk with hk
    exact hfresh k (by omega)
 obtain ⟨v1, w1, hr1, h1, hg, hat⟩ := hrun
 refine wpList_plain hgd fun K hK => ?_
 unfold Oper.wp execOp
 simp only [ho, resolve, invoke, builtin, Sem.run_bind, Sem.run_pure, Result.andThen_ok, List.map_toArray, List.map_cons, List.map_nil, hs, hx, hr1]
 exact hK _ _ (h v1 w1 h1 (HB.grown hg hbase (own_base hown)) hg hat)
end
end Kd
namespace Kd
section
variable {P : Program} {ops : Array Oper} {rest : List Oper} {o : Oper} {a : Act} {Q : Exit → Act → World → Prop} {α : Type}
end
end Kd
namespace Kd
section
variable {α : Type} {k : Kd α} {w : World} {A : Option Addr} {xs : List α} {m c : Nat}
end
end Kd
section
variable {P : Program}
end
theorem below_size {w W : World} (h : Below w.heap.size w W) : w.heap.size ≤ W.heap.size := h.size
theorem below_step {w W w2 : World} (h : Below w.heap.size w W) (k : Below W.heap.size W w2) : Below w.heap.size w w2 := below_then h h.size k
theorem below_set {w W : World} {g j : Nat} {v : Value} (h : Below w.heap.size w W) (hg : w.heap.size ≤ g) : Below w.heap.size w (W.setCell ⟨g, j, none⟩ v) := h.setCell hg _
theorem keep_drewN {w W : World} {g : Nat} {row : Option Nat} (h : KeepBut w W g row) (m : Nat) : KeepBut w (W.drewN m) g row := h
theorem below_weaken {w0 w w1 : World} {B : Nat} (h : Below w0.heap.size w0 w) (hB : w0.heap.size ≤ B) (k : Below B w w1) : Below w0.heap.size w0 w1 :=
 h.trans ⟨k.os, k.tape, k.output, k.size, fun i hi => k.block i (Nat.lt_of_lt_of_le hi hB)⟩
theorem own_base' {w : World} {base : Nat} {e : TypeId} {size n : Nat} {v : Value} {xs : List Value} (h : w.ownsRow base e size v n xs) : v.ownBlock = none ∨ ∃ b, v.ownBlock = some b ∧ base ≤ b := by
 cases hv : v.ownBlock with
 | none => exact .inl rfl
 | some b => exact .inr ⟨b, rfl, own_base h b hv⟩
theorem keep_size {w W : World} {g : Nat} {row : Option Nat} (h : KeepBut w W g row) : w.heap.size ≤ W.heap.size := h.1
theorem blk_put {w : World} {g : Nat} {t : TypeId} {cs cs' : Array Value} (h : w.heap[g]? = some (.cells cs t (0, 0))) (i : Nat) (u : Value) (e : cs.setIfInBounds i u = cs') : (w.setCell ⟨g, i, none⟩ u).heap[g]? = some (.cells cs' t (0, 0)) := e ▸ blk_set h i u
theorem keep_far {w W : World} {g : Nat} {row : Option Nat} (h : KeepBut w W g row) {p : Addr} (hp : w.heap.size ≤ p.block) (u : Value) : KeepBut w (W.setCell p u) g row :=
 ⟨by simpa [World.setCell] using h.1, fun i hi hg hr => (Below.heap_setCell W p u i (by omega)).trans (h.2 i hi hg hr)⟩
theorem below_drew1 {base : Nat} {w W : World} (h : Below base w W) : Below base w W.drew := h.drew
namespace Kd
section
variable {α β : Type} {d : Kd α} {d' : Kd β} {e e' base base' n : Nat} {ok ok' : Nat → Prop} {w W w1 W1 : World} {v u : Value} {xs : List α} {ys : List β} {A : Option Addr} {c : Nat}
theorem R_base2 (h : d.R e w base ok v xs) : v.ownBlock = none ∨ ∃ k, v.ownBlock = some k ∧ base ≤ k := by
 obtain ⟨inner, ho⟩ := R_own h
 exact own_base' ho
end
section
variable {α : Type} {enc : α → Value} {h1 : ∀ x, (enc x).oneCell' = true} {w W : World} {A : Option Addr} {n g : Nat} {xs : List α}
end
end Kd
namespace Kd
section
variable {α : Type} {d : Kd α} {e base g : Nat} {ok : Nat → Prop} {w w1 : World} {v : Value} {xs : List α} {o : Obj}
theorem R_elderB (h : d.R e w base ok v xs) (a : Nat) (ha : w.heap.size ≤ a) : d.R e w base (fun k => ok k ∧ k ≠ a) v xs := R_mono (R_bound h) (fun k hk => ⟨hk.1, by have := hk.2.2.1; omega⟩)
theorem R_newB (h : d.R e w1 w.heap.size ok v xs) (hb : w.heap[g]? = some o) : d.R e w1 w.heap.size (fun k => ok k ∧ k ≠ g) v xs := R_mono (R_bound h) (fun k hk => ⟨hk.1, by have := blk_lt hb; have := hk.2.1; omega⟩)
theorem freshB (hb : w.heap[g]? = some o) : ∀ k, w.heap.size ≤ k → k ≠ g := fun k hk => by have := blk_lt hb; omega
end
end Kd
section
variable {P : Program} {ops : Array Oper} {rest : List Oper} {o : Oper} {a : Act} {Q : Exit → Act → World → Prop}
theorem box_event {W : World} (hgd : o.guard = none) {N : Tmp} (_hd : o.dst = some N) {cs : Array Value} {t : TypeId}
  (hrun : (execOp a.eval o).run P W = .ok (.value (.pointer (some ⟨W.heap.size, 0, none⟩))) (W.alloc (.cells cs t (0, 0))))
  (h : ∀ g, g = W.heap.size → ∀ w1, w1.heap[g]? = some (.cells cs t (0, 0)) → Below W.heap.size W w1 → wpList P ops Q rest (a.put o.dst (.pointer (some ⟨g, 0, none⟩))) w1) : wpList P ops Q (o :: rest) a W :=
 Kd.event_run hgd hrun (h _ rfl _ (blk_new W _) (below_alloc (Below.refl _ _) _))
end
namespace Kd
section
variable {α : Type} {enc : α → Value} {h1 : ∀ x, (enc x).oneCell' = true} {e base g n cap : Nat} {ok : Nat → Prop} {W : World} {xs : List α}
end
end Kd
section
variable {P : Program} {ops : Array Oper} {rest : List Oper} {o : Oper} {a : Act} {Q : Exit → Act → World → Prop}
theorem store_event {W w1 : World} (hgd : o.guard = none) {t : TypeId} {p : Tmp} {v : Operand} (_ho : o.op = .store t (.tmp p) v) (hN : o.dst = none)
  (hrun : (execOp a.eval o).run P W = .ok .skip w1) (h : ∀ w', w' = w1 → wpList P ops Q rest a w') : wpList P ops Q (o :: rest) a W := by
 refine wpList_plain hgd fun K hK => ?_
 unfold Oper.wp
 rw [hrun]
 show K (a.put o.dst undef) w1
 rw [hN]
 exact hK _ _ (h _ rfl)
end
namespace Kd
section
variable {α : Type} {enc : α → Value} {h1 : ∀ x, (enc x).oneCell' = true} {e base g n cap : Nat} {ok : Nat → Prop} {W : World} {xs : List α}
end
end Kd
section
variable {P : Program} {ops : Array Oper} {rest : List Oper} {o : Oper} {a : Act} {Q : Exit → Act → World → Prop} {W : World}
theorem gate_dst {N : Tmp} (_hN : o.dst = some N) (h : wpList P ops Q (o :: rest) a W) : wpList P ops Q (o :: rest) a W := h
theorem gate_store {t : TypeId} {p : Tmp} {v : Operand} (_ho : o.op = .store t (.tmp p) v) (h : wpList P ops Q (o :: rest) a W) : wpList P ops Q (o :: rest) a W := h
end
section
variable {P : Program} {ops : Array Oper} {o : Oper} {a : Act} {Q : Exit → Act → World → Prop} {Kc : Act → World → Prop}
namespace Kd
variable {α : Type}
end Kd
end
section
variable {P : Program} {tmps : Array Value} {w : World}
end
namespace Kd
section
variable {P : Program} {α : Type}
end
section
variable {P : Program} {ops : Array Oper} {rest : List Oper} {o : Oper} {a : Act} {Q : Exit → Act → World → Prop} {Kc : Act → World → Prop} {α : Type}
end
end Kd
end Go.Proofs.YtgiioglmkogpkaaGreatDoorW.PrintWords
namespace Go.Proofs.YtgiioglmkogpkaaGreatDoorW.PrintLast
section
variable {P : Program} {ops : Array Oper} {Q : Exit → Act → World → Prop} {md : Region.Mode} {S : World → Prop} {ds : List Nat}
def Region.reachB (md : Region.Mode) (ops : Array Oper) (i : Nat) : Nat → Nat → Bool
 | 0, _ => false
 | fuel + 1, d => match ops[d]? with
  | some o => o.after.any fun e => Region.binds md e && (e.on == i || Region.reachB md ops i fuel e.on)
  | none => false
def Region.closedB (md : Region.Mode) (ops : Array Oper) (listed : Array Bool) : Bool :=
 (List.range ops.size).all fun j => !listed.getD j false || match ops[j]? with
  | some o => o.after.all fun e => !Region.binds md e || listed.getD e.on false
  | none => true
def Region.lastB (md : Region.Mode) (ops : Array Oper) (listed : Array Bool) (ds : List Nat) (i : Nat) : Bool :=
 ds.all fun d => listed.getD d true || Region.reachB md ops i ops.size d
def ListedClosed (md : Region.Mode) (ops : Array Oper) (listed : Array Bool) : Prop :=
 ∀ j oj, ops[j]? = some oj → listed.getD j false = true → ∀ e ∈ oj.after, Region.binds md e = true → listed.getD e.on false = true
theorem Region.closedB_spec {listed : Array Bool} (h : Region.closedB md ops listed = true) : ListedClosed md ops listed := by
 intro j oj hj hl e he hb
 have hlt : j < ops.size := (Array.getElem?_eq_some_iff.1 hj).1
 have h1 := List.all_eq_true.1 h j (List.mem_range.2 hlt)
 simp only [hl, hj, Bool.not_true, Bool.false_or] at h1
 have h2 := Array.all_eq_true_iff_forall_mem.1 h1 e he
 simpa [hb] using h2
theorem ListedClosed.set {listed : Array Bool} {i : Nat} (h : ListedClosed md ops listed) (hi : i ∈ Region.ready md ops listed) : ListedClosed md ops (listed.setIfInBounds i true) := by
 obtain ⟨_, oi, hoi, hall⟩ := mem_ready.1 hi
 intro j oj hj hl e he hb
 by_cases hij : i = j
 ·subst hij
  have : oj = oi := Option.some.inj (hj.symm.trans hoi)
  subst this
  exact getD_set_true (hall e he hb)
 ·rw [getD_set_ne false hij] at hl
  exact getD_set_true (h j oj hj hl e he hb)
theorem Region.reach_listed {listed : Array Bool} {i : Nat} (hc : ListedClosed md ops listed) : ∀ (fuel d : Nat), Region.reachB md ops i fuel d = true → listed.getD d false = true → listed.getD i false = true
 | 0, _, h, _ => by simp [Region.reachB] at h
 | fuel + 1, d, h, hl => by
  unfold Region.reachB at h
  cases ho : ops[d]? with
  | none => rw [ho] at h; simp at h
  | some o =>
   rw [ho] at h
   obtain ⟨e, he, h1⟩ := Array.any_eq_true'.1 h
   simp only [Bool.and_eq_true, Bool.or_eq_true, beq_iff_eq] at h1
   have hle := hc d o ho hl e he h1.1
   rcases h1.2 with h2 | h2
   ·rw [← h2]; exact hle
   ·exact Region.reach_listed hc fuel e.on h2 hle
theorem Region.reach_not_ready {listed : Array Bool} {i d fuel : Nat} (hc : ListedClosed md ops listed) (hr : Region.reachB md ops i fuel d = true) (hun : listed.getD i true = false) : d ∉ Region.ready md ops listed := by
 intro hd
 obtain ⟨_, o, ho, hall⟩ := mem_ready.1 hd
 have hi : listed.getD i false = true := by
  cases fuel with
  | zero => simp [Region.reachB] at hr
  | succ n =>
   unfold Region.reachB at hr
   rw [ho] at hr
   obtain ⟨e, he, h1⟩ := Array.any_eq_true'.1 hr
   simp only [Bool.and_eq_true, Bool.or_eq_true, beq_iff_eq] at h1
   have hle := hall e he h1.1
   rcases h1.2 with h2 | h2
   ·rw [← h2]; exact hle
   ·exact Region.reach_listed hc n e.on h2 hle
 rcases Nat.lt_or_ge i listed.size with h' | h'
 ·simp [h'] at hun hi
  rw [hun] at hi
  cases hi
 ·simp [Array.getElem?_eq_none h'] at hun
def wpAnyLast (P : Program) (md : Region.Mode) (ops : Array Oper) (Q : Exit → Act → World → Prop) (S : World → Prop) (ds : List Nat) : Nat → Array Bool → Act → World → Prop
 | 0, listed, a, w => Region.ready md ops listed = [] ∧ Q .normal a w
 | fuel + 1, listed, a, w =>
  (Region.ready md ops listed = [] → Q .normal a w) ∧
  ∀ i ∈ Region.ready md ops listed, wpOp P ops Q i (fun a' w' => (i ∉ ds → S w → S w') ∧ wpAnyLast P md ops Q S ds fuel (listed.setIfInBounds i true) a' w') a w
theorem wpAny_of_last : ∀ (fuel : Nat) (listed : Array Bool) (a : Act) (w : World), wpAnyLast P md ops Q S ds fuel listed a w → wpAny P md ops Q fuel listed a w
 | 0, _, _, _, h => h
 | fuel + 1, _, _, _, h => ⟨h.1, fun i hi => wpOp_mono (fun a' w' h' => wpAny_of_last fuel _ a' w' h'.2) (h.2 i hi)⟩
theorem wpAnyLast_first {i : Nat} {oi : Oper} {v : Value} (hi : ops[i]? = some oi) (hsel : ∀ (j : Nat) (o : Oper) cs b, ops[j]? = some o → o.op ≠ .select cs b)
  (hQ : ∀ c a w, Q (.panic c) (a.put oi.dst v) w → Q (.panic c) a w) (n : Nat) :
  ∀ (fuel : Nat) (listed : Array Bool) (a : Act) (w : World),
   (∀ j oj, ops[j]? = some oj → j ≠ i → listed.getD j true = false → (∀ e ∈ oj.after, Region.binds md e = true → e.on ≠ i) → oi.apart ops oj = true) →
   ListedClosed md ops listed → (∀ d ∈ ds, listed.getD d true = false → Region.reachB md ops i n d = true) →
   i ∈ Region.ready md ops listed → YieldsIf P ops S oi v a → S w →
   wpAnyLast P md ops Q S ds fuel (listed.setIfInBounds i true) (a.put oi.dst v) w → wpAnyLast P md ops Q S ds (fuel + 1) listed a w := by
 intro fuel
 induction fuel with
 | zero =>
  intro listed a w _ _ _ hr hy hS H
  refine ⟨fun h => (by rw [h] at hr; cases hr), fun j hj => ?_⟩
  by_cases hji : j = i
  ·subst hji; exact hy.wpOp hi hS ⟨fun _ h => h, H⟩
  ·have := ready_mono hj hji
   rw [H.1] at this
   cases this
 | succ fuel ih =>
  intro listed a w hfree hc hd hr hy hS H
  refine ⟨fun h => (by rw [h] at hr; cases hr), fun j hj => ?_⟩
  by_cases hji : j = i
  ·subst hji; exact hy.wpOp hi hS ⟨fun _ h => h, H⟩
  ·have h1 := H.2 j (ready_mono hj hji)
   obtain ⟨hjun, oj, hoj, hall⟩ := mem_ready.1 hj
   have hiun := (mem_ready.1 hr).1
   have hnot : ∀ e ∈ oj.after, Region.binds md e = true → e.on ≠ i := fun e he hb heq => by
    have h1 := hall e he hb
    rw [heq] at h1
    rcases Nat.lt_or_ge i listed.size with h' | h'
    ·simp [h'] at hiun h1; rw [hiun] at h1; cases h1
    ·simp [Array.getElem?_eq_none h'] at h1
   have hjd : j ∉ ds := fun hm => Region.reach_not_ready hc (hd j hm hjun) hiun hj
   have h2 := wpOp_putIf hoj (hfree j oj hoj hji hjun hnot) (fun cs b => hsel i oi cs b hi) (fun cs b => hsel j oj cs b hoj) hQ hy h1
   have hfree' : ∀ k ok, ops[k]? = some ok → k ≠ i → (listed.setIfInBounds j true).getD k true = false →
     (∀ e ∈ ok.after, Region.binds md e = true → e.on ≠ i) → oi.apart ops ok = true := fun k ok hk hki hun hno => by
    refine hfree k ok hk hki ?_ hno
    by_cases hjk : j = k
    ·subst hjk; exact hjun
    ·rw [getD_set_ne true hjk] at hun; exact hun
   have hd' : ∀ d ∈ ds, (listed.setIfInBounds j true).getD d true = false → Region.reachB md ops i n d = true := fun d hm hun => by
    refine hd d hm ?_
    by_cases hjk : j = d
    ·subst hjk; exact hjun
    ·rw [getD_set_ne true hjk] at hun; exact hun
   refine wpOp_mono (fun a' w' h3 => ⟨h3.2.1, ih (listed.setIfInBounds j true) a' w' hfree' (hc.set hj) hd' (ready_mono hr (Ne.symm hji)) h3.1 (h3.2.1 hjd hS) ?_⟩) h2
   rw [Array.setIfInBounds_comm _ _ hji]
   exact h3.2.2
theorem wpAnyLast_any {i : Nat} {oi : Oper} {v : Value} (hi : ops[i]? = some oi) (hsel : ∀ (j : Nat) (o : Oper) cs b, ops[j]? = some o → o.op ≠ .select cs b)
  (hQ : ∀ c a w, Q (.panic c) (a.put oi.dst v) w → Q (.panic c) a w) :
  ∀ (fuel : Nat) (listed : Array Bool) (a : Act) (w : World),
   (∀ j oj, ops[j]? = some oj → j ≠ i → listed.getD j true = false → (∀ e ∈ oj.after, Region.binds md e = true → e.on ≠ i) → oi.apart ops oj = true) →
   i ∈ Region.ready md ops listed → Yields P ops oi v a →
   wpAnyLast P md ops Q S ds fuel (listed.setIfInBounds i true) (a.put oi.dst v) w → wpAnyLast P md ops Q S ds (fuel + 1) listed a w := by
 intro fuel
 induction fuel with
 | zero =>
  intro listed a w _ hr hy H
  refine ⟨fun h => (by rw [h] at hr; cases hr), fun j hj => ?_⟩
  by_cases hji : j = i
  ·subst hji; exact (hy.yieldsIf (S := fun _ => True)).wpOp hi trivial ⟨fun _ h => h, H⟩
  ·have := ready_mono hj hji
   rw [H.1] at this
   cases this
 | succ fuel ih =>
  intro listed a w hfree hr hy H
  refine ⟨fun h => (by rw [h] at hr; cases hr), fun j hj => ?_⟩
  by_cases hji : j = i
  ·subst hji; exact (hy.yieldsIf (S := fun _ => True)).wpOp hi trivial ⟨fun _ h => h, H⟩
  ·have h1 := H.2 j (ready_mono hj hji)
   obtain ⟨hjun, oj, hoj, hall⟩ := mem_ready.1 hj
   have hiun := (mem_ready.1 hr).1
   have hnot : ∀ e ∈ oj.after, Region.binds md e = true → e.on ≠ i := fun e he hb heq => by
    have h1 := hall e he hb
    rw [heq] at h1
    rcases Nat.lt_or_ge i listed.size with h' | h'
    ·simp [h'] at hiun h1; rw [hiun] at h1; cases h1
    ·simp [Array.getElem?_eq_none h'] at h1
   have h2 := wpOp_put hoj (hfree j oj hoj hji hjun hnot) (fun cs b => hsel i oi cs b hi) (fun cs b => hsel j oj cs b hoj) hQ hy h1
   have hfree' : ∀ k ok, ops[k]? = some ok → k ≠ i → (listed.setIfInBounds j true).getD k true = false →
     (∀ e ∈ ok.after, Region.binds md e = true → e.on ≠ i) → oi.apart ops ok = true := fun k ok hk hki hun hno => by
    refine hfree k ok hk hki ?_ hno
    by_cases hjk : j = k
    ·subst hjk; exact hjun
    ·rw [getD_set_ne true hjk] at hun; exact hun
   refine wpOp_mono (fun a' w' h3 => ⟨h3.2.1, ih (listed.setIfInBounds j true) a' w' hfree' (ready_mono hr (Ne.symm hji)) h3.1 ?_⟩) h2
   rw [Array.setIfInBounds_comm _ _ hji]
   exact h3.2.2
theorem wpAnyLast_take {i : Nat} {oi : Oper} {v : Value} {fuel : Nat} {listed : Array Bool} {a : Act} {w : World} (hi : ops[i]? = some oi)
  (hs : Region.noSelect ops = true) (hf : Region.free md ops listed i = true) (hr : (Region.ready md ops listed).contains i = true)
  (hc : Region.closedB md ops listed = true) (hl : Region.lastB md ops listed ds i = true)
  (hQ : ∀ c a w, Q (.panic c) (a.put oi.dst v) w → Q (.panic c) a w) (hy : YieldsIf P ops S oi v a) (hS : S w)
  (h : wpAnyLast P md ops Q S ds fuel (listed.setIfInBounds i true) (a.put oi.dst v) w) : wpAnyLast P md ops Q S ds (fuel + 1) listed a w :=
 wpAnyLast_first hi (Region.noSelect_spec hs) hQ ops.size fuel listed a w (Region.free_spec hi hf) (Region.closedB_spec hc)
  (fun d hm hun => by have := List.all_eq_true.1 hl d hm; rw [hun] at this; simpa using this) (by simpa using hr) hy hS h
theorem wpAnyLast_all {rs : List Nat} {fuel : Nat} {listed : Array Bool} {a : Act} {w : World} (hr : Region.ready md ops listed = rs) (hne : rs ≠ [])
  (h : ∀ i ∈ rs, wpOp P ops Q i (fun a' w' => (i ∉ ds → S w → S w') ∧ wpAnyLast P md ops Q S ds fuel (listed.setIfInBounds i true) a' w') a w) : wpAnyLast P md ops Q S ds (fuel + 1) listed a w :=
 ⟨fun h0 => absurd (hr ▸ h0) hne, hr ▸ h⟩
theorem wpAnyLast_done {listed : Array Bool} {a : Act} {w : World} (hr : Region.ready md ops listed = []) (h : Q .normal a w) :
  ∀ fuel, wpAnyLast P md ops Q S ds fuel listed a w
 | 0 => ⟨hr, h⟩
 | _ + 1 => ⟨fun _ => h, by rw [hr]; simp⟩
theorem wp_region_last {id : Nat} {a : Act} {w : World} (hm : P.follows .mixedOrders = true)
  (h : wpAnyLast P .any ops Q S ds ops.size (Array.replicate ops.size false) a { w with drawn := w.drawn + 1 }) : (Code.region id ops true).wp P Q a w :=
 wp_region_any hm (wpAny_of_last _ _ _ _ h)
end
section
variable {P : Program} {ops : Array Oper} {Q : Exit → Act → World → Prop} {md : Region.Mode} {S : World → Prop} {ds : List Nat}
def AllReadyL (P : Program) (md : Region.Mode) (ops : Array Oper) (Q : Exit → Act → World → Prop) (S : World → Prop) (ds : List Nat) (fuel : Nat) (listed : Array Bool) (a : Act) (w : World) (rs : List Nat) : Prop :=
 ∀ i ∈ rs, wpOp P ops Q i (fun a' w' => (i ∉ ds → S w → S w') ∧ wpAnyLast P md ops Q S ds fuel (listed.setIfInBounds i true) a' w') a w
theorem AllReadyL.nil {fuel : Nat} {listed : Array Bool} {a : Act} {w : World} : AllReadyL P md ops Q S ds fuel listed a w [] := fun _ h => by cases h
theorem AllReadyL.cons {fuel : Nat} {listed : Array Bool} {a : Act} {w : World} {i : Nat} {o : Oper} {rs : List Nat} (ho : ops[i]? = some o) (hd : i ∉ ds)
  (h : ∀ K' : Act → World → Prop, Shut (∀ a w, S w → (S w → wpAnyLast P md ops Q S ds fuel (listed.setIfInBounds i true) a w) → K' a w) → if Region.wanted o (yielded ops a.tmps) = true then Oper.wp P o a w K' Q else K' (a.put o.dst undef) w)
  (hs : AllReadyL P md ops Q S ds fuel listed a w rs) : AllReadyL P md ops Q S ds fuel listed a w (i :: rs) := fun j hj => by
 rcases List.mem_cons.1 hj with rfl | hj
 ·exact wpOp_step ho (fun K' hK => h K' (fun a w hS hW => hK a w ⟨fun _ _ => hS, hW hS⟩))
 ·exact hs j hj
theorem AllReadyL.cons_last {fuel : Nat} {listed : Array Bool} {a : Act} {w : World} {i : Nat} {o : Oper} {rs : List Nat} (ho : ops[i]? = some o) (hd : i ∈ ds)
  (h : ∀ K' : Act → World → Prop, Shut (∀ a w, wpAnyLast P md ops Q S ds fuel (listed.setIfInBounds i true) a w → K' a w) → if Region.wanted o (yielded ops a.tmps) = true then Oper.wp P o a w K' Q else K' (a.put o.dst undef) w)
  (hs : AllReadyL P md ops Q S ds fuel listed a w rs) : AllReadyL P md ops Q S ds fuel listed a w (i :: rs) := fun j hj => by
 rcases List.mem_cons.1 hj with rfl | hj
 ·exact wpOp_step ho (fun K' hK => h K' (fun a w hW => hK a w ⟨fun hn => absurd hd hn, hW⟩))
 ·exact hs j hj
theorem wpAnyLast_ready {rs : List Nat} {fuel : Nat} {listed : Array Bool} {a : Act} {w : World} (hr : Region.ready md ops listed = rs) (hne : rs ≠ [])
  (h : AllReadyL P md ops Q S ds fuel listed a w rs) : wpAnyLast P md ops Q S ds (fuel + 1) listed a w := wpAnyLast_all hr hne h
theorem start_ {id n : Nat} {a : Act} {w : World} (l : Array Bool) (hm : P.follows .mixedOrders = true) (hn : ops.size = n) (hl : Array.replicate n false = l) (hS : S w.drew)
  (h : S w.drew → wpAnyLast P .any ops Q S ds n l a w.drew) : (Code.region id ops true).wp P Q a w := by
 subst hn
 subst hl
 exact wp_region_last hm (h hS)
def takeB (md : Region.Mode) (ops : Array Oper) (ds : List Nat) (l l' : Array Bool) (i : Nat) : Bool :=
 Region.noSelect ops && Region.free md ops l i && (Region.ready md ops l).contains i && Region.closedB md ops l && Region.lastB md ops l ds i && (l.setIfInBounds i true == l')
theorem take_ {i : Nat} {N : Option Tmp} {oi : Oper} {v : Value} {fuel : Nat} {l : Array Bool} {a : Act} {w : World} (l' : Array Bool) (hi : ops[i]? = some oi) (hN : oi.dst = N) (hc : takeB md ops ds l l' i = true)
  (hQ : ∀ c a w, Q (.panic c) (a.put oi.dst v) w → Q (.panic c) a w) (hy : YieldsIf P ops S oi v a) (hS : S w) {a' : Act} (ha : a.put N v = a')
  (h : wpAnyLast P md ops Q S ds fuel l' a' w) : wpAnyLast P md ops Q S ds (fuel + 1) l a w := by
 subst ha
 subst hN
 simp only [takeB, Bool.and_eq_true, beq_iff_eq] at hc
 obtain ⟨⟨⟨⟨⟨h1, h2⟩, h3⟩, h4⟩, h5⟩, h6⟩ := hc
 subst h6
 exact wpAnyLast_take hi h1 h2 h3 h4 h5 hQ hy hS h
def anyB (md : Region.Mode) (ops : Array Oper) (l l' : Array Bool) (i : Nat) : Bool :=
 Region.noSelect ops && Region.free md ops l i && (Region.ready md ops l).contains i && (l.setIfInBounds i true == l')
theorem pure_ {i : Nat} {N : Option Tmp} {oi : Oper} {v : Value} {fuel : Nat} {l : Array Bool} {a : Act} {w : World} (l' : Array Bool) (hi : ops[i]? = some oi) (hN : oi.dst = N) (hc : anyB md ops l l' i = true)
  (hQ : ∀ c a w, Q (.panic c) (a.put oi.dst v) w → Q (.panic c) a w) (hy : Yields P ops oi v a) {a' : Act} (ha : a.put N v = a')
  (h : wpAnyLast P md ops Q S ds fuel l' a' w) : wpAnyLast P md ops Q S ds (fuel + 1) l a w := by
 subst ha
 subst hN
 simp only [anyB, Bool.and_eq_true, beq_iff_eq] at hc
 obtain ⟨⟨⟨h1, h2⟩, h3⟩, h6⟩ := hc
 subst h6
 exact wpAnyLast_any hi (Region.noSelect_spec h1) hQ fuel l a w (Region.free_spec hi h2) (by simpa using h3) hy h
def readyB (md : Region.Mode) (ops : Array Oper) (l l' : Array Bool) (i : Nat) : Bool := (Region.ready md ops l == [i]) && (l.setIfInBounds i true == l')
theorem one_ {i : Nat} {N : Option Tmp} {oi : Oper} {fuel : Nat} {l : Array Bool} {a : Act} {w : World} (l' : Array Bool) (hi : ops[i]? = some oi) (hN : oi.dst = N) (hc : readyB md ops l l' i = true) (hd : i ∉ ds)
  (h : ∀ K : Act → World → Prop, Shut (∀ a' w', S w' → (S w' → wpAnyLast P md ops Q S ds fuel l' a' w') → K a' w') → if Region.wanted oi (yielded ops a.tmps) = true then Oper.wp P oi a w K Q else K (a.put N undef) w) :
  wpAnyLast P md ops Q S ds (fuel + 1) l a w := by
 subst hN
 simp only [readyB, Bool.and_eq_true, beq_iff_eq] at hc
 obtain ⟨h1, h2⟩ := hc
 subst h2
 exact wpAnyLast_ready h1 (by simp) (AllReadyL.cons hi hd (fun K hK => h K hK) AllReadyL.nil)
theorem last_ {i : Nat} {N : Option Tmp} {oi : Oper} {fuel : Nat} {l : Array Bool} {a : Act} {w : World} (l' : Array Bool) (hi : ops[i]? = some oi) (hN : oi.dst = N) (hc : readyB md ops l l' i = true) (hd : i ∈ ds)
  (h : ∀ K : Act → World → Prop, Shut (∀ a' w', wpAnyLast P md ops Q S ds fuel l' a' w' → K a' w') → if Region.wanted oi (yielded ops a.tmps) = true then Oper.wp P oi a w K Q else K (a.put N undef) w) :
  wpAnyLast P md ops Q S ds (fuel + 1) l a w := by
 subst hN
 simp only [readyB, Bool.and_eq_true, beq_iff_eq] at hc
 obtain ⟨h1, h2⟩ := hc
 subst h2
 exact wpAnyLast_ready h1 (by simp) (AllReadyL.cons_last hi hd (fun K hK => h K hK) AllReadyL.nil)
theorem done_ {l : Array Bool} {a : Act} {w : World} {n : Nat} (hr : (Region.ready md ops l == []) = true) (h : Q .normal a w) : wpAnyLast P md ops Q S ds n l a w := wpAnyLast_done (by simpa using hr) h n
theorem norm_ {fuel : Nat} {l : Array Bool} {a a' : Act} {w : World} (ha : a = a') (h : wpAnyLast P md ops Q S ds fuel l a' w) : wpAnyLast P md ops Q S ds fuel l a w := by
 subst ha
 exact h
theorem call_ {oi : Oper} {N : Option Tmp} {a : Act} {w : World} {K : Act → World → Prop} (f : FuncId) (args : Array Value) (hw : Region.wanted oi (yielded ops a.tmps) = true) (hN : oi.dst = N) (hrun : (execOp a.eval oi).run P w = .ok (.enter f args) w)
  (h : Calls P f args w fun e w' => ∃ v, e = .returned v ∧ K (a.put N v) w') : if Region.wanted oi (yielded ops a.tmps) = true then Oper.wp P oi a w K Q else K (a.put N undef) w := by
 rw [if_pos hw]
 subst hN
 unfold Oper.wp
 rw [hrun, Oper.upon_enter]
 refine h.mono fun e w'' hh => ?_
 obtain ⟨v, rfl, hk⟩ := hh
 exact hk
theorem enters_ {f : FuncId} {fn : Func} (hf : P.funcs[f]? = some fn) (hname : (fn.name == "runtime.NumGoroutine") = false) (hb : fn.body.isSome = true) (args : Array Value) (w : World) : (callFunc f args).run P w = .ok (.enter f args) w := by
 have h1 : fn.name ≠ "runtime.NumGoroutine" := by simpa using hname
 obtain ⟨c, hc⟩ := Option.isSome_iff_exists.1 hb
 simp [callFunc, hf, h1, hc]
theorem goes_ {oi : Oper} {N : Option Tmp} {a : Act} {w : World} {K : Act → World → Prop} {f : FuncId} {fn : Func} {az : Array Operand} {ts : Array TypeId} (hf : P.funcs[f]? = some fn) (hname : (fn.name == "runtime.NumGoroutine") = false) (hb : fn.body.isSome = true) (args : Array Value)
  (hw : Region.wanted oi (yielded ops a.tmps) = true) (hN : oi.dst = N) (hop : oi.op = .call { callee := .value (.func f), args := az, argTypes := ts }) (hargs : az.map a.eval = args)
  (h : Calls P f args w fun e w' => ∃ v, e = .returned v ∧ K (a.put N v) w') : if Region.wanted oi (yielded ops a.tmps) = true then Oper.wp P oi a w K Q else K (a.put N undef) w := by
 refine call_ f args hw hN ?_ h
 have he := enters_ hf hname hb args w
 unfold execOp
 simp [hop, resolve, Deferred.ofValue, invoke, Act.eval, hargs, he]
theorem goesL_ {rest : List Oper} {oi : Oper} {a : Act} {w : World} (N : Option Tmp) (hd : oi.dst = N) (hg : oi.guard = none) {f : FuncId} {fn : Func} {az : Array Operand} {ts : Array TypeId} (hf : P.funcs[f]? = some fn) (hname : (fn.name == "runtime.NumGoroutine") = false) (hb : fn.body.isSome = true) (args : Array Value)
  (hop : oi.op = .call { callee := .value (.func f), args := az, argTypes := ts }) (hargs : az.map a.eval = args)
  (h : Calls P f args w fun e w' => ∃ v, e = .returned v ∧ wpList P ops Q rest (a.put N v) w') : wpList P ops Q (oi :: rest) a w := by
 refine wpList_plain hg fun K hK => ?_
 have he := enters_ hf hname hb args w
 have hrun : (execOp a.eval oi).run P w = .ok (.enter f args) w := by
  unfold execOp
  simp [hop, resolve, Deferred.ofValue, invoke, Act.eval, hargs, he]
 unfold Oper.wp
 rw [hrun, Oper.upon_enter]
 refine h.mono fun e w'' hh => ?_
 obtain ⟨v, rfl, hk⟩ := hh
 subst hd
 exact hK _ _ hk
theorem value_ {oi : Oper} {N : Option Tmp} {a : Act} {w w1 : World} {v : Value} {K : Act → World → Prop} (hw : Region.wanted oi (yielded ops a.tmps) = true) (hN : oi.dst = N) (hrun : (execOp a.eval oi).run P w = .ok (.value v) w1)
  (h : K (a.put N v) w1) : if Region.wanted oi (yielded ops a.tmps) = true then Oper.wp P oi a w K Q else K (a.put N undef) w := by
 rw [if_pos hw]
 subst hN
 unfold Oper.wp
 rw [hrun]
 exact h
theorem skip_ {oi : Oper} {a : Act} {w w1 : World} {K : Act → World → Prop} (hw : Region.wanted oi (yielded ops a.tmps) = true) (hN : oi.dst = none) (hrun : (execOp a.eval oi).run P w = .ok .skip w1)
  (h : K a w1) : if Region.wanted oi (yielded ops a.tmps) = true then Oper.wp P oi a w K Q else K (a.put none undef) w := by
 rw [if_pos hw]
 unfold Oper.wp
 rw [hrun]
 show K (a.put oi.dst undef) w1
 rw [hN]
 exact h
theorem i64_w (n : Int) : IntKind.i64.wrap n = Go.RowKit.wrap64 n := by unfold Go.RowKit.wrap64; exact IntKind.wrap_i64 n
end
end Go.Proofs.YtgiioglmkogpkaaGreatDoorW.PrintLast
namespace Go.Proofs.YtgiioglmkogpkaaGreatDoorW.PrintLast
open Go.Proofs.YtgiioglmkogpkaaGreatDoorW.PrintWords (Aside0)
def needsOf (md : Region.Mode) (o : Oper) : List Nat := (o.after.toList.filter (fun e => Region.binds md e)).map (fun e => e.on)
def clashOf (md : Region.Mode) (ops : Array Oper) (i : Nat) (oi : Oper) : List Nat := (List.range ops.size).filter fun j => !(j == i) && match ops[j]? with
 | some oj => !(oj.after.any (fun e => Region.binds md e && e.on == i) || oi.apart ops oj)
 | none => false
def rtab (md : Region.Mode) (ops : Array Oper) : Bool × List (List Nat × List Nat) := (Region.noSelect ops, (List.range ops.size).map fun i => match ops[i]? with
 | some o => (needsOf md o, clashOf md ops i o)
 | none => ([], []))
def readyAt (T : List (List Nat × List Nat)) (l : List Bool) (i : Nat) : Bool := !l.getD i true && match T[i]? with
 | some r => r.1.all (fun j => l.getD j false)
 | none => false
def readyT (T : List (List Nat × List Nat)) (l : List Bool) : List Nat := (List.range T.length).filter (readyAt T l)
def freeT (T : List (List Nat × List Nat)) (l : List Bool) (i : Nat) : Bool := match T[i]? with
 | some r => r.2.all (fun j => l.getD j true)
 | none => false
def closedT (T : List (List Nat × List Nat)) (l : List Bool) : Bool := (List.range T.length).all fun j => !l.getD j false || match T[j]? with
 | some r => r.1.all (fun k => l.getD k false)
 | none => true
def reachT (T : List (List Nat × List Nat)) (i : Nat) : Nat → Nat → Bool
 | 0, _ => false
 | fuel + 1, d => match T[d]? with
  | some r => r.1.any fun j => j == i || reachT T i fuel j
  | none => false
def lastT (T : List (List Nat × List Nat)) (l : List Bool) (ds : List Nat) (i : Nat) : Bool := ds.all fun d => l.getD d true || reachT T i T.length d
section
variable {md : Region.Mode} {ops : Array Oper} {T : Bool × List (List Nat × List Nat)} {l l' li lj lk : Array Bool} {ds : List Nat} {i j k : Nat}
theorem gd (l : Array Bool) (j : Nat) (b : Bool) : l.getD j b = l.toList.getD j b := by simp [Array.getD_eq_getD_getElem?, List.getD_eq_getElem?_getD]
theorem needs_all (o : Oper) (p : Nat → Bool) : o.after.all (fun e => !Region.binds md e || p e.on) = (needsOf md o).all p := by
 unfold needsOf
 rw [← Array.all_toList]
 induction o.after.toList with
 | nil => rfl
 | cons e r ih =>
  rw [List.all_cons, ih, List.filter_cons]
  cases h : Region.binds md e <;> simp
theorem needs_any (o : Oper) (p : Nat → Bool) : o.after.any (fun e => Region.binds md e && p e.on) = (needsOf md o).any p := by
 unfold needsOf
 rw [← Array.any_toList]
 induction o.after.toList with
 | nil => rfl
 | cons e r ih =>
  rw [List.any_cons, ih, List.filter_cons]
  cases h : Region.binds md e <;> simp
theorem rtab_length : (rtab md ops).2.length = ops.size := by simp [rtab]
theorem rtab_some {o : Oper} (h : ops[i]? = some o) : (rtab md ops).2[i]? = some (needsOf md o, clashOf md ops i o) := by
 have hi := (Array.getElem?_eq_some_iff.1 h).1
 unfold rtab
 rw [List.getElem?_map, List.getElem?_range hi, Option.map_some, h]
theorem rtab_none (h : ops[i]? = none) : (rtab md ops).2[i]? = none := by
 have hi : ops.size ≤ i := Array.getElem?_eq_none_iff.1 h
 exact List.getElem?_eq_none (by rw [rtab_length]; exact hi)
theorem readyAt_eq : readyAt (rtab md ops).2 l.toList i = (!l.getD i true && ((ops[i]?).map (·.after.all fun e => !Region.binds md e || l.getD e.on false)).getD false) := by
 unfold readyAt
 rw [gd]
 cases h : ops[i]? with
 | none => rw [rtab_none h]; rfl
 | some o =>
  rw [rtab_some h]
  simp only [Option.map_some, Option.getD_some]
  rw [← needs_all]
  simp only [gd]
theorem ready_eq : Region.ready md ops l = readyT (rtab md ops).2 l.toList := by
 unfold Region.ready readyT
 rw [rtab_length]
 refine List.filter_congr (fun i _ => ?_)
 rw [readyAt_eq]
theorem free_eq : Region.free md ops l i = freeT (rtab md ops).2 l.toList i := by
 unfold Region.free freeT
 cases h : ops[i]? with
 | none => rw [rtab_none h]
 | some oi =>
  rw [rtab_some h]
  simp only [clashOf]
  rw [List.all_filter]
  congr 1
  funext j
  rw [gd]
  cases hj : ops[j]? with
  | none => cases (j == i) <;> cases (l.toList.getD j true) <;> simp
  | some oj =>
   cases (j == i) <;> cases (l.toList.getD j true) <;> cases (oj.after.any (fun e => Region.binds md e && e.on == i) || oi.apart ops oj) <;> simp_all
theorem closed_eq : Region.closedB md ops l = closedT (rtab md ops).2 l.toList := by
 unfold Region.closedB closedT
 rw [rtab_length]
 congr 1
 funext j
 rw [gd]
 cases h : ops[j]? with
 | none => rw [rtab_none h]
 | some o =>
  rw [rtab_some h]
  simp only
  rw [← needs_all]
  simp only [gd]
theorem reach_eq : ∀ (fuel d : Nat), Region.reachB md ops i fuel d = reachT (rtab md ops).2 i fuel d
 | 0, _ => rfl
 | fuel + 1, d => by
  unfold Region.reachB reachT
  cases h : ops[d]? with
  | none => rw [rtab_none h]
  | some o =>
   rw [rtab_some h]
   simp only
   rw [← needs_any]
   congr 1
   funext e
   rw [reach_eq fuel]
theorem last_eq : Region.lastB md ops l ds i = lastT (rtab md ops).2 l.toList ds i := by
 unfold Region.lastB lastT
 rw [rtab_length]
 congr 1
 funext d
 rw [gd, reach_eq]
theorem readyAt_mem (h : readyAt T.2 l.toList i = true) (hT : rtab md ops = T) : (Region.ready md ops l).contains i = true := by
 subst hT
 rw [ready_eq]
 unfold readyT
 rw [List.contains_iff_mem, List.mem_filter, List.mem_range]
 refine ⟨?_, h⟩
 unfold readyAt at h
 rw [Bool.and_eq_true] at h
 cases hq : (rtab md ops).2[i]? with
 | none => rw [hq] at h; simp at h
 | some r => exact (List.getElem?_eq_some_iff.1 hq).1
theorem set_of (h : (l.toList.set i true == l'.toList) = true) : (l.setIfInBounds i true == l') = true := by
 rw [beq_iff_eq] at h ⊢
 apply Array.ext'
 rw [Array.toList_setIfInBounds]
 exact h
def anyT (T : Bool × List (List Nat × List Nat)) (l l' : List Bool) (i : Nat) : Bool := T.1 && freeT T.2 l i && readyAt T.2 l i && (l.set i true == l')
theorem any_of (hT : rtab md ops = T) (h : anyT T l.toList l'.toList i = true) : anyB md ops l l' i = true := by
 simp only [anyT, Bool.and_eq_true] at h
 obtain ⟨⟨⟨h1, h2⟩, h3⟩, h4⟩ := h
 have h5 := readyAt_mem h3 hT
 have h6 := set_of h4
 subst hT
 simp only [anyB, Bool.and_eq_true]
 exact ⟨⟨⟨h1, by rw [free_eq]; exact h2⟩, h5⟩, h6⟩
def takeT (T : Bool × List (List Nat × List Nat)) (ds : List Nat) (l l' : List Bool) (i : Nat) : Bool := T.1 && freeT T.2 l i && readyAt T.2 l i && closedT T.2 l && lastT T.2 l ds i && (l.set i true == l')
theorem take_of (hT : rtab md ops = T) (h : takeT T ds l.toList l'.toList i = true) : takeB md ops ds l l' i = true := by
 simp only [takeT, Bool.and_eq_true] at h
 obtain ⟨⟨⟨⟨⟨h1, h2⟩, h3⟩, h4⟩, h5⟩, h6⟩ := h
 have h7 := readyAt_mem h3 hT
 have h8 := set_of h6
 subst hT
 simp only [takeB, Bool.and_eq_true]
 exact ⟨⟨⟨⟨⟨h1, by rw [free_eq]; exact h2⟩, h7⟩, by rw [closed_eq]; exact h4⟩, by rw [last_eq]; exact h5⟩, h8⟩
theorem one_of (hT : rtab md ops = T) (h : (readyT T.2 l.toList == [i] && l.toList.set i true == l'.toList) = true) : readyB md ops l l' i = true := by
 simp only [Bool.and_eq_true] at h
 obtain ⟨h1, h2⟩ := h
 subst hT
 simp only [readyB, Bool.and_eq_true]
 exact ⟨by rw [ready_eq]; exact h1, set_of h2⟩
theorem done_of (hT : rtab md ops = T) (h : (readyT T.2 l.toList == []) = true) : (Region.ready md ops l == []) = true := by
 subst hT
 rw [ready_eq]
 exact h
def upM (B : List Nat) (d : Nat) : List Nat → Nat
 | [] => 0
 | n :: r => (2 ^ n ||| (if n < d then B.getD n 0 else 0)) ||| upM B d r
def waitsOk (T : List (List Nat × List Nat)) (B : List Nat) : Bool := (List.range T.length).all fun d => match T[d]? with
 | some r => (B.getD d 0 ||| upM B d r.1) == upM B d r.1
 | none => false
theorem upM_bit {B : List Nat} {d i : Nat} : ∀ {ns : List Nat}, (upM B d ns).testBit i = true → ∃ n ∈ ns, n = i ∨ (n < d ∧ (B.getD n 0).testBit i = true)
 | [], h => by simp [upM] at h
 | n :: r, h => by
  unfold upM at h
  rw [Nat.testBit_or, Nat.testBit_or, Bool.or_eq_true, Bool.or_eq_true] at h
  rcases h with (h | h) | h
  ·rw [Nat.testBit_two_pow] at h
   exact ⟨n, List.mem_cons_self, .inl (by simpa using h)⟩
  ·by_cases hn : n < d
   ·rw [if_pos hn] at h
    exact ⟨n, List.mem_cons_self, .inr ⟨hn, h⟩⟩
   ·rw [if_neg hn] at h
    simp at h
  ·obtain ⟨m, hm, h2⟩ := upM_bit h
   exact ⟨m, List.mem_cons_of_mem _ hm, h2⟩
theorem reach_bit {T : List (List Nat × List Nat)} {B : List Nat} (hB : waitsOk T B = true) : ∀ (fuel d : Nat), d < fuel → d < T.length → (B.getD d 0).testBit i = true → reachT T i fuel d = true
 | 0, d, h, _, _ => by omega
 | fuel + 1, d, h, hd, hb => by
  have h1 := List.all_eq_true.1 hB d (List.mem_range.2 hd)
  cases hr : T[d]? with
  | none => rw [hr] at h1; simp at h1
  | some r =>
   rw [hr] at h1
   simp only [beq_iff_eq] at h1
   have h2 : (upM B d r.1).testBit i = true := by rw [← h1, Nat.testBit_or, hb, Bool.true_or]
   obtain ⟨n, hn, h3⟩ := upM_bit h2
   unfold reachT
   rw [hr]
   simp only
   rw [List.any_eq_true]
   refine ⟨n, hn, ?_⟩
   rcases h3 with rfl | ⟨h4, h5⟩
   ·simp
   ·rw [reach_bit hB fuel n (by omega) (by omega) h5, Bool.or_true]
def lastW (T : List (List Nat × List Nat)) (B : List Nat) (l : List Bool) (ds : List Nat) (i : Nat) : Bool := ds.all fun d => l.getD d true || (decide (d < T.length) && (B.getD d 0).testBit i)
def takeW (T : Bool × List (List Nat × List Nat)) (B : List Nat) (ds : List Nat) (l l' : List Bool) (i : Nat) : Bool := T.1 && freeT T.2 l i && readyAt T.2 l i && closedT T.2 l && lastW T.2 B l ds i && (l.set i true == l')
theorem take_ofW {B : List Nat} (hT : rtab md ops = T) (hB : waitsOk T.2 B = true) (h : takeW T B ds l.toList l'.toList i = true) : takeB md ops ds l l' i = true := by
 refine take_of hT ?_
 simp only [takeW, takeT, Bool.and_eq_true] at h ⊢
 obtain ⟨⟨⟨⟨⟨h1, h2⟩, h3⟩, h4⟩, h5⟩, h6⟩ := h
 refine ⟨⟨⟨⟨⟨h1, h2⟩, h3⟩, h4⟩, ?_⟩, h6⟩
 unfold lastW at h5
 unfold lastT
 rw [List.all_eq_true] at h5 ⊢
 intro d hd
 have h7 := h5 d hd
 rw [Bool.or_eq_true, Bool.and_eq_true, decide_eq_true_eq] at h7
 rcases h7 with h7 | ⟨h8, h9⟩
 ·rw [h7, Bool.true_or]
 ·rw [reach_bit hB _ d h8 h8 h9, Bool.or_true]
theorem with_tabW {P : Program} {Q : Exit → Act → World → Prop} {S : World → Prop} {n : Nat} {a : Act} {w : World} {B : List Nat} (hT : rtab md ops = T) (hB : waitsOk T.2 B = true) (h : Aside0 (rtab md ops = T) → Aside0 (waitsOk T.2 B = true) → wpAnyLast P md ops Q S ds n l a w) : wpAnyLast P md ops Q S ds n l a w := h ⟨hT⟩ ⟨hB⟩
end
def opsIn : Code → Nat → Option (Array Oper)
 | .region id ops _, k => if id == k then some ops else none
 | .seq a b, k => match opsIn a k with
  | some o => some o
  | none => opsIn b k
 | .cond _ a b, k => match opsIn a k with
  | some o => some o
  | none => opsIn b k
 | .block _ c, k => opsIn c k
 | .loop c, k => opsIn c k
 | .scope c, k => opsIn c k
 | .rangeFunc _ _ a b, k => match opsIn a k with
  | some o => some o
  | none => opsIn b k
 | _, _ => none
def opsOf (f : Func) (k : Nat) : Array Oper := ((f.body.bind fun c => opsIn c k)).getD #[]
end Go.Proofs.YtgiioglmkogpkaaGreatDoorW.PrintLast
namespace Go.Proofs.YtgiioglmkogpkaaGreatDoorW.PrintLast
section
variable {P : Program} {ops : Array Oper} {Q : Exit → Act → World → Prop} {md : Region.Mode} {S : World → Prop} {ds : List Nat} {T : Bool × List (List Nat × List Nat)}
end
end Go.Proofs.YtgiioglmkogpkaaGreatDoorW.PrintLast
namespace Go.Proofs.YtgiioglmkogpkaaGreatDoorW.PrintWords
open Go.RowKit
namespace Kd
section
variable {α : Type} {d : Kd α} {e base g o n cap : Nat} {ok okp : Nat → Prop} {w W : World} {v : Value} {xs : List α}
end
section
variable {α : Type} {enc : α → Value} {h1 : ∀ x, (enc x).oneCell' = true} {e base g o n cap : Nat} {ok : Nat → Prop} {W : World} {xs : List α}
end
end Kd
end Go.Proofs.YtgiioglmkogpkaaGreatDoorW.PrintWords
namespace Go.Proofs.YtgiioglmkogpkaaGreatDoorW.PrintWords
open Go.RowKit
namespace Kd
section
variable {α β : Type} {d : Kd α} {d' : Kd β} {e e' : Nat} {w w1 W : World} {base b : Nat} {ok ok' okv oku : Nat → Prop} {u v : Value} {xs : List α} {ys : List β}
theorem R_tight (hE : d.E = []) (h : d.R e w base ok v xs) : d.R e w base (fun k => some k = v.ownBlock) v xs := by
 obtain ⟨h0, inner, ho, hr⟩ := h
 refine ⟨fun k hk => hk.symm, inner, ho, hr.imp_ (fun p c hp => d.M_mono (fun k hk => ?_) (d.M_bound hp))⟩
 obtain ⟨_, _, _, q, hq, _⟩ := hk
 rw [hE] at hq
 cases hq
end
section
variable {α β : Type} {d : Kd α} {d' : Kd β} {e e' g : Nat} {w w1 W : World} {base b : Nat} {ok ok' okv oku : Nat → Prop} {u v : Value} {xs : List α} {ys : List β}
end
section
variable {P : Program} {ops : Array Oper} {rest : List Oper} {o : Oper} {a : Act} {Q : Exit → Act → World → Prop} {Kc : Act → World → Prop} {α : Type}
end
section
variable {α β : Type} {d : Kd α} {e e' g n cap : Nat} {w w1 W : World} {base : Nat} {ok ok' oki okp : Nat → Prop} {u v : Value} {xs : List α} {i : Int} {c : List Value}
end
section
variable {P : Program} {ops : Array Oper} {rest : List Oper} {o : Oper} {a : Act} {Q : Exit → Act → World → Prop} {α : Type}
end
end Kd
end Go.Proofs.YtgiioglmkogpkaaGreatDoorW.PrintWords
namespace Go.Proofs.YtgiioglmkogpkaaGreatDoorW.PrintWords
open Go.RowKit
namespace Kd
section
variable {α : Type} {n : Nat} {d : Kd α} {hs : 0 < d.sz} {w : World} {base : Nat} {ok : Nat → Prop} {xs : List α} {cs : List Value}
end
section
variable {α : Type} {n : Nat} {enc : α → Value} {h1 : ∀ x, (enc x).oneCell' = true} {hs : 0 < (scalar enc h1).sz} {w : World} {base : Nat} {ok : Nat → Prop} {xs : List α} {cs : List Value}
end
end Kd
end Go.Proofs.YtgiioglmkogpkaaGreatDoorW.PrintWords
namespace Go.Proofs.YtgiioglmkogpkaaGreatDoorW.PrintWords
open Go.RowKit
section
variable {P : Program}
end
namespace Kd
section
variable {P : Program} {ops : Array Oper} {rest : List Oper} {o : Oper} {a : Act} {Q : Exit → Act → World → Prop} {Kc : Act → World → Prop} {α : Type}
end
section
variable {α : Type} {d : Kd α} {e : Nat} {w : World} {base : Nat} {ok : Nat → Prop} {v : Value} {xs : List α}
end
section
variable {P : Program} {ops : Array Oper} {rest : List Oper} {o : Oper} {a : Act} {Q : Exit → Act → World → Prop} {Kc : Act → World → Prop} {α : Type}
end
end Kd
end Go.Proofs.YtgiioglmkogpkaaGreatDoorW.PrintWords
namespace Go.Proofs.YtgiioglmkogpkaaGreatDoorW.PrintWords
open Go.RowKit
namespace Kd
section
variable {α : Type} {d : Kd α} {e base g n c : Nat} {ok : Nat → Prop} {w w0 W : World} {A : Option Addr} {xs : List α}
end
end Kd
end Go.Proofs.YtgiioglmkogpkaaGreatDoorW.PrintWords
namespace Go.Proofs.YtgiioglmkogpkaaGreatDoorW.PrintWords
open Go.RowKit
def Kept (w W : World) (S : Nat → Prop) : Prop := w.heap.size ≤ W.heap.size ∧ ∀ i, i < w.heap.size → ¬ S i → W.heap[i]? = w.heap[i]?
section
variable {w W W2 : World} {S S2 S' : Nat → Prop}
theorem Kept.refl (w : World) (S : Nat → Prop) : Kept w w S := ⟨Nat.le_refl _, fun _ _ _ => rfl⟩
theorem Kept.of_below (h : Below w.heap.size w W) (S : Nat → Prop) : Kept w W S := ⟨h.size, fun i hi _ => h.block i hi⟩
theorem Kept.then_ (h : Kept w W S) (k : Kept W W2 S2) (hs : ∀ k, S2 k → S k ∨ w.heap.size ≤ k) : Kept w W2 S :=
 ⟨Nat.le_trans h.1 k.1, fun i hi hn => (k.2 i (Nat.lt_of_lt_of_le hi h.1) (fun h2 => (hs i h2).elim hn (fun h3 => by omega))).trans (h.2 i hi hn)⟩
theorem Kept.of_grown {row : Option Nat} (hg : W.grownBy W2 row) (h : Kept w W S) (hr : ∀ k, row = some k → S k ∨ w.heap.size ≤ k) : Kept w W2 S :=
 h.then_ (S2 := fun k => row = some k) ⟨hg.size, fun i hi hn => hg.block i hi (fun he => hn he.symm)⟩ hr
theorem Kept.below (h : Kept w W S) (hb : Below W.heap.size W W2) : Kept w W2 S := h.then_ (Kept.of_below hb (fun _ => False)) (fun _ hk => hk.elim)
theorem Kept.drewN (h : Kept w W S) (m : Nat) : Kept w (W.drewN m) S := h
end
namespace Kd
section
variable {α : Type} {d : Kd α} {e base n c : Nat} {ok oki S S2 : Nat → Prop} {w w0 W W1 W2 : World} {v : Value} {A : Option Addr} {xs : List α} {i : Int} {cs : List Value}
end
end Kd
end Go.Proofs.YtgiioglmkogpkaaGreatDoorW.PrintWords
namespace Go.Proofs.YtgiioglmkogpkaaGreatDoorW.PrintWords
open Go.RowKit
namespace Foot
variable {P Q : World → Prop} {W W1 : World} {ok ok' : Nat → Prop}
end Foot
namespace Kd
section
variable {α β : Type} {d : Kd α} {e base n n' cc g N : Nat} {ok ok' okp S : Nat → Prop} {w w0 w1 W W1 : World} {A A' : Option Addr} {u v v1 : Value} {xs : List α} {xs' : List β} {d' : Kd β} {x : α} {c : List Value}
end
end Kd
end Go.Proofs.YtgiioglmkogpkaaGreatDoorW.PrintWords
namespace Go.Proofs.YtgiioglmkogpkaaGreatDoorW.PrintWords
open Go.RowKit
namespace Kd
section
variable {α : Type} {d : Kd α} {e base n cc g : Nat} {ok ok' okp S : Nat → Prop} {w w1 W W1 : World} {A : Option Addr} {u v v1 : Value} {xs : List α} {x : α} {c : List Value}
end
end Kd
end Go.Proofs.YtgiioglmkogpkaaGreatDoorW.PrintWords
namespace Go.Proofs.YtgiioglmkogpkaaGreatDoorW.PrintWords
open Go.RowKit
namespace Kd
section
variable {α : Type} {d : Kd α} {W : World} {g n : Nat} {S ok : Nat → Prop} {A : Option Addr} {ad : Addr} {xs : List α}
end
end Kd
end Go.Proofs.YtgiioglmkogpkaaGreatDoorW.PrintWords
namespace Go.Proofs.YtgiioglmkogpkaaGreatDoorW.PrintWords
open Go.RowKit
section
variable {w w' u : World} {m B g : Nat} {o : Obj} {row : Option Nat} {S : Nat → Prop} {a : Addr} {v : Value}
end
namespace Kd
section
variable {α : Type} {d : Kd α} {e base n m : Nat} {ok : Nat → Prop} {w w' : World} {v : Value} {A : Option Addr} {xs : List α}
end
end Kd
end Go.Proofs.YtgiioglmkogpkaaGreatDoorW.PrintWords
namespace Go.Proofs.YtgiioglmkogpkaaGreatDoorW.PrintWords
open Go.RowKit
section
variable {P : Program} {d : Nat} {xs ys : Array Value} {f : Field} {fs : List Field} {a b : Value} {r s : Bool} {w : World}
end
end Go.Proofs.YtgiioglmkogpkaaGreatDoorW.PrintWords
namespace Go.Proofs.YtgiioglmkogpkaaGreatDoorW.PrintWords
theorem Reps.one {α : Type} {R : α → List Value → Prop} {ps : List α} {cs : List Value} {p : α} {v : Value} (hp : R p [v]) (h : Reps R 1 ps cs) : Reps R 1 (p :: ps) (v :: cs) := by
 refine ⟨by simp [h.1], fun j q hq => ?_⟩
 cases j with
 | zero =>
  simp only [List.getElem?_cons_zero, Option.some.injEq] at hq
  subst hq
  simpa using hp
 | succ j =>
  simp only [List.getElem?_cons_succ] at hq
  have h1 := h.2 j q hq
  simpa [Nat.mul_one] using h1
end Go.Proofs.YtgiioglmkogpkaaGreatDoorW.PrintWords
namespace Go.Proofs.YtgiioglmkogpkaaGreatDoorW.PrintLast
section
variable {P : Program} {ops : Array Oper} {Q : Exit → Act → World → Prop} {md : Region.Mode} {T : Bool × List (List Nat × List Nat)} {B : List Nat} {O : List Nat} {b : Nat → Bool} {i j n : Nat}
end
end Go.Proofs.YtgiioglmkogpkaaGreatDoorW.PrintLast
namespace Go.Proofs.YtgiioglmkogpkaaGreatDoorW.PrintWords
open Go.RowKit
end Go.Proofs.YtgiioglmkogpkaaGreatDoorW.PrintWords
namespace Go.Proofs.YtgiioglmkogpkaaGreatDoorW.PrintLast
section
variable {ops : Array Oper} {a : Act} {o og : Oper} {g : Nat} {t : Tmp} {u : Bool}
end
end Go.Proofs.YtgiioglmkogpkaaGreatDoorW.PrintLast
namespace Go.Proofs.YtgiioglmkogpkaaGreatDoorW.PrintWords
open Go.RowKit
section
variable {P : Program} {ops : Array Oper} {rest : List Oper} {o : Oper} {a : Act} {Q : Exit → Act → World → Prop} {W : World}
end
end Go.Proofs.YtgiioglmkogpkaaGreatDoorW.PrintWords
namespace Go.Proofs.YtgiioglmkogpkaaGreatDoorW.PrintWords
open Go.RowKit
namespace Kd
section
variable {α : Type} {d : Kd α} {e base n cap g : Nat} {ok ok' okp : Nat → Prop} {w w1 W : World} {v v1 : Value} {xs ys : List α}
end
section
variable {P : Program} {ops : Array Oper} {rest : List Oper} {o : Oper} {a : Act} {Q : Exit → Act → World → Prop} {Kc : Act → World → Prop} {α : Type}
end
end Kd
end Go.Proofs.YtgiioglmkogpkaaGreatDoorW.PrintWords
namespace Go.Proofs.YtgiioglmkogpkaaGreatDoorW.PrintMore
open Go.RowKit Go.Proofs.YtgiioglmkogpkaaGreatDoorW.PrintWords
namespace Kd
open Go.Proofs.YtgiioglmkogpkaaGreatDoorW.PrintWords.Kd
end Kd
namespace Kd
open Go.Proofs.YtgiioglmkogpkaaGreatDoorW.PrintWords.Kd
section
variable {α : Type} {d : Kd α} {e base g N : Nat} {ok : Nat → Prop} {W w1 : World} {u v : Value} {xs : List α}
theorem R_old (hu : d.R e W base ok u xs) (hb : Below W.heap.size W w1) : d.R e w1 base (fun k => ok k ∧ k < W.heap.size) u xs :=
 R_mono (R_below (R_bound hu) hb) (fun _ h => ⟨h.1, h.2.2.1⟩)
theorem R_oldK (hu : d.R e W base (fun k => ok k ∧ k ≠ g) u xs) (hk : KeepBut W w1 g none) : d.R e w1 base (fun k => ok k ∧ k < W.heap.size) u xs :=
 R_mono (R_keep (R_bound hu) hk (fun _ h => h.1.2)) (fun _ h => ⟨h.1.1, h.2.2.1⟩)
theorem R_told (h : d.R e w1 base (fun k => ok k ∧ k < N) u xs) (hbase : ∀ k, v.ownBlock = some k → N ≤ k) : d.R e w1 base (fun k => (ok k ∧ some k ≠ v.ownBlock) ∧ k < N) u xs :=
 R_mono h (fun k hk => ⟨⟨hk.1, fun e => Nat.lt_irrefl _ (Nat.lt_of_lt_of_le hk.2 (hbase k e.symm))⟩, hk.2⟩)
end
end Kd
theorem max2_int (k k' : IntKind) (x y : Int) : Builtin.max2 (.int k x) (.int k' y) = pure (.int k (if x < y then y else x)) := by simp only [Builtin.max2, gt_iff_lt]
theorem min2_int (k k' : IntKind) (x y : Int) : Builtin.min2 (.int k x) (.int k' y) = pure (.int k (if y < x then y else x)) := by simp only [Builtin.min2]
theorem max_two (ats : Array TypeId) (ty : TypeId) (a b : Value) : Builtin.max_ ats ty #[a, b] = (Builtin.max2 a b >>= fun s => pure s) := by simp only [Builtin.max_, List.foldlM_cons, List.foldlM_nil]
theorem min_two (ats : Array TypeId) (ty : TypeId) (a b : Value) : Builtin.min_ ats ty #[a, b] = (Builtin.min2 a b >>= fun s => pure s) := by simp only [Builtin.min_, List.foldlM_cons, List.foldlM_nil]
theorem max_three (ats : Array TypeId) (ty : TypeId) (a b c : Value) : Builtin.max_ ats ty #[a, b, c] = (Builtin.max2 a b >>= fun s => Builtin.max2 s c >>= fun s => pure s) := by simp only [Builtin.max_, List.foldlM_cons, List.foldlM_nil]
theorem min_three (ats : Array TypeId) (ty : TypeId) (a b c : Value) : Builtin.min_ ats ty #[a, b, c] = (Builtin.min2 a b >>= fun s => Builtin.min2 s c >>= fun s => pure s) := by simp only [Builtin.min_, List.foldlM_cons, List.foldlM_nil]
theorem max_four (ats : Array TypeId) (ty : TypeId) (a b c d : Value) : Builtin.max_ ats ty #[a, b, c, d] = (Builtin.max2 a b >>= fun s => Builtin.max2 s c >>= fun s => Builtin.max2 s d >>= fun s => pure s) := by simp only [Builtin.max_, List.foldlM_cons, List.foldlM_nil]
theorem min_four (ats : Array TypeId) (ty : TypeId) (a b c d : Value) : Builtin.min_ ats ty #[a, b, c, d] = (Builtin.min2 a b >>= fun s => Builtin.min2 s c >>= fun s => Builtin.min2 s d >>= fun s => pure s) := by simp only [Builtin.min_, List.foldlM_cons, List.foldlM_nil]
end Go.Proofs.YtgiioglmkogpkaaGreatDoorW.PrintMore
namespace Go.Proofs.YtgiioglmkogpkaaGreatDoorW.PrintWords
open Go.RowKit
section
variable {P : Program} {ops : Array Oper} {rest : List Oper} {o : Oper} {a : Act} {Q : Exit → Act → World → Prop} {W : World}
theorem gate_callee {f : FuncId} {az : Array Operand} {ts : Array TypeId} (_ho : o.op = .call { callee := .value (.func f), args := az, argTypes := ts }) (h : wpList P ops Q (o :: rest) a W) : wpList P ops Q (o :: rest) a W := h
theorem gate_builtin {b : Builtin} {xs : Array Operand} {ts : Array TypeId} (_ho : o.op = .call { callee := .builtin b, args := xs, argTypes := ts }) (h : wpList P ops Q (o :: rest) a W) : wpList P ops Q (o :: rest) a W := h
end
theorem drewN_self (w : World) (n : Nat) : w.drewN n = w.drewN n := rfl
namespace Kd
section
variable {α : Type} {d : Kd α} {e base : Nat} {ok : Nat → Prop} {W w1 : World} {v : Value} {xs : List α}
end
section
variable {α : Type} {d : Kd α} {e base g n cap : Nat} {ok oki okp : Nat → Prop} {W : World} {xs : List α} {i : Int} {c : List Value}
end
section
variable {α : Type} {d : Kd α} {e base b b' g N : Nat} {ok ok1 : Nat → Prop} {W W2 w1 : World} {u v : Value} {xs ys : List α} {S : Nat → Prop}
end
end Kd
end Go.Proofs.YtgiioglmkogpkaaGreatDoorW.PrintWords
namespace Go.Proofs.YtgiioglmkogpkaaGreatDoorW.PrintWords
open Go.RowKit
namespace Kd
section
variable {α β : Type} {d : Kd α} {e base base' n m c g N' lo hi : Nat} {ok ok' S : Nat → Prop} {w W w1 : World} {A : Option Addr} {ad : Addr} {u v v1 : Value} {xs : List α}
theorem R_newM {M : Nat → Prop} (h : d.R e w1 W.heap.size ok v xs) (hle : w.heap.size ≤ W.heap.size) (hM : ∀ k, w.heap.size ≤ k → M k) : d.R e w1 W.heap.size (fun k => M k ∧ ok k) v xs := R_mono (R_bound h) (fun k hk => ⟨hM k (Nat.le_trans hle hk.2.1), hk.1⟩)
end
end Kd
end Go.Proofs.YtgiioglmkogpkaaGreatDoorW.PrintWords
namespace Go.Proofs.YtgiioglmkogpkaaGreatDoor.M
open Go.RowKit Go.Proofs.YtgiioglmkogpkaaGreatDoorW.PrintWords Go.Proofs.YtgiioglmkogpkaaGreatDoorW.PrintLast Go.Proofs.YtgiioglmkogpkaaGreatDoorW.PrintMore
attribute [local go_sem] max2_int min2_int max_two min_two max_three min_three max_four min_four
theorem info5 : (Tryz.prog.info? 5).map (fun i => (i.zero, i.size, i.bytes)) = some (some (.int .u8 0), 1, 1) := by kernel_rfl
theorem info9 : (Tryz.prog.info? 9).map (fun i => (i.zero, i.size, i.bytes)) = some (some (.string ⟨#[]⟩), 1, 16) := by kernel_rfl
theorem info25 : (Tryz.prog.info? 25).map (fun i => (i.zero, i.size, i.bytes)) = some (some (.agg #[(.int .i64 0), (.string ⟨#[]⟩), (.slice none 0 0), (.slice none 0 0)]), 4, 72) := by kernel_rfl
theorem info78 : (Tryz.prog.info? 78).map (fun i => (i.zero, i.size, i.bytes)) = some (some (.agg #[(.int .i64 0), (.int .i64 0), (.int .i64 0), (.slice none 0 0), (.slice none 0 0)]), 5, 72) := by kernel_rfl
theorem info115 : (Tryz.prog.info? 115).map (fun i => (i.zero, i.size, i.bytes)) = some (some (.agg #[(.int .i64 0), (.int .i64 0)]), 2, 16) := by kernel_rfl
structure S115 where
 f0 : Int
 f1 : Int
def z115 : S115 := ⟨(0 : Int), (0 : Int)⟩
def k115 : Kd S115 := Kd.iso (Kd.pair (Kd.int .i64) (Kd.int .i64)) (fun x : S115 => (x.f0, x.f1))
theorem k115_open {w : World} {x : S115} {cs : List Value} (h : k115.K w x cs) : cs = [.int .i64 x.f0, .int .i64 x.f1] := by
 obtain ⟨_, _, rfl, rfl, rfl⟩ := h
 exact rfl
theorem k115_mkM (w : World) (base : Nat) (ok : Nat → Prop) (x : S115)  : k115.M w base ok x [.int .i64 x.f0, .int .i64 x.f1] := ⟨[.int .i64 x.f0], [.int .i64 x.f1], rfl, rfl, rfl⟩
def rd_T115 (xs : List S115) (i : Int) : S115 := xs.getD i.toNat z115
theorem at_T115 {w : World} {A : Option Addr} {n : Nat} {xs : List S115} (h : Kd.C k115 w A n xs) (i : Int) (h0 : 0 ≤ i) (h1 : i < n) : ∃ ad , A = some ad ∧ w.cell? (ad.add (i.toNat * 2)) = some (.int .i64 (rd_T115 xs i).f0) ∧ w.cell? ⟨(ad.add (i.toNat * 2)).block, (ad.add (i.toNat * 2)).off + 1, none⟩ = some (.int .i64 (rd_T115 xs i).f1) := by
 obtain ⟨ad, c, e, _, hK, hc0⟩ := Kd.C_get h z115 i h0 h1
 have hc : ∀ j u, c[j]? = some u → w.cell? (ad.add (i.toNat * 2 + j)) = some u := hc0
 obtain rfl := k115_open hK
 exact ⟨ad, e, hc 0 _ rfl, by rw [← add_field _ _ 1 (by omega)]; exact hc 1 _ rfl⟩
structure S78 where
 f0 : Int
 f1 : Int
 f2 : Int
 f3 : (List S115)
 f4 : (List S78)
def z78 : S78 := ⟨(0 : Int), (0 : Int), (0 : Int), ([] : List S115), ([] : List S78)⟩
def F78 (d : Kd S78) : Kd S78 := Kd.iso (Kd.pair (Kd.int .i64) (Kd.pair (Kd.int .i64) (Kd.pair (Kd.int .i64) (Kd.pair (Kd.slice 115 k115) (Kd.slice 78 d))))) (fun x : S78 => (x.f0, x.f1, x.f2, x.f3, x.f4))
theorem mono78 : Kd.Mono F78 := Kd.mono_iso _ (Kd.mono_pair (Kd.mono_const _) (Kd.mono_pair (Kd.mono_const _) (Kd.mono_pair (Kd.mono_const _) (Kd.mono_pair (Kd.mono_const _) (Kd.mono_slice 78 Kd.mono_id)))))
theorem sub78 : Kd.Sub F78 [78, 115] := Kd.sub_iso _ (Kd.sub_pair (Kd.sub_const _ (by decide)) (Kd.sub_pair (Kd.sub_const _ (by decide)) (Kd.sub_pair (Kd.sub_const _ (by decide)) (Kd.sub_pair (Kd.sub_const _ (by decide)) (Kd.sub_slice 78 (by decide) Kd.sub_id)))))
theorem sz78 : ∀ n, (Kd.upto F78 5 [78, 115] n).sz = 5 := Kd.upto_sz (fun _ => rfl)
def k78 : Kd S78 := Kd.fix F78 5 [78, 115] sz78 (Kd.upto_E sub78)
theorem k78_open {w : World} {x : S78} {cs : List Value} (h : k78.K w x cs) : ∃ A3 c3 A4 c4, cs = [.int .i64 x.f0, .int .i64 x.f1, .int .i64 x.f2, .slice A3 x.f3.length c3, .slice A4 x.f4.length c4] ∧ x.f3.length ≤ c3 ∧ k115.C w A3 x.f3.length x.f3 ∧ x.f4.length ≤ c4 ∧ k78.C w A4 x.f4.length x.f4 := by
 obtain ⟨n, h⟩ := h
 cases n with
 | zero => exact h.elim
 | succ n =>
  obtain ⟨_, _, rfl, rfl, ⟨_, _, rfl, rfl, ⟨_, _, rfl, rfl, ⟨_, _, rfl, ⟨A3, c3, rfl, l3, g3⟩, ⟨A4, c4, rfl, l4, g4⟩⟩⟩⟩⟩ := h
  exact ⟨A3, c3, A4, c4, rfl, l3, g3, l4, Kd.fix_C g4⟩
theorem k78_mkM (w : World) (base : Nat) (ok : Nat → Prop) (x : S78) {v3 : Value} (g3 : k115.R 115 w base ok v3 x.f3) {v4 : Value} (g4 : k78.R 78 w base ok v4 x.f4) : k78.M w base ok x [.int .i64 x.f0, .int .i64 x.f1, .int .i64 x.f2, v3, v4] := by
 obtain ⟨n4, q4⟩ := Kd.fix_R_back mono78 g4
 have r4 := Kd.upto_R_le mono78 sz78 (show n4 ≤ n4 by omega) q4
 exact ⟨n4 + 1, ⟨[.int .i64 x.f0], [.int .i64 x.f1, .int .i64 x.f2, v3, v4], rfl, rfl, ⟨[.int .i64 x.f1], [.int .i64 x.f2, v3, v4], rfl, rfl, ⟨[.int .i64 x.f2], [v3, v4], rfl, rfl, ⟨[v3], [v4], rfl, ⟨v3, rfl, g3⟩, ⟨v4, rfl, r4⟩⟩⟩⟩⟩⟩
def rd_T78 (xs : List S78) (i : Int) : S78 := xs.getD i.toNat z78
theorem at_T78 {w : World} {A : Option Addr} {n : Nat} {xs : List S78} (h : Kd.C k78 w A n xs) (i : Int) (h0 : 0 ≤ i) (h1 : i < n) : ∃ ad A3 c3 A4 c4, A = some ad ∧ w.cell? (ad.add (i.toNat * 5)) = some (.int .i64 (rd_T78 xs i).f0) ∧ w.cell? ⟨(ad.add (i.toNat * 5)).block, (ad.add (i.toNat * 5)).off + 1, none⟩ = some (.int .i64 (rd_T78 xs i).f1) ∧ w.cell? ⟨(ad.add (i.toNat * 5)).block, (ad.add (i.toNat * 5)).off + 2, none⟩ = some (.int .i64 (rd_T78 xs i).f2) ∧ w.cell? ⟨(ad.add (i.toNat * 5)).block, (ad.add (i.toNat * 5)).off + 3, none⟩ = some (.slice A3 (rd_T78 xs i).f3.length c3) ∧ w.cell? ⟨(ad.add (i.toNat * 5)).block, (ad.add (i.toNat * 5)).off + 4, none⟩ = some (.slice A4 (rd_T78 xs i).f4.length c4) ∧ (rd_T78 xs i).f3.length ≤ c3 ∧ k115.C w A3 (rd_T78 xs i).f3.length (rd_T78 xs i).f3 ∧ (rd_T78 xs i).f4.length ≤ c4 ∧ k78.C w A4 (rd_T78 xs i).f4.length (rd_T78 xs i).f4 := by
 obtain ⟨ad, c, e, _, hK, hc0⟩ := Kd.C_get h z78 i h0 h1
 have hc : ∀ j u, c[j]? = some u → w.cell? (ad.add (i.toNat * 5 + j)) = some u := hc0
 obtain ⟨A3, c3, A4, c4, rfl, l3, g3, l4, g4⟩ := k78_open hK
 exact ⟨ad, A3, c3, A4, c4, e, hc 0 _ rfl, by rw [← add_field _ _ 1 (by omega)]; exact hc 1 _ rfl, by rw [← add_field _ _ 2 (by omega)]; exact hc 2 _ rfl, by rw [← add_field _ _ 3 (by omega)]; exact hc 3 _ rfl, by rw [← add_field _ _ 4 (by omega)]; exact hc 4 _ rfl, l3, g3, l4, g4⟩
structure S25 where
 f0 : Int
 f1 : ByteArray
 f2 : (List ByteArray)
 f3 : (List S25)
def F25 (d : Kd S25) : Kd S25 := Kd.iso (Kd.pair (Kd.int .i64) (Kd.pair Kd.string (Kd.pair (Kd.slice 9 Kd.string) (Kd.slice 25 d)))) (fun x : S25 => (x.f0, x.f1, x.f2, x.f3))
theorem mono25 : Kd.Mono F25 := Kd.mono_iso _ (Kd.mono_pair (Kd.mono_const _) (Kd.mono_pair (Kd.mono_const _) (Kd.mono_pair (Kd.mono_const _) (Kd.mono_slice 25 Kd.mono_id))))
theorem sub25 : Kd.Sub F25 [9, 25] := Kd.sub_iso _ (Kd.sub_pair (Kd.sub_const _ (by decide)) (Kd.sub_pair (Kd.sub_const _ (by decide)) (Kd.sub_pair (Kd.sub_const _ (by decide)) (Kd.sub_slice 25 (by decide) Kd.sub_id))))
theorem sz25 : ∀ n, (Kd.upto F25 4 [9, 25] n).sz = 4 := Kd.upto_sz (fun _ => rfl)
def k25 : Kd S25 := Kd.fix F25 4 [9, 25] sz25 (Kd.upto_E sub25)
theorem k25_mkM (w : World) (base : Nat) (ok : Nat → Prop) (x : S25) {v2 : Value} (g2 : Kd.string.R 9 w base ok v2 x.f2) {v3 : Value} (g3 : k25.R 25 w base ok v3 x.f3) : k25.M w base ok x [.int .i64 x.f0, .string x.f1, v2, v3] := by
 obtain ⟨n3, q3⟩ := Kd.fix_R_back mono25 g3
 have r3 := Kd.upto_R_le mono25 sz25 (show n3 ≤ n3 by omega) q3
 exact ⟨n3 + 1, ⟨[.int .i64 x.f0], [.string x.f1, v2, v3], rfl, rfl, ⟨[.string x.f1], [v2, v3], rfl, rfl, ⟨[v2], [v3], rfl, ⟨v2, rfl, g2⟩, ⟨v3, rfl, r3⟩⟩⟩⟩⟩
end Go.Proofs.YtgiioglmkogpkaaGreatDoor.M
namespace Go.Proofs.YtgiioglmkogpkaaGreatDoor.M
open Go.RowKit Go.Proofs.YtgiioglmkogpkaaGreatDoorW.PrintWords Go.Proofs.YtgiioglmkogpkaaGreatDoorW.PrintLast Go.Proofs.YtgiioglmkogpkaaGreatDoorW.PrintMore
set_option maxHeartbeats 8000000
set_option maxRecDepth 100000
attribute [local go_sem] max2_int min2_int max_two min_two max_three min_three max_four min_four
def strconv_log2Pow10.f (a0 : Int) : Option (Int) := some ((wrap64 (a0 * 108853)) / 32768)
theorem strconv_log2Pow10.calls (a0 : Int) (r : Int) (w : World) (h : strconv_log2Pow10.f a0 = some r) :
  Calls Tryz.prog 194 #[.int .i64 a0] w fun e w' => e = .returned (.int .i64 r) ∧ Drawn0 w w' := by
 have H : (some ((wrap64 (a0 * 108853)) / 32768)) = some r := h
 clear h
 obtain rfl := Option.some.inj H
 go_enter Tryz.func194, Tryz.ntmps194
 go_wp2
 go_ret
 exact ⟨by first | rfl | (simp; done) | (simp [*]; done), by repeat (first | exact Drawn0.refl _ | apply Drawn0.step)⟩
def strconv_bool2_uint64.f (a0 : Bool) : Option (Int) := if a0 = true then (some 1) else (some 0)
theorem strconv_bool2_uint64.calls (a0 : Bool) (r : Int) (w : World) (h : strconv_bool2_uint64.f a0 = some r) :
  Calls Tryz.prog 224 #[.bool a0] w fun e w' => e = .returned (.int .u64 r) ∧ Drawn0 w w' := by
 have H : (if a0 = true then (some 1) else (some 0)) = some r := h
 clear h
 by_cases c2 : a0 = true
 ·subst c2
  have H1 : (some 1) = some r := by rw [if_pos rfl] at H; exact H
  clear H
  have H := H1
  clear H1
  obtain rfl := Option.some.inj H
  go_enter Tryz.func224, Tryz.ntmps224
  go_wp2
  go_ret
  exact ⟨by first | rfl | (simp; done) | (simp [*]; done), by repeat (first | exact Drawn0.refl _ | apply Drawn0.step)⟩
 ·replace c2 := Bool.eq_false_iff.mpr c2
  subst c2
  have H1 : (some 0) = some r := by rw [if_neg (show ¬ (false = true) by decide)] at H; exact H
  clear H
  have H := H1
  clear H1
  obtain rfl := Option.some.inj H
  go_enter Tryz.func224, Tryz.ntmps224
  go_wp2
  go_ret
  exact ⟨by first | rfl | (simp; done) | (simp [*]; done), by repeat (first | exact Drawn0.refl _ | apply Drawn0.step)⟩
def bits_Mul64.f (a0 : Int) (a1 : Int) : Option (Int × Int) := some (IntKind.u64.wrap ((IntKind.u64.wrap ((IntKind.u64.wrap ((a0 / 4294967296) * (a1 / 4294967296))) + ((IntKind.u64.wrap ((IntKind.u64.wrap ((a0 / 4294967296) * (Go.bits .and .u64 a1 4294967295))) + ((IntKind.u64.wrap ((Go.bits .and .u64 a0 4294967295) * (Go.bits .and .u64 a1 4294967295))) / 4294967296))) / 4294967296))) + ((IntKind.u64.wrap ((Go.bits .and .u64 (IntKind.u64.wrap ((IntKind.u64.wrap ((a0 / 4294967296) * (Go.bits .and .u64 a1 4294967295))) + ((IntKind.u64.wrap ((Go.bits .and .u64 a0 4294967295) * (Go.bits .and .u64 a1 4294967295))) / 4294967296))) 4294967295) + (IntKind.u64.wrap ((Go.bits .and .u64 a0 4294967295) * (a1 / 4294967296))))) / 4294967296)), IntKind.u64.wrap (a0 * a1))
theorem bits_Mul64.calls (a0 : Int) (a1 : Int) (r1 : Int) (r2 : Int) (w : World) (h : bits_Mul64.f a0 a1 = some (r1, r2)) :
  Calls Tryz.prog 231 #[.int .u64 a0, .int .u64 a1] w fun e w' => e = .returned (.tuple #[.int .u64 r1, .int .u64 r2]) ∧ Drawn0 w w' := by
 have H : (some (IntKind.u64.wrap ((IntKind.u64.wrap ((IntKind.u64.wrap ((a0 / 4294967296) * (a1 / 4294967296))) + ((IntKind.u64.wrap ((IntKind.u64.wrap ((a0 / 4294967296) * (Go.bits .and .u64 a1 4294967295))) + ((IntKind.u64.wrap ((Go.bits .and .u64 a0 4294967295) * (Go.bits .and .u64 a1 4294967295))) / 4294967296))) / 4294967296))) + ((IntKind.u64.wrap ((Go.bits .and .u64 (IntKind.u64.wrap ((IntKind.u64.wrap ((a0 / 4294967296) * (Go.bits .and .u64 a1 4294967295))) + ((IntKind.u64.wrap ((Go.bits .and .u64 a0 4294967295) * (Go.bits .and .u64 a1 4294967295))) / 4294967296))) 4294967295) + (IntKind.u64.wrap ((Go.bits .and .u64 a0 4294967295) * (a1 / 4294967296))))) / 4294967296)), IntKind.u64.wrap (a0 * a1))) = some (r1, r2) := h
 clear h
 simp only [Option.some.injEq, Prod.mk.injEq] at H
 obtain ⟨rfl, rfl⟩ := H
 go_enter Tryz.func231, Tryz.ntmps231
 go_wp2
 go_ret2
 exact ⟨by first | rfl | (simp; done) | (simp [*]; done), by repeat (first | exact Drawn0.refl _ | apply Drawn0.step)⟩
def IsS228 (w0 W : World) (g : Nat) (f0 : Int) (f1 : Int) (f2 : Int) : Prop := W.heap[g]? = some (.cells #[.int .u64 f0, .int .u64 f1, .int .i64 f2] 228 (0, 0)) ∧ w0.heap.size ≤ g
theorem cellS228_0 {W : World} {g : Nat} {f0 : Int} {f1 : Int} {f2 : Int} (h : W.heap[g]? = some (.cells #[.int .u64 f0, .int .u64 f1, .int .i64 f2] 228 (0, 0))) : W.cell? ⟨g, 0, none⟩ = some (.int .u64 f0) := (blk_cell h 0).trans rfl
theorem IsS228.set_0 {w0 W : World} {g : Nat} {f0 : Int} {f1 : Int} {f2 : Int} (h : IsS228 w0 W g f0 f1 f2) (x : Int) : IsS228 w0 (W.setCell ⟨g, 0, none⟩ (.int .u64 x)) g x f1 f2 := by
 obtain ⟨hb, hg⟩ := h
 exact ⟨by simpa using blk_set hb 0 (.int .u64 x), hg⟩
theorem cellS228_1 {W : World} {g : Nat} {f0 : Int} {f1 : Int} {f2 : Int} (h : W.heap[g]? = some (.cells #[.int .u64 f0, .int .u64 f1, .int .i64 f2] 228 (0, 0))) : W.cell? ⟨g, 1, none⟩ = some (.int .u64 f1) := (blk_cell h 1).trans rfl
theorem IsS228.set_1 {w0 W : World} {g : Nat} {f0 : Int} {f1 : Int} {f2 : Int} (h : IsS228 w0 W g f0 f1 f2) (x : Int) : IsS228 w0 (W.setCell ⟨g, 1, none⟩ (.int .u64 x)) g f0 x f2 := by
 obtain ⟨hb, hg⟩ := h
 exact ⟨by simpa using blk_set hb 1 (.int .u64 x), hg⟩
theorem cellS228_2 {W : World} {g : Nat} {f0 : Int} {f1 : Int} {f2 : Int} (h : W.heap[g]? = some (.cells #[.int .u64 f0, .int .u64 f1, .int .i64 f2] 228 (0, 0))) : W.cell? ⟨g, 2, none⟩ = some (.int .i64 f2) := (blk_cell h 2).trans rfl
theorem IsS228.set_2 {w0 W : World} {g : Nat} {f0 : Int} {f1 : Int} {f2 : Int} (h : IsS228 w0 W g f0 f1 f2) (x : Int) : IsS228 w0 (W.setCell ⟨g, 2, none⟩ (.int .i64 x)) g f0 f1 x := by
 obtain ⟨hb, hg⟩ := h
 exact ⟨by simpa using blk_set hb 2 (.int .i64 x), hg⟩
theorem IsS228.new (w0 W : World) (f0 : Int) (f1 : Int) (f2 : Int) (hB : Below w0.heap.size w0 W) : IsS228 w0 (W.alloc (.cells #[.int .u64 f0, .int .u64 f1, .int .i64 f2] 228)) W.heap.size f0 f1 f2 := ⟨by simpa using heap_alloc_new W _, hB.size⟩
def strconv_unrounded_round.f (a0 : Int) : Option (Int) := some ((IntKind.u64.wrap ((IntKind.u64.wrap (a0 + 1)) + (Go.bits .and .u64 (a0 / 4) 1))) / 4)
theorem strconv_unrounded_round.calls (a0 : Int) (r : Int) (w : World) (h : strconv_unrounded_round.f a0 = some r) :
  Calls Tryz.prog 199 #[.int .u64 a0] w fun e w' => e = .returned (.int .u64 r) ∧ Drawn0 w w' := by
 have H : (some ((IntKind.u64.wrap ((IntKind.u64.wrap (a0 + 1)) + (Go.bits .and .u64 (a0 / 4) 1))) / 4)) = some r := h
 clear h
 obtain rfl := Option.some.inj H
 go_enter Tryz.func199, Tryz.ntmps199
 go_wp2
 go_ret
 exact ⟨by first | rfl | (simp; done) | (simp [*]; done), by repeat (first | exact Drawn0.refl _ | apply Drawn0.step)⟩
def strconv_unmin.f (a0 : Int) : Option (Int) := some (IntKind.u64.wrap ((IntKind.u64.wrap (a0 * 4)) - 2))
theorem strconv_unmin.calls (a0 : Int) (r : Int) (w : World) (h : strconv_unmin.f a0 = some r) :
  Calls Tryz.prog 202 #[.int .u64 a0] w fun e w' => e = .returned (.int .u64 r) ∧ Drawn0 w w' := by
 have H : (some (IntKind.u64.wrap ((IntKind.u64.wrap (a0 * 4)) - 2))) = some r := h
 clear h
 obtain rfl := Option.some.inj H
 go_enter Tryz.func202, Tryz.ntmps202
 go_wp2
 go_ret
 exact ⟨by first | rfl | (simp; done) | (simp [*]; done), by repeat (first | exact Drawn0.refl _ | apply Drawn0.step)⟩
def strconv_prefixIsLessThan.l0 : Nat → List Int → ByteArray → Int → Option (Bool)
 | 0, _, _, _ => none
 | k + 1, x0, x1, x5 => if x5 < (x1.size : Int) then (if x5 ≥ (x0.length : Int) then (some true) else (if 0 ≤ x5 then (if x5 < (x0.length : Int) then (if (rd x0 x5) = (bt x1 x5) then (strconv_prefixIsLessThan.l0 k x0 x1 (wrap64 (x5 + 1))) else (some (decide ((rd x0 x5) < (bt x1 x5))))) else (none)) else (none))) else (some false)
def strconv_prefixIsLessThan.f (k : Nat) (l0 : List Int) (a1 : ByteArray) : Option (Bool) := strconv_prefixIsLessThan.l0 k l0 a1 0
theorem strconv_prefixIsLessThan.calls (k : Nat) (A0 : Option Addr) (c0 : Nat) (l0 : List Int) (a1 : ByteArray) (r : Bool) (w : World) (hr0 : Kd.C (Kd.int .u8) w A0 l0.length l0) (hc0 : l0.length ≤ c0) (h : strconv_prefixIsLessThan.f k l0 a1 = some r) :
  Calls Tryz.prog 233 #[.slice A0 l0.length c0, .string a1] w fun e w' => e = .returned (.bool r) ∧ Drawn0 w w' := by
 have HR0 := Aside0.mk hr0
 have HC0 := Aside0.mk hc0
 clear hr0 hc0
 have H : (strconv_prefixIsLessThan.l0 k l0 a1 0) = some r := h
 clear h
 have H' := Aside0.mk H
 clear H
 go_enter Tryz.func233, Tryz.ntmps233
 go_wp2
 repeat (go_quiet (fail); try go_wp2)
 go_loopg [5] k (fun kq v5 w' => ∃ (x5_1 : Int), v5 = .int .i64 x5_1 ∧ Aside0 (strconv_prefixIsLessThan.l0 kq l0 a1 x5_1 = some r) ∧ Aside0 (kq ≤ k) ∧ Drawn0 w w')
 case atStart => exact ⟨(0), (by first | rfl | (simp; done) | (simp [*]; done)), H', ⟨Nat.le_refl _⟩, by repeat (first | exact Drawn0.refl _ | apply Drawn0.step)⟩
 case round =>
  clear H'
  try clear c2
  try clear p2
  obtain ⟨x5_1, rfl, HA, HK1, ⟨m1, rfl⟩⟩ := hrel
  cases gk with
  | zero => exact absurd HA.out (by simp [strconv_prefixIsLessThan.l0])
  | succ k1 =>
   have H := HA.out
   clear HA
   simp only [strconv_prefixIsLessThan.l0] at H
   by_cases c3 : x5_1 < (a1.size : Int)
   ·rw [if_pos c3] at H
    have c3b0 : decide (x5_1 < (a1.size : Int)) = true := decide_eq_true c3
    clear c3
    by_cases c4 : x5_1 ≥ (l0.length : Int)
    ·rw [if_pos c4] at H
     have c4b0 : decide ((l0.length : Int) ≤ x5_1) = true := decide_eq_true c4
     clear c4
     obtain rfl := Option.some.inj H
     go_wp2
     repeat (go_quiet (fail); try go_wp2)
     go_ret
     exact ⟨by first | rfl | (simp; done) | (simp [*]; done), by repeat (first | exact Drawn0.refl _ | apply Drawn0.step)⟩
    ·rw [if_neg c4] at H
     have c4b0 : decide ((l0.length : Int) ≤ x5_1) = false := decide_eq_false c4
     clear c4
     by_cases c5 : 0 ≤ x5_1
     ·rw [if_pos c5] at H
      have c5b0 : decide (0 ≤ x5_1) = true := decide_eq_true c5
      clear c5
      by_cases c6 : x5_1 < (l0.length : Int)
      ·rw [if_pos c6] at H
       have c6b0 : decide (x5_1 < (l0.length : Int)) = true := decide_eq_true c6
       clear c6
       by_cases c8 : (rd l0 x5_1) = (bt a1 x5_1)
       ·rw [if_pos c8] at H
        have c8b0 : ((rd l0 x5_1) == (bt a1 x5_1)) = true := beq_iff_eq.mpr c8
        have c8b1 : ((rd l0 x5_1) != (bt a1 x5_1)) = false := bne_eq_false_iff_eq.mpr c8
        clear c8
        have H' := Aside0.mk H
        clear H
        have p548 : 0 ≤ (x5_1 : Int) := of_decide_eq_true (by first | (with_reducible assumption) | assumption)
        have q548 : x5_1 < (l0.length : Int) := of_decide_eq_true (by first | (with_reducible assumption) | assumption)
        obtain ⟨ad548, e548, hx548_0⟩ := Kd.at_int HR0.out x5_1 p548 q548
        cases e548
        replace p548 := eq_true p548
        replace q548 := eq_true q548
        have p7 : 0 ≤ (x5_1 : Int) := of_decide_eq_true (by first | (with_reducible assumption) | assumption)
        have q7 : x5_1 < (a1.size : Int) := of_decide_eq_true (by first | (with_reducible assumption) | assumption)
        have hx7 := bt_at a1 x5_1
        replace p7 := eq_true p7
        replace q7 := eq_true q7
        go_wp2
        repeat (go_quiet (fail); try go_wp2)
        go_roundg k1
        case measure => have := HK1.out; omega
        case rel => exact ⟨(wrap64 (x5_1 + 1)), (by first | rfl | (simp; done) | (simp [*]; done)), H', ⟨by have := HK1.out; omega⟩, by repeat (first | exact Drawn0.refl _ | apply Drawn0.step)⟩
       ·rw [if_neg c8] at H
        have c8b0 : ((rd l0 x5_1) == (bt a1 x5_1)) = false := beq_eq_false_iff_ne.mpr c8
        have c8b1 : ((rd l0 x5_1) != (bt a1 x5_1)) = true := bne_iff_ne.mpr c8
        obtain rfl := Option.some.inj H
        have p548 : 0 ≤ (x5_1 : Int) := of_decide_eq_true (by first | (with_reducible assumption) | assumption)
        have q548 : x5_1 < (l0.length : Int) := of_decide_eq_true (by first | (with_reducible assumption) | assumption)
        obtain ⟨ad548, e548, hx548_0⟩ := Kd.at_int HR0.out x5_1 p548 q548
        cases e548
        replace p548 := eq_true p548
        replace q548 := eq_true q548
        have p7 : 0 ≤ (x5_1 : Int) := of_decide_eq_true (by first | (with_reducible assumption) | assumption)
        have q7 : x5_1 < (a1.size : Int) := of_decide_eq_true (by first | (with_reducible assumption) | assumption)
        have hx7 := bt_at a1 x5_1
        replace p7 := eq_true p7
        replace q7 := eq_true q7
        have p549 : 0 ≤ (x5_1 : Int) := of_decide_eq_true (by first | (with_reducible assumption) | assumption)
        have q549 : x5_1 < (l0.length : Int) := of_decide_eq_true (by first | (with_reducible assumption) | assumption)
        obtain ⟨ad549, e549, hx549_0⟩ := Kd.at_int HR0.out x5_1 p549 q549
        obtain rfl : ad548 = ad549 := (by injection e549)
        replace p549 := eq_true p549
        replace q549 := eq_true q549
        have p9 : 0 ≤ (x5_1 : Int) := of_decide_eq_true (by first | (with_reducible assumption) | assumption)
        have q9 : x5_1 < (a1.size : Int) := of_decide_eq_true (by first | (with_reducible assumption) | assumption)
        have hx9 := bt_at a1 x5_1
        replace p9 := eq_true p9
        replace q9 := eq_true q9
        go_wp2
        repeat (go_quiet (fail); try go_wp2)
        go_ret
        exact ⟨by first | rfl | (simp; done) | (simp [*]; done), by repeat (first | exact Drawn0.refl _ | apply Drawn0.step)⟩
      ·rw [if_neg c6] at H
       exact absurd H (by simp)
     ·rw [if_neg c5] at H
      exact absurd H (by simp)
   ·rw [if_neg c3] at H
    have c3b0 : decide (x5_1 < (a1.size : Int)) = false := decide_eq_false c3
    clear c3
    obtain rfl := Option.some.inj H
    go_wp2
    repeat (go_quiet (fail); try go_wp2)
    go_ret
    exact ⟨by first | rfl | (simp; done) | (simp [*]; done), by repeat (first | exact Drawn0.refl _ | apply Drawn0.step)⟩
end Go.Proofs.YtgiioglmkogpkaaGreatDoor.M
namespace Go.Proofs
open Go.Shelf
def Tryz.lays129_ren : Go.Shelf.Ren := ⟨fun | 129 => 162 | n => n, fun | 53 => 159 | 3 => 3 | 4 => 4 | 46 => 162 | 5 => 5 | 9 => 9 | n => n, fun | n => n⟩
theorem Tryz.lays129 : Go.Proofs.Lays.n129 Tryz.prog Tryz.lays129_ren := {
 mixed := by kernel_rfl
 f129 := Tryz.func162.trans (congrArg some (by kernel_rfl))
 t3 := Tryz.underlying3
 a3 := Tryz.isAgg3
 z3 := Tryz.sizeOf3
 v3 := Tryz.zeroValue3
 t4 := Tryz.underlying4
 a4 := Tryz.isAgg4
 z4 := Tryz.sizeOf4
 v4 := Tryz.zeroValue4
 t5 := Tryz.underlying5
 a5 := Tryz.isAgg5
 z5 := Tryz.sizeOf5
 v5 := Tryz.zeroValue5
 t9 := Tryz.underlying9
 a9 := Tryz.isAgg9
 z9 := Tryz.sizeOf9
 v9 := Tryz.zeroValue9
 t46 := Tryz.underlying162
 a46 := Tryz.isAgg162
 z46 := Tryz.sizeOf162
 v46 := Tryz.zeroValue162
 t53 := Tryz.underlying159
 a53 := Tryz.isAgg159
 z53 := Tryz.sizeOf159
 v53 := Tryz.zeroValue159 }
theorem Tryz.bits_Len64 (x : Int) (w : World) (h0 : 0 ≤ x) (h1 : x ≤ 18446744073709551615) :
  Calls Tryz.prog 162 #[.int .u64 x] w fun e w' => e = .returned (.int .i64 (Lib.bitLen x.toNat)) ∧ w' = w := Any.bits_Len64 Tryz.lays129 x w h0 h1
def Tryz.lays317_ren : Go.Shelf.Ren := ⟨fun | 317 => 166 | n => n, fun | 3 => 3 | 46 => 162 | n => n, fun | n => n⟩
theorem Tryz.lays317 : Go.Proofs.Lays.n317 Tryz.prog Tryz.lays317_ren := {
 mixed := by kernel_rfl
 f317 := Tryz.func166.trans (congrArg some (by kernel_rfl))
 t3 := Tryz.underlying3
 a3 := Tryz.isAgg3
 z3 := Tryz.sizeOf3
 v3 := Tryz.zeroValue3
 t46 := Tryz.underlying162
 a46 := Tryz.isAgg162
 z46 := Tryz.sizeOf162
 v46 := Tryz.zeroValue162 }
open Go.Lib in
theorem Tryz.internal_strconv_log10Pow2 (x : Nat) (h : x ≤ 64) (w : World) :
  Calls Tryz.prog 166 #[.int .i64 x] w fun e w' => e = .returned (.int .i64 (Lib.l10 x)) ∧ w' = w := Any.internal_strconv_log10Pow2 Tryz.lays317 x h w
def Tryz.lays318_ren : Go.Shelf.Ren := ⟨fun | 318 => 201 | n => n, fun | 3 => 3 | 4 => 4 | n => n, fun | n => n⟩
theorem Tryz.lays318 : Go.Proofs.Lays.n318 Tryz.prog Tryz.lays318_ren := {
 mixed := by kernel_rfl
 f318 := Tryz.func201.trans (congrArg some (by kernel_rfl))
 t3 := Tryz.underlying3
 a3 := Tryz.isAgg3
 z3 := Tryz.sizeOf3
 v3 := Tryz.zeroValue3
 t4 := Tryz.underlying4
 a4 := Tryz.isAgg4
 z4 := Tryz.sizeOf4
 v4 := Tryz.zeroValue4 }
open Go.Lib in
theorem Tryz.internal_strconv_bool2_int (b : Bool) (w : World) :
  Calls Tryz.prog 201 #[.bool b] w fun e w' => e = .returned (.int .i64 (if b then 1 else 0)) ∧ w' = w := Any.internal_strconv_bool2_int Tryz.lays318 b w
def Tryz.lays285_ren : Go.Shelf.Ren := ⟨fun | 285 => 200 | n => n, fun | 37 => 103 | 53 => 159 | 3 => 3 | 4 => 4 | 51 => 163 | 9 => 9 | 5 => 5 | 0 => 0 | n => n, fun | n => n⟩
theorem Tryz.lays285 : Go.Proofs.Lays.n285 Tryz.prog Tryz.lays285_ren := {
 mixed := by kernel_rfl
 f285 := Tryz.func200.trans (congrArg some (by kernel_rfl))
 t0 := Tryz.underlying0
 a0 := Tryz.isAgg0
 z0 := Tryz.sizeOf0
 v0 := Tryz.zeroValue0
 t3 := Tryz.underlying3
 a3 := Tryz.isAgg3
 z3 := Tryz.sizeOf3
 v3 := Tryz.zeroValue3
 t4 := Tryz.underlying4
 a4 := Tryz.isAgg4
 z4 := Tryz.sizeOf4
 v4 := Tryz.zeroValue4
 t5 := Tryz.underlying5
 a5 := Tryz.isAgg5
 z5 := Tryz.sizeOf5
 v5 := Tryz.zeroValue5
 t9 := Tryz.underlying9
 a9 := Tryz.isAgg9
 z9 := Tryz.sizeOf9
 v9 := Tryz.zeroValue9
 t37 := Tryz.underlying103
 a37 := Tryz.isAgg103
 z37 := Tryz.sizeOf103
 v37 := Tryz.zeroValue103
 t51 := Tryz.underlying163
 a51 := Tryz.isAgg163
 z51 := Tryz.sizeOf163
 v51 := Tryz.zeroValue163
 t53 := Tryz.underlying159
 a53 := Tryz.isAgg159
 z53 := Tryz.sizeOf159
 v53 := Tryz.zeroValue159 }
open Go.RowKit Go.Sort Go.Lib in
theorem Tryz.internal_strconv_formatBase10 (blk off cap : Nat) (u : Nat) (d : Array UInt8) (w : World) (hH : Holds (fun (b : UInt8) => Value.int .u8 (b.toNat : Int)) w blk off d) (hu : u < 10 ^ d.size) (hu64 : u < 18446744073709551616) (hsz : d.size < 4611686018427387904) :
  Calls Tryz.prog 200 #[.slice (some ⟨blk, off, none⟩) d.size cap, .int .u64 u] w fun e w' =>
   e = .returned (.tuple #[]) ∧ ∃ (n v' : Nat) (dk : Array UInt8), w' = (putRow (fun (b : UInt8) => Value.int .u8 (b.toNat : Int)) w blk off dk).drewN n ∧ FmtInv d.size u 0 v' dk := Any.internal_strconv_formatBase10 Tryz.lays285 blk off cap u d w hH hu hu64 hsz
def Tryz.lays321_ren : Go.Shelf.Ren := ⟨fun | 321 => 188 | n => n, fun | 5 => 5 | n => n, fun | n => n⟩
theorem Tryz.lays321 : Go.Proofs.Lays.n321 Tryz.prog Tryz.lays321_ren := {
 mixed := by kernel_rfl
 f321 := Tryz.func188.trans (congrArg some (by kernel_rfl))
 t5 := Tryz.underlying5
 a5 := Tryz.isAgg5
 z5 := Tryz.sizeOf5
 v5 := Tryz.zeroValue5 }
open Go.RowKit in
theorem Tryz.internal_strconv_lower (c : Int) (w : World) :
  Calls Tryz.prog 188 #[.int .u8 c] w fun e w' => e = .returned (.int .u8 (bits .or .u8 c 32)) ∧ w' = w := Any.internal_strconv_lower Tryz.lays321 c w
def Tryz.laysC245_ren : Go.Shelf.Ren := ⟨fun | 245 => 121 | 279 => 149 | 280 => 150 | 281 => 151 | 282 => 152 | 316 => 185 | 171 => 187 | 205 => 186 | 243 => 228 | 246 => 244 | 283 => 229 | 284 => 165 | 285 => 200 | 286 => 230 | 129 => 162 | 317 => 166 | 318 => 201 | 319 => 245 | 320 => 246 | 337 => 249 | 338 => 250 | n => n, fun | 9 => 9 | 3 => 3 | 75 => 123 | 167 => 181 | 4 => 4 | 168 => 182 | 210 => 222 | 37 => 103 | 0 => 0 | 127 => 149 | 145 => 275 | 143 => 273 | 2 => 2 | 171 => 197 | 53 => 159 | 5 => 5 | 173 => 276 | 212 => 237 | 51 => 163 | 20 => 20 | 213 => 296 | 46 => 162 | 232 => 191 | 233 => 301 | 80 => 83 | n => n, fun | 15 => 2 | 16 => 3 | 17 => 4 | 18 => 12 | 19 => 13 | n => n⟩
theorem Tryz.laysC245 : Go.Proofs.LaysC.n245 Tryz.prog Tryz.laysC245_ren := {
 mixed := by kernel_rfl
 f129 := Tryz.func162.trans (congrArg some (by kernel_rfl))
 f171 := Tryz.func187.trans (congrArg some (by kernel_rfl))
 f205 := Tryz.func186.trans (congrArg some (by kernel_rfl))
 f243 := Tryz.func228.trans (congrArg some (by kernel_rfl))
 f245 := Tryz.func121.trans (congrArg some (by kernel_rfl))
 f246 := Tryz.func244.trans (congrArg some (by kernel_rfl))
 f279 := Tryz.func149.trans (congrArg some (by kernel_rfl))
 f280 := Tryz.func150.trans (congrArg some (by kernel_rfl))
 f281 := Tryz.func151.trans (congrArg some (by kernel_rfl))
 f282 := Tryz.func152.trans (congrArg some (by kernel_rfl))
 f283 := Tryz.func229.trans (congrArg some (by kernel_rfl))
 f284 := Tryz.func165.trans (congrArg some (by kernel_rfl))
 f285 := Tryz.func200.trans (congrArg some (by kernel_rfl))
 f286 := Tryz.func230.trans (congrArg some (by kernel_rfl))
 f316 := Tryz.func185.trans (congrArg some (by kernel_rfl))
 f317 := Tryz.func166.trans (congrArg some (by kernel_rfl))
 f318 := Tryz.func201.trans (congrArg some (by kernel_rfl))
 f319 := Tryz.func245.trans (congrArg some (by kernel_rfl))
 f320 := Tryz.func246.trans (congrArg some (by kernel_rfl))
 f337 := Tryz.func249.trans (congrArg some (by kernel_rfl))
 f338 := Tryz.func250.trans (congrArg some (by kernel_rfl))
 t0 := Tryz.underlying0
 a0 := Tryz.isAgg0
 z0 := Tryz.sizeOf0
 v0 := Tryz.zeroValue0
 t2 := Tryz.underlying2
 a2 := Tryz.isAgg2
 z2 := Tryz.sizeOf2
 v2 := Tryz.zeroValue2
 t3 := Tryz.underlying3
 a3 := Tryz.isAgg3
 z3 := Tryz.sizeOf3
 v3 := Tryz.zeroValue3
 t4 := Tryz.underlying4
 a4 := Tryz.isAgg4
 z4 := Tryz.sizeOf4
 v4 := Tryz.zeroValue4
 t5 := Tryz.underlying5
 a5 := Tryz.isAgg5
 z5 := Tryz.sizeOf5
 v5 := Tryz.zeroValue5
 t9 := Tryz.underlying9
 a9 := Tryz.isAgg9
 z9 := Tryz.sizeOf9
 v9 := Tryz.zeroValue9
 t20 := Tryz.underlying20
 a20 := Tryz.isAgg20
 z20 := Tryz.sizeOf20
 v20 := Tryz.zeroValue20
 t37 := Tryz.underlying103
 a37 := Tryz.isAgg103
 z37 := Tryz.sizeOf103
 v37 := Tryz.zeroValue103
 t46 := Tryz.underlying162
 a46 := Tryz.isAgg162
 z46 := Tryz.sizeOf162
 v46 := Tryz.zeroValue162
 t51 := Tryz.underlying163
 a51 := Tryz.isAgg163
 z51 := Tryz.sizeOf163
 v51 := Tryz.zeroValue163
 t53 := Tryz.underlying159
 a53 := Tryz.isAgg159
 z53 := Tryz.sizeOf159
 v53 := Tryz.zeroValue159
 t75 := Tryz.underlying123
 a75 := Tryz.isAgg123
 z75 := Tryz.sizeOf123
 v75 := Tryz.zeroValue123
 t127 := Tryz.underlying149
 a127 := Tryz.isAgg149
 z127 := Tryz.sizeOf149
 v127 := Tryz.zeroValue149
 t143 := Tryz.underlying273
 a143 := Tryz.isAgg273
 z143 := Tryz.sizeOf273
 v143 := Tryz.zeroValue273
 t145 := Tryz.underlying275
 a145 := Tryz.isAgg275
 z145 := Tryz.sizeOf275
 v145 := Tryz.zeroValue275
 t167 := Tryz.underlying181
 a167 := Tryz.isAgg181
 z167 := Tryz.sizeOf181
 v167 := Tryz.zeroValue181
 t168 := Tryz.underlying182
 a168 := Tryz.isAgg182
 z168 := Tryz.sizeOf182
 v168 := Tryz.zeroValue182
 t171 := Tryz.underlying197
 a171 := Tryz.isAgg197
 z171 := Tryz.sizeOf197
 v171 := Tryz.zeroValue197
 t173 := Tryz.underlying276
 a173 := Tryz.isAgg276
 z173 := Tryz.sizeOf276
 v173 := Tryz.zeroValue276
 t210 := Tryz.underlying222
 a210 := Tryz.isAgg222
 z210 := Tryz.sizeOf222
 v210 := Tryz.zeroValue222
 t212 := Tryz.underlying237
 a212 := Tryz.isAgg237
 z212 := Tryz.sizeOf237
 v212 := Tryz.zeroValue237
 t213 := Tryz.underlying296
 a213 := Tryz.isAgg296
 z213 := Tryz.sizeOf296
 t232 := Tryz.underlying191
 a232 := Tryz.isAgg191
 z232 := Tryz.sizeOf191
 v232 := Tryz.zeroValue191
 t233 := Tryz.underlying301
 a233 := Tryz.isAgg301
 z233 := Tryz.sizeOf301
 v233 := Tryz.zeroValue301
 g15 := by kernel_rfl
 g16 := by kernel_rfl
 g17 := by kernel_rfl
 g18 := by kernel_rfl
 g19 := by kernel_rfl
 t80 := Tryz.underlying83
 a80 := Tryz.isAgg83
 z80 := Tryz.sizeOf83
 v80 := Tryz.zeroValue83
 i0 := by kernel_rfl
 i2 := by kernel_rfl
 i3 := by kernel_rfl
 i4 := by kernel_rfl
 i5 := by kernel_rfl
 i9 := by kernel_rfl
 i20 := by kernel_rfl
 i37 := by kernel_rfl
 i46 := by kernel_rfl
 i51 := by kernel_rfl
 i53 := by kernel_rfl
 i75 := by kernel_rfl
 i80 := by kernel_rfl
 i127 := by kernel_rfl
 i143 := by kernel_rfl
 i145 := by kernel_rfl
 i167 := by kernel_rfl
 i168 := by kernel_rfl
 i171 := by kernel_rfl
 i173 := by kernel_rfl
 i210 := by kernel_rfl
 i212 := by kernel_rfl
 i232 := by kernel_rfl
 i233 := by kernel_rfl
 m15 := by kernel_rfl
 m16 := by kernel_rfl
 m17 := by kernel_rfl
 m18 := by kernel_rfl
 m19 := by kernel_rfl
 c0 := by kernel_rfl
 c2 := by kernel_rfl
 c3 := by kernel_rfl
 c4 := by kernel_rfl
 c5 := by kernel_rfl
 c9 := by kernel_rfl
 c20 := by kernel_rfl
 c37 := by kernel_rfl
 c46 := by kernel_rfl
 c51 := by kernel_rfl
 c53 := by kernel_rfl
 c75 := by kernel_rfl
 c80 := by kernel_rfl
 c127 := by kernel_rfl
 c143 := by kernel_rfl
 c145 := by kernel_rfl
 c167 := by kernel_rfl
 c168 := by kernel_rfl
 c171 := by kernel_rfl
 c173 := by kernel_rfl
 c210 := by kernel_rfl
 c212 := by kernel_rfl
 c213 := by kernel_rfl
 c232 := by kernel_rfl
 c233 := by kernel_rfl }
open Go.RowKit in
theorem Tryz.strconv_toError_range (fn s : ByteArray) (base bits : Int) (ev : Value) (w : World) (hlim : s.size ≤ 281474976710656) (hv : w.cell? ⟨3, 0, none⟩ = some ev) (hev : ev = .nilIface ∨ ∃ te pe, ev = .iface te pe) :
  Calls Tryz.prog 121 #[.string fn, .string s, .int .i64 base, .int .i64 bits, .iface 181 (.int .i64 1)] w fun e w' => ∃ N, e = .returned (.iface 182 (.pointer (some ⟨N, 0, none⟩))) ∧ w.heap.size ≤ N ∧ w'.heap[N]? = some (.cells #[.string fn, .string s, ev] 222 (0, 0)) ∧ Below w.heap.size w w' := Any.strconv_toError_range Tryz.laysC245 fn s base bits ev w hlim hv hev
end Go.Proofs
namespace Go.Proofs.YtgiioglmkogpkaaGreatDoor.F
open Go.RowKit Go.Proofs.YtgiioglmkogpkaaGreatDoorW.PrintWords Go.Proofs.YtgiioglmkogpkaaGreatDoorW.PrintLast Go.Proofs.YtgiioglmkogpkaaGreatDoorW.PrintMore
open M
set_option maxHeartbeats 1000000
theorem prescale_calls (g : Nat) (a b c e lp hi lo : Int) (q : Nat) (w0 w : World) (hI : IsS228 w0 w g a b c) (hB : Below w0.heap.size w0 w)
  (hq : q < 696) (hx : w.cell? ⟨7, q * 2, none⟩ = some (.int .u64 hi)) (hy : w.cell? ⟨7, q * 2 + 1, none⟩ = some (.int .u64 lo)) (hg : 7 < g)
  (he : -5000 ≤ e ∧ e ≤ 5000) (hl : -5000 ≤ lp ∧ lp ≤ 5000) :
  Calls Tryz.prog 193 #[.pointer (some ⟨g, 0, none⟩), .int .i64 e, .int .i64 ((q : Int) - 348), .int .i64 lp] w fun x w' => x = .returned (.tuple #[]) ∧ IsS228 w0 w' g hi lo (-(e + lp + 3)) ∧ Below w0.heap.size w0 w' ∧ KeepBut w w' g none := by
 obtain ⟨HG, hgg⟩ := hI
 have h0 := cellS228_0 HG
 have h1 := cellS228_1 HG
 have h2 := cellS228_2 HG
 have f0 := blk_frozen HG 0
 have f1 := blk_frozen HG 1
 have f2 := blk_frozen HG 2
 have HB := Aside0.mk hB
 have HGG := Aside0.mk HG
 have HK := Aside0.mk (KeepBut.refl w g none)
 clear HG hB
 go_enter Tryz.func193, Tryz.ntmps193
 go_wp2
 go_end0
 exact ⟨rfl, by repeat (first | (with_reducible first | exact ⟨HGG.out, hgg⟩ | apply IsS228.set_0 | apply IsS228.set_1 | apply IsS228.set_2) | exact ⟨HGG.out, hgg⟩), by repeat (first | (with_reducible first | exact HB.out | refine below_set ?_ hgg) | exact HB.out), by repeat (first | (with_reducible first | exact HK.out | apply KeepBut.set_) | exact HK.out)⟩
theorem run_frombits (m : Int) (w : World) : (callFunc 225 #[.int .u64 m]).run Tryz.prog w = .ok (.value (.float .f64 m.toNat)) w := by
 rw [run_callFunc_extern Tryz.func225 (by kernel_rfl) (by kernel_rfl) (by kernel_rfl) (e := Extern.MathFloatBits.float64frombits) (by kernel_rfl)]
 rfl
def FErr (w : World) (e : Ending) (w' : World) : Prop := ∃ (x : Nat) (v : Value), e = .returned (.tuple #[.float .f64 x, v]) ∧ (v = .nilIface ∨ v = .iface 181 (.int .i64 1)) ∧ Drawn0 w w'
theorem pack64_calls (m e : Int) (w : World) (he : -100000 ≤ e ∧ e ≤ 100000) :
  Calls Tryz.prog 243 #[.int .u64 m, .int .i64 e] w (FErr w) := by
 have hf := run_frombits
 by_cases c : bits .and .u64 m 4503599627370496 = 0
 ·have c1 := beq_iff_eq.mpr c
  go_enter Tryz.func243, Tryz.ntmps243
  go_wp2
  go_ret2
  exact ⟨_, _, rfl, .inl rfl, 0, rfl⟩
 ·have c1 := beq_eq_false_iff_ne.mpr c
  by_cases d : 972 ≤ e
  ·have d1 := decide_eq_true d
   go_enter Tryz.func243, Tryz.ntmps243
   go_wp2
   go_ret2
   exact ⟨_, _, rfl, .inr rfl, 0, rfl⟩
  ·have d1 := decide_eq_false d
   go_enter Tryz.func243, Tryz.ntmps243
   go_wp2
   go_ret2
   exact ⟨_, _, rfl, .inl rfl, 0, rfl⟩
def USc (w : World) (e : Ending) (w' : World) : Prop := ∃ u : Int, 0 ≤ u ∧ u < 18446744073709551616 ∧ e = .returned (.int .u64 u) ∧ Drawn0 w w'
theorem bits_range (op : BinOp) (a b : Int) : 0 ≤ bits op .u64 a b ∧ bits op .u64 a b < 18446744073709551616 := by
 unfold bits
 dsimp only
 generalize (BitVec.toNat _ : Nat) = n
 simp only [IntKind.wrap, IntKind.bits, IntKind.signed]
 simp
 omega
theorem bits_mask64 (c : Int) (h0 : 0 ≤ c) (h1 : c < 64) : bits .and .i64 c 63 = c := by
 have := bits_mask .i64 63 (by decide) (fun n _ _ => by rw [IntKind.wrap_i64]; omega) 6 (by decide) c h0 (by omega)
 simpa using this.trans (by omega)
theorem mul64_any (x a : Int) (w : World) : Calls Tryz.prog 231 #[.int .u64 x, .int .u64 a] w (fun e w' => ∃ h l : Int, e = .returned (.tuple #[.int .u64 h, .int .u64 l]) ∧ Drawn0 w w') :=
 (bits_Mul64.calls x a _ _ w rfl).mono fun e w' h => ⟨_, _, h.1, h.2⟩
theorem bool2_any (b : Bool) (w : World) : Calls Tryz.prog 224 #[.bool b] w (fun e w' => ∃ y : Int, e = .returned (.int .u64 y) ∧ Drawn0 w w') := by
 cases b
 ·exact (strconv_bool2_uint64.calls false 0 w rfl).mono fun e w' h => ⟨_, h.1, h.2⟩
 ·exact (strconv_bool2_uint64.calls true 1 w rfl).mono fun e w' h => ⟨_, h.1, h.2⟩
theorem bool2_same (b : Bool) (w : World) : Calls Tryz.prog 224 #[.bool b] w (fun e w' => e = .returned (.int .u64 (if b = true then 1 else 0)) ∧ w' = w) := by
 cases b
 ·go_enter Tryz.func224, Tryz.ntmps224
  go_wp2
  go_ret
  exact ⟨rfl, rfl⟩
 ·go_enter Tryz.func224, Tryz.ntmps224
  go_wp2
  go_ret
  exact ⟨rfl, rfl⟩
theorem bool2_drawn (b : Bool) (w : World) : Calls Tryz.prog 224 #[.bool b] w (fun e w' => e = .returned (.int .u64 (if b = true then 1 else 0)) ∧ ∃ n, w' = w.drewN n) :=
 (bool2_same b w).mono fun e w' h => ⟨h.1, 0, h.2⟩
theorem uscale_calls (x : Int) (g : Nat) (a b c : Int) (w : World) (hG : w.heap[g]? = some (.cells #[.int .u64 a, .int .u64 b, .int .i64 c] 228 (0, 0))) (hc : 0 ≤ c ∧ c < 64) :
  Calls Tryz.prog 195 #[.int .u64 x, .pointer (some ⟨g, 0, none⟩)] w (USc w) := by
 have h0 := cellS228_0 hG
 have h1 := cellS228_1 hG
 have h2 := cellS228_2 hG
 clear hG
 obtain ⟨hc0, hc1⟩ := hc
 have hm := bits_mask64 c hc0 hc1
 have hn : ¬ c < 0 := by omega
 go_enter Tryz.func195, Tryz.ntmps195
 go_wp2_with fail
 refine (mul64_any _ _ _).mono ?_
 rintro e w' ⟨h, l, rfl, ⟨nd, rfl⟩⟩
 go_wp2_with fail
 ·go_ret
  exact ⟨_, (bits_range _ _ _).1, (bits_range _ _ _).2, rfl, nd, rfl⟩
 ·refine (mul64_any _ _ _).mono ?_
  rintro e w' ⟨h2, l2, rfl, ⟨nd2, rfl⟩⟩
  go_wp2_with fail
  refine (bool2_any _ _).mono ?_
  rintro e w' ⟨y, rfl, ⟨nd3, rfl⟩⟩
  go_wp2_with fail
  go_quiet ((go_at_call 224; refine (bool2_drawn _ _).mono ?_; rintro e w' ⟨rfl, ⟨nq, rfl⟩⟩; (first | exact ⟨rfl, _, World.drewN_drewN _ _ _⟩ | exact ⟨rfl, _, Eq.trans (World.drewN_drewN _ _ _) (congrArg (World.drewN _) (Nat.add_assoc _ _ _))⟩)))
  all_goals (try (go_wp2_with fail))
  all_goals go_ret
  all_goals exact ⟨_, (bits_range _ _ _).1, (bits_range _ _ _).2, rfl, _, rfl⟩
theorem bitLenAux_le : ∀ f n, Lib.bitLenAux f n ≤ f
 | 0, _ => Nat.le_refl _
 | f + 1, n => by
  have := bitLenAux_le f (n / 2)
  simp only [Lib.bitLenAux]
  split <;> omega
theorem bitLen_le (n : Nat) : Lib.bitLen n ≤ 64 := bitLenAux_le 64 n
theorem len64_any (d : Int) (w : World) (h0 : 0 ≤ d) (h1 : d < 18446744073709551616) :
  Calls Tryz.prog 162 #[.int .u64 d] w (fun e w' => ∃ n : Int, (0 ≤ n ∧ n ≤ 64) ∧ e = .returned (.int .i64 n) ∧ w = w') :=
 (Tryz.bits_Len64 d w h0 (by omega)).mono fun e w' h => ⟨_, ⟨by omega, by have := bitLen_le d.toNat; omega⟩, h.1, h.2.symm⟩
theorem log2_any (p : Int) (w : World) (h : -400 ≤ p ∧ p ≤ 400) :
  Calls Tryz.prog 194 #[.int .i64 p] w (fun e w' => ∃ n : Int, (-1400 ≤ n ∧ n ≤ 1400) ∧ e = .returned (.int .i64 n) ∧ Drawn0 w w') :=
 (strconv_log2Pow10.calls p _ w rfl).mono fun e w' h' => ⟨_, (by
  have e1 : wrap64 (p * 108853) = p * 108853 := by unfold wrap64; omega
  rw [e1]; omega), h'.1, h'.2⟩
theorem bool2i_any (b : Bool) (w : World) : Calls Tryz.prog 201 #[.bool b] w (fun e w' => ∃ y : Int, (0 ≤ y ∧ y ≤ 1) ∧ e = .returned (.int .i64 y) ∧ w = w') := by
 cases b
 ·exact (Tryz.internal_strconv_bool2_int false w).mono fun e w' h => ⟨0, by omega, h.1, h.2.symm⟩
 ·exact (Tryz.internal_strconv_bool2_int true w).mono fun e w' h => ⟨1, by omega, h.1, h.2.symm⟩
theorem unmin_any (m : Int) (w : World) : Calls Tryz.prog 202 #[.int .u64 m] w (fun e w' => ∃ y : Int, e = .returned (.int .u64 y) ∧ Drawn0 w w') :=
 (strconv_unmin.calls m _ w rfl).mono fun e w' h => ⟨_, h.1, h.2⟩
theorem round_any (m : Int) (w : World) : Calls Tryz.prog 199 #[.int .u64 m] w (fun e w' => ∃ y : Int, e = .returned (.int .u64 y) ∧ Drawn0 w w') :=
 (strconv_unrounded_round.calls m _ w rfl).mono fun e w' h => ⟨_, h.1, h.2⟩
def Pow (w : World) : Prop := ∀ i, i < 1392 → ∃ n : Int, w.cell? ⟨7, i, none⟩ = some (.int .u64 n)
theorem Pow.below {w w' : World} (h : Pow w) (hb : Below w.heap.size w w') : Pow w' := fun i hi => by
 obtain ⟨n, hn⟩ := h i hi
 exact ⟨n, pw_cell_below hb hn⟩
def FBel (w : World) (e : Ending) (w' : World) : Prop := ∃ (x : Nat) (v : Value), e = .returned (.tuple #[.float .f64 x, v]) ∧ (v = .nilIface ∨ v = .iface 181 (.int .i64 1)) ∧ Below w.heap.size w w'
theorem parseFloat64_calls (d p sign : Int) (w : World) (hd : 0 ≤ d) (hd1 : d < 18446744073709551616) (hp : -345 ≤ p) (hp1 : p ≤ 310) (T : Pow w) :
  Calls Tryz.prog 227 #[.int .u64 d, .int .i64 p, .int .u64 sign] w (FBel w) := by
 have hf := run_frombits
 have T' := Aside0.mk T
 clear T
 obtain ⟨q, rfl⟩ : ∃ q : Nat, p = (q : Int) - 348 := ⟨(p + 348).toNat, by omega⟩
 go_enter Tryz.func227, Tryz.ntmps227
 go_wp2_with fail
 refine (len64_any _ _ hd hd1).mono ?_
 rintro e w' ⟨b, ⟨hb0, hb1⟩, rfl, rfl⟩
 go_wp2_with fail
 refine (log2_any _ _ ⟨by omega, by omega⟩).mono ?_
 rintro e w' ⟨lp, ⟨hl0, hl1⟩, rfl, ⟨nd, rfl⟩⟩
 go_wp2_with fail
 obtain ⟨hi, hhi⟩ := T'.out (q * 2) (by omega)
 obtain ⟨lo, hlo⟩ := T'.out (q * 2 + 1) (by omega)
 have h7 : 7 < w.heap.size := World.block_lt_of_cell? w _ hhi
 have hBd : Below w.heap.size w (w.drewN nd) := Drawn0.below ⟨nd, rfl⟩
 have hA := below_alloc hBd (.cells #[.int .u64 0, .int .u64 0, .int .i64 0] 228)
 refine (prescale_calls w.heap.size 0 0 0 _ lp hi lo q w _ (IsS228.new w (w.drewN nd) 0 0 0 hBd) hA (by omega) (pw_cell_below hA hhi) (pw_cell_below hA hlo) h7 ⟨by omega, by omega⟩ ⟨by omega, by omega⟩).mono ?_
 rintro e w1 ⟨rfl, hI, hB, hK⟩
 obtain ⟨sc, hs⟩ : ∃ sc, sc = -(min 1074 (53 - b - lp) - (64 - b) + lp + 3) := ⟨_, rfl⟩
 rw [← hs] at hI
 have hs8 : 8 ≤ sc := by rw [hs]; omega
 clear hs hA hBd
 obtain ⟨HG, hgg⟩ := hI
 have c2 := cellS228_2 HG
 have HGG := Aside0.mk HG
 clear HG
 have HB := Aside0.mk hB
 clear hB hK
 go_wp2_with fail
 ·go_ret2
  exact ⟨_, _, rfl, .inl rfl, HB.out⟩
 ·have h64 : sc < 64 := by assumption
  refine (uscale_calls _ _ hi lo sc _ HGG.out ⟨by omega, h64⟩).mono ?_
  rintro e w' ⟨u, hu0, hu1, rfl, ⟨n1, rfl⟩⟩
  go_wp2_with fail
  refine (unmin_any _ _).mono ?_
  rintro e w' ⟨y, rfl, ⟨n2, rfl⟩⟩
  go_wp2_with fail
  refine (bool2i_any _ _).mono ?_
  rintro e w' ⟨z, ⟨hz0, hz1⟩, rfl, rfl⟩
  go_wp2_with fail
  refine (round_any _ _).mono ?_
  rintro e w' ⟨r, rfl, ⟨n3, rfl⟩⟩
  go_wp2_with fail
  refine (pack64_calls _ _ _ ⟨by omega, by omega⟩).mono ?_
  rintro e w' ⟨x, v, rfl, hv, ⟨n4, rfl⟩⟩
  go_wp2_with fail
  go_ret2
  exact ⟨_, _, rfl, hv, by repeat (first | (with_reducible first | exact HB.out | apply pw_below_drewN) | exact HB.out)⟩
end Go.Proofs.YtgiioglmkogpkaaGreatDoor.F
namespace Go.Proofs.YtgiioglmkogpkaaGreatDoor.F
open Go.RowKit Go.Proofs.YtgiioglmkogpkaaGreatDoorW.PrintWords Go.Proofs.YtgiioglmkogpkaaGreatDoorW.PrintLast Go.Proofs.YtgiioglmkogpkaaGreatDoorW.PrintMore
open M
set_option maxHeartbeats 2000000
theorem mul_ex (x y : Nat) (w : World) : ∃ r n : Nat, (binOp .mul 39 (.float .f64 x) (.float .f64 y)).run Tryz.prog w = .ok (.float .f64 r) (w.drewN n) := by
 cases h : floatBits .mul .f64 x y with
 | some r => exact ⟨r, 0, run_float_arith (P := Tryz.prog) w .mul 39 .f64 x y r h⟩
 | none =>
  have h' : FloatKind.f64.format.mul x y = none := h
  by_cases hf : (Question.nanBits .f64 x y).forced = true
  ·exact ⟨0, 0, by simp [binOp, Op.floatArith, h', run_choose_drew, hf]; rfl⟩
  ·exact ⟨_, 1, by simp [binOp, Op.floatArith, h', run_choose_drew, hf]; exact ⟨rfl, rfl⟩⟩
theorem quo_ex (x y : Nat) (w : World) : ∃ r n : Nat, (binOp .quo 39 (.float .f64 x) (.float .f64 y)).run Tryz.prog w = .ok (.float .f64 r) (w.drewN n) := by
 cases h : floatBits .quo .f64 x y with
 | some r => exact ⟨r, 0, run_float_arith (P := Tryz.prog) w .quo 39 .f64 x y r h⟩
 | none =>
  have h' : FloatKind.f64.format.div x y = none := h
  by_cases hf : (Question.nanBits .f64 x y).forced = true
  ·exact ⟨0, 0, by simp [binOp, Op.floatArith, h', run_choose_drew, hf]; rfl⟩
  ·exact ⟨_, 1, by simp [binOp, Op.floatArith, h', run_choose_drew, hf]; exact ⟨rfl, rfl⟩⟩
noncomputable def mulV (x y : Nat) (w : World) : Nat := Classical.choose (mul_ex x y w)
noncomputable def mulN (x y : Nat) (w : World) : Nat := Classical.choose (Classical.choose_spec (mul_ex x y w))
noncomputable def quoV (x y : Nat) (w : World) : Nat := Classical.choose (quo_ex x y w)
noncomputable def quoN (x y : Nat) (w : World) : Nat := Classical.choose (Classical.choose_spec (quo_ex x y w))
theorem run_mul (x y : Nat) (w : World) : (binOp .mul 39 (.float .f64 x) (.float .f64 y)).run Tryz.prog w = .ok (.float .f64 (mulV x y w)) (w.drewN (mulN x y w)) := Classical.choose_spec (Classical.choose_spec (mul_ex x y w))
theorem run_quo (x y : Nat) (w : World) : (binOp .quo 39 (.float .f64 x) (.float .f64 y)).run Tryz.prog w = .ok (.float .f64 (quoV x y w)) (w.drewN (quoN x y w)) := Classical.choose_spec (Classical.choose_spec (quo_ex x y w))
def FBool (w : World) (e : Ending) (w' : World) : Prop := ∃ (x : Nat) (b : Bool), e = .returned (.tuple #[.float .f64 x, .bool b]) ∧ Drawn0 w w'
def P10 (w : World) : Prop := ∃ (a : Addr) (c : Nat), w.cell? ⟨11, 0, none⟩ = some (.slice (some a) 23 c) ∧ ∀ i, i < 23 → ∃ x : Nat, w.cell? (a.add i) = some (.float .f64 x)
theorem atof64exact_calls (m p : Int) (neg : Bool) (w : World) (hm : 0 ≤ m) (hm1 : m < 18446744073709551616) (hp : -100000 ≤ p) (hp1 : p ≤ 100000) (h6 : w.cell? ⟨6, 0, none⟩ = some (.int .u64 52)) (T : P10 w) :
  Calls Tryz.prog 226 #[.int .u64 m, .int .i64 p, .bool neg] w (FBool w) := by
 obtain ⟨a, cc, h11, hT⟩ := T
 have hT' := Aside0.mk hT
 clear hT
 have hmul := run_mul
 have hquo := run_quo
 have hneg : ∀ (x : Nat) (w : World), (Op.unary .neg (.float .f64 x)).run Tryz.prog w = .ok (.float .f64 (Op.negFloat .f64 x)) w := fun _ _ => rfl
 by_cases c1 : m / 4503599627370496 = 0
 ·have c1b := beq_iff_eq.mpr c1
  have c1c : ((m / 4503599627370496) != 0) = false := bne_eq_false_iff_eq.mpr c1
  have fin : ∀ (x : Nat) (b : Bool) (n : Nat), FBool w (.returned (.tuple #[.float .f64 x, .bool b])) (w.drewN n) := fun x b n => ⟨x, b, rfl, n, rfl⟩
  have fin0 : ∀ (x : Nat) (b : Bool), FBool w (.returned (.tuple #[.float .f64 x, .bool b])) w := fun x b => ⟨x, b, rfl, 0, rfl⟩
  have fin2 : ∀ (x : Nat) (b : Bool) (n k : Nat), FBool w (.returned (.tuple #[.float .f64 x, .bool b])) ((w.drewN n).drewN k) := fun x b n k => ⟨x, b, rfl, n + k, World.drewN_drewN _ _ _⟩
  cases neg
  ·by_cases e3 : p = 0
   ·subst e3
    go_enter Tryz.func226, Tryz.ntmps226
    go_wp2_with fail
    all_goals go_ret2
    all_goals first | exact fin _ _ _ | exact fin0 _ _ | exact fin2 _ _ _ _
   ·have e1 : (p == 0) = false := beq_eq_false_iff_ne.mpr (by omega)
    by_cases e4 : 0 < p
    ·by_cases e5 : p ≤ 22
     ·obtain ⟨x, hx⟩ := hT'.out p.toNat (by omega)
      go_enter Tryz.func226, Tryz.ntmps226
      go_wp2_with fail
      all_goals go_ret2
      all_goals first | exact fin _ _ _ | exact fin0 _ _ | exact fin2 _ _ _ _
     ·by_cases e6 : p ≤ 37
      ·obtain ⟨x, hx⟩ := hT'.out (p - 22).toNat (by omega)
       obtain ⟨x2, hx2⟩ := hT'.out 22 (by omega)
       have hx3 : w.cell? { block := a.block, off := a.off + 22 } = some (.float .f64 x2) := hx2
       go_enter Tryz.func226, Tryz.ntmps226
       go_wp2_with fail
       all_goals go_ret2
       all_goals first | exact fin _ _ _ | exact fin0 _ _ | exact fin2 _ _ _ _
      ·go_enter Tryz.func226, Tryz.ntmps226
       go_wp2_with fail
       all_goals go_ret2
       all_goals first | exact fin _ _ _ | exact fin0 _ _ | exact fin2 _ _ _ _
    ·by_cases e5 : -22 ≤ p
     ·obtain ⟨x, hx⟩ := hT'.out (-p).toNat (by omega)
      go_enter Tryz.func226, Tryz.ntmps226
      go_wp2_with fail
      all_goals go_ret2
      all_goals first | exact fin _ _ _ | exact fin0 _ _ | exact fin2 _ _ _ _
     ·go_enter Tryz.func226, Tryz.ntmps226
      go_wp2_with fail
      all_goals go_ret2
      all_goals first | exact fin _ _ _ | exact fin0 _ _ | exact fin2 _ _ _ _
  ·by_cases e3 : p = 0
   ·subst e3
    go_enter Tryz.func226, Tryz.ntmps226
    go_wp2_with fail
    all_goals go_ret2
    all_goals first | exact fin _ _ _ | exact fin0 _ _ | exact fin2 _ _ _ _
   ·have e1 : (p == 0) = false := beq_eq_false_iff_ne.mpr (by omega)
    by_cases e4 : 0 < p
    ·by_cases e5 : p ≤ 22
     ·obtain ⟨x, hx⟩ := hT'.out p.toNat (by omega)
      go_enter Tryz.func226, Tryz.ntmps226
      go_wp2_with fail
      all_goals go_ret2
      all_goals first | exact fin _ _ _ | exact fin0 _ _ | exact fin2 _ _ _ _
     ·by_cases e6 : p ≤ 37
      ·obtain ⟨x, hx⟩ := hT'.out (p - 22).toNat (by omega)
       obtain ⟨x2, hx2⟩ := hT'.out 22 (by omega)
       have hx3 : w.cell? { block := a.block, off := a.off + 22 } = some (.float .f64 x2) := hx2
       go_enter Tryz.func226, Tryz.ntmps226
       go_wp2_with fail
       all_goals go_ret2
       all_goals first | exact fin _ _ _ | exact fin0 _ _ | exact fin2 _ _ _ _
      ·go_enter Tryz.func226, Tryz.ntmps226
       go_wp2_with fail
       all_goals go_ret2
       all_goals first | exact fin _ _ _ | exact fin0 _ _ | exact fin2 _ _ _ _
    ·by_cases e5 : -22 ≤ p
     ·obtain ⟨x, hx⟩ := hT'.out (-p).toNat (by omega)
      go_enter Tryz.func226, Tryz.ntmps226
      go_wp2_with fail
      all_goals go_ret2
      all_goals first | exact fin _ _ _ | exact fin0 _ _ | exact fin2 _ _ _ _
     ·go_enter Tryz.func226, Tryz.ntmps226
      go_wp2_with fail
      all_goals go_ret2
      all_goals first | exact fin _ _ _ | exact fin0 _ _ | exact fin2 _ _ _ _
 ·have c1c : ((m / 4503599627370496) != 0) = true := bne_iff_ne.mpr c1
  go_enter Tryz.func226, Tryz.ntmps226
  go_wp2_with fail
  go_ret2
  exact ⟨_, _, rfl, 0, rfl⟩
end Go.Proofs.YtgiioglmkogpkaaGreatDoor.F
namespace Go.Proofs.YtgiioglmkogpkaaGreatDoor.F
open Go.RowKit Go.Proofs.YtgiioglmkogpkaaGreatDoorW.PrintWords Go.Proofs.YtgiioglmkogpkaaGreatDoorW.PrintLast Go.Proofs.YtgiioglmkogpkaaGreatDoorW.PrintMore
open M
structure DecC (cs : Array Value) (d : Nat → Int) (nd dp : Int) (ng tr : Bool) : Prop where
 sz : cs.size = 804
 dg : ∀ i, i < 800 → cs[i]? = some (.int .u8 (d i))
 c0 : cs[800]? = some (.int .i64 nd)
 c1 : cs[801]? = some (.int .i64 dp)
 c2 : cs[802]? = some (.bool ng)
 c3 : cs[803]? = some (.bool tr)
structure Dec (w0 W : World) (g : Nat) (d : Nat → Int) (nd dp : Int) (ng tr : Bool) : Prop where
 hp : ∃ cs, W.heap[g]? = some (.cells cs 202 (0, 0)) ∧ DecC cs d nd dp ng tr
 ge : w0.heap.size ≤ g
 be : Below w0.heap.size w0 W
def setD (d : Nat → Int) (j : Nat) (x : Int) : Nat → Int := fun i => if i = j then x else d i
section
variable {w0 W : World} {g : Nat} {d : Nat → Int} {nd dp : Int} {ng tr : Bool}
theorem Dec.dig (h : Dec w0 W g d nd dp ng tr) (i : Nat) (hi : i < 800) : W.cell? ⟨g, i, none⟩ = some (.int .u8 (d i)) := by
 obtain ⟨cs, hb, hc⟩ := h.hp
 exact (blk_cell hb i).trans (hc.dg i hi)
theorem Dec.cnd (h : Dec w0 W g d nd dp ng tr) : W.cell? ⟨g, 800, none⟩ = some (.int .i64 nd) := by
 obtain ⟨cs, hb, hc⟩ := h.hp
 exact (blk_cell hb 800).trans hc.c0
theorem Dec.cdp (h : Dec w0 W g d nd dp ng tr) : W.cell? ⟨g, 801, none⟩ = some (.int .i64 dp) := by
 obtain ⟨cs, hb, hc⟩ := h.hp
 exact (blk_cell hb 801).trans hc.c1
theorem Dec.cng (h : Dec w0 W g d nd dp ng tr) : W.cell? ⟨g, 802, none⟩ = some (.bool ng) := by
 obtain ⟨cs, hb, hc⟩ := h.hp
 exact (blk_cell hb 802).trans hc.c2
theorem Dec.ctr (h : Dec w0 W g d nd dp ng tr) : W.cell? ⟨g, 803, none⟩ = some (.bool tr) := by
 obtain ⟨cs, hb, hc⟩ := h.hp
 exact (blk_cell hb 803).trans hc.c3
theorem Dec.fr (h : Dec w0 W g d nd dp ng tr) (i : Nat) : W.frozen? ⟨g, i, none⟩ = false := by
 obtain ⟨cs, hb, hc⟩ := h.hp
 exact blk_frozen hb i
theorem Dec.drewN (h : Dec w0 W g d nd dp ng tr) (m : Nat) : Dec w0 (W.drewN m) g d nd dp ng tr := ⟨h.hp, h.ge, pw_below_drewN h.be m⟩
theorem Dec.drew (h : Dec w0 W g d nd dp ng tr) : Dec w0 W.drew g d nd dp ng tr := ⟨h.hp, h.ge, below_drew1 h.be⟩
theorem Dec.set_any (h : Dec w0 W g d nd dp ng tr) (j : Nat) (u : Value) {d' : Nat → Int} {nd' dp' : Int} {ng' tr' : Bool} (hc : ∀ cs, DecC cs d nd dp ng tr → DecC (cs.setIfInBounds j u) d' nd' dp' ng' tr') :
  Dec w0 (W.setCell ⟨g, j, none⟩ u) g d' nd' dp' ng' tr' := by
 obtain ⟨cs, hb, h1⟩ := h.hp
 exact ⟨⟨_, blk_set hb j u, hc cs h1⟩, h.ge, below_set h.be h.ge⟩
theorem Dec.set_d (h : Dec w0 W g d nd dp ng tr) (j : Nat) (hj : j < 800) (x : Int) : Dec w0 (W.setCell ⟨g, j, none⟩ (.int .u8 x)) g (setD d j x) nd dp ng tr :=
 h.set_any j _ fun cs hc => by
  have hs := hc.sz
  refine ⟨by simpa using hs, fun i hi => ?_, ?_, ?_, ?_, ?_⟩
  ·rw [Array.getElem?_setIfInBounds]
   unfold setD
   by_cases e : j = i
   ·subst e; rw [if_pos rfl, if_pos (by omega), if_pos rfl]
   ·rw [if_neg e, if_neg (fun q => e q.symm)]; exact hc.dg i hi
  ·rw [Array.getElem?_setIfInBounds, if_neg (by omega)]; exact hc.c0
  ·rw [Array.getElem?_setIfInBounds, if_neg (by omega)]; exact hc.c1
  ·rw [Array.getElem?_setIfInBounds, if_neg (by omega)]; exact hc.c2
  ·rw [Array.getElem?_setIfInBounds, if_neg (by omega)]; exact hc.c3
theorem Dec.set_nd (h : Dec w0 W g d nd dp ng tr) (x : Int) : Dec w0 (W.setCell ⟨g, 800, none⟩ (.int .i64 x)) g d x dp ng tr :=
 h.set_any 800 _ fun cs hc => by
  have hs := hc.sz
  refine ⟨by simpa using hs, fun i hi => ?_, ?_, ?_, ?_, ?_⟩
  ·rw [Array.getElem?_setIfInBounds, if_neg (by omega)]; exact hc.dg i hi
  ·rw [Array.getElem?_setIfInBounds, if_pos rfl, if_pos (by omega)]
  ·rw [Array.getElem?_setIfInBounds, if_neg (by omega)]; exact hc.c1
  ·rw [Array.getElem?_setIfInBounds, if_neg (by omega)]; exact hc.c2
  ·rw [Array.getElem?_setIfInBounds, if_neg (by omega)]; exact hc.c3
theorem Dec.set_dp (h : Dec w0 W g d nd dp ng tr) (x : Int) : Dec w0 (W.setCell ⟨g, 801, none⟩ (.int .i64 x)) g d nd x ng tr :=
 h.set_any 801 _ fun cs hc => by
  have hs := hc.sz
  refine ⟨by simpa using hs, fun i hi => ?_, ?_, ?_, ?_, ?_⟩
  ·rw [Array.getElem?_setIfInBounds, if_neg (by omega)]; exact hc.dg i hi
  ·rw [Array.getElem?_setIfInBounds, if_neg (by omega)]; exact hc.c0
  ·rw [Array.getElem?_setIfInBounds, if_pos rfl, if_pos (by omega)]
  ·rw [Array.getElem?_setIfInBounds, if_neg (by omega)]; exact hc.c2
  ·rw [Array.getElem?_setIfInBounds, if_neg (by omega)]; exact hc.c3
theorem Dec.set_ng (h : Dec w0 W g d nd dp ng tr) (x : Bool) : Dec w0 (W.setCell ⟨g, 802, none⟩ (.bool x)) g d nd dp x tr :=
 h.set_any 802 _ fun cs hc => by
  have hs := hc.sz
  refine ⟨by simpa using hs, fun i hi => ?_, ?_, ?_, ?_, ?_⟩
  ·rw [Array.getElem?_setIfInBounds, if_neg (by omega)]; exact hc.dg i hi
  ·rw [Array.getElem?_setIfInBounds, if_neg (by omega)]; exact hc.c0
  ·rw [Array.getElem?_setIfInBounds, if_neg (by omega)]; exact hc.c1
  ·rw [Array.getElem?_setIfInBounds, if_pos rfl, if_pos (by omega)]
  ·rw [Array.getElem?_setIfInBounds, if_neg (by omega)]; exact hc.c3
theorem Dec.set_tr (h : Dec w0 W g d nd dp ng tr) (x : Bool) : Dec w0 (W.setCell ⟨g, 803, none⟩ (.bool x)) g d nd dp ng x :=
 h.set_any 803 _ fun cs hc => by
  have hs := hc.sz
  refine ⟨by simpa using hs, fun i hi => ?_, ?_, ?_, ?_, ?_⟩
  ·rw [Array.getElem?_setIfInBounds, if_neg (by omega)]; exact hc.dg i hi
  ·rw [Array.getElem?_setIfInBounds, if_neg (by omega)]; exact hc.c0
  ·rw [Array.getElem?_setIfInBounds, if_neg (by omega)]; exact hc.c1
  ·rw [Array.getElem?_setIfInBounds, if_neg (by omega)]; exact hc.c2
  ·rw [Array.getElem?_setIfInBounds, if_pos rfl, if_pos (by omega)]
end
end Go.Proofs.YtgiioglmkogpkaaGreatDoor.F
namespace Go.Proofs.YtgiioglmkogpkaaGreatDoor.F
open Go.RowKit Go.Proofs.YtgiioglmkogpkaaGreatDoorW.PrintWords Go.Proofs.YtgiioglmkogpkaaGreatDoorW.PrintLast Go.Proofs.YtgiioglmkogpkaaGreatDoorW.PrintMore
open M
set_option maxHeartbeats 1000000
theorem trim_calls (w0 w : World) (g : Nat) (d : Nat → Int) (nd : Nat) (dp : Int) (ng tr : Bool) (H : Dec w0 w g d nd dp ng tr) (hn : nd ≤ 800) (h0 : 0 < nd → d 0 ≠ 48) :
  Calls Tryz.prog 204 #[.pointer (some ⟨g, 0, none⟩)] w fun e w' => e = .returned (.tuple #[]) ∧ ∃ (nd' : Nat) (dp' : Int), Dec w0 w' g d nd' dp' ng tr ∧ (0 < nd → 1 ≤ nd' ∧ nd' ≤ nd ∧ dp' = dp) ∧ (nd = 0 → nd' = 0 ∧ dp' = 0) := by
 have HD := Aside0.mk H
 clear H
 go_enter Tryz.func204, Tryz.ntmps204
 go_wp2_with fail
 go_loopg [] nd (fun kq w' => Aside0 (Dec w0 w' g d kq dp ng tr) ∧ kq ≤ nd ∧ (0 < nd → 1 ≤ kq))
 case atStart => exact ⟨HD, by omega, by omega⟩
 case round =>
  obtain ⟨HD, hn1, hn2⟩ := hrel
  have c0 := HD.out.cnd
  have c1 := HD.out.cdp
  have f0 := HD.out.fr
  cases gk with
  | zero =>
   go_wp2_with fail
   repeat (go_quiet (fail); try (go_wp2_with fail))
   go_end0
   exact ⟨rfl, _, _, (HD.out.drewN _).set_dp _, by omega, fun _ => ⟨rfl, rfl⟩⟩
  | succ k =>
   have cd := HD.out.dig k (by omega)
   have g4 : k < 800 := by omega
   have g5 : IntKind.i64.wrap (k : Int) = k := by rw [IntKind.wrap_i64]; omega
   have c2 : wr.cell? ⟨g, 800, none⟩ = some (.int .i64 ((k : Int) + 1)) := c0
   have f1 := f0 800
   clear c0
   have h0' : k = 0 → d k ≠ 48 := fun e => by rw [e]; exact h0 (by omega)
   have hh := Aside0.mk h0'
   clear h0'
   generalize hx : d k = x at cd
   rw [hx] at hh
   by_cases e48 : x = 48
   ·have e48b : (x == 48) = true := beq_iff_eq.mpr e48
    have hk0 : k ≠ 0 := fun e => hh.out e e48
    clear e48
    go_wp2_with fail
    go_quiet (fail)
    go_wp2_with fail
    go_roundg k
    case measure => omega
    case rel =>
     refine ⟨⟨?_⟩, by omega, by omega⟩
     exact (HD.out.drewN _).set_nd _
   ·have e48b : (x == 48) = false := beq_eq_false_iff_ne.mpr e48
    clear e48
    go_wp2_with fail
    go_quiet (fail)
    go_wp2_with fail
    go_end0
    exact ⟨rfl, _, _, HD.out.drewN _, by omega, by omega⟩
end Go.Proofs.YtgiioglmkogpkaaGreatDoor.F
namespace Go.Proofs.YtgiioglmkogpkaaGreatDoor.F
def W : List Nat → Nat
 | [] => 0
 | x :: a => x * 10 ^ a.length + W a
def cmp : List Nat → List Nat → Bool
 | _, [] => false
 | [], _ :: _ => true
 | x :: a, y :: b => if x = y then cmp a b else decide (x < y)
theorem W_lt : ∀ a : List Nat, (∀ x ∈ a, x ≤ 9) → W a < 10 ^ a.length
 | [], _ => by simp [W]
 | x :: a, h => by
  have ih := W_lt a fun y hy => h y (List.mem_cons_of_mem _ hy)
  have hx := h x (List.mem_cons_self ..)
  simp only [W, List.length_cons, Nat.pow_succ]
  have : x * 10 ^ a.length ≤ 9 * 10 ^ a.length := Nat.mul_le_mul_right _ hx
  omega
def Sharp : List Nat → Prop
 | [] => False
 | [x] => x ≠ 0
 | _ :: a => Sharp a
theorem W_pos : ∀ a, Sharp a → 0 < W a
 | [], h => h.elim
 | [x], h => by simp [W, Sharp] at *; omega
 | x :: y :: a, h => by
  have := W_pos (y :: a) h
  simp only [W] at *
  omega
theorem cmp_true : ∀ a b, (∀ x ∈ a, x ≤ 9) → (b = [] ∨ Sharp b) → cmp a b = true → W a * 10 ^ b.length < W b * 10 ^ a.length
 | _, [], _, _, h => by simp [cmp] at h
 | [], y :: b, _, hs, _ => by
  have := W_pos _ (hs.resolve_left (by simp))
  simp only [List.length_nil, Nat.pow_zero, Nat.mul_one]
  simpa [W] using this
 | x :: a, y :: b, ha, hs, h => by
  have hs' : b = [] ∨ Sharp b := by
   rcases hs with h | h
   ·simp at h
   ·cases b with
    | nil => exact .inl rfl
    | cons z b => exact .inr h
  have ha' : ∀ x ∈ a, x ≤ 9 := fun z hz => ha z (List.mem_cons_of_mem _ hz)
  have hlt := W_lt a ha'
  unfold cmp at h
  simp only [W, List.length_cons, Nat.pow_succ]
  generalize hA : 10 ^ a.length = A at *
  generalize hB : 10 ^ b.length = B at *
  have hA0 : 0 < A := by rw [← hA]; exact Nat.pow_pos (by omega)
  have hB0 : 0 < B := by rw [← hB]; exact Nat.pow_pos (by omega)
  by_cases e : x = y
  ·rw [if_pos e] at h
   subst e
   have ih := cmp_true a b ha' hs' h
   rw [hA, hB] at ih
   have e1 : (x * A + W a) * (B * 10) = x * A * B * 10 + W a * B * 10 := by rw [Nat.add_mul, ← Nat.mul_assoc, ← Nat.mul_assoc]
   have e2 : (x * B + W b) * (A * 10) = x * A * B * 10 + W b * A * 10 := by rw [Nat.add_mul, ← Nat.mul_assoc, ← Nat.mul_assoc, Nat.mul_right_comm x B A]
   rw [e1, e2]; omega
  ·rw [if_neg e] at h
   have hlt2 : x < y := of_decide_eq_true h
   have h1 : x * A + W a < y * A := Nat.lt_of_lt_of_le (Nat.add_lt_add_left hlt _) (by rw [← Nat.succ_mul]; exact Nat.mul_le_mul_right _ hlt2)
   have h2 : (x * A + W a) * (B * 10) < y * A * (B * 10) := Nat.mul_lt_mul_of_pos_right h1 (by omega)
   have e2 : y * A * (B * 10) = y * B * (A * 10) := by rw [← Nat.mul_assoc, ← Nat.mul_assoc, Nat.mul_right_comm y A B]
   have h3 : y * B * (A * 10) ≤ (y * B + W b) * (A * 10) := Nat.mul_le_mul_right _ (by omega)
   omega
theorem cmp_false : ∀ a b, (∀ x ∈ b, x ≤ 9) → cmp a b = false → W b * 10 ^ a.length ≤ W a * 10 ^ b.length
 | a, [], _, _ => by simp [W]
 | [], y :: b, _, h => by simp [cmp] at h
 | x :: a, y :: b, hb, h => by
  have hb' : ∀ x ∈ b, x ≤ 9 := fun z hz => hb z (List.mem_cons_of_mem _ hz)
  have hlt := W_lt b hb'
  unfold cmp at h
  simp only [W, List.length_cons, Nat.pow_succ]
  generalize hA : 10 ^ a.length = A at *
  generalize hB : 10 ^ b.length = B at *
  have hA0 : 0 < A := by rw [← hA]; exact Nat.pow_pos (by omega)
  by_cases e : x = y
  ·rw [if_pos e] at h
   subst e
   have ih := cmp_false a b hb' h
   rw [hA, hB] at ih
   have e1 : (x * A + W a) * (B * 10) = x * A * B * 10 + W a * B * 10 := by rw [Nat.add_mul, ← Nat.mul_assoc, ← Nat.mul_assoc]
   have e2 : (x * B + W b) * (A * 10) = x * A * B * 10 + W b * A * 10 := by rw [Nat.add_mul, ← Nat.mul_assoc, ← Nat.mul_assoc, Nat.mul_right_comm x B A]
   rw [e1, e2]; omega
  ·rw [if_neg e] at h
   have hlt2 : y < x := by have := of_decide_eq_false h; omega
   have h1 : y * B + W b < x * B := Nat.lt_of_lt_of_le (Nat.add_lt_add_left hlt _) (by rw [← Nat.succ_mul]; exact Nat.mul_le_mul_right _ hlt2)
   have h2 : (y * B + W b) * (A * 10) ≤ x * B * (A * 10) := Nat.mul_le_mul_right _ (by omega)
   have e2 : x * B * (A * 10) = x * A * (B * 10) := by rw [← Nat.mul_assoc, ← Nat.mul_assoc, Nat.mul_right_comm x B A]
   have h3 : x * A * (B * 10) ≤ (x * A + W a) * (B * 10) := Nat.mul_le_mul_right _ (by omega)
   omega
def carry (k : Nat) (d : Nat → Nat) (nd : Nat) : Nat → Nat
 | 0 => 0
 | j + 1 => (carry k d nd j + d (nd - 1 - j) * 2 ^ k) / 10
def tail (d : Nat → Nat) (nd : Nat) : Nat → Nat
 | 0 => 0
 | j + 1 => d (nd - 1 - j) * 10 ^ j + tail d nd j
theorem carry_bounds (k : Nat) (d : Nat → Nat) (nd : Nat) : ∀ j, carry k d nd j * 10 ^ j ≤ tail d nd j * 2 ^ k ∧ tail d nd j * 2 ^ k < (carry k d nd j + 1) * 10 ^ j
 | 0 => by simp [carry, tail]
 | j + 1 => by
  obtain ⟨h1, h2⟩ := carry_bounds k d nd j
  simp only [carry, tail, Nat.pow_succ]
  generalize hc : d (nd - 1 - j) = c
  generalize hn : carry k d nd j = n at *
  generalize hx : n + c * 2 ^ k = x
  have hd := Nat.div_add_mod x 10
  have hm := Nat.mod_lt x (show 0 < 10 by omega)
  generalize x / 10 = q at *
  generalize hP : 10 ^ j = P at *
  have hP0 : 0 < P := by rw [← hP]; exact Nat.pow_pos (by omega)
  have e1 : (c * P + tail d nd j) * 2 ^ k = c * 2 ^ k * P + tail d nd j * 2 ^ k := by rw [Nat.add_mul, Nat.mul_right_comm]
  rw [e1]
  constructor
  ·have h3 : q * 10 * P ≤ x * P := Nat.mul_le_mul_right _ (by omega)
   have e2 : q * (P * 10) = q * 10 * P := by rw [Nat.mul_comm P 10, ← Nat.mul_assoc]
   rw [e2]
   have e3 : x * P = n * P + c * 2 ^ k * P := by rw [← hx, Nat.add_mul]
   omega
  ·have h3 : (x + 1) * P ≤ (q * 10 + 10) * P := Nat.mul_le_mul_right _ (by omega)
   have e2 : (q + 1) * (P * 10) = (q * 10 + 10) * P := by rw [Nat.mul_comm P 10, ← Nat.mul_assoc, Nat.add_mul]
   rw [e2]
   have e3 : (x + 1) * P = (n + 1) * P + c * 2 ^ k * P := by rw [← hx, ← Nat.add_mul]; congr 1; omega
   omega
theorem tail_lt (d : Nat → Nat) (nd : Nat) (h : ∀ i, i < nd → d i ≤ 9) : ∀ j, j ≤ nd → tail d nd j < 10 ^ j
 | 0, _ => by simp [tail]
 | j + 1, hj => by
  have ih := tail_lt d nd h j (by omega)
  have hx := h (nd - 1 - j) (by omega)
  simp only [tail, Nat.pow_succ]
  have : d (nd - 1 - j) * 10 ^ j ≤ 9 * 10 ^ j := Nat.mul_le_mul_right _ hx
  omega
theorem carry_lt (k : Nat) (d : Nat → Nat) (nd : Nat) (h : ∀ i, i < nd → d i ≤ 9) (j : Nat) (hj : j ≤ nd) : carry k d nd j < 2 ^ k := by
 have h1 := (carry_bounds k d nd j).1
 have h2 := tail_lt d nd h j hj
 have h3 : tail d nd j * 2 ^ k < 10 ^ j * 2 ^ k := Nat.mul_lt_mul_of_pos_right h2 (Nat.pow_pos (by omega))
 have h4 : carry k d nd j * 10 ^ j < 2 ^ k * 10 ^ j := by rw [Nat.mul_comm (2 ^ k)]; omega
 exact Nat.lt_of_mul_lt_mul_right h4
def row (d : Nat → Nat) (a : Nat) : Nat → List Nat
 | 0 => []
 | n + 1 => d a :: row d (a + 1) n
theorem row_length (d : Nat → Nat) : ∀ n a, (row d a n).length = n
 | 0, _ => rfl
 | n + 1, a => by simp [row, row_length d n]
theorem row_tail (d : Nat → Nat) (nd : Nat) : ∀ j, j ≤ nd → W (row d (nd - j) j) = tail d nd j
 | 0, _ => rfl
 | j + 1, hj => by
  simp only [row, W, row_length, tail]
  rw [show nd - (j + 1) + 1 = nd - j by omega, row_tail d nd j (by omega), show nd - (j + 1) = nd - 1 - j by omega]
theorem row_all (d : Nat → Nat) : ∀ n a, (∀ i, a ≤ i → i < a + n → d i ≤ 9) → ∀ x ∈ row d a n, x ≤ 9
 | 0, _, _, _, h => by simp [row] at h
 | n + 1, a, hd, x, h => by
  rcases List.mem_cons.mp h with rfl | h
  ·exact hd a (by omega) (by omega)
  ·exact row_all d n (a + 1) (fun i h1 h2 => hd i (by omega) (by omega)) x h
structure Cheat (k : Nat) (de : Nat) (c : List Nat) : Prop where
 w : W c = 5 ^ k
 le : c.length ≤ k
 de : de = k + 1 - c.length
 lt : 5 ^ k < 10 ^ c.length
 ge : 10 ^ c.length ≤ 5 ^ k * 10
 sh : Sharp c
 dg : ∀ x ∈ c, x ≤ 9
theorem pow_split (k l : Nat) (h : l ≤ k) : 10 ^ k = 10 ^ (k - l) * 10 ^ l := by rw [← Nat.pow_add]; congr 1; omega
theorem ten (k : Nat) : 10 ^ k = 2 ^ k * 5 ^ k := by rw [← Nat.mul_pow]
theorem carry_end (k de : Nat) (c : List Nat) (h : Cheat k de c) (d : Nat → Nat) (nd : Nat) (hd : ∀ i, i < nd → d i ≤ 9) (h0 : 0 < nd) (hd0 : d 0 ≠ 0) (b : Bool) (hb : cmp (row d 0 nd) c = b) (e : Nat) (he : e = if b = true then de - 1 else de) :
  carry k d nd nd < 10 ^ e ∧ (0 < e → 10 ^ (e - 1) ≤ carry k d nd nd) := by
 have hrow : W (row d 0 nd) = tail d nd nd := by have := row_tail d nd nd (Nat.le_refl _); simpa using this
 have hlen := row_length d nd 0
 obtain ⟨b1, b2⟩ := carry_bounds k d nd nd
 have hall := row_all d nd 0 (fun i _ h => hd i (by omega))
 generalize carry k d nd nd = n at *
 generalize hT : tail d nd nd = T at *
 have hl := h.le
 have hde := h.de
 have hP : 0 < 10 ^ nd := Nat.pow_pos (by omega)
 have hL : 0 < 10 ^ c.length := Nat.pow_pos (by omega)
 have h2 : 0 < 2 ^ k := Nat.pow_pos (by omega)
 have hk := pow_split k c.length hl
 have hten := ten k
 have hTlt : T < 10 ^ nd := by rw [← hT]; exact tail_lt d nd hd nd (Nat.le_refl _)
 have hTge : 10 ^ (nd - 1) ≤ T := by
  rw [← hT]
  obtain ⟨m, rfl⟩ : ∃ m, nd = m + 1 := ⟨nd - 1, by omega⟩
  simp only [tail]
  rw [show m + 1 - 1 - m = 0 by omega, show m + 1 - 1 = m by omega]
  have : 1 * 10 ^ m ≤ d 0 * 10 ^ m := Nat.mul_le_mul_right _ (by omega)
  omega
 have hpp : 10 ^ nd = 10 ^ (nd - 1) * 10 := by rw [← Nat.pow_succ]; congr 1; omega
 have h2gt : 10 ^ (k - c.length) < 2 ^ k := by
  have h3 : 2 ^ k * 5 ^ k < 2 ^ k * 10 ^ c.length := Nat.mul_lt_mul_of_pos_left h.lt h2
  have h4 : 10 ^ (k - c.length) * 10 ^ c.length < 2 ^ k * 10 ^ c.length := by rw [← hk, hten]; exact h3
  exact Nat.lt_of_mul_lt_mul_right h4
 cases b with
 | true =>
  rw [if_pos rfl] at he
  have hc := cmp_true _ _ hall (.inr h.sh) hb
  rw [hrow, hlen, h.w] at hc
  have ee : e = k - c.length := by omega
  constructor
  ·
   have h5 : T * 10 ^ c.length * 2 ^ k < 5 ^ k * 10 ^ nd * 2 ^ k := Nat.mul_lt_mul_of_pos_right hc h2
   have h6 : n * 10 ^ nd * 10 ^ c.length ≤ T * 2 ^ k * 10 ^ c.length := Nat.mul_le_mul_right _ b1
   have e1 : T * 2 ^ k * 10 ^ c.length = T * 10 ^ c.length * 2 ^ k := Nat.mul_right_comm ..
   have e2 : 5 ^ k * 10 ^ nd * 2 ^ k = 10 ^ k * 10 ^ nd := by rw [hten, Nat.mul_right_comm, Nat.mul_comm (5 ^ k)]
   have h7 : n * 10 ^ c.length * 10 ^ nd < 10 ^ k * 10 ^ nd := by rw [Nat.mul_right_comm n]; omega
   have h8 := Nat.lt_of_mul_lt_mul_right h7
   rw [hk] at h8
   rw [ee]
   exact Nat.lt_of_mul_lt_mul_right h8
  ·intro he0
   have h5 : 10 ^ (nd - 1) * 2 ^ k ≤ T * 2 ^ k := Nat.mul_le_mul_right _ hTge
   have h6 : 10 ^ (nd - 1) * 2 ^ k < (n + 1) * 10 ^ nd := Nat.lt_of_le_of_lt h5 b2
   have e1 : (n + 1) * 10 ^ nd = 10 ^ (nd - 1) * ((n + 1) * 10) := by rw [hpp, Nat.mul_comm (n + 1), Nat.mul_assoc, Nat.mul_comm 10]
   rw [e1] at h6
   have h7 : 2 ^ k < (n + 1) * 10 := Nat.lt_of_mul_lt_mul_left h6
   have e2 : 10 ^ e = 10 ^ (e - 1) * 10 := by rw [← Nat.pow_succ]; congr 1; omega
   rw [← ee, e2] at h2gt
   omega
 | false =>
  rw [if_neg (by simp)] at he
  have hc := cmp_false _ _ h.dg hb
  rw [hrow, hlen, h.w] at hc
  have ee : e = k - c.length + 1 := by omega
  constructor
  ·have h3 : n * 10 ^ nd < 2 ^ k * 10 ^ nd := by
    have : T * 2 ^ k < 10 ^ nd * 2 ^ k := Nat.mul_lt_mul_of_pos_right hTlt h2
    rw [Nat.mul_comm (2 ^ k)]; omega
   have h4 : n < 2 ^ k := Nat.lt_of_mul_lt_mul_right h3
   have h5 : 2 ^ k ≤ 10 ^ e := by
    have hWge : 10 ^ c.length ≤ 5 ^ k * 10 := h.ge
    have h6 : 2 ^ k * 10 ^ c.length ≤ 2 ^ k * (5 ^ k * 10) := Nat.mul_le_mul_left _ hWge
    have e1 : 2 ^ k * (5 ^ k * 10) = 10 ^ e * 10 ^ c.length := by
     rw [← Nat.mul_assoc, ← hten, ee, ← Nat.pow_succ, ← Nat.pow_add]; congr 1; omega
    rw [e1] at h6
    exact Nat.le_of_mul_le_mul_right h6 hL
   omega
  ·intro _
   have h5 : 5 ^ k * 10 ^ nd * 2 ^ k ≤ T * 10 ^ c.length * 2 ^ k := Nat.mul_le_mul_right _ hc
   have e2 : 5 ^ k * 10 ^ nd * 2 ^ k = 10 ^ k * 10 ^ nd := by rw [hten, Nat.mul_right_comm, Nat.mul_comm (5 ^ k)]
   have e1 : T * 10 ^ c.length * 2 ^ k = T * 2 ^ k * 10 ^ c.length := Nat.mul_right_comm ..
   have h6 : T * 2 ^ k * 10 ^ c.length < (n + 1) * 10 ^ nd * 10 ^ c.length := Nat.mul_lt_mul_of_pos_right b2 hL
   have h7 : 10 ^ (k - c.length) * 10 ^ nd * 10 ^ c.length < (n + 1) * 10 ^ nd * 10 ^ c.length := by
    rw [Nat.mul_right_comm, ← hk]; omega
   have h8 := Nat.lt_of_mul_lt_mul_right (Nat.lt_of_mul_lt_mul_right h7)
   rw [ee, Nat.add_sub_cancel]
   omega
def sharpB : List Nat → Bool
 | [] => false
 | [x] => x != 0
 | _ :: a => sharpB a
theorem sharp_of : ∀ a, sharpB a = true → Sharp a
 | [], h => by simp [sharpB] at h
 | [x], h => by simpa [sharpB, Sharp] using h
 | _ :: y :: a, h => sharp_of (y :: a) h
def cheatB (k : Nat) (de : Nat) (c : List Nat) : Bool := W c == 5 ^ k && decide (c.length ≤ k) && de == k + 1 - c.length && decide (5 ^ k < 10 ^ c.length) && decide (10 ^ c.length ≤ 5 ^ k * 10) && sharpB c && c.all fun x => decide (x ≤ 9)
theorem cheat_of (k de : Nat) (c : List Nat) (h : cheatB k de c = true) : Cheat k de c := by
 simp only [cheatB, Bool.and_eq_true, beq_iff_eq, decide_eq_true_eq, List.all_eq_true] at h
 obtain ⟨⟨⟨⟨⟨⟨h1, h2⟩, h3⟩, h4⟩, h5⟩, h6⟩, h7⟩ := h
 exact ⟨h1, h2, h3, h4, h5, sharp_of c h6, h7⟩
def byteOk (u : UInt8) : Bool := decide (48 ≤ u.toNat) && decide (u.toNat ≤ 57)
theorem cheats_all : (List.range 61).all (fun k => k == 0 || match Go.Pinned.cheatRows[k]? with
  | some x => cheatB k x.1 (x.2.map fun u => u.toNat - 48) && x.2.all byteOk && decide (x.2.length ≤ 100)
  | none => false) = true := by decide +kernel
theorem cheats (k : Nat) (hk : k < 61) (h0 : 0 < k) : ∃ x, Go.Pinned.cheatRows[k]? = some x ∧ Cheat k x.1 (x.2.map fun u => u.toNat - 48) ∧ (∀ u ∈ x.2, 48 ≤ u.toNat ∧ u.toNat ≤ 57) ∧ x.2.length ≤ 100 := by
 have h := List.all_eq_true.mp cheats_all k (List.mem_range.mpr hk)
 simp only [Bool.or_eq_true, beq_iff_eq] at h
 rcases h with h | h
 ·omega
 ·revert h
  cases Go.Pinned.cheatRows[k]? with
  | none => intro h; simp at h
  | some x =>
   intro h
   simp only [Bool.and_eq_true, decide_eq_true_eq, List.all_eq_true, byteOk] at h
   exact ⟨x, rfl, cheat_of _ _ _ h.1.1, fun u hu => h.1.2 u hu, h.2⟩
end Go.Proofs.YtgiioglmkogpkaaGreatDoor.F
namespace Go.Proofs.YtgiioglmkogpkaaGreatDoor.F
open Go.RowKit Go.Proofs.YtgiioglmkogpkaaGreatDoorW.PrintWords Go.Proofs.YtgiioglmkogpkaaGreatDoorW.PrintLast Go.Proofs.YtgiioglmkogpkaaGreatDoorW.PrintMore
open M
def dig (d : Nat → Int) : Nat → Nat := fun i => (d i - 48).toNat
def rowI (d : Nat → Int) (a : Nat) : Nat → List Int
 | 0 => []
 | n + 1 => d a :: rowI d (a + 1) n
theorem rowI_length (d : Nat → Int) : ∀ n a, (rowI d a n).length = n
 | 0, _ => rfl
 | n + 1, a => by simp [rowI, rowI_length d n]
theorem rowI_get (d : Nat → Int) : ∀ n a i, (rowI d a n)[i]? = if i < n then some (d (a + i)) else none
 | 0, _, i => by simp [rowI]
 | n + 1, a, 0 => by simp [rowI]
 | n + 1, a, i + 1 => by
  simp only [rowI, List.getElem?_cons_succ, rowI_get d n (a + 1) i]
  rw [show a + 1 + i = a + (i + 1) by omega]
  by_cases h : i < n
  ·rw [if_pos h, if_pos (by omega)]
  ·rw [if_neg h, if_neg (by omega)]
theorem bt_list (l : List UInt8) (i : Nat) : bt ⟨l.toArray⟩ (i : Int) = ((l.getD i 0).toNat : Int) := by
 unfold bt
 have hs : (⟨l.toArray⟩ : ByteArray).size = l.length := by simp [ByteArray.size]
 split <;> rename_i h
 ·rw [hs] at h
  simp only [Int.toNat_natCast] at h ⊢
  have : (⟨l.toArray⟩ : ByteArray)[i]'(by rw [hs]; exact h) = l[i] := rfl
  rw [this, List.getD_eq_getElem?_getD, List.getElem?_eq_getElem h]; rfl
 ·rw [hs] at h
  simp only [Int.toNat_natCast] at h
  rw [List.getD_eq_getElem?_getD, List.getElem?_eq_none (by omega)]; rfl
theorem prefix_total (d : Nat → Int) (nd : Nat) (hnd : nd < 100000) (hd : ∀ i, i < nd → 48 ≤ d i ∧ d i ≤ 57) (l : List UInt8) (hl : ∀ u ∈ l, 48 ≤ u.toNat ∧ u.toNat ≤ 57) (hlen : l.length < 100000) :
  ∀ m i, i + m = l.length → i ≤ nd → strconv_prefixIsLessThan.l0 (m + 1) (rowI d 0 nd) ⟨l.toArray⟩ (i : Int) = some (cmp (row (dig d) i (nd - i)) ((l.drop i).map fun u => u.toNat - 48)) := by
 have hs : (⟨l.toArray⟩ : ByteArray).size = l.length := by simp [ByteArray.size]
 intro m
 induction m with
 | zero =>
  intro i hi hin
  have e : l.drop i = [] := List.drop_eq_nil_of_le (by omega)
  unfold strconv_prefixIsLessThan.l0
  rw [hs, if_neg (by omega), e]
  cases row (dig d) i (nd - i) <;> rfl
 | succ m ih =>
  intro i hi hin
  obtain ⟨u, hu⟩ : ∃ u, l[i]? = some u := ⟨l[i]'(by omega), List.getElem?_eq_getElem (by omega)⟩
  have hub := hl u (List.mem_of_getElem? hu)
  have e : l.drop i = u :: l.drop (i + 1) := by
   have hlt : i < l.length := by omega
   rw [List.drop_eq_getElem_cons hlt]
   congr 1
   rw [List.getElem?_eq_getElem hlt] at hu
   exact Option.some.inj hu
  have hb : bt ⟨l.toArray⟩ (i : Int) = u.toNat := by rw [bt_list, List.getD_eq_getElem?_getD, hu]; rfl
  unfold strconv_prefixIsLessThan.l0
  rw [hs, if_pos (by omega), rowI_length, hb, e, List.map_cons]
  by_cases e1 : i = nd
  ·subst e1
   rw [if_pos (by omega), Nat.sub_self]
   rfl
  ·rw [if_neg (by omega), if_pos (by omega), if_pos (by omega)]
   obtain ⟨k, hk⟩ : ∃ k, nd - i = k + 1 := ⟨nd - i - 1, by omega⟩
   have hrd : rd (rowI d 0 nd) (i : Int) = d i := by
    unfold rd
    rw [Int.toNat_natCast, List.getD_eq_getElem?_getD, rowI_get, if_pos (by omega)]
    simp
   have hdi := hd i (by omega)
   rw [hrd, hk]
   simp only [row, cmp]
   by_cases e2 : d i = (u.toNat : Int)
   ·rw [if_pos e2, if_pos (by unfold dig; omega)]
    have ew : wrap64 ((i : Int) + 1) = ((i + 1 : Nat) : Int) := by unfold wrap64; omega
    rw [ew, ih (i + 1) ((Nat.add_right_comm i 1 m).trans hi) (Nat.lt_of_le_of_ne hin e1), show nd - (i + 1) = k from by rw [Nat.sub_succ, hk]; rfl]
   ·rw [if_neg e2, if_neg (by unfold dig; omega)]
    congr 1
    unfold dig
    by_cases e3 : d i < (u.toNat : Int)
    ·rw [decide_eq_true e3, decide_eq_true (by omega)]
    ·rw [decide_eq_false e3, decide_eq_false (by omega)]
theorem prefix_calls (w : World) (g : Nat) (d : Nat → Int) (nd : Nat) (c : Nat) (hnc : nd ≤ c) (hnd : nd ≤ 800) (hc : ∀ i, i < nd → w.cell? ⟨g, i, none⟩ = some (.int .u8 (d i))) (hd : ∀ i, i < nd → 48 ≤ d i ∧ d i ≤ 57) (l : List UInt8) (hl : ∀ u ∈ l, 48 ≤ u.toNat ∧ u.toNat ≤ 57) (hlen : l.length < 100000) (a : Nat) :
  Calls Tryz.prog 233 #[.slice (some ⟨g, 0, none⟩) nd c, .string ⟨l.toArray⟩] (w.drewN a) fun e w' => e = .returned (.bool (cmp (row (dig d) 0 nd) (l.map fun u => u.toNat - 48))) ∧ ∃ n, w' = (w.drewN a).drewN n := by
 have h := prefix_total d nd (by omega) hd l hl hlen l.length 0 (by omega) (by omega)
 rw [Nat.sub_zero, List.drop_zero] at h
 have hC : Kd.C (Kd.int .u8) (w.drewN a) (some ⟨g, 0, none⟩) (rowI d 0 nd).length (rowI d 0 nd) := by
  refine ⟨rfl, by rw [rowI_length]; omega, fun _ => ⟨_, rfl, fun j p hj => ⟨[.int .u8 p], rfl, rfl, fun i u hu => ?_⟩⟩⟩
  rw [rowI_get] at hj
  split at hj
  ·cases hj
   cases i with
   | zero =>
    cases hu
    rw [add_plain, show j * (Kd.int .u8).sz + 0 = j from by show j * 1 + 0 = j; omega, Nat.zero_add]
    exact hc j (by assumption)
   | succ i => simp at hu
  ·cases hj
 have := strconv_prefixIsLessThan.calls (l.length + 1) (some ⟨g, 0, none⟩) c (rowI d 0 nd) ⟨l.toArray⟩ _ (w.drewN a) hC (by rw [rowI_length]; exact hnc) h
 rw [rowI_length] at this
 exact this.mono fun e w' h => ⟨h.1, by obtain ⟨n, hn⟩ := h.2; exact ⟨n, by first | exact hn | exact hn.symm⟩⟩
end Go.Proofs.YtgiioglmkogpkaaGreatDoor.F
namespace Go.Proofs.YtgiioglmkogpkaaGreatDoor.F
open Go.RowKit Go.Proofs.YtgiioglmkogpkaaGreatDoorW.PrintWords Go.Proofs.YtgiioglmkogpkaaGreatDoorW.PrintLast Go.Proofs.YtgiioglmkogpkaaGreatDoorW.PrintMore
open M
set_option maxHeartbeats 4000000
set_option maxRecDepth 4096
def Cheats (w : World) : Prop := ∃ (a : Addr) (c : Nat), w.cell? ⟨8, 0, none⟩ = some (.slice (some a) 61 c) ∧
 ∀ k x, Go.Pinned.cheatRows[k]? = some x → w.cell? (a.add (k * 2)) = some (.int .i64 x.1) ∧ w.cell? ⟨(a.add (k * 2)).block, (a.add (k * 2)).off + 1, none⟩ = some (.string ⟨x.2.toArray⟩)
theorem run_slice800 (g nd : Nat) (h : nd ≤ 800) (w : World) : (Instr.sliceAt 200 (.pointer (some ⟨g, 0, none⟩)) (some (.int .i64 0)) (some (.int .i64 (nd : Int))) none).run Tryz.prog w = .ok (.slice (some ⟨g, 0, none⟩) nd 800) w := by
 have ht : Tryz.prog.underlying 200 = some (.array (Tryz.prog.arrayLen 200) (Tryz.prog.elem 200)) := by kernel_rfl
 have hl : Tryz.prog.arrayLen 200 = 800 := by kernel_rfl
 have hs : (sizeOf (Tryz.prog.elem 200)).run Tryz.prog w = .ok 1 w := by kernel_rfl
 have := run_sliceAt_array_lh (P := Tryz.prog) w 200 ⟨g, 0, none⟩ ht .i64 .i64 0 nd (by omega) (by omega) (by rw [hl]; omega)
 rw [this, hs, hl]
 simp [Result.andThen, slicedAt, add_plain]
def DPost (w0 : World) (g : Nat) (d : Nat → Int) (dp : Int) (ng : Bool) (e : Ending) (w' : World) : Prop :=
 e = .returned (.tuple #[]) ∧ ∃ (d' : Nat → Int) (nd' : Nat) (dp' : Int) (tr' : Bool), Dec w0 w' g d' nd' dp' ng tr' ∧ (1 ≤ nd' ∧ nd' ≤ 800) ∧ (∀ i, i < nd' → 48 ≤ d' i ∧ d' i ≤ 57) ∧ d' 0 ≠ 48 ∧ (dp ≤ dp' ∧ dp' ≤ dp + 60) ∧ (dp' = dp → d 0 + 1 ≤ d' 0)
theorem u64_nat (n : Nat) (h : n < 18446744073709551616) : IntKind.u64.wrap (n : Int) = n := by
 simp only [IntKind.wrap, IntKind.bits, IntKind.signed]
 simp
 omega
theorem u64_eq {x : Int} (n : Nat) (e : x = n) (h : n < 18446744073709551616) : IntKind.u64.wrap x = n := by rw [e]; exact u64_nat n h
theorem leftShift_calls (w0 w : World) (g : Nat) (d : Nat → Int) (nd : Nat) (dp : Int) (ng tr : Bool) (k : Nat) (H : Dec w0 w g d nd dp ng tr) (hT : Cheats w0) (hk : 1 ≤ k ∧ k ≤ 60)
  (hn : 1 ≤ nd ∧ nd ≤ 800) (hd : ∀ i, i < nd → 48 ≤ d i ∧ d i ≤ 57) (h0 : d 0 ≠ 48) (hp : -1000000000 ≤ dp ∧ dp ≤ 1000000000) :
  Calls Tryz.prog 205 #[.pointer (some ⟨g, 0, none⟩), .int .u64 k] w (DPost w0 g d dp ng) := by
 obtain ⟨⟨de, l⟩, hx, hC, hxd, hxl⟩ := cheats k (by omega) (by omega)
 dsimp only at hC hxd hxl
 obtain ⟨a, cc, t8, tc⟩ := hT
 obtain ⟨t1, t2⟩ := tc k _ hx
 dsimp only at t1 t2
 have hdd : ∀ i, i < nd → dig d i ≤ 9 := fun i hi => by have := hd i hi; unfold dig; omega
 have hd0' : dig d 0 ≠ 0 := by have := hd 0 (by omega); unfold dig; omega
 have hend := carry_end k de _ hC (dig d) nd hdd (by omega) hd0' _ rfl _ rfl
 have hde1 : 1 ≤ de ∧ de ≤ 60 := by
  have h1 := hC.de
  have h2 := hC.le
  have h3 := hC.sh
  rw [List.length_map] at h1 h2
  cases l with
  | nil => exact h3.elim
  | cons u l => rw [List.length_cons] at h1 h2; omega
 have hcl := carry_lt k (dig d) nd hdd
 generalize hb : cmp (row (dig d) 0 nd) (l.map fun u => u.toNat - 48) = b at hend
 obtain ⟨e, he⟩ : ∃ e, e = if b = true then de - 1 else de := ⟨_, rfl⟩
 rw [← he] at hend
 have he60 : e ≤ 60 := by rw [he]; split <;> omega
 have hsl := run_slice800 g nd hn.2
 have t8' := pw_cell_below H.be t8
 have t1' := pw_cell_below H.be t1
 have t2' := pw_cell_below H.be t2
 clear t8 tc t1 t2 hx
 have c0 := H.cnd
 have f0 := H.fr
 have cd := H.dig
 have HD := Aside0.mk H
 clear H
 have hk2 : (k : Int) < 61 := by omega
 have HE := Aside0.mk hend
 have HC := Aside0.mk hcl
 have HDD := Aside0.mk hdd
 clear hend hcl hdd
 cases b
 case' true =>
  obtain ⟨e', rfl⟩ : ∃ e', de = e' + 1 := ⟨de - 1, by omega⟩
  have hee : e = e' := by rw [he]; simp
  subst hee
 case' false =>
  have hee : e = de := by rw [he]; simp
  subst hee
 all_goals clear he hC
 all_goals
  go_enter Tryz.func205, Tryz.ntmps205
  go_wp2_with fail
  go_quiet ((go_at_call 233; refine Calls.quiet_of (prefix_calls w g d nd 800 (by omega) (by omega) (fun i hi => cd i (by omega)) hd l hxd (by omega) _)))
  rw [hb]
  go_wp2_with fail
  clear t8' t1' t2' hb hxd hxl
  go_loopg [5, 6, 7] nd (fun kq v5 v6 v7 w' => ∃ (d' : Nat → Int) (tr' : Bool), kq ≤ nd ∧ v5 = .int .i64 ((kq : Int) - 1) ∧ v6 = .int .i64 ((kq : Int) + e) ∧ v7 = .int .u64 (carry k (dig d) nd (nd - kq) : Nat) ∧ Aside0 (Dec w0 w' g d' nd dp ng tr') ∧
   Aside0 (∀ i, i < kq + e → d' i = d i) ∧ Aside0 (∀ i, kq + e ≤ i → i < nd + e → i < 800 → 48 ≤ d' i ∧ d' i ≤ 57) ∧ Aside0 (kq = 0 → e = 0 → d 0 + 1 ≤ d' 0))
  case atStart => exact ⟨d, tr, by omega, rfl, rfl, by rw [Nat.sub_self]; rfl, ⟨HD.out.drewN _⟩, ⟨fun _ _ => rfl⟩, ⟨by omega⟩, ⟨by omega⟩⟩
  case round =>
   clear c0 f0 cd
   obtain ⟨d', tr', hkn, rfl, rfl, rfl, HD2, HI1, HI2, HI3⟩ := hrel
   have c0 := HD2.out.cnd
   have c1 := HD2.out.cdp
   have f0 := HD2.out.fr
   cases gk with
   | zero =>
    rw [Nat.sub_zero]
    have hend := HE.out
    have hlt := HC.out nd (Nat.le_refl _)
    have h2k : 2 ^ k ≤ 2 ^ 60 := Nat.pow_le_pow_right (by omega) hk.2
    generalize carry k (dig d) nd nd = N at hend hlt ⊢
    have hN64 : N < 1152921504606846976 := by omega
    clear hlt h2k
    go_wp2_with fail
    go_loopg [6, 7] e (fun kq v6 v7 w' => ∃ (d' : Nat → Int) (tr' : Bool) (n : Nat), kq ≤ e ∧ v6 = .int .i64 (kq : Int) ∧ v7 = .int .u64 (n : Int) ∧ Aside0 (Dec w0 w' g d' nd dp ng tr') ∧ n < 1152921504606846976 ∧ Aside0 (n < 10 ^ kq) ∧ Aside0 (0 < kq → 10 ^ (kq - 1) ≤ n) ∧
     Aside0 (∀ i, kq ≤ i → i < nd + e → i < 800 → 48 ≤ d' i ∧ d' i ≤ 57) ∧ Aside0 (kq = 0 → 0 < e → d' 0 ≠ 48) ∧ Aside0 (e = 0 → d 0 + 1 ≤ d' 0))
    case atStart => exact ⟨d', tr', N, by omega, by simp, rfl, HD2, hN64, ⟨hend.1⟩, ⟨hend.2⟩, ⟨fun i h1 h2 h3 => HI2.out i (by omega) h2 h3⟩, ⟨by omega⟩, ⟨fun h => HI3.out (by simp) h⟩⟩
    case round =>
     clear c0 c1 f0 HI1 HI2 HI3 HD2 hend hN64
     obtain ⟨d', tr', n, hke, rfl, rfl, HD2, hn64, HB1, HB2, HI2, HI3, HI4⟩ := hrel
     have c0 := HD2.out.cnd
     have c1 := HD2.out.cdp
     have c3 := HD2.out.ctr
     have f0 := HD2.out.fr
     cases gk with
     | zero =>
      have hn0 : n = 0 := by have := HB1.out; simp at this; exact this
      subst hn0
      have hne : e = 0 → d 0 + 1 ≤ d' 0 := HI4.out
      have hd'0 : d' 0 ≠ 48 := by
       by_cases e0 : e = 0
       ·have := hne e0; have := hd 0 (by omega); omega
       ·exact HI3.out rfl (by omega)
      by_cases h800 : 800 ≤ nd + e
      ·have h800' : (800 : Int) ≤ (nd : Int) + e := by omega
       go_wp2_with fail
       refine (trim_calls w0 _ g d' 800 (dp + e) ng tr' (by exact ((HD2.out.set_nd _).set_nd _).set_dp _) (by omega) (fun _ => hd'0)).mono ?_
       rintro _ w' ⟨rfl, nd', dp', HD3, hA, hB⟩
       obtain ⟨hA1, hA2, hA3⟩ := hA (by omega)
       go_wp2_with fail
       go_end0
       exact ⟨rfl, d', nd', dp', tr', HD3, by omega, fun i hi => HI2.out i (by omega) (by omega) (by omega), hd'0, by omega, fun h => hne (by omega)⟩
      ·have h800' : ¬ (800 : Int) ≤ (nd : Int) + e := by omega
       go_wp2_with fail
       refine (trim_calls w0 _ g d' (nd + e) (dp + e) ng tr' (by rw [show ((nd + e : Nat) : Int) = (nd : Int) + e from by omega]; exact (HD2.out.set_nd _).set_dp _) (by omega) (fun _ => hd'0)).mono ?_
       rintro _ w' ⟨rfl, nd', dp', HD3, hA, hB⟩
       obtain ⟨hA1, hA2, hA3⟩ := hA (by omega)
       go_wp2_with fail
       go_end0
       exact ⟨rfl, d', nd', dp', tr', HD3, by omega, fun i hi => HI2.out i (by omega) (by omega) (by omega), hd'0, by omega, fun h => hne (by omega)⟩
     | succ q =>
      have hq8 : q < 800 := by omega
      have hq8' : (q : Int) < 800 := by omega
      have cd := HD2.out.dig q hq8
      have hn1 : 10 ^ q ≤ n := by have := HB2.out (by omega); simpa using this
      have hn2 : n < 10 ^ q * 10 := by have := HB1.out; rwa [Nat.pow_succ] at this
      have hn0 : 0 < n := Nat.lt_of_lt_of_le (Nat.pow_pos (by omega)) hn1
      have hn0' : (0 : Int) < n := by omega
      obtain ⟨Q, hQ⟩ : ∃ Q, Q = n / 10 := ⟨_, rfl⟩
      obtain ⟨Q10, hQ10⟩ : ∃ Q10, Q10 = 10 * Q := ⟨_, rfl⟩
      obtain ⟨R, hR⟩ : ∃ R, R = n % 10 := ⟨_, rfl⟩
      have w3 : IntKind.u64.wrap ((n : Int).tdiv 10) = Q := u64_eq Q (by rw [hQ, Int.tdiv_eq_ediv_of_nonneg (by omega)]; omega) (by omega)
      have w3' : IntKind.u64.wrap ((n : Int) / 10) = Q := u64_eq Q (by omega) (by omega)
      have w4 : IntKind.u64.wrap (10 * (Q : Int)) = Q10 := u64_eq Q10 (by omega) (by omega)
      have w5 : IntKind.u64.wrap ((n : Int) - (Q10 : Int)) = R := u64_eq R (by omega) (by omega)
      have w6 : IntKind.u64.wrap ((R : Int) + 48) = ((R + 48 : Nat) : Int) := u64_eq _ (by omega) (by omega)
      have w7 : IntKind.u8.wrap ((R : Int) + 48) = (R : Int) + 48 := by
       simp only [IntKind.wrap, IntKind.bits, IntKind.signed]
       simp
       omega
      go_wp2_with fail
      go_roundg q
      case measure => omega
      case rel =>
       refine ⟨setD d' q _, tr', n / 10, by omega, congrArg (Value.int .i64) (by omega), congrArg (Value.int .u64) (by omega), ⟨HD2.out.set_d q hq8 _⟩, by omega, ⟨by omega⟩, ⟨fun h => ?_⟩, ⟨fun i h1 h2 h3 => ?_⟩, ⟨fun h _ => ?_⟩, ⟨by omega⟩⟩
       ·have e1 : 10 ^ q = 10 ^ (q - 1) * 10 := by rw [← Nat.pow_succ]; congr 1; omega
        omega
       ·unfold setD
        by_cases e1 : i = q
        ·rw [if_pos e1]; omega
        ·rw [if_neg e1]; exact HI2.out i (by omega) h2 h3
       ·subst h
        simp only [Nat.pow_zero] at hn1 hn2
        unfold setD
        rw [if_pos rfl]
        omega
   | succ q =>
    have cd := HD2.out.dig q (by omega)
    have c3 := HD2.out.ctr
    rw [HI1.out q (by omega)] at cd
    have hdq := hd q (by omega)
    have hq8 : q < 800 := by omega
    have hq8' : (q : Int) < 800 := by omega
    have hcl := HC.out (nd - (q + 1)) (by omega)
    have hnx : carry k (dig d) nd (nd - q) = (carry k (dig d) nd (nd - (q + 1)) + dig d q * 2 ^ k) / 10 := by
     rw [show nd - q = nd - (q + 1) + 1 by omega]
     simp only [carry]
     rw [show nd - 1 - (nd - (q + 1)) = q by omega]
    have h2k : 2 ^ k ≤ 2 ^ 60 := Nat.pow_le_pow_right (by omega) hk.2
    have h2k2 : 2 ≤ 2 ^ k := by
     have := Nat.pow_le_pow_right (show 0 < 2 by omega) hk.1
     simpa using this
    have hdc : dig d q ≤ 9 := HDD.out q (by omega)
    obtain ⟨Y, hY⟩ : ∃ Y, Y = dig d q * 2 ^ k := ⟨_, rfl⟩
    have hYb : Y ≤ 9 * 2 ^ k := by rw [hY]; exact Nat.mul_le_mul_right _ hdc
    have w1 : IntKind.u64.wrap ((d q - 48) * 2 ^ k) = Y := u64_eq Y (by rw [hY]; unfold dig; push_cast; rw [Int.toNat_of_nonneg (by omega)]) (by omega)
    have hY2 : 2 * dig d q ≤ Y := by rw [hY, Nat.mul_comm 2]; exact Nat.mul_le_mul_left _ h2k2
    rw [← hY] at hnx
    have HNX := Aside0.mk hnx
    generalize carry k (dig d) nd (nd - (q + 1)) = N at hcl hnx ⊢
    obtain ⟨X, hX⟩ : ∃ X, X = N + Y := ⟨_, rfl⟩
    rw [← hX] at hnx
    obtain ⟨Q, hQ⟩ : ∃ Q, Q = X / 10 := ⟨_, rfl⟩
    obtain ⟨Q10, hQ10⟩ : ∃ Q10, Q10 = 10 * Q := ⟨_, rfl⟩
    obtain ⟨R, hR⟩ : ∃ R, R = X % 10 := ⟨_, rfl⟩
    have hX64 : X < 18446744073709551616 := by omega
    have w2 : IntKind.u64.wrap ((N : Int) + (Y : Int)) = X := u64_eq X (by omega) (by omega)
    have w3' : IntKind.u64.wrap ((X : Int) / 10) = Q := u64_eq Q (by omega) (by omega)
    have w3 : IntKind.u64.wrap ((X : Int).tdiv 10) = Q := u64_eq Q (by rw [hQ, Int.tdiv_eq_ediv_of_nonneg (by omega)]; omega) (by omega)
    have w4 : IntKind.u64.wrap (10 * (Q : Int)) = Q10 := u64_eq Q10 (by omega) (by omega)
    have w5 : IntKind.u64.wrap ((X : Int) - (Q10 : Int)) = R := u64_eq R (by omega) (by omega)
    have w6 : IntKind.u64.wrap ((R : Int) + 48) = ((R + 48 : Nat) : Int) := u64_eq _ (by omega) (by omega)
    have w7 : IntKind.u8.wrap ((R : Int) + 48) = (R : Int) + 48 := by
     simp only [IntKind.wrap, IntKind.bits, IntKind.signed]
     simp
     omega
    clear h2k h2k2 hdc
    have AY := Aside0.mk (And.intro hY (And.intro hX (And.intro hQ (And.intro hQ10 (And.intro hR (And.intro hY2 (And.intro hnx (And.intro hX64 hYb))))))))
    clear hY hX hQ hQ10 hR hY2 hnx hX64 hYb
    by_cases h8 : q + e < 800
    ·have c8 : (q : Int) + 1 + e - 1 < 800 := by omega
     have ce := HD2.out.dig (q + e) h8
     go_wp2_with fail
     go_roundg q
     case measure => omega
     case rel =>
      obtain ⟨hY, hX, hQ, hQ10, hR, hY2, hnx, hX64, hYb⟩ := AY.out
      clear hY
      refine ⟨setD d' (q + e) _, tr', by omega, congrArg (Value.int .i64) (by omega), congrArg (Value.int .i64) (by omega), ?_, ⟨HD2.out.set_d (q + e) h8 _⟩, ⟨fun i h1 => ?_⟩, ⟨fun i h1 h2 h3 => ?_⟩, ⟨fun h1 h2 => ?_⟩⟩
      ·rw [HNX.out]; exact congrArg (Value.int .u64) (by have := HNX.out; omega)
      ·unfold setD
       rw [if_neg (by omega)]
       exact HI1.out i (by omega)
      ·unfold setD
       by_cases e1 : i = q + e
       ·rw [if_pos e1]; omega
       ·rw [if_neg e1]; exact HI2.out i (by omega) h2 h3
      ·subst h1
       subst h2
       have hz := HE.out.1
       rw [Nat.sub_zero] at hnx
       have hq0 : Q = 0 := by rw [hQ, ← hnx]; simpa using hz
       have h00 : d 0 = (dig d 0 : Int) + 48 := by unfold dig; rw [Int.toNat_of_nonneg (by omega)]; omega
       unfold setD
       rw [if_pos rfl]
       omega
    ·have c8 : (800 : Int) ≤ (q : Int) + 1 + e - 1 := by omega
     go_wp2_with fail
     all_goals
      go_roundg q
      case measure => omega
      case rel =>
       obtain ⟨hY, hX, hQ, hQ10, hR, hY2, hnx, hX64, hYb⟩ := AY.out
       clear hY
       refine ⟨d', _, by omega, congrArg (Value.int .i64) (by omega), congrArg (Value.int .i64) (by omega), ?_, ⟨by first | exact HD2.out | exact HD2.out.set_tr _⟩, ⟨fun i h1 => HI1.out i (by omega)⟩, ⟨fun i h1 h2 h3 => HI2.out i (by omega) h2 h3⟩, ⟨by omega⟩⟩
       rw [HNX.out]; exact congrArg (Value.int .u64) (by have := HNX.out; omega)
end Go.Proofs.YtgiioglmkogpkaaGreatDoor.F
namespace Go.Proofs.YtgiioglmkogpkaaGreatDoor.F
open Go.RowKit Go.Proofs.YtgiioglmkogpkaaGreatDoorW.PrintWords Go.Proofs.YtgiioglmkogpkaaGreatDoorW.PrintLast Go.Proofs.YtgiioglmkogpkaaGreatDoorW.PrintMore
open M
set_option maxHeartbeats 4000000
set_option maxRecDepth 4096
def RPost (w0 : World) (g : Nat) (d : Nat → Int) (dp : Int) (ng : Bool) (e : Ending) (w' : World) : Prop :=
 e = .returned (.tuple #[]) ∧ ∃ (d' : Nat → Int) (nd' : Nat) (dp' : Int) (tr' : Bool), Dec w0 w' g d' nd' dp' ng tr' ∧ (1 ≤ nd' ∧ nd' ≤ 800) ∧ (∀ i, i < nd' → 48 ≤ d' i ∧ d' i ≤ 57) ∧ d' 0 ≠ 48 ∧ (dp - 61 ≤ dp' ∧ dp' ≤ dp) ∧ (dp' = dp → d' 0 + 1 ≤ d 0)
def tlr : Code → Code
 | .seq _ c => c
 | c => c
noncomputable def rsTail : Code := match Tryz.f206.body with
 | some c => tlr (tlr (tlr (tlr c)))
 | none => .skip
theorem and_mask (n k : Nat) (hn : n < 18446744073709551616) (hk : k ≤ 64) : bits .and .u64 (n : Int) (2 ^ k - 1) = ((n % 2 ^ k : Nat) : Int) := by
 have := bits_mask .u64 64 (by decide) (fun m h0 h1 => by
  have h1' : m < 18446744073709551616 := h1
  simp only [IntKind.wrap, IntKind.bits, IntKind.signed]
  simp
  omega) k hk (n : Int) (by omega) (by show (n : Int) < 18446744073709551616; omega)
 rw [this]; push_cast; rfl
theorem dvd_step (k q nn : Nat) (hq : q ≤ k) (h : 2 ^ (k - q) ∣ nn) : (q = 0 → nn % 2 ^ k * 10 = 0) ∧ 2 ^ (k + 1 - q) ∣ nn % 2 ^ k * 10 := by
 constructor
 ·rintro rfl
  rw [Nat.sub_zero] at h
  rw [Nat.mod_eq_zero_of_dvd h, Nat.zero_mul]
 ·have h1 : 2 ^ (k - q) ∣ nn % 2 ^ k := (Nat.dvd_mod_iff (Nat.pow_dvd_pow 2 (Nat.sub_le k q))).mpr h
  rw [show k + 1 - q = (k - q) + 1 by omega, Nat.pow_succ, show (10 : Nat) = 2 * 5 from rfl, ← Nat.mul_assoc]
  exact Nat.dvd_trans (Nat.mul_dvd_mul h1 (Nat.dvd_refl 2)) (Nat.dvd_mul_right _ 5)
theorem rightShift_tail (w0 w : World) (g : Nat) (d : Nat → Int) (nd : Nat) (dp : Int) (ng tr : Bool) (k r n : Nat) (u2 u3 u7 u8 u9 u10 u11 u12 u13 u14 u15 u16 u17 u18 u19 u20 u21 u22 u23 u24 u25 u26 u27 u28 u29 u30 u31 u32 u33 u34 u35 u36 u37 u38 u39 u40 u41 u42 u43 u44 u45 u46 u47 u48 : Value) (H : Dec w0 w g d nd dp ng tr) (hk : 1 ≤ k ∧ k ≤ 60)
  (hn : nd ≤ 800) (hd : ∀ i, i < nd → 48 ≤ d i ∧ d i ≤ 57) (hp : -1000000000 ≤ dp ∧ dp ≤ 1000000000) (hr : 1 ≤ r ∧ r ≤ 61) (h1 : 2 ^ k ≤ n) (h2 : n < 10 * 2 ^ k) (h3 : r = 1 → (n : Int) = d 0 - 48) :
  rsTail.wp Tryz.prog (bodyPost Tryz.prog Tryz.f206 (RPost w0 g d dp ng)) ⟨List.toArray [.pointer (some ⟨g, 0, none⟩), .int .u64 (k : Int), u2, u3, .int .i64 (r : Int), .int .i64 0, .int .u64 (n : Int), u7, u8, u9, u10, u11, u12, u13, u14, u15, u16, u17, u18, u19, u20, u21, u22, u23, u24, u25, u26, u27, u28, u29, u30, u31, u32, u33, u34, u35, u36, u37, u38, u39, u40, u41, u42, u43, u44, u45, u46, u47, u48, undef, undef, undef, undef, undef, undef, undef, undef, undef, undef, undef, undef, undef, undef, undef, undef, undef, undef, undef, undef, undef, undef, undef, undef, undef, undef, undef, undef, undef, undef, undef, undef, undef, undef, undef, undef, undef, undef, undef, undef, undef, undef, undef, undef, undef, undef, undef, undef, undef, undef, undef, undef, undef, undef, undef, undef, undef, undef, undef, undef, undef, undef, undef, undef, undef, undef, undef, undef, undef, undef, undef, undef, undef, undef, undef, undef, undef, undef, undef, undef, undef], []⟩ w := by
 have h2k : 2 ^ k ≤ 2 ^ 60 := Nat.pow_le_pow_right (by omega) hk.2
 have h2k2 : 2 ≤ 2 ^ k := by
  have := Nat.pow_le_pow_right (show 0 < 2 by omega) hk.1
  simpa using this
 have hk2 : (k : Int) < 64 := by omega
 have c0 := H.cnd
 have c1 := H.cdp
 have f0 := H.fr
 have HD := Aside0.mk H
 clear H
 have hm1 : IntKind.u64.wrap ((2 : Int) ^ k) = 2 ^ k := by
  have := u64_nat (2 ^ k) (by omega)
  simpa using this
 have hm2 : IntKind.u64.wrap ((2 : Int) ^ k - 1) = 2 ^ k - 1 := by
  have e1 : ((2 : Int) ^ k - 1) = ((2 ^ k - 1 : Nat) : Int) := by
   have : ((2 ^ k : Nat) : Int) = 2 ^ k := by push_cast; rfl
   omega
  rw [e1]; exact u64_nat _ (by omega)
 have hma := fun (m : Nat) (hm : m < 18446744073709551616) => and_mask m k hm (by omega)
 generalize hQ : bodyPost Tryz.prog Tryz.f206 (RPost w0 g d dp ng) = Q
 simp only [rsTail, Tryz.f206, tlr]
 subst hQ
 go_wp2_with fail
 have HD1 := Aside0.mk (HD.out.set_dp (dp - ((r : Int) - 1)))
 clear HD c0 c1 f0
 go_loopg [4, 5, 6] (nd - r) (fun kq v4 v5 v6 w' => ∃ (ww nn : Nat) (d' : Nat → Int), v4 = .int .i64 ((r : Int) + ww) ∧ v5 = .int .i64 (ww : Int) ∧ v6 = .int .u64 (nn : Int) ∧ (nd - (r + ww) = kq ∧ (ww = 0 ∨ r + ww ≤ nd)) ∧ Aside0 (nn < 10 * 2 ^ k) ∧ Aside0 (Dec w0 w' g d' nd (dp - ((r : Int) - 1)) ng tr) ∧
  Aside0 (∀ i, i < ww → 48 ≤ d' i ∧ d' i ≤ 57) ∧ Aside0 (∀ i, ww ≤ i → d' i = d i) ∧ Aside0 (ww = 0 → nn = n) ∧ Aside0 (0 < ww → d' 0 = 48 + ((n / 2 ^ k : Nat) : Int)))
 case atStart => exact ⟨0, n, d, by simp, rfl, rfl, by omega, ⟨h2⟩, HD1, ⟨by omega⟩, ⟨fun _ _ => rfl⟩, ⟨fun _ => rfl⟩, ⟨by omega⟩⟩
 case round =>
  clear HD1
  obtain ⟨ww, nn, d', rfl, rfl, rfl, hg, HN, HD2, HI1, HI2, HI3, HI4⟩ := hrel
  have c0 := HD2.out.cnd
  have f0 := HD2.out.fr
  cases gk with
  | zero =>
   have hge : ¬ ((r : Int) + ww < nd) := by omega
   have hw8 : ww ≤ 800 := by omega
   have HI1' : Aside0 (∀ i, i < ww → 48 ≤ d' i ∧ d' i ≤ 57) := HI1
   go_wp2_with fail
   go_loopg [5, 6] (k + 1) (fun kq v5 v6 w' => ∃ (ww nn : Nat) (d' : Nat → Int) (tr' : Bool), v5 = .int .i64 (ww : Int) ∧ v6 = .int .u64 (nn : Int) ∧ ww ≤ 800 ∧ kq ≤ k + 1 ∧ Aside0 (nn < 10 * 2 ^ k) ∧ Aside0 (Dec w0 w' g d' nd (dp - ((r : Int) - 1)) ng tr') ∧
    Aside0 (∀ i, i < ww → 48 ≤ d' i ∧ d' i ≤ 57) ∧ Aside0 (ww = 0 → nn = n) ∧ Aside0 (0 < ww → d' 0 = 48 + ((n / 2 ^ k : Nat) : Int)) ∧ Aside0 (kq = 0 → nn = 0) ∧ Aside0 (2 ^ (k + 1 - kq) ∣ nn))
   case atStart => exact ⟨ww, nn, d', tr, rfl, rfl, hw8, by omega, HN, HD2, HI1, HI3, HI4, ⟨by omega⟩, ⟨by rw [Nat.sub_self]; simp⟩⟩
   case round =>
    clear c0 f0 HN HD2 HI1' HI1 HI2 HI3 HI4 hw8 hge hg
    obtain ⟨ww, nn, d', tr', rfl, rfl, hw8, hkq, HN, HD2, HI1, HI3, HI4, HZ, HV⟩ := hrel
    have c0 := HD2.out.cnd
    have c1 := HD2.out.cdp
    have c3 := HD2.out.ctr
    have f0 := HD2.out.fr
    by_cases hz : nn = 0
    ·subst hz
     have hww : 0 < ww := Nat.pos_of_ne_zero fun e => by have := HI3.out e; omega
     have hd0 := HI4.out hww
     have hq1 : 1 ≤ n / 2 ^ k := (Nat.le_div_iff_mul_le (by omega)).mpr (by omega)
     have hd'0 : d' 0 ≠ 48 := by omega
     clear hd0 hq1
     go_wp2_with fail
     refine (trim_calls w0 _ g d' ww (dp - ((r : Int) - 1)) ng tr' (HD2.out.set_nd _) hw8 (fun _ => hd'0)).mono ?_
     rintro _ w' ⟨rfl, nd', dp', HD3, hA, hB⟩
     obtain ⟨hA1, hA2, hA3⟩ := hA hww
     go_wp2_with fail
     go_end0
     refine ⟨rfl, d', nd', dp', tr', HD3, by omega, fun i hi => HI1.out i (by omega), hd'0, by omega, fun h => ?_⟩
     have hr1 : r = 1 := by omega
     have h3' := h3 hr1
     have hd0 := HI4.out hww
     have hlt : n / 2 ^ k < n := Nat.div_lt_self (by omega) (by omega)
     omega
    ·cases gk with
     | zero => exact absurd (HZ.out rfl) hz
     | succ q =>
      have hn := HN.out
      have hnz : (0 : Int) < nn := by omega
      obtain ⟨M, hM⟩ : ∃ M, M = nn % 2 ^ k := ⟨_, rfl⟩
      obtain ⟨D, hD⟩ : ∃ D, D = nn / 2 ^ k := ⟨_, rfl⟩
      have hM1 : M < 2 ^ k := by rw [hM]; exact Nat.mod_lt _ (by omega)
      have hD1 : D ≤ 9 := by
       have : D < 10 := by rw [hD]; exact (Nat.div_lt_iff_lt_mul (by omega)).mpr hn
       omega
      have e1 : bits .and .u64 (nn : Int) (2 ^ k - 1) = (M : Int) := by rw [hM]; exact hma nn (by omega)
      have e2 : (nn : Int) / 2 ^ k = (D : Int) := by rw [hD]; push_cast; rfl
      have AA := Aside0.mk (And.intro hM hD)
      clear hM hD
      clear hma
      by_cases h8 : ww < 800
      ·have h8' : (ww : Int) < 800 := by omega
       have cw := HD2.out.dig ww h8
       go_wp2_with fail
       go_roundg q
       case measure => omega
       case rel =>
        obtain ⟨hM, hD⟩ := AA.out
        obtain ⟨hv1, hv2⟩ := dvd_step k q nn (by omega) (by have := HV.out; rwa [Nat.add_sub_add_right] at this)
        rw [← hM] at hv1 hv2
        refine ⟨ww + 1, M * 10, setD d' ww _, tr', rfl, rfl, by omega, by omega, ⟨by omega⟩, ⟨HD2.out.set_d ww h8 _⟩, ⟨fun i hi => ?_⟩, ⟨by omega⟩, ⟨fun _ => ?_⟩, ⟨hv1⟩, ⟨hv2⟩⟩
        ·unfold setD
         by_cases e3 : i = ww
         ·rw [if_pos e3]; omega
         ·rw [if_neg e3]; exact HI1.out i (by omega)
        ·unfold setD
         by_cases e3 : 0 = ww
         ·rw [if_pos e3]
          have hnn := HI3.out e3.symm
          rw [← hnn, ← hD]
          omega
         ·rw [if_neg e3]; exact HI4.out (by omega)
      ·have h8' : ¬ (ww : Int) < 800 := by omega
       go_wp2_with fail
       all_goals
        go_roundg q
        case measure => omega
        case rel =>
         obtain ⟨hM, hD⟩ := AA.out
         obtain ⟨hv1, hv2⟩ := dvd_step k q nn (by omega) (by have := HV.out; rwa [Nat.add_sub_add_right] at this)
         rw [← hM] at hv1 hv2
         exact ⟨ww, M * 10, d', _, rfl, rfl, by omega, by omega, ⟨by omega⟩, ⟨by first | exact HD2.out | exact HD2.out.set_tr _⟩, HI1, ⟨by omega⟩, HI4, ⟨hv1⟩, ⟨hv2⟩⟩
  | succ q =>
   have cd := HD2.out.dig (r + ww) (by omega)
   rw [HI2.out (r + ww) (by omega)] at cd
   have hdr := hd (r + ww) (by omega)
   have cw := HD2.out.dig ww (by omega)
   have hlt : (r : Int) + ww < nd := by omega
   have hlt8 : (r : Int) + ww < 800 := by omega
   have hlt8' : r + ww < 800 := by omega
   have hw8 : ww < 800 := by omega
   have hw8' : (ww : Int) < 800 := by omega
   have hn := HN.out
   obtain ⟨M, hM⟩ : ∃ M, M = nn % 2 ^ k := ⟨_, rfl⟩
   obtain ⟨D, hD⟩ : ∃ D, D = nn / 2 ^ k := ⟨_, rfl⟩
   have hM1 : M < 2 ^ k := by rw [hM]; exact Nat.mod_lt _ (by omega)
   have hD1 : D ≤ 9 := by
    have : D < 10 := by rw [hD]; exact (Nat.div_lt_iff_lt_mul (by omega)).mpr hn
    omega
   have e1 : bits .and .u64 (nn : Int) (2 ^ k - 1) = (M : Int) := by rw [hM]; exact hma nn (by omega)
   have e2 : (nn : Int) / 2 ^ k = (D : Int) := by rw [hD]; push_cast; rfl
   have AA := Aside0.mk (And.intro hM hD)
   clear hM hD
   clear hma
   go_wp2_with fail
   go_roundg q
   case measure => omega
   case rel =>
    obtain ⟨hM, hD⟩ := AA.out
    obtain ⟨c, hc⟩ : ∃ c : Nat, d (r + ww) = (c : Int) + 48 := ⟨(d (r + ww) - 48).toNat, by omega⟩
    refine ⟨ww + 1, M * 10 + c, setD d' ww _, congrArg (Value.int .i64) (by omega), rfl, congrArg (Value.int .u64) (by omega), by omega, ⟨by omega⟩, ⟨HD2.out.set_d ww hw8 _⟩, ⟨fun i hi => ?_⟩, ⟨fun i hi => ?_⟩, ⟨by omega⟩, ⟨fun _ => ?_⟩⟩
    ·unfold setD
     by_cases e3 : i = ww
     ·rw [if_pos e3]; omega
     ·rw [if_neg e3]; exact HI1.out i (by omega)
    ·unfold setD
     rw [if_neg (by omega)]; exact HI2.out i (by omega)
    ·unfold setD
     by_cases e3 : 0 = ww
     ·rw [if_pos e3]
      have hnn := HI3.out e3.symm
      rw [← hnn, ← hD]
      omega
     ·rw [if_neg e3]; exact HI4.out (by omega)
end Go.Proofs.YtgiioglmkogpkaaGreatDoor.F
namespace Go.Proofs.YtgiioglmkogpkaaGreatDoor.F
open Go.RowKit Go.Proofs.YtgiioglmkogpkaaGreatDoorW.PrintWords Go.Proofs.YtgiioglmkogpkaaGreatDoorW.PrintLast Go.Proofs.YtgiioglmkogpkaaGreatDoorW.PrintMore
open M
set_option maxHeartbeats 4000000
set_option maxRecDepth 4096
theorem rightShift_calls (w0 w : World) (g : Nat) (d : Nat → Int) (nd : Nat) (dp : Int) (ng tr : Bool) (k : Nat) (H : Dec w0 w g d nd dp ng tr) (hk : 1 ≤ k ∧ k ≤ 60)
  (hn : 1 ≤ nd ∧ nd ≤ 800) (hd : ∀ i, i < nd → 48 ≤ d i ∧ d i ≤ 57) (h0 : d 0 ≠ 48) (hp : -1000000000 ≤ dp ∧ dp ≤ 1000000000) :
  Calls Tryz.prog 206 #[.pointer (some ⟨g, 0, none⟩), .int .u64 k] w (RPost w0 g d dp ng) := by
 have h2k : 2 ^ k ≤ 2 ^ 60 := Nat.pow_le_pow_right (by omega) hk.2
 have hk2 : (k : Int) < 64 := by omega
 have c0 := H.cnd
 have cd := H.dig
 have hP : ((2 : Int) ^ k) = ((2 ^ k : Nat) : Int) := by push_cast; rfl
 have hP0 : 0 < 2 ^ k := Nat.pow_pos (by omega)
 have HP := Aside0.mk hP
 clear hP
 go_enter Tryz.func206, Tryz.ntmps206
 go_wp2_with fail
 rename_i K aK
 have AK := Aside0.mk aK
 clear aK
 go_loopg [4, 6] 100 (fun kq v4 v6 w' => ∃ r n : Nat, v4 = .int .i64 (r : Int) ∧ v6 = .int .u64 (n : Int) ∧ w = w' ∧ kq + r = 100 ∧ r ≤ 61 ∧ n < 10 * 2 ^ k ∧ (r = 0 → n = 0) ∧ Aside0 (1 ≤ r → 2 ^ (r - 1) ≤ n) ∧ (r = 1 → (n : Int) = d 0 - 48))
 case atStart => exact ⟨0, 0, rfl, rfl, rfl, by omega, by omega, by omega, by omega, ⟨by omega⟩, by omega⟩
 case round =>
  obtain ⟨r, n, rfl, rfl, rfl, hkr, hr61, hn10, hr0, HL, hr1⟩ := hrel
  by_cases hz : n < 2 ^ k
  ·have e1 : (n : Int) / 2 ^ k = 0 := by rw [HP.out]; exact Int.ediv_eq_zero_of_lt (by omega) (by omega)
   have hrk : r ≤ k := by
    by_cases e : r = 0
    ·omega
    ·have h1 := HL.out (by omega)
     have h2 : 2 ^ (r - 1) < 2 ^ k := Nat.lt_of_le_of_lt h1 hz
     have := (Nat.pow_lt_pow_iff_right (show 1 < 2 by omega)).mp h2
     omega
   by_cases hrn : r < nd
   ·have cr := cd r (by omega)
    have hdr := hd r hrn
    have hrn' : (r : Int) < nd := by omega
    have hr8 : (r : Int) < 800 := by omega
    have hr8' : r < 800 := by omega
    go_wp2_with fail
    go_roundg (gk - 1)
    case measure => omega
    case rel =>
     obtain ⟨c, hc⟩ : ∃ c : Nat, d r = (c : Int) + 48 := ⟨(d r - 48).toNat, by omega⟩
     refine ⟨r + 1, n * 10 + c, rfl, congrArg (Value.int .u64) (by omega), rfl, by omega, by omega, by omega, by omega, ⟨fun _ => ?_⟩, fun e => ?_⟩
     ·rw [Nat.add_sub_cancel]
      by_cases e : r = 0
      ·subst e; have := hr0 rfl; simp; omega
      ·have h1 := HL.out (by omega)
       have : 2 ^ r = 2 ^ (r - 1) * 2 := by rw [← Nat.pow_succ]; congr 1; omega
       omega
     ·have : r = 0 := by omega
      subst this
      have := hr0 rfl
      omega
   ·have hrn' : ¬ (r : Int) < nd := by omega
    have hrge : (nd : Int) ≤ r := by omega
    have hn0 : n ≠ 0 := by
     have h1 := HL.out (by omega)
     have : 0 < 2 ^ (r - 1) := Nat.pow_pos (by omega)
     omega
    have hn0' : ¬ (n : Int) = 0 := by omega
    have hn0b : ((n : Int) == 0) = false := beq_eq_false_iff_ne.mpr hn0'
    go_wp2_with fail
    go_loopg [4, 6] gk (fun kq v4 v6 w' => ∃ r n : Nat, v4 = .int .i64 (r : Int) ∧ v6 = .int .u64 (n : Int) ∧ w = w' ∧ kq + r = 100 ∧ r ≤ 61 ∧ n < 10 * 2 ^ k ∧ 1 ≤ r ∧ Aside0 (2 ^ (r - 1) ≤ n) ∧ (r = 1 → (n : Int) = d 0 - 48))
    case atStart => exact ⟨r, n, rfl, rfl, rfl, by omega, by omega, by omega, by omega, ⟨HL.out (by omega)⟩, hr1⟩
    case round =>
     clear e1 hn0b hn0' hn0 hrge hrn' hrn hrk hz hr1 HL hr0 hn10 hr61 hkr
     obtain ⟨r, n, rfl, rfl, rfl, hkr, hr61, hn10, hr0, HL, hr1⟩ := hrel
     by_cases hz : n < 2 ^ k
     ·have e1 : (n : Int) / 2 ^ k = 0 := by rw [HP.out]; exact Int.ediv_eq_zero_of_lt (by omega) (by omega)
      have hrk : r ≤ k := by
       have h1 := HL.out
       have h2 : 2 ^ (r - 1) < 2 ^ k := Nat.lt_of_le_of_lt h1 hz
       have := (Nat.pow_lt_pow_iff_right (show 1 < 2 by omega)).mp h2
       omega
      go_wp2_with fail
      go_roundg (gk - 1)
      case measure => omega
      case rel =>
       refine ⟨r + 1, n * 10, rfl, congrArg (Value.int .u64) (by omega), rfl, by omega, by omega, by omega, by omega, ⟨?_⟩, by omega⟩
       rw [Nat.add_sub_cancel]
       have h1 := HL.out
       have : 2 ^ r = 2 ^ (r - 1) * 2 := by rw [← Nat.pow_succ]; congr 1; omega
       omega
     ·have e1 : ¬ (n : Int) / 2 ^ k = 0 := by
       rw [HP.out]
       intro e
       have : n / 2 ^ k = 0 := by omega
       have := (Nat.div_eq_zero_iff).mp this
       omega
      have e1b : ((n : Int) / 2 ^ k == 0) = false := beq_eq_false_iff_ne.mpr e1
      have hh := Aside0.mk (And.intro H (And.intro hr1 HL))
      go_wp2_with fail
      refine AK.out _ _ (rightShift_tail w0 w g d nd dp ng tr k r n _ _ _ _ _ _ _ _ _ _ _ _ _ _ _ _ _ _ _ _ _ _ _ _ _ _ _ _ _ _ _ _ _ _ _ _ _ _ _ _ _ _ _ _ H hk hn.2 hd hp ⟨by omega, by omega⟩ (by omega) hn10 hr1)
  ·have e1 : ¬ (n : Int) / 2 ^ k = 0 := by
    rw [HP.out]
    intro e
    have : n / 2 ^ k = 0 := by omega
    have := (Nat.div_eq_zero_iff).mp this
    omega
   have e1b : ((n : Int) / 2 ^ k == 0) = false := beq_eq_false_iff_ne.mpr e1
   go_wp2_with fail
   refine AK.out _ _ (rightShift_tail w0 w g d nd dp ng tr k r n _ _ _ _ _ _ _ _ _ _ _ _ _ _ _ _ _ _ _ _ _ _ _ _ _ _ _ _ _ _ _ _ _ _ _ _ _ _ _ _ _ _ _ _ H hk hn.2 hd hp ⟨by omega, by omega⟩ (by omega) hn10 hr1)
end Go.Proofs.YtgiioglmkogpkaaGreatDoor.F
namespace Go.Proofs.YtgiioglmkogpkaaGreatDoor.F
open Go.RowKit Go.Proofs.YtgiioglmkogpkaaGreatDoorW.PrintWords Go.Proofs.YtgiioglmkogpkaaGreatDoorW.PrintLast Go.Proofs.YtgiioglmkogpkaaGreatDoorW.PrintMore
open M
set_option maxHeartbeats 4000000
theorem shiftL_calls (w0 w : World) (g : Nat) (d : Nat → Int) (nd : Nat) (dp : Int) (ng tr : Bool) (k : Nat) (H : Dec w0 w g d nd dp ng tr) (hT : Cheats w0) (hk : 1 ≤ k ∧ k ≤ 60)
  (hn : 1 ≤ nd ∧ nd ≤ 800) (hd : ∀ i, i < nd → 48 ≤ d i ∧ d i ≤ 57) (h0 : d 0 ≠ 48) (hp : -1000000000 ≤ dp ∧ dp ≤ 1000000000) :
  Calls Tryz.prog 169 #[.pointer (some ⟨g, 0, none⟩), .int .i64 k] w (DPost w0 g d dp ng) := by
 have hc := leftShift_calls w0 w g d nd dp ng tr k H hT hk hn hd h0 hp
 have c0 := H.cnd
 clear H hd h0 hT
 have hk1 : (0 : Int) < k := by omega
 have hk2 : ¬ (60 : Int) < k := by omega
 have hnd : ((nd : Int) == 0) = false := beq_eq_false_iff_ne.mpr (by omega)
 have hku : IntKind.u64.wrap (k : Int) = k := u64_nat k (by omega)
 go_enter Tryz.func169, Tryz.ntmps169
 go_wp2_with fail
 go_loopg [1] 0 (fun kq v1 w' => v1 = .int .i64 (k : Int) ∧ w = w')
 case atStart => exact ⟨rfl, rfl⟩
 case round =>
  obtain ⟨rfl, rfl⟩ := hrel
  go_wp2_with fail
  refine hc.mono ?_
  rintro e w' ⟨rfl, hh⟩
  go_wp2_with fail
  go_end0
  exact ⟨rfl, hh⟩
theorem shiftR_calls (w0 w : World) (g : Nat) (d : Nat → Int) (nd : Nat) (dp : Int) (ng tr : Bool) (k : Nat) (H : Dec w0 w g d nd dp ng tr) (hk : 1 ≤ k ∧ k ≤ 60)
  (hn : 1 ≤ nd ∧ nd ≤ 800) (hd : ∀ i, i < nd → 48 ≤ d i ∧ d i ≤ 57) (h0 : d 0 ≠ 48) (hp : -1000000000 ≤ dp ∧ dp ≤ 1000000000) :
  Calls Tryz.prog 169 #[.pointer (some ⟨g, 0, none⟩), .int .i64 (-(k : Int))] w (RPost w0 g d dp ng) := by
 have hc := rightShift_calls w0 w g d nd dp ng tr k H hk hn hd h0 hp
 have c0 := H.cnd
 clear H hd h0
 have hk1 : ¬ (0 : Int) < -(k : Int) := by omega
 have hk1' : -(k : Int) < 0 := by omega
 have hk2 : ¬ -(k : Int) < -60 := by omega
 have hnd : ((nd : Int) == 0) = false := beq_eq_false_iff_ne.mpr (by omega)
 have hku : IntKind.u64.wrap (k : Int) = k := u64_nat k (by omega)
 go_enter Tryz.func169, Tryz.ntmps169
 go_wp2_with fail
 go_loopg [1] 0 (fun kq v1 w' => v1 = .int .i64 (-(k : Int)) ∧ w = w')
 case atStart => exact ⟨rfl, rfl⟩
 case round =>
  obtain ⟨rfl, rfl⟩ := hrel
  go_wp2_with fail
  refine hc.mono ?_
  rintro e w' ⟨rfl, hh⟩
  go_wp2_with fail
  go_end0
  exact ⟨rfl, hh⟩
def GPost (w0 : World) (g : Nat) (lo hi : Int) (ng : Bool) (e : Ending) (w' : World) : Prop :=
 e = .returned (.tuple #[]) ∧ ∃ (d' : Nat → Int) (nd' : Nat) (dp' : Int) (tr' : Bool), Dec w0 w' g d' nd' dp' ng tr' ∧ (1 ≤ nd' ∧ nd' ≤ 800) ∧ (∀ i, i < nd' → 48 ≤ d' i ∧ d' i ≤ 57) ∧ d' 0 ≠ 48 ∧ (lo ≤ dp' ∧ dp' ≤ hi)
theorem shiftAny_calls (w0 w : World) (g : Nat) (d : Nat → Int) (nd : Nat) (dp : Int) (ng tr : Bool) (k : Nat) (H : Dec w0 w g d nd dp ng tr) (hk : 1 ≤ k ∧ k ≤ 1000000)
  (hn : 1 ≤ nd ∧ nd ≤ 800) (hd : ∀ i, i < nd → 48 ≤ d i ∧ d i ≤ 57) (h0 : d 0 ≠ 48) (hp : -10000000 ≤ dp ∧ dp ≤ 10000000) :
  Calls Tryz.prog 169 #[.pointer (some ⟨g, 0, none⟩), .int .i64 (-(k : Int))] w (GPost w0 g (dp - 62 * k) dp ng) := by
 have c0 := H.cnd
 have hk1 : ¬ (0 : Int) < -(k : Int) := by omega
 have hk1' : -(k : Int) < 0 := by omega
 have hnd : ((nd : Int) == 0) = false := beq_eq_false_iff_ne.mpr (by omega)
 have HD := Aside0.mk H
 clear H
 go_enter Tryz.func169, Tryz.ntmps169
 go_wp2_with fail
 go_loopg [1] k (fun kq v1 w' => ∃ (d' : Nat → Int) (nd' : Nat) (dp' : Int) (tr' : Bool), (1 ≤ kq ∧ kq ≤ k) ∧ v1 = .int .i64 (-(kq : Int)) ∧ Aside0 (Dec w0 w' g d' nd' dp' ng tr') ∧ (1 ≤ nd' ∧ nd' ≤ 800) ∧ Aside0 (∀ i, i < nd' → 48 ≤ d' i ∧ d' i ≤ 57) ∧ Aside0 (d' 0 ≠ 48) ∧ (dp - 62 * (k - kq) ≤ dp' ∧ dp' ≤ dp))
 case atStart => exact ⟨d, nd, dp, tr, by omega, rfl, HD, hn, ⟨hd⟩, ⟨h0⟩, by omega⟩
 case round =>
  clear HD c0 hnd hd h0
  obtain ⟨d', nd', dp', tr', hkq, rfl, HD2, hn', HI1, HI2, hb⟩ := hrel
  by_cases h60 : gk ≤ 60
  ·have hc := rightShift_calls w0 wr g d' nd' dp' ng tr' gk HD2.out (by omega) hn' HI1.out HI2.out (by omega)
   have hk2 : ¬ -(gk : Int) < -60 := by omega
   have hku : IntKind.u64.wrap (gk : Int) = gk := u64_nat gk (by omega)
   go_wp2_with fail
   refine hc.mono ?_
   rintro e w' ⟨rfl, d2, nd2, dp2, tr2, H2, hn2, hd2, h02, hb2, _⟩
   go_wp2_with fail
   go_end0
   exact ⟨rfl, d2, nd2, dp2, tr2, H2, hn2, hd2, h02, by omega⟩
  ·have hc := rightShift_calls w0 wr g d' nd' dp' ng tr' 60 HD2.out (by omega) hn' HI1.out HI2.out (by omega)
   have hk2 : -(gk : Int) < -60 := by omega
   go_wp2_with fail
   refine hc.mono ?_
   rintro e w' ⟨rfl, d2, nd2, dp2, tr2, H2, hn2, hd2, h02, hb2, _⟩
   go_wp2_with fail
   go_roundg (gk - 60)
   case measure => omega
   case rel => exact ⟨d2, nd2, dp2, tr2, by omega, congrArg (Value.int .i64) (by omega), ⟨H2⟩, hn2, ⟨hd2⟩, ⟨h02⟩, by omega⟩
end Go.Proofs.YtgiioglmkogpkaaGreatDoor.F
namespace Go.Proofs.YtgiioglmkogpkaaGreatDoor.F
open Go.RowKit Go.Proofs.YtgiioglmkogpkaaGreatDoorW.PrintWords Go.Proofs.YtgiioglmkogpkaaGreatDoorW.PrintLast Go.Proofs.YtgiioglmkogpkaaGreatDoorW.PrintMore
open M
set_option maxHeartbeats 4000000
set_option maxRecDepth 4096
def ABool (w : World) (e : Ending) (w' : World) : Prop := ∃ b : Bool, e = .returned (.bool b) ∧ w = w'
def AU64 (w : World) (e : Ending) (w' : World) : Prop := ∃ n : Int, e = .returned (.int .u64 n) ∧ w = w'
theorem shouldRoundUp_calls (w0 w : World) (g : Nat) (d : Nat → Int) (nd : Nat) (dp : Int) (ng tr : Bool) (x : Int) (H : Dec w0 w g d nd dp ng tr)
  (hn : nd ≤ 800) (hd : ∀ i, i < nd → 48 ≤ d i ∧ d i ≤ 57) (hx : -1000000000 ≤ x ∧ x ≤ 1000000000) :
  Calls Tryz.prog 207 #[.pointer (some ⟨g, 0, none⟩), .int .i64 x] w (ABool w) := by
 have c0 := H.cnd
 have c3 := H.ctr
 have cd := H.dig
 clear H
 by_cases h1 : x < 0
 ·have h1' : decide (x < 0) = true := decide_eq_true h1
  go_enter Tryz.func207, Tryz.ntmps207
  go_wp2_with fail
  go_ret
  exact ⟨_, rfl, rfl⟩
 by_cases h2 : (nd : Int) ≤ x
 ·go_enter Tryz.func207, Tryz.ntmps207
  go_wp2_with fail
  go_ret
  exact ⟨_, rfl, rfl⟩
 obtain ⟨j, rfl⟩ : ∃ j : Nat, x = (j : Int) := ⟨x.toNat, by omega⟩
 have hj8 : j < 800 := by omega
 have hj8' : (j : Int) < 800 := by omega
 have cj := cd j hj8
 have hdj := hd j (by omega)
 by_cases h3 : j = 0
 ·subst h3
  go_enter Tryz.func207, Tryz.ntmps207
  go_wp2_with fail
  all_goals (try go_ret)
  all_goals exact ⟨_, rfl, rfl⟩
 ·obtain ⟨i, rfl⟩ : ∃ i, j = i + 1 := ⟨j - 1, by omega⟩
  have hi8 : i < 800 := by omega
  have hi8' : (i : Int) < 800 := by omega
  have ci := cd i hi8
  have hdi := hd i (by omega)
  have hi0 : (0 : Int) < (i : Int) + 1 := by omega
  go_enter Tryz.func207, Tryz.ntmps207
  go_wp2_with fail
  all_goals (try go_ret)
  all_goals exact ⟨_, rfl, rfl⟩
theorem roundedInteger_calls (w0 w : World) (g : Nat) (d : Nat → Int) (nd : Nat) (dp : Int) (ng tr : Bool) (H : Dec w0 w g d nd dp ng tr)
  (hn : nd ≤ 800) (hd : ∀ i, i < nd → 48 ≤ d i ∧ d i ≤ 57) (hp : -1000000000 ≤ dp ∧ dp ≤ 1000000000) :
  Calls Tryz.prog 242 #[.pointer (some ⟨g, 0, none⟩)] w (AU64 w) := by
 have hr := shouldRoundUp_calls w0 w g d nd dp ng tr dp H hn hd hp
 have c0 := H.cnd
 have c1 := H.cdp
 have cd := H.dig
 clear H
 by_cases h20 : 20 < dp
 ·go_enter Tryz.func242, Tryz.ntmps242
  go_wp2_with fail
  go_ret
  exact ⟨_, rfl, rfl⟩
 ·go_enter Tryz.func242, Tryz.ntmps242
  go_wp2_with fail
  go_loopg [3, 4] nd (fun kq v3 v4 w' => ∃ (i : Nat) (n : Int), v3 = .int .i64 (i : Int) ∧ v4 = .int .u64 n ∧ kq + i = nd ∧ w = w')
  case atStart => exact ⟨0, 0, rfl, rfl, by omega, rfl⟩
  case round =>
   obtain ⟨i, n, rfl, rfl, hk, rfl⟩ := hrel
   by_cases e1 : (i : Int) < dp
   ·by_cases e2 : i < nd
    ·have e2' : (i : Int) < nd := by omega
     have hi8 : i < 800 := by omega
     have hi8' : (i : Int) < 800 := by omega
     have ci := cd i hi8
     have hdi := hd i e2
     go_wp2_with fail
     go_roundg (gk - 1)
     case measure => omega
     case rel => exact ⟨i + 1, _, rfl, rfl, by omega, rfl⟩
    ·have e2' : ¬ (i : Int) < nd := by omega
     go_wp2_with fail
     go_loopg [3, 4] (dp - i).toNat (fun kq v3 v4 w' => ∃ (i : Nat) (n : Int), v3 = .int .i64 (i : Int) ∧ v4 = .int .u64 n ∧ (dp - i ≤ kq ∧ i ≤ 801) ∧ w = w')
     case atStart => exact ⟨i, _, rfl, rfl, by omega, rfl⟩
     case round =>
      clear hk e1 e2 e2'
      obtain ⟨i, n, rfl, rfl, hk, rfl⟩ := hrel
      by_cases e1 : (i : Int) < dp
      ·go_wp2_with fail
       go_roundg (gk - 1)
       case measure => omega
       case rel => exact ⟨i + 1, _, rfl, rfl, by omega, rfl⟩
      ·go_wp2_with fail
       refine hr.mono ?_
       rintro e w' ⟨b, rfl, rfl⟩
       go_wp2_with fail
       all_goals go_ret
       all_goals exact ⟨_, rfl, rfl⟩
   ·go_wp2_with fail
    go_loopg [3, 4] (dp - i).toNat (fun kq v3 v4 w' => ∃ (i : Nat) (n : Int), v3 = .int .i64 (i : Int) ∧ v4 = .int .u64 n ∧ (dp - i ≤ kq ∧ i ≤ 801) ∧ w = w')
    case atStart => exact ⟨i, _, rfl, rfl, by omega, rfl⟩
    case round =>
     clear hk e1
     obtain ⟨i, n, rfl, rfl, hk, rfl⟩ := hrel
     by_cases e1 : (i : Int) < dp
     ·go_wp2_with fail
      go_roundg (gk - 1)
      case measure => omega
      case rel => exact ⟨i + 1, _, rfl, rfl, by omega, rfl⟩
     ·go_wp2_with fail
      refine hr.mono ?_
      rintro e w' ⟨b, rfl, rfl⟩
      go_wp2_with fail
      all_goals go_ret
      all_goals exact ⟨_, rfl, rfl⟩
end Go.Proofs.YtgiioglmkogpkaaGreatDoor.F
namespace Go.Proofs.YtgiioglmkogpkaaGreatDoor.F
open Go.RowKit Go.Proofs.YtgiioglmkogpkaaGreatDoorW.PrintWords Go.Proofs.YtgiioglmkogpkaaGreatDoorW.PrintLast Go.Proofs.YtgiioglmkogpkaaGreatDoorW.PrintMore
open M
set_option maxHeartbeats 8000000
set_option maxRecDepth 8192
theorem results_tmp7 {fn : Func} {t1 t2 t3 t4 t5 t6 t7 : Tmp} (h : fn.results = #[.tmp t1, .tmp t2, .tmp t3, .tmp t4, .tmp t5, .tmp t6, .tmp t7]) (tmps : Array Value) (P : Program) (w : World) :
  (results fn tmps).run P w = .ok (.tuple #[tmps.getD t1 undef, tmps.getD t2 undef, tmps.getD t3 undef, tmps.getD t4 undef, tmps.getD t5 undef, tmps.getD t6 undef, tmps.getD t7 undef]) w := by
 simp [results, h]
structure NumAt (s : ByteArray) (a b c : Int) : Prop where
 a0 : a = 0 ∨ (a = 1 ∧ bt s 0 = 45)
 ab : a < b
 bc : b ≤ c
 cs : c ≤ s.size
 ints : ∀ i, a ≤ i → i < b → 48 ≤ bt s i ∧ bt s i ≤ 57
 frac : c = b ∨ (bt s b = 46 ∧ b + 1 < c ∧ ∀ i, b + 1 ≤ i → i < c → 48 ≤ bt s i ∧ bt s i ≤ 57)
 ex : c = s.size ∨ ((bt s c = 101 ∨ bt s c = 69) ∧ ∃ d, (d = c + 1 ∨ (d = c + 2 ∧ (bt s (c + 1) = 43 ∨ bt s (c + 1) = 45))) ∧ d < s.size ∧ ∀ i, d ≤ i → i < s.size → 48 ≤ bt s i ∧ bt s i ≤ 57)
theorem lower_x : ∀ x : Int, 0 ≤ x → x ≤ 255 → x ≠ 120 → x ≠ 88 → bits .or .u8 x 32 ≠ 120 := by
 intro x h0 h1 h2 h3
 obtain ⟨n, rfl⟩ : ∃ n : Nat, x = (n : Int) := ⟨x.toNat, by omega⟩
 have : ∀ n : Nat, n < 256 → n ≠ 120 → n ≠ 88 → bits .or .u8 (n : Int) 32 ≠ 120 := by decide +kernel
 exact this n (by omega) (by omega) (by omega)
theorem wrapu64 (x : Int) : 0 ≤ IntKind.u64.wrap x ∧ IntKind.u64.wrap x < 18446744073709551616 := by
 simp only [IntKind.wrap, IntKind.bits, IntKind.signed]
 simp
 omega
def RFPost (s : ByteArray) (w : World) (e : Ending) (w' : World) : Prop :=
 ∃ (m x : Int) (neg trunc : Bool), e = .returned (.tuple #[.int .u64 m, .int .i64 x, .bool neg, .bool trunc, .bool false, .int .i64 s.size, .bool true]) ∧ (0 ≤ m ∧ m < 18446744073709551616) ∧ (-2000000000 ≤ x ∧ x ≤ 2000000000) ∧ w' = w
def tl : Code → Code
 | .seq _ c => c
 | c => c
def unscope : Code → Code
 | .scope c => c
 | c => c
noncomputable def rfTail : Code := match Tryz.f216.body with
 | some c => tl (tl (tl (tl (tl (tl (tl (tl (tl (tl (tl (tl (tl (unscope (tl c))))))))))))))
 | none => .skip
theorem readFloat_tail (s : ByteArray) (a b c : Int) (neg : Bool) (w : World) (u1 u18 u19 u20 u21 u22 u23 u24 u25 u26 u27 u28 u29 u30 u31 u32 u33 u34 u35 u36 u37 u38 u39 u40 u41 u42 u43 u44 u45 u46 u47 u48 u49 u50 u51 u52 u53 u54 u55 u56 : Value) (hz : s.size < 1000000000) (N : NumAt s a b c) :
  rfTail.wp Tryz.prog (Exit.noGoto (bodyPost Tryz.prog Tryz.f216 (RFPost s w))) ⟨List.toArray [.string s, u1, .int .u64 0, .int .i64 0, .bool neg, .bool false, .bool false, .int .i64 a, .bool false, .bool false, .int .u64 10, .int .i64 19, .int .u8 101, .bool false, .bool false, .int .i64 0, .int .i64 0, .int .i64 0, u18, u19, u20, u21, u22, u23, u24, u25, u26, u27, u28, u29, u30, u31, u32, u33, u34, u35, u36, u37, u38, u39, u40, u41, u42, u43, u44, u45, u46, u47, u48, u49, u50, u51, u52, u53, u54, u55, u56, undef, undef, undef, undef, undef, undef, undef, undef, undef, undef, undef, undef, undef, undef, undef, undef, undef, undef, undef, undef, undef, undef, undef, undef, undef, undef, undef, undef, undef, undef, undef, undef, undef, undef, undef, undef, undef, undef, undef, undef, undef, undef, undef, undef, undef, undef, undef, undef, undef, undef, undef, undef, undef, undef, undef, undef, undef, undef, undef, undef, undef, undef, undef, undef, undef, undef, undef, undef, undef, undef, undef, undef, undef, undef, undef, undef, undef, undef, undef, undef, undef, undef, undef, undef, undef, undef, undef, undef, undef, undef, undef, undef, undef, undef, undef, undef, undef, undef, undef, undef, undef, undef, undef, undef, undef, undef, undef, undef, undef, undef, undef, undef, undef, undef, undef, undef, undef, undef, undef, undef, undef, undef, undef, undef, undef, undef, undef, undef, undef, undef, undef, undef, undef, undef, undef, undef, undef, undef, undef, undef, undef, undef, undef, undef, undef, undef, undef, undef, undef, undef, undef, undef, undef, undef, undef, undef, undef, undef, undef, undef, undef, undef, undef, undef, undef, undef, undef, undef, undef, undef, undef, undef, undef, undef, undef, undef, undef, undef, undef, undef, undef, undef, undef, undef, undef, undef, undef, undef, undef, undef, undef, undef, undef, undef, undef, undef], []⟩ w := by
 have h0a : 0 ≤ a ∧ a ≤ 1 := by rcases N.a0 with h | h <;> omega
 have hbt := bt_at s
 have hs : 0 < s.size := by have := N.ab; have := N.bc; have := N.cs; omega
 have hb0 : ∀ h : 0 < s.size, ((s[0]'h).toNat : Int) = bt s 0 := bt_at s 0
 have hb1 : ∀ h : 1 < s.size, ((s[1]'h).toNat : Int) = bt s 1 := bt_at s 1
 have HN := Aside0.mk N
 clear N
 simp only [rfTail, Tryz.f216, tl, unscope]
 go_wp2_with fail
 go_loopg [2, 5, 7, 9, 13, 14, 15, 16, 17] (s.size - a.toNat) (fun kq v2 v5 v7 v9 v13 v14 v15 v16 v17 w' => ∃ (m i nd nm dp : Int) (t : Bool), v2 = .int .u64 m ∧ v5 = .bool t ∧ v7 = .int .i64 i ∧ v9 = .bool false ∧ v13 = .bool (decide (b < i)) ∧ v14 = .bool (decide (a < i)) ∧ v15 = .int .i64 nd ∧ v16 = .int .i64 nm ∧ v17 = .int .i64 dp ∧
  (0 ≤ m ∧ m < 18446744073709551616) ∧ (a ≤ i ∧ i ≤ c) ∧ (kq : Int) + i = s.size ∧ (0 ≤ nd ∧ nd ≤ i) ∧ (0 ≤ nm ∧ nm ≤ 19) ∧ (-i ≤ dp ∧ dp ≤ i) ∧ w = w')
 case atStart =>
  have := HN.out.ab
  have := HN.out.bc
  have := HN.out.cs
  exact ⟨0, a, 0, 0, 0, false, rfl, rfl, rfl, rfl, congrArg Value.bool (by simp; omega), congrArg Value.bool (by simp), rfl, rfl, rfl, by omega, by omega, by omega, by omega, by omega, by omega, rfl⟩
 case round =>
  obtain ⟨m, i, nd, nm, dp, t, rfl, rfl, rfl, rfl, rfl, rfl, rfl, rfl, rfl, hm, hi, hk, hnd, hnm, hdp, rfl⟩ := hrel
  have hab := HN.out.ab
  have hbc := HN.out.bc
  have hcs := HN.out.cs
  obtain ⟨x, hx⟩ : ∃ x, x = bt s i := ⟨_, rfl⟩
  have hxb : ∀ h : i.toNat < s.size, ((s[i.toNat]'h).toNat : Int) = x := fun h => by rw [hx]; exact bt_at s i h
  clear hbt hb0 hb1
  have h0i : 0 ≤ i := by omega
  have hic : i ≤ c := hi.2
  have hx0 : 0 ≤ x ∧ x ≤ 255 := by rw [hx]; exact bt_range s i
  by_cases e1 : i < s.size
  ·by_cases e4 : i < c
   ·by_cases e2 : i < b
    ·have hdig := HN.out.ints i (by omega) e2
     rw [← hx] at hdig
     clear hx
     have hdb : decide (b < i) = false := decide_eq_false (by omega)
     have x1 : (x == 95) = false := beq_eq_false_iff_ne.mpr (by omega)
     have x2 : (x == 46) = false := beq_eq_false_iff_ne.mpr (by omega)
     have x3 : decide (48 ≤ x) = true := decide_eq_true (by omega)
     have x4 : decide (x ≤ 57) = true := decide_eq_true (by omega)
     go_wp2_with fail
     all_goals (go_roundg (gk - 1); (case measure => omega); (case rel => exact ⟨_, _, _, _, _, _, rfl, rfl, rfl, rfl, congrArg Value.bool (by simp; omega), congrArg Value.bool (by simp; omega), rfl, rfl, rfl, (by first | exact hm | exact wrapu64 _), by omega, by omega, by omega, by omega, by omega, rfl⟩))
    ·by_cases e3 : i = b
     ·subst e3
      have hfr := HN.out.frac
      have hx46 : x = 46 := by rcases hfr with h | h; omega; rw [hx]; exact h.1
      clear hfr hx
      have hdb : decide (i < i) = false := decide_eq_false (by omega)
      have x1 : (x == 95) = false := beq_eq_false_iff_ne.mpr (by omega)
      have x2 : (x == 46) = true := beq_iff_eq.mpr (by omega)
      go_wp2_with fail
      all_goals (go_roundg (gk - 1); (case measure => omega); (case rel => exact ⟨_, _, _, _, _, _, rfl, rfl, rfl, rfl, congrArg Value.bool (by simp; omega), congrArg Value.bool (by simp; omega), rfl, rfl, rfl, (by first | exact hm | exact wrapu64 _), by omega, by omega, by omega, by omega, by omega, rfl⟩))
     ·have hfr := HN.out.frac
      have hdig : 48 ≤ x ∧ x ≤ 57 := by rcases hfr with h | h; omega; rw [hx]; exact h.2.2 i (by omega) (by omega)
      clear hfr hx
      have hdb : decide (b < i) = true := decide_eq_true (by omega)
      have x1 : (x == 95) = false := beq_eq_false_iff_ne.mpr (by omega)
      have x2 : (x == 46) = false := beq_eq_false_iff_ne.mpr (by omega)
      have x3 : decide (48 ≤ x) = true := decide_eq_true (by omega)
      have x4 : decide (x ≤ 57) = true := decide_eq_true (by omega)
      go_wp2_with fail
      all_goals (go_roundg (gk - 1); (case measure => omega); (case rel => exact ⟨_, _, _, _, _, _, rfl, rfl, rfl, rfl, congrArg Value.bool (by simp; omega), congrArg Value.bool (by simp; omega), rfl, rfl, rfl, (by first | exact hm | exact wrapu64 _), by omega, by omega, by omega, by omega, by omega, rfl⟩))
   ·have e5 : c = i := by omega
    subst e5
    have hex := HN.out.ex
    rcases hex with hex | ⟨hxe, d, hd, hds, hdd⟩
    ·omega
    rw [← hx] at hxe
    clear hx
    have hl : bits .or .u8 x 32 = 101 := by rcases hxe with rfl | rfl <;> rfl
    have x1 : (x == 95) = false := beq_eq_false_iff_ne.mpr (by omega)
    have x2 : (x == 46) = false := beq_eq_false_iff_ne.mpr (by omega)
    have x3 : decide (48 ≤ x) = true := decide_eq_true (by omega)
    have x4 : decide (x ≤ 57) = false := decide_eq_false (by omega)
    have h0c : decide (a < c) = true := decide_eq_true (by omega)
    obtain ⟨y, hy⟩ : ∃ y, y = bt s (c + 1) := ⟨_, rfl⟩
    have hyb : ∀ h : (c + 1).toNat < s.size, ((s[(c + 1).toNat]'h).toNat : Int) = y := fun h => by rw [hy]; exact bt_at s (c + 1) h
    rw [← hy] at hd
    rcases hd with rfl | ⟨rfl, hy4⟩
    ·have hyd := hdd (c + 1) (by omega) hds
     rw [← hy] at hyd
     clear hy
     have y1 : (y == 43) = false := beq_eq_false_iff_ne.mpr (by omega)
     have y2 : (y == 45) = false := beq_eq_false_iff_ne.mpr (by omega)
     have y3 : decide (y < 48) = false := decide_eq_false (by omega)
     have y4 : decide (y > 57) = false := decide_eq_false (by omega)
     go_wp2_with (go_at_call 188; refine (Tryz.internal_strconv_lower _ _).mono ?_; rintro e w' ⟨rfl, hw2⟩; obtain rfl := hw2.symm)
     all_goals
      go_loopg [7, 9, 20] (s.size - (c + 1)).toNat (fun kq v7 v9 v20 w' => ∃ (j e : Int), v7 = .int .i64 j ∧ v9 = .bool false ∧ v20 = .int .i64 e ∧ (c + 1 ≤ j ∧ j ≤ s.size) ∧ (kq : Int) + j = s.size ∧ (0 ≤ e ∧ e ≤ 100008) ∧ w = w')
      case atStart => exact ⟨_, _, rfl, rfl, rfl, by omega, by omega, by omega, rfl⟩
      case round =>
       obtain ⟨j, e, rfl, rfl, rfl, hj, hkj, he, rfl⟩ := hrel
       obtain ⟨y2, hy2⟩ : ∃ y2, y2 = bt s j := ⟨_, rfl⟩
       have hyb2 : ∀ h : j.toNat < s.size, ((s[j.toNat]'h).toNat : Int) = y2 := fun h => by rw [hy2]; exact bt_at s j h
       have h0j : 0 ≤ j := by omega
       by_cases e7 : j < s.size
       ·have hdg := hdd j (by omega) e7
        rw [← hy2] at hdg
        clear hy2
        have y1 : (y2 == 95) = false := beq_eq_false_iff_ne.mpr (by omega)
        have y3 : decide (48 ≤ y2) = true := decide_eq_true (by omega)
        have y4 : decide (y2 ≤ 57) = true := decide_eq_true (by omega)
        go_wp2_with fail
        all_goals (go_roundg (gk - 1); (case measure => omega); (case rel => exact ⟨_, _, rfl, rfl, rfl, by omega, by omega, by omega, rfl⟩))
       ·have e8 : j = s.size := by omega
        subst e8
        go_wp2_with fail
        all_goals ((try simp only [Exit.inBlock, Exit.then]); refine bodyPost_ret (results_tmp7 rfl _ _ _) rfl ?_)
        all_goals exact ⟨_, _, _, _, rfl, hm, by omega, rfl⟩
    ·obtain ⟨z, hzz⟩ : ∃ z, z = bt s (c + 2) := ⟨_, rfl⟩
     have hzb : ∀ h : (c + 2).toNat < s.size, ((s[(c + 2).toNat]'h).toNat : Int) = z := fun h => by rw [hzz]; exact bt_at s (c + 2) h
     have hzb' : ∀ h : (c + 1 + 1).toNat < s.size, ((s[(c + 1 + 1).toNat]'h).toNat : Int) = z := fun h => by rw [hzz, ← show c + 1 + 1 = c + 2 by omega]; exact bt_at s (c + 1 + 1) h
     have hyd := hdd (c + 2) (by omega) hds
     rw [← hzz] at hyd
     clear hzz hy
     have y3 : decide (z < 48) = false := decide_eq_false (by omega)
     have y4 : decide (z > 57) = false := decide_eq_false (by omega)
     rcases hy4 with rfl | rfl
     ·go_wp2_with (go_at_call 188; refine (Tryz.internal_strconv_lower _ _).mono ?_; rintro e w' ⟨rfl, hw2⟩; obtain rfl := hw2.symm)
      all_goals
       go_loopg [7, 9, 20] (s.size - (c + 2)).toNat (fun kq v7 v9 v20 w' => ∃ (j e : Int), v7 = .int .i64 j ∧ v9 = .bool false ∧ v20 = .int .i64 e ∧ (c + 2 ≤ j ∧ j ≤ s.size) ∧ (kq : Int) + j = s.size ∧ (0 ≤ e ∧ e ≤ 100008) ∧ w = w')
       case atStart => exact ⟨_, _, rfl, rfl, rfl, by omega, by omega, by omega, rfl⟩
       case round =>
        obtain ⟨j, e, rfl, rfl, rfl, hj, hkj, he, rfl⟩ := hrel
        obtain ⟨y2, hy2⟩ : ∃ y2, y2 = bt s j := ⟨_, rfl⟩
        have hyb2 : ∀ h : j.toNat < s.size, ((s[j.toNat]'h).toNat : Int) = y2 := fun h => by rw [hy2]; exact bt_at s j h
        have h0j : 0 ≤ j := by omega
        by_cases e7 : j < s.size
        ·have hdg := hdd j (by omega) e7
         rw [← hy2] at hdg
         clear hy2
         have y1 : (y2 == 95) = false := beq_eq_false_iff_ne.mpr (by omega)
         have y3 : decide (48 ≤ y2) = true := decide_eq_true (by omega)
         have y4 : decide (y2 ≤ 57) = true := decide_eq_true (by omega)
         go_wp2_with fail
         all_goals (go_roundg (gk - 1); (case measure => omega); (case rel => exact ⟨_, _, rfl, rfl, rfl, by omega, by omega, by omega, rfl⟩))
        ·have e8 : j = s.size := by omega
         subst e8
         go_wp2_with fail
         all_goals ((try simp only [Exit.inBlock, Exit.then]); refine bodyPost_ret (results_tmp7 rfl _ _ _) rfl ?_)
         all_goals exact ⟨_, _, _, _, rfl, hm, by omega, rfl⟩
     ·go_wp2_with (go_at_call 188; refine (Tryz.internal_strconv_lower _ _).mono ?_; rintro e w' ⟨rfl, hw2⟩; obtain rfl := hw2.symm)
      all_goals
       go_loopg [7, 9, 20] (s.size - (c + 2)).toNat (fun kq v7 v9 v20 w' => ∃ (j e : Int), v7 = .int .i64 j ∧ v9 = .bool false ∧ v20 = .int .i64 e ∧ (c + 2 ≤ j ∧ j ≤ s.size) ∧ (kq : Int) + j = s.size ∧ (0 ≤ e ∧ e ≤ 100008) ∧ w = w')
       case atStart => exact ⟨_, _, rfl, rfl, rfl, by omega, by omega, by omega, rfl⟩
       case round =>
        obtain ⟨j, e, rfl, rfl, rfl, hj, hkj, he, rfl⟩ := hrel
        obtain ⟨y2, hy2⟩ : ∃ y2, y2 = bt s j := ⟨_, rfl⟩
        have hyb2 : ∀ h : j.toNat < s.size, ((s[j.toNat]'h).toNat : Int) = y2 := fun h => by rw [hy2]; exact bt_at s j h
        have h0j : 0 ≤ j := by omega
        by_cases e7 : j < s.size
        ·have hdg := hdd j (by omega) e7
         rw [← hy2] at hdg
         clear hy2
         have y1 : (y2 == 95) = false := beq_eq_false_iff_ne.mpr (by omega)
         have y3 : decide (48 ≤ y2) = true := decide_eq_true (by omega)
         have y4 : decide (y2 ≤ 57) = true := decide_eq_true (by omega)
         go_wp2_with fail
         all_goals (go_roundg (gk - 1); (case measure => omega); (case rel => exact ⟨_, _, rfl, rfl, rfl, by omega, by omega, by omega, rfl⟩))
        ·have e8 : j = s.size := by omega
         subst e8
         go_wp2_with fail
         all_goals ((try simp only [Exit.inBlock, Exit.then]); refine bodyPost_ret (results_tmp7 rfl _ _ _) rfl ?_)
         all_goals exact ⟨_, _, _, _, rfl, hm, by omega, rfl⟩
  ·have e5 : c = s.size := by omega
   have e6 : i = s.size := by omega
   subst e5
   subst e6
   have h0c : decide (a < (s.size : Int)) = true := decide_eq_true (by omega)
   go_wp2_with fail
   all_goals ((try simp only [Exit.inBlock, Exit.then]); refine bodyPost_ret (results_tmp7 rfl _ _ _) rfl ?_)
   all_goals exact ⟨_, _, _, _, rfl, hm, by omega, rfl⟩
end Go.Proofs.YtgiioglmkogpkaaGreatDoor.F
namespace Go.Proofs.YtgiioglmkogpkaaGreatDoor.F
open Go.RowKit Go.Proofs.YtgiioglmkogpkaaGreatDoorW.PrintWords Go.Proofs.YtgiioglmkogpkaaGreatDoorW.PrintLast Go.Proofs.YtgiioglmkogpkaaGreatDoorW.PrintMore
open M
set_option maxHeartbeats 8000000
set_option maxRecDepth 8192
def SPost (w0 : World) (g : Nat) (e : Ending) (w' : World) : Prop :=
 e = .returned (.bool true) ∧ ∃ (d' : Nat → Int) (nd' : Nat) (dp' : Int) (ng' tr' : Bool), Dec w0 w' g d' nd' dp' ng' tr' ∧ nd' ≤ 800 ∧ (∀ i, i < nd' → 48 ≤ d' i ∧ d' i ≤ 57) ∧ (0 < nd' → d' 0 ≠ 48) ∧ (-2000000000 ≤ dp' ∧ dp' ≤ 2000000000)
def hd1 : Code → Code
 | .seq c _ => c
 | c => c
noncomputable def stTail : Code := match Tryz.f222.body with
 | some c => tl (tl (tl (tl (tl (tl (tl (tl c)))))))
 | none => .skip
noncomputable def stLoop : Code := match hd1 stTail with
 | .block _ c => c
 | c => c
noncomputable def stRest : Code := tl stTail
theorem stLoop_wp (s : ByteArray) (a b c : Int) (w0 w : World) (g : Nat) (d : Nat → Int) (ng tr : Bool) (K : Act → World → Prop) (hK : ∀ a w, stRest.wp Tryz.prog (bodyPost Tryz.prog Tryz.f222 (SPost w0 g)) a w → K a w) (u2 u3 u8 u9 u10 u11 u12 u13 u14 u15 u16 u17 u18 u19 u20 u21 u22 u23 u24 u25 u26 u27 u28 u29 u30 u31 u32 u33 : Value) (H : Dec w0 w g d 0 0 ng tr) (hz : s.size < 1000000000) (N : NumAt s a b c) :
  stLoop.wp Tryz.prog (Exit.inBlock 1 (Exit.then K (bodyPost Tryz.prog Tryz.f222 (SPost w0 g)))) ⟨List.toArray [.pointer (some ⟨g, 0, none⟩), .string s, u2, u3, .bool false, .int .i64 a, .bool false, .bool false, u8, u9, u10, u11, u12, u13, u14, u15, u16, u17, u18, u19, u20, u21, u22, u23, u24, u25, u26, u27, u28, u29, u30, u31, u32, u33, undef, undef, undef, undef, undef, undef, undef, undef, undef, undef, undef, undef, undef, undef, undef, undef, undef, undef, undef, undef, undef, undef, undef, undef, undef, undef, undef, undef, undef, undef, undef, undef, undef, undef, undef, undef, undef, undef, undef, undef, undef, undef, undef, undef, undef, undef, undef, undef, undef, undef, undef, undef, undef, undef, undef, undef, undef, undef, undef, undef, undef, undef, undef, undef, undef, undef, undef, undef, undef, undef, undef, undef, undef, undef, undef, undef, undef, undef, undef, undef, undef, undef, undef, undef, undef, undef, undef, undef, undef, undef, undef, undef, undef, undef, undef, undef, undef, undef, undef, undef, undef, undef, undef, undef, undef, undef, undef, undef, undef, undef, undef, undef, undef, undef, undef, undef, undef, undef, undef, undef, undef, undef, undef, undef, undef, undef, undef, undef, undef, undef, undef, undef, undef, undef, undef, undef, undef, undef, undef, undef, undef, undef, undef, undef, undef, undef, undef, undef, undef, undef, undef, undef, undef, undef, undef, undef, undef, undef, undef, undef, undef, undef, undef, undef, undef, undef, undef, undef, undef, undef, undef, undef, undef, undef, undef, undef, undef, undef, undef, undef, undef, undef, undef, undef, undef, undef, undef, undef, undef, undef], []⟩ w := by
 have h0a : 0 ≤ a ∧ a ≤ 1 := by rcases N.a0 with h | h <;> omega
 have hbt := bt_at s
 have HN := Aside0.mk N
 clear N
 have HD1 := Aside0.mk H
 clear H
 simp only [stLoop, stTail, Tryz.f222, tl, hd1]
 simp only [stRest, stTail, Tryz.f222, tl] at hK
 go_loopg [5, 6, 7] (s.size - a.toNat) (fun kq v5 v6 v7 w' => ∃ (i : Int) (d' : Nat → Int) (nd' : Nat) (dp' : Int) (tr' : Bool), v5 = .int .i64 i ∧ v6 = .bool (decide (b < i)) ∧ v7 = .bool (decide (a < i)) ∧ (a ≤ i ∧ i ≤ c) ∧ (kq : Int) + i = s.size ∧ Aside0 (Dec w0 w' g d' nd' dp' ng tr') ∧ nd' ≤ 800 ∧ Aside0 (∀ i, i < nd' → 48 ≤ d' i ∧ d' i ≤ 57) ∧ Aside0 (0 < nd' → d' 0 ≠ 48) ∧ (-i ≤ dp' ∧ dp' ≤ 800))
 case atStart =>
  have := HN.out.ab
  have := HN.out.bc
  have := HN.out.cs
  exact ⟨a, d, 0, 0, tr, rfl, congrArg Value.bool (by simp; omega), congrArg Value.bool (by simp), by omega, by omega, by first | exact HD1 | exact ⟨HD1.out⟩, by omega, ⟨by omega⟩, ⟨by omega⟩, by omega⟩
 case round =>
  clear HD1
  obtain ⟨i, d', nd', dp', tr', rfl, rfl, rfl, hi, hk, HD2, hnd, HI1, HI2, hdp⟩ := hrel
  have hab := HN.out.ab
  have hbc := HN.out.bc
  have hcs := HN.out.cs
  obtain ⟨x, hx⟩ : ∃ x, x = bt s i := ⟨_, rfl⟩
  have hxb : ∀ h : i.toNat < s.size, ((s[i.toNat]'h).toNat : Int) = x := fun h => by rw [hx]; exact bt_at s i h
  clear hbt
  have h0i : 0 ≤ i := by omega
  have hic : i ≤ c := hi.2
  have hx0 : 0 ≤ x ∧ x ≤ 255 := by rw [hx]; exact bt_range s i
  have c0 := HD2.out.cnd
  have c1 := HD2.out.cdp
  have c3 := HD2.out.ctr
  have f0 := HD2.out.fr
  by_cases e1 : i < s.size
  ·by_cases e4 : i < c
   ·by_cases e3 : i = b
    ·
     subst e3
     have hfr := HN.out.frac
     have hx46 : x = 46 := by rcases hfr with h | h; omega; rw [hx]; exact h.1
     clear hfr hx
     have hdb : decide (i < i) = false := decide_eq_false (by omega)
     have x1 : (x == 95) = false := beq_eq_false_iff_ne.mpr (by omega)
     have x2 : (x == 46) = true := beq_iff_eq.mpr (by omega)
     go_wp2_with fail
     all_goals go_roundg (gk - 1)
     case measure => omega
     case rel => exact ⟨_, d', nd', _, tr', rfl, congrArg Value.bool (by simp; omega), congrArg Value.bool (by simp; omega), by omega, by omega, ⟨HD2.out.set_dp _⟩, hnd, HI1, HI2, by omega⟩
    ·have hdig : 48 ≤ x ∧ x ≤ 57 := by
      by_cases e2 : i < b
      ·rw [hx]; exact HN.out.ints i (by omega) e2
      ·rcases HN.out.frac with h | h
       ·omega
       ·rw [hx]; exact h.2.2 i (by omega) (by omega)
     clear hx
     have x1 : (x == 95) = false := beq_eq_false_iff_ne.mpr (by omega)
     have x2 : (x == 46) = false := beq_eq_false_iff_ne.mpr (by omega)
     have x3 : decide (48 ≤ x) = true := decide_eq_true (by omega)
     have x4 : decide (x ≤ 57) = true := decide_eq_true (by omega)
     have hdb : decide (b < i) = decide (b < i + 1) := by simp; omega
     have HDB := Aside0.mk hdb
     clear hdb
     by_cases q1 : nd' = 0 ∧ x = 48
     ·obtain ⟨rfl, rfl⟩ := q1
      go_wp2_with fail
      all_goals go_roundg (gk - 1)
      case measure => omega
      case rel => exact ⟨_, d', 0, _, tr', rfl, congrArg Value.bool HDB.out, congrArg Value.bool (by simp; omega), by omega, by omega, ⟨HD2.out.set_dp _⟩, hnd, HI1, HI2, by omega⟩
     ·by_cases e8 : nd' < 800
      ·have e8' : (nd' : Int) < 800 := by omega
       have cw := HD2.out.dig nd' e8
       have hfd : ∀ j, j < nd' + 1 → 48 ≤ setD d' nd' x j ∧ setD d' nd' x j ≤ 57 := fun j hj => by
        unfold setD
        by_cases ej : j = nd'
        ·rw [if_pos ej]; exact hdig
        ·rw [if_neg ej]; exact HI1.out j (by omega)
       have hf0 : setD d' nd' x 0 ≠ 48 := by
        unfold setD
        by_cases ej : 0 = nd'
        ·rw [if_pos ej]; exact fun q => q1 ⟨ej.symm, q⟩
        ·rw [if_neg ej]; exact HI2.out (by omega)
       have HF1 := Aside0.mk hfd
       have HF2 := Aside0.mk (fun _ : 0 < nd' + 1 => hf0)
       clear hfd hf0
       by_cases n0 : nd' = 0
       ·have n0b : ((nd' : Int) == 0) = true := beq_iff_eq.mpr (by omega)
        have x48 : (x == 48) = false := beq_eq_false_iff_ne.mpr (fun q => q1 ⟨n0, q⟩)
        clear q1 n0
        go_wp2_with fail
        all_goals (try (go_region; go_wp2_with fail))
        all_goals go_roundg (gk - 1)
        all_goals (try (case measure => omega))
        all_goals exact ⟨_, setD d' nd' _, nd' + 1, dp', tr', rfl, congrArg Value.bool HDB.out, congrArg Value.bool (by simp; omega), by omega, by omega, ⟨by first | exact ((HD2.out.set_d nd' e8 _).set_nd _).drew | exact (HD2.out.set_d nd' e8 _).drew.set_nd _⟩, by omega, HF1, HF2, by omega⟩
       ·have n0b : ((nd' : Int) == 0) = false := beq_eq_false_iff_ne.mpr (by omega)
        clear q1 n0
        by_cases x48 : x = 48
        ·subst x48
         go_wp2_with fail
         all_goals (try (go_region; go_wp2_with fail))
         all_goals go_roundg (gk - 1)
         all_goals (try (case measure => omega))
         all_goals exact ⟨_, setD d' nd' _, nd' + 1, dp', tr', rfl, congrArg Value.bool HDB.out, congrArg Value.bool (by simp; omega), by omega, by omega, ⟨by first | exact ((HD2.out.set_d nd' e8 _).set_nd _).drew | exact (HD2.out.set_d nd' e8 _).drew.set_nd _⟩, by omega, HF1, HF2, by omega⟩
        ·have x48b : (x == 48) = false := beq_eq_false_iff_ne.mpr x48
         clear x48
         go_wp2_with fail
         all_goals (try (go_region; go_wp2_with fail))
         all_goals go_roundg (gk - 1)
         all_goals (try (case measure => omega))
         all_goals exact ⟨_, setD d' nd' _, nd' + 1, dp', tr', rfl, congrArg Value.bool HDB.out, congrArg Value.bool (by simp; omega), by omega, by omega, ⟨by first | exact ((HD2.out.set_d nd' e8 _).set_nd _).drew | exact (HD2.out.set_d nd' e8 _).drew.set_nd _⟩, by omega, HF1, HF2, by omega⟩
      ·have e8' : ¬ (nd' : Int) < 800 := by omega
       have n0b : ((nd' : Int) == 0) = false := beq_eq_false_iff_ne.mpr (by omega)
       clear q1
       go_wp2_with fail
       all_goals go_roundg (gk - 1)
       all_goals (try (case measure => omega))
       all_goals first
        | exact ⟨_, d', nd', dp', _, rfl, congrArg Value.bool HDB.out, congrArg Value.bool (by simp; omega), by omega, by omega, ⟨HD2.out.set_tr _⟩, by omega, HI1, HI2, by omega⟩
        | exact ⟨_, d', nd', dp', _, rfl, congrArg Value.bool HDB.out, congrArg Value.bool (by simp; omega), by omega, by omega, HD2, by omega, HI1, HI2, by omega⟩
   ·
    have e5 : c = i := by omega
    subst e5
    have hex := HN.out.ex
    rcases hex with hex | ⟨hxe, d, hd, hds, hdd⟩
    ·omega
    rw [← hx] at hxe
    clear hx
    have hl : bits .or .u8 x 32 = 101 := by rcases hxe with rfl | rfl <;> rfl
    have x1 : (x == 95) = false := beq_eq_false_iff_ne.mpr (by omega)
    have x2 : (x == 46) = false := beq_eq_false_iff_ne.mpr (by omega)
    have x3 : decide (48 ≤ x) = true := decide_eq_true (by omega)
    have x4 : decide (x ≤ 57) = false := decide_eq_false (by omega)
    have h0c : decide (a < c) = true := decide_eq_true (by omega)
    obtain ⟨y, hy⟩ : ∃ y, y = bt s (c + 1) := ⟨_, rfl⟩
    have hyb : ∀ h : (c + 1).toNat < s.size, ((s[(c + 1).toNat]'h).toNat : Int) = y := fun h => by rw [hy]; exact bt_at s (c + 1) h
    rw [← hy] at hd
    have HHD := Aside0.mk hdd
    clear hdd
    have hds0 := hds
    clear hxe
    rcases hd with rfl | ⟨rfl, hy4⟩
    ·have hyd := HHD.out (c + 1) (by omega) hds
     rw [← hy] at hyd
     clear hy
     have y1 : (y == 43) = false := beq_eq_false_iff_ne.mpr (by omega)
     have y2 : (y == 45) = false := beq_eq_false_iff_ne.mpr (by omega)
     have y3 : decide (y < 48) = false := decide_eq_false (by omega)
     have y4 : decide (y > 57) = false := decide_eq_false (by omega)
     by_cases hb : b < c
     ·have hbb : decide (b < c) = true := decide_eq_true hb
      go_wp2_with (go_at_call 188; refine (Tryz.internal_strconv_lower _ _).mono ?_; rintro e w' ⟨rfl, hw2⟩; obtain rfl := hw2.symm)
      all_goals
       go_loopg [5, 9] (s.size - (c + 1)).toNat (fun kq v5 v9 w' => ∃ (j e : Int), v5 = .int .i64 j ∧ v9 = .int .i64 e ∧ (c + 1 ≤ j ∧ j ≤ s.size) ∧ (kq : Int) + j = s.size ∧ (0 ≤ e ∧ e ≤ 100008) ∧ Aside0 (Dec w0 w' g d' nd' _ ng tr'))
       case atStart => exact ⟨_, _, rfl, rfl, by omega, by omega, by omega, by first | exact ⟨HD2.out.set_dp _⟩ | exact HD2⟩
       case round =>
        obtain ⟨j, e, rfl, rfl, hj, hkj, he, HD3⟩ := hrel
        obtain ⟨y2, hy2⟩ : ∃ y2, y2 = bt s j := ⟨_, rfl⟩
        have hyb2 : ∀ h : j.toNat < s.size, ((s[j.toNat]'h).toNat : Int) = y2 := fun h => by rw [hy2]; exact bt_at s j h
        have h0j : 0 ≤ j := by omega
        have p1 := HD3.out.cdp
        have p3 := HD3.out.fr
        by_cases e7 : j < s.size
        ·have hdg := HHD.out j (by omega) e7
         rw [← hy2] at hdg
         clear hy2
         have y1 : (y2 == 95) = false := beq_eq_false_iff_ne.mpr (by omega)
         have y3 : decide (48 ≤ y2) = true := decide_eq_true (by omega)
         have y4 : decide (y2 ≤ 57) = true := decide_eq_true (by omega)
         go_wp2_with fail
         all_goals (go_roundg (gk - 1); (case measure => omega); (case rel => exact ⟨_, _, rfl, rfl, by omega, by omega, by omega, HD3⟩))
        ·have e8 : j = s.size := by omega
         subst e8
         clear hy2 hyb2
         go_wp2_with fail
         all_goals go_ret
         all_goals exact ⟨rfl, d', nd', _, ng, tr', HD3.out.set_dp _, hnd, HI1.out, HI2.out, by omega⟩
     ·have hbb : decide (b < c) = false := decide_eq_false hb
      go_wp2_with (go_at_call 188; refine (Tryz.internal_strconv_lower _ _).mono ?_; rintro e w' ⟨rfl, hw2⟩; obtain rfl := hw2.symm)
      all_goals
       go_loopg [5, 9] (s.size - (c + 1)).toNat (fun kq v5 v9 w' => ∃ (j e : Int), v5 = .int .i64 j ∧ v9 = .int .i64 e ∧ (c + 1 ≤ j ∧ j ≤ s.size) ∧ (kq : Int) + j = s.size ∧ (0 ≤ e ∧ e ≤ 100008) ∧ Aside0 (Dec w0 w' g d' nd' _ ng tr'))
       case atStart => exact ⟨_, _, rfl, rfl, by omega, by omega, by omega, by first | exact ⟨HD2.out.set_dp _⟩ | exact HD2⟩
       case round =>
        obtain ⟨j, e, rfl, rfl, hj, hkj, he, HD3⟩ := hrel
        obtain ⟨y2, hy2⟩ : ∃ y2, y2 = bt s j := ⟨_, rfl⟩
        have hyb2 : ∀ h : j.toNat < s.size, ((s[j.toNat]'h).toNat : Int) = y2 := fun h => by rw [hy2]; exact bt_at s j h
        have h0j : 0 ≤ j := by omega
        have p1 := HD3.out.cdp
        have p3 := HD3.out.fr
        by_cases e7 : j < s.size
        ·have hdg := HHD.out j (by omega) e7
         rw [← hy2] at hdg
         clear hy2
         have y1 : (y2 == 95) = false := beq_eq_false_iff_ne.mpr (by omega)
         have y3 : decide (48 ≤ y2) = true := decide_eq_true (by omega)
         have y4 : decide (y2 ≤ 57) = true := decide_eq_true (by omega)
         go_wp2_with fail
         all_goals (go_roundg (gk - 1); (case measure => omega); (case rel => exact ⟨_, _, rfl, rfl, by omega, by omega, by omega, HD3⟩))
        ·have e8 : j = s.size := by omega
         subst e8
         clear hy2 hyb2
         go_wp2_with fail
         all_goals go_ret
         all_goals exact ⟨rfl, d', nd', _, ng, tr', HD3.out.set_dp _, hnd, HI1.out, HI2.out, by omega⟩
    ·obtain ⟨z, hzz⟩ : ∃ z, z = bt s (c + 2) := ⟨_, rfl⟩
     have hzb : ∀ h : (c + 2).toNat < s.size, ((s[(c + 2).toNat]'h).toNat : Int) = z := fun h => by rw [hzz]; exact bt_at s (c + 2) h
     have hzb' : ∀ h : (c + 1 + 1).toNat < s.size, ((s[(c + 1 + 1).toNat]'h).toNat : Int) = z := fun h => by rw [hzz, ← show c + 1 + 1 = c + 2 by omega]; exact bt_at s (c + 1 + 1) h
     have hyd := HHD.out (c + 2) (by omega) hds
     rw [← hzz] at hyd
     clear hzz hy
     have y3 : decide (z < 48) = false := decide_eq_false (by omega)
     have y4 : decide (z > 57) = false := decide_eq_false (by omega)
     rcases hy4 with rfl | rfl
     ·by_cases hb : b < c
      ·have hbb : decide (b < c) = true := decide_eq_true hb
       go_wp2_with (go_at_call 188; refine (Tryz.internal_strconv_lower _ _).mono ?_; rintro e w' ⟨rfl, hw2⟩; obtain rfl := hw2.symm)
       all_goals
        go_loopg [5, 9] (s.size - (c + 2)).toNat (fun kq v5 v9 w' => ∃ (j e : Int), v5 = .int .i64 j ∧ v9 = .int .i64 e ∧ (c + 2 ≤ j ∧ j ≤ s.size) ∧ (kq : Int) + j = s.size ∧ (0 ≤ e ∧ e ≤ 100008) ∧ Aside0 (Dec w0 w' g d' nd' _ ng tr'))
        case atStart => exact ⟨_, _, rfl, rfl, by omega, by omega, by omega, by first | exact ⟨HD2.out.set_dp _⟩ | exact HD2⟩
        case round =>
         obtain ⟨j, e, rfl, rfl, hj, hkj, he, HD3⟩ := hrel
         obtain ⟨y2, hy2⟩ : ∃ y2, y2 = bt s j := ⟨_, rfl⟩
         have hyb2 : ∀ h : j.toNat < s.size, ((s[j.toNat]'h).toNat : Int) = y2 := fun h => by rw [hy2]; exact bt_at s j h
         have h0j : 0 ≤ j := by omega
         have p1 := HD3.out.cdp
         have p3 := HD3.out.fr
         by_cases e7 : j < s.size
         ·have hdg := HHD.out j (by omega) e7
          rw [← hy2] at hdg
          clear hy2
          have y1 : (y2 == 95) = false := beq_eq_false_iff_ne.mpr (by omega)
          have y3 : decide (48 ≤ y2) = true := decide_eq_true (by omega)
          have y4 : decide (y2 ≤ 57) = true := decide_eq_true (by omega)
          go_wp2_with fail
          all_goals (go_roundg (gk - 1); (case measure => omega); (case rel => exact ⟨_, _, rfl, rfl, by omega, by omega, by omega, HD3⟩))
         ·have e8 : j = s.size := by omega
          subst e8
          clear hy2 hyb2
          go_wp2_with fail
          all_goals go_ret
          all_goals exact ⟨rfl, d', nd', _, ng, tr', HD3.out.set_dp _, hnd, HI1.out, HI2.out, by omega⟩
      ·have hbb : decide (b < c) = false := decide_eq_false hb
       go_wp2_with (go_at_call 188; refine (Tryz.internal_strconv_lower _ _).mono ?_; rintro e w' ⟨rfl, hw2⟩; obtain rfl := hw2.symm)
       all_goals
        go_loopg [5, 9] (s.size - (c + 2)).toNat (fun kq v5 v9 w' => ∃ (j e : Int), v5 = .int .i64 j ∧ v9 = .int .i64 e ∧ (c + 2 ≤ j ∧ j ≤ s.size) ∧ (kq : Int) + j = s.size ∧ (0 ≤ e ∧ e ≤ 100008) ∧ Aside0 (Dec w0 w' g d' nd' _ ng tr'))
        case atStart => exact ⟨_, _, rfl, rfl, by omega, by omega, by omega, by first | exact ⟨HD2.out.set_dp _⟩ | exact HD2⟩
        case round =>
         obtain ⟨j, e, rfl, rfl, hj, hkj, he, HD3⟩ := hrel
         obtain ⟨y2, hy2⟩ : ∃ y2, y2 = bt s j := ⟨_, rfl⟩
         have hyb2 : ∀ h : j.toNat < s.size, ((s[j.toNat]'h).toNat : Int) = y2 := fun h => by rw [hy2]; exact bt_at s j h
         have h0j : 0 ≤ j := by omega
         have p1 := HD3.out.cdp
         have p3 := HD3.out.fr
         by_cases e7 : j < s.size
         ·have hdg := HHD.out j (by omega) e7
          rw [← hy2] at hdg
          clear hy2
          have y1 : (y2 == 95) = false := beq_eq_false_iff_ne.mpr (by omega)
          have y3 : decide (48 ≤ y2) = true := decide_eq_true (by omega)
          have y4 : decide (y2 ≤ 57) = true := decide_eq_true (by omega)
          go_wp2_with fail
          all_goals (go_roundg (gk - 1); (case measure => omega); (case rel => exact ⟨_, _, rfl, rfl, by omega, by omega, by omega, HD3⟩))
         ·have e8 : j = s.size := by omega
          subst e8
          clear hy2 hyb2
          go_wp2_with fail
          all_goals go_ret
          all_goals exact ⟨rfl, d', nd', _, ng, tr', HD3.out.set_dp _, hnd, HI1.out, HI2.out, by omega⟩
     ·by_cases hb : b < c
      ·have hbb : decide (b < c) = true := decide_eq_true hb
       go_wp2_with (go_at_call 188; refine (Tryz.internal_strconv_lower _ _).mono ?_; rintro e w' ⟨rfl, hw2⟩; obtain rfl := hw2.symm)
       all_goals
        go_loopg [5, 9] (s.size - (c + 2)).toNat (fun kq v5 v9 w' => ∃ (j e : Int), v5 = .int .i64 j ∧ v9 = .int .i64 e ∧ (c + 2 ≤ j ∧ j ≤ s.size) ∧ (kq : Int) + j = s.size ∧ (0 ≤ e ∧ e ≤ 100008) ∧ Aside0 (Dec w0 w' g d' nd' _ ng tr'))
        case atStart => exact ⟨_, _, rfl, rfl, by omega, by omega, by omega, by first | exact ⟨HD2.out.set_dp _⟩ | exact HD2⟩
        case round =>
         obtain ⟨j, e, rfl, rfl, hj, hkj, he, HD3⟩ := hrel
         obtain ⟨y2, hy2⟩ : ∃ y2, y2 = bt s j := ⟨_, rfl⟩
         have hyb2 : ∀ h : j.toNat < s.size, ((s[j.toNat]'h).toNat : Int) = y2 := fun h => by rw [hy2]; exact bt_at s j h
         have h0j : 0 ≤ j := by omega
         have p1 := HD3.out.cdp
         have p3 := HD3.out.fr
         by_cases e7 : j < s.size
         ·have hdg := HHD.out j (by omega) e7
          rw [← hy2] at hdg
          clear hy2
          have y1 : (y2 == 95) = false := beq_eq_false_iff_ne.mpr (by omega)
          have y3 : decide (48 ≤ y2) = true := decide_eq_true (by omega)
          have y4 : decide (y2 ≤ 57) = true := decide_eq_true (by omega)
          go_wp2_with fail
          all_goals (go_roundg (gk - 1); (case measure => omega); (case rel => exact ⟨_, _, rfl, rfl, by omega, by omega, by omega, HD3⟩))
         ·have e8 : j = s.size := by omega
          subst e8
          clear hy2 hyb2
          go_wp2_with fail
          all_goals go_ret
          all_goals exact ⟨rfl, d', nd', _, ng, tr', HD3.out.set_dp _, hnd, HI1.out, HI2.out, by omega⟩
      ·have hbb : decide (b < c) = false := decide_eq_false hb
       go_wp2_with (go_at_call 188; refine (Tryz.internal_strconv_lower _ _).mono ?_; rintro e w' ⟨rfl, hw2⟩; obtain rfl := hw2.symm)
       all_goals
        go_loopg [5, 9] (s.size - (c + 2)).toNat (fun kq v5 v9 w' => ∃ (j e : Int), v5 = .int .i64 j ∧ v9 = .int .i64 e ∧ (c + 2 ≤ j ∧ j ≤ s.size) ∧ (kq : Int) + j = s.size ∧ (0 ≤ e ∧ e ≤ 100008) ∧ Aside0 (Dec w0 w' g d' nd' _ ng tr'))
        case atStart => exact ⟨_, _, rfl, rfl, by omega, by omega, by omega, by first | exact ⟨HD2.out.set_dp _⟩ | exact HD2⟩
        case round =>
         obtain ⟨j, e, rfl, rfl, hj, hkj, he, HD3⟩ := hrel
         obtain ⟨y2, hy2⟩ : ∃ y2, y2 = bt s j := ⟨_, rfl⟩
         have hyb2 : ∀ h : j.toNat < s.size, ((s[j.toNat]'h).toNat : Int) = y2 := fun h => by rw [hy2]; exact bt_at s j h
         have h0j : 0 ≤ j := by omega
         have p1 := HD3.out.cdp
         have p3 := HD3.out.fr
         by_cases e7 : j < s.size
         ·have hdg := HHD.out j (by omega) e7
          rw [← hy2] at hdg
          clear hy2
          have y1 : (y2 == 95) = false := beq_eq_false_iff_ne.mpr (by omega)
          have y3 : decide (48 ≤ y2) = true := decide_eq_true (by omega)
          have y4 : decide (y2 ≤ 57) = true := decide_eq_true (by omega)
          go_wp2_with fail
          all_goals (go_roundg (gk - 1); (case measure => omega); (case rel => exact ⟨_, _, rfl, rfl, by omega, by omega, by omega, HD3⟩))
         ·have e8 : j = s.size := by omega
          subst e8
          clear hy2 hyb2
          go_wp2_with fail
          all_goals go_ret
          all_goals exact ⟨rfl, d', nd', _, ng, tr', HD3.out.set_dp _, hnd, HI1.out, HI2.out, by omega⟩
  ·have e5 : c = s.size := by omega
   have e6 : i = s.size := by omega
   subst e5
   subst e6
   have h0c : decide (a < (s.size : Int)) = true := decide_eq_true (by omega)
   by_cases hb : b < s.size
   ·have hbb : decide (b < (s.size : Int)) = true := decide_eq_true hb
    go_wp2_with fail
    go_ret
    exact ⟨rfl, d', nd', _, ng, tr', by first | exact HD2.out | exact HD2.out.set_dp _, hnd, HI1.out, HI2.out, by omega⟩
   ·have hbb : decide (b < (s.size : Int)) = false := decide_eq_false hb
    go_wp2_with fail
    go_ret
    exact ⟨rfl, d', nd', _, ng, tr', by first | exact HD2.out | exact HD2.out.set_dp _, hnd, HI1.out, HI2.out, by omega⟩
end Go.Proofs.YtgiioglmkogpkaaGreatDoor.F
namespace Go.Proofs.YtgiioglmkogpkaaGreatDoor.F
open Go.RowKit Go.Proofs.YtgiioglmkogpkaaGreatDoorW.PrintWords Go.Proofs.YtgiioglmkogpkaaGreatDoorW.PrintLast Go.Proofs.YtgiioglmkogpkaaGreatDoorW.PrintMore
open M
set_option maxHeartbeats 8000000
set_option maxRecDepth 8192
theorem set_calls (s : ByteArray) (a b c : Int) (w0 w : World) (g : Nat) (d : Nat → Int) (ng tr : Bool) (H : Dec w0 w g d 0 0 ng tr) (hz : s.size < 1000000000) (N : NumAt s a b c) :
  Calls Tryz.prog 222 #[.pointer (some ⟨g, 0, none⟩), .string s] w (SPost w0 g) := by
 have hs : 0 < s.size := by rcases N.a0 with h | h <;> (have := N.ab; have := N.bc; have := N.cs; omega)
 have hne : s ≠ ByteArray.empty := by rintro rfl; simp at hs
 have hb0 : ∀ h : 0 < s.size, ((s[0]'h).toNat : Int) = bt s 0 := bt_at s 0
 have c0 := H.cnd
 have c1 := H.cdp
 have c2 := H.cng
 have c3 := H.ctr
 have f0 := H.fr
 rcases N.a0 with rfl | ⟨rfl, h45⟩
 ·have hd0 := N.ints 0 (by omega) N.ab
  have h43 : (bt s 0 == 43) = false := beq_eq_false_iff_ne.mpr (by omega)
  have h45 : (bt s 0 == 45) = false := beq_eq_false_iff_ne.mpr (by omega)
  have HN := Aside0.mk N
  clear N
  have HD := Aside0.mk H
  clear H
  go_enter Tryz.func222, Tryz.ntmps222
  go_wp2_with fail
  have HD1 := (HD.out.set_ng false).set_tr false
  exact stLoop_wp s 0 b c w0 _ g d false false _ (by assumption) _ _ _ _ _ _ _ _ _ _ _ _ _ _ _ _ _ _ _ _ _ _ _ _ _ _ _ _ HD1 hz HN.out
 ·have hd0 := N.ints 1 (by omega) N.ab
  have h43 : (bt s 0 == 43) = false := beq_eq_false_iff_ne.mpr (by omega)
  have h45 : (bt s 0 == 45) = true := beq_iff_eq.mpr (by omega)
  have HN := Aside0.mk N
  clear N
  have HD := Aside0.mk H
  clear H
  go_enter Tryz.func222, Tryz.ntmps222
  go_wp2_with fail
  have HD1 := ((HD.out.set_ng false).set_tr false).set_ng true
  exact stLoop_wp s 1 b c w0 _ g d true false _ (by assumption) _ _ _ _ _ _ _ _ _ _ _ _ _ _ _ _ _ _ _ _ _ _ _ _ _ _ _ _ HD1 hz HN.out
end Go.Proofs.YtgiioglmkogpkaaGreatDoor.F

/- Texts behind the law FnGjAnyLines: part 1. -/
import Derived.Below
import Derived.Deep.Draws
import Derived.Deep.AppendLies
import Derived.Maps.AppendAt
import Derived.OwnWalk
import Derived.Laws.BytesArg
import Derived.Laws.MakeOwn
import Derived.Laws.OwnMore
import Derived.Deep.OwnRows
import Derived.Tactics
import Derived.Lib.ConvBytes
import Derived.Laws.Slices
import Derived.WalkKit
import Derived.KernelRfl
import Derived.RowKit3
import Derived.Deep.LoopGhost
import Derived.Deep.QuietTactic
import Derived.BigQuiet
import Derived.WideLaws
import Derived.Deep.DeepCutAuto
import Derived.Deep.CutBlock
import Derived.Deep.RegionHeld3
import Derived.Laws.Rows
import Derived.Lib.AppendStr
import Derived.ArgAppend
import Derived.Laws.IdiomCopy
import Derived.RowKit
import Derived.OrdersHeld
import Derived.Laws.BitsLemmas
import Derived.Laws.StructEq
import Derived.Test.YtgiioglmkogpkaaGreatDoorProg
set_option linter.unusedVariables false
set_option linter.unusedSimpArgs false
namespace Go.Proofs.YtgiioglmkogpkaaGreatDoorW.PrintWords
open Go.RowKit
structure Aside0 (p : Prop) : Prop where mk :: (out : p)
structure Drawn0 (w w' : World) : Prop where mk :: (out : ∃ n, w' = w.drewN n)
theorem Drawn0.refl (w : World) : Drawn0 w w := ⟨⟨0, rfl⟩⟩
theorem Drawn0.step {w w' : World} (h : Drawn0 w w') (n : Nat) : Drawn0 w (w'.drewN n) := by
 obtain ⟨m, rfl⟩ := h
 exact ⟨⟨m + n, World.drewN_drewN ..⟩⟩
theorem Drawn0.below {w w' : World} (h : Drawn0 w w') : Below w.heap.size w w' := by
 obtain ⟨n, rfl⟩ := h
 induction n with
 | zero => exact Below.refl _ _
 | succ n ih => rw [← World.drew_drewN]; exact ih.drew
def rd (xs : List Int) (i : Int) : Int := xs.getD i.toNat 0
def bt (s : ByteArray) (i : Int) : Int := if h : i.toNat < s.size then ((s[i.toNat]'h).toNat : Int) else 0
theorem bt_at (s : ByteArray) (i : Int) : ∀ h : i.toNat < s.size, ((s[i.toNat]'h).toNat : Int) = bt s i := fun h => by simp [bt, h]
theorem bt_range (s : ByteArray) (i : Int) : 0 ≤ bt s i ∧ bt s i ≤ 255 := by
 unfold bt
 split
 ·rename_i h
  have := (s[i.toNat]'h).toNat_lt
  omega
 ·omega
def nums (k : IntKind) (xs : List Int) : List Value := xs.map fun x => .int k x
theorem nums_length (k : IntKind) (xs : List Int) : (nums k xs).length = xs.length := by simp [nums]
theorem below_alloc {w W : World} (h : Below w.heap.size w W) (o : Obj) : Below w.heap.size w (W.alloc o) := h.alloc h.size o
theorem below_drew {B : Nat} {w W : World} (h : Below B w W) : Below B w W.drew := ⟨h.os, h.tape, h.output, h.size, h.block⟩
theorem pw_below_drewN {B : Nat} {w W : World} (h : Below B w W) (n : Nat) : Below B w (W.drewN n) := ⟨h.os, h.tape, h.output, h.size, h.block⟩
theorem below_then {B : Nat} {w w1 w2 : World} (h : Below B w w1) (hB : B ≤ w1.heap.size) (k : Below w1.heap.size w1 w2) : Below B w w2 :=
 h.trans ⟨k.os, k.tape, k.output, k.size, fun i hi => k.block i (Nat.lt_of_lt_of_le hi hB)⟩
theorem grown_of_below {w w1 : World} (h : Below w.heap.size w w1) (row : Option Nat) : w.grownBy w1 row := ⟨h.os, h.tape, h.output, h.size, fun i hi _ => h.block i hi⟩
theorem pw_cell_below {w w1 : World} (h : Below w.heap.size w w1) {a : Addr} {v : Value} (hc : w.cell? a = some v) : w1.cell? a = some v := (h.cell (World.block_lt_of_cell? w a hc)).trans hc
theorem add_plain (g j : Nat) : (⟨g, 0, none⟩ : Addr).add j = ⟨g, j, none⟩ := by unfold Addr.add; split <;> simp_all
def ReadsInt (w : World) (k : IntKind) (A : Option Addr) (n : Nat) (xs : List Int) : Prop :=
 xs.length = n ∧ n ≤ 9223372036854775807 ∧ (0 < n → ∃ ad, A = some ad ∧ ∀ j, j < n → w.cell? (ad.add j) = some (.int k (xs.getD j 0)))
theorem own_nil (W : World) (base : Nat) (e : TypeId) (size : Nat) : W.ownsRow base e size (.slice none 0 0) 0 [] := ⟨by simp, .inl ⟨rfl, rfl⟩⟩
theorem own_base {w : World} {base : Nat} {e : TypeId} {size n : Nat} {v : Value} {xs : List Value} (h : w.ownsRow base e size v n xs) (k : Nat) (hk : v.ownBlock = some k) : base ≤ k := by
 rcases h.2 with ⟨rfl, _⟩ | ⟨g, cap, cur, rfl, hb, _⟩
 ·simp [Value.ownBlock] at hk
 ·have : g = k := by simpa [Value.ownBlock] using hk
  omega
theorem own_lt {w : World} {base : Nat} {e : TypeId} {size n : Nat} {v : Value} {xs : List Value} (h : w.ownsRow base e size v n xs) (k : Nat) (hk : v.ownBlock = some k) : k < w.heap.size := by
 rcases h.2 with ⟨rfl, _⟩ | ⟨g, cap, cur, rfl, hb, hh, _⟩
 ·simp [Value.ownBlock] at hk
 ·have : g = k := by simpa [Value.ownBlock] using hk
  subst this
  exact (Array.getElem?_eq_some_iff.1 hh).1
theorem own_string {P : Program} {w : World} {base n : Nat} {e' src dst e : TypeId} {v : Value} {xs : List Int} (hs : P.underlying src = some (.slice e)) (he : P.underlying e = some (.int .u8)) (hd : P.underlying dst = some .string)
  (h : w.ownsRow base e' 1 v n (nums .u8 xs)) : (convert src dst v).run P w = .ok (.string (strOfNums xs)) w := by
 have hl : xs.length = n := by have := h.1; simp [nums] at this; exact this
 rcases h.2 with ⟨rfl, rfl⟩ | ⟨g, cap, cur, rfl, _⟩
 ·obtain rfl : xs = [] := List.eq_nil_of_length_eq_zero hl
  exact run_convert_bytes_nil w src e hs he 0 0 dst hd
 ·refine run_convert_bytes_arg w src e hs he g 0 n cap xs hl (fun i hi => ?_) dst hd
  have hc := h.cells (g := g) rfl i (.int .u8 (xs.getD i 0)) (by simp [nums, List.getElem?_eq_getElem (show i < xs.length by omega), List.getD_eq_getElem?_getD])
  have ha : (⟨g, 0, none⟩ : Addr).add i = ⟨g, 0 + i, none⟩ := by unfold Addr.add; split <;> simp_all
  rwa [ha] at hc
section
variable {P : Program} {ops : Array Oper} {rest : List Oper} {o : Oper} {a : Act} {Q : Exit → Act → World → Prop}
theorem print_append {w0 W : World} (base : Nat) (hgd : o.guard = none) (s x : Operand) (t e : TypeId) (z : Value) (bytes : Nat)
  (ho : o.op = .call { callee := .builtin .append, args := #[s, x], argTypes := #[t, t] })
  (ht : P.underlying t = some (.slice e)) (hinfo : (P.info? e).map (fun i => (i.zero, i.size, i.bytes)) = some (some z, 1, bytes)) (hz : z.cells.size = 1) (hb0 : 0 < bytes)
  (v : Value) (xs : List Value) (y : Value) (hs : a.eval s = v) (hx : a.eval x = .slice (some ⟨W.heap.size, 0, none⟩) 1 1) (h1 : y.oneCell' = true)
  (HO : W.ownsRow base e 1 v xs.length xs) (HB : Below base w0 W) (hbase : base ≤ W.heap.size) (hl : (xs.length + 1) * bytes ≤ 140737488355328)
  (h : ∀ v1 w1, w1.ownsRow base e 1 v1 (xs ++ [y]).length (xs ++ [y]) → Below base w0 w1 → W.grownBy w1 v.ownBlock → (v1.ownBlock = v.ownBlock ∨ ∃ b, v1.ownBlock = some b ∧ W.heap.size ≤ b) → wpList P ops Q rest (a.put o.dst v1) w1) :
  wpList P ops Q (o :: rest) a (W.alloc (.cells #[y] e)) := by
 obtain ⟨i0, hi, hzz⟩ := Option.map_eq_some_iff.1 hinfo
 simp only [Prod.mk.injEq] at hzz
 obtain ⟨hz0, hz1, hz2⟩ := hzz
 have hlen : xs.length + 1 ≤ 140737488355328 := Nat.le_trans (Nat.le_mul_of_pos_right _ hb0) hl
 refine wpList_append_own_at (W.alloc (.cells #[y] e)) hgd s x t ho base e i0 z 1 bytes ht hi hz0 hz1 hz2 hz (by omega) v xs.length xs hs (HO.alloc _) ⟨W.heap.size, 0, none⟩ 1 1 [y] hx rfl
  (World.news_of_block (cs := #[y]) (t := e) (fr := (0, 0)) (heap_alloc_new W _)) (by simpa using h1) (by simp only [maxLen]; omega) hl (by simp; omega) ?_
 intro v1 w1 hown hg _ hat
 refine h v1 w1 (by simpa using hown) ((HB.alloc hbase _).grown hg (by simp; omega) (own_base HO)) (World.grownBy.trans (World.grownBy_alloc W _ _) hg) ?_
 rcases hat with hat | hat
 ·exact .inl hat
 ·exact .inr ⟨_, hat, by simp⟩
theorem print_append_num {w0 W : World} (base : Nat) (hgd : o.guard = none) (s x : Operand) (t e : TypeId) (k : IntKind) (bytes : Nat)
  (ho : o.op = .call { callee := .builtin .append, args := #[s, x], argTypes := #[t, t] })
  (ht : P.underlying t = some (.slice e)) (hinfo : (P.info? e).map (fun i => (i.zero, i.size, i.bytes)) = some (some (.int k 0), 1, bytes)) (hb0 : 0 < bytes)
  (v : Value) (xs : List Int) (y : Int) (hs : a.eval s = v) (hx : a.eval x = .slice (some ⟨W.heap.size, 0, none⟩) 1 1)
  (HO : W.ownsRow base e 1 v xs.length (nums k xs)) (HB : Below base w0 W) (hbase : base ≤ W.heap.size) (hl : (xs.length + 1) * bytes ≤ 140737488355328)
  (h : ∀ v1 w1, w1.ownsRow base e 1 v1 (xs ++ [y]).length (nums k (xs ++ [y])) → Below base w0 w1 → W.grownBy w1 v.ownBlock → (v1.ownBlock = v.ownBlock ∨ ∃ b, v1.ownBlock = some b ∧ W.heap.size ≤ b) → wpList P ops Q rest (a.put o.dst v1) w1) :
  wpList P ops Q (o :: rest) a (W.alloc (.cells #[.int k y] e)) :=
 print_append base hgd s x t e (.int k 0) bytes ho ht hinfo rfl hb0 v (nums k xs) (.int k y) hs hx rfl (by rw [nums_length]; exact HO) HB hbase (by rw [nums_length]; exact hl)
  fun v1 w1 hown hB hg hat => h v1 w1 (by simpa [nums] using hown) hB hg hat
end
section
variable {P : Program}
end
theorem own_at {W : World} {base g n cap : Nat} {e : TypeId} {k : IntKind} {xs : List Int} (h : W.ownsRow base e 1 (.slice (some ⟨g, 0, none⟩) n cap) n (nums k xs)) (i : Int) (h0 : 0 ≤ i) (h1 : i < n) :
  W.cell? ⟨g, i.toNat, none⟩ = some (.int k (rd xs i)) ∧ W.frozen? ⟨g, i.toNat, none⟩ = false := by
 have hl : xs.length = n := by have := h.1; simp [nums] at this; exact this
 constructor
 ·have hc := h.cells (g := g) rfl i.toNat (.int k (rd xs i)) (by simp [nums, rd, List.getElem?_eq_getElem (show i.toNat < xs.length by omega), List.getD_eq_getElem?_getD])
  rwa [add_plain] at hc
 ·rcases h.2 with ⟨h', _⟩ | ⟨g', cap', cur, h', _, hh, _⟩
  ·cases h'
  ·have : g = g' := by injection h' with h'; injection h' with h'; injection h' with h'
   subst this
   simp [World.frozen?, hh]
theorem own_store {W : World} {base g n cap : Nat} {e : TypeId} {k : IntKind} {xs : List Int} (h : W.ownsRow base e 1 (.slice (some ⟨g, 0, none⟩) n cap) n (nums k xs)) (i x : Int) :
  (W.setCell ⟨g, i.toNat, none⟩ (.int k x)).ownsRow base e 1 (.slice (some ⟨g, 0, none⟩) n cap) n (nums k (xs.set i.toNat x)) ∧ W.grownBy (W.setCell ⟨g, i.toNat, none⟩ (.int k x)) (some g) := by
 have hs := h.stored i.toNat (.int k x)
 have he : (nums k xs).set i.toNat (.int k x) = nums k (xs.set i.toNat x) := by simp [nums, List.map_set]
 rwa [he] at hs
section
variable {P : Program} {ops : Array Oper} {rest : List Oper} {o : Oper} {a : Act} {Q : Exit → Act → World → Prop}
end
def bytesOf (s : ByteArray) : List Int := s.data.toList.map fun b => (b.toNat : Int)
theorem data_length (s : ByteArray) : s.data.toList.length = s.size := by rw [Array.length_toList]; rfl
theorem bytesOf_length (s : ByteArray) : (bytesOf s).length = s.size := by rw [bytesOf, List.length_map, data_length]
theorem rd_bytesOf (s : ByteArray) (i : Int) : rd (bytesOf s) i = bt s i := by
 unfold rd bt bytesOf
 split
 ·rename_i h
  have h' : i.toNat < s.data.toList.length := by rw [data_length]; exact h
  simp [List.getD_eq_getElem?_getD, List.getElem?_eq_getElem h']
  rfl
 ·rename_i h
  have h' : s.data.toList.length ≤ i.toNat := by rw [data_length]; omega
  simp [List.getD_eq_getElem?_getD, List.getElem?_eq_none h']
theorem bytes_reads (W : World) (e : TypeId) (s : ByteArray) (hs : s.size ≤ 9223372036854775807) : ReadsInt (Lib.bytesWorld W e s) .u8 (some ⟨W.heap.size, 0, none⟩) s.size (bytesOf s) := by
 refine ⟨bytesOf_length s, hs, fun _ => ⟨_, rfl, fun j hj => ?_⟩⟩
 rw [add_plain, Lib.bytesWorld_cell W e s j hj]
 have h' : j < s.data.toList.length := by rw [data_length]; exact hj
 simp [bytesOf, List.getD_eq_getElem?_getD, List.getElem?_eq_getElem h']
theorem bytes_below {B : Nat} {w W : World} (h : Below B w W) (hB : B ≤ W.heap.size) (e : TypeId) (s : ByteArray) : Below B w (Lib.bytesWorld W e s) :=
 h.trans ⟨rfl, rfl, rfl, by rw [Lib.bytesWorld_size]; omega, fun i hi => Lib.bytesWorld_at_old W e s i (by omega)⟩
def Reps {α : Type} (R : α → List Value → Prop) (size : Nat) (ps : List α) (cs : List Value) : Prop :=
 cs.length = ps.length * size ∧ ∀ j p, ps[j]? = some p → R p ((cs.drop (j * size)).take size)
theorem Reps.none {α : Type} (R : α → List Value → Prop) (size : Nat) : Reps R size [] [] := ⟨by simp, fun j p h => by simp at h⟩
theorem Reps.snoc {α : Type} {R : α → List Value → Prop} {size : Nat} {ps : List α} {cs c : List Value} {p : α} (h : Reps R size ps cs) (hp : R p c) (hc : c.length = size) : Reps R size (ps ++ [p]) (cs ++ c) := by
 refine ⟨by rw [List.length_append, h.1, hc, List.length_append, List.length_singleton, Nat.add_mul, Nat.one_mul], fun j q hq => ?_⟩
 rcases Nat.lt_or_ge j ps.length with hj | hj
 ·rw [List.getElem?_append_left hj] at hq
  have h1 : j * size + size ≤ cs.length := by rw [h.1, ← Nat.succ_mul]; exact Nat.mul_le_mul_right _ hj
  have h2 := h.2 j q hq
  rw [List.drop_append_of_le_length (by omega), List.take_append_of_le_length (by rw [List.length_drop]; omega)]
  exact h2
 ·have hj' : j = ps.length := by
   have := (List.getElem?_eq_some_iff.1 hq).1
   rw [List.length_append, List.length_singleton] at this
   omega
  subst hj'
  have hq' : p = q := by simpa using hq
  subst hq'
  rw [← h.1, List.drop_left, ← hc, List.take_length]
  exact hp
theorem Reps.imp_ {α : Type} {R R' : α → List Value → Prop} {size : Nat} {ps : List α} {cs : List Value} (h : Reps R size ps cs) (hR : ∀ p c, R p c → R' p c) : Reps R' size ps cs := ⟨h.1, fun j p hj => hR _ _ (h.2 j p hj)⟩
def ReadsRow {α : Type} (R : α → List Value → Prop) (size : Nat) (w : World) (A : Option Addr) (n : Nat) (ps : List α) : Prop :=
 ps.length = n ∧ n ≤ 9223372036854775807 ∧ (0 < n → ∃ ad, A = some ad ∧ ∀ j p, ps[j]? = some p → ∃ c, c.length = size ∧ R p c ∧ ∀ i u, c[i]? = some u → w.cell? (ad.add (j * size + i)) = some u)
theorem ReadsRow.get_ {α : Type} {R : α → List Value → Prop} {size : Nat} {w : World} {A : Option Addr} {n : Nat} {ps : List α} (h : ReadsRow R size w A n ps) (d : α) (i : Int) (h0 : 0 ≤ i) (h1 : i < n) :
  ∃ ad c, A = some ad ∧ c.length = size ∧ R (ps.getD i.toNat d) c ∧ ∀ j u, c[j]? = some u → w.cell? (ad.add (i.toNat * size + j)) = some u := by
 obtain ⟨ad, e, hc⟩ := h.2.2 (by omega)
 have hl : i.toNat < ps.length := by have := h.1; omega
 obtain ⟨c, hs, hr, hcell⟩ := hc i.toNat _ (List.getElem?_eq_getElem hl)
 refine ⟨ad, c, e, hs, ?_, hcell⟩
 rw [List.getD_eq_getElem?_getD, List.getElem?_eq_getElem hl]
 exact hr
theorem ReadsRow.imp_ {α : Type} {R R' : α → List Value → Prop} {size : Nat} {w w1 : World} {A : Option Addr} {n : Nat} {ps : List α} (h : ReadsRow R size w A n ps) (hb : Below w.heap.size w w1) (hR : ∀ p c, R p c → R' p c) : ReadsRow R' size w1 A n ps :=
 ⟨h.1, h.2.1, fun hn => by
  obtain ⟨ad, e, hc⟩ := h.2.2 hn
  refine ⟨ad, e, fun j p hj => ?_⟩
  obtain ⟨c, hs, hr, hcell⟩ := hc j p hj
  exact ⟨c, hs, hR _ _ hr, fun i u hu => pw_cell_below hb (hcell i u hu)⟩⟩
theorem own_reads_row {α : Type} {R : α → List Value → Prop} {w : World} {base n size : Nat} {e : TypeId} {v : Value} {ps : List α} {cs : List Value} (h : w.ownsRow base e size v n cs) (hR : Reps R size ps cs) (hn : ps.length = n) :
  ∃ A c, v = .slice A n c ∧ ReadsRow R size w A n ps := by
 rcases Nat.eq_zero_or_pos n with h0 | h0
 ·rcases h.2 with ⟨rfl, rfl⟩ | ⟨g, cap, cur, rfl, _⟩
  ·exact ⟨none, 0, rfl, hn, by omega, fun hp => absurd hp (by omega)⟩
  ·exact ⟨_, cap, rfl, hn, by omega, fun hp => absurd hp (by omega)⟩
 ·obtain ⟨g, cap, rfl, _, _⟩ := h.form h0
  have hm : n ≤ 9223372036854775807 := by
   rcases h.2 with ⟨_, h1⟩ | ⟨g', cap', cur, he, _, _, h1, h2, _⟩
   ·omega
   ·simp only [maxLen] at h2
    omega
  refine ⟨_, cap, rfl, hn, hm, fun _ => ⟨_, rfl, fun j p hj => ⟨(cs.drop (j * size)).take size, ?_, hR.2 j p hj, fun i u hu => ?_⟩⟩⟩
  ·have hjl := (List.getElem?_eq_some_iff.1 hj).1
   have h1 : j * size + size ≤ cs.length := by rw [hR.1, ← Nat.succ_mul]; exact Nat.mul_le_mul_right _ hjl
   rw [List.length_take, List.length_drop]
   omega
  ·refine h.cells (g := g) rfl _ u ?_
   rw [List.getElem?_take] at hu
   split at hu
   ·rw [List.getElem?_drop] at hu
    exact hu
   ·cases hu
theorem add_field (ad : Addr) (m j : Nat) (hj : 0 < j) : ad.add (m + j) = ⟨(ad.add m).block, (ad.add m).off + j, none⟩ := by
 unfold Addr.add
 by_cases hm : m = 0
 ·subst hm
  simp [Nat.ne_of_gt hj]
 ·simp [hm, Nat.add_assoc]
section
variable {P : Program} {ops : Array Oper} {rest : List Oper} {o : Oper} {a : Act} {Q : Exit → Act → World → Prop}
theorem print_append_cells {w0 W : World} (base : Nat) (hgd : o.guard = none) (s x : Operand) (t e : TypeId) (z : Value) (size bytes : Nat)
  (ho : o.op = .call { callee := .builtin .append, args := #[s, x], argTypes := #[t, t] })
  (ht : P.underlying t = some (.slice e)) (hinfo : (P.info? e).map (fun i => (i.zero, i.size, i.bytes)) = some (some z, size, bytes)) (hz : z.cells.size = size) (hs0 : 0 < size) (hb0 : 0 < bytes)
  (v : Value) (n : Nat) (xs ys : List Value) (hs : a.eval s = v) (hx : a.eval x = .slice (some ⟨W.heap.size, 0, none⟩) 1 1) (hys : ys.length = size) (h1 : ∀ u ∈ ys, u.oneCell' = true)
  (HO : W.ownsRow base e size v n xs) (HB : Below base w0 W) (hbase : base ≤ W.heap.size) (hl : (n + 1) * bytes ≤ 140737488355328)
  (h : ∀ v1 w1, w1.ownsRow base e size v1 (n + 1) (xs ++ ys) → Below base w0 w1 → W.grownBy w1 v.ownBlock → (v1.ownBlock = v.ownBlock ∨ ∃ b, v1.ownBlock = some b ∧ W.heap.size ≤ b) → wpList P ops Q rest (a.put o.dst v1) w1) :
  wpList P ops Q (o :: rest) a (W.alloc (.cells ys.toArray e)) := by
 obtain ⟨i0, hi, hzz⟩ := Option.map_eq_some_iff.1 hinfo
 simp only [Prod.mk.injEq] at hzz
 obtain ⟨hz0, hz1, hz2⟩ := hzz
 have hlen : n + 1 ≤ 140737488355328 := Nat.le_trans (Nat.le_mul_of_pos_right _ hb0) hl
 refine wpList_append_own_at (W.alloc (.cells ys.toArray e)) hgd s x t ho base e i0 z size bytes ht hi hz0 hz1 hz2 hz hs0 v n xs hs (HO.alloc _) ⟨W.heap.size, 0, none⟩ 1 1 ys hx (by rw [hys]; simp)
  (by simpa using World.news_of_block (cs := ys.toArray) (t := e) (fr := (0, 0)) (heap_alloc_new W (.cells ys.toArray e))) h1 (by simp only [maxLen]; omega) hl (by simp; omega) ?_
 intro v1 w1 hown hg _ hat
 refine h v1 w1 hown ((HB.alloc hbase _).grown hg (by simp; omega) (own_base HO)) (World.grownBy.trans (World.grownBy_alloc W _ _) hg) ?_
 rcases hat with hat | hat
 ·exact .inl hat
 ·exact .inr ⟨_, hat, by simp⟩
end
theorem blk_set {w : World} {g : Nat} {t : TypeId} {cs : Array Value} (h : w.heap[g]? = some (.cells cs t (0, 0))) (i : Nat) (u : Value) : (w.setCell ⟨g, i, none⟩ u).heap[g]? = some (.cells (cs.setIfInBounds i u) t (0, 0)) := by
 simp [World.setCell, Array.getElem?_modify, h]
theorem blk_far {w : World} {g : Nat} {t : TypeId} {cs : Array Value} (h : w.heap[g]? = some (.cells cs t (0, 0))) {p : Addr} (hp : g ≠ p.block) (u : Value) : (w.setCell p u).heap[g]? = some (.cells cs t (0, 0)) := (Below.heap_setCell w p u g hp).trans h
theorem blk_lt {w : World} {g : Nat} {o : Obj} (h : w.heap[g]? = some o) : g < w.heap.size := (Array.getElem?_eq_some_iff.1 h).1
theorem blk_cell {w : World} {g : Nat} {t : TypeId} {cs : Array Value} (h : w.heap[g]? = some (.cells cs t (0, 0))) (i : Nat) : w.cell? ⟨g, i, none⟩ = cs[i]? := cell_of_row w g i cs t (0, 0) h
theorem blk_frozen {w : World} {g : Nat} {t : TypeId} {cs : Array Value} (h : w.heap[g]? = some (.cells cs t (0, 0))) (i : Nat) : w.frozen? ⟨g, i, none⟩ = false := by simp [World.frozen?, h]
theorem blk_grown {w w1 : World} {g : Nat} {o : Obj} {row : Option Nat} (h : w.heap[g]? = some o) (hg : w.grownBy w1 row) (hne : some g ≠ row) : w1.heap[g]? = some o := (hg.block g (blk_lt h) hne).trans h
def KeepBut (w w' : World) (g : Nat) (row : Option Nat) : Prop := w.heap.size ≤ w'.heap.size ∧ ∀ i, i < w.heap.size → i ≠ g → some i ≠ row → w'.heap[i]? = w.heap[i]?
theorem KeepBut.refl (w : World) (g : Nat) (row : Option Nat) : KeepBut w w g row := ⟨Nat.le_refl _, fun _ _ _ _ => rfl⟩
theorem KeepBut.of_grown {w w1 : World} {row : Option Nat} (h : w.grownBy w1 row) (g : Nat) : KeepBut w w1 g row := ⟨h.size, fun i hi _ hr => h.block i hi hr⟩
theorem KeepBut.set_ {w w1 : World} {g : Nat} {row : Option Nat} (h : KeepBut w w1 g row) (j : Nat) (u : Value) : KeepBut w (w1.setCell ⟨g, j, none⟩ u) g row :=
 ⟨by simpa [World.setCell] using h.1, fun i hi hg hr => (Below.heap_setCell w1 ⟨g, j, none⟩ u i hg).trans (h.2 i hi hg hr)⟩
theorem KeepBut.trans {w w1 w2 : World} {g : Nat} {row row1 : Option Nat} (h : KeepBut w w1 g row) (k : KeepBut w1 w2 g row1) (hr : row1 = row ∨ ∃ b, row1 = some b ∧ w.heap.size ≤ b) : KeepBut w w2 g row :=
 ⟨Nat.le_trans h.1 k.1, fun i hi hg hn => by
  refine (k.2 i (Nat.lt_of_lt_of_le hi h.1) hg ?_).trans (h.2 i hi hg hn)
  rcases hr with rfl | ⟨b, rfl, hb⟩
  ·exact hn
  ·intro e
   injection e with e
   omega⟩
theorem KeepBut.blk {w w1 : World} {g g' : Nat} {row : Option Nat} {o : Obj} (h : KeepBut w w1 g row) (hb : w.heap[g']? = some o) (hg : g' ≠ g) (hr : some g' ≠ row) : w1.heap[g']? = some o := (h.2 g' (blk_lt hb) hg hr).trans hb
def Ev {α : Type} (g : Nat → Option α) (r : α) : Prop := ∃ K, ∀ k, K ≤ k → g k = some r
theorem Ev.now {α : Type} (r : α) : Ev (fun _ => some r) r := ⟨0, fun _ _ => rfl⟩
theorem Ev.bind {α β : Type} {g : Nat → Option α} {f : Nat → α → Option β} {a : α} {r : β} (h : Ev g a) (k : Ev (fun n => f n a) r) : Ev (fun n => (g n).bind (f n)) r := by
 obtain ⟨K, h⟩ := h
 obtain ⟨K', k⟩ := k
 refine ⟨max K K', fun n hn => ?_⟩
 have h1 := h n (by omega)
 have h2 := k n (by omega)
 simp only [h1, Option.bind_some]
 exact h2
theorem Ev.step {α : Type} {g f : Nat → Option α} {r : α} (h : ∀ k, g (k + 1) = f k) (k : Ev f r) : Ev g r := by
 obtain ⟨K, k⟩ := k
 refine ⟨K + 1, fun n hn => ?_⟩
 obtain ⟨m, rfl⟩ : ∃ m, n = m + 1 := ⟨n - 1, by omega⟩
 rw [h]
 exact k m (by omega)
theorem Ev.congr {α : Type} {g f : Nat → Option α} {r : α} (h : ∀ k, g k = f k) (k : Ev f r) : Ev g r := by
 obtain ⟨K, k⟩ := k
 exact ⟨K, fun n hn => (h n).trans (k n hn)⟩
section
variable {P : Program} {ops : Array Oper} {o : Oper} {a : Act} {Q : Exit → Act → World → Prop} {K : Act → World → Prop}
theorem step_append_cells {w0 W : World} (base : Nat) (hw : Region.wanted o (yielded ops a.tmps) = true) (s x : Operand) (t e : TypeId) (z : Value) (size bytes : Nat)
  (ho : o.op = .call { callee := .builtin .append, args := #[s, x], argTypes := #[t, t] })
  (ht : P.underlying t = some (.slice e)) (hinfo : (P.info? e).map (fun i => (i.zero, i.size, i.bytes)) = some (some z, size, bytes)) (hz : z.cells.size = size) (hs0 : 0 < size) (hb0 : 0 < bytes)
  (v : Value) (n : Nat) (xs ys : List Value) (hs : a.eval s = v) (hx : a.eval x = .slice (some ⟨W.heap.size, 0, none⟩) 1 1) (hys : ys.length = size) (h1 : ∀ u ∈ ys, u.oneCell' = true)
  (HO : W.ownsRow base e size v n xs) (HB : Below base w0 W) (hbase : base ≤ W.heap.size) (hl : (n + 1) * bytes ≤ 140737488355328)
  (h : ∀ v1 w1, w1.ownsRow base e size v1 (n + 1) (xs ++ ys) → Below base w0 w1 → W.grownBy w1 v.ownBlock → (v1.ownBlock = v.ownBlock ∨ ∃ b, v1.ownBlock = some b ∧ W.heap.size ≤ b) → K (a.put o.dst v1) w1) :
  if Region.wanted o (yielded ops a.tmps) = true then Oper.wp P o a (W.alloc (.cells ys.toArray e)) K Q else K (a.put o.dst undef) (W.alloc (.cells ys.toArray e)) := by
 obtain ⟨i0, hi, hzz⟩ := Option.map_eq_some_iff.1 hinfo
 simp only [Prod.mk.injEq] at hzz
 obtain ⟨hz0, hz1, hz2⟩ := hzz
 have hlen : n + 1 ≤ 140737488355328 := Nat.le_trans (Nat.le_mul_of_pos_right _ hb0) hl
 rw [if_pos hw]
 obtain ⟨v1, w1, hr, hown, hg, _, hat⟩ := run_append_own_at (P := P) (W.alloc (.cells ys.toArray e)) base t o.type e i0 z size bytes ht hi hz0 hz1 hz2 hz hs0 v n xs (HO.alloc _) ⟨W.heap.size, 0, none⟩ 1 1 ys (by rw [hys]; simp)
  (by simpa using World.news_of_block (cs := ys.toArray) (t := e) (fr := (0, 0)) (heap_alloc_new W (.cells ys.toArray e))) h1 (by simp only [maxLen]; omega) hl (by simp; omega)
 unfold Oper.wp execOp
 simp only [ho, resolve, invoke, builtin, Sem.run_bind, Sem.run_pure, Result.andThen_ok, List.map_toArray, List.map_cons, List.map_nil, hs, hx, hr]
 refine h v1 w1 hown ((HB.alloc hbase _).grown hg (by simp; omega) (own_base HO)) (World.grownBy.trans (World.grownBy_alloc W _ _) hg) ?_
 rcases hat with hat | hat
 ·exact .inl hat
 ·exact .inr ⟨_, hat, by simp⟩
end
theorem own_weaken {w : World} {base base' : Nat} {e : TypeId} {size n : Nat} {v : Value} {xs : List Value} (h : w.ownsRow base e size v n xs) (hb : base' ≤ base) : w.ownsRow base' e size v n xs := by
 obtain ⟨h1, h2⟩ := h
 refine ⟨h1, ?_⟩
 rcases h2 with h2 | ⟨g, cap, cur, rfl, hg, r⟩
 ·exact .inl h2
 ·exact .inr ⟨g, cap, cur, rfl, Nat.le_trans hb hg, r⟩
section
variable {α : Type} {enc : α → Value} {d : α}
def encs (enc : α → Value) (xs : List α) : List Value := xs.map enc
def rdOf (d : α) (xs : List α) (i : Int) : α := xs.getD i.toNat d
theorem encs_length (xs : List α) : (encs enc xs).length = xs.length := by simp [encs]
def ReadsOf (enc : α → Value) (d : α) (w : World) (A : Option Addr) (n : Nat) (xs : List α) : Prop :=
 xs.length = n ∧ n ≤ 9223372036854775807 ∧ (0 < n → ∃ ad, A = some ad ∧ ∀ j, j < n → w.cell? (ad.add j) = some (enc (xs.getD j d)))
theorem ReadsOf.at_ {w : World} {A : Option Addr} {n : Nat} {xs : List α} (h : ReadsOf enc d w A n xs) (i : Int) (h0 : 0 ≤ i) (h1 : i < n) : ∃ ad, A = some ad ∧ w.cell? (ad.add i.toNat) = some (enc (rdOf d xs i)) := by
 obtain ⟨ad, e, hc⟩ := h.2.2 (by omega)
 exact ⟨ad, e, hc _ (by omega)⟩
end
section
variable {α : Type} {P : Program} {ops : Array Oper} {rest : List Oper} {o : Oper} {a : Act} {Q : Exit → Act → World → Prop}
end
theorem blk_drew {w : World} {g : Nat} {o : Obj} (h : w.heap[g]? = some o) : w.drew.heap[g]? = some o := h
section
variable {P : Program}
end
theorem own_le {w : World} {base n m c size : Nat} {e : TypeId} {A : Option Addr} {xs : List Value} (h : w.ownsRow base e size (.slice A m c) n xs) : m ≤ c := by
 rcases h.2 with ⟨he, _⟩ | ⟨g, cap, cur, he, _, _, hnc, _⟩
 ·injection he with _ h2 h3
  omega
 ·injection he with _ h2 h3
  omega
def OwnRow {α : Type} (R : α → List Value → Prop) (e : TypeId) (size : Nat) (w : World) (base : Nat) (v : Value) (ps : List α) : Prop :=
 ∃ inner, w.ownsRow base e size v ps.length inner ∧ Reps R size ps inner
section
variable {α : Type} {R R' : α → List Value → Prop} {e : TypeId} {size : Nat} {w w1 : World} {base : Nat} {v : Value} {ps : List α}
theorem OwnRow.none_ (R : α → List Value → Prop) (e : TypeId) (size : Nat) (w : World) (base : Nat) : OwnRow R e size w base (.slice none 0 0) [] := ⟨[], own_nil _ _ _ _, Reps.none _ _⟩
theorem OwnRow.imp_ (h : OwnRow R e size w base v ps) (hR : ∀ p c, R p c → R' p c) : OwnRow R' e size w base v ps := by
 obtain ⟨inner, ho, hr⟩ := h
 exact ⟨inner, ho, hr.imp_ hR⟩
theorem OwnRow.reads (h : OwnRow R e size w base v ps) : ∃ A c, v = .slice A ps.length c ∧ ps.length ≤ c ∧ ReadsRow R size w A ps.length ps := by
 obtain ⟨inner, ho, hr⟩ := h
 obtain ⟨A, c, rfl, hrow⟩ := own_reads_row ho hr rfl
 exact ⟨A, c, rfl, own_le ho, hrow⟩
end
section
variable {P : Program} {ops : Array Oper} {rest : List Oper} {o : Oper} {a : Act} {Q : Exit → Act → World → Prop} {α : Type} {R : α → List Value → Prop}
end
section
variable {P : Program} {ops : Array Oper} {o : Oper} {a : Act} {Q : Exit → Act → World → Prop} {K : Act → World → Prop} {α : Type} {R : α → List Value → Prop}
end
theorem ReadsRow.inner_ {α : Type} {R : α → List Value → Prop} {size : Nat} {w : World} {ad : Addr} {n : Nat} {ps : List α} (h : ReadsRow R size w (some ad) n ps) :
  ∃ inner, Reps R size ps inner ∧ ∀ j u, inner[j]? = some u → w.cell? (ad.add j) = some u := by
 have key : ∀ m, m ≤ ps.length → ∃ inner, Reps R size (ps.take m) inner ∧ ∀ j u, inner[j]? = some u → w.cell? (ad.add j) = some u := by
  intro m
  induction m with
  | zero => exact fun _ => ⟨[], Reps.none _ _, fun j u hu => by simp at hu⟩
  | succ m ih =>
   intro hm
   obtain ⟨inner, hr, hc⟩ := ih (by omega)
   obtain ⟨ad', he, hcell⟩ := h.2.2 (by have := h.1; omega)
   injection he with he
   subst he
   obtain ⟨c, hcl, hp, hcc⟩ := hcell m _ (List.getElem?_eq_getElem (show m < ps.length by omega))
   refine ⟨inner ++ c, ?_, fun j u hu => ?_⟩
   ·rw [List.take_succ_eq_append_getElem (show m < ps.length by omega)]
    exact hr.snoc hp hcl
   ·have hil : inner.length = m * size := by rw [hr.1, List.length_take, Nat.min_eq_left (by omega)]
    rcases Nat.lt_or_ge j inner.length with hj | hj
    ·rw [List.getElem?_append_left hj] at hu
     exact hc j u hu
    ·rw [List.getElem?_append_right hj] at hu
     have := hcc (j - inner.length) u hu
     rwa [hil, Nat.add_sub_cancel' (by omega)] at this
 obtain ⟨inner, hr, hc⟩ := key ps.length (Nat.le_refl _)
 rw [List.take_length] at hr
 exact ⟨inner, hr, hc⟩
section
variable {α : Type} {P : Program}
end
section
variable {P : Program} {ops : Array Oper} {rest : List Oper} {o : Oper} {a : Act} {Q : Exit → Act → World → Prop}
end
structure Kd (α : Type) where
 sz : Nat
 E : List Nat
 K : World → α → List Value → Prop
 M : World → Nat → (Nat → Prop) → α → List Value → Prop
 K_len : ∀ {w x cs}, K w x cs → cs.length = sz
 K_one : ∀ {w x cs}, K w x cs → ∀ u ∈ cs, u.oneCell' = true
 K_below : ∀ {w w1 : World} {x cs}, Below w.heap.size w w1 → K w x cs → K w1 x cs
 K_of_M : ∀ {w base ok x cs}, M w base ok x cs → K w x cs
 M_mono : ∀ {w base ok ok' x cs}, (∀ k, ok k → ok' k) → M w base ok x cs → M w base ok' x cs
 M_bound : ∀ {w : World} {base ok x cs}, M w base ok x cs → M w base (fun k => ok k ∧ base ≤ k ∧ k < w.heap.size ∧ ∃ q, q ∈ E ∧ ∃ cells, w.heap[k]? = some (.cells cells q (0, 0))) x cs
 M_move : ∀ {w w1 : World} {base ok x cs}, (∀ k, ok k → w1.heap[k]? = w.heap[k]?) → M w base ok x cs → M w1 base ok x cs
 M_lower : ∀ {w base base' ok x cs}, base' ≤ base → M w base ok x cs → M w base' ok x cs
theorem own_move {w w1 : World} {base : Nat} {e : TypeId} {size n : Nat} {v : Value} {xs : List Value} (h : w.ownsRow base e size v n xs) (hm : ∀ k, v.ownBlock = some k → w1.heap[k]? = w.heap[k]?) : w1.ownsRow base e size v n xs := by
 obtain ⟨h1, h2⟩ := h
 refine ⟨h1, ?_⟩
 rcases h2 with h2 | ⟨g, cap, cur, rfl, hg, hh, r⟩
 ·exact .inl h2
 ·exact .inr ⟨g, cap, cur, rfl, hg, (hm g (by simp [Value.ownBlock])).trans hh, r⟩
theorem own_typed {w : World} {base : Nat} {e : TypeId} {size n : Nat} {v : Value} {xs : List Value} (h : w.ownsRow base e size v n xs) (k : Nat) (hk : v.ownBlock = some k) : ∃ cells, w.heap[k]? = some (.cells cells e (0, 0)) := by
 rcases h.2 with ⟨rfl, _⟩ | ⟨g, cap, cur, rfl, hg, hh, r⟩
 ·simp [Value.ownBlock] at hk
 ·have : g = k := by simpa [Value.ownBlock] using hk
  subst this
  exact ⟨cur, hh⟩
namespace Kd
def C {α : Type} (d : Kd α) (w : World) (A : Option Addr) (n : Nat) (xs : List α) : Prop := ReadsRow (d.K w) d.sz w A n xs
def R {α : Type} (d : Kd α) (e : Nat) (w : World) (base : Nat) (ok : Nat → Prop) (v : Value) (xs : List α) : Prop :=
 (∀ k, v.ownBlock = some k → ok k) ∧ OwnRow (d.M w base (fun k => ok k ∧ some k ≠ v.ownBlock)) e d.sz w base v xs
section
variable {α : Type} {d : Kd α} {e : Nat} {w w1 : World} {base : Nat} {ok ok' : Nat → Prop} {v : Value} {xs : List α}
theorem C_below {A : Option Addr} {n : Nat} (h : d.C w A n xs) (hb : Below w.heap.size w w1) : d.C w1 A n xs := ReadsRow.imp_ h hb (fun _ _ hp => d.K_below hb hp)
theorem R_nil (d : Kd α) (e : Nat) (w : World) (base : Nat) (ok : Nat → Prop) : d.R e w base ok (.slice none 0 0) [] := ⟨fun k hk => by simp [Value.ownBlock] at hk, OwnRow.none_ _ _ _ _ _⟩
theorem R_mono (h : d.R e w base ok v xs) (hok : ∀ k, ok k → ok' k) : d.R e w base ok' v xs := ⟨fun k hk => hok k (h.1 k hk), h.2.imp_ (fun _ _ hp => d.M_mono (fun k hk => ⟨hok k hk.1, hk.2⟩) hp)⟩
theorem R_bound (h : d.R e w base ok v xs) : d.R e w base (fun k => ok k ∧ base ≤ k ∧ k < w.heap.size ∧ ∃ q, q ∈ e :: d.E ∧ ∃ cells, w.heap[k]? = some (.cells cells q (0, 0))) v xs := by
 obtain ⟨h0, inner, ho, hr⟩ := h
 refine ⟨fun k hk => ?_, inner, ho, hr.imp_ (fun _ _ hp => d.M_mono (fun k hk => ?_) (d.M_bound hp))⟩
 ·obtain ⟨cells, hc⟩ := own_typed ho k hk
  exact ⟨h0 k hk, own_base ho k hk, own_lt ho k hk, e, List.mem_cons_self, cells, hc⟩
 ·obtain ⟨⟨h1, h2⟩, h3, h4, q, hq, hc⟩ := hk
  exact ⟨⟨h1, h3, h4, q, List.mem_cons_of_mem _ hq, hc⟩, h2⟩
theorem R_move (h : d.R e w base ok v xs) (hm : ∀ k, ok k → w1.heap[k]? = w.heap[k]?) : d.R e w1 base ok v xs := by
 obtain ⟨h0, inner, ho, hr⟩ := h
 exact ⟨h0, inner, own_move ho (fun k hk => hm k (h0 k hk)), hr.imp_ (fun _ _ hp => d.M_move (fun k hk => hm k hk.1) hp)⟩
theorem R_lower {base' : Nat} (h : d.R e w base ok v xs) (hb : base' ≤ base) : d.R e w base' ok v xs := by
 obtain ⟨h0, inner, ho, hr⟩ := h
 exact ⟨h0, inner, own_weaken ho hb, hr.imp_ (fun _ _ hp => d.M_lower hb hp)⟩
theorem R_step (h : d.R e w base ok v xs) (hm : ∀ k, ok k → k < w.heap.size → w1.heap[k]? = w.heap[k]?) : d.R e w1 base ok v xs :=
 R_mono (R_move (R_bound h) (fun k hk => hm k hk.1 hk.2.2.1)) (fun _ hk => hk.1)
theorem M_step {x : α} {cs : List Value} (h : d.M w base ok x cs) (hm : ∀ k, ok k → k < w.heap.size → w1.heap[k]? = w.heap[k]?) : d.M w1 base ok x cs :=
 d.M_mono (fun _ hk => hk.1) (d.M_move (fun k hk => hm k hk.1 hk.2.2.1) (d.M_bound h))
theorem R_below (h : d.R e w base ok v xs) (hb : Below w.heap.size w w1) : d.R e w1 base ok v xs := R_step h (fun k _ hk => hb.block k hk)
theorem M_below {x : α} {cs : List Value} (h : d.M w base ok x cs) (hb : Below w.heap.size w w1) : d.M w1 base ok x cs := M_step h (fun k _ hk => hb.block k hk)
theorem R_grown (h : d.R e w base ok v xs) {row : Option Nat} (hg : w.grownBy w1 row) (hok : ∀ k, ok k → some k ≠ row) : d.R e w1 base ok v xs := R_step h (fun k ho hk => hg.block k hk (hok k ho))
theorem R_keep (h : d.R e w base ok v xs) {g : Nat} (hk : KeepBut w w1 g none) (hok : ∀ k, ok k → k ≠ g) : d.R e w1 base ok v xs := R_step h (fun k ho hlt => hk.2 k hlt (hok k ho) (by simp))
theorem R_reads (h : d.R e w base ok v xs) : ∃ A c, v = .slice A xs.length c ∧ xs.length ≤ c ∧ d.C w A xs.length xs := by
 obtain ⟨A, c, he, hl, hr⟩ := OwnRow.reads h.2
 exact ⟨A, c, he, hl, hr.imp_ (Below.refl _ _) (fun _ _ hp => d.K_of_M hp)⟩
theorem R_slice (h : d.R e w base ok v xs) : ∃ A c, v = .slice A xs.length c := by
 obtain ⟨A, c, he, _⟩ := R_reads h
 exact ⟨A, c, he⟩
theorem R_own (h : d.R e w base ok v xs) : ∃ inner, w.ownsRow base e d.sz v xs.length inner := by
 obtain ⟨_, inner, ho, _⟩ := h
 exact ⟨inner, ho⟩
end
def scalar {α : Type} (enc : α → Value) (h1 : ∀ x, (enc x).oneCell' = true) : Kd α where
 sz := 1
 E := []
 K := fun _ x cs => cs = [enc x]
 M := fun _ _ _ x cs => cs = [enc x]
 K_len := fun h => by rw [h]; rfl
 K_one := fun h u hu => by
  rw [h] at hu
  rw [List.mem_singleton.1 hu]
  exact h1 _
 K_below := fun _ h => h
 K_of_M := fun h => h
 M_mono := fun _ h => h
 M_bound := fun h => h
 M_move := fun _ h => h
 M_lower := fun _ h => h
def int (k : IntKind) : Kd Int := scalar (Value.int k) (fun _ => rfl)
def string : Kd ByteArray := scalar Value.string (fun _ => rfl)
def slice {α : Type} (e : Nat) (d : Kd α) : Kd (List α) where
 sz := 1
 E := e :: d.E
 K := fun w xs cs => ∃ A c, cs = [.slice A xs.length c] ∧ xs.length ≤ c ∧ d.C w A xs.length xs
 M := fun w base ok xs cs => ∃ v, cs = [v] ∧ d.R e w base ok v xs
 K_len := by
  rintro w x cs ⟨A, c, rfl, _⟩
  rfl
 K_one := by
  rintro w x cs ⟨A, c, rfl, _⟩ u hu
  rw [List.mem_singleton.1 hu]
  rfl
 K_below := by
  rintro w w1 x cs hb ⟨A, c, rfl, hl, hr⟩
  exact ⟨A, c, rfl, hl, C_below hr hb⟩
 K_of_M := by
  rintro w base ok x cs ⟨v, rfl, h⟩
  obtain ⟨A, c, rfl, hl, hr⟩ := R_reads h
  exact ⟨A, c, rfl, hl, hr⟩
 M_mono := by
  rintro w base ok ok' x cs hok ⟨v, rfl, h⟩
  exact ⟨v, rfl, R_mono h hok⟩
 M_bound := by
  rintro w base ok x cs ⟨v, rfl, h⟩
  exact ⟨v, rfl, R_bound h⟩
 M_move := by
  rintro w w1 base ok x cs hm ⟨v, rfl, h⟩
  exact ⟨v, rfl, R_move h hm⟩
 M_lower := by
  rintro w base base' ok x cs hb ⟨v, rfl, h⟩
  exact ⟨v, rfl, R_lower h hb⟩
def pair {α β : Type} (a : Kd α) (b : Kd β) : Kd (α × β) where
 sz := a.sz + b.sz
 E := a.E ++ b.E
 K := fun w x cs => ∃ c0 c1, cs = c0 ++ c1 ∧ a.K w x.1 c0 ∧ b.K w x.2 c1
 M := fun w base ok x cs => ∃ c0 c1, cs = c0 ++ c1 ∧ a.M w base ok x.1 c0 ∧ b.M w base ok x.2 c1
 K_len := by
  rintro w x cs ⟨c0, c1, rfl, h0, h1⟩
  rw [List.length_append, a.K_len h0, b.K_len h1]
 K_one := by
  rintro w x cs ⟨c0, c1, rfl, h0, h1⟩ u hu
  rcases List.mem_append.1 hu with hu | hu
  ·exact a.K_one h0 u hu
  ·exact b.K_one h1 u hu
 K_below := by
  rintro w w1 x cs hb ⟨c0, c1, rfl, h0, h1⟩
  exact ⟨c0, c1, rfl, a.K_below hb h0, b.K_below hb h1⟩
 K_of_M := by
  rintro w base ok x cs ⟨c0, c1, rfl, h0, h1⟩
  exact ⟨c0, c1, rfl, a.K_of_M h0, b.K_of_M h1⟩
 M_mono := by
  rintro w base ok ok' x cs hok ⟨c0, c1, rfl, h0, h1⟩
  exact ⟨c0, c1, rfl, a.M_mono hok h0, b.M_mono hok h1⟩
 M_bound := by
  rintro w base ok x cs ⟨c0, c1, rfl, h0, h1⟩
  refine ⟨c0, c1, rfl, a.M_mono ?_ (a.M_bound h0), b.M_mono ?_ (b.M_bound h1)⟩
  ·rintro k ⟨h2, h3, h4, q, hq, hc⟩
   exact ⟨h2, h3, h4, q, List.mem_append_left _ hq, hc⟩
  ·rintro k ⟨h2, h3, h4, q, hq, hc⟩
   exact ⟨h2, h3, h4, q, List.mem_append_right _ hq, hc⟩
 M_move := by
  rintro w w1 base ok x cs hm ⟨c0, c1, rfl, h0, h1⟩
  exact ⟨c0, c1, rfl, a.M_move hm h0, b.M_move hm h1⟩
 M_lower := by
  rintro w base base' ok x cs hb ⟨c0, c1, rfl, h0, h1⟩
  exact ⟨c0, c1, rfl, a.M_lower hb h0, b.M_lower hb h1⟩
def iso {α β : Type} (d : Kd α) (f : β → α) : Kd β where
 sz := d.sz
 E := d.E
 K := fun w x cs => d.K w (f x) cs
 M := fun w base ok x cs => d.M w base ok (f x) cs
 K_len := d.K_len
 K_one := d.K_one
 K_below := d.K_below
 K_of_M := d.K_of_M
 M_mono := d.M_mono
 M_bound := d.M_bound
 M_move := d.M_move
 M_lower := d.M_lower
def bot {α : Type} (sz : Nat) (E : List Nat) : Kd α where
 sz := sz
 E := E
 K := fun _ _ _ => False
 M := fun _ _ _ _ _ => False
 K_len := fun h => h.elim
 K_one := fun h => h.elim
 K_below := fun _ h => h
 K_of_M := fun h => h
 M_mono := fun _ h => h
 M_bound := fun h => h
 M_move := fun _ h => h
 M_lower := fun _ h => h
def upto {α : Type} (F : Kd α → Kd α) (sz : Nat) (E : List Nat) : Nat → Kd α
 | 0 => bot sz E
 | n + 1 => F (upto F sz E n)
def fix {α : Type} (F : Kd α → Kd α) (sz : Nat) (E : List Nat) (hs : ∀ n, (upto F sz E n).sz = sz) (hE : ∀ n q, q ∈ (upto F sz E n).E → q ∈ E) : Kd α where
 sz := sz
 E := E
 K := fun w x cs => ∃ n, (upto F sz E n).K w x cs
 M := fun w base ok x cs => ∃ n, (upto F sz E n).M w base ok x cs
 K_len := by
  rintro w x cs ⟨n, h⟩
  rw [(upto F sz E n).K_len h, hs n]
 K_one := by
  rintro w x cs ⟨n, h⟩
  exact (upto F sz E n).K_one h
 K_below := by
  rintro w w1 x cs hb ⟨n, h⟩
  exact ⟨n, (upto F sz E n).K_below hb h⟩
 K_of_M := by
  rintro w base ok x cs ⟨n, h⟩
  exact ⟨n, (upto F sz E n).K_of_M h⟩
 M_mono := by
  rintro w base ok ok' x cs hok ⟨n, h⟩
  exact ⟨n, (upto F sz E n).M_mono hok h⟩
 M_bound := by
  rintro w base ok x cs ⟨n, h⟩
  refine ⟨n, (upto F sz E n).M_mono ?_ ((upto F sz E n).M_bound h)⟩
  rintro k ⟨h2, h3, h4, q, hq, hc⟩
  exact ⟨h2, h3, h4, q, hE n q hq, hc⟩
 M_move := by
  rintro w w1 base ok x cs hm ⟨n, h⟩
  exact ⟨n, (upto F sz E n).M_move hm h⟩
 M_lower := by
  rintro w base base' ok x cs hb ⟨n, h⟩
  exact ⟨n, (upto F sz E n).M_lower hb h⟩
theorem C_get {α : Type} {d : Kd α} {w : World} {A : Option Addr} {n : Nat} {xs : List α} (h : d.C w A n xs) (z : α) (i : Int) (h0 : 0 ≤ i) (h1 : i < n) :
  ∃ ad c, A = some ad ∧ c.length = d.sz ∧ d.K w (xs.getD i.toNat z) c ∧ ∀ j u, c[j]? = some u → w.cell? (ad.add (i.toNat * d.sz + j)) = some u := ReadsRow.get_ h z i h0 h1
theorem R_appended {α : Type} {d : Kd α} {e base : Nat} {ok okp : Nat → Prop} {W w1 : World} {v v1 : Value} {xs : List α} {p : α} {inner cs : List Value} (h0 : ∀ k, v.ownBlock = some k → ok k) (hr : Reps (d.M W base (fun k => ok k ∧ some k ≠ v.ownBlock)) d.sz xs inner) (hp : d.M W base okp p cs) (hokp : ∀ k, okp k → ok k ∧ some k ≠ v.ownBlock) (hfresh : ∀ k, W.heap.size ≤ k → ok k)
  (hown : w1.ownsRow base e d.sz v1 (xs.length + 1) (inner ++ cs)) (hg : W.grownBy w1 v.ownBlock) (hat : v1.ownBlock = v.ownBlock ∨ ∃ b, v1.ownBlock = some b ∧ W.heap.size ≤ b) : d.R e w1 base ok v1 (xs ++ [p]) := by
 have hne : ∀ k, some k ≠ v.ownBlock → k < W.heap.size → some k ≠ v1.ownBlock := by
  intro k hk hlt
  rcases hat with hat | ⟨b, hb, hle⟩
  ·rw [hat]; exact hk
  ·rw [hb]
   intro he
   injection he with he
   omega
 have step : ∀ {q : α} {c : List Value} {o : Nat → Prop}, d.M W base o q c → (∀ k, o k → ok k ∧ some k ≠ v.ownBlock) → d.M w1 base (fun k => ok k ∧ some k ≠ v1.ownBlock) q c := by
  intro q c o hq ho
  have h1 := d.M_move (w1 := w1) (fun k hk => hg.block k hk.2.2.1 (ho k hk.1).2) (d.M_bound hq)
  exact d.M_mono (fun k hk => ⟨(ho k hk.1).1, hne k (ho k hk.1).2 hk.2.2.1⟩) h1
 refine ⟨fun k hk => ?_, inner ++ cs, by rw [List.length_append, List.length_singleton]; exact hown, ?_⟩
 ·rcases hat with hat | ⟨b, hb, hle⟩
  ·exact h0 k (hat ▸ hk)
  ·rw [hb] at hk
   injection hk with hk
   exact hfresh k (by omega)
 ·exact (hr.imp_ (fun _ _ hq => step hq (fun _ hk => hk))).snoc (step hp hokp) (d.K_len (d.K_of_M hp))
section
variable {P : Program} {ops : Array Oper} {rest : List Oper} {o : Oper} {a : Act} {Q : Exit → Act → World → Prop} {α : Type}
theorem R_append (d : Kd α) {w0 W : World} (base : Nat) (hgd : o.guard = none) (s x : Operand) (t e : TypeId) (z : Value) (bytes : Nat)
  (ho : o.op = .call { callee := .builtin .append, args := #[s, x], argTypes := #[t, t] })
  (ht : P.underlying t = some (.slice e)) (hinfo : (P.info? e).map (fun i => (i.zero, i.size, i.bytes)) = some (some z, d.sz, bytes)) (hz : z.cells.size = d.sz) (hs0 : 0 < d.sz) (hb0 : 0 < bytes)
  (v : Value) (xs : List α) (p : α) (cs : List Value) (ok okp : Nat → Prop) (hs : a.eval s = v) (hx : a.eval x = .slice (some ⟨W.heap.size, 0, none⟩) 1 1) (hp : d.M W base okp p cs) (hokp : ∀ k, okp k → ok k ∧ some k ≠ v.ownBlock) (hfresh : ∀ k, W.heap.size ≤ k → ok k)
  (HO : d.R e W base ok v xs) (HB : Below base w0 W) (hbase : base ≤ W.heap.size) (hl : (xs.length + 1) * bytes ≤ 140737488355328)
  (h : ∀ v1 w1, d.R e w1 base ok v1 (xs ++ [p]) → Below base w0 w1 → W.grownBy w1 v.ownBlock → (v1.ownBlock = v.ownBlock ∨ ∃ b, v1.ownBlock = some b ∧ W.heap.size ≤ b) → wpList P ops Q rest (a.put o.dst v1) w1) :
  wpList P ops Q (o :: rest) a (W.alloc (.cells cs.toArray e)) := by
 obtain ⟨h0, inner, hown, hr⟩ := HO
 refine print_append_cells base hgd s x t e z d.sz bytes ho ht hinfo hz hs0 hb0 v xs.length inner cs hs hx (d.K_len (d.K_of_M hp)) (d.K_one (d.K_of_M hp)) hown HB hbase hl ?_
 intro v1 w1 hown1 hb1 hg1 hat1
 exact h v1 w1 (R_appended h0 hr hp hokp hfresh hown1 hg1 hat1) hb1 hg1 hat1
end
section
variable {P : Program} {ops : Array Oper} {o : Oper} {a : Act} {Q : Exit → Act → World → Prop} {Kc : Act → World → Prop} {α : Type}
theorem R_append_step (d : Kd α) {w0 W : World} (base : Nat) (hw : Region.wanted o (yielded ops a.tmps) = true) (s x : Operand) (t e : TypeId) (z : Value) (bytes : Nat)
  (ho : o.op = .call { callee := .builtin .append, args := #[s, x], argTypes := #[t, t] })
  (ht : P.underlying t = some (.slice e)) (hinfo : (P.info? e).map (fun i => (i.zero, i.size, i.bytes)) = some (some z, d.sz, bytes)) (hz : z.cells.size = d.sz) (hs0 : 0 < d.sz) (hb0 : 0 < bytes)
  (v : Value) (xs : List α) (p : α) (cs : List Value) (ok okp : Nat → Prop) (hs : a.eval s = v) (hx : a.eval x = .slice (some ⟨W.heap.size, 0, none⟩) 1 1) (hp : d.M W base okp p cs) (hokp : ∀ k, okp k → ok k ∧ some k ≠ v.ownBlock) (hfresh : ∀ k, W.heap.size ≤ k → ok k)
  (HO : d.R e W base ok v xs) (HB : Below base w0 W) (hbase : base ≤ W.heap.size) (hl : (xs.length + 1) * bytes ≤ 140737488355328)
  (h : ∀ v1 w1, d.R e w1 base ok v1 (xs ++ [p]) → Below base w0 w1 → W.grownBy w1 v.ownBlock → (v1.ownBlock = v.ownBlock ∨ ∃ b, v1.ownBlock = some b ∧ W.heap.size ≤ b) → Kc (a.put o.dst v1) w1) :
  if Region.wanted o (yielded ops a.tmps) = true then Oper.wp P o a (W.alloc (.cells cs.toArray e)) Kc Q else Kc (a.put o.dst undef) (W.alloc (.cells cs.toArray e)) := by
 obtain ⟨h0, inner, hown, hr⟩ := HO
 refine step_append_cells base hw s x t e z d.sz bytes ho ht hinfo hz hs0 hb0 v xs.length inner cs hs hx (d.K_len (d.K_of_M hp)) (d.K_one (d.K_of_M hp)) hown HB hbase hl ?_
 intro v1 w1 hown1 hb1 hg1 hat1
 exact h v1 w1 (R_appended h0 hr hp hokp hfresh hown1 hg1 hat1) hb1 hg1 hat1
end
theorem own_of_R {α : Type} {enc : α → Value} {h1 : ∀ x, (enc x).oneCell' = true} {e : Nat} {w : World} {base : Nat} {ok : Nat → Prop} {v : Value} {xs : List α} (h : (scalar enc h1).R e w base ok v xs) : w.ownsRow base e 1 v xs.length (encs enc xs) := by
 obtain ⟨_, inner, ho, hr⟩ := h
 have : inner = encs enc xs := by
  apply List.ext_getElem?
  intro j
  rcases Nat.lt_or_ge j xs.length with hj | hj
  ·have h2 := hr.2 j _ (List.getElem?_eq_getElem hj)
   have hl : j < inner.length := by have := hr.1; simp [scalar] at this; omega
   have h3 : (inner.drop (j * 1)).take 1 = [enc xs[j]] := h2
   rw [Nat.mul_one, List.drop_eq_getElem_cons hl] at h3
   have h4 : inner[j] = enc xs[j] := by
    have h5 := congrArg List.head? h3
    rw [List.take_succ_cons] at h5
    exact Option.some.inj h5
   rw [List.getElem?_eq_getElem hl, h4]
   simp [encs, List.getElem?_eq_getElem hj]
  ·have h3 : inner.length = xs.length := by have := hr.1; simp [scalar] at this; omega
   rw [List.getElem?_eq_none (by omega), List.getElem?_eq_none (by rw [encs_length]; omega)]
 rw [← this]
 exact ho
theorem reads_of_C {α : Type} {enc : α → Value} {d : α} {h1 : ∀ x, (enc x).oneCell' = true} {w : World} {A : Option Addr} {n : Nat} {xs : List α} (h : (scalar enc h1).C w A n xs) : ReadsOf enc d w A n xs := by
 refine ⟨h.1, h.2.1, fun hn => ?_⟩
 obtain ⟨ad, e, hc⟩ := h.2.2 hn
 refine ⟨ad, e, fun j hj => ?_⟩
 have hl : j < xs.length := by have := h.1; omega
 obtain ⟨c, _, hK, hcell⟩ := hc j _ (List.getElem?_eq_getElem hl)
 have hK' : c = [enc xs[j]] := hK
 subst hK'
 have := hcell 0 _ rfl
 simpa [scalar, List.getD_eq_getElem?_getD, List.getElem?_eq_getElem hl] using this
end Kd
namespace Kd
structure Mono {α β : Type} (F : Kd α → Kd β) : Prop where
 sz : ∀ d d' : Kd α, d.sz = d'.sz → (F d).sz = (F d').sz
 K : ∀ d d' : Kd α, d.sz = d'.sz → (∀ w x cs, d.K w x cs → d'.K w x cs) → ∀ w x cs, (F d).K w x cs → (F d').K w x cs
 M : ∀ d d' : Kd α, d.sz = d'.sz → (∀ w base ok x cs, d.M w base ok x cs → d'.M w base ok x cs) → ∀ w base ok x cs, (F d).M w base ok x cs → (F d').M w base ok x cs
theorem mono_const {α β : Type} (k : Kd β) : Mono (fun _ : Kd α => k) := ⟨fun _ _ _ => rfl, fun _ _ _ _ _ _ _ h => h, fun _ _ _ _ _ _ _ _ _ h => h⟩
theorem mono_id {α : Type} : Mono (fun d : Kd α => d) := ⟨fun _ _ h => h, fun _ _ _ h => h, fun _ _ _ h => h⟩
theorem C_imp {α : Type} {d d' : Kd α} (hs : d.sz = d'.sz) (h : ∀ w x cs, d.K w x cs → d'.K w x cs) {w : World} {A : Option Addr} {n : Nat} {xs : List α} (hc : d.C w A n xs) : d'.C w A n xs := by
 unfold C at hc ⊢
 rw [← hs]
 exact hc.imp_ (Below.refl _ _) (fun _ _ hp => h _ _ _ hp)
theorem R_imp {α : Type} {d d' : Kd α} (hs : d.sz = d'.sz) (h : ∀ w base ok x cs, d.M w base ok x cs → d'.M w base ok x cs) {e : Nat} {w : World} {base : Nat} {ok : Nat → Prop} {v : Value} {xs : List α} (hr : d.R e w base ok v xs) : d'.R e w base ok v xs := by
 unfold R at hr ⊢
 rw [← hs]
 exact ⟨hr.1, hr.2.imp_ (fun _ _ hp => h _ _ _ _ _ hp)⟩
theorem mono_slice {α β : Type} (e : Nat) {G : Kd α → Kd β} (hG : Mono G) : Mono (fun d => slice e (G d)) := by
 refine ⟨fun _ _ _ => rfl, ?_, ?_⟩
 ·rintro d d' hs h w x cs ⟨A, c, rfl, hl, hr⟩
  exact ⟨A, c, rfl, hl, C_imp (hG.sz d d' hs) (hG.K d d' hs h) hr⟩
 ·rintro d d' hs h w base ok x cs ⟨v, rfl, hr⟩
  exact ⟨v, rfl, R_imp (hG.sz d d' hs) (hG.M d d' hs h) hr⟩
theorem mono_pair {α β γ : Type} {G : Kd α → Kd β} {H : Kd α → Kd γ} (hG : Mono G) (hH : Mono H) : Mono (fun d => pair (G d) (H d)) := by
 refine ⟨fun d d' hs => ?_, ?_, ?_⟩
 ·show (G d).sz + (H d).sz = (G d').sz + (H d').sz
  rw [hG.sz d d' hs, hH.sz d d' hs]
 ·rintro d d' hs h w x cs ⟨c0, c1, rfl, h0, h1⟩
  exact ⟨c0, c1, rfl, hG.K d d' hs h _ _ _ h0, hH.K d d' hs h _ _ _ h1⟩
 ·rintro d d' hs h w base ok x cs ⟨c0, c1, rfl, h0, h1⟩
  exact ⟨c0, c1, rfl, hG.M d d' hs h _ _ _ _ _ h0, hH.M d d' hs h _ _ _ _ _ h1⟩
theorem mono_iso {α β γ : Type} {G : Kd α → Kd β} (f : γ → β) (hG : Mono G) : Mono (fun d => iso (G d) f) :=
 ⟨hG.sz, fun d d' hs h w x cs => hG.K d d' hs h w (f x) cs, fun d d' hs h w base ok x cs => hG.M d d' hs h w base ok (f x) cs⟩
def Sub {α β : Type} (F : Kd α → Kd β) (E : List Nat) : Prop := ∀ d : Kd α, (∀ q, q ∈ d.E → q ∈ E) → ∀ q, q ∈ (F d).E → q ∈ E
theorem sub_const {α β : Type} {E : List Nat} (k : Kd β) (h : ∀ q, q ∈ k.E → q ∈ E) : Sub (fun _ : Kd α => k) E := fun _ _ => h
theorem sub_id {α : Type} {E : List Nat} : Sub (fun d : Kd α => d) E := fun _ h => h
theorem sub_slice {α β : Type} {E : List Nat} (e : Nat) {G : Kd α → Kd β} (he : e ∈ E) (hG : Sub G E) : Sub (fun d => slice e (G d)) E := fun d h q hq => by
 rcases List.mem_cons.1 hq with rfl | hq
 ·exact he
 ·exact hG d h q hq
theorem sub_pair {α β γ : Type} {E : List Nat} {G : Kd α → Kd β} {H : Kd α → Kd γ} (hG : Sub G E) (hH : Sub H E) : Sub (fun d => pair (G d) (H d)) E := fun d h q hq => by
 rcases List.mem_append.1 hq with hq | hq
 ·exact hG d h q hq
 ·exact hH d h q hq
theorem sub_iso {α β γ : Type} {E : List Nat} {G : Kd α → Kd β} (f : γ → β) (hG : Sub G E) : Sub (fun d => iso (G d) f) E := hG
theorem upto_E {α : Type} {F : Kd α → Kd α} {sz : Nat} {E : List Nat} (h : Sub F E) : ∀ n q, q ∈ (upto F sz E n).E → q ∈ E
 | 0, _, hq => hq
 | n + 1, q, hq => h _ (upto_E h n) q hq
theorem upto_sz {α : Type} {F : Kd α → Kd α} {sz : Nat} {E : List Nat} (h : ∀ d : Kd α, (F d).sz = sz) : ∀ n, (upto F sz E n).sz = sz
 | 0 => rfl
 | _ + 1 => h _
section
variable {α : Type} {F : Kd α → Kd α} {sz : Nat} {E : List Nat} {hs : ∀ n, (upto F sz E n).sz = sz} {hE : ∀ n q, q ∈ (upto F sz E n).E → q ∈ E}
theorem upto_M (hm : Mono F) (hs : ∀ n, (upto F sz E n).sz = sz) : ∀ n {w base ok x cs}, (upto F sz E n).M w base ok x cs → (upto F sz E (n + 1)).M w base ok x cs
 | 0, _, _, _, _, _, h => h.elim
 | n + 1, _, _, _, _, _, h => hm.M _ _ (by rw [hs n, hs (n + 1)]) (fun _ _ _ _ _ hk => upto_M hm hs n hk) _ _ _ _ _ h
theorem upto_M_le (hm : Mono F) (hs : ∀ n, (upto F sz E n).sz = sz) {n m : Nat} (hnm : n ≤ m) {w base ok x cs} (h : (upto F sz E n).M w base ok x cs) : (upto F sz E m).M w base ok x cs := by
 obtain ⟨j, rfl⟩ := Nat.exists_eq_add_of_le hnm
 induction j with
 | zero => exact h
 | succ j ih => exact upto_M hm hs _ (ih (by omega))
theorem fix_C {n : Nat} {w : World} {A : Option Addr} {m : Nat} {xs : List α} (h : (upto F sz E n).C w A m xs) : (fix F sz E hs hE).C w A m xs := C_imp (d' := fix F sz E hs hE) (hs n) (fun w x cs hp => (⟨n, hp⟩ : ∃ n, (upto F sz E n).K w x cs)) h
theorem bounded {P : Nat → Nat → Prop} (hP : ∀ n m j, n ≤ m → P n j → P m j) : ∀ m, (∀ j, j < m → ∃ n, P n j) → ∃ N, ∀ j, j < m → P N j
 | 0, _ => ⟨0, fun j hj => absurd hj (Nat.not_lt_zero j)⟩
 | m + 1, h => by
  obtain ⟨N, hN⟩ := bounded hP m (fun j hj => h j (by omega))
  obtain ⟨n, hn⟩ := h m (by omega)
  refine ⟨max N n, fun j hj => ?_⟩
  rcases Nat.lt_or_ge j m with hj' | hj'
  ·exact hP N _ j (Nat.le_max_left _ _) (hN j hj')
  ·have : j = m := by omega
   subst this
   exact hP n _ j (Nat.le_max_right _ _) hn
theorem reps_bounded {α : Type} {R : Nat → α → List Value → Prop} (hR : ∀ n m p c, n ≤ m → R n p c → R m p c) {size : Nat} {ps : List α} {cs : List Value} (h : Reps (fun p c => ∃ n, R n p c) size ps cs) : ∃ N, Reps (R N) size ps cs := by
 obtain ⟨N, hN⟩ := bounded (P := fun n j => ∀ p, ps[j]? = some p → R n p ((cs.drop (j * size)).take size)) (fun n m j hnm hp p hj => hR n m p _ hnm (hp p hj)) ps.length
  (fun j hj => by
   obtain ⟨n, hn⟩ := h.2 j _ (List.getElem?_eq_getElem hj)
   refine ⟨n, fun p hp => ?_⟩
   rw [List.getElem?_eq_getElem hj] at hp
   injection hp with hp
   rw [← hp]
   exact hn)
 exact ⟨N, h.1, fun j p hj => hN j (List.getElem?_eq_some_iff.1 hj).1 p hj⟩
theorem fix_R_back (hm : Mono F) {e : Nat} {w : World} {base : Nat} {ok : Nat → Prop} {v : Value} {xs : List α} (h : (fix F sz E hs hE).R e w base ok v xs) : ∃ n, (upto F sz E n).R e w base ok v xs := by
 obtain ⟨h0, inner, ho, hr⟩ := h
 obtain ⟨N, hN⟩ := reps_bounded (R := fun n p c => (upto F sz E n).M w base (fun k => ok k ∧ some k ≠ v.ownBlock) p c) (fun n m p c hnm hp => upto_M_le hm hs hnm hp) hr
 refine ⟨N, h0, inner, ?_, ?_⟩
 ·rw [hs N]; exact ho
 ·rw [hs N]; exact hN
theorem upto_R_le (hm : Mono F) (hs : ∀ n, (upto F sz E n).sz = sz) {n m : Nat} (hnm : n ≤ m) {e : Nat} {w : World} {base : Nat} {ok : Nat → Prop} {v : Value} {xs : List α} (h : (upto F sz E n).R e w base ok v xs) : (upto F sz E m).R e w base ok v xs := R_imp (by rw [hs n, hs m]) (fun _ _ _ _ _ hp => upto_M_le hm hs hnm hp) h
end
end Kd
namespace Kd
theorem R_after {α : Type} {d : Kd α} {e base : Nat} {ok : Nat → Prop} {W w1 : World} {u v v1 : Value} {xs : List α} (h : d.R e W base (fun k => ok k ∧ some k ≠ v.ownBlock) u xs) (hg : W.grownBy w1 v.ownBlock) (hat : v1.ownBlock = v.ownBlock ∨ ∃ b, v1.ownBlock = some b ∧ W.heap.size ≤ b) : d.R e w1 base (fun k => ok k ∧ some k ≠ v1.ownBlock) u xs := by
 refine R_mono (R_move (R_bound h) (fun k hk => hg.block k hk.2.2.1 hk.1.2)) (fun k hk => ⟨hk.1.1, ?_⟩)
 rcases hat with hat | ⟨b, hb, hle⟩
 ·rw [hat]; exact hk.1.2
 ·rw [hb]
  intro he
  injection he with he
  have := hk.2.2.1
  omega
end Kd
namespace Kd
section
variable {α β : Type} {d : Kd α} {d' : Kd β} {e e' : Nat} {w w1 W : World} {base b b' : Nat} {ok ok' okv oku : Nat → Prop} {v u : Value} {xs : List α} {ys : List β}
theorem R_alloc (h : d.R e w base ok v xs) (o : Obj) : d.R e (w.alloc o) base ok v xs := R_below h (below_alloc (Below.refl _ _) o)
theorem R_drewN (h : d.R e w base ok v xs) (m : Nat) : d.R e (w.drewN m) base ok v xs := R_below h (pw_below_drewN (Below.refl _ _) m)
theorem C_alloc {A : Option Addr} {n : Nat} (h : d.C w A n xs) (o : Obj) : d.C (w.alloc o) A n xs := C_below h (below_alloc (Below.refl _ _) o)
theorem R_reads' {A : Option Addr} {n c : Nat} (h : d.R e w base ok (.slice A n c) xs) : n = xs.length ∧ n ≤ c ∧ d.C w A xs.length xs := by
 obtain ⟨A', c', he, hl, hr⟩ := R_reads h
 injection he with h1 h2 h3
 subst h1
 exact ⟨h2, by omega, hr⟩
theorem R_lt (h : d.R e w base ok v xs) : ∀ k, v.ownBlock = some k → k < w.heap.size := by
 obtain ⟨inner, ho⟩ := R_own h
 exact own_lt ho
theorem R_base (h : d.R e w base ok v xs) : ∀ k, v.ownBlock = some k → base ≤ k := by
 obtain ⟨inner, ho⟩ := R_own h
 exact own_base ho
end
section
variable {w W : World} {A : Option Addr} {n : Nat}
theorem at_int {k : IntKind} {xs : List Int} (h : (Kd.int k).C w A n xs) (i : Int) (h0 : 0 ≤ i) (h1 : i < n) : ∃ ad, A = some ad ∧ w.cell? (ad.add i.toNat) = some (.int k (rd xs i)) :=
 ReadsOf.at_ (reads_of_C (enc := Value.int k) (d := (0 : Int)) (h1 := fun _ => rfl) h) i h0 h1
theorem at_string {xs : List ByteArray} (h : Kd.string.C w A n xs) (i : Int) (h0 : 0 ≤ i) (h1 : i < n) : ∃ ad, A = some ad ∧ w.cell? (ad.add i.toNat) = some (.string (rdOf ByteArray.empty xs i)) :=
 ReadsOf.at_ (reads_of_C (enc := Value.string) (d := ByteArray.empty) (h1 := fun _ => rfl) h) i h0 h1
variable {α : Type} {enc : α → Value} {h1 : ∀ x, (enc x).oneCell' = true} {e base g cap : Nat} {ok : Nat → Prop} {xs : List α}
end
section
variable {P : Program} {ops : Array Oper} {rest : List Oper} {o : Oper} {a : Act} {Q : Exit → Act → World → Prop}
theorem event_run {W w1 : World} {v : Value} (hgd : o.guard = none) (hrun : (execOp a.eval o).run P W = .ok (.value v) w1) (h : wpList P ops Q rest (a.put o.dst v) w1) : wpList P ops Q (o :: rest) a W := by
 refine wpList_plain hgd fun K hK => ?_
 unfold Oper.wp
 rw [hrun]
 exact hK _ _ h
variable {α : Type}
theorem R_lit (d : Kd α) {w0 W : World} (base e : Nat) (hgd : o.guard = none) {N : Tmp} (_hd : o.dst = some N) {xs : List α} {inner : List Value} {ok okp : Nat → Prop}
  (hrun : (execOp a.eval o).run P W = .ok (.value (.slice (some ⟨W.heap.size, 0, none⟩) xs.length xs.length)) (W.alloc (.cells inner.toArray e)))
  (hrep : Reps (d.M W base okp) d.sz xs inner) (hok : ∀ k, okp k → ok k) (hfresh : ok W.heap.size) (HB : Below base w0 W) (hbase : base ≤ W.heap.size) (hm : xs.length ≤ 9223372036854775807)
  (h : ∀ v1 w1, d.R e w1 base ok v1 xs → Below base w0 w1 → W.grownBy w1 none → (∃ b, v1.ownBlock = some b ∧ W.heap.size ≤ b) → wpList P ops Q rest (a.put o.dst v1) w1) : wpList P ops Q (o :: rest) a W := by
 refine event_run hgd hrun (h _ _ ⟨fun k hk => ?_, inner, ?_, ?_⟩ (HB.alloc hbase _) (World.grownBy_alloc W _ none) ⟨W.heap.size, by simp [Value.ownBlock], Nat.le_refl _⟩)
 ·have : W.heap.size = k := by simpa [Value.ownBlock] using hk
  subst this
  exact hfresh
 ·have h2 := World.ownsRow_lit (base := base) (e := e) (size := d.sz) W inner.toArray xs.length hbase (by simpa [maxLen] using hm) (by simpa using hrep.1)
  simpa using h2
 ·refine hrep.imp_ (fun p c hp => d.M_mono (fun k hk => ⟨hok k hk.1, fun he => ?_⟩) (M_below (d.M_bound hp) (below_alloc (Below.refl _ _) _)))
  have h3 : k = W.heap.size := by simpa [Value.ownBlock] using he
  have := hk.2.2.1
  omega
end
end Kd
section
variable {P : Program}
end
section
variable {w w1 : World} {base n size : Nat} {e : TypeId} {v : Value} {xs : List Value}
end
section
variable {P : Program}
end
namespace Kd
section
variable {α : Type} {d : Kd α} {e : Nat} {w w1 W : World} {base : Nat} {ok ok' : Nat → Prop} {v : Value} {xs : List α}
end
section
variable {P : Program} {ops : Array Oper} {rest : List Oper} {o : Oper} {a : Act} {Q' : Exit → Act → World → Prop} {Kc : Act → World → Prop} {α : Type}
end
end Kd
namespace Kd
section
variable {α : Type} {d : Kd α} {e e' : Nat} {w w1 W : World} {base : Nat} {ok : Nat → Prop} {u v : Value} {xs : List α}
theorem R_typed (h : d.R e w base ok v xs) : ∀ k, v.ownBlock = some k → ∃ cells, w.heap[k]? = some (.cells cells e (0, 0)) := by
 obtain ⟨inner, ho⟩ := R_own h
 exact fun k hk => own_typed ho k hk
theorem R_elder' (hu : d.R e W base ok u xs) (hbase : ∀ k, v.ownBlock = some k → W.heap.size ≤ k) (hb : Below W.heap.size W w1) : d.R e w1 base (fun k => ok k ∧ some k ≠ v.ownBlock) u xs :=
 R_mono (R_move (R_bound hu) (fun k hk => hb.block k hk.2.2.1)) (fun k hk => ⟨hk.1, fun he => by have := hbase k he.symm; have := hk.2.2.1; omega⟩)
theorem R_new' (h : d.R e w1 W.heap.size ok v xs) (hlt : ∀ k, u.ownBlock = some k → k < W.heap.size) : d.R e w1 W.heap.size (fun k => ok k ∧ some k ≠ u.ownBlock) v xs :=
 R_mono (R_bound h) (fun k hk => ⟨hk.1, fun he => by have := hlt k he.symm; have := hk.2.1; omega⟩)
theorem fresh' (hlt : ∀ k, u.ownBlock = some k → k < W.heap.size) : ∀ k, W.heap.size ≤ k → some k ≠ u.ownBlock := fun k hk he => by have := hlt k he.symm; omega
end
end Kd
namespace Kd
section
variable {α : Type} {d : Kd α} {e base g n cap : Nat} {ok okp : Nat → Prop} {W : World} {xs : List α}
end
end Kd
namespace Kd
section
variable {α : Type} {F : Kd α → Kd α} {sz : Nat} {E : List Nat} {hs : ∀ n, (upto F sz E n).sz = sz} {hE : ∀ n q, q ∈ (upto F sz E n).E → q ∈ E}
end
end Kd
namespace Kd
theorem reps_append {α : Type} {R : α → List Value → Prop} {size : Nat} {ps qs : List α} {cs ds : List Value} (h : Reps R size ps cs) (h' : Reps R size qs ds) : Reps R size (ps ++ qs) (cs ++ ds) := by
 refine ⟨by rw [List.length_append, List.length_append, h.1, h'.1, Nat.add_mul], fun j p hj => ?_⟩
 rcases Nat.lt_or_ge j ps.length with hlt | hge
 ·rw [List.getElem?_append_left hlt] at hj
  have hle : j * size + size ≤ cs.length := by rw [h.1, ← Nat.succ_mul]; exact Nat.mul_le_mul_right _ hlt
  rw [List.drop_append_of_le_length (by omega), List.take_append_of_le_length (by rw [List.length_drop]; omega)]
  exact h.2 j p hj
 ·rw [List.getElem?_append_right hge] at hj
  have h2 := h'.2 (j - ps.length) p hj
  have hle : ps.length * size ≤ j * size := Nat.mul_le_mul_right _ hge
  rw [List.drop_append, List.drop_eq_nil_of_le (by rw [h.1]; exact hle), List.nil_append, h.1, ← Nat.sub_mul]
  exact h2
section
variable {P : Program} {ops : Array Oper} {rest : List Oper} {o : Oper} {a : Act} {Q : Exit → Act → World → Prop} {α : Type}
theorem R_append_rows (d : Kd α) {Rr : α → List Value → Prop} {w0 W : World} (base : Nat) (hgd : o.guard = none) (s x : Operand) (t e : TypeId) (z : Value) (bytes : Nat)
  (ho : o.op = .call { callee := .builtin .append, args := #[s, x], argTypes := #[t, t] })
  (ht : P.underlying t = some (.slice e)) (hinfo : (P.info? e).map (fun i => (i.zero, i.size, i.bytes)) = some (some z, d.sz, bytes)) (hz : z.cells.size = d.sz) (hs0 : 0 < d.sz) (hb0 : 0 < bytes)
  (v : Value) (xs ys : List α) (A : Option Addr) (m c : Nat) (ok okp : Nat → Prop) (hs : a.eval s = v) (hx : a.eval x = .slice A m c)
  (HO : d.R e W base ok v xs) (HR : ReadsRow Rr d.sz W A m ys) (hKM : ∀ x cs, Rr x cs → d.M W base okp x cs) (hokp : ∀ k, okp k → ok k ∧ some k ≠ v.ownBlock) (hfresh : ∀ k, W.heap.size ≤ k → ok k)
  (HB : Below base w0 W) (hbase : base ≤ W.heap.size) (hl : (xs.length + m) * bytes ≤ 140737488355328)
  (h : ∀ v1 w1, d.R e w1 base ok v1 (xs ++ ys) → Below base w0 w1 → W.grownBy w1 v.ownBlock → (v1.ownBlock = v.ownBlock ∨ ∃ b, v1.ownBlock = some b ∧ W.heap.size ≤ b) → wpList P ops Q rest (a.put o.dst v1) w1) :
  wpList P ops Q (o :: rest) a W := by
 obtain ⟨i0, hi, hzz⟩ := Option.map_eq_some_iff.1 hinfo
 simp only [Prod.mk.injEq] at hzz
 obtain ⟨hz0, hz1, hz2⟩ := hzz
 have hm : ys.length = m := HR.1
 have hlen : xs.length + m ≤ 140737488355328 := Nat.le_trans (Nat.le_mul_of_pos_right _ hb0) hl
 obtain ⟨hok, inner, hown, hr⟩ := HO
 have hrun : ∃ v1 w1, (Builtin.append_ #[t, t] o.type #[v, .slice A m c]).run P W = .ok v1 w1 ∧ d.R e w1 base ok v1 (xs ++ ys) ∧ W.grownBy w1 v.ownBlock ∧ (v1.ownBlock = v.ownBlock ∨ ∃ b, v1.ownBlock = some b ∧ W.heap.size ≤ b) := by
  rcases A with _ | ad
  ·have h0 : m = 0 := by
    rcases Nat.eq_zero_or_pos m with h0 | h0
    ·exact h0
    ·obtain ⟨ad, h, _⟩ := HR.2.2 h0
     cases h
   subst h0
   obtain rfl : ys = [] := List.eq_nil_of_length_eq_zero hm
   refine ⟨v, W, ?_, by rw [List.append_nil]; exact ⟨hok, inner, hown, hr⟩, World.grownBy.refl W _, .inl rfl⟩
   rcases hown.2 with ⟨rfl, hn⟩ | ⟨g, cap, cur, rfl, _, _, hnc, _⟩
   ·simp [Builtin.append_, run_underlying ht, sizeOf, typeInfo, hi, Builtin.lenOf, Builtin.firstCells]
   ·simp [Builtin.append_, run_underlying ht, sizeOf, typeInfo, hi, Builtin.lenOf, Builtin.firstCells, hnc, storeCells]
  ·obtain ⟨news, hnr, hnc⟩ := ReadsRow.inner_ HR
   have hnM : Reps (d.M W base okp) d.sz ys news := hnr.imp_ (fun p c hp => hKM p c hp)
   have hone : ∀ u ∈ news, u.oneCell' = true := by
    intro u hu
    obtain ⟨q, hq, rfl⟩ := List.mem_iff_getElem.1 hu
    have hql : q / d.sz < ys.length := by
     rw [Nat.div_lt_iff_lt_mul hs0]
     rw [← hnM.1]
     exact hq
    have hc := hnM.2 (q / d.sz) _ (List.getElem?_eq_getElem hql)
    refine d.K_one (d.K_of_M hc) _ ?_
    rw [List.mem_iff_getElem?]
    refine ⟨q % d.sz, ?_⟩
    rw [List.getElem?_take, if_pos (Nat.mod_lt _ hs0), List.getElem?_drop, Nat.mul_comm, Nat.div_add_mod, List.getElem?_eq_getElem hq]
   obtain ⟨v1, w1, hrun, h2, hg, _, hat⟩ := run_append_own_at (P := P) W base t o.type e i0 z d.sz bytes ht hi hz0 hz1 hz2 hz hs0 v xs.length inner hown ad m c news (by rw [hnM.1, hm]) hnc hone (by simp only [maxLen]; omega) hl hbase
   have hat' : v1.ownBlock = v.ownBlock ∨ ∃ b, v1.ownBlock = some b ∧ W.heap.size ≤ b := by
    rcases hat with hat | hat
    ·exact .inl hat
    ·exact .inr ⟨_, hat, Nat.le_refl _⟩
   have hne : ∀ k, some k ≠ v.ownBlock → k < W.heap.size → some k ≠ v1.ownBlock := by
    intro k hk hlt
    rcases hat' with hat | ⟨b, hb, hle⟩
    ·rw [hat]; exact hk
    ·rw [hb]
     intro he
     injection he with he
     omega
   have step : ∀ {q : α} {c : List Value} {o : Nat → Prop}, d.M W base o q c → (∀ k, o k → ok k ∧ some k ≠ v.ownBlock) → d.M w1 base (fun k => ok k ∧ some k ≠ v1.ownBlock) q c := by
    intro q c o hq ho
    have h1 := d.M_move (w1 := w1) (fun k hk => hg.block k hk.2.2.1 (ho k hk.1).2) (d.M_bound hq)
    exact d.M_mono (fun k hk => ⟨(ho k hk.1).1, hne k (ho k hk.1).2 hk.2.2.1⟩) h1
   refine ⟨v1, w1, hrun, ⟨fun k hk => ?_, inner ++ news, by rw [List.length_append, hm]; exact h2, reps_append (hr.imp_ (fun _ _ hq => step hq (fun _ hk => hk))) (hnM.imp_ (fun _ _ hq => step hq hokp))⟩, hg, hat'⟩
   rcases hat' with hat | ⟨b, hb, hle⟩
   ·exact hok k (hat ▸ hk)
   ·rw [hb] at hk
    injection hk with hk
    exact hfresh k (by omega)
 obtain ⟨v1, w1, hr1, h1, hg, hat⟩ := hrun
 refine wpList_plain hgd fun K hK => ?_
 unfold Oper.wp execOp
 simp only [ho, resolve, invoke, builtin, Sem.run_bind, Sem.run_pure, Result.andThen_ok, List.map_toArray, List.map_cons, List.map_nil, hs, hx, hr1]
 exact hK _ _ (h v1 w1 h1 (HB.grown hg hbase (own_base hown)) hg hat)
end
end Kd
namespace Kd
section
variable {P : Program} {ops : Array Oper} {rest : List Oper} {o : Oper} {a : Act} {Q : Exit → Act → World → Prop} {α : Type}
end
end Kd
namespace Kd
section
variable {α : Type} {k : Kd α} {w : World} {A : Option Addr} {xs : List α} {m c : Nat}
end
end Kd
section
variable {P : Program}
end
theorem below_size {w W : World} (h : Below w.heap.size w W) : w.heap.size ≤ W.heap.size := h.size
theorem below_step {w W w2 : World} (h : Below w.heap.size w W) (k : Below W.heap.size W w2) : Below w.heap.size w w2 := below_then h h.size k
theorem below_set {w W : World} {g j : Nat} {v : Value} (h : Below w.heap.size w W) (hg : w.heap.size ≤ g) : Below w.heap.size w (W.setCell ⟨g, j, none⟩ v) := h.setCell hg _
theorem keep_drewN {w W : World} {g : Nat} {row : Option Nat} (h : KeepBut w W g row) (m : Nat) : KeepBut w (W.drewN m) g row := h
theorem keep_alloc {w W : World} {g : Nat} (h : KeepBut w W g none) (o : Obj) : KeepBut w (W.alloc o) g none := h.trans (KeepBut.of_grown (World.grownBy_alloc W o none) g) (.inl rfl)
theorem below_weaken {w0 w w1 : World} {B : Nat} (h : Below w0.heap.size w0 w) (hB : w0.heap.size ≤ B) (k : Below B w w1) : Below w0.heap.size w0 w1 :=
 h.trans ⟨k.os, k.tape, k.output, k.size, fun i hi => k.block i (Nat.lt_of_lt_of_le hi hB)⟩
theorem own_base' {w : World} {base : Nat} {e : TypeId} {size n : Nat} {v : Value} {xs : List Value} (h : w.ownsRow base e size v n xs) : v.ownBlock = none ∨ ∃ b, v.ownBlock = some b ∧ base ≤ b := by
 cases hv : v.ownBlock with
 | none => exact .inl rfl
 | some b => exact .inr ⟨b, rfl, own_base h b hv⟩
theorem below_drew1 {base : Nat} {w W : World} (h : Below base w W) : Below base w W.drew := h.drew
namespace Kd
section
variable {α β : Type} {d : Kd α} {d' : Kd β} {e e' base base' n : Nat} {ok ok' : Nat → Prop} {w W w1 W1 : World} {v u : Value} {xs : List α} {ys : List β} {A : Option Addr} {c : Nat}
theorem R_base2 (h : d.R e w base ok v xs) : v.ownBlock = none ∨ ∃ k, v.ownBlock = some k ∧ base ≤ k := by
 obtain ⟨inner, ho⟩ := R_own h
 exact own_base' ho
end
section
variable {α : Type} {enc : α → Value} {h1 : ∀ x, (enc x).oneCell' = true} {w W : World} {A : Option Addr} {n g : Nat} {xs : List α}
end
end Kd
namespace Kd
section
variable {α : Type} {d : Kd α} {e base g : Nat} {ok : Nat → Prop} {w w1 : World} {v : Value} {xs : List α} {o : Obj}
end
end Kd
section
variable {P : Program} {ops : Array Oper} {rest : List Oper} {o : Oper} {a : Act} {Q : Exit → Act → World → Prop}
end
namespace Kd
section
variable {α : Type} {enc : α → Value} {h1 : ∀ x, (enc x).oneCell' = true} {e base g n cap : Nat} {ok : Nat → Prop} {W : World} {xs : List α}
end
end Kd
section
variable {P : Program} {ops : Array Oper} {rest : List Oper} {o : Oper} {a : Act} {Q : Exit → Act → World → Prop}
end
namespace Kd
section
variable {α : Type} {enc : α → Value} {h1 : ∀ x, (enc x).oneCell' = true} {e base g n cap : Nat} {ok : Nat → Prop} {W : World} {xs : List α}
end
end Kd
section
variable {P : Program} {ops : Array Oper} {rest : List Oper} {o : Oper} {a : Act} {Q : Exit → Act → World → Prop} {W : World}
theorem gate_dst {N : Tmp} (_hN : o.dst = some N) (h : wpList P ops Q (o :: rest) a W) : wpList P ops Q (o :: rest) a W := h
end
section
variable {P : Program} {ops : Array Oper} {o : Oper} {a : Act} {Q : Exit → Act → World → Prop} {Kc : Act → World → Prop}
namespace Kd
variable {α : Type}
end Kd
end
inductive Vals (P : Program) (tmps : Array Value) (w : World) : List ResultVar → List Value → Prop where
 | nil : Vals P tmps w [] []
 | tmp {u : Tmp} {rs : List ResultVar} {vs : List Value} (h : Vals P tmps w rs vs) : Vals P tmps w (.tmp u :: rs) (tmps.getD u undef :: vs)
 | cell {p : Tmp} {ty : TypeId} {rs : List ResultVar} {vs : List Value} (g : Nat) (t : TypeId) (cs : Array Value) (fr : Nat × Nat) (d : TypeDesc)
   (hp : tmps.getD p undef = .pointer (some ⟨g, 0, none⟩)) (hg : w.heap[g]? = some (.cells cs t fr))
   (hu : P.underlying ty = some d) (hd : (match d with | .struct _ | .array _ _ => true | _ => false) = true) (hi : (P.info? ty).map (·.size) = some cs.size)
   (h : Vals P tmps w rs vs) : Vals P tmps w (.cell p ty :: rs) (.agg cs :: vs)
section
variable {P : Program} {tmps : Array Value} {w : World}
theorem vals_run {rs : List ResultVar} {vs : List Value} (hv : Vals P tmps w rs vs) (f : ResultVar → Sem Value) (hf : ∀ u, f (.tmp u) = pure (tmps.getD u undef)) (hc : ∀ a t, f (.cell a t) = (do loadVar t (← asAddr (tmps.getD a undef)))) :
  (rs.mapM f).run P w = .ok vs w := by
 induction hv with
 | nil => simp
 | tmp h ih => simp [List.mapM_cons, hf, ih]
 | cell g t cs fr d hp hg hu hd hi h ih =>
  rw [List.mapM_cons, hc, hp]
  simp [asAddr, run_loadVar_row w g t _ cs fr d hg hu hd hi, ih]
theorem results_list {fn : Func} {rs : List ResultVar} {vs : List Value} (h : fn.results = rs.toArray) (hl : vs.length ≠ 1) (hv : Vals P tmps w rs vs) : (results fn tmps).run P w = .ok (.tuple vs.toArray) w := by
 unfold results
 rw [h, List.mapM_toArray]
 simp only [Sem.run_bind, Sem.run_map]
 rw [vals_run hv]
 ·simp [hl]
 ·intro u
  rfl
 ·intro a t
  rfl
end
namespace Kd
section
variable {P : Program} {α : Type}
end
section
variable {P : Program} {ops : Array Oper} {rest : List Oper} {o : Oper} {a : Act} {Q : Exit → Act → World → Prop} {Kc : Act → World → Prop} {α : Type}
end
end Kd
end Go.Proofs.YtgiioglmkogpkaaGreatDoorW.PrintWords
namespace Go.Proofs.YtgiioglmkogpkaaGreatDoorW.PrintLast
section
variable {P : Program} {ops : Array Oper} {Q : Exit → Act → World → Prop} {md : Region.Mode} {S : World → Prop} {ds : List Nat}
def Region.reachB (md : Region.Mode) (ops : Array Oper) (i : Nat) : Nat → Nat → Bool
 | 0, _ => false
 | fuel + 1, d => match ops[d]? with
  | some o => o.after.any fun e => Region.binds md e && (e.on == i || Region.reachB md ops i fuel e.on)
  | none => false
def Region.closedB (md : Region.Mode) (ops : Array Oper) (listed : Array Bool) : Bool :=
 (List.range ops.size).all fun j => !listed.getD j false || match ops[j]? with
  | some o => o.after.all fun e => !Region.binds md e || listed.getD e.on false
  | none => true
def Region.lastB (md : Region.Mode) (ops : Array Oper) (listed : Array Bool) (ds : List Nat) (i : Nat) : Bool :=
 ds.all fun d => listed.getD d true || Region.reachB md ops i ops.size d
def ListedClosed (md : Region.Mode) (ops : Array Oper) (listed : Array Bool) : Prop :=
 ∀ j oj, ops[j]? = some oj → listed.getD j false = true → ∀ e ∈ oj.after, Region.binds md e = true → listed.getD e.on false = true
theorem Region.closedB_spec {listed : Array Bool} (h : Region.closedB md ops listed = true) : ListedClosed md ops listed := by
 intro j oj hj hl e he hb
 have hlt : j < ops.size := (Array.getElem?_eq_some_iff.1 hj).1
 have h1 := List.all_eq_true.1 h j (List.mem_range.2 hlt)
 simp only [hl, hj, Bool.not_true, Bool.false_or] at h1
 have h2 := Array.all_eq_true_iff_forall_mem.1 h1 e he
 simpa [hb] using h2
theorem ListedClosed.set {listed : Array Bool} {i : Nat} (h : ListedClosed md ops listed) (hi : i ∈ Region.ready md ops listed) : ListedClosed md ops (listed.setIfInBounds i true) := by
 obtain ⟨_, oi, hoi, hall⟩ := mem_ready.1 hi
 intro j oj hj hl e he hb
 by_cases hij : i = j
 ·subst hij
  have : oj = oi := Option.some.inj (hj.symm.trans hoi)
  subst this
  exact getD_set_true (hall e he hb)
 ·rw [getD_set_ne false hij] at hl
  exact getD_set_true (h j oj hj hl e he hb)
theorem Region.reach_listed {listed : Array Bool} {i : Nat} (hc : ListedClosed md ops listed) : ∀ (fuel d : Nat), Region.reachB md ops i fuel d = true → listed.getD d false = true → listed.getD i false = true
 | 0, _, h, _ => by simp [Region.reachB] at h
 | fuel + 1, d, h, hl => by
  unfold Region.reachB at h
  cases ho : ops[d]? with
  | none => rw [ho] at h; simp at h
  | some o =>
   rw [ho] at h
   obtain ⟨e, he, h1⟩ := Array.any_eq_true'.1 h
   simp only [Bool.and_eq_true, Bool.or_eq_true, beq_iff_eq] at h1
   have hle := hc d o ho hl e he h1.1
   rcases h1.2 with h2 | h2
   ·rw [← h2]; exact hle
   ·exact Region.reach_listed hc fuel e.on h2 hle
theorem Region.reach_not_ready {listed : Array Bool} {i d fuel : Nat} (hc : ListedClosed md ops listed) (hr : Region.reachB md ops i fuel d = true) (hun : listed.getD i true = false) : d ∉ Region.ready md ops listed := by
 intro hd
 obtain ⟨_, o, ho, hall⟩ := mem_ready.1 hd
 have hi : listed.getD i false = true := by
  cases fuel with
  | zero => simp [Region.reachB] at hr
  | succ n =>
   unfold Region.reachB at hr
   rw [ho] at hr
   obtain ⟨e, he, h1⟩ := Array.any_eq_true'.1 hr
   simp only [Bool.and_eq_true, Bool.or_eq_true, beq_iff_eq] at h1
   have hle := hall e he h1.1
   rcases h1.2 with h2 | h2
   ·rw [← h2]; exact hle
   ·exact Region.reach_listed hc n e.on h2 hle
 rcases Nat.lt_or_ge i listed.size with h' | h'
 ·simp [h'] at hun hi
  rw [hun] at hi
  cases hi
 ·simp [Array.getElem?_eq_none h'] at hun
def wpAnyLast (P : Program) (md : Region.Mode) (ops : Array Oper) (Q : Exit → Act → World → Prop) (S : World → Prop) (ds : List Nat) : Nat → Array Bool → Act → World → Prop
 | 0, listed, a, w => Region.ready md ops listed = [] ∧ Q .normal a w
 | fuel + 1, listed, a, w =>
  (Region.ready md ops listed = [] → Q .normal a w) ∧
  ∀ i ∈ Region.ready md ops listed, wpOp P ops Q i (fun a' w' => (i ∉ ds → S w → S w') ∧ wpAnyLast P md ops Q S ds fuel (listed.setIfInBounds i true) a' w') a w
theorem wpAny_of_last : ∀ (fuel : Nat) (listed : Array Bool) (a : Act) (w : World), wpAnyLast P md ops Q S ds fuel listed a w → wpAny P md ops Q fuel listed a w
 | 0, _, _, _, h => h
 | fuel + 1, _, _, _, h => ⟨h.1, fun i hi => wpOp_mono (fun a' w' h' => wpAny_of_last fuel _ a' w' h'.2) (h.2 i hi)⟩
theorem wpAnyLast_first {i : Nat} {oi : Oper} {v : Value} (hi : ops[i]? = some oi) (hsel : ∀ (j : Nat) (o : Oper) cs b, ops[j]? = some o → o.op ≠ .select cs b)
  (hQ : ∀ c a w, Q (.panic c) (a.put oi.dst v) w → Q (.panic c) a w) (n : Nat) :
  ∀ (fuel : Nat) (listed : Array Bool) (a : Act) (w : World),
   (∀ j oj, ops[j]? = some oj → j ≠ i → listed.getD j true = false → (∀ e ∈ oj.after, Region.binds md e = true → e.on ≠ i) → oi.apart ops oj = true) →
   ListedClosed md ops listed → (∀ d ∈ ds, listed.getD d true = false → Region.reachB md ops i n d = true) →
   i ∈ Region.ready md ops listed → YieldsIf P ops S oi v a → S w →
   wpAnyLast P md ops Q S ds fuel (listed.setIfInBounds i true) (a.put oi.dst v) w → wpAnyLast P md ops Q S ds (fuel + 1) listed a w := by
 intro fuel
 induction fuel with
 | zero =>
  intro listed a w _ _ _ hr hy hS H
  refine ⟨fun h => (by rw [h] at hr; cases hr), fun j hj => ?_⟩
  by_cases hji : j = i
  ·subst hji; exact hy.wpOp hi hS ⟨fun _ h => h, H⟩
  ·have := ready_mono hj hji
   rw [H.1] at this
   cases this
 | succ fuel ih =>
  intro listed a w hfree hc hd hr hy hS H
  refine ⟨fun h => (by rw [h] at hr; cases hr), fun j hj => ?_⟩
  by_cases hji : j = i
  ·subst hji; exact hy.wpOp hi hS ⟨fun _ h => h, H⟩
  ·have h1 := H.2 j (ready_mono hj hji)
   obtain ⟨hjun, oj, hoj, hall⟩ := mem_ready.1 hj
   have hiun := (mem_ready.1 hr).1
   have hnot : ∀ e ∈ oj.after, Region.binds md e = true → e.on ≠ i := fun e he hb heq => by
    have h1 := hall e he hb
    rw [heq] at h1
    rcases Nat.lt_or_ge i listed.size with h' | h'
    ·simp [h'] at hiun h1; rw [hiun] at h1; cases h1
    ·simp [Array.getElem?_eq_none h'] at h1
   have hjd : j ∉ ds := fun hm => Region.reach_not_ready hc (hd j hm hjun) hiun hj
   have h2 := wpOp_putIf hoj (hfree j oj hoj hji hjun hnot) (fun cs b => hsel i oi cs b hi) (fun cs b => hsel j oj cs b hoj) hQ hy h1
   have hfree' : ∀ k ok, ops[k]? = some ok → k ≠ i → (listed.setIfInBounds j true).getD k true = false →
     (∀ e ∈ ok.after, Region.binds md e = true → e.on ≠ i) → oi.apart ops ok = true := fun k ok hk hki hun hno => by
    refine hfree k ok hk hki ?_ hno
    by_cases hjk : j = k
    ·subst hjk; exact hjun
    ·rw [getD_set_ne true hjk] at hun; exact hun
   have hd' : ∀ d ∈ ds, (listed.setIfInBounds j true).getD d true = false → Region.reachB md ops i n d = true := fun d hm hun => by
    refine hd d hm ?_
    by_cases hjk : j = d
    ·subst hjk; exact hjun
    ·rw [getD_set_ne true hjk] at hun; exact hun
   refine wpOp_mono (fun a' w' h3 => ⟨h3.2.1, ih (listed.setIfInBounds j true) a' w' hfree' (hc.set hj) hd' (ready_mono hr (Ne.symm hji)) h3.1 (h3.2.1 hjd hS) ?_⟩) h2
   rw [Array.setIfInBounds_comm _ _ hji]
   exact h3.2.2
theorem wpAnyLast_take {i : Nat} {oi : Oper} {v : Value} {fuel : Nat} {listed : Array Bool} {a : Act} {w : World} (hi : ops[i]? = some oi)
  (hs : Region.noSelect ops = true) (hf : Region.free md ops listed i = true) (hr : (Region.ready md ops listed).contains i = true)
  (hc : Region.closedB md ops listed = true) (hl : Region.lastB md ops listed ds i = true)
  (hQ : ∀ c a w, Q (.panic c) (a.put oi.dst v) w → Q (.panic c) a w) (hy : YieldsIf P ops S oi v a) (hS : S w)
  (h : wpAnyLast P md ops Q S ds fuel (listed.setIfInBounds i true) (a.put oi.dst v) w) : wpAnyLast P md ops Q S ds (fuel + 1) listed a w :=
 wpAnyLast_first hi (Region.noSelect_spec hs) hQ ops.size fuel listed a w (Region.free_spec hi hf) (Region.closedB_spec hc)
  (fun d hm hun => by have := List.all_eq_true.1 hl d hm; rw [hun] at this; simpa using this) (by simpa using hr) hy hS h
theorem wpAnyLast_all {rs : List Nat} {fuel : Nat} {listed : Array Bool} {a : Act} {w : World} (hr : Region.ready md ops listed = rs) (hne : rs ≠ [])
  (h : ∀ i ∈ rs, wpOp P ops Q i (fun a' w' => (i ∉ ds → S w → S w') ∧ wpAnyLast P md ops Q S ds fuel (listed.setIfInBounds i true) a' w') a w) : wpAnyLast P md ops Q S ds (fuel + 1) listed a w :=
 ⟨fun h0 => absurd (hr ▸ h0) hne, hr ▸ h⟩
theorem wpAnyLast_done {listed : Array Bool} {a : Act} {w : World} (hr : Region.ready md ops listed = []) (h : Q .normal a w) :
  ∀ fuel, wpAnyLast P md ops Q S ds fuel listed a w
 | 0 => ⟨hr, h⟩
 | _ + 1 => ⟨fun _ => h, by rw [hr]; simp⟩
theorem wp_region_last {id : Nat} {a : Act} {w : World} (hm : P.follows .mixedOrders = true)
  (h : wpAnyLast P .any ops Q S ds ops.size (Array.replicate ops.size false) a { w with drawn := w.drawn + 1 }) : (Code.region id ops true).wp P Q a w :=
 wp_region_any hm (wpAny_of_last _ _ _ _ h)
end
section
variable {P : Program} {ops : Array Oper} {Q : Exit → Act → World → Prop} {md : Region.Mode} {S : World → Prop} {ds : List Nat}
def AllReadyL (P : Program) (md : Region.Mode) (ops : Array Oper) (Q : Exit → Act → World → Prop) (S : World → Prop) (ds : List Nat) (fuel : Nat) (listed : Array Bool) (a : Act) (w : World) (rs : List Nat) : Prop :=
 ∀ i ∈ rs, wpOp P ops Q i (fun a' w' => (i ∉ ds → S w → S w') ∧ wpAnyLast P md ops Q S ds fuel (listed.setIfInBounds i true) a' w') a w
theorem AllReadyL.nil {fuel : Nat} {listed : Array Bool} {a : Act} {w : World} : AllReadyL P md ops Q S ds fuel listed a w [] := fun _ h => by cases h
theorem AllReadyL.cons {fuel : Nat} {listed : Array Bool} {a : Act} {w : World} {i : Nat} {o : Oper} {rs : List Nat} (ho : ops[i]? = some o) (hd : i ∉ ds)
  (h : ∀ K' : Act → World → Prop, Shut (∀ a w, S w → (S w → wpAnyLast P md ops Q S ds fuel (listed.setIfInBounds i true) a w) → K' a w) → if Region.wanted o (yielded ops a.tmps) = true then Oper.wp P o a w K' Q else K' (a.put o.dst undef) w)
  (hs : AllReadyL P md ops Q S ds fuel listed a w rs) : AllReadyL P md ops Q S ds fuel listed a w (i :: rs) := fun j hj => by
 rcases List.mem_cons.1 hj with rfl | hj
 ·exact wpOp_step ho (fun K' hK => h K' (fun a w hS hW => hK a w ⟨fun _ _ => hS, hW hS⟩))
 ·exact hs j hj
theorem AllReadyL.cons_last {fuel : Nat} {listed : Array Bool} {a : Act} {w : World} {i : Nat} {o : Oper} {rs : List Nat} (ho : ops[i]? = some o) (hd : i ∈ ds)
  (h : ∀ K' : Act → World → Prop, Shut (∀ a w, wpAnyLast P md ops Q S ds fuel (listed.setIfInBounds i true) a w → K' a w) → if Region.wanted o (yielded ops a.tmps) = true then Oper.wp P o a w K' Q else K' (a.put o.dst undef) w)
  (hs : AllReadyL P md ops Q S ds fuel listed a w rs) : AllReadyL P md ops Q S ds fuel listed a w (i :: rs) := fun j hj => by
 rcases List.mem_cons.1 hj with rfl | hj
 ·exact wpOp_step ho (fun K' hK => h K' (fun a w hW => hK a w ⟨fun hn => absurd hd hn, hW⟩))
 ·exact hs j hj
theorem wpAnyLast_ready {rs : List Nat} {fuel : Nat} {listed : Array Bool} {a : Act} {w : World} (hr : Region.ready md ops listed = rs) (hne : rs ≠ [])
  (h : AllReadyL P md ops Q S ds fuel listed a w rs) : wpAnyLast P md ops Q S ds (fuel + 1) listed a w := wpAnyLast_all hr hne h
theorem wp_region_last_drew {id : Nat} {a : Act} {w : World} (hm : P.follows .mixedOrders = true) (hS : S w.drew)
  (h : S w.drew → wpAnyLast P .any ops Q S ds ops.size (Array.replicate ops.size false) a w.drew) : (Code.region id ops true).wp P Q a w :=
 wp_region_last hm (h hS)
theorem enters_ {f : FuncId} {fn : Func} (hf : P.funcs[f]? = some fn) (hname : (fn.name == "runtime.NumGoroutine") = false) (hb : fn.body.isSome = true) (args : Array Value) (w : World) : (callFunc f args).run P w = .ok (.enter f args) w := by
 have h1 : fn.name ≠ "runtime.NumGoroutine" := by simpa using hname
 obtain ⟨c, hc⟩ := Option.isSome_iff_exists.1 hb
 simp [callFunc, hf, h1, hc]
theorem goesL_ {rest : List Oper} {oi : Oper} {a : Act} {w : World} (N : Option Tmp) (hd : oi.dst = N) (hg : oi.guard = none) {f : FuncId} {fn : Func} {az : Array Operand} {ts : Array TypeId} (hf : P.funcs[f]? = some fn) (hname : (fn.name == "runtime.NumGoroutine") = false) (hb : fn.body.isSome = true) (args : Array Value)
  (hop : oi.op = .call { callee := .value (.func f), args := az, argTypes := ts }) (hargs : az.map a.eval = args)
  (h : Calls P f args w fun e w' => ∃ v, e = .returned v ∧ wpList P ops Q rest (a.put N v) w') : wpList P ops Q (oi :: rest) a w := by
 refine wpList_plain hg fun K hK => ?_
 have he := enters_ hf hname hb args w
 have hrun : (execOp a.eval oi).run P w = .ok (.enter f args) w := by
  unfold execOp
  simp [hop, resolve, Deferred.ofValue, invoke, Act.eval, hargs, he]
 unfold Oper.wp
 rw [hrun, Oper.upon_enter]
 refine h.mono fun e w'' hh => ?_
 obtain ⟨v, rfl, hk⟩ := hh
 subst hd
 exact hK _ _ hk
theorem i64_w (n : Int) : IntKind.i64.wrap n = Go.RowKit.wrap64 n := by unfold Go.RowKit.wrap64; exact IntKind.wrap_i64 n
end
end Go.Proofs.YtgiioglmkogpkaaGreatDoorW.PrintLast
namespace Go.Proofs.YtgiioglmkogpkaaGreatDoorW.PrintLast
open Go.Proofs.YtgiioglmkogpkaaGreatDoorW.PrintWords (Aside0)
section
variable {md : Region.Mode} {ops : Array Oper} {T : Bool × List (List Nat × List Nat)} {l l' li lj lk : Array Bool} {ds : List Nat} {i j k : Nat}
end
end Go.Proofs.YtgiioglmkogpkaaGreatDoorW.PrintLast
namespace Go.Proofs.YtgiioglmkogpkaaGreatDoorW.PrintLast
section
variable {P : Program} {ops : Array Oper} {Q : Exit → Act → World → Prop} {md : Region.Mode} {S : World → Prop} {ds : List Nat} {T : Bool × List (List Nat × List Nat)}
end
end Go.Proofs.YtgiioglmkogpkaaGreatDoorW.PrintLast
namespace Go.Proofs.YtgiioglmkogpkaaGreatDoorW.PrintWords
open Go.RowKit
namespace Kd
section
variable {α : Type} {d : Kd α} {e base g o n cap : Nat} {ok okp : Nat → Prop} {w W : World} {v : Value} {xs : List α}
end
section
variable {α : Type} {enc : α → Value} {h1 : ∀ x, (enc x).oneCell' = true} {e base g o n cap : Nat} {ok : Nat → Prop} {W : World} {xs : List α}
end
end Kd
namespace Kd
def raw (sz : Nat) : Kd (List Value) where
 sz := sz
 E := []
 K := fun _ x cs => cs = x ∧ cs.length = sz ∧ ∀ u ∈ cs, u.oneCell' = true
 M := fun _ _ _ x cs => cs = x ∧ cs.length = sz ∧ ∀ u ∈ cs, u.oneCell' = true
 K_len := fun h => h.2.1
 K_one := fun h => h.2.2
 K_below := fun _ h => h
 K_of_M := fun h => h
 M_mono := fun _ h => h
 M_bound := fun h => h
 M_move := fun _ h => h
 M_lower := fun _ h => h
section
variable {α β : Type} {d : Kd α} {d' : Kd β} {e e' : Nat} {w w1 W : World} {base b : Nat} {ok ok' okv oku : Nat → Prop} {u v : Value} {xs : List α} {ys : List β}
theorem R_tight (hE : d.E = []) (h : d.R e w base ok v xs) : d.R e w base (fun k => some k = v.ownBlock) v xs := by
 obtain ⟨h0, inner, ho, hr⟩ := h
 refine ⟨fun k hk => hk.symm, inner, ho, hr.imp_ (fun p c hp => d.M_mono (fun k hk => ?_) (d.M_bound hp))⟩
 obtain ⟨_, _, _, q, hq, _⟩ := hk
 rw [hE] at hq
 cases hq
end
section
variable {α β : Type} {d : Kd α} {d' : Kd β} {e e' g : Nat} {w w1 W : World} {base b : Nat} {ok ok' okv oku : Nat → Prop} {u v : Value} {xs : List α} {ys : List β}
end
section
variable {P : Program} {ops : Array Oper} {rest : List Oper} {o : Oper} {a : Act} {Q : Exit → Act → World → Prop} {Kc : Act → World → Prop} {α : Type}
end
section
variable {α β : Type} {d : Kd α} {e e' g n cap : Nat} {w w1 W : World} {base : Nat} {ok ok' oki okp : Nat → Prop} {u v : Value} {xs : List α} {i : Int} {c : List Value}
end
section
variable {P : Program} {ops : Array Oper} {rest : List Oper} {o : Oper} {a : Act} {Q : Exit → Act → World → Prop} {α : Type}
end
end Kd
namespace Kd
section
variable {α : Type} {n : Nat} {d : Kd α} {hs : 0 < d.sz} {w : World} {base : Nat} {ok : Nat → Prop} {xs : List α} {cs : List Value}
end
section
variable {α : Type} {n : Nat} {enc : α → Value} {h1 : ∀ x, (enc x).oneCell' = true} {hs : 0 < (scalar enc h1).sz} {w : World} {base : Nat} {ok : Nat → Prop} {xs : List α} {cs : List Value}
end
end Kd
section
variable {P : Program}
end
namespace Kd
section
variable {P : Program} {ops : Array Oper} {rest : List Oper} {o : Oper} {a : Act} {Q : Exit → Act → World → Prop} {Kc : Act → World → Prop} {α : Type}
end
section
variable {α : Type} {d : Kd α} {e : Nat} {w : World} {base : Nat} {ok : Nat → Prop} {v : Value} {xs : List α}
end
section
variable {P : Program} {ops : Array Oper} {rest : List Oper} {o : Oper} {a : Act} {Q : Exit → Act → World → Prop} {Kc : Act → World → Prop} {α : Type}
end
end Kd
namespace Kd
section
variable {α : Type} {d : Kd α} {e base g n c : Nat} {ok : Nat → Prop} {w w0 W : World} {A : Option Addr} {xs : List α}
end
end Kd
def Kept (w W : World) (S : Nat → Prop) : Prop := w.heap.size ≤ W.heap.size ∧ ∀ i, i < w.heap.size → ¬ S i → W.heap[i]? = w.heap[i]?
section
variable {w W W2 : World} {S S2 S' : Nat → Prop}
theorem Kept.refl (w : World) (S : Nat → Prop) : Kept w w S := ⟨Nat.le_refl _, fun _ _ _ => rfl⟩
theorem Kept.of_below (h : Below w.heap.size w W) (S : Nat → Prop) : Kept w W S := ⟨h.size, fun i hi _ => h.block i hi⟩
theorem Kept.then_ (h : Kept w W S) (k : Kept W W2 S2) (hs : ∀ k, S2 k → S k ∨ w.heap.size ≤ k) : Kept w W2 S :=
 ⟨Nat.le_trans h.1 k.1, fun i hi hn => (k.2 i (Nat.lt_of_lt_of_le hi h.1) (fun h2 => (hs i h2).elim hn (fun h3 => by omega))).trans (h.2 i hi hn)⟩
theorem Kept.of_grown {row : Option Nat} (hg : W.grownBy W2 row) (h : Kept w W S) (hr : ∀ k, row = some k → S k ∨ w.heap.size ≤ k) : Kept w W2 S :=
 h.then_ (S2 := fun k => row = some k) ⟨hg.size, fun i hi hn => hg.block i hi (fun he => hn he.symm)⟩ hr
theorem Kept.below (h : Kept w W S) (hb : Below W.heap.size W W2) : Kept w W2 S := h.then_ (Kept.of_below hb (fun _ => False)) (fun _ hk => hk.elim)
theorem Kept.drewN (h : Kept w W S) (m : Nat) : Kept w (W.drewN m) S := h
end
namespace Kd
section
variable {α : Type} {d : Kd α} {e base n c : Nat} {ok oki S S2 : Nat → Prop} {w w0 W W1 W2 : World} {v : Value} {A : Option Addr} {xs : List α} {i : Int} {cs : List Value}
end
end Kd
namespace Foot
variable {P Q : World → Prop} {W W1 : World} {ok ok' : Nat → Prop}
end Foot
namespace Kd
section
variable {α β : Type} {d : Kd α} {e base n n' cc g N : Nat} {ok ok' okp S : Nat → Prop} {w w0 w1 W W1 : World} {A A' : Option Addr} {u v v1 : Value} {xs : List α} {xs' : List β} {d' : Kd β} {x : α} {c : List Value}
end
end Kd
namespace Kd
section
variable {α : Type} {d : Kd α} {e base n cc g : Nat} {ok ok' okp S : Nat → Prop} {w w1 W W1 : World} {A : Option Addr} {u v v1 : Value} {xs : List α} {x : α} {c : List Value}
end
end Kd
namespace Kd
section
variable {α : Type} {d : Kd α} {W : World} {g n : Nat} {S ok : Nat → Prop} {A : Option Addr} {ad : Addr} {xs : List α}
end
end Kd
section
variable {w w' u : World} {m B g : Nat} {o : Obj} {row : Option Nat} {S : Nat → Prop} {a : Addr} {v : Value}
end
namespace Kd
section
variable {α : Type} {d : Kd α} {e base n m : Nat} {ok : Nat → Prop} {w w' : World} {v : Value} {A : Option Addr} {xs : List α}
end
end Kd
section
variable {P : Program} {d : Nat} {xs ys : Array Value} {f : Field} {fs : List Field} {a b : Value} {r s : Bool} {w : World}
end
end Go.Proofs.YtgiioglmkogpkaaGreatDoorW.PrintWords
namespace Go.Proofs.YtgiioglmkogpkaaGreatDoorW.PrintWords
theorem Reps.one {α : Type} {R : α → List Value → Prop} {ps : List α} {cs : List Value} {p : α} {v : Value} (hp : R p [v]) (h : Reps R 1 ps cs) : Reps R 1 (p :: ps) (v :: cs) := by
 refine ⟨by simp [h.1], fun j q hq => ?_⟩
 cases j with
 | zero =>
  simp only [List.getElem?_cons_zero, Option.some.injEq] at hq
  subst hq
  simpa using hp
 | succ j =>
  simp only [List.getElem?_cons_succ] at hq
  have h1 := h.2 j q hq
  simpa [Nat.mul_one] using h1
end Go.Proofs.YtgiioglmkogpkaaGreatDoorW.PrintWords
namespace Go.Proofs.YtgiioglmkogpkaaGreatDoorW.PrintLast
section
variable {P : Program} {ops : Array Oper} {Q : Exit → Act → World → Prop} {md : Region.Mode} {T : Bool × List (List Nat × List Nat)} {B : List Nat} {O : List Nat} {b : Nat → Bool} {i j n : Nat}
end
end Go.Proofs.YtgiioglmkogpkaaGreatDoorW.PrintLast
namespace Go.Proofs.YtgiioglmkogpkaaGreatDoorW.PrintWords
open Go.RowKit
end Go.Proofs.YtgiioglmkogpkaaGreatDoorW.PrintWords
namespace Go.Proofs.YtgiioglmkogpkaaGreatDoorW.PrintLast
section
variable {ops : Array Oper} {a : Act} {o og : Oper} {g : Nat} {t : Tmp} {u : Bool}
end
end Go.Proofs.YtgiioglmkogpkaaGreatDoorW.PrintLast
namespace Go.Proofs.YtgiioglmkogpkaaGreatDoorW.PrintWords
open Go.RowKit
section
variable {P : Program} {ops : Array Oper} {rest : List Oper} {o : Oper} {a : Act} {Q : Exit → Act → World → Prop} {W : World}
end
namespace Kd
section
variable {α : Type} {d : Kd α} {e base n cap g : Nat} {ok ok' okp : Nat → Prop} {w w1 W : World} {v v1 : Value} {xs ys : List α}
end
section
variable {P : Program} {ops : Array Oper} {rest : List Oper} {o : Oper} {a : Act} {Q : Exit → Act → World → Prop} {Kc : Act → World → Prop} {α : Type}
end
end Kd
end Go.Proofs.YtgiioglmkogpkaaGreatDoorW.PrintWords
namespace Go.Proofs.YtgiioglmkogpkaaGreatDoorW.PrintMore
open Go.RowKit Go.Proofs.YtgiioglmkogpkaaGreatDoorW.PrintWords
namespace Kd
open Go.Proofs.YtgiioglmkogpkaaGreatDoorW.PrintWords.Kd
end Kd
namespace Kd
open Go.Proofs.YtgiioglmkogpkaaGreatDoorW.PrintWords.Kd
section
variable {α : Type} {d : Kd α} {e base g N : Nat} {ok : Nat → Prop} {W w1 : World} {u v : Value} {xs : List α}
end
end Kd
theorem max2_int (k k' : IntKind) (x y : Int) : Builtin.max2 (.int k x) (.int k' y) = pure (.int k (if x < y then y else x)) := by simp only [Builtin.max2, gt_iff_lt]
theorem min2_int (k k' : IntKind) (x y : Int) : Builtin.min2 (.int k x) (.int k' y) = pure (.int k (if y < x then y else x)) := by simp only [Builtin.min2]
theorem max_two (ats : Array TypeId) (ty : TypeId) (a b : Value) : Builtin.max_ ats ty #[a, b] = (Builtin.max2 a b >>= fun s => pure s) := by simp only [Builtin.max_, List.foldlM_cons, List.foldlM_nil]
theorem min_two (ats : Array TypeId) (ty : TypeId) (a b : Value) : Builtin.min_ ats ty #[a, b] = (Builtin.min2 a b >>= fun s => pure s) := by simp only [Builtin.min_, List.foldlM_cons, List.foldlM_nil]
theorem max_three (ats : Array TypeId) (ty : TypeId) (a b c : Value) : Builtin.max_ ats ty #[a, b, c] = (Builtin.max2 a b >>= fun s => Builtin.max2 s c >>= fun s => pure s) := by simp only [Builtin.max_, List.foldlM_cons, List.foldlM_nil]
theorem min_three (ats : Array TypeId) (ty : TypeId) (a b c : Value) : Builtin.min_ ats ty #[a, b, c] = (Builtin.min2 a b >>= fun s => Builtin.min2 s c >>= fun s => pure s) := by simp only [Builtin.min_, List.foldlM_cons, List.foldlM_nil]
theorem max_four (ats : Array TypeId) (ty : TypeId) (a b c d : Value) : Builtin.max_ ats ty #[a, b, c, d] = (Builtin.max2 a b >>= fun s => Builtin.max2 s c >>= fun s => Builtin.max2 s d >>= fun s => pure s) := by simp only [Builtin.max_, List.foldlM_cons, List.foldlM_nil]
theorem min_four (ats : Array TypeId) (ty : TypeId) (a b c d : Value) : Builtin.min_ ats ty #[a, b, c, d] = (Builtin.min2 a b >>= fun s => Builtin.min2 s c >>= fun s => Builtin.min2 s d >>= fun s => pure s) := by simp only [Builtin.min_, List.foldlM_cons, List.foldlM_nil]
end Go.Proofs.YtgiioglmkogpkaaGreatDoorW.PrintMore
namespace Go.Proofs.YtgiioglmkogpkaaGreatDoorW.PrintWords
open Go.RowKit
section
variable {P : Program} {ops : Array Oper} {rest : List Oper} {o : Oper} {a : Act} {Q : Exit → Act → World → Prop} {W : World}
theorem gate_callee {f : FuncId} {az : Array Operand} {ts : Array TypeId} (_ho : o.op = .call { callee := .value (.func f), args := az, argTypes := ts }) (h : wpList P ops Q (o :: rest) a W) : wpList P ops Q (o :: rest) a W := h
theorem gate_builtin {b : Builtin} {xs : Array Operand} {ts : Array TypeId} (_ho : o.op = .call { callee := .builtin b, args := xs, argTypes := ts }) (h : wpList P ops Q (o :: rest) a W) : wpList P ops Q (o :: rest) a W := h
end
namespace Kd
section
variable {α : Type} {d : Kd α} {e base : Nat} {ok : Nat → Prop} {W w1 : World} {v : Value} {xs : List α}
end
section
variable {α : Type} {d : Kd α} {e base g n cap : Nat} {ok oki okp : Nat → Prop} {W : World} {xs : List α} {i : Int} {c : List Value}
end
section
variable {α : Type} {d : Kd α} {e base b b' g N : Nat} {ok ok1 : Nat → Prop} {W W2 w1 : World} {u v : Value} {xs ys : List α} {S : Nat → Prop}
end
end Kd
end Go.Proofs.YtgiioglmkogpkaaGreatDoorW.PrintWords
namespace Go.Proofs.YtgiioglmkogpkaaGreatDoorW.PrintWords
open Go.RowKit
namespace Kd
section
variable {α β : Type} {d : Kd α} {e base base' n m c g N' lo hi : Nat} {ok ok' S : Nat → Prop} {w W w1 : World} {A : Option Addr} {ad : Addr} {u v v1 : Value} {xs : List α}
theorem R_newM {M : Nat → Prop} (h : d.R e w1 W.heap.size ok v xs) (hle : w.heap.size ≤ W.heap.size) (hM : ∀ k, w.heap.size ≤ k → M k) : d.R e w1 W.heap.size (fun k => M k ∧ ok k) v xs := R_mono (R_bound h) (fun k hk => ⟨hM k (Nat.le_trans hle hk.2.1), hk.1⟩)
end
end Kd
end Go.Proofs.YtgiioglmkogpkaaGreatDoorW.PrintWords
namespace Go.Proofs.YtgiioglmkogpkaaGreatDoor.M
open Go.RowKit Go.Proofs.YtgiioglmkogpkaaGreatDoorW.PrintWords Go.Proofs.YtgiioglmkogpkaaGreatDoorW.PrintLast Go.Proofs.YtgiioglmkogpkaaGreatDoorW.PrintMore
attribute [local go_sem] max2_int min2_int max_two min_two max_three min_three max_four min_four
theorem info5 : (Tryz.prog.info? 5).map (fun i => (i.zero, i.size, i.bytes)) = some (some (.int .u8 0), 1, 1) := by kernel_rfl
theorem info9 : (Tryz.prog.info? 9).map (fun i => (i.zero, i.size, i.bytes)) = some (some (.string ⟨#[]⟩), 1, 16) := by kernel_rfl
theorem info25 : (Tryz.prog.info? 25).map (fun i => (i.zero, i.size, i.bytes)) = some (some (.agg #[(.int .i64 0), (.string ⟨#[]⟩), (.slice none 0 0), (.slice none 0 0)]), 4, 72) := by kernel_rfl
theorem info78 : (Tryz.prog.info? 78).map (fun i => (i.zero, i.size, i.bytes)) = some (some (.agg #[(.int .i64 0), (.int .i64 0), (.int .i64 0), (.slice none 0 0), (.slice none 0 0)]), 5, 72) := by kernel_rfl
theorem info115 : (Tryz.prog.info? 115).map (fun i => (i.zero, i.size, i.bytes)) = some (some (.agg #[(.int .i64 0), (.int .i64 0)]), 2, 16) := by kernel_rfl
structure S115 where
 f0 : Int
 f1 : Int
def z115 : S115 := ⟨(0 : Int), (0 : Int)⟩
def k115 : Kd S115 := Kd.iso (Kd.pair (Kd.int .i64) (Kd.int .i64)) (fun x : S115 => (x.f0, x.f1))
theorem k115_open {w : World} {x : S115} {cs : List Value} (h : k115.K w x cs) : cs = [.int .i64 x.f0, .int .i64 x.f1] := by
 obtain ⟨_, _, rfl, rfl, rfl⟩ := h
 exact rfl
theorem k115_mkM (w : World) (base : Nat) (ok : Nat → Prop) (x : S115)  : k115.M w base ok x [.int .i64 x.f0, .int .i64 x.f1] := ⟨[.int .i64 x.f0], [.int .i64 x.f1], rfl, rfl, rfl⟩
def rd_T115 (xs : List S115) (i : Int) : S115 := xs.getD i.toNat z115
theorem at_T115 {w : World} {A : Option Addr} {n : Nat} {xs : List S115} (h : Kd.C k115 w A n xs) (i : Int) (h0 : 0 ≤ i) (h1 : i < n) : ∃ ad , A = some ad ∧ w.cell? (ad.add (i.toNat * 2)) = some (.int .i64 (rd_T115 xs i).f0) ∧ w.cell? ⟨(ad.add (i.toNat * 2)).block, (ad.add (i.toNat * 2)).off + 1, none⟩ = some (.int .i64 (rd_T115 xs i).f1) := by
 obtain ⟨ad, c, e, _, hK, hc0⟩ := Kd.C_get h z115 i h0 h1
 have hc : ∀ j u, c[j]? = some u → w.cell? (ad.add (i.toNat * 2 + j)) = some u := hc0
 obtain rfl := k115_open hK
 exact ⟨ad, e, hc 0 _ rfl, by rw [← add_field _ _ 1 (by omega)]; exact hc 1 _ rfl⟩
structure S78 where
 f0 : Int
 f1 : Int
 f2 : Int
 f3 : (List S115)
 f4 : (List S78)
def z78 : S78 := ⟨(0 : Int), (0 : Int), (0 : Int), ([] : List S115), ([] : List S78)⟩
def F78 (d : Kd S78) : Kd S78 := Kd.iso (Kd.pair (Kd.int .i64) (Kd.pair (Kd.int .i64) (Kd.pair (Kd.int .i64) (Kd.pair (Kd.slice 115 k115) (Kd.slice 78 d))))) (fun x : S78 => (x.f0, x.f1, x.f2, x.f3, x.f4))
theorem mono78 : Kd.Mono F78 := Kd.mono_iso _ (Kd.mono_pair (Kd.mono_const _) (Kd.mono_pair (Kd.mono_const _) (Kd.mono_pair (Kd.mono_const _) (Kd.mono_pair (Kd.mono_const _) (Kd.mono_slice 78 Kd.mono_id)))))
theorem sub78 : Kd.Sub F78 [78, 115] := Kd.sub_iso _ (Kd.sub_pair (Kd.sub_const _ (by decide)) (Kd.sub_pair (Kd.sub_const _ (by decide)) (Kd.sub_pair (Kd.sub_const _ (by decide)) (Kd.sub_pair (Kd.sub_const _ (by decide)) (Kd.sub_slice 78 (by decide) Kd.sub_id)))))
theorem sz78 : ∀ n, (Kd.upto F78 5 [78, 115] n).sz = 5 := Kd.upto_sz (fun _ => rfl)
def k78 : Kd S78 := Kd.fix F78 5 [78, 115] sz78 (Kd.upto_E sub78)
theorem k78_open {w : World} {x : S78} {cs : List Value} (h : k78.K w x cs) : ∃ A3 c3 A4 c4, cs = [.int .i64 x.f0, .int .i64 x.f1, .int .i64 x.f2, .slice A3 x.f3.length c3, .slice A4 x.f4.length c4] ∧ x.f3.length ≤ c3 ∧ k115.C w A3 x.f3.length x.f3 ∧ x.f4.length ≤ c4 ∧ k78.C w A4 x.f4.length x.f4 := by
 obtain ⟨n, h⟩ := h
 cases n with
 | zero => exact h.elim
 | succ n =>
  obtain ⟨_, _, rfl, rfl, ⟨_, _, rfl, rfl, ⟨_, _, rfl, rfl, ⟨_, _, rfl, ⟨A3, c3, rfl, l3, g3⟩, ⟨A4, c4, rfl, l4, g4⟩⟩⟩⟩⟩ := h
  exact ⟨A3, c3, A4, c4, rfl, l3, g3, l4, Kd.fix_C g4⟩
theorem k78_mkM (w : World) (base : Nat) (ok : Nat → Prop) (x : S78) {v3 : Value} (g3 : k115.R 115 w base ok v3 x.f3) {v4 : Value} (g4 : k78.R 78 w base ok v4 x.f4) : k78.M w base ok x [.int .i64 x.f0, .int .i64 x.f1, .int .i64 x.f2, v3, v4] := by
 obtain ⟨n4, q4⟩ := Kd.fix_R_back mono78 g4
 have r4 := Kd.upto_R_le mono78 sz78 (show n4 ≤ n4 by omega) q4
 exact ⟨n4 + 1, ⟨[.int .i64 x.f0], [.int .i64 x.f1, .int .i64 x.f2, v3, v4], rfl, rfl, ⟨[.int .i64 x.f1], [.int .i64 x.f2, v3, v4], rfl, rfl, ⟨[.int .i64 x.f2], [v3, v4], rfl, rfl, ⟨[v3], [v4], rfl, ⟨v3, rfl, g3⟩, ⟨v4, rfl, r4⟩⟩⟩⟩⟩⟩
def rd_T78 (xs : List S78) (i : Int) : S78 := xs.getD i.toNat z78
theorem at_T78 {w : World} {A : Option Addr} {n : Nat} {xs : List S78} (h : Kd.C k78 w A n xs) (i : Int) (h0 : 0 ≤ i) (h1 : i < n) : ∃ ad A3 c3 A4 c4, A = some ad ∧ w.cell? (ad.add (i.toNat * 5)) = some (.int .i64 (rd_T78 xs i).f0) ∧ w.cell? ⟨(ad.add (i.toNat * 5)).block, (ad.add (i.toNat * 5)).off + 1, none⟩ = some (.int .i64 (rd_T78 xs i).f1) ∧ w.cell? ⟨(ad.add (i.toNat * 5)).block, (ad.add (i.toNat * 5)).off + 2, none⟩ = some (.int .i64 (rd_T78 xs i).f2) ∧ w.cell? ⟨(ad.add (i.toNat * 5)).block, (ad.add (i.toNat * 5)).off + 3, none⟩ = some (.slice A3 (rd_T78 xs i).f3.length c3) ∧ w.cell? ⟨(ad.add (i.toNat * 5)).block, (ad.add (i.toNat * 5)).off + 4, none⟩ = some (.slice A4 (rd_T78 xs i).f4.length c4) ∧ (rd_T78 xs i).f3.length ≤ c3 ∧ k115.C w A3 (rd_T78 xs i).f3.length (rd_T78 xs i).f3 ∧ (rd_T78 xs i).f4.length ≤ c4 ∧ k78.C w A4 (rd_T78 xs i).f4.length (rd_T78 xs i).f4 := by
 obtain ⟨ad, c, e, _, hK, hc0⟩ := Kd.C_get h z78 i h0 h1
 have hc : ∀ j u, c[j]? = some u → w.cell? (ad.add (i.toNat * 5 + j)) = some u := hc0
 obtain ⟨A3, c3, A4, c4, rfl, l3, g3, l4, g4⟩ := k78_open hK
 exact ⟨ad, A3, c3, A4, c4, e, hc 0 _ rfl, by rw [← add_field _ _ 1 (by omega)]; exact hc 1 _ rfl, by rw [← add_field _ _ 2 (by omega)]; exact hc 2 _ rfl, by rw [← add_field _ _ 3 (by omega)]; exact hc 3 _ rfl, by rw [← add_field _ _ 4 (by omega)]; exact hc 4 _ rfl, l3, g3, l4, g4⟩
structure S25 where
 f0 : Int
 f1 : ByteArray
 f2 : (List ByteArray)
 f3 : (List S25)
def F25 (d : Kd S25) : Kd S25 := Kd.iso (Kd.pair (Kd.int .i64) (Kd.pair Kd.string (Kd.pair (Kd.slice 9 Kd.string) (Kd.slice 25 d)))) (fun x : S25 => (x.f0, x.f1, x.f2, x.f3))
theorem mono25 : Kd.Mono F25 := Kd.mono_iso _ (Kd.mono_pair (Kd.mono_const _) (Kd.mono_pair (Kd.mono_const _) (Kd.mono_pair (Kd.mono_const _) (Kd.mono_slice 25 Kd.mono_id))))
theorem sub25 : Kd.Sub F25 [9, 25] := Kd.sub_iso _ (Kd.sub_pair (Kd.sub_const _ (by decide)) (Kd.sub_pair (Kd.sub_const _ (by decide)) (Kd.sub_pair (Kd.sub_const _ (by decide)) (Kd.sub_slice 25 (by decide) Kd.sub_id))))
theorem sz25 : ∀ n, (Kd.upto F25 4 [9, 25] n).sz = 4 := Kd.upto_sz (fun _ => rfl)
def k25 : Kd S25 := Kd.fix F25 4 [9, 25] sz25 (Kd.upto_E sub25)
theorem k25_open {w : World} {x : S25} {cs : List Value} (h : k25.K w x cs) : ∃ A2 c2 A3 c3, cs = [.int .i64 x.f0, .string x.f1, .slice A2 x.f2.length c2, .slice A3 x.f3.length c3] ∧ x.f2.length ≤ c2 ∧ Kd.string.C w A2 x.f2.length x.f2 ∧ x.f3.length ≤ c3 ∧ k25.C w A3 x.f3.length x.f3 := by
 obtain ⟨n, h⟩ := h
 cases n with
 | zero => exact h.elim
 | succ n =>
  obtain ⟨_, _, rfl, rfl, ⟨_, _, rfl, rfl, ⟨_, _, rfl, ⟨A2, c2, rfl, l2, g2⟩, ⟨A3, c3, rfl, l3, g3⟩⟩⟩⟩ := h
  exact ⟨A2, c2, A3, c3, rfl, l2, g2, l3, Kd.fix_C g3⟩
theorem k25_mkM (w : World) (base : Nat) (ok : Nat → Prop) (x : S25) {v2 : Value} (g2 : Kd.string.R 9 w base ok v2 x.f2) {v3 : Value} (g3 : k25.R 25 w base ok v3 x.f3) : k25.M w base ok x [.int .i64 x.f0, .string x.f1, v2, v3] := by
 obtain ⟨n3, q3⟩ := Kd.fix_R_back mono25 g3
 have r3 := Kd.upto_R_le mono25 sz25 (show n3 ≤ n3 by omega) q3
 exact ⟨n3 + 1, ⟨[.int .i64 x.f0], [.string x.f1, v2, v3], rfl, rfl, ⟨[.string x.f1], [v2, v3], rfl, rfl, ⟨[v2], [v3], rfl, ⟨v2, rfl, g2⟩, ⟨v3, rfl, r3⟩⟩⟩⟩⟩
end Go.Proofs.YtgiioglmkogpkaaGreatDoor.M

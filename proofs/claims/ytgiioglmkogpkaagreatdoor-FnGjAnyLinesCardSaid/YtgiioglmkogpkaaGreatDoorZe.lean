/- Texts behind the law FnGjAnyLines: part 5. -/
import Derived.Test.YtgiioglmkogpkaaGreatDoorZd
import Derived.Laws.DeepStrings4
import Derived.Test.YtgiioglmkogpkaaGreatDoorZc
import Derived.WalkMore
import Derived.Deep.LoopGhost
import Derived.Laws.BitsLemmas
import Derived.Lib.LazyBuf
import Derived.Shelf.Abstract
import Derived.LoopN
import Derived.Deep.RegionHeld3
import Derived.Test.YtgiioglmkogpkaaGreatDoorZb
set_option linter.unusedVariables false
set_option linter.unusedSimpArgs false
namespace Go.Proofs.YtgiioglmkogpkaaGreatDoor.F
open Go.RowKit Go.Proofs.YtgiioglmkogpkaaGreatDoorW.PrintWords Go.Proofs.YtgiioglmkogpkaaGreatDoorW.PrintLast Go.Proofs.YtgiioglmkogpkaaGreatDoorW.PrintMore
open M
set_option maxHeartbeats 8000000
set_option maxRecDepth 8192
structure RF where
 m : Int
 nd : Int
 nm : Int
 dp : Int
 t : Bool
def rfStep (x : Int) (r : RF) : RF :=
 if x = 46 then ⟨r.m, r.nd, r.nm, r.nd, r.t⟩
 else if x = 48 ∧ r.nd = 0 then ⟨r.m, r.nd, r.nm, r.dp - 1, r.t⟩
 else if r.nm < 19 then ⟨IntKind.u64.wrap (IntKind.u64.wrap (r.m * 10) + (x - 48)), r.nd + 1, r.nm + 1, r.dp, r.t⟩
 else ⟨r.m, r.nd + 1, r.nm, r.dp, if x = 48 then r.t else true⟩
def rfAt (s : ByteArray) (a : Int) : Nat → RF
 | 0 => ⟨0, 0, 0, 0, false⟩
 | n + 1 => rfStep (bt s (a + n)) (rfAt s a n)
theorem rf_next {s : ByteArray} {a i x : Int} {r r' : RF} (h : r = rfAt s a (i - a).toNat) (ha : a ≤ i) (hx : x = bt s i) (e : r' = rfStep x r) : r' = rfAt s a (i + 1 - a).toNat := by
 have e1 : (i + 1 - a).toNat = (i - a).toNat + 1 := by omega
 have e2 : a + ((i - a).toNat : Int) = i := by omega
 rw [e, e1, h, hx]
 show _ = rfStep (bt s (a + ((i - a).toNat : Int))) _
 rw [e2]
theorem rf_dot (m nd nm dp : Int) (t : Bool) : (⟨m, nd, nm, nd, t⟩ : RF) = rfStep 46 ⟨m, nd, nm, dp, t⟩ := by
 simp only [rfStep, if_pos]
theorem rf_zero {x m nd nm dp : Int} {t : Bool} (hx : x = 48) (hn : (nd == 0) = true) : (⟨m, nd, nm, dp - 1, t⟩ : RF) = rfStep x ⟨m, nd, nm, dp, t⟩ := by
 have hn := eq_of_beq hn; subst hx hn; simp [rfStep]
theorem rf_dig {x m nd nm dp : Int} {t : Bool} (h6 : x ≠ 46) (hx : x = 48 → nd ≠ 0) (hn : nm < 19) : (⟨IntKind.u64.wrap (IntKind.u64.wrap (m * 10) + (x - 48)), nd + 1, nm + 1, dp, t⟩ : RF) = rfStep x ⟨m, nd, nm, dp, t⟩ := by
 unfold rfStep
 dsimp only
 rw [if_neg h6, if_neg (fun h => hx h.1 h.2), if_pos hn]
theorem rf_dig0 {x m nd nm dp : Int} {t : Bool} (hx : x = 48) (hd : (nd == 0) = false) (hn : nm < 19) : (⟨IntKind.u64.wrap (IntKind.u64.wrap (m * 10)), nd + 1, nm + 1, dp, t⟩ : RF) = rfStep x ⟨m, nd, nm, dp, t⟩ := by
 have hd := beq_eq_false_iff_ne.mp hd
 unfold rfStep
 dsimp only
 rw [if_neg (by omega), if_neg (fun h => hd h.2), if_pos hn, hx, Int.sub_self, Int.add_zero]
theorem rf_over0 {x m nd nm dp : Int} {t : Bool} (hx : x = 48) (hd : (nd == 0) = false) (hn : ¬ nm < 19) : (⟨m, nd + 1, nm, dp, t⟩ : RF) = rfStep x ⟨m, nd, nm, dp, t⟩ := by
 have hd := beq_eq_false_iff_ne.mp hd
 unfold rfStep
 dsimp only
 rw [if_neg (by omega), if_neg (fun h => hd h.2), if_neg hn, if_pos hx]
theorem rf_over1 {x m nd nm dp : Int} {t : Bool} (h6 : x ≠ 46) (hx : x ≠ 48) (hn : ¬ nm < 19) : (⟨m, nd + 1, nm, dp, true⟩ : RF) = rfStep x ⟨m, nd, nm, dp, t⟩ := by
 unfold rfStep
 dsimp only
 rw [if_neg h6, if_neg (fun h => hx h.1), if_neg hn, if_neg hx]
def eAt (s : ByteArray) (d : Int) : Nat → Int
 | 0 => 0
 | n + 1 => if eAt s d n < 10000 then eAt s d n * 10 + bt s (d + n) - 48 else eAt s d n
theorem e_next {s : ByteArray} {d j y e e' : Int} (h : e = eAt s d (j - d).toNat) (hd : d ≤ j) (hy : y = bt s j) (he : e' = if e < 10000 then e * 10 + y - 48 else e) : e' = eAt s d (j + 1 - d).toNat := by
 have e1 : (j + 1 - d).toNat = (j - d).toNat + 1 := by omega
 have e2 : d + ((j - d).toNat : Int) = j := by omega
 rw [e1]
 show _ = if eAt s d (j - d).toNat < 10000 then eAt s d (j - d).toNat * 10 + bt s (d + ((j - d).toNat : Int)) - 48 else eAt s d (j - d).toNat
 rw [e2, ← h, he, hy]
theorem e_zero {s : ByteArray} {d j : Int} (h : j - d = 0) : 0 = eAt s d (j - d).toNat := by rw [h]; rfl
theorem e_next1 {s : ByteArray} {d j y e e' : Int} (h : e = eAt s d (j - d).toNat) (hd : d ≤ j) (hy : y = bt s j) (hl : e < 10000) (he : e' = e * 10 + y - 48) : e' = eAt s d (j + 1 - d).toNat :=
 e_next h hd hy (by rw [if_pos hl]; exact he)
theorem e_next2 {s : ByteArray} {d j y e : Int} (h : e = eAt s d (j - d).toNat) (hd : d ≤ j) (hy : y = bt s j) (hl : ¬ e < 10000) : e = eAt s d (j + 1 - d).toNat :=
 e_next h hd hy (by rw [if_neg hl])
def expV (s : ByteArray) (c : Int) : Int :=
 if c = s.size then 0
 else if bt s (c + 1) = 43 then eAt s (c + 2) (s.size - (c + 2)).toNat
 else if bt s (c + 1) = 45 then -eAt s (c + 2) (s.size - (c + 2)).toNat
 else eAt s (c + 1) (s.size - (c + 1)).toNat
def rfX (s : ByteArray) (b c : Int) (r : RF) : Int := if r.m = 0 then 0 else (if b < c then r.dp else r.nd) + expV s c - r.nm
def RFD (s : ByteArray) (a b c : Int) (neg : Bool) (w : World) (e : Ending) (w' : World) : Prop :=
 ∃ (m x : Int) (t : Bool), e = .returned (.tuple #[.int .u64 m, .int .i64 x, .bool neg, .bool t, .bool false, .int .i64 s.size, .bool true]) ∧ (0 ≤ m ∧ m < 18446744073709551616) ∧ (-2000000000 ≤ x ∧ x ≤ 2000000000) ∧
  (m = (rfAt s a (c - a).toNat).m ∧ x = rfX s b c (rfAt s a (c - a).toNat) ∧ t = (rfAt s a (c - a).toNat).t) ∧ w' = w
theorem rf_end {s : ByteArray} {a b c m nd nm dp x E : Int} {t : Bool} (h : (⟨m, nd, nm, dp, t⟩ : RF) = rfAt s a (c - a).toNat) (hE : E = expV s c) (hx : x = if m = 0 then 0 else (if b < c then dp else nd) + E - nm) :
  m = (rfAt s a (c - a).toNat).m ∧ x = rfX s b c (rfAt s a (c - a).toNat) ∧ t = (rfAt s a (c - a).toNat).t := by
 rw [← h]
 refine ⟨rfl, ?_, rfl⟩
 rw [hx, hE]
 rfl
theorem rf_end0 {s : ByteArray} {a b c m nd nm dp x E : Int} {t : Bool} (h : (⟨m, nd, nm, dp, t⟩ : RF) = rfAt s a (c - a).toNat) (hE : E = expV s c) (hm : (m != 0) = false) (hx : x = 0) :
  m = (rfAt s a (c - a).toNat).m ∧ x = rfX s b c (rfAt s a (c - a).toNat) ∧ t = (rfAt s a (c - a).toNat).t := rf_end h hE (by rw [if_pos (bne_eq_false_iff_eq.mp hm)]; exact hx)
theorem rf_endD {s : ByteArray} {a b c m nd nm dp x E : Int} {t : Bool} (h : (⟨m, nd, nm, dp, t⟩ : RF) = rfAt s a (c - a).toNat) (hE : E = expV s c) (hm : (m != 0) = true) (hb : (!decide (b < c)) = false) (hx : x = dp + E - nm) :
  m = (rfAt s a (c - a).toNat).m ∧ x = rfX s b c (rfAt s a (c - a).toNat) ∧ t = (rfAt s a (c - a).toNat).t := rf_end h hE (by rw [if_neg (bne_iff_ne.mp hm), if_pos (by simpa using hb)]; exact hx)
theorem rf_endN {s : ByteArray} {a b c m nd nm dp x E : Int} {t : Bool} (h : (⟨m, nd, nm, dp, t⟩ : RF) = rfAt s a (c - a).toNat) (hE : E = expV s c) (hm : (m != 0) = true) (hb : (!decide (b < c)) = true) (hx : x = nd + E - nm) :
  m = (rfAt s a (c - a).toNat).m ∧ x = rfX s b c (rfAt s a (c - a).toNat) ∧ t = (rfAt s a (c - a).toNat).t := rf_end h hE (by rw [if_neg (bne_iff_ne.mp hm), if_neg (by simpa using hb)]; exact hx)
theorem exp_none {s : ByteArray} {c : Int} (h : c = s.size) : (0 : Int) = expV s c := by
 unfold expV; rw [if_pos h]
theorem exp_plus {s : ByteArray} {c e : Int} (h : c ≠ s.size) (hy : 43 = bt s (c + 1)) (he : e = eAt s (c + 2) (s.size - (c + 2)).toNat) : e = expV s c := by
 unfold expV; rw [if_neg h, if_pos hy.symm, he]
theorem exp_minus {s : ByteArray} {c e : Int} (h : c ≠ s.size) (hy : 45 = bt s (c + 1)) (he : e = eAt s (c + 2) (s.size - (c + 2)).toNat) : -e = expV s c := by
 unfold expV; rw [if_neg h, if_neg (by omega), if_pos hy.symm, he]
theorem exp_bare {s : ByteArray} {c y e : Int} (h : c ≠ s.size) (hy : y = bt s (c + 1)) (hd : 48 ≤ y ∧ y ≤ 57) (he : e = eAt s (c + 1) (s.size - (c + 1)).toNat) : e = expV s c := by
 unfold expV; rw [if_neg h, if_neg (by omega), if_neg (by omega), he]
theorem readFloat_tail_det (s : ByteArray) (a b c : Int) (neg : Bool) (w : World) (u1 u18 u19 u20 u21 u22 u23 u24 u25 u26 u27 u28 u29 u30 u31 u32 u33 u34 u35 u36 u37 u38 u39 u40 u41 u42 u43 u44 u45 u46 u47 u48 u49 u50 u51 u52 u53 u54 u55 u56 : Value) (hz : s.size < 1000000000) (N : NumAt s a b c) :
  rfTail.wp Tryz.prog (Exit.noGoto (bodyPost Tryz.prog Tryz.f216 (RFD s a b c neg w))) ⟨List.toArray [.string s, u1, .int .u64 0, .int .i64 0, .bool neg, .bool false, .bool false, .int .i64 a, .bool false, .bool false, .int .u64 10, .int .i64 19, .int .u8 101, .bool false, .bool false, .int .i64 0, .int .i64 0, .int .i64 0, u18, u19, u20, u21, u22, u23, u24, u25, u26, u27, u28, u29, u30, u31, u32, u33, u34, u35, u36, u37, u38, u39, u40, u41, u42, u43, u44, u45, u46, u47, u48, u49, u50, u51, u52, u53, u54, u55, u56, undef, undef, undef, undef, undef, undef, undef, undef, undef, undef, undef, undef, undef, undef, undef, undef, undef, undef, undef, undef, undef, undef, undef, undef, undef, undef, undef, undef, undef, undef, undef, undef, undef, undef, undef, undef, undef, undef, undef, undef, undef, undef, undef, undef, undef, undef, undef, undef, undef, undef, undef, undef, undef, undef, undef, undef, undef, undef, undef, undef, undef, undef, undef, undef, undef, undef, undef, undef, undef, undef, undef, undef, undef, undef, undef, undef, undef, undef, undef, undef, undef, undef, undef, undef, undef, undef, undef, undef, undef, undef, undef, undef, undef, undef, undef, undef, undef, undef, undef, undef, undef, undef, undef, undef, undef, undef, undef, undef, undef, undef, undef, undef, undef, undef, undef, undef, undef, undef, undef, undef, undef, undef, undef, undef, undef, undef, undef, undef, undef, undef, undef, undef, undef, undef, undef, undef, undef, undef, undef, undef, undef, undef, undef, undef, undef, undef, undef, undef, undef, undef, undef, undef, undef, undef, undef, undef, undef, undef, undef, undef, undef, undef, undef, undef, undef, undef, undef, undef, undef, undef, undef, undef, undef, undef, undef, undef, undef, undef, undef, undef, undef, undef, undef, undef, undef, undef, undef, undef, undef, undef, undef, undef, undef, undef, undef, undef], []⟩ w := by
 have h0a : 0 ≤ a ∧ a ≤ 1 := by rcases N.a0 with h | h <;> omega
 have hbt := bt_at s
 have hs : 0 < s.size := by have := N.ab; have := N.bc; have := N.cs; omega
 have hb0 : ∀ h : 0 < s.size, ((s[0]'h).toNat : Int) = bt s 0 := bt_at s 0
 have hb1 : ∀ h : 1 < s.size, ((s[1]'h).toNat : Int) = bt s 1 := bt_at s 1
 have HN := Aside0.mk N
 clear N
 simp only [rfTail, Tryz.f216, tl, unscope]
 go_wp2_with fail
 go_loopg [2, 5, 7, 9, 13, 14, 15, 16, 17] (s.size - a.toNat) (fun kq v2 v5 v7 v9 v13 v14 v15 v16 v17 w' => ∃ (m i nd nm dp : Int) (t : Bool), v2 = .int .u64 m ∧ v5 = .bool t ∧ v7 = .int .i64 i ∧ v9 = .bool false ∧ v13 = .bool (decide (b < i)) ∧ v14 = .bool (decide (a < i)) ∧ v15 = .int .i64 nd ∧ v16 = .int .i64 nm ∧ v17 = .int .i64 dp ∧
  (0 ≤ m ∧ m < 18446744073709551616) ∧ (a ≤ i ∧ i ≤ c) ∧ (kq : Int) + i = s.size ∧ (0 ≤ nd ∧ nd ≤ i) ∧ (0 ≤ nm ∧ nm ≤ 19) ∧ (-i ≤ dp ∧ dp ≤ i) ∧ Aside0 ((⟨m, nd, nm, dp, t⟩ : RF) = rfAt s a (i - a).toNat) ∧ w = w')
 case atStart =>
  have := HN.out.ab
  have := HN.out.bc
  have := HN.out.cs
  exact ⟨0, a, 0, 0, 0, false, rfl, rfl, rfl, rfl, congrArg Value.bool (by simp; omega), congrArg Value.bool (by simp), rfl, rfl, rfl, by omega, by omega, by omega, by omega, by omega, by omega, ⟨by rw [Int.sub_self]; rfl⟩, rfl⟩
 obtain ⟨m, i, nd, nm, dp, t, rfl, rfl, rfl, rfl, rfl, rfl, rfl, rfl, rfl, hm, hi, hk, hnd, hnm, hdp, HR, rfl⟩ := hrel
 have hab := HN.out.ab
 have hbc := HN.out.bc
 have hcs := HN.out.cs
 obtain ⟨x, hx⟩ : ∃ x, x = bt s i := ⟨_, rfl⟩
 have HX := Aside0.mk hx
 have hxb : ∀ h : i.toNat < s.size, ((s[i.toNat]'h).toNat : Int) = x := fun h => by rw [hx]; exact bt_at s i h
 clear hbt hb0 hb1
 have h0i : 0 ≤ i := by omega
 have hic : i ≤ c := hi.2
 have hx0 : 0 ≤ x ∧ x ≤ 255 := by rw [hx]; exact bt_range s i
 by_cases e1 : i < s.size
 rotate_left
 ·have e5 : c = s.size := by omega
  have e6 : i = s.size := by omega
  subst e5
  subst e6
  have h0c : decide (a < (s.size : Int)) = true := decide_eq_true (by omega)
  go_wp2_with fail
  all_goals ((try simp only [Exit.inBlock, Exit.then]); refine bodyPost_ret (results_tmp7 rfl _ _ _) rfl ?_)
  all_goals exact ⟨_, _, _, rfl, hm, by omega, (by first | exact rf_end0 HR.out (exp_none rfl) (by assumption) (by omega) | exact rf_endD HR.out (exp_none rfl) (by assumption) (by assumption) (by omega) | exact rf_endN HR.out (exp_none rfl) (by assumption) (by assumption) (by omega)), rfl⟩
 by_cases e4 : i < c
 ·by_cases e2 : i < b
  ·have hdig := HN.out.ints i (by omega) e2
   rw [← hx] at hdig
   clear hx
   have hdb : decide (b < i) = false := decide_eq_false (by omega)
   have x1 : (x == 95) = false := beq_eq_false_iff_ne.mpr (by omega)
   have x2 : (x == 46) = false := beq_eq_false_iff_ne.mpr (by omega)
   have x3 : decide (48 ≤ x) = true := decide_eq_true (by omega)
   have x4 : decide (x ≤ 57) = true := decide_eq_true (by omega)
   go_wp2_with fail
   all_goals (go_roundg (gk - 1); (case measure => omega); (case rel => exact ⟨_, _, _, _, _, _, rfl, rfl, rfl, rfl, congrArg Value.bool (by simp; omega), congrArg Value.bool (by simp; omega), rfl, rfl, rfl, (by first | exact hm | exact wrapu64 _), by omega, by omega, by omega, by omega, by omega, ⟨rf_next HR.out (by omega) HX.out (by first | exact rf_dot _ _ _ _ _ | exact rf_zero (by omega) (by assumption) | exact rf_dig0 (by omega) (by assumption) (by omega) | exact rf_dig (by omega) (by omega) (by omega) | exact rf_over0 (by omega) (by assumption) (by omega) | exact rf_over1 (by omega) (by omega) (by omega))⟩, rfl⟩))
  by_cases e3 : i = b
  ·subst e3
   have hfr := HN.out.frac
   have hx46 : x = 46 := by rcases hfr with h | h; omega; rw [hx]; exact h.1
   have HX := Aside0.mk (hx46.symm.trans hx)
   clear hfr hx
   have hdb : decide (i < i) = false := decide_eq_false (by omega)
   have x1 : (x == 95) = false := beq_eq_false_iff_ne.mpr (by omega)
   have x2 : (x == 46) = true := beq_iff_eq.mpr (by omega)
   go_wp2_with fail
   all_goals (go_roundg (gk - 1); (case measure => omega); (case rel => exact ⟨_, _, _, _, _, _, rfl, rfl, rfl, rfl, congrArg Value.bool (by simp; omega), congrArg Value.bool (by simp; omega), rfl, rfl, rfl, (by first | exact hm | exact wrapu64 _), by omega, by omega, by omega, by omega, by omega, ⟨rf_next HR.out (by omega) HX.out (by first | exact rf_dot _ _ _ _ _ | exact rf_zero (by omega) (by assumption) | exact rf_dig0 (by omega) (by assumption) (by omega) | exact rf_dig (by omega) (by omega) (by omega) | exact rf_over0 (by omega) (by assumption) (by omega) | exact rf_over1 (by omega) (by omega) (by omega))⟩, rfl⟩))
  have hfr := HN.out.frac
  have hdig : 48 ≤ x ∧ x ≤ 57 := by rcases hfr with h | h; omega; rw [hx]; exact h.2.2 i (by omega) (by omega)
  clear hfr hx
  have hdb : decide (b < i) = true := decide_eq_true (by omega)
  have x1 : (x == 95) = false := beq_eq_false_iff_ne.mpr (by omega)
  have x2 : (x == 46) = false := beq_eq_false_iff_ne.mpr (by omega)
  have x3 : decide (48 ≤ x) = true := decide_eq_true (by omega)
  have x4 : decide (x ≤ 57) = true := decide_eq_true (by omega)
  go_wp2_with fail
  all_goals (go_roundg (gk - 1); (case measure => omega); (case rel => exact ⟨_, _, _, _, _, _, rfl, rfl, rfl, rfl, congrArg Value.bool (by simp; omega), congrArg Value.bool (by simp; omega), rfl, rfl, rfl, (by first | exact hm | exact wrapu64 _), by omega, by omega, by omega, by omega, by omega, ⟨rf_next HR.out (by omega) HX.out (by first | exact rf_dot _ _ _ _ _ | exact rf_zero (by omega) (by assumption) | exact rf_dig0 (by omega) (by assumption) (by omega) | exact rf_dig (by omega) (by omega) (by omega) | exact rf_over0 (by omega) (by assumption) (by omega) | exact rf_over1 (by omega) (by omega) (by omega))⟩, rfl⟩))
 have e5 : c = i := by omega
 subst e5
 have hex := HN.out.ex
 rcases hex with hex | ⟨hxe, d, hd, hds, hdd⟩
 ·omega
 rw [← hx] at hxe
 clear hx
 have hl : bits .or .u8 x 32 = 101 := by rcases hxe with rfl | rfl <;> rfl
 have x1 : (x == 95) = false := beq_eq_false_iff_ne.mpr (by omega)
 have x2 : (x == 46) = false := beq_eq_false_iff_ne.mpr (by omega)
 have x3 : decide (48 ≤ x) = true := decide_eq_true (by omega)
 have x4 : decide (x ≤ 57) = false := decide_eq_false (by omega)
 have h0c : decide (a < c) = true := decide_eq_true (by omega)
 obtain ⟨y, hy⟩ : ∃ y, y = bt s (c + 1) := ⟨_, rfl⟩
 have HY := Aside0.mk hy
 have hyb : ∀ h : (c + 1).toNat < s.size, ((s[(c + 1).toNat]'h).toNat : Int) = y := fun h => by rw [hy]; exact bt_at s (c + 1) h
 rw [← hy] at hd
 rcases hd with rfl | ⟨rfl, hy4⟩
 ·have hyd := hdd (c + 1) (by omega) hds
  rw [← hy] at hyd
  have HD := Aside0.mk hyd
  clear hy
  have y1 : (y == 43) = false := beq_eq_false_iff_ne.mpr (by omega)
  have y2 : (y == 45) = false := beq_eq_false_iff_ne.mpr (by omega)
  have y3 : decide (y < 48) = false := decide_eq_false (by omega)
  have y4 : decide (y > 57) = false := decide_eq_false (by omega)
  go_wp2_with (go_at_call 188; refine (Tryz.internal_strconv_lower _ _).mono ?_; rintro e w' ⟨rfl, hw2⟩; obtain rfl := hw2.symm)
  all_goals
   go_loopg [7, 9, 20] (s.size - (c + 1)).toNat (fun kq v7 v9 v20 w' => ∃ (j e : Int), v7 = .int .i64 j ∧ v9 = .bool false ∧ v20 = .int .i64 e ∧ (c + 1 ≤ j ∧ j ≤ s.size) ∧ (kq : Int) + j = s.size ∧ (0 ≤ e ∧ e ≤ 100008) ∧ Aside0 (e = eAt s (c + 1) (j - (c + 1)).toNat) ∧ w = w')
   case atStart => exact ⟨_, _, rfl, rfl, rfl, by omega, by omega, by omega, ⟨e_zero (by omega)⟩, rfl⟩
   case round =>
    obtain ⟨j, e, rfl, rfl, rfl, hj, hkj, he, HE, rfl⟩ := hrel
    obtain ⟨y2, hy2⟩ : ∃ y2, y2 = bt s j := ⟨_, rfl⟩; have HY2 := Aside0.mk hy2
    have hyb2 : ∀ h : j.toNat < s.size, ((s[j.toNat]'h).toNat : Int) = y2 := fun h => by rw [hy2]; exact bt_at s j h
    have h0j : 0 ≤ j := by omega
    by_cases e7 : j < s.size
    ·have hdg := hdd j (by omega) e7
     rw [← hy2] at hdg
     clear hy2
     have y1 : (y2 == 95) = false := beq_eq_false_iff_ne.mpr (by omega)
     have y3 : decide (48 ≤ y2) = true := decide_eq_true (by omega)
     have y4 : decide (y2 ≤ 57) = true := decide_eq_true (by omega)
     go_wp2_with fail
     all_goals (go_roundg (gk - 1); (case measure => omega); (case rel => exact ⟨_, _, rfl, rfl, rfl, by omega, by omega, by omega, ⟨by first | exact e_next1 HE.out (by omega) HY2.out (by omega) (by omega) | exact e_next2 HE.out (by omega) HY2.out (by omega)⟩, rfl⟩))
    ·have e8 : j = s.size := by omega
     subst e8
     go_wp2_with fail
     all_goals ((try simp only [Exit.inBlock, Exit.then]); refine bodyPost_ret (results_tmp7 rfl _ _ _) rfl ?_)
     all_goals exact ⟨_, _, _, rfl, hm, by omega, (by first | exact rf_end0 HR.out (exp_bare (by omega) HY.out HD.out HE.out) (by assumption) (by omega) | exact rf_endD HR.out (exp_bare (by omega) HY.out HD.out HE.out) (by assumption) (by assumption) (by omega) | exact rf_endN HR.out (exp_bare (by omega) HY.out HD.out HE.out) (by assumption) (by assumption) (by omega)), rfl⟩
 obtain ⟨z, hzz⟩ : ∃ z, z = bt s (c + 2) := ⟨_, rfl⟩
 have hzb : ∀ h : (c + 2).toNat < s.size, ((s[(c + 2).toNat]'h).toNat : Int) = z := fun h => by rw [hzz]; exact bt_at s (c + 2) h
 have hzb' : ∀ h : (c + 1 + 1).toNat < s.size, ((s[(c + 1 + 1).toNat]'h).toNat : Int) = z := fun h => by rw [hzz, ← show c + 1 + 1 = c + 2 by omega]; exact bt_at s (c + 1 + 1) h
 have hyd := hdd (c + 2) (by omega) hds
 rw [← hzz] at hyd
 clear hzz hy
 have y3 : decide (z < 48) = false := decide_eq_false (by omega)
 have y4 : decide (z > 57) = false := decide_eq_false (by omega)
 rcases hy4 with rfl | rfl
 rotate_left
 ·go_wp2_with (go_at_call 188; refine (Tryz.internal_strconv_lower _ _).mono ?_; rintro e w' ⟨rfl, hw2⟩; obtain rfl := hw2.symm)
  all_goals
   go_loopg [7, 9, 20] (s.size - (c + 2)).toNat (fun kq v7 v9 v20 w' => ∃ (j e : Int), v7 = .int .i64 j ∧ v9 = .bool false ∧ v20 = .int .i64 e ∧ (c + 2 ≤ j ∧ j ≤ s.size) ∧ (kq : Int) + j = s.size ∧ (0 ≤ e ∧ e ≤ 100008) ∧ Aside0 (e = eAt s (c + 2) (j - (c + 2)).toNat) ∧ w = w')
   case atStart => exact ⟨_, _, rfl, rfl, rfl, by omega, by omega, by omega, ⟨e_zero (by omega)⟩, rfl⟩
   case round =>
    obtain ⟨j, e, rfl, rfl, rfl, hj, hkj, he, HE, rfl⟩ := hrel
    obtain ⟨y2, hy2⟩ : ∃ y2, y2 = bt s j := ⟨_, rfl⟩; have HY2 := Aside0.mk hy2
    have hyb2 : ∀ h : j.toNat < s.size, ((s[j.toNat]'h).toNat : Int) = y2 := fun h => by rw [hy2]; exact bt_at s j h
    have h0j : 0 ≤ j := by omega
    by_cases e7 : j < s.size
    ·have hdg := hdd j (by omega) e7
     rw [← hy2] at hdg
     clear hy2
     have y1 : (y2 == 95) = false := beq_eq_false_iff_ne.mpr (by omega)
     have y3 : decide (48 ≤ y2) = true := decide_eq_true (by omega)
     have y4 : decide (y2 ≤ 57) = true := decide_eq_true (by omega)
     go_wp2_with fail
     all_goals (go_roundg (gk - 1); (case measure => omega); (case rel => exact ⟨_, _, rfl, rfl, rfl, by omega, by omega, by omega, ⟨by first | exact e_next1 HE.out (by omega) HY2.out (by omega) (by omega) | exact e_next2 HE.out (by omega) HY2.out (by omega)⟩, rfl⟩))
    ·have e8 : j = s.size := by omega
     subst e8
     go_wp2_with fail
     all_goals ((try simp only [Exit.inBlock, Exit.then]); refine bodyPost_ret (results_tmp7 rfl _ _ _) rfl ?_)
     all_goals exact ⟨_, _, _, rfl, hm, by omega, (by first | exact rf_end0 HR.out (exp_minus (by omega) HY.out HE.out) (by assumption) (by omega) | exact rf_endD HR.out (exp_minus (by omega) HY.out HE.out) (by assumption) (by assumption) (by omega) | exact rf_endN HR.out (exp_minus (by omega) HY.out HE.out) (by assumption) (by assumption) (by omega)), rfl⟩
 go_wp2_with (go_at_call 188; refine (Tryz.internal_strconv_lower _ _).mono ?_; rintro e w' ⟨rfl, hw2⟩; obtain rfl := hw2.symm)
 all_goals
  go_loopg [7, 9, 20] (s.size - (c + 2)).toNat (fun kq v7 v9 v20 w' => ∃ (j e : Int), v7 = .int .i64 j ∧ v9 = .bool false ∧ v20 = .int .i64 e ∧ (c + 2 ≤ j ∧ j ≤ s.size) ∧ (kq : Int) + j = s.size ∧ (0 ≤ e ∧ e ≤ 100008) ∧ Aside0 (e = eAt s (c + 2) (j - (c + 2)).toNat) ∧ w = w')
  case atStart => exact ⟨_, _, rfl, rfl, rfl, by omega, by omega, by omega, ⟨e_zero (by omega)⟩, rfl⟩
  case round =>
   obtain ⟨j, e, rfl, rfl, rfl, hj, hkj, he, HE, rfl⟩ := hrel
   obtain ⟨y2, hy2⟩ : ∃ y2, y2 = bt s j := ⟨_, rfl⟩; have HY2 := Aside0.mk hy2
   have hyb2 : ∀ h : j.toNat < s.size, ((s[j.toNat]'h).toNat : Int) = y2 := fun h => by rw [hy2]; exact bt_at s j h
   have h0j : 0 ≤ j := by omega
   by_cases e7 : j < s.size
   ·have hdg := hdd j (by omega) e7
    rw [← hy2] at hdg
    clear hy2
    have y1 : (y2 == 95) = false := beq_eq_false_iff_ne.mpr (by omega)
    have y3 : decide (48 ≤ y2) = true := decide_eq_true (by omega)
    have y4 : decide (y2 ≤ 57) = true := decide_eq_true (by omega)
    go_wp2_with fail
    all_goals (go_roundg (gk - 1); (case measure => omega); (case rel => exact ⟨_, _, rfl, rfl, rfl, by omega, by omega, by omega, ⟨by first | exact e_next1 HE.out (by omega) HY2.out (by omega) (by omega) | exact e_next2 HE.out (by omega) HY2.out (by omega)⟩, rfl⟩))
   ·have e8 : j = s.size := by omega
    subst e8
    go_wp2_with fail
    all_goals ((try simp only [Exit.inBlock, Exit.then]); refine bodyPost_ret (results_tmp7 rfl _ _ _) rfl ?_)
    all_goals exact ⟨_, _, _, rfl, hm, by omega, (by first | exact rf_end0 HR.out (exp_plus (by omega) HY.out HE.out) (by assumption) (by omega) | exact rf_endD HR.out (exp_plus (by omega) HY.out HE.out) (by assumption) (by assumption) (by omega) | exact rf_endN HR.out (exp_plus (by omega) HY.out HE.out) (by assumption) (by assumption) (by omega)), rfl⟩
set_option maxHeartbeats 8000000
set_option maxRecDepth 8192
def stStep (x : Int) (X : DV) : DV :=
 if x = 46 then ⟨X.d, X.nd, X.nd, X.tr⟩
 else if x = 48 ∧ X.nd = 0 then ⟨X.d, X.nd, X.dp - 1, X.tr⟩
 else if X.nd < 800 then ⟨setD X.d X.nd x, X.nd + 1, X.dp, X.tr⟩
 else ⟨X.d, X.nd, X.dp, if x = 48 then X.tr else true⟩
def stAt (s : ByteArray) (a : Int) (d : Nat → Int) (tr : Bool) : Nat → DV
 | 0 => ⟨d, 0, 0, tr⟩
 | n + 1 => stStep (bt s (a + n)) (stAt s a d tr n)
def SX (s : ByteArray) (a b c : Int) (d : Nat → Int) (tr : Bool) : DV :=
 ⟨(stAt s a d tr (c - a).toNat).d, (stAt s a d tr (c - a).toNat).nd, (if b < c then (stAt s a d tr (c - a).toNat).dp else (stAt s a d tr (c - a).toNat).nd) + expV s c, (stAt s a d tr (c - a).toNat).tr⟩
theorem st_next {s : ByteArray} {a i x : Int} {d : Nat → Int} {tr : Bool} {r r' : DV} (h : r = stAt s a d tr (i - a).toNat) (ha : a ≤ i) (hx : x = bt s i) (e : r' = stStep x r) : r' = stAt s a d tr (i + 1 - a).toNat := by
 have e1 : (i + 1 - a).toNat = (i - a).toNat + 1 := by omega
 have e2 : a + ((i - a).toNat : Int) = i := by omega
 rw [e, e1, h, hx]
 show _ = stStep (bt s (a + ((i - a).toNat : Int))) _
 rw [e2]
theorem st_dot {d : Nat → Int} {nd : Nat} {dp : Int} {t : Bool} : (⟨d, nd, nd, t⟩ : DV) = stStep 46 ⟨d, nd, dp, t⟩ := by
 simp only [stStep, if_pos]
theorem st_zero {d : Nat → Int} {dp : Int} {t : Bool} : (⟨d, 0, dp - 1, t⟩ : DV) = stStep 48 ⟨d, 0, dp, t⟩ := by
 simp [stStep]
theorem st_over {d : Nat → Int} {nd : Nat} {x dp : Int} {t u : Bool} (h8 : ¬ nd < 800) (hx : x ≠ 46) (hu : (x = 48 ∧ u = t) ∨ (x ≠ 48 ∧ u = true)) : (⟨d, nd, dp, u⟩ : DV) = stStep x ⟨d, nd, dp, t⟩ := by
 have h0 : ¬ (x = 48 ∧ nd = 0) := by omega
 simp only [stStep, if_neg hx, if_neg h0, if_neg h8]
 rcases hu with ⟨h, rfl⟩ | ⟨h, rfl⟩
 ·rw [if_pos h]
 ·rw [if_neg h]
theorem st_dig {d : Nat → Int} {nd : Nat} {x dp : Int} {t : Bool} (h8 : nd < 800) (hx : x ≠ 46) (h0 : ¬ (x = 48 ∧ nd = 0)) : (⟨setD d nd x, nd + 1, dp, t⟩ : DV) = stStep x ⟨d, nd, dp, t⟩ := by
 simp only [stStep, if_neg hx, if_neg h0, if_pos h8]
theorem st_endD {s : ByteArray} {a b c x E dp : Int} {d d' : Nat → Int} {nd : Nat} {t tr : Bool} (h : (⟨d', nd, dp, t⟩ : DV) = stAt s a d tr (c - a).toNat) (hE : E = expV s c) (hb : b < c) (hx : x = dp + E) : (⟨d', nd, x, t⟩ : DV) = SX s a b c d tr := by
 unfold SX
 rw [← h, ← hE, if_pos hb, hx]
theorem st_endN {s : ByteArray} {a b c x E dp : Int} {d d' : Nat → Int} {nd : Nat} {t tr : Bool} (h : (⟨d', nd, dp, t⟩ : DV) = stAt s a d tr (c - a).toNat) (hE : E = expV s c) (hb : c ≤ b) (hx : x = nd + E) : (⟨d', nd, x, t⟩ : DV) = SX s a b c d tr := by
 unfold SX
 rw [← h, ← hE, if_neg (Int.not_lt.mpr hb), hx]
def SPost (w0 : World) (g : Nat) (X : DV) (ng : Bool) (e : Ending) (w' : World) : Prop :=
 e = .returned (.bool true) ∧ ∃ (d' : Nat → Int) (nd' : Nat) (dp' : Int) (tr' : Bool), Dec w0 w' g d' nd' dp' ng tr' ∧ nd' ≤ 800 ∧ (∀ i, i < nd' → 48 ≤ d' i ∧ d' i ≤ 57) ∧ (0 < nd' → d' 0 ≠ 48) ∧ (-2000000000 ≤ dp' ∧ dp' ≤ 2000000000) ∧ (⟨d', nd', dp', tr'⟩ : DV) = X
def hd1 : Code → Code
 | .seq c _ => c
 | c => c
noncomputable def stTail : Code := match Tryz.f222.body with
 | some c => tl (tl (tl (tl (tl (tl (tl (tl c)))))))
 | none => .skip
noncomputable def stLoop : Code := match hd1 stTail with
 | .block _ c => c
 | c => c
noncomputable def stRest : Code := tl stTail
theorem stLoop_wp (s : ByteArray) (a b c : Int) (w0 w : World) (g : Nat) (d : Nat → Int) (ng tr : Bool) (K : Act → World → Prop) (hK : ∀ a1 w1, stRest.wp Tryz.prog (bodyPost Tryz.prog Tryz.f222 (SPost w0 g (SX s a b c d tr) ng)) a1 w1 → K a1 w1) (u2 u3 u8 u9 u10 u11 u12 u13 u14 u15 u16 u17 u18 u19 u20 u21 u22 u23 u24 u25 u26 u27 u28 u29 u30 u31 u32 u33 : Value) (H : Dec w0 w g d 0 0 ng tr) (hz : s.size < 1000000000) (N : NumAt s a b c) :
  stLoop.wp Tryz.prog (Exit.inBlock 1 (Exit.then K (bodyPost Tryz.prog Tryz.f222 (SPost w0 g (SX s a b c d tr) ng)))) ⟨List.toArray [.pointer (some ⟨g, 0, none⟩), .string s, u2, u3, .bool false, .int .i64 a, .bool false, .bool false, u8, u9, u10, u11, u12, u13, u14, u15, u16, u17, u18, u19, u20, u21, u22, u23, u24, u25, u26, u27, u28, u29, u30, u31, u32, u33, undef, undef, undef, undef, undef, undef, undef, undef, undef, undef, undef, undef, undef, undef, undef, undef, undef, undef, undef, undef, undef, undef, undef, undef, undef, undef, undef, undef, undef, undef, undef, undef, undef, undef, undef, undef, undef, undef, undef, undef, undef, undef, undef, undef, undef, undef, undef, undef, undef, undef, undef, undef, undef, undef, undef, undef, undef, undef, undef, undef, undef, undef, undef, undef, undef, undef, undef, undef, undef, undef, undef, undef, undef, undef, undef, undef, undef, undef, undef, undef, undef, undef, undef, undef, undef, undef, undef, undef, undef, undef, undef, undef, undef, undef, undef, undef, undef, undef, undef, undef, undef, undef, undef, undef, undef, undef, undef, undef, undef, undef, undef, undef, undef, undef, undef, undef, undef, undef, undef, undef, undef, undef, undef, undef, undef, undef, undef, undef, undef, undef, undef, undef, undef, undef, undef, undef, undef, undef, undef, undef, undef, undef, undef, undef, undef, undef, undef, undef, undef, undef, undef, undef, undef, undef, undef, undef, undef, undef, undef, undef, undef, undef, undef, undef, undef, undef, undef, undef, undef, undef, undef, undef, undef, undef, undef, undef, undef, undef, undef, undef, undef, undef, undef, undef, undef, undef, undef, undef, undef, undef], []⟩ w := by
 have h0a : 0 ≤ a ∧ a ≤ 1 := by rcases N.a0 with h | h <;> omega
 have hbt := bt_at s
 have HN := Aside0.mk N
 clear N
 have HD1 := Aside0.mk H
 clear H
 simp only [stLoop, stTail, Tryz.f222, tl, hd1]
 simp only [stRest, stTail, Tryz.f222, tl] at hK
 go_loopg [5, 6, 7] (s.size - a.toNat) (fun kq v5 v6 v7 w' => ∃ (i : Int) (d' : Nat → Int) (nd' : Nat) (dp' : Int) (tr' : Bool), v5 = .int .i64 i ∧ v6 = .bool (decide (b < i)) ∧ v7 = .bool (decide (a < i)) ∧ (a ≤ i ∧ i ≤ c) ∧ (kq : Int) + i = s.size ∧ Aside0 (Dec w0 w' g d' nd' dp' ng tr') ∧ nd' ≤ 800 ∧ Aside0 (∀ i, i < nd' → 48 ≤ d' i ∧ d' i ≤ 57) ∧ Aside0 (0 < nd' → d' 0 ≠ 48) ∧ (-i ≤ dp' ∧ dp' ≤ 800) ∧ Aside0 ((⟨d', nd', dp', tr'⟩ : DV) = stAt s a d tr (i - a).toNat))
 case atStart =>
  have := HN.out.ab
  have := HN.out.bc
  have := HN.out.cs
  exact ⟨a, d, 0, 0, tr, rfl, congrArg Value.bool (by simp; omega), congrArg Value.bool (by simp), by omega, by omega, by first | exact HD1 | exact ⟨HD1.out⟩, by omega, ⟨by omega⟩, ⟨by omega⟩, by omega, ⟨by rw [Int.sub_self]; rfl⟩⟩
 clear HD1
 obtain ⟨i, d', nd', dp', tr', rfl, rfl, rfl, hi, hk, HD2, hnd, HI1, HI2, hdp, HS⟩ := hrel
 have hab := HN.out.ab
 have hbc := HN.out.bc
 have hcs := HN.out.cs
 obtain ⟨x, hx⟩ : ∃ x, x = bt s i := ⟨_, rfl⟩
 have HX := Aside0.mk hx
 have hxb : ∀ h : i.toNat < s.size, ((s[i.toNat]'h).toNat : Int) = x := fun h => by rw [hx]; exact bt_at s i h
 clear hbt
 have h0i : 0 ≤ i := by omega
 have hic : i ≤ c := hi.2
 have hx0 : 0 ≤ x ∧ x ≤ 255 := by rw [hx]; exact bt_range s i
 have c0 := HD2.out.cnd
 have c1 := HD2.out.cdp
 have c3 := HD2.out.ctr
 have f0 := HD2.out.fr
 by_cases e1 : i < s.size
 rotate_left
 ·have e5 : c = s.size := by omega
  have e6 : i = s.size := by omega
  subst e5
  subst e6
  have h0c : decide (a < (s.size : Int)) = true := decide_eq_true (by omega)
  by_cases hb : b < s.size
  rotate_left
  ·have hbb : decide (b < (s.size : Int)) = false := decide_eq_false hb
   go_wp2_with fail
   go_ret
   exact ⟨rfl, d', nd', _, tr', by first | exact HD2.out | exact HD2.out.set_dp _, hnd, HI1.out, HI2.out, by omega, st_endN HS.out (exp_none rfl) hb (by omega)⟩
  have hbb : decide (b < (s.size : Int)) = true := decide_eq_true hb
  go_wp2_with fail
  go_ret
  exact ⟨rfl, d', nd', _, tr', by first | exact HD2.out | exact HD2.out.set_dp _, hnd, HI1.out, HI2.out, by omega, st_endD HS.out (exp_none rfl) hb (by omega)⟩
 by_cases e4 : i < c
 ·by_cases e3 : i = b
  ·
   subst e3
   have hfr := HN.out.frac
   have hx46 : x = 46 := by rcases hfr with h | h; omega; rw [hx]; exact h.1
   have HX := Aside0.mk (hx46.symm.trans hx)
   clear hfr hx
   have hdb : decide (i < i) = false := decide_eq_false (by omega)
   have x1 : (x == 95) = false := beq_eq_false_iff_ne.mpr (by omega)
   have x2 : (x == 46) = true := beq_iff_eq.mpr (by omega)
   go_wp2_with fail
   all_goals go_roundg (gk - 1)
   case measure => omega
   case rel => exact ⟨_, d', nd', _, tr', rfl, congrArg Value.bool (by simp; omega), congrArg Value.bool (by simp; omega), by omega, by omega, ⟨HD2.out.set_dp _⟩, hnd, HI1, HI2, by omega, ⟨st_next HS.out (by omega) HX.out (by first | exact st_dot | exact st_zero)⟩⟩
  have hdig : 48 ≤ x ∧ x ≤ 57 := by
   by_cases e2 : i < b
   ·rw [hx]; exact HN.out.ints i (by omega) e2
   rcases HN.out.frac with h | h
   ·omega
   ·rw [hx]; exact h.2.2 i (by omega) (by omega)
  clear hx
  have x1 : (x == 95) = false := beq_eq_false_iff_ne.mpr (by omega)
  have x2 : (x == 46) = false := beq_eq_false_iff_ne.mpr (by omega)
  have x3 : decide (48 ≤ x) = true := decide_eq_true (by omega)
  have x4 : decide (x ≤ 57) = true := decide_eq_true (by omega)
  have hdb : decide (b < i) = decide (b < i + 1) := by simp; omega
  have HDB := Aside0.mk hdb
  clear hdb
  by_cases q1 : nd' = 0 ∧ x = 48
  ·obtain ⟨rfl, rfl⟩ := q1
   go_wp2_with fail
   all_goals go_roundg (gk - 1)
   case measure => omega
   case rel => exact ⟨_, d', 0, _, tr', rfl, congrArg Value.bool HDB.out, congrArg Value.bool (by simp; omega), by omega, by omega, ⟨HD2.out.set_dp _⟩, hnd, HI1, HI2, by omega, ⟨st_next HS.out (by omega) HX.out (by first | exact st_dot | exact st_zero)⟩⟩
  by_cases e8 : nd' < 800
  rotate_left
  ·have e8' : ¬ (nd' : Int) < 800 := by omega
   have n0b : ((nd' : Int) == 0) = false := beq_eq_false_iff_ne.mpr (by omega)
   clear q1
   go_wp2_with fail
   all_goals go_roundg (gk - 1)
   all_goals (try (case measure => omega))
   all_goals first
    | exact ⟨_, d', nd', dp', _, rfl, congrArg Value.bool HDB.out, congrArg Value.bool (by simp; omega), by omega, by omega, ⟨HD2.out.set_tr _⟩, by omega, HI1, HI2, by omega, ⟨st_next HS.out (by omega) HX.out (st_over e8 (by omega) (.inr ⟨by omega, rfl⟩))⟩⟩
    | exact ⟨_, d', nd', dp', _, rfl, congrArg Value.bool HDB.out, congrArg Value.bool (by simp; omega), by omega, by omega, HD2, by omega, HI1, HI2, by omega, ⟨st_next HS.out (by omega) HX.out (st_over e8 (by omega) (.inl ⟨by omega, rfl⟩))⟩⟩
  have e8' : (nd' : Int) < 800 := by omega
  have cw := HD2.out.dig nd' e8
  have hfd : ∀ j, j < nd' + 1 → 48 ≤ setD d' nd' x j ∧ setD d' nd' x j ≤ 57 := fun j hj => by
   unfold setD
   by_cases ej : j = nd'
   ·rw [if_pos ej]; exact hdig
   ·rw [if_neg ej]; exact HI1.out j (by omega)
  have hf0 : setD d' nd' x 0 ≠ 48 := by
   unfold setD
   by_cases ej : 0 = nd'
   ·rw [if_pos ej]; exact fun q => q1 ⟨ej.symm, q⟩
   ·rw [if_neg ej]; exact HI2.out (by omega)
  have Q1 : Aside0 (¬ (x = 48 ∧ nd' = 0)) := ⟨fun q => q1 ⟨q.2, q.1⟩⟩
  have HF1 := Aside0.mk hfd
  have HF2 := Aside0.mk (fun _ : 0 < nd' + 1 => hf0)
  clear hfd hf0
  by_cases n0 : nd' = 0
  ·have n0b : ((nd' : Int) == 0) = true := beq_iff_eq.mpr (by omega)
   have x48 : (x == 48) = false := beq_eq_false_iff_ne.mpr (fun q => q1 ⟨n0, q⟩)
   clear q1 n0
   go_wp2_with fail
   all_goals (try (go_region; go_wp2_with fail))
   all_goals go_roundg (gk - 1)
   all_goals (try (case measure => omega))
   all_goals exact ⟨_, setD d' nd' _, nd' + 1, dp', tr', rfl, congrArg Value.bool HDB.out, congrArg Value.bool (by simp; omega), by omega, by omega, ⟨by first | exact ((HD2.out.set_d nd' e8 _).set_nd _).drew | exact (HD2.out.set_d nd' e8 _).drew.set_nd _⟩, by omega, HF1, HF2, by omega, ⟨st_next HS.out (by omega) HX.out (st_dig e8 (by omega) (by first | exact Q1.out | exact fun q => Q1.out ⟨trivial, q.2⟩))⟩⟩
  have n0b : ((nd' : Int) == 0) = false := beq_eq_false_iff_ne.mpr (by omega)
  clear q1 n0
  by_cases x48 : x = 48
  ·subst x48
   go_wp2_with fail
   all_goals (try (go_region; go_wp2_with fail))
   all_goals go_roundg (gk - 1)
   all_goals (try (case measure => omega))
   all_goals exact ⟨_, setD d' nd' _, nd' + 1, dp', tr', rfl, congrArg Value.bool HDB.out, congrArg Value.bool (by simp; omega), by omega, by omega, ⟨by first | exact ((HD2.out.set_d nd' e8 _).set_nd _).drew | exact (HD2.out.set_d nd' e8 _).drew.set_nd _⟩, by omega, HF1, HF2, by omega, ⟨st_next HS.out (by omega) HX.out (st_dig e8 (by omega) (by first | exact Q1.out | exact fun q => Q1.out ⟨trivial, q.2⟩))⟩⟩
  have x48b : (x == 48) = false := beq_eq_false_iff_ne.mpr x48
  clear x48
  go_wp2_with fail
  all_goals (try (go_region; go_wp2_with fail))
  all_goals go_roundg (gk - 1)
  all_goals (try (case measure => omega))
  all_goals exact ⟨_, setD d' nd' _, nd' + 1, dp', tr', rfl, congrArg Value.bool HDB.out, congrArg Value.bool (by simp; omega), by omega, by omega, ⟨by first | exact ((HD2.out.set_d nd' e8 _).set_nd _).drew | exact (HD2.out.set_d nd' e8 _).drew.set_nd _⟩, by omega, HF1, HF2, by omega, ⟨st_next HS.out (by omega) HX.out (st_dig e8 (by omega) (by first | exact Q1.out | exact fun q => Q1.out ⟨trivial, q.2⟩))⟩⟩
 have e5 : c = i := by omega
 subst e5
 have hex := HN.out.ex
 rcases hex with hex | ⟨hxe, d, hd, hds, hdd⟩
 ·omega
 rw [← hx] at hxe
 clear hx
 have hl : bits .or .u8 x 32 = 101 := by rcases hxe with rfl | rfl <;> rfl
 have x1 : (x == 95) = false := beq_eq_false_iff_ne.mpr (by omega)
 have x2 : (x == 46) = false := beq_eq_false_iff_ne.mpr (by omega)
 have x3 : decide (48 ≤ x) = true := decide_eq_true (by omega)
 have x4 : decide (x ≤ 57) = false := decide_eq_false (by omega)
 have h0c : decide (a < c) = true := decide_eq_true (by omega)
 obtain ⟨y, hy⟩ : ∃ y, y = bt s (c + 1) := ⟨_, rfl⟩
 have HY := Aside0.mk hy
 have hyb : ∀ h : (c + 1).toNat < s.size, ((s[(c + 1).toNat]'h).toNat : Int) = y := fun h => by rw [hy]; exact bt_at s (c + 1) h
 rw [← hy] at hd
 have HHD := Aside0.mk hdd
 clear hdd
 have hds0 := hds
 clear hxe
 rcases hd with rfl | ⟨rfl, hy4⟩
 ·have hyd := HHD.out (c + 1) (by omega) hds
  rw [← hy] at hyd
  have HYD := Aside0.mk hyd
  clear hy
  have y1 : (y == 43) = false := beq_eq_false_iff_ne.mpr (by omega)
  have y2 : (y == 45) = false := beq_eq_false_iff_ne.mpr (by omega)
  have y3 : decide (y < 48) = false := decide_eq_false (by omega)
  have y4 : decide (y > 57) = false := decide_eq_false (by omega)
  by_cases hb : b < c
  rotate_left
  ·have HB := Aside0.mk hb; have hbb : decide (b < c) = false := decide_eq_false hb
   go_wp2_with (go_at_call 188; refine (Tryz.internal_strconv_lower _ _).mono ?_; rintro e w' ⟨rfl, hw2⟩; obtain rfl := hw2.symm)
   all_goals
    go_loopg [5, 9] (s.size - (c + 1)).toNat (fun kq v5 v9 w' => ∃ (j e : Int), v5 = .int .i64 j ∧ v9 = .int .i64 e ∧ (c + 1 ≤ j ∧ j ≤ s.size) ∧ (kq : Int) + j = s.size ∧ (0 ≤ e ∧ e ≤ 100008) ∧ Aside0 (e = eAt s (c + 1) (j - (c + 1)).toNat) ∧ Aside0 (Dec w0 w' g d' nd' _ ng tr'))
    case atStart => exact ⟨_, _, rfl, rfl, by omega, by omega, by omega, ⟨e_zero (by omega)⟩, by first | exact ⟨HD2.out.set_dp _⟩ | exact HD2⟩
    case round =>
     obtain ⟨j, e, rfl, rfl, hj, hkj, he, HE, HD3⟩ := hrel
     obtain ⟨y2, hy2⟩ : ∃ y2, y2 = bt s j := ⟨_, rfl⟩; have HY2 := Aside0.mk hy2
     have hyb2 : ∀ h : j.toNat < s.size, ((s[j.toNat]'h).toNat : Int) = y2 := fun h => by rw [hy2]; exact bt_at s j h
     have h0j : 0 ≤ j := by omega
     have p1 := HD3.out.cdp
     have p3 := HD3.out.fr
     by_cases e7 : j < s.size
     ·have hdg := HHD.out j (by omega) e7
      rw [← hy2] at hdg
      clear hy2
      have y1 : (y2 == 95) = false := beq_eq_false_iff_ne.mpr (by omega)
      have y3 : decide (48 ≤ y2) = true := decide_eq_true (by omega)
      have y4 : decide (y2 ≤ 57) = true := decide_eq_true (by omega)
      go_wp2_with fail
      all_goals (go_roundg (gk - 1); (case measure => omega); (case rel => exact ⟨_, _, rfl, rfl, by omega, by omega, by omega, ⟨by first | exact e_next1 HE.out (by omega) HY2.out (by omega) (by omega) | exact e_next2 HE.out (by omega) HY2.out (by omega)⟩, HD3⟩))
     ·have e8 : j = s.size := by omega
      subst e8
      clear hy2 hyb2
      go_wp2_with fail
      all_goals go_ret
      all_goals exact ⟨rfl, d', nd', _, tr', HD3.out.set_dp _, hnd, HI1.out, HI2.out, by omega, st_endN HS.out (exp_bare (by omega) HY.out HYD.out HE.out) HB.out (by omega)⟩
  have HB := Aside0.mk hb; have hbb : decide (b < c) = true := decide_eq_true hb
  go_wp2_with (go_at_call 188; refine (Tryz.internal_strconv_lower _ _).mono ?_; rintro e w' ⟨rfl, hw2⟩; obtain rfl := hw2.symm)
  all_goals
   go_loopg [5, 9] (s.size - (c + 1)).toNat (fun kq v5 v9 w' => ∃ (j e : Int), v5 = .int .i64 j ∧ v9 = .int .i64 e ∧ (c + 1 ≤ j ∧ j ≤ s.size) ∧ (kq : Int) + j = s.size ∧ (0 ≤ e ∧ e ≤ 100008) ∧ Aside0 (e = eAt s (c + 1) (j - (c + 1)).toNat) ∧ Aside0 (Dec w0 w' g d' nd' _ ng tr'))
   case atStart => exact ⟨_, _, rfl, rfl, by omega, by omega, by omega, ⟨e_zero (by omega)⟩, by first | exact ⟨HD2.out.set_dp _⟩ | exact HD2⟩
   case round =>
    obtain ⟨j, e, rfl, rfl, hj, hkj, he, HE, HD3⟩ := hrel
    obtain ⟨y2, hy2⟩ : ∃ y2, y2 = bt s j := ⟨_, rfl⟩; have HY2 := Aside0.mk hy2
    have hyb2 : ∀ h : j.toNat < s.size, ((s[j.toNat]'h).toNat : Int) = y2 := fun h => by rw [hy2]; exact bt_at s j h
    have h0j : 0 ≤ j := by omega
    have p1 := HD3.out.cdp
    have p3 := HD3.out.fr
    by_cases e7 : j < s.size
    ·have hdg := HHD.out j (by omega) e7
     rw [← hy2] at hdg
     clear hy2
     have y1 : (y2 == 95) = false := beq_eq_false_iff_ne.mpr (by omega)
     have y3 : decide (48 ≤ y2) = true := decide_eq_true (by omega)
     have y4 : decide (y2 ≤ 57) = true := decide_eq_true (by omega)
     go_wp2_with fail
     all_goals (go_roundg (gk - 1); (case measure => omega); (case rel => exact ⟨_, _, rfl, rfl, by omega, by omega, by omega, ⟨by first | exact e_next1 HE.out (by omega) HY2.out (by omega) (by omega) | exact e_next2 HE.out (by omega) HY2.out (by omega)⟩, HD3⟩))
    ·have e8 : j = s.size := by omega
     subst e8
     clear hy2 hyb2
     go_wp2_with fail
     all_goals go_ret
     all_goals exact ⟨rfl, d', nd', _, tr', HD3.out.set_dp _, hnd, HI1.out, HI2.out, by omega, st_endD HS.out (exp_bare (by omega) HY.out HYD.out HE.out) HB.out (by omega)⟩
 obtain ⟨z, hzz⟩ : ∃ z, z = bt s (c + 2) := ⟨_, rfl⟩
 have hzb : ∀ h : (c + 2).toNat < s.size, ((s[(c + 2).toNat]'h).toNat : Int) = z := fun h => by rw [hzz]; exact bt_at s (c + 2) h
 have hzb' : ∀ h : (c + 1 + 1).toNat < s.size, ((s[(c + 1 + 1).toNat]'h).toNat : Int) = z := fun h => by rw [hzz, ← show c + 1 + 1 = c + 2 by omega]; exact bt_at s (c + 1 + 1) h
 have hyd := HHD.out (c + 2) (by omega) hds
 rw [← hzz] at hyd
 clear hzz hy
 have y3 : decide (z < 48) = false := decide_eq_false (by omega)
 have y4 : decide (z > 57) = false := decide_eq_false (by omega)
 rcases hy4 with rfl | rfl
 rotate_left
 ·by_cases hb : b < c
  rotate_left
  ·have HB := Aside0.mk hb; have hbb : decide (b < c) = false := decide_eq_false hb
   go_wp2_with (go_at_call 188; refine (Tryz.internal_strconv_lower _ _).mono ?_; rintro e w' ⟨rfl, hw2⟩; obtain rfl := hw2.symm)
   all_goals
    go_loopg [5, 9] (s.size - (c + 2)).toNat (fun kq v5 v9 w' => ∃ (j e : Int), v5 = .int .i64 j ∧ v9 = .int .i64 e ∧ (c + 2 ≤ j ∧ j ≤ s.size) ∧ (kq : Int) + j = s.size ∧ (0 ≤ e ∧ e ≤ 100008) ∧ Aside0 (e = eAt s (c + 2) (j - (c + 2)).toNat) ∧ Aside0 (Dec w0 w' g d' nd' _ ng tr'))
    case atStart => exact ⟨_, _, rfl, rfl, by omega, by omega, by omega, ⟨e_zero (by omega)⟩, by first | exact ⟨HD2.out.set_dp _⟩ | exact HD2⟩
    case round =>
     obtain ⟨j, e, rfl, rfl, hj, hkj, he, HE, HD3⟩ := hrel
     obtain ⟨y2, hy2⟩ : ∃ y2, y2 = bt s j := ⟨_, rfl⟩; have HY2 := Aside0.mk hy2
     have hyb2 : ∀ h : j.toNat < s.size, ((s[j.toNat]'h).toNat : Int) = y2 := fun h => by rw [hy2]; exact bt_at s j h
     have h0j : 0 ≤ j := by omega
     have p1 := HD3.out.cdp
     have p3 := HD3.out.fr
     by_cases e7 : j < s.size
     ·have hdg := HHD.out j (by omega) e7
      rw [← hy2] at hdg
      clear hy2
      have y1 : (y2 == 95) = false := beq_eq_false_iff_ne.mpr (by omega)
      have y3 : decide (48 ≤ y2) = true := decide_eq_true (by omega)
      have y4 : decide (y2 ≤ 57) = true := decide_eq_true (by omega)
      go_wp2_with fail
      all_goals (go_roundg (gk - 1); (case measure => omega); (case rel => exact ⟨_, _, rfl, rfl, by omega, by omega, by omega, ⟨by first | exact e_next1 HE.out (by omega) HY2.out (by omega) (by omega) | exact e_next2 HE.out (by omega) HY2.out (by omega)⟩, HD3⟩))
     ·have e8 : j = s.size := by omega
      subst e8
      clear hy2 hyb2
      go_wp2_with fail
      all_goals go_ret
      all_goals exact ⟨rfl, d', nd', _, tr', HD3.out.set_dp _, hnd, HI1.out, HI2.out, by omega, st_endN HS.out (exp_minus (by omega) HY.out HE.out) HB.out (by omega)⟩
  have HB := Aside0.mk hb; have hbb : decide (b < c) = true := decide_eq_true hb
  go_wp2_with (go_at_call 188; refine (Tryz.internal_strconv_lower _ _).mono ?_; rintro e w' ⟨rfl, hw2⟩; obtain rfl := hw2.symm)
  all_goals
   go_loopg [5, 9] (s.size - (c + 2)).toNat (fun kq v5 v9 w' => ∃ (j e : Int), v5 = .int .i64 j ∧ v9 = .int .i64 e ∧ (c + 2 ≤ j ∧ j ≤ s.size) ∧ (kq : Int) + j = s.size ∧ (0 ≤ e ∧ e ≤ 100008) ∧ Aside0 (e = eAt s (c + 2) (j - (c + 2)).toNat) ∧ Aside0 (Dec w0 w' g d' nd' _ ng tr'))
   case atStart => exact ⟨_, _, rfl, rfl, by omega, by omega, by omega, ⟨e_zero (by omega)⟩, by first | exact ⟨HD2.out.set_dp _⟩ | exact HD2⟩
   case round =>
    obtain ⟨j, e, rfl, rfl, hj, hkj, he, HE, HD3⟩ := hrel
    obtain ⟨y2, hy2⟩ : ∃ y2, y2 = bt s j := ⟨_, rfl⟩; have HY2 := Aside0.mk hy2
    have hyb2 : ∀ h : j.toNat < s.size, ((s[j.toNat]'h).toNat : Int) = y2 := fun h => by rw [hy2]; exact bt_at s j h
    have h0j : 0 ≤ j := by omega
    have p1 := HD3.out.cdp
    have p3 := HD3.out.fr
    by_cases e7 : j < s.size
    ·have hdg := HHD.out j (by omega) e7
     rw [← hy2] at hdg
     clear hy2
     have y1 : (y2 == 95) = false := beq_eq_false_iff_ne.mpr (by omega)
     have y3 : decide (48 ≤ y2) = true := decide_eq_true (by omega)
     have y4 : decide (y2 ≤ 57) = true := decide_eq_true (by omega)
     go_wp2_with fail
     all_goals (go_roundg (gk - 1); (case measure => omega); (case rel => exact ⟨_, _, rfl, rfl, by omega, by omega, by omega, ⟨by first | exact e_next1 HE.out (by omega) HY2.out (by omega) (by omega) | exact e_next2 HE.out (by omega) HY2.out (by omega)⟩, HD3⟩))
    ·have e8 : j = s.size := by omega
     subst e8
     clear hy2 hyb2
     go_wp2_with fail
     all_goals go_ret
     all_goals exact ⟨rfl, d', nd', _, tr', HD3.out.set_dp _, hnd, HI1.out, HI2.out, by omega, st_endD HS.out (exp_minus (by omega) HY.out HE.out) HB.out (by omega)⟩
 by_cases hb : b < c
 rotate_left
 ·have HB := Aside0.mk hb; have hbb : decide (b < c) = false := decide_eq_false hb
  go_wp2_with (go_at_call 188; refine (Tryz.internal_strconv_lower _ _).mono ?_; rintro e w' ⟨rfl, hw2⟩; obtain rfl := hw2.symm)
  all_goals
   go_loopg [5, 9] (s.size - (c + 2)).toNat (fun kq v5 v9 w' => ∃ (j e : Int), v5 = .int .i64 j ∧ v9 = .int .i64 e ∧ (c + 2 ≤ j ∧ j ≤ s.size) ∧ (kq : Int) + j = s.size ∧ (0 ≤ e ∧ e ≤ 100008) ∧ Aside0 (e = eAt s (c + 2) (j - (c + 2)).toNat) ∧ Aside0 (Dec w0 w' g d' nd' _ ng tr'))
   case atStart => exact ⟨_, _, rfl, rfl, by omega, by omega, by omega, ⟨e_zero (by omega)⟩, by first | exact ⟨HD2.out.set_dp _⟩ | exact HD2⟩
   case round =>
    obtain ⟨j, e, rfl, rfl, hj, hkj, he, HE, HD3⟩ := hrel
    obtain ⟨y2, hy2⟩ : ∃ y2, y2 = bt s j := ⟨_, rfl⟩; have HY2 := Aside0.mk hy2
    have hyb2 : ∀ h : j.toNat < s.size, ((s[j.toNat]'h).toNat : Int) = y2 := fun h => by rw [hy2]; exact bt_at s j h
    have h0j : 0 ≤ j := by omega
    have p1 := HD3.out.cdp
    have p3 := HD3.out.fr
    by_cases e7 : j < s.size
    ·have hdg := HHD.out j (by omega) e7
     rw [← hy2] at hdg
     clear hy2
     have y1 : (y2 == 95) = false := beq_eq_false_iff_ne.mpr (by omega)
     have y3 : decide (48 ≤ y2) = true := decide_eq_true (by omega)
     have y4 : decide (y2 ≤ 57) = true := decide_eq_true (by omega)
     go_wp2_with fail
     all_goals (go_roundg (gk - 1); (case measure => omega); (case rel => exact ⟨_, _, rfl, rfl, by omega, by omega, by omega, ⟨by first | exact e_next1 HE.out (by omega) HY2.out (by omega) (by omega) | exact e_next2 HE.out (by omega) HY2.out (by omega)⟩, HD3⟩))
    ·have e8 : j = s.size := by omega
     subst e8
     clear hy2 hyb2
     go_wp2_with fail
     all_goals go_ret
     all_goals exact ⟨rfl, d', nd', _, tr', HD3.out.set_dp _, hnd, HI1.out, HI2.out, by omega, st_endN HS.out (exp_plus (by omega) HY.out HE.out) HB.out (by omega)⟩
 have HB := Aside0.mk hb; have hbb : decide (b < c) = true := decide_eq_true hb
 go_wp2_with (go_at_call 188; refine (Tryz.internal_strconv_lower _ _).mono ?_; rintro e w' ⟨rfl, hw2⟩; obtain rfl := hw2.symm)
 all_goals
  go_loopg [5, 9] (s.size - (c + 2)).toNat (fun kq v5 v9 w' => ∃ (j e : Int), v5 = .int .i64 j ∧ v9 = .int .i64 e ∧ (c + 2 ≤ j ∧ j ≤ s.size) ∧ (kq : Int) + j = s.size ∧ (0 ≤ e ∧ e ≤ 100008) ∧ Aside0 (e = eAt s (c + 2) (j - (c + 2)).toNat) ∧ Aside0 (Dec w0 w' g d' nd' _ ng tr'))
  case atStart => exact ⟨_, _, rfl, rfl, by omega, by omega, by omega, ⟨e_zero (by omega)⟩, by first | exact ⟨HD2.out.set_dp _⟩ | exact HD2⟩
  case round =>
   obtain ⟨j, e, rfl, rfl, hj, hkj, he, HE, HD3⟩ := hrel
   obtain ⟨y2, hy2⟩ : ∃ y2, y2 = bt s j := ⟨_, rfl⟩; have HY2 := Aside0.mk hy2
   have hyb2 : ∀ h : j.toNat < s.size, ((s[j.toNat]'h).toNat : Int) = y2 := fun h => by rw [hy2]; exact bt_at s j h
   have h0j : 0 ≤ j := by omega
   have p1 := HD3.out.cdp
   have p3 := HD3.out.fr
   by_cases e7 : j < s.size
   ·have hdg := HHD.out j (by omega) e7
    rw [← hy2] at hdg
    clear hy2
    have y1 : (y2 == 95) = false := beq_eq_false_iff_ne.mpr (by omega)
    have y3 : decide (48 ≤ y2) = true := decide_eq_true (by omega)
    have y4 : decide (y2 ≤ 57) = true := decide_eq_true (by omega)
    go_wp2_with fail
    all_goals (go_roundg (gk - 1); (case measure => omega); (case rel => exact ⟨_, _, rfl, rfl, by omega, by omega, by omega, ⟨by first | exact e_next1 HE.out (by omega) HY2.out (by omega) (by omega) | exact e_next2 HE.out (by omega) HY2.out (by omega)⟩, HD3⟩))
   ·have e8 : j = s.size := by omega
    subst e8
    clear hy2 hyb2
    go_wp2_with fail
    all_goals go_ret
    all_goals exact ⟨rfl, d', nd', _, tr', HD3.out.set_dp _, hnd, HI1.out, HI2.out, by omega, st_endD HS.out (exp_plus (by omega) HY.out HE.out) HB.out (by omega)⟩
end Go.Proofs.YtgiioglmkogpkaaGreatDoor.F
namespace Go.Proofs.YtgiioglmkogpkaaGreatDoor.F
open Go.RowKit Go.Proofs.YtgiioglmkogpkaaGreatDoorW.PrintWords Go.Proofs.YtgiioglmkogpkaaGreatDoorW.PrintLast Go.Proofs.YtgiioglmkogpkaaGreatDoorW.PrintMore
open M L V
set_option maxHeartbeats 8000000
set_option maxRecDepth 8192
def jmpQ (J : Nat → Act → World → Prop) (Q : Exit → Act → World → Prop) : Exit → Act → World → Prop
 | .goto l, a, w => J l a w
 | e, a, w => Q e a w
section
variable {P : Program} {a : Act} {w : World} {Q : Exit → Act → World → Prop}
theorem wp_scope_ghost {c : Code} (rest : Nat → Code) (J : Nat → Nat → Act → World → Prop) (hf : ∀ m l a w, J m l a w → findLabel c l = some (rest l)) (m0 : Nat)
  (first : c.wp P (jmpQ (fun l a w => ∃ m, m < m0 ∧ J m l a w) Q) a w)
  (pass : ∀ m l a w, J m l a w → (rest l).wp P (jmpQ (fun l' a' w' => ∃ m', m' < m ∧ J m' l' a' w') Q) a w) : (Code.scope c).wp P Q a w := by
 intro b k cs
 have key : ∀ m0 (x : Code) a w, x.wp P (jmpQ (fun l a w => ∃ m, m < m0 ∧ J m l a w) Q) a w → ∃ e a' w', Q e a' w' ∧ Arrives P (lone (b.at a (.code x :: .inScope c :: k)) cs w) b k cs e a' w' := by
  intro m0
  induction m0 using Nat.strongRecOn with
  | _ m0 ih =>
   intro x a w hx
   obtain ⟨e, a₁, w₁, hq, harr⟩ := hx b (.inScope c :: k) cs
   cases e with
   | normal => exact ⟨.normal, a₁, w₁, hq, Steps.trans harr (.one step_inScope)⟩
   | exit id => exact ⟨.exit id, a₁, w₁, hq, fun k' hk => harr k' (by simp [exitTo, hk])⟩
   | goto l' =>
    obtain ⟨m, hm, hJ⟩ := hq
    have hg : gotoIn l' (.inScope c :: k) = some (.code (rest l') :: .inScope c :: k) := by simp [gotoIn, hf m l' _ _ hJ]
    obtain ⟨e₂, a₂, w₂, hq₂, harr₂⟩ := ih m hm (rest l') a₁ w₁ (pass m l' a₁ w₁ hJ)
    exact ⟨e₂, a₂, w₂, hq₂, .of_steps (harr _ hg) harr₂⟩
   | ret => exact ⟨_, a₁, w₁, hq, harr⟩
   | panic ch => exact ⟨_, a₁, w₁, hq, harr⟩
   | outgrown => exact ⟨_, a₁, w₁, hq, harr⟩
 obtain ⟨e, a', w', hq, harr⟩ := key m0 c a w first
 exact ⟨e, a', w', hq, .of_steps (.one step_scope) harr⟩
end
theorem bt_nat (s : ByteArray) (i : Int) (n : Nat) (e : (n : Int) = i) (h : n < s.size) : ((s[n]'h).toNat : Int) = bt s i := by
 have := bt_at s i (by omega)
 have e2 : i.toNat = n := by omega
 simp only [e2] at this
 exact this
theorem bt_ex (s : ByteArray) (y : Int) (k : Nat) (h0 : 0 ≤ y) (h1 : y + 8 ≤ s.size) (hk : k < 8) (h : k < (s.extract y.toNat (y + 8).toNat).size) : (((s.extract y.toNat (y + 8).toNat)[k]'h).toNat : Int) = bt s (y + k) := by
 rw [bt_nat _ (k : Int) k rfl h, bt_extract s _ _ _ (by omega) (by omega) (by omega)]
 congr 1
 omega
def unlp : Code → Code
 | .loop c => c
 | c => c
def unbk : Code → Code
 | .block _ c => c
 | c => c
def thn : Code → Code
 | .cond _ c _ => c
 | c => c
noncomputable def sqA : Code := match Tryz.f88.body with
 | some c => unsc (unbk (tl (unlp (unbk (hd1 (tl (tl (tl (tl (tl c))))))))))
 | none => .skip
noncomputable def sq0 : Code := (findLabel sqA 0).getD .skip
noncomputable def sqB : Code := unsc (thn (tl (hd1 (tl sq0))))
noncomputable def sq1 : Code := (findLabel sqB 1).getD .skip
noncomputable def sq2 : Code := (findLabel sqB 2).getD .skip
noncomputable def sq3 : Code := (findLabel sqB 3).getD .skip
noncomputable def x3 : Code := tl sq3
noncomputable def x1 : Code := hd1 (tl sq1)
noncomputable def x2 : Code := hd1 (tl sq2)
noncomputable def r37 : Code := hd1 sqB
noncomputable def a2 : Code := hd1 sqA
noncomputable def r33 : Code := hd1 (tl sqA)
noncomputable def r34 : Code := hd1 (tl (tl sqA))
noncomputable def r0 : Code := tl sq0
noncomputable def r36 : Code := hd1 (hd1 r0)
noncomputable def r76 : Code := tl r0
def els : Code → Code
 | .cond _ _ c => c
 | c => c
noncomputable def rEl : Code := els (tl (hd1 r0))
noncomputable def r38 : Code := hd1 (tl sqB)
theorem sq_0 : findLabel sqA 0 = some sq0 := by
 simp only [sq1, sq2, sq3, sqB, sq0, sqA, Tryz.f88, tl, hd1, thn, unbk, unlp, unsc, findLabel, Nat.reduceBEq, Bool.false_eq_true, ↓reduceIte, Option.getD_some, beq_self_eq_true]
theorem sq_1 : findLabel sqB 1 = some sq1 := by
 simp only [sq1, sq2, sq3, sqB, sq0, sqA, Tryz.f88, tl, hd1, thn, unbk, unlp, unsc, findLabel, Nat.reduceBEq, Bool.false_eq_true, ↓reduceIte, Option.getD_some, beq_self_eq_true]
theorem sq_2 : findLabel sqB 2 = some sq2 := by
 simp only [sq1, sq2, sq3, sqB, sq0, sqA, Tryz.f88, tl, hd1, thn, unbk, unlp, unsc, findLabel, Nat.reduceBEq, Bool.false_eq_true, ↓reduceIte, Option.getD_some, beq_self_eq_true]
theorem sq_3 : findLabel sqB 3 = some sq3 := by
 simp only [sq1, sq2, sq3, sqB, sq0, sqA, Tryz.f88, tl, hd1, thn, unbk, unlp, unsc, findLabel, Nat.reduceBEq, Bool.false_eq_true, ↓reduceIte, Option.getD_some, beq_self_eq_true]
theorem sqA_eq : sqA = .seq a2 (.seq r33 (.seq r34 (.seq (.label 0) r0))) := by
 simp only [a2, r33, r34, r36, r76, els, rEl, r0, r37, r38, x1, x2, x3, sq1, sq2, sq3, sqB, sq0, sqA, Tryz.f88, tl, hd1, thn, unbk, unlp, unsc, findLabel, Nat.reduceBEq, Bool.false_eq_true, ↓reduceIte, Option.getD_some, beq_self_eq_true]
theorem sq0_eq : sq0 = .seq .skip r0 := by
 simp only [a2, r33, r34, r36, r76, els, rEl, r0, r37, r38, x1, x2, x3, sq1, sq2, sq3, sqB, sq0, sqA, Tryz.f88, tl, hd1, thn, unbk, unlp, unsc, findLabel, Nat.reduceBEq, Bool.false_eq_true, ↓reduceIte, Option.getD_some, beq_self_eq_true]
theorem r0_eq : r0 = .seq (.seq r36 (.cond (.tmp 107) (.scope sqB) rEl)) r76 := by
 simp only [a2, r33, r34, r36, r76, els, rEl, r0, r37, r38, x1, x2, x3, sq1, sq2, sq3, sqB, sq0, sqA, Tryz.f88, tl, hd1, thn, unbk, unlp, unsc, findLabel, Nat.reduceBEq, Bool.false_eq_true, ↓reduceIte, Option.getD_some, beq_self_eq_true]
theorem sqB_eq : sqB = .seq r37 (.seq r38 (.seq (.label 2) (.seq x2 (.seq (.goto 3) (.seq (.label 1) (.seq x1 (.seq (.label 3) x3))))))) := by
 simp only [a2, r33, r34, r36, r76, els, rEl, r0, r37, r38, x1, x2, x3, sq1, sq2, sq3, sqB, sq0, sqA, Tryz.f88, tl, hd1, thn, unbk, unlp, unsc, findLabel, Nat.reduceBEq, Bool.false_eq_true, ↓reduceIte, Option.getD_some, beq_self_eq_true]
theorem sq3_eq : sq3 = .seq .skip x3 := by
 simp only [a2, r33, r34, r36, r76, els, rEl, r0, r37, r38, x1, x2, x3, sq1, sq2, sq3, sqB, sq0, sqA, Tryz.f88, tl, hd1, thn, unbk, unlp, unsc, findLabel, Nat.reduceBEq, Bool.false_eq_true, ↓reduceIte, Option.getD_some, beq_self_eq_true]
theorem sq1_eq : sq1 = .seq .skip (.seq x1 (.seq (.label 3) x3)) := by
 simp only [a2, r33, r34, r36, r76, els, rEl, r0, r37, r38, x1, x2, x3, sq1, sq2, sq3, sqB, sq0, sqA, Tryz.f88, tl, hd1, thn, unbk, unlp, unsc, findLabel, Nat.reduceBEq, Bool.false_eq_true, ↓reduceIte, Option.getD_some, beq_self_eq_true]
theorem sq2_eq : sq2 = .seq .skip (.seq x2 (.seq (.goto 3) (.seq (.label 1) (.seq x1 (.seq (.label 3) x3))))) := by
 simp only [a2, r33, r34, r36, r76, els, rEl, r0, r37, r38, x1, x2, x3, sq1, sq2, sq3, sqB, sq0, sqA, Tryz.f88, tl, hd1, thn, unbk, unlp, unsc, findLabel, Nat.reduceBEq, Bool.false_eq_true, ↓reduceIte, Option.getD_some, beq_self_eq_true]
def SqF (s : ByteArray) (i p d c z m t : Value) (a : Act) : Prop := ∃ l : List Value, a = ⟨l.toArray, []⟩ ∧ l.length = 230 ∧ l[0]? = some (.string s) ∧ l[1]? = some i ∧ l[6]? = some p ∧ l[7]? = some d ∧ l[8]? = some c ∧ l[10]? = some z ∧ l[12]? = some m ∧ l[13]? = some t
theorem list_open : ∀ (n : Nat) (l : List Value), l.length = n → l = (List.range n).map (fun k => l.getD k undef) := by
 intro n l h
 apply List.ext_getElem
 ·simp [h]
 ·intro i h1 h2
  simp [List.getD_eq_getElem?_getD, List.getElem?_eq_getElem h1]
theorem SqF.open {s : ByteArray} {i p d c z m t : Value} {a : Act} (h : SqF s i p d c z m t a) : ∃ f : Nat → Value, a = ⟨List.toArray [.string s, i, f 2, f 3, f 4, f 5, p, d, c, f 9, z, f 11, m, t, f 14, f 15, f 16, f 17, f 18, f 19, f 20, f 21, f 22, f 23, f 24, f 25, f 26, f 27, f 28, f 29, f 30, f 31, f 32, f 33, f 34, f 35, f 36, f 37, f 38, f 39, f 40, f 41, f 42, f 43, f 44, f 45, f 46, f 47, f 48, f 49, f 50, f 51, f 52, f 53, f 54, f 55, f 56, f 57, f 58, f 59, f 60, f 61, f 62, f 63, f 64, f 65, f 66, f 67, f 68, f 69, f 70, f 71, f 72, f 73, f 74, f 75, f 76, f 77, f 78, f 79, f 80, f 81, f 82, f 83, f 84, f 85, f 86, f 87, f 88, f 89, f 90, f 91, f 92, f 93, f 94, f 95, f 96, f 97, f 98, f 99, f 100, f 101, f 102, f 103, f 104, f 105, f 106, f 107, f 108, f 109, f 110, f 111, f 112, f 113, f 114, f 115, f 116, f 117, f 118, f 119, f 120, f 121, f 122, f 123, f 124, f 125, f 126, f 127, f 128, f 129, f 130, f 131, f 132, f 133, f 134, f 135, f 136, f 137, f 138, f 139, f 140, f 141, f 142, f 143, f 144, f 145, f 146, f 147, f 148, f 149, f 150, f 151, f 152, f 153, f 154, f 155, f 156, f 157, f 158, f 159, f 160, f 161, f 162, f 163, f 164, f 165, f 166, f 167, f 168, f 169, f 170, f 171, f 172, f 173, f 174, f 175, f 176, f 177, f 178, f 179, f 180, f 181, f 182, f 183, f 184, f 185, f 186, f 187, f 188, f 189, f 190, f 191, f 192, f 193, f 194, f 195, f 196, f 197, f 198, f 199, f 200, f 201, f 202, f 203, f 204, f 205, f 206, f 207, f 208, f 209, f 210, f 211, f 212, f 213, f 214, f 215, f 216, f 217, f 218, f 219, f 220, f 221, f 222, f 223, f 224, f 225, f 226, f 227, f 228, f 229], []⟩ := by
 obtain ⟨l, rfl, hl, h0, h1, h6, h7, h8, h10, h12, h13⟩ := h
 have e := list_open 230 l hl
 have g : ∀ {k : Nat} {v : Value}, l[k]? = some v → v = l.getD k undef := fun h => by rw [List.getD_eq_getElem?_getD, h]; rfl
 refine ⟨fun k => l.getD k undef, ?_⟩
 rw [g h0, g h1, g h6, g h7, g h8, g h10, g h12, g h13]
 exact congrArg (fun x => (⟨List.toArray x, []⟩ : Act)) e
theorem x3_wp (s : ByteArray) (hz : s.size ≤ 274877906944) (a j : Int) (h0 : 0 ≤ a) (hj : j < s.size) (hQ : Quo s a j (a + 1)) (p d c : Value) (w : World) (Q : Exit → Act → World → Prop) (x : Int) (hx : a + 1 ≤ x) (hxj : x ≤ j) (h34 : bt s j = 34)
  (hN : ∀ b m t, SqF s (.int .i64 j) p d c (.int .i64 (a + 1)) m t b → Q .normal b w) (hG : ∀ b y m t, x < y → y ≤ j → SqF s (.int .i64 y) p d c (.int .i64 (a + 1)) m t b → Q (.goto 2) b w) : ∀ b m t, SqF s (.int .i64 x) p d c (.int .i64 (a + 1)) m t b → x3.wp Tryz.prog Q b w := by
 intro b m t hb
 obtain ⟨f, rfl⟩ := hb.open
 clear hb
 have HN := Aside0.mk hN
 have HG := Aside0.mk hG
 have HQ := Aside0.mk (And.intro hQ h34)
 clear hN hG hQ h34
 simp only [x3, sq1, sq2, sq3, sqB, sq0, sqA, Tryz.f88, tl, hd1, thn, unbk, unlp, unsc, findLabel, Nat.reduceBEq, Bool.false_eq_true, ↓reduceIte, Option.getD_some, beq_self_eq_true]
 go_wp2_with fail
 refine wp_loop_ghost_k (fun kq a' w' => ∃ (y : Int) (m t : Value), (x ≤ y ∧ y ≤ j) ∧ (kq : Int) + y = j ∧ w = w' ∧ SqF s (.int .i64 y) p d c (.int .i64 (a + 1)) m t a') (j - x).toNat ?_ ?_
 ·exact ⟨x, _, _, by omega, by omega, rfl, (by refine ⟨_, rfl, ?_⟩; exact ⟨rfl, rfl, rfl, rfl, rfl, rfl, rfl, rfl, rfl⟩)⟩
 intro gk b' w' hI J K hJ hK
 obtain ⟨y, m, t, hy, hk, rfl, hF⟩ := hI
 obtain ⟨f, rfl⟩ := hF.open
 clear hF
 have HJ := Aside0.mk hJ
 have HK := Aside0.mk hK
 clear hJ hK
 have hy0 : 0 ≤ y := by omega
 by_cases c34 : bt s y = 34
 rotate_left
 ·obtain ⟨q, hq⟩ : ∃ q, q = bt s y := ⟨_, rfl⟩
  have hb : ∀ h : y.toNat < s.size, ((s[y.toNat]'h).toNat : Int) = q := fun h => by rw [hq]; exact bt_at s y h
  have q34 : (q != 34) = true := bne_iff_ne.mpr (by rw [hq]; exact c34)
  have hyj : y < j := by
   by_cases e : y = j
   ·exact absurd (by rw [e]; exact HQ.out.2) c34
   ·omega
  clear hq c34
  by_cases q92 : 92 < q
  rotate_left
  ·have x1 : decide (92 < q) = false := decide_eq_false q92
   go_wp2_with fail
   apply HK.out; refine Handed.intro (gk - 1) (by omega) (HJ.out _ _ _ ⟨y + 1, m, t, by omega, by omega, rfl, ?_⟩); refine ⟨_, rfl, ?_⟩; exact ⟨rfl, rfl, rfl, rfl, rfl, rfl, rfl, rfl, rfl⟩
  have x1 : decide (92 < q) = true := decide_eq_true q92
  go_wp2_with fail
  apply HK.out; refine Handed.intro (gk - 1) (by omega) (HJ.out _ _ _ ⟨y + 1, m, t, by omega, by omega, rfl, ?_⟩); refine ⟨_, rfl, ?_⟩; exact ⟨rfl, rfl, rfl, rfl, rfl, rfl, rfl, rfl, rfl⟩
 obtain ⟨n, hR, hE⟩ := HQ.out.1 y (by omega) hy.2 c34
 have HR := Aside0.mk hR
 have hb : ∀ h : y.toNat < s.size, ((s[y.toNat]'h).toNat : Int) = 34 := fun h => by rw [← c34]; exact bt_at s y h
 by_cases n0 : n = 0
 ·obtain rfl : y = j := hE.1 (by omega)
  obtain ⟨q, hq⟩ : ∃ q, q = bt s (y - 1) := ⟨_, rfl⟩
  have hb1 : ∀ h : (y - 1).toNat < s.size, ((s[(y - 1).toNat]'h).toNat : Int) = q := fun h => by rw [hq]; exact bt_at s (y - 1) h
  have q92 : (q == 92) = false := beq_eq_false_iff_ne.mpr (by
   have := HR.out.2.2.2
   rw [n0, show y - 0 - 1 = y - 1 by omega] at this
   rw [hq]; exact this)
  have hb3 : ∀ h : y.toNat - 1 < s.size, ((s[y.toNat - 1]'h).toNat : Int) = q := fun h => by rw [hq]; exact bt_nat s (y - 1) _ (by omega) h
  clear hq c34 hR hE
  go_wp2_with fail
  apply HN.out; refine ⟨_, rfl, ?_⟩; exact ⟨rfl, rfl, rfl, rfl, rfl, rfl, rfl, rfl, rfl⟩
 have hR92 : bt s (y - 1) = 92 := HR.out.2.2.1 _ (by have := HR.out.1; omega) (by omega)
 have hn1 : 1 ≤ n ∧ n < y - a := ⟨by have := HR.out.1; omega, by have := HR.out.2.1; omega⟩
 have hb1 : ∀ h : (y - 1).toNat < s.size, ((s[(y - 1).toNat]'h).toNat : Int) = 92 := fun h => by rw [← hR92]; exact bt_at s (y - 1) h
 have hb3 : ∀ h : y.toNat - 1 < s.size, ((s[y.toNat - 1]'h).toNat : Int) = 92 := fun h => by rw [← hR92]; exact bt_nat s (y - 1) _ (by omega) h
 have HE := Aside0.mk hE
 clear hR92 hR hE c34
 go_wp2_with fail
 refine wp_loop_ghost_k (fun kq a' w' => ∃ (m : Int), (0 ≤ m ∧ m ≤ n - 1) ∧ (kq : Int) + m = n - 1 ∧ w = w' ∧ SqF s (.int .i64 y) p d c (.int .i64 (a + 1)) (.int .i64 m) (.int .i64 (y - 2 - m)) a') (n - 1).toNat ?_ ?_
 ·exact ⟨0, by omega, by omega, rfl, by rw [show y - 2 - 0 = y - 2 by omega]; refine ⟨_, rfl, ?_⟩; exact ⟨rfl, rfl, rfl, rfl, rfl, rfl, rfl, rfl, rfl⟩⟩
 intro gk2 b2 w2 hI2 J2 K2 hJ2 hK2
 obtain ⟨m, hm, hkm, rfl, hF⟩ := hI2
 obtain ⟨f, rfl⟩ := hF.open
 clear hF
 have HJ2 := Aside0.mk hJ2
 have HK2 := Aside0.mk hK2
 clear hJ2 hK2
 obtain ⟨q, hq⟩ : ∃ q, q = bt s (y - 2 - m) := ⟨_, rfl⟩
 have hb2 : ∀ h : (y - 2 - m).toNat < s.size, ((s[(y - 2 - m).toNat]'h).toNat : Int) = q := fun h => by rw [hq]; exact bt_at s (y - 2 - m) h
 by_cases em : m < n - 1
 ·have q92 : (q != 92) = false := bne_eq_false_iff_eq.mpr (by rw [hq]; exact HR.out.2.2.1 _ (by omega) (by omega))
  clear hq
  go_wp2_with fail
  refine HK2.out _ _ (Handed.intro (gk2 - 1) (by omega) (HJ2.out _ _ _ ⟨m + 1, by omega, by omega, rfl, ?_⟩)); rw [show y - 2 - (m + 1) = y - 2 - m - 1 by omega]; refine ⟨_, rfl, ?_⟩; exact ⟨rfl, rfl, rfl, rfl, rfl, rfl, rfl, rfl, rfl⟩
 obtain rfl : m = n - 1 := by omega
 have HX := Aside0.mk (show y - 2 - (n - 1) > a → q ≠ 92 from fun _ => by
  have := HR.out.2.2.2
  rw [show y - n - 1 = y - 2 - (n - 1) by omega] at this
  rw [hq]; exact this)
 clear hq
 by_cases pa : n % 2 = 0
 ·obtain rfl : y = j := HE.out.1 pa
  have tm : ((n - 1) % 2 == 0) = false := beq_eq_false_iff_ne.mpr (by omega)
  clear pa
  by_cases eb : y - 2 - (n - 1) > a
  rotate_left
  ·go_wp2_with fail
   apply HN.out; refine ⟨_, rfl, ?_⟩; exact ⟨rfl, rfl, rfl, rfl, rfl, rfl, rfl, rfl, rfl⟩
  have q92 : (q != 92) = true := bne_iff_ne.mpr (HX.out eb)
  go_wp2_with fail
  apply HN.out; refine ⟨_, rfl, ?_⟩; exact ⟨rfl, rfl, rfl, rfl, rfl, rfl, rfl, rfl, rfl⟩
 have hyj : y < j := by
  have := HE.out
  omega
 have tm : ((n - 1) % 2 == 0) = true := beq_iff_eq.mpr (by omega)
 clear pa
 by_cases eb : y - 2 - (n - 1) > a
 rotate_left
 ·go_wp2_with fail
  refine wp_goto ?_; change Q (.goto 2) _ _; refine HG.out _ (y + 1) (.int .i64 (n - 1)) (.int .i64 (y - 2 - (n - 1))) (by omega) (by omega) ?_; refine ⟨_, rfl, ?_⟩; exact ⟨rfl, rfl, rfl, rfl, rfl, rfl, rfl, rfl, rfl⟩
 have q92 : (q != 92) = true := bne_iff_ne.mpr (HX.out eb)
 go_wp2_with fail
 refine wp_goto ?_; change Q (.goto 2) _ _; refine HG.out _ (y + 1) (.int .i64 (n - 1)) (.int .i64 (y - 2 - (n - 1))) (by omega) (by omega) ?_; refine ⟨_, rfl, ?_⟩; exact ⟨rfl, rfl, rfl, rfl, rfl, rfl, rfl, rfl, rfl⟩
theorem x1_wp (s : ByteArray) (hz : s.size ≤ 274877906944) (a j : Int) (h0 : 0 ≤ a) (hj : j < s.size) (hQ : Quo s a j (a + 1)) (p d c : Value) (w : World) (Q : Exit → Act → World → Prop) (x : Int) (hx : a + 1 ≤ x) (hxj : x ≤ j) (h34 : bt s x = 34)
  (hN : ∀ b m t, SqF s (.int .i64 x) p d c (.int .i64 (a + 1)) m t b → Q .normal b w) (hX : ∀ b m t, SqF s (.int .i64 (j + 1)) p d c (.int .i64 (a + 1)) m t b → Q (.exit 1) b w) : ∀ b m t, SqF s (.int .i64 x) p d c (.int .i64 (a + 1)) m t b → x1.wp Tryz.prog Q b w := by
 intro b m t hb
 obtain ⟨f, rfl⟩ := hb.open
 clear hb
 have HN := Aside0.mk hN
 have HX := Aside0.mk hX
 clear hN hX
 obtain ⟨n, hR, hE⟩ := hQ x hx hxj h34
 obtain ⟨r1, r2, r3, r4⟩ := hR
 have HE := Aside0.mk hE
 clear hQ hE h34
 obtain ⟨q, hq⟩ : ∃ q, q = bt s (x - 1) := ⟨_, rfl⟩
 have hb1 : ∀ h : (x - 1).toNat < s.size, ((s[(x - 1).toNat]'h).toNat : Int) = q := fun h => by rw [hq]; exact bt_at s (x - 1) h
 have hb3 : ∀ h : x.toNat - 1 < s.size, ((s[x.toNat - 1]'h).toNat : Int) = q := fun h => by rw [hq]; exact bt_nat s (x - 1) _ (by omega) h
 by_cases n0 : n = 0
 rotate_left
 ·have q92 : (q != 92) = false := bne_eq_false_iff_eq.mpr (by rw [hq]; exact r3 _ (by omega) (by omega))
  clear hq r3 r4
  simp only [x1, sq1, sq2, sq3, sqB, sq0, sqA, Tryz.f88, tl, hd1, thn, unbk, unlp, unsc, findLabel, Nat.reduceBEq, Bool.false_eq_true, ↓reduceIte, Option.getD_some, beq_self_eq_true]
  go_wp2_with fail
  apply HN.out; refine ⟨_, rfl, ?_⟩; exact ⟨rfl, rfl, rfl, rfl, rfl, rfl, rfl, rfl, rfl⟩
 obtain rfl : x = j := HE.out.1 (by omega)
 have q92 : (q != 92) = true := bne_iff_ne.mpr (by rw [n0, show x - 0 - 1 = x - 1 by omega] at r4; rw [hq]; exact r4)
 clear hq r3 r4
 simp only [x1, sq1, sq2, sq3, sqB, sq0, sqA, Tryz.f88, tl, hd1, thn, unbk, unlp, unsc, findLabel, Nat.reduceBEq, Bool.false_eq_true, ↓reduceIte, Option.getD_some, beq_self_eq_true]
 go_wp2_with fail
 apply HX.out; refine ⟨_, rfl, ?_⟩; exact ⟨rfl, rfl, rfl, rfl, rfl, rfl, rfl, rfl, rfl⟩
set_option maxHeartbeats 8000000
set_option maxRecDepth 8192
theorem x2_wp (s : ByteArray) (hz : s.size ≤ 274877906944) (a j : Int) (h0 : 0 ≤ a) (hj : j < s.size) (hj34 : bt s j = 34) (p d c : Value) (w : World) (Q : Exit → Act → World → Prop) (x : Int) (hx : a + 1 ≤ x) (hxj : x ≤ j)
  (hN : ∀ b y m t, x ≤ y → y ≤ j → SqF s (.int .i64 y) p d c (.int .i64 (a + 1)) m t b → Q .normal b w) (hG : ∀ b y m t, x ≤ y → y ≤ j → bt s y = 34 → SqF s (.int .i64 y) p d c (.int .i64 (a + 1)) m t b → Q (.goto 1) b w) : ∀ b m t, SqF s (.int .i64 x) p d c (.int .i64 (a + 1)) m t b → x2.wp Tryz.prog Q b w := by
 intro b m t hb
 obtain ⟨f, rfl⟩ := hb.open
 clear hb
 have HN := Aside0.mk hN
 have HG := Aside0.mk hG
 have H34 := Aside0.mk hj34
 clear hN hG hj34
 simp only [x2, sq1, sq2, sq3, sqB, sq0, sqA, Tryz.f88, tl, hd1, thn, unbk, unlp, unsc, findLabel, Nat.reduceBEq, Bool.false_eq_true, ↓reduceIte, Option.getD_some, beq_self_eq_true]
 go_wp2_with fail
 refine wp_loop_ghost_k (fun kq a' w' => ∃ (y : Int) (m t : Value), (x ≤ y ∧ y ≤ j) ∧ (kq : Int) + y = j ∧ w = w' ∧ SqF s (.int .i64 y) p d c (.int .i64 (a + 1)) m t a') (j - x).toNat ?_ ?_
 ·exact ⟨x, _, _, by omega, by omega, rfl, (by refine ⟨_, rfl, ?_⟩; exact ⟨rfl, rfl, rfl, rfl, rfl, rfl, rfl, rfl, rfl⟩)⟩
 intro gk b' w' hI J K hJ hK
 obtain ⟨y, m, t, hy, hk, rfl, hF⟩ := hI
 obtain ⟨f, rfl⟩ := hF.open
 clear hF
 have HJ := Aside0.mk hJ
 have HK := Aside0.mk hK
 clear hJ hK
 have hy0 : 0 ≤ y := by omega
 by_cases e8 : y < s.size - 8
 rotate_left
 ·go_wp2_with fail
  refine HN.out _ y m t (by omega) (by omega) ?_; refine ⟨_, rfl, ?_⟩; exact ⟨rfl, rfl, rfl, rfl, rfl, rfl, rfl, rfl, rfl⟩
 have hle : y + 8 ≤ s.size := by omega
 have n0 : bt s (y + 0) ≠ 34 → j ≠ y + 0 := fun h e => h (e ▸ H34.out)
 obtain ⟨z0, hz0⟩ : ∃ z, z = bt s (y + 0) := ⟨_, rfl⟩
 have hb0 : ∀ h : 0 < (s.extract y.toNat (y + 8).toNat).size, (((s.extract y.toNat (y + 8).toNat)[0]'h).toNat : Int) = z0 := fun h => by rw [hz0]; exact bt_ex s y 0 hy0 (by omega) (by omega) h
 rw [← hz0] at n0
 have n1 : bt s (y + 1) ≠ 34 → j ≠ y + 1 := fun h e => h (e ▸ H34.out)
 obtain ⟨z1, hz1⟩ : ∃ z, z = bt s (y + 1) := ⟨_, rfl⟩
 have hb1 : ∀ h : 1 < (s.extract y.toNat (y + 8).toNat).size, (((s.extract y.toNat (y + 8).toNat)[1]'h).toNat : Int) = z1 := fun h => by rw [hz1]; exact bt_ex s y 1 hy0 (by omega) (by omega) h
 rw [← hz1] at n1
 have n2 : bt s (y + 2) ≠ 34 → j ≠ y + 2 := fun h e => h (e ▸ H34.out)
 obtain ⟨z2, hz2⟩ : ∃ z, z = bt s (y + 2) := ⟨_, rfl⟩
 have hb2 : ∀ h : 2 < (s.extract y.toNat (y + 8).toNat).size, (((s.extract y.toNat (y + 8).toNat)[2]'h).toNat : Int) = z2 := fun h => by rw [hz2]; exact bt_ex s y 2 hy0 (by omega) (by omega) h
 rw [← hz2] at n2
 have n3 : bt s (y + 3) ≠ 34 → j ≠ y + 3 := fun h e => h (e ▸ H34.out)
 obtain ⟨z3, hz3⟩ : ∃ z, z = bt s (y + 3) := ⟨_, rfl⟩
 have hb3 : ∀ h : 3 < (s.extract y.toNat (y + 8).toNat).size, (((s.extract y.toNat (y + 8).toNat)[3]'h).toNat : Int) = z3 := fun h => by rw [hz3]; exact bt_ex s y 3 hy0 (by omega) (by omega) h
 rw [← hz3] at n3
 have n4 : bt s (y + 4) ≠ 34 → j ≠ y + 4 := fun h e => h (e ▸ H34.out)
 obtain ⟨z4, hz4⟩ : ∃ z, z = bt s (y + 4) := ⟨_, rfl⟩
 have hb4 : ∀ h : 4 < (s.extract y.toNat (y + 8).toNat).size, (((s.extract y.toNat (y + 8).toNat)[4]'h).toNat : Int) = z4 := fun h => by rw [hz4]; exact bt_ex s y 4 hy0 (by omega) (by omega) h
 rw [← hz4] at n4
 have n5 : bt s (y + 5) ≠ 34 → j ≠ y + 5 := fun h e => h (e ▸ H34.out)
 obtain ⟨z5, hz5⟩ : ∃ z, z = bt s (y + 5) := ⟨_, rfl⟩
 have hb5 : ∀ h : 5 < (s.extract y.toNat (y + 8).toNat).size, (((s.extract y.toNat (y + 8).toNat)[5]'h).toNat : Int) = z5 := fun h => by rw [hz5]; exact bt_ex s y 5 hy0 (by omega) (by omega) h
 rw [← hz5] at n5
 have n6 : bt s (y + 6) ≠ 34 → j ≠ y + 6 := fun h e => h (e ▸ H34.out)
 obtain ⟨z6, hz6⟩ : ∃ z, z = bt s (y + 6) := ⟨_, rfl⟩
 have hb6 : ∀ h : 6 < (s.extract y.toNat (y + 8).toNat).size, (((s.extract y.toNat (y + 8).toNat)[6]'h).toNat : Int) = z6 := fun h => by rw [hz6]; exact bt_ex s y 6 hy0 (by omega) (by omega) h
 rw [← hz6] at n6
 have n7 : bt s (y + 7) ≠ 34 → j ≠ y + 7 := fun h e => h (e ▸ H34.out)
 obtain ⟨z7, hz7⟩ : ∃ z, z = bt s (y + 7) := ⟨_, rfl⟩
 have hb7 : ∀ h : 7 < (s.extract y.toNat (y + 8).toNat).size, (((s.extract y.toNat (y + 8).toNat)[7]'h).toNat : Int) = z7 := fun h => by rw [hz7]; exact bt_ex s y 7 hy0 (by omega) (by omega) h
 rw [← hz7] at n7
 have HZ := Aside0.mk (And.intro hz0 (And.intro hz1 (And.intro hz2 (And.intro hz3 (And.intro hz4 (And.intro hz5 (And.intro hz6 hz7)))))))
 clear hz0 hz1 hz2 hz3 hz4 hz5 hz6 hz7
 have HNE := Aside0.mk (And.intro n0 (And.intro n1 (And.intro n2 (And.intro n3 (And.intro n4 (And.intro n5 (And.intro n6 n7)))))))
 clear n0 n1 n2 n3 n4 n5 n6 n7
 by_cases c0 : z0 = 34
 ·have q0 : (z0 == 34) = true := beq_iff_eq.mpr c0
  have hjk : y + 0 ≤ j := by
   obtain ⟨n0, n1, n2, n3, n4, n5, n6, n7⟩ := HNE.out
   omega
  have hzk := HZ.out.1
  rw [c0] at hzk
  have HZK := Aside0.mk hzk
  clear hzk c0
  go_wp2_with fail
  refine wp_goto ?_; change Q (.goto 1) _ _
  refine HG.out _ (y + 0) m t (by omega) hjk HZK.out.symm ?_; rw [Int.add_zero]; refine ⟨_, rfl, ?_⟩; exact ⟨rfl, rfl, rfl, rfl, rfl, rfl, rfl, rfl, rfl⟩
 have q0 : (z0 == 34) = false := beq_eq_false_iff_ne.mpr c0
 by_cases c1 : z1 = 34
 ·have q1 : (z1 == 34) = true := beq_iff_eq.mpr c1
  have hjk : y + 1 ≤ j := by
   obtain ⟨n0, n1, n2, n3, n4, n5, n6, n7⟩ := HNE.out
   have := n0 c0
   omega
  have hzk := HZ.out.2.1
  rw [c1] at hzk
  have HZK := Aside0.mk hzk
  clear hzk c0 c1
  go_wp2_with fail
  refine wp_goto ?_; change Q (.goto 1) _ _
  refine HG.out _ (y + 1) m t (by omega) hjk HZK.out.symm ?_; refine ⟨_, rfl, ?_⟩; exact ⟨rfl, rfl, rfl, rfl, rfl, rfl, rfl, rfl, rfl⟩
 have q1 : (z1 == 34) = false := beq_eq_false_iff_ne.mpr c1
 by_cases c2 : z2 = 34
 ·have q2 : (z2 == 34) = true := beq_iff_eq.mpr c2
  have hjk : y + 2 ≤ j := by
   obtain ⟨n0, n1, n2, n3, n4, n5, n6, n7⟩ := HNE.out
   have := n0 c0
   have := n1 c1
   omega
  have hzk := HZ.out.2.2.1
  rw [c2] at hzk
  have HZK := Aside0.mk hzk
  clear hzk c0 c1 c2
  go_wp2_with fail
  refine wp_goto ?_; change Q (.goto 1) _ _
  refine HG.out _ (y + 2) m t (by omega) hjk HZK.out.symm ?_; refine ⟨_, rfl, ?_⟩; exact ⟨rfl, rfl, rfl, rfl, rfl, rfl, rfl, rfl, rfl⟩
 have q2 : (z2 == 34) = false := beq_eq_false_iff_ne.mpr c2
 by_cases c3 : z3 = 34
 ·have q3 : (z3 == 34) = true := beq_iff_eq.mpr c3
  have hjk : y + 3 ≤ j := by
   obtain ⟨n0, n1, n2, n3, n4, n5, n6, n7⟩ := HNE.out
   have := n0 c0
   have := n1 c1
   have := n2 c2
   omega
  have hzk := HZ.out.2.2.2.1
  rw [c3] at hzk
  have HZK := Aside0.mk hzk
  clear hzk c0 c1 c2 c3
  go_wp2_with fail
  refine wp_goto ?_; change Q (.goto 1) _ _
  refine HG.out _ (y + 3) m t (by omega) hjk HZK.out.symm ?_; refine ⟨_, rfl, ?_⟩; exact ⟨rfl, rfl, rfl, rfl, rfl, rfl, rfl, rfl, rfl⟩
 have q3 : (z3 == 34) = false := beq_eq_false_iff_ne.mpr c3
 by_cases c4 : z4 = 34
 ·have q4 : (z4 == 34) = true := beq_iff_eq.mpr c4
  have hjk : y + 4 ≤ j := by
   obtain ⟨n0, n1, n2, n3, n4, n5, n6, n7⟩ := HNE.out
   have := n0 c0
   have := n1 c1
   have := n2 c2
   have := n3 c3
   omega
  have hzk := HZ.out.2.2.2.2.1
  rw [c4] at hzk
  have HZK := Aside0.mk hzk
  clear hzk c0 c1 c2 c3 c4
  go_wp2_with fail
  refine wp_goto ?_; change Q (.goto 1) _ _
  refine HG.out _ (y + 4) m t (by omega) hjk HZK.out.symm ?_; refine ⟨_, rfl, ?_⟩; exact ⟨rfl, rfl, rfl, rfl, rfl, rfl, rfl, rfl, rfl⟩
 have q4 : (z4 == 34) = false := beq_eq_false_iff_ne.mpr c4
 by_cases c5 : z5 = 34
 ·have q5 : (z5 == 34) = true := beq_iff_eq.mpr c5
  have hjk : y + 5 ≤ j := by
   obtain ⟨n0, n1, n2, n3, n4, n5, n6, n7⟩ := HNE.out
   have := n0 c0
   have := n1 c1
   have := n2 c2
   have := n3 c3
   have := n4 c4
   omega
  have hzk := HZ.out.2.2.2.2.2.1
  rw [c5] at hzk
  have HZK := Aside0.mk hzk
  clear hzk c0 c1 c2 c3 c4 c5
  go_wp2_with fail
  refine wp_goto ?_; change Q (.goto 1) _ _
  refine HG.out _ (y + 5) m t (by omega) hjk HZK.out.symm ?_; refine ⟨_, rfl, ?_⟩; exact ⟨rfl, rfl, rfl, rfl, rfl, rfl, rfl, rfl, rfl⟩
 have q5 : (z5 == 34) = false := beq_eq_false_iff_ne.mpr c5
 by_cases c6 : z6 = 34
 ·have q6 : (z6 == 34) = true := beq_iff_eq.mpr c6
  have hjk : y + 6 ≤ j := by
   obtain ⟨n0, n1, n2, n3, n4, n5, n6, n7⟩ := HNE.out
   have := n0 c0
   have := n1 c1
   have := n2 c2
   have := n3 c3
   have := n4 c4
   have := n5 c5
   omega
  have hzk := HZ.out.2.2.2.2.2.2.1
  rw [c6] at hzk
  have HZK := Aside0.mk hzk
  clear hzk c0 c1 c2 c3 c4 c5 c6
  go_wp2_with fail
  refine wp_goto ?_; change Q (.goto 1) _ _
  refine HG.out _ (y + 6) m t (by omega) hjk HZK.out.symm ?_; refine ⟨_, rfl, ?_⟩; exact ⟨rfl, rfl, rfl, rfl, rfl, rfl, rfl, rfl, rfl⟩
 have q6 : (z6 == 34) = false := beq_eq_false_iff_ne.mpr c6
 by_cases c7 : z7 = 34
 ·have q7 : (z7 == 34) = true := beq_iff_eq.mpr c7
  have hjk : y + 7 ≤ j := by
   obtain ⟨n0, n1, n2, n3, n4, n5, n6, n7⟩ := HNE.out
   have := n0 c0
   have := n1 c1
   have := n2 c2
   have := n3 c3
   have := n4 c4
   have := n5 c5
   have := n6 c6
   omega
  have hzk := HZ.out.2.2.2.2.2.2.2
  rw [c7] at hzk
  have HZK := Aside0.mk hzk
  clear hzk c0 c1 c2 c3 c4 c5 c6 c7
  go_wp2_with fail
  refine wp_goto ?_; change Q (.goto 1) _ _
  refine HG.out _ (y + 7) m t (by omega) hjk HZK.out.symm ?_; refine ⟨_, rfl, ?_⟩; exact ⟨rfl, rfl, rfl, rfl, rfl, rfl, rfl, rfl, rfl⟩
 have q7 : (z7 == 34) = false := beq_eq_false_iff_ne.mpr c7
 have hjk : y + 8 ≤ j := by
  obtain ⟨n0, n1, n2, n3, n4, n5, n6, n7⟩ := HNE.out
  have := n0 c0
  have := n1 c1
  have := n2 c2
  have := n3 c3
  have := n4 c4
  have := n5 c5
  have := n6 c6
  have := n7 c7
  omega
 clear c0 c1 c2 c3 c4 c5 c6 c7
 go_wp2_with fail
 apply HK.out; refine Handed.intro (gk - 8) (by omega) (HJ.out _ _ _ ⟨y + 8, m, t, by omega, by omega, rfl, ?_⟩); refine ⟨_, rfl, ?_⟩; exact ⟨rfl, rfl, rfl, rfl, rfl, rfl, rfl, rfl, rfl⟩
theorem r37_wp (s : ByteArray) (hz : s.size ≤ 274877906944) (a : Int) (h0 : 0 ≤ a) (ha : a < s.size) (p d c z : Value) (w : World) (Q : Exit → Act → World → Prop)
  (hN : ∀ b m t, SqF s (.int .i64 (a + 1)) p d c z m t b → Q .normal b w) : ∀ b m t, SqF s (.int .i64 a) p d c z m t b → r37.wp Tryz.prog Q b w := by
 intro b m t hb
 obtain ⟨f, rfl⟩ := hb.open
 clear hb
 have HN := Aside0.mk hN
 clear hN
 simp only [r37, r38, sq1, sq2, sq3, sqB, sq0, sqA, Tryz.f88, tl, hd1, thn, unbk, unlp, unsc, findLabel, Nat.reduceBEq, Bool.false_eq_true, ↓reduceIte, Option.getD_some, beq_self_eq_true]
 go_wp2_with fail
 apply HN.out; refine ⟨_, rfl, ?_⟩; exact ⟨rfl, rfl, rfl, rfl, rfl, rfl, rfl, rfl, rfl⟩
theorem r38_wp (s : ByteArray) (hz : s.size ≤ 274877906944) (a : Int) (h0 : 0 ≤ a) (ha : a < s.size) (p d c z : Value) (w : World) (Q : Exit → Act → World → Prop)
  (hN : ∀ b m t, SqF s (.int .i64 (a + 1)) p d c (.int .i64 (a + 1)) m t b → Q .normal b w) : ∀ b m t, SqF s (.int .i64 (a + 1)) p d c z m t b → r38.wp Tryz.prog Q b w := by
 intro b m t hb
 obtain ⟨f, rfl⟩ := hb.open
 clear hb
 have HN := Aside0.mk hN
 clear hN
 simp only [r37, r38, sq1, sq2, sq3, sqB, sq0, sqA, Tryz.f88, tl, hd1, thn, unbk, unlp, unsc, findLabel, Nat.reduceBEq, Bool.false_eq_true, ↓reduceIte, Option.getD_some, beq_self_eq_true]
 go_wp2_with fail
 apply HN.out; refine ⟨_, rfl, ?_⟩; exact ⟨rfl, rfl, rfl, rfl, rfl, rfl, rfl, rfl, rfl⟩
theorem sqB_wp (s : ByteArray) (hz : s.size ≤ 274877906944) (a j : Int) (h0 : 0 ≤ a) (haj : a + 1 ≤ j) (hj : j < s.size) (hj34 : bt s j = 34) (hQ : Quo s a j (a + 1)) (p d c z : Value) (w : World) (Q : Exit → Act → World → Prop)
  (hN : ∀ b z m t, SqF s (.int .i64 j) p d c z m t b → Q .normal b w) (hX : ∀ b z m t, SqF s (.int .i64 (j + 1)) p d c z m t b → Q (.exit 1) b w) : ∀ b m t, SqF s (.int .i64 a) p d c z m t b → (Code.scope sqB).wp Tryz.prog Q b w := by
 intro b m t hb
 let J : Nat → Nat → Act → World → Prop := fun n l b w' => w = w' ∧ ∃ (y : Int) (m t : Value), (a + 1 ≤ y ∧ y ≤ j) ∧ SqF s (.int .i64 y) p d c (.int .i64 (a + 1)) m t b ∧ ((l = 1 ∧ bt s y = 34 ∧ (n : Int) = 3 * (j - y) + 1) ∨ (l = 2 ∧ (n : Int) = 3 * (j - y) + 2) ∨ (l = 3 ∧ (n : Int) = 3 * (j - y)))
 have key2 : ∀ (n : Nat) (y : Int), a + 1 ≤ y → y ≤ j → 3 * (j - y) + 1 < n → ∀ b m t, SqF s (.int .i64 y) p d c (.int .i64 (a + 1)) m t b → ∀ Z, (Code.seq x2 (.seq (.goto 3) Z)).wp Tryz.prog (jmpQ (fun l' a' w' => ∃ m', m' < n ∧ J m' l' a' w') Q) b w := by
  intro n y h1 h2 h3 b m t hb Z
  refine wp_seq_k (fun K hK => x2_wp s hz a j h0 hj hj34 p d c w _ y h1 h2 (fun b y' m t q1 q2 hF => hK _ _ (wp_seq (wp_goto ?_))) (fun b y' m t q1 q2 q3 hF => ?_) b m t hb)
  ·exact ⟨(3 * (j - y')).toNat, by omega, rfl, y', m, t, ⟨by omega, q2⟩, hF, .inr (.inr ⟨rfl, by omega⟩)⟩
  ·exact ⟨(3 * (j - y') + 1).toNat, by omega, rfl, y', m, t, ⟨by omega, q2⟩, hF, .inl ⟨rfl, q3, by omega⟩⟩
 have key3 : ∀ (n : Nat) (y : Int), a + 1 ≤ y → y ≤ j → 3 * (j - y) ≤ n → ∀ b m t, SqF s (.int .i64 y) p d c (.int .i64 (a + 1)) m t b → x3.wp Tryz.prog (jmpQ (fun l' a' w' => ∃ m', m' < n ∧ J m' l' a' w') Q) b w := by
  intro n y h1 h2 h3 b m t hb
  refine x3_wp s hz a j h0 hj hQ p d c w (jmpQ (fun l' a' w' => ∃ m', m' < n ∧ J m' l' a' w') Q) y h1 h2 hj34 (fun b m t hF => hN b _ m t hF) (fun b y' m t q1 q2 hF => ?_) b m t hb
  exact ⟨(3 * (j - y') + 2).toNat, by omega, rfl, y', m, t, ⟨by omega, q2⟩, hF, .inr (.inl ⟨rfl, by omega⟩)⟩
 refine wp_scope_ghost (fun l => if l = 1 then sq1 else if l = 2 then sq2 else sq3) J ?_ (3 * (j - a) + 3).toNat ?_ ?_
 ·rintro n l b' w' ⟨_, y, m, t, _, _, ⟨rfl, _⟩ | ⟨rfl, _⟩ | ⟨rfl, _⟩⟩
  ·exact sq_1
  ·exact sq_2
  ·exact sq_3
 ·rw [sqB_eq]
  refine wp_seq_k (fun K hK => r37_wp s hz a h0 (by omega) p d c z w _ (fun b m t hF => hK _ _ ?_) b m t hb)
  refine wp_seq_k (fun K hK => r38_wp s hz a h0 (by omega) p d c z w _ (fun b m t hF => hK _ _ ?_) b m t hF)
  exact wp_seq (wp_label (key2 _ (a + 1) (by omega) haj (by omega) b m t hF _))
 rintro n l b' w' ⟨rfl, y, m, t, ⟨h1, h2⟩, hF, ⟨rfl, h3, h4⟩ | ⟨rfl, h4⟩ | ⟨rfl, h4⟩⟩
 rotate_left
 ·show sq2.wp _ _ _ _
  rw [sq2_eq]
  exact wp_seq (wp_skip (key2 _ y h1 h2 (by omega) b' m t hF _))
 ·show sq3.wp _ _ _ _
  rw [sq3_eq]
  exact wp_seq (wp_skip (key3 _ y h1 h2 (by omega) b' m t hF))
 show sq1.wp _ _ _ _
 rw [sq1_eq]
 refine wp_seq (wp_skip (wp_seq_k (fun K hK => x1_wp s hz a j h0 hj hQ p d c w (Exit.then K (jmpQ (fun l' a' w' => ∃ m', m' < n ∧ J m' l' a' w') Q)) y h1 h2 h3 (fun b m t hF => hK _ _ (wp_seq (wp_label ?_))) (fun b m t hF => hX b _ m t hF) b' m t hF)))
 exact key3 _ y h1 h2 (by omega) b m t hF
set_option maxHeartbeats 8000000
set_option maxRecDepth 8192
def VT (w : World) : Prop := ∀ i : Nat, i < 256 → w.cell? ⟨0, i, none⟩ = some (.int .u8 (vch i))
theorem _root_.Go.Proofs.YtgiioglmkogpkaaGreatDoor.V.Rem.zero_inv {s : ByteArray} {E i d : Int} (h : Rem s E i d) (hv : vch (bt s i) = 0) : Rem s E (i + 1) d := by
 cases h with
 | zero _ _ h1 h2 => exact h2
 | str _ j _ h1 h2 => rw [h1.2.1] at hv; exact absurd hv (by decide)
 | opn _ _ h1 h2 => omega
 | cls _ _ h1 h2 h3 => omega
 | fin _ h1 h2 => omega
theorem a2_wp (s : ByteArray) (hz : s.size ≤ 274877906944) (E d x : Int) (hE : E ≤ s.size) (h0 : 0 ≤ x) (hR : Rem s E x d) (p dv z : Value) (w : World) (hV : VT w) (Q : Exit → Act → World → Prop)
  (hN : ∀ b y m t c, x ≤ y → Rem s E y d → SqF s (.int .i64 y) p dv c z m t b → Q .normal b w) (hG : ∀ b y m t v, v = vch (bt s y) → v ≠ 0 → x ≤ y → Rem s E y d → SqF s (.int .i64 y) p dv (.int .u8 v) z m t b → Q (.goto 0) b w) : ∀ b m t c, SqF s (.int .i64 x) p dv c z m t b → a2.wp Tryz.prog Q b w := by
 intro b m t c hb
 obtain ⟨f, rfl⟩ := hb.open
 clear hb
 have HN := Aside0.mk hN
 have HG := Aside0.mk hG
 have HV := Aside0.mk hV
 have hxE := hR.lt
 have HR := Aside0.mk hR
 clear hN hG hV hR
 simp only [a2, sq1, sq2, sq3, sqB, sq0, sqA, Tryz.f88, tl, hd1, thn, unbk, unlp, unsc, findLabel, Nat.reduceBEq, Bool.false_eq_true, ↓reduceIte, Option.getD_some, beq_self_eq_true]
 go_wp2_with fail
 refine wp_loop_ghost_k (fun kq a' w' => ∃ (y : Int) (m t c : Value), x ≤ y ∧ (kq : Int) + y = E ∧ Rem s E y d ∧ w = w' ∧ SqF s (.int .i64 y) p dv c z m t a') (E - x).toNat ?_ ?_
 ·exact ⟨x, _, _, _, by omega, by omega, HR.out, rfl, (by refine ⟨_, rfl, ?_⟩; exact ⟨rfl, rfl, rfl, rfl, rfl, rfl, rfl, rfl, rfl⟩)⟩
 intro gk b' w' hI J K hJ hK
 obtain ⟨y, m, t, c, hy, hk, hR, rfl, hF⟩ := hI
 obtain ⟨f, rfl⟩ := hF.open
 clear hF
 have HJ := Aside0.mk hJ
 have HK := Aside0.mk hK
 clear hJ hK HR
 have hlt := hR.lt
 have hy0 : 0 ≤ y := by omega
 have HR0 := Aside0.mk (show Rem s E (y + 0) d by rw [Int.add_zero]; exact hR)
 clear hR
 by_cases e8 : y < s.size - 8
 rotate_left
 ·go_wp2_with fail
  refine HN.out _ y m t c hy (by have := HR0.out; rwa [Int.add_zero] at this) ?_; refine ⟨_, rfl, ?_⟩; exact ⟨rfl, rfl, rfl, rfl, rfl, rfl, rfl, rfl, rfl⟩
 have hle : y + 8 ≤ s.size := by omega
 obtain ⟨z0, hz0⟩ : ∃ z, z = bt s (y + 0) := ⟨_, rfl⟩
 have hb0 : ∀ h : 0 < (s.extract y.toNat (y + 8).toNat).size, (((s.extract y.toNat (y + 8).toNat)[0]'h).toNat : Int) = z0 := fun h => by rw [hz0]; exact bt_ex s y 0 hy0 (by omega) (by omega) h
 have hr0 : 0 ≤ z0 ∧ z0 ≤ 255 := by rw [hz0]; exact bt_range s _
 obtain ⟨v0, hv0⟩ : ∃ v, v = vch z0 := ⟨_, rfl⟩
 have hc0 : w.cell? ⟨0, z0.toNat, none⟩ = some (.int .u8 v0) := by rw [hv0]; have := HV.out z0.toNat (by omega); rwa [show ((z0.toNat : Nat) : Int) = z0 by omega] at this
 have HZ0 := Aside0.mk (show v0 = vch (bt s (y + 0)) by rw [hv0, hz0])
 clear hz0 hv0
 obtain ⟨z1, hz1⟩ : ∃ z, z = bt s (y + 1) := ⟨_, rfl⟩
 have hb1 : ∀ h : 1 < (s.extract y.toNat (y + 8).toNat).size, (((s.extract y.toNat (y + 8).toNat)[1]'h).toNat : Int) = z1 := fun h => by rw [hz1]; exact bt_ex s y 1 hy0 (by omega) (by omega) h
 have hr1 : 0 ≤ z1 ∧ z1 ≤ 255 := by rw [hz1]; exact bt_range s _
 obtain ⟨v1, hv1⟩ : ∃ v, v = vch z1 := ⟨_, rfl⟩
 have hc1 : w.cell? ⟨0, z1.toNat, none⟩ = some (.int .u8 v1) := by rw [hv1]; have := HV.out z1.toNat (by omega); rwa [show ((z1.toNat : Nat) : Int) = z1 by omega] at this
 have HZ1 := Aside0.mk (show v1 = vch (bt s (y + 1)) by rw [hv1, hz1])
 clear hz1 hv1
 obtain ⟨z2, hz2⟩ : ∃ z, z = bt s (y + 2) := ⟨_, rfl⟩
 have hb2 : ∀ h : 2 < (s.extract y.toNat (y + 8).toNat).size, (((s.extract y.toNat (y + 8).toNat)[2]'h).toNat : Int) = z2 := fun h => by rw [hz2]; exact bt_ex s y 2 hy0 (by omega) (by omega) h
 have hr2 : 0 ≤ z2 ∧ z2 ≤ 255 := by rw [hz2]; exact bt_range s _
 obtain ⟨v2, hv2⟩ : ∃ v, v = vch z2 := ⟨_, rfl⟩
 have hc2 : w.cell? ⟨0, z2.toNat, none⟩ = some (.int .u8 v2) := by rw [hv2]; have := HV.out z2.toNat (by omega); rwa [show ((z2.toNat : Nat) : Int) = z2 by omega] at this
 have HZ2 := Aside0.mk (show v2 = vch (bt s (y + 2)) by rw [hv2, hz2])
 clear hz2 hv2
 obtain ⟨z3, hz3⟩ : ∃ z, z = bt s (y + 3) := ⟨_, rfl⟩
 have hb3 : ∀ h : 3 < (s.extract y.toNat (y + 8).toNat).size, (((s.extract y.toNat (y + 8).toNat)[3]'h).toNat : Int) = z3 := fun h => by rw [hz3]; exact bt_ex s y 3 hy0 (by omega) (by omega) h
 have hr3 : 0 ≤ z3 ∧ z3 ≤ 255 := by rw [hz3]; exact bt_range s _
 obtain ⟨v3, hv3⟩ : ∃ v, v = vch z3 := ⟨_, rfl⟩
 have hc3 : w.cell? ⟨0, z3.toNat, none⟩ = some (.int .u8 v3) := by rw [hv3]; have := HV.out z3.toNat (by omega); rwa [show ((z3.toNat : Nat) : Int) = z3 by omega] at this
 have HZ3 := Aside0.mk (show v3 = vch (bt s (y + 3)) by rw [hv3, hz3])
 clear hz3 hv3
 obtain ⟨z4, hz4⟩ : ∃ z, z = bt s (y + 4) := ⟨_, rfl⟩
 have hb4 : ∀ h : 4 < (s.extract y.toNat (y + 8).toNat).size, (((s.extract y.toNat (y + 8).toNat)[4]'h).toNat : Int) = z4 := fun h => by rw [hz4]; exact bt_ex s y 4 hy0 (by omega) (by omega) h
 have hr4 : 0 ≤ z4 ∧ z4 ≤ 255 := by rw [hz4]; exact bt_range s _
 obtain ⟨v4, hv4⟩ : ∃ v, v = vch z4 := ⟨_, rfl⟩
 have hc4 : w.cell? ⟨0, z4.toNat, none⟩ = some (.int .u8 v4) := by rw [hv4]; have := HV.out z4.toNat (by omega); rwa [show ((z4.toNat : Nat) : Int) = z4 by omega] at this
 have HZ4 := Aside0.mk (show v4 = vch (bt s (y + 4)) by rw [hv4, hz4])
 clear hz4 hv4
 obtain ⟨z5, hz5⟩ : ∃ z, z = bt s (y + 5) := ⟨_, rfl⟩
 have hb5 : ∀ h : 5 < (s.extract y.toNat (y + 8).toNat).size, (((s.extract y.toNat (y + 8).toNat)[5]'h).toNat : Int) = z5 := fun h => by rw [hz5]; exact bt_ex s y 5 hy0 (by omega) (by omega) h
 have hr5 : 0 ≤ z5 ∧ z5 ≤ 255 := by rw [hz5]; exact bt_range s _
 obtain ⟨v5, hv5⟩ : ∃ v, v = vch z5 := ⟨_, rfl⟩
 have hc5 : w.cell? ⟨0, z5.toNat, none⟩ = some (.int .u8 v5) := by rw [hv5]; have := HV.out z5.toNat (by omega); rwa [show ((z5.toNat : Nat) : Int) = z5 by omega] at this
 have HZ5 := Aside0.mk (show v5 = vch (bt s (y + 5)) by rw [hv5, hz5])
 clear hz5 hv5
 obtain ⟨z6, hz6⟩ : ∃ z, z = bt s (y + 6) := ⟨_, rfl⟩
 have hb6 : ∀ h : 6 < (s.extract y.toNat (y + 8).toNat).size, (((s.extract y.toNat (y + 8).toNat)[6]'h).toNat : Int) = z6 := fun h => by rw [hz6]; exact bt_ex s y 6 hy0 (by omega) (by omega) h
 have hr6 : 0 ≤ z6 ∧ z6 ≤ 255 := by rw [hz6]; exact bt_range s _
 obtain ⟨v6, hv6⟩ : ∃ v, v = vch z6 := ⟨_, rfl⟩
 have hc6 : w.cell? ⟨0, z6.toNat, none⟩ = some (.int .u8 v6) := by rw [hv6]; have := HV.out z6.toNat (by omega); rwa [show ((z6.toNat : Nat) : Int) = z6 by omega] at this
 have HZ6 := Aside0.mk (show v6 = vch (bt s (y + 6)) by rw [hv6, hz6])
 clear hz6 hv6
 obtain ⟨z7, hz7⟩ : ∃ z, z = bt s (y + 7) := ⟨_, rfl⟩
 have hb7 : ∀ h : 7 < (s.extract y.toNat (y + 8).toNat).size, (((s.extract y.toNat (y + 8).toNat)[7]'h).toNat : Int) = z7 := fun h => by rw [hz7]; exact bt_ex s y 7 hy0 (by omega) (by omega) h
 have hr7 : 0 ≤ z7 ∧ z7 ≤ 255 := by rw [hz7]; exact bt_range s _
 obtain ⟨v7, hv7⟩ : ∃ v, v = vch z7 := ⟨_, rfl⟩
 have hc7 : w.cell? ⟨0, z7.toNat, none⟩ = some (.int .u8 v7) := by rw [hv7]; have := HV.out z7.toNat (by omega); rwa [show ((z7.toNat : Nat) : Int) = z7 by omega] at this
 have HZ7 := Aside0.mk (show v7 = vch (bt s (y + 7)) by rw [hv7, hz7])
 clear hz7 hv7
 by_cases c0 : v0 = 0
 rotate_left
 ·have q0 : (v0 != 0) = true := bne_iff_ne.mpr c0
  have HC := Aside0.mk c0
  clear c0
  go_wp2_with fail
  refine wp_goto ?_; change Q (.goto 0) _ _
  refine HG.out _ (y + 0) m t v0 HZ0.out HC.out (by omega) HR0.out ?_; rw [Int.add_zero]; refine ⟨_, rfl, ?_⟩; exact ⟨rfl, rfl, rfl, rfl, rfl, rfl, rfl, rfl, rfl⟩
 have q0 : (v0 != 0) = false := bne_eq_false_iff_eq.mpr c0
 have HR1 := Aside0.mk (show Rem s E (y + 1) d by rw [show y + 1 = y + 0 + 1 by omega]; exact HR0.out.zero_inv (by rw [← HZ0.out]; exact c0))
 by_cases c1 : v1 = 0
 rotate_left
 ·have q1 : (v1 != 0) = true := bne_iff_ne.mpr c1
  have HC := Aside0.mk c1
  clear c0 c1
  go_wp2_with fail
  refine wp_goto ?_; change Q (.goto 0) _ _
  refine HG.out _ (y + 1) m t v1 HZ1.out HC.out (by omega) HR1.out ?_; refine ⟨_, rfl, ?_⟩; exact ⟨rfl, rfl, rfl, rfl, rfl, rfl, rfl, rfl, rfl⟩
 have q1 : (v1 != 0) = false := bne_eq_false_iff_eq.mpr c1
 have HR2 := Aside0.mk (show Rem s E (y + 2) d by rw [show y + 2 = y + 1 + 1 by omega]; exact HR1.out.zero_inv (by rw [← HZ1.out]; exact c1))
 by_cases c2 : v2 = 0
 rotate_left
 ·have q2 : (v2 != 0) = true := bne_iff_ne.mpr c2
  have HC := Aside0.mk c2
  clear c0 c1 c2
  go_wp2_with fail
  refine wp_goto ?_; change Q (.goto 0) _ _
  refine HG.out _ (y + 2) m t v2 HZ2.out HC.out (by omega) HR2.out ?_; refine ⟨_, rfl, ?_⟩; exact ⟨rfl, rfl, rfl, rfl, rfl, rfl, rfl, rfl, rfl⟩
 have q2 : (v2 != 0) = false := bne_eq_false_iff_eq.mpr c2
 have HR3 := Aside0.mk (show Rem s E (y + 3) d by rw [show y + 3 = y + 2 + 1 by omega]; exact HR2.out.zero_inv (by rw [← HZ2.out]; exact c2))
 by_cases c3 : v3 = 0
 rotate_left
 ·have q3 : (v3 != 0) = true := bne_iff_ne.mpr c3
  have HC := Aside0.mk c3
  clear c0 c1 c2 c3
  go_wp2_with fail
  refine wp_goto ?_; change Q (.goto 0) _ _
  refine HG.out _ (y + 3) m t v3 HZ3.out HC.out (by omega) HR3.out ?_; refine ⟨_, rfl, ?_⟩; exact ⟨rfl, rfl, rfl, rfl, rfl, rfl, rfl, rfl, rfl⟩
 have q3 : (v3 != 0) = false := bne_eq_false_iff_eq.mpr c3
 have HR4 := Aside0.mk (show Rem s E (y + 4) d by rw [show y + 4 = y + 3 + 1 by omega]; exact HR3.out.zero_inv (by rw [← HZ3.out]; exact c3))
 by_cases c4 : v4 = 0
 rotate_left
 ·have q4 : (v4 != 0) = true := bne_iff_ne.mpr c4
  have HC := Aside0.mk c4
  clear c0 c1 c2 c3 c4
  go_wp2_with fail
  refine wp_goto ?_; change Q (.goto 0) _ _
  refine HG.out _ (y + 4) m t v4 HZ4.out HC.out (by omega) HR4.out ?_; refine ⟨_, rfl, ?_⟩; exact ⟨rfl, rfl, rfl, rfl, rfl, rfl, rfl, rfl, rfl⟩
 have q4 : (v4 != 0) = false := bne_eq_false_iff_eq.mpr c4
 have HR5 := Aside0.mk (show Rem s E (y + 5) d by rw [show y + 5 = y + 4 + 1 by omega]; exact HR4.out.zero_inv (by rw [← HZ4.out]; exact c4))
 by_cases c5 : v5 = 0
 rotate_left
 ·have q5 : (v5 != 0) = true := bne_iff_ne.mpr c5
  have HC := Aside0.mk c5
  clear c0 c1 c2 c3 c4 c5
  go_wp2_with fail
  refine wp_goto ?_; change Q (.goto 0) _ _
  refine HG.out _ (y + 5) m t v5 HZ5.out HC.out (by omega) HR5.out ?_; refine ⟨_, rfl, ?_⟩; exact ⟨rfl, rfl, rfl, rfl, rfl, rfl, rfl, rfl, rfl⟩
 have q5 : (v5 != 0) = false := bne_eq_false_iff_eq.mpr c5
 have HR6 := Aside0.mk (show Rem s E (y + 6) d by rw [show y + 6 = y + 5 + 1 by omega]; exact HR5.out.zero_inv (by rw [← HZ5.out]; exact c5))
 by_cases c6 : v6 = 0
 rotate_left
 ·have q6 : (v6 != 0) = true := bne_iff_ne.mpr c6
  have HC := Aside0.mk c6
  clear c0 c1 c2 c3 c4 c5 c6
  go_wp2_with fail
  refine wp_goto ?_; change Q (.goto 0) _ _
  refine HG.out _ (y + 6) m t v6 HZ6.out HC.out (by omega) HR6.out ?_; refine ⟨_, rfl, ?_⟩; exact ⟨rfl, rfl, rfl, rfl, rfl, rfl, rfl, rfl, rfl⟩
 have q6 : (v6 != 0) = false := bne_eq_false_iff_eq.mpr c6
 have HR7 := Aside0.mk (show Rem s E (y + 7) d by rw [show y + 7 = y + 6 + 1 by omega]; exact HR6.out.zero_inv (by rw [← HZ6.out]; exact c6))
 by_cases c7 : v7 = 0
 rotate_left
 ·have q7 : (v7 != 0) = true := bne_iff_ne.mpr c7
  have HC := Aside0.mk c7
  clear c0 c1 c2 c3 c4 c5 c6 c7
  go_wp2_with fail
  refine wp_goto ?_; change Q (.goto 0) _ _
  refine HG.out _ (y + 7) m t v7 HZ7.out HC.out (by omega) HR7.out ?_; refine ⟨_, rfl, ?_⟩; exact ⟨rfl, rfl, rfl, rfl, rfl, rfl, rfl, rfl, rfl⟩
 have q7 : (v7 != 0) = false := bne_eq_false_iff_eq.mpr c7
 have HR8 := Aside0.mk (show Rem s E (y + 8) d by rw [show y + 8 = y + 7 + 1 by omega]; exact HR7.out.zero_inv (by rw [← HZ7.out]; exact c7))
 clear c0 c1 c2 c3 c4 c5 c6 c7
 go_wp2_with fail
 apply HK.out; refine Handed.intro (gk - 8) (by have := HR8.out.lt; omega) (HJ.out _ _ _ ⟨y + 8, m, t, .int .u8 v7, by omega, by have := HR8.out.lt; omega, HR8.out, rfl, ?_⟩); refine ⟨_, rfl, ?_⟩; exact ⟨rfl, rfl, rfl, rfl, rfl, rfl, rfl, rfl, rfl⟩
set_option maxHeartbeats 8000000
set_option maxRecDepth 8192
def PqPost (s : ByteArray) (p E : Int) (w : World) (e : Ending) (w' : World) : Prop := e = .returned (.tuple #[.int .i64 E, .string (s.extract p.toNat E.toNat)]) ∧ Below w.heap.size w w'
theorem r33_wp (s : ByteArray) (hz : s.size ≤ 274877906944) (x : Int) (h0 : 0 ≤ x) (hx : x < s.size) (p dv z : Value) (w : World) (hV : VT w) (Q : Exit → Act → World → Prop)
  (hN : ∀ b m t v, v = vch (bt s x) → SqF s (.int .i64 x) p dv (.int .u8 v) z m t b → Q .normal b w) : ∀ b m t c, SqF s (.int .i64 x) p dv c z m t b → r33.wp Tryz.prog Q b w := by
 intro b m t c hb
 obtain ⟨f, rfl⟩ := hb.open
 clear hb
 have HN := Aside0.mk hN
 obtain ⟨y, hy⟩ : ∃ y, y = bt s x := ⟨_, rfl⟩
 have hb0 : ∀ h : x.toNat < s.size, ((s[x.toNat]'h).toNat : Int) = y := fun h => by rw [hy]; exact bt_at s x h
 have hr : 0 ≤ y ∧ y ≤ 255 := by rw [hy]; exact bt_range s _
 obtain ⟨v, hv⟩ : ∃ v, v = vch y := ⟨_, rfl⟩
 have hc : w.cell? ⟨0, y.toNat, none⟩ = some (.int .u8 v) := by rw [hv]; have := hV y.toNat (by omega); rwa [show ((y.toNat : Nat) : Int) = y by omega] at this
 have HZ := Aside0.mk (show v = vch (bt s x) by rw [hv, hy])
 clear hN hy hv hV
 simp only [r33, sq0, sqA, Tryz.f88, tl, hd1, unbk, unlp, unsc, findLabel, Nat.reduceBEq, Bool.false_eq_true, ↓reduceIte, Option.getD_some, beq_self_eq_true]
 go_wp2_with fail
 refine HN.out _ m t v HZ.out ?_; refine ⟨_, rfl, ?_⟩; exact ⟨rfl, rfl, rfl, rfl, rfl, rfl, rfl, rfl, rfl⟩
theorem r34_wp (s : ByteArray) (hz : s.size ≤ 274877906944) (x : Int) (h0 : 0 ≤ x) (hx : x < s.size) (p dv z : Value) (v : Int) (w : World) (Q : Exit → Act → World → Prop)
  (hN : ∀ b m t, v ≠ 0 → SqF s (.int .i64 x) p dv (.int .u8 v) z m t b → Q .normal b w) (hX : ∀ b m t, v = 0 → SqF s (.int .i64 (x + 1)) p dv (.int .u8 v) z m t b → Q (.exit 1) b w) : ∀ b m t, SqF s (.int .i64 x) p dv (.int .u8 v) z m t b → r34.wp Tryz.prog Q b w := by
 intro b m t hb
 obtain ⟨f, rfl⟩ := hb.open
 clear hb
 have HN := Aside0.mk hN
 have HX := Aside0.mk hX
 clear hN hX
 by_cases v0 : v = 0
 rotate_left
 ·have q0 : (v == 0) = false := beq_eq_false_iff_ne.mpr v0
  have HV := Aside0.mk v0
  clear v0
  simp only [r34, sq0, sqA, Tryz.f88, tl, hd1, unbk, unlp, unsc, findLabel, Nat.reduceBEq, Bool.false_eq_true, ↓reduceIte, Option.getD_some, beq_self_eq_true]
  go_wp2_with fail
  refine HN.out _ m t HV.out ?_; refine ⟨_, rfl, ?_⟩; exact ⟨rfl, rfl, rfl, rfl, rfl, rfl, rfl, rfl, rfl⟩
 have q0 : (v == 0) = true := beq_iff_eq.mpr v0
 have HV := Aside0.mk v0
 clear v0
 simp only [r34, sq0, sqA, Tryz.f88, tl, hd1, unbk, unlp, unsc, findLabel, Nat.reduceBEq, Bool.false_eq_true, ↓reduceIte, Option.getD_some, beq_self_eq_true]
 go_wp2_with fail
 refine HX.out _ m t HV.out ?_; refine ⟨_, rfl, ?_⟩; exact ⟨rfl, rfl, rfl, rfl, rfl, rfl, rfl, rfl, rfl⟩
theorem r76_wp (s : ByteArray) (hz : s.size ≤ 274877906944) (x : Int) (h0 : 0 ≤ x) (hx : x < s.size) (p dv c z : Value) (w : World) (Q : Exit → Act → World → Prop)
  (hN : ∀ b m t, SqF s (.int .i64 (x + 1)) p dv c z m t b → Q .normal b w) : ∀ b m t, SqF s (.int .i64 x) p dv c z m t b → r76.wp Tryz.prog Q b w := by
 intro b m t hb
 obtain ⟨f, rfl⟩ := hb.open
 clear hb
 have HN := Aside0.mk hN
 clear hN
 simp only [r76, r0, sq0, sqA, Tryz.f88, tl, hd1, unbk, unlp, unsc, findLabel, Nat.reduceBEq, Bool.false_eq_true, ↓reduceIte, Option.getD_some, beq_self_eq_true]
 go_wp2_with fail
 apply HN.out; refine ⟨_, rfl, ?_⟩; exact ⟨rfl, rfl, rfl, rfl, rfl, rfl, rfl, rfl, rfl⟩
theorem rEl_wp (s : ByteArray) (hz : s.size ≤ 274877906944) (x p0 d : Int) (h0 : 0 ≤ p0) (hp : p0 ≤ x) (hx : x < s.size) (hd : 1 ≤ d ∧ d ≤ x) (v : Int) (hv : v = 3 ∨ v = 1) (z : Value) (w w0 : World) (hw : Below w0.heap.size w0 w) (Q : Exit → Act → World → Prop)
  (hN : ∀ b m t, ¬ d + (v - 2) = 0 → SqF s (.int .i64 x) (.int .i64 p0) (.int .i64 (d + (v - 2))) (.int .u8 v) z m t b → Q .normal b w)
  (hT : d + (v - 2) = 0 → ∀ a w', bodyPost Tryz.prog Tryz.f88 (PqPost s p0 (x + 1) w0) .ret a w' → Q .ret a w') : ∀ b m t, SqF s (.int .i64 x) (.int .i64 p0) (.int .i64 d) (.int .u8 v) z m t b → rEl.wp Tryz.prog Q b w := by
 intro b m t hb
 obtain ⟨f, rfl⟩ := hb.open
 clear hb
 have HN := Aside0.mk hN
 have HT := Aside0.mk hT
 have HW := Aside0.mk hw
 clear hN hT hw
 have w1 : wrap64 (d + (v - 2)) = d + (v - 2) := w64 (by omega) (by omega)
 have w2 : wrap64 (v - 2) = v - 2 := w64 (by omega) (by omega)
 have w3 : wrap64 v = v := w64 (by omega) (by omega)
 by_cases e0 : d + (v - 2) = 0
 rotate_left
 ·have q0 : (d + (v - 2) == 0) = false := beq_eq_false_iff_ne.mpr e0
  have HV := Aside0.mk e0
  clear e0
  simp only [rEl, els, r0, sq0, sqA, Tryz.f88, tl, hd1, unbk, unlp, unsc, findLabel, Nat.reduceBEq, Bool.false_eq_true, ↓reduceIte, Option.getD_some, beq_self_eq_true]
  go_wp2_with fail
  refine HN.out _ m t HV.out ?_; refine ⟨_, rfl, ?_⟩; exact ⟨rfl, rfl, rfl, rfl, rfl, rfl, rfl, rfl, rfl⟩
 have q0 : (d + (v - 2) == 0) = true := beq_iff_eq.mpr e0
 have HV := Aside0.mk e0
 clear e0
 have hle : x + 1 ≤ s.size := by omega
 have hp1 : 0 ≤ x + 1 := by omega
 have hp2 : p0 ≤ x + 1 := by omega
 simp only [rEl, els, r0, sq0, sqA, Tryz.f88, tl, hd1, unbk, unlp, unsc, findLabel, Nat.reduceBEq, Bool.false_eq_true, ↓reduceIte, Option.getD_some, beq_self_eq_true]
 go_wp2_with fail
 go_quiet (fail)
 go_wp2_with fail
 refine HT.out HV.out _ _ ?_
 go_ret2
 exact ⟨rfl, pw_below_drewN HW.out _⟩
set_option maxHeartbeats 8000000
set_option maxRecDepth 8192
theorem r36_wp (s : ByteArray) (x p0 d : Int) (v : Int) (hv : 0 ≤ v ∧ v ≤ 3) (z : Value) (w : World) (Q : Exit → Act → World → Prop)
  (hB : v = 2 → ∀ b m t, SqF s (.int .i64 x) (.int .i64 p0) (.int .i64 d) (.int .u8 v) z m t b → (Code.scope sqB).wp Tryz.prog Q b w)
  (hE : v ≠ 2 → ∀ b m t, SqF s (.int .i64 x) (.int .i64 p0) (.int .i64 d) (.int .u8 v) z m t b → rEl.wp Tryz.prog Q b w) : ∀ b m t, SqF s (.int .i64 x) (.int .i64 p0) (.int .i64 d) (.int .u8 v) z m t b → (Code.seq r36 (.cond (.tmp 107) (.scope sqB) rEl)).wp Tryz.prog Q b w := by
 intro b m t hb
 obtain ⟨f, rfl⟩ := hb.open
 clear hb
 have HB := Aside0.mk hB
 have HE := Aside0.mk hE
 clear hB hE
 generalize (Code.scope sqB) = B at *
 generalize rEl = E at *
 by_cases v2 : v = 2
 rotate_left
 ·have q0 : (v == 2) = false := beq_eq_false_iff_ne.mpr v2
  have HV := Aside0.mk v2
  clear v2
  simp only [r36, r0, sq0, sqA, Tryz.f88, tl, hd1, unbk, unlp, unsc, findLabel, Nat.reduceBEq, Bool.false_eq_true, ↓reduceIte, Option.getD_some, beq_self_eq_true]
  go_wp2_with fail
  refine HE.out HV.out _ m t ?_; refine ⟨_, rfl, ?_⟩; exact ⟨rfl, rfl, rfl, rfl, rfl, rfl, rfl, rfl, rfl⟩
 have q0 : (v == 2) = true := beq_iff_eq.mpr v2
 have HV := Aside0.mk v2
 clear v2
 simp only [r36, r0, sq0, sqA, Tryz.f88, tl, hd1, unbk, unlp, unsc, findLabel, Nat.reduceBEq, Bool.false_eq_true, ↓reduceIte, Option.getD_some, beq_self_eq_true]
 go_wp2_with fail
 refine HB.out HV.out _ m t ?_; refine ⟨_, rfl, ?_⟩; exact ⟨rfl, rfl, rfl, rfl, rfl, rfl, rfl, rfl, rfl⟩
def Nx (s : ByteArray) (p0 E x : Int) (b : Act) : Prop := ∃ (y d' : Int) (z c m t : Value), x < y ∧ (1 ≤ d' ∧ d' ≤ y) ∧ Rem s E y d' ∧ SqF s (.int .i64 y) (.int .i64 p0) (.int .i64 d') c z m t b
theorem r0_wp (s : ByteArray) (hz : s.size ≤ 274877906944) (p0 E d x : Int) (hE : E ≤ s.size) (h0 : 0 ≤ p0) (hpx : p0 ≤ x) (hR : Rem s E x d) (hd : 1 ≤ d ∧ d ≤ x) (v : Int) (hv : v = vch (bt s x)) (hv0 : v ≠ 0) (z : Value) (w w0 : World) (hw : Below w0.heap.size w0 w) (Q : Exit → Act → World → Prop)
  (hN : ∀ b, Nx s p0 E x b → Q .normal b w) (hX : ∀ b, Nx s p0 E x b → Q (.exit 1) b w) (hT : ∀ a w', bodyPost Tryz.prog Tryz.f88 (PqPost s p0 E w0) .ret a w' → Q .ret a w') :
  ∀ b m t, SqF s (.int .i64 x) (.int .i64 p0) (.int .i64 d) (.int .u8 v) z m t b → r0.wp Tryz.prog Q b w := by
 intro b m t hb
 have hxE := hR.lt
 rw [r0_eq]
 cases hR with
 | zero _ _ h1 h2 => omega
 | str _ j _ h1 h2 =>
  have hQ := str_quo h1
  obtain ⟨k0, k34, j', rfl, k1, k2, k3, _⟩ := h1
  rw [show j' + 1 - 1 = j' by omega] at hQ
  rw [k34] at hv
  have hv2 : v = 2 := hv
  refine wp_seq_k (fun K hK => r36_wp s x p0 d v (by omega) z w _ (fun _ b m t hF => ?_) (fun q => absurd hv2 q) b m t hb)
  refine sqB_wp s hz x j' k0 k1 (by omega) k3 hQ _ _ _ z w (Exit.then K Q) (fun b z m t hF => hK _ _ ?_) (fun b z m t hF => hX _ ⟨j' + 1, d, z, _, m, t, by omega, by omega, h2, hF⟩) b m t hF
  exact r76_wp s hz j' (by omega) (by omega) _ _ _ z w _ (fun b m t hF => hN _ ⟨j' + 1, d, z, _, m, t, by omega, by omega, h2, hF⟩) b m t hF
 | opn _ _ h1 h2 =>
  have hv3 : v = 3 := by omega
  refine wp_seq_k (fun K hK => r36_wp s x p0 d v (by omega) z w _ (fun q => by omega) (fun _ b m t hF => ?_) b m t hb)
  refine rEl_wp s hz x p0 d h0 hpx (by omega) hd v (.inl hv3) z w w0 hw _ (fun b m t _ hF => hK _ _ ?_) (fun q => by omega) b m t hF
  refine r76_wp s hz x (by omega) (by omega) _ _ _ z w _ (fun b m t hF => hN _ ⟨x + 1, d + 1, z, .int .u8 v, m, t, by omega, by omega, h2, ?_⟩) b m t hF
  rwa [show d + (v - 2) = d + 1 by omega] at hF
 | cls _ _ h1 h2 h3 =>
  have hv1 : v = 1 := by omega
  refine wp_seq_k (fun K hK => r36_wp s x p0 d v (by omega) z w _ (fun q => by omega) (fun _ b m t hF => ?_) b m t hb)
  refine rEl_wp s hz x p0 d h0 hpx (by omega) hd v (.inr hv1) z w w0 hw _ (fun b m t _ hF => hK _ _ ?_) (fun q => by omega) b m t hF
  refine r76_wp s hz x (by omega) (by omega) _ _ _ z w _ (fun b m t hF => hN _ ⟨x + 1, d - 1, z, .int .u8 v, m, t, by omega, by omega, h3, ?_⟩) b m t hF
  rwa [show d + (v - 2) = d - 1 by omega] at hF
 | fin _ h1 h2 =>
  subst h2
  have hv1 : v = 1 := by omega
  refine wp_seq_k (fun K hK => r36_wp s x p0 1 v (by omega) z w _ (fun q => by omega) (fun _ b m t hF => ?_) b m t hb)
  exact rEl_wp s hz x p0 1 h0 hpx (by omega) hd v (.inr hv1) z w w0 hw (Exit.then K Q) (fun b m t q => by omega) (fun _ => hT) b m t hF
theorem Nx.mono {s : ByteArray} {p0 E x x' : Int} {b : Act} (h : Nx s p0 E x b) (hx : x' ≤ x) : Nx s p0 E x' b := by
 obtain ⟨y, d', z, c, m, t, h1, h2⟩ := h
 exact ⟨y, d', z, c, m, t, by omega, h2⟩
theorem sqA_wp (s : ByteArray) (hz : s.size ≤ 274877906944) (p0 E d x : Int) (hE : E ≤ s.size) (h0 : 0 ≤ p0) (hpx : p0 ≤ x) (hR : Rem s E x d) (hd : 1 ≤ d ∧ d ≤ x) (z c : Value) (w w0 : World) (hV : VT w) (hw : Below w0.heap.size w0 w) (Q : Exit → Act → World → Prop)
  (hN : ∀ b, Nx s p0 E x b → Q .normal b w) (hX : ∀ b, Nx s p0 E x b → Q (.exit 1) b w) (hT : ∀ a w', bodyPost Tryz.prog Tryz.f88 (PqPost s p0 E w0) .ret a w' → Q .ret a w') :
  ∀ b m t, SqF s (.int .i64 x) (.int .i64 p0) (.int .i64 d) c z m t b → (Code.scope sqA).wp Tryz.prog Q b w := by
 intro b m t hb
 refine wp_scope_fwd (c := sqA) 1 ?_
 rw [sqA_eq]
 refine wp_seq_k (fun K hK => a2_wp s hz E d x hE (by omega) hR _ _ z w hV (Exit.then K (jumpQ Tryz.prog _ Q 1)) (fun b y m t c h1 h2 hF => hK _ _ ?_) (fun b y m t v h1 h2 h3 h4 hF => ?_) b m t c hb)
 rotate_left
 ·refine ⟨sq0, ?_, ?_⟩
  ·rw [← sqA_eq]; exact sq_0
  ·rw [sq0_eq]
   exact wp_seq (wp_skip (r0_wp s hz p0 E d y hE h0 (by omega) h4 (by omega) v h1 h2 z w w0 hw (jumpQ Tryz.prog _ Q 0) (fun b hb => hN b (hb.mono h3)) (fun b hb => hX b (hb.mono h3)) hT b m t hF))
 have hlt := h2.lt
 refine wp_seq_k (fun K hK => r33_wp s hz y (by omega) (by omega) _ _ z w hV _ (fun b m t v hv hF => hK _ _ ?_) b m t c hF)
 refine wp_seq_k (fun K hK => r34_wp s hz y (by omega) (by omega) _ _ z v w (Exit.then K (jumpQ Tryz.prog _ Q 1)) (fun b m t hv0 hF => hK _ _ (wp_seq (wp_label ?_))) (fun b m t hv0 hF => hX _ ⟨y + 1, d, z, _, m, t, by omega, by omega, h2.zero_inv (by omega), hF⟩) b m t hF)
 exact r0_wp s hz p0 E d y hE h0 (by omega) h2 (by omega) v hv hv0 z w w0 hw (jumpQ Tryz.prog _ Q 1) (fun b hb => hN b (hb.mono h1)) (fun b hb => hX b (hb.mono h1)) hT b m t hF
noncomputable def lp5 : Code := match Tryz.f88.body with
 | some c => hd1 (unlp (unbk (hd1 (tl (tl (tl (tl (tl c))))))))
 | none => .skip
theorem lp5_wp (s : ByteArray) (hz : s.size ≤ 274877906944) (x : Int) (hx : x < s.size) (p dv c z : Value) (w : World) (Q : Exit → Act → World → Prop)
  (hN : ∀ b m t, SqF s (.int .i64 x) p dv c z m t b → Q .normal b w) : ∀ b m t, SqF s (.int .i64 x) p dv c z m t b → lp5.wp Tryz.prog Q b w := by
 intro b m t hb
 obtain ⟨f, rfl⟩ := hb.open
 clear hb
 have HN := Aside0.mk hN
 clear hN
 simp only [lp5, Tryz.f88, tl, hd1, unbk, unlp]
 go_wp2_with fail
 apply HN.out; refine ⟨_, rfl, ?_⟩; exact ⟨rfl, rfl, rfl, rfl, rfl, rfl, rfl, rfl, rfl⟩
theorem squash_calls (s : ByteArray) (hz : s.size ≤ 274877906944) (p E : Int) (h0 : 0 ≤ p) (hE : E ≤ s.size) (hR : Rem s E (p + 1) 1) (w : World) (hV : VT w) :
  Calls Tryz.prog 88 #[.string s, .int .i64 p] w (PqPost s p E w) := by
 have HR := Aside0.mk hR
 have HV := Aside0.mk hV
 have hlt := hR.lt
 clear hR hV
 go_enter Tryz.func88, Tryz.ntmps88
 go_wp2_with fail
 refine wp_loop_ghost_k (c := .seq lp5 (.block 1 (.scope sqA))) (fun kq a' w' => ∃ (y d' : Int) (z c m t : Value), p < y ∧ (kq : Int) + y = E ∧ (1 ≤ d' ∧ d' ≤ y) ∧ Rem s E y d' ∧ w = w' ∧ SqF s (.int .i64 y) (.int .i64 p) (.int .i64 d') c z m t a') (E - (p + 1)).toNat ?_ ?_
 ·exact ⟨p + 1, 1, _, _, _, _, by omega, by omega, by omega, HR.out, rfl, (by refine ⟨_, rfl, ?_⟩; exact ⟨rfl, rfl, rfl, rfl, rfl, rfl, rfl, rfl, rfl⟩)⟩
 intro gk b' w' hI J K hJ hK
 obtain ⟨y, d', z, c, m, t, hy, hk, hd, hR, rfl, hF⟩ := hI
 have hlt := hR.lt
 refine wp_seq_k (fun K2 hK2 => lp5_wp s hz y (by omega) _ _ _ z w _ (fun b m t hF => hK2 _ _ (wp_block ?_)) b' m t hF)
 have hx : ∀ b, Nx s p E y b → K b w := by
  rintro b ⟨y', d2, z2, c2, m2, t2, q1, q2, q3, q4⟩
  have := q3.lt
  exact hK _ _ (Handed.intro (E - y').toNat (by omega) (hJ _ _ _ ⟨y', d2, z2, c2, m2, t2, by omega, by omega, q2, q3, rfl, q4⟩))
 refine sqA_wp s hz p E d' y hE h0 (by omega) hR hd z c w w HV.out (Below.refl _ _) _ ?_ ?_ ?_ b m t hF
 ·exact hx
 ·exact hx
 ·exact fun _ _ h => h
end Go.Proofs.YtgiioglmkogpkaaGreatDoor.F
namespace Go.Proofs.YtgiioglmkogpkaaGreatDoor.F
open Go.RowKit Go.Proofs.YtgiioglmkogpkaaGreatDoorW.PrintWords Go.Proofs.YtgiioglmkogpkaaGreatDoorW.PrintLast Go.Proofs.YtgiioglmkogpkaaGreatDoorW.PrintMore
open M L
set_option maxHeartbeats 4000000
set_option maxRecDepth 8192
def pv (t : ByteArray) : Nat → Int
 | 0 => 0
 | k + 1 => pv t k * 16 + L.hd t k
theorem pv4 (t : ByteArray) : pv t 4 = u4 t 0 := by
 simp only [pv, u4]
 simp
theorem pv_bd (t : ByteArray) (k : Nat) (h : k ≤ 4) : 0 ≤ pv t k ∧ pv t k ≤ 65535 := by
 have h0 := hd_range t 0
 have h1 := hd_range t 1
 have h2 := hd_range t 2
 have h3 := hd_range t 3
 have : k = 0 ∨ k = 1 ∨ k = 2 ∨ k = 3 ∨ k = 4 := by omega
 rcases this with rfl | rfl | rfl | rfl | rfl <;> simp only [pv] <;> simp <;> omega
theorem lower_id (x : Int) (h0 : 97 ≤ x) (h1 : x ≤ 102) : bits .or .u8 x 32 = x := by
 have : x = 97 ∨ x = 98 ∨ x = 99 ∨ x = 100 ∨ x = 101 ∨ x = 102 := by omega
 rcases this with rfl | rfl | rfl | rfl | rfl | rfl <;> rfl
theorem lower_up (x : Int) (h0 : 65 ≤ x) (h1 : x ≤ 70) : bits .or .u8 x 32 = x + 32 := by
 have : x = 65 ∨ x = 66 ∨ x = 67 ∨ x = 68 ∨ x = 69 ∨ x = 70 := by omega
 rcases this with rfl | rfl | rfl | rfl | rfl | rfl <;> rfl
theorem hexv_cases {x v : Int} (h : hexv x = some v) : (48 ≤ x ∧ x ≤ 57 ∧ v = x - 48) ∨ (97 ≤ x ∧ x ≤ 102 ∧ v = x - 87) ∨ (65 ≤ x ∧ x ≤ 70 ∧ v = x - 55) := by
 unfold hexv at h
 split at h
 ·simp at h; left; omega
 split at h
 ·simp at h; right; left; omega
 split at h
 ·simp at h; right; right; omega
 ·cases h
theorem pu16_calls (t : ByteArray) (w : World) (hs : t.size = 4) (hh : hex4 t 0) :
  Calls Tryz.prog 156 #[.string t, .int .i64 16, .int .i64 64] w fun e w' => e = .returned (.tuple #[.int .u64 (u4 t 0), .nilIface]) ∧ Below w.heap.size w w' := by
 have hne : t ≠ ByteArray.empty := by rintro rfl; simp at hs
 have HS := Aside0.mk hs
 clear hs
 have HH := Aside0.mk hh
 clear hh
 have he : t.toList.isEmpty = false := by
  have := HS.out
  rw [Bool.eq_false_iff]
  intro h
  rw [List.isEmpty_iff] at h
  have h2 := congrArg List.length h
  simp [ByteArray.toList_eq, this] at h2
 have hcv : ∀ W : World, (convert 9 103 (.string t)).run Tryz.prog W = .ok (.slice (some ⟨W.heap.size, 0, none⟩) 4 (grownCap W t.size 0 5)) (Lib.bytesWorld W 5 t) := fun W => by
  have := Lib.run_convert_string_bytes (P := Tryz.prog) W 9 103 5 t Tryz.underlying9 Tryz.underlying103 Tryz.underlying5
  rwa [HS.out] at this ⊢
 clear hne
 go_enter Tryz.func156, Tryz.ntmps156
 go_wp2_with fail
 have hB : Below w.heap.size w (Lib.bytesWorld w 5 t) := bytes_below (Below.refl _ _) (Nat.le_refl _) 5 t
 have HC : ∀ k : Nat, k < 4 → (Lib.bytesWorld w 5 t).cell? ⟨w.heap.size, k, none⟩ = some (.int .u8 (bt t k)) := fun k hk => by
  obtain ⟨ad, e1, e2⟩ := (bytes_reads w 5 t (by rw [HS.out]; omega)).2.2 (by rw [HS.out]; omega)
  obtain rfl := Option.some.inj e1
  have := e2 k (by rw [HS.out]; omega)
  rw [add_plain] at this
  rw [this]
  have h2 := rd_bytesOf t (k : Int)
  unfold rd at h2
  rw [Int.toNat_natCast] at h2
  rw [h2]
 have hM : 2000000 ≤ IntKind.u64.wrap (IntKind.u64.wrap 18446744073709551616 - 1) := by decide
 generalize IntKind.u64.wrap (IntKind.u64.wrap 18446744073709551616 - 1) = Mx at *
 generalize Lib.bytesWorld w 5 t = W at *
 have HCC := Aside0.mk HC
 have HBB := Aside0.mk hB
 clear HC hB hcv he
 go_loopg [6, 7, 12, 13, 15, 16, 17, 101] 4 (fun kq v6 v7 v12 v13 v15 v16 v17 v101 w' => ∃ k : Nat, kq + k = 4 ∧ v6 = .int .u64 0 ∧ v7 = .nilIface ∧ v12 = .bool false ∧ v13 = .int .u64 (pv t k) ∧ v101 = .int .i64 k ∧ W = w')
 case atStart => exact ⟨0, rfl, rfl, rfl, rfl, rfl, rfl, rfl⟩
 obtain ⟨k, hk, rfl, rfl, rfl, rfl, rfl, rfl⟩ := hrel
 by_cases hk4 : k < 4
 rotate_left
 ·have hk4' : ¬ (k : Int) < 4 := by omega
  have e4 := Aside0.mk (show pv t k = u4 t 0 by rw [show k = 4 by omega, pv4])
  go_wp2_with fail
  go_ret2
  exact ⟨congrArg (fun z => Ending.returned (.tuple #[.int .u64 z, .nilIface])) e4.out, HBB.out⟩
 have hx := hd_some (HH.out (k : Int) (by omega) (by omega))
 have hb := pv_bd t k (by omega)
 have hr := hd_range t (k : Int)
 have hc := HCC.out k hk4
 have hsucc : pv t (k + 1) = pv t k * 16 + L.hd t k := rfl
 have HSU := Aside0.mk hsucc
 clear hsucc
 have hx0 := bt_range t (k : Int)
 generalize L.hd t (k : Int) = v at *
 generalize bt t (k : Int) = x at *
 generalize pv t k = n at *
 have hk4' : (k : Int) < 4 := by omega
 have x95 : (x == 95) = false := beq_eq_false_iff_ne.mpr (fun q => by subst q; simp [hexv] at hx)
 rcases hexv_cases hx with ⟨h1, h2, h3⟩ | ⟨h1, h2, h3⟩ | ⟨h1, h2, h3⟩
 ·have x3 : decide (48 ≤ x) = true := decide_eq_true (by omega)
  have x4 : decide (x ≤ 57) = true := decide_eq_true (by omega)
  subst h3
  clear hx
  obtain ⟨hb0, hb1⟩ := hb
  obtain ⟨hx00, hx01⟩ := hx0
  clear hr
  go_wp2_with fail
  go_roundg (gk - 1)
  case measure => omega
  case rel => exact ⟨k + 1, by omega, rfl, rfl, rfl, by rw [HSU.out], rfl, rfl⟩
 rotate_left
 ·subst h3
  have hl : bits .or .u8 x 32 = x + 32 := lower_up x h1 h2
  have x3 : decide (48 ≤ x) = true := decide_eq_true (by omega)
  have x4 : decide (x ≤ 57) = false := decide_eq_false (by omega)
  clear hx
  obtain ⟨hb0, hb1⟩ := hb
  obtain ⟨hx00, hx01⟩ := hx0
  clear hr
  go_wp2_with (go_at_call 188; refine (Tryz.internal_strconv_lower _ _).mono ?_; rintro e w' ⟨rfl, hw2⟩; obtain rfl := hw2.symm)
  go_roundg (gk - 1)
  case measure => omega
  case rel => exact ⟨k + 1, by omega, rfl, rfl, rfl, by rw [HSU.out]; exact congrArg (Value.int .u64) (by omega), rfl, rfl⟩
 subst h3
 have hl : bits .or .u8 x 32 = x := lower_id x h1 h2
 have x3 : decide (48 ≤ x) = true := decide_eq_true (by omega)
 have x4 : decide (x ≤ 57) = false := decide_eq_false (by omega)
 clear hx
 obtain ⟨hb0, hb1⟩ := hb
 obtain ⟨hx00, hx01⟩ := hx0
 clear hr
 go_wp2_with (go_at_call 188; refine (Tryz.internal_strconv_lower _ _).mono ?_; rintro e w' ⟨rfl, hw2⟩; obtain rfl := hw2.symm)
 go_roundg (gk - 1)
 case measure => omega
 case rel => exact ⟨k + 1, by omega, rfl, rfl, rfl, by rw [HSU.out]; exact congrArg (Value.int .u64) (by omega), rfl, rfl⟩
theorem pub16_calls (t : ByteArray) (w : World) (hs : t.size = 4) (hh : hex4 t 0) :
  Calls Tryz.prog 129 #[.string t, .int .i64 16, .int .i64 64] w fun e w' => e = .returned (.tuple #[.int .u64 (u4 t 0), .nilIface]) ∧ Below w.heap.size w w' := by
 have HC := Aside0.mk (pu16_calls t w hs hh)
 clear hs hh
 go_enter Tryz.func129, Tryz.ntmps129
 go_wp2_with fail
 refine HC.out.mono ?_
 rintro e w' ⟨rfl, hb⟩
 go_wp2_with fail
 go_ret2
 exact ⟨rfl, hb⟩
theorem runeit_calls (t : ByteArray) (w : World) (hs : 4 ≤ t.size) (hz : t.size ≤ 65536) (hh : hex4 t 0) :
  Calls Tryz.prog 93 #[.string t] w fun e w' => e = .returned (.int .i32 (u4 t 0)) ∧ Below w.heap.size w w' := by
 have hs4 : (t.extract 0 4).size = 4 := by rw [ByteArray.size_extract]; omega
 have hb : ∀ i : Int, 0 ≤ i → i < 4 → bt (t.extract 0 4) i = bt t i := fun i a b => by
  have := bt_extract t 0 4 i a (by omega) (by omega)
  rwa [show ((0 : Nat) : Int) + i = i by omega] at this
 have hh' : hex4 (t.extract 0 4) 0 := fun i a b => by rw [hb i a (by omega)]; exact hh i a b
 have hu : u4 (t.extract 0 4) 0 = u4 t 0 := by
  unfold u4 L.hd
  rw [hb 0 (by omega) (by omega), hb (0 + 1) (by omega) (by omega), hb (0 + 2) (by omega) (by omega), hb (0 + 3) (by omega) (by omega)]
 have hr := u4_range t 0
 have HC := Aside0.mk (pub16_calls (t.extract 0 4) w hs4 hh')
 rw [hu] at HC
 clear hs4 hh' hu hb hh
 have h4 : 4 ≤ (t.size : Int) := by omega
 generalize u4 t 0 = n at *
 have hw32 : IntKind.i32.wrap n = n := by simp only [IntKind.wrap, IntKind.bits, IntKind.signed]; simp; omega
 go_enter Tryz.func93, Tryz.ntmps93
 go_wp2_with fail
 refine HC.out.mono ?_
 rintro e w' ⟨rfl, hb⟩
 go_wp2_with fail
 go_ret
 exact ⟨by first | rfl | rw [hw32], hb⟩
set_option maxHeartbeats 4000000
set_option maxRecDepth 8192
theorem isSurr_yes (r : Int) (w : World) (h : isHigh r ∨ isLow r) : Calls Tryz.prog 94 #[.int .i32 r] w fun e w' => e = .returned (.bool true) ∧ w = w' := by
 have h1 : 55296 ≤ r := by unfold isHigh isLow at h; omega
 have h2 : r < 57344 := by unfold isHigh isLow at h; omega
 clear h
 go_enter Tryz.func94, Tryz.ntmps94
 go_wp2_with fail
 go_ret
 exact ⟨rfl, rfl⟩
theorem isSurr_no (r : Int) (w : World) (h : ¬ isHigh r) (h' : ¬ isLow r) : Calls Tryz.prog 94 #[.int .i32 r] w fun e w' => e = .returned (.bool false) ∧ w = w' := by
 by_cases h1 : 55296 ≤ r
 rotate_left
 ·clear h h'
  go_enter Tryz.func94, Tryz.ntmps94
  go_wp2_with fail
  go_ret
  exact ⟨rfl, rfl⟩
 have h2 : ¬ r < 57344 := by unfold isHigh at h; unfold isLow at h'; omega
 clear h h'
 go_enter Tryz.func94, Tryz.ntmps94
 go_wp2_with fail
 go_ret
 exact ⟨rfl, rfl⟩
theorem i32_or10 (x y : Int) (hx₀ : 0 ≤ x) (hx : x % 1024 = 0) (hx₁ : x < 2147483648) (h₀ : 0 ≤ y) (h₁ : y < 1024) : bits .or .i32 x y = x + y :=
 bits_join .i32 31 (by decide) wraps_i32 10 x y hx₀ hx hx₁ h₀ h₁ (by omega)
theorem decRune_calls (r1 r2 : Int) (w : World) (h1 : isHigh r1) (h2 : isLow r2) : Calls Tryz.prog 95 #[.int .i32 r1, .int .i32 r2] w fun e w' => e = .returned (.int .i32 (65536 + (r1 - 55296) * 1024 + (r2 - 56320))) ∧ w = w' := by
 obtain ⟨a, b⟩ := h1
 obtain ⟨c, d⟩ := h2
 have hb : bits .or .i32 ((r1 - 55296) * 1024) (r2 - 56320) = (r1 - 55296) * 1024 + (r2 - 56320) := i32_or10 _ _ (by omega) (by omega) (by omega) (by omega) (by omega)
 go_enter Tryz.func95, Tryz.ntmps95
 go_wp2_with fail
 go_ret
 exact ⟨congrArg (fun z => Ending.returned (.int .i32 z)) (by omega), rfl⟩
def wrL (w : World) (g : Nat) : Nat → List Int → World
 | _, [] => w
 | o, b :: r => wrL (w.setCell ⟨g, o, none⟩ (.int .u8 b)) g (o + 1) r
theorem encNA_calls (r : Int) (g off len cap : Nat) (w : World) (h0 : 128 ≤ r) (h1 : r ≤ 1114111) (h2 : ¬ isHigh r ∧ ¬ isLow r) (hl : 4 ≤ len)
  (c0 : w.cell? ⟨g, off, none⟩ = some (.int .u8 0)) (c1 : w.cell? ⟨g, off + 1, none⟩ = some (.int .u8 0)) (c2 : w.cell? ⟨g, off + 2, none⟩ = some (.int .u8 0)) (c3 : w.cell? ⟨g, off + 3, none⟩ = some (.int .u8 0)) (hf : ∀ i, w.frozen? ⟨g, i, none⟩ = false) :
  Calls Tryz.prog 130 #[.slice (some ⟨g, off, none⟩) len cap, .int .i32 r] w fun e w' => e = .returned (.int .i64 (enc r).length) ∧ w' = wrL w g off (enc r) := by
 have f0 := hf off
 have f1 := hf (off + 1)
 have f2 := hf (off + 2)
 have f3 := hf (off + 3)
 clear hf
 have hl1 : (1 : Int) < len := by omega
 have hl2 : (2 : Int) < len := by omega
 have hl3 : (3 : Int) < len := by omega
 have hl0 : (0 : Int) < len := by omega
 by_cases k2 : r ≤ 2047
 ·have e : enc r = [192 + r / 64, 128 + r % 64] := by unfold enc; rw [if_neg (by omega), if_pos (by omega)]
  have E := Aside0.mk e
  clear e
  go_enter Tryz.func130, Tryz.ntmps130
  go_wp2_with fail
  go_ret
  rw [E.out]
  exact ⟨rfl, rfl⟩
 by_cases k3 : r ≤ 65535
 rotate_left
 ·have e : enc r = [240 + r / 262144, 128 + r / 4096 % 64, 128 + r / 64 % 64, 128 + r % 64] := by unfold enc; rw [if_neg (by omega), if_neg (by omega), if_neg (by intro q; exact q.elim h2.1 h2.2), if_neg (by omega)]
  have E := Aside0.mk e
  clear e h2
  go_enter Tryz.func130, Tryz.ntmps130
  go_wp2_with fail
  go_ret
  rw [E.out]
  exact ⟨rfl, rfl⟩
 have e : enc r = [224 + r / 4096, 128 + r / 64 % 64, 128 + r % 64] := by unfold enc; rw [if_neg (by omega), if_neg (by omega), if_neg (by intro q; exact q.elim h2.1 h2.2), if_pos (by omega)]
 have E := Aside0.mk e
 have hs : r < 55296 ∨ 57343 < r := by have a := h2.1; have b := h2.2; unfold isHigh at a; unfold isLow at b; omega
 clear e h2
 rcases hs with hs | hs
 rotate_left
 ·go_enter Tryz.func130, Tryz.ntmps130
  go_wp2_with fail
  go_ret
  rw [E.out]
  exact ⟨rfl, rfl⟩
 go_enter Tryz.func130, Tryz.ntmps130
 go_wp2_with fail
 go_ret
 rw [E.out]
 exact ⟨rfl, rfl⟩
theorem enc_calls (r : Int) (g off len cap : Nat) (w : World) (h0 : 0 ≤ r) (h1 : r ≤ 1114111) (h2 : ¬ isHigh r ∧ ¬ isLow r) (hl : 4 ≤ len)
  (c0 : w.cell? ⟨g, off, none⟩ = some (.int .u8 0)) (c1 : w.cell? ⟨g, off + 1, none⟩ = some (.int .u8 0)) (c2 : w.cell? ⟨g, off + 2, none⟩ = some (.int .u8 0)) (c3 : w.cell? ⟨g, off + 3, none⟩ = some (.int .u8 0)) (hf : ∀ i, w.frozen? ⟨g, i, none⟩ = false) :
  Calls Tryz.prog 96 #[.slice (some ⟨g, off, none⟩) len cap, .int .i32 r] w fun e w' => e = .returned (.int .i64 (enc r).length) ∧ w' = wrL w g off (enc r) := by
 by_cases k1 : r ≤ 127
 ·have e : enc r = [r] := by unfold enc; rw [if_pos (by omega)]
  have E := Aside0.mk e
  have f0 := hf off
  have hl0 : (0 : Int) < len := by omega
  clear e h2 hf
  go_enter Tryz.func96, Tryz.ntmps96
  go_wp2_with fail
  go_ret
  rw [E.out]
  exact ⟨rfl, rfl⟩
 have HC := Aside0.mk (encNA_calls r g off len cap w (by omega) h1 h2 hl c0 c1 c2 c3 hf)
 clear h2 hf c0 c1 c2 c3
 go_enter Tryz.func96, Tryz.ntmps96
 go_wp2_with fail
 refine HC.out.mono ?_
 rintro e w' ⟨rfl, hw⟩
 have HW := Aside0.mk hw
 clear hw
 go_wp2_with fail
 go_ret
 exact ⟨rfl, HW.out⟩
set_option maxHeartbeats 8000000
set_option maxRecDepth 8192
def putL (xs : List Int) : Nat → List Int → List Int
 | _, [] => xs
 | k, b :: r => putL (xs.set k b) (k + 1) r
theorem putL_take (l : List Int) : ∀ (xs : List Int) (k : Nat), k + l.length ≤ xs.length → (putL xs k l).take (k + l.length) = xs.take k ++ l := by
 induction l with
 | nil => intro xs k h; simp [putL]
 | cons b r ih =>
  intro xs k h
  simp only [List.length_cons] at h
  simp only [putL, List.length_cons]
  rw [show k + (r.length + 1) = k + 1 + r.length by omega, ih (xs.set k b) (k + 1) (by simp; omega)]
  rw [List.take_succ_eq_append_getElem (by simp; omega)]
  simp
  rw [List.take_set_of_le (Nat.le_refl _)]
section
variable {w : World} {base g m cap : Nat}
theorem own_wr (l : List Int) : ∀ {w : World} {xs : List Int} (k : Nat), w.ownsRow base 5 1 (.slice (some ⟨g, 0, none⟩) m cap) m (nums .u8 xs) → (wrL w g k l).ownsRow base 5 1 (.slice (some ⟨g, 0, none⟩) m cap) m (nums .u8 (putL xs k l)) := by
 induction l with
 | nil => intro w xs k h; exact h
 | cons b r ih =>
  intro w xs k h
  simp only [wrL, putL]
  refine ih (k + 1) ?_
  have := (own_store h (k : Int) b).1
  rwa [Int.toNat_natCast] at this
theorem below_wr (l : List Int) : ∀ {w0 w : World} (k : Nat), Below w0.heap.size w0 w → w0.heap.size ≤ g → Below w0.heap.size w0 (wrL w g k l) := by
 induction l with
 | nil => intro w0 w k h _; exact h
 | cons b r ih => intro w0 w k h hg; exact ih (k + 1) (below_set h hg) hg
theorem own_take {e : TypeId} {xs : List Int} {n : Nat} (h : w.ownsRow base e 1 (.slice (some ⟨g, 0, none⟩) n cap) n (nums .u8 xs)) (j : Nat) (hj : j ≤ n) : w.ownsRow base e 1 (.slice (some ⟨g, 0, none⟩) j cap) j (nums .u8 (xs.take j)) := by
 obtain ⟨h1, h2⟩ := h
 refine ⟨by simp [nums] at h1 ⊢; omega, ?_⟩
 rcases h2 with ⟨h2, _⟩ | ⟨g', cap', cur, h3, h4, h5, h6, h7, h8, h9⟩
 ·cases h2
 simp only [Value.slice.injEq, Option.some.injEq, Addr.mk.injEq, true_and, and_true] at h3
 obtain ⟨rfl, rfl⟩ := h3
 refine .inr ⟨g, cap, cur, rfl, h4, h5, by omega, h7, h8, ?_⟩
 have := congrArg (List.take j) h9
 rw [List.take_take] at this
 rw [show min j (n * 1) = j * 1 by omega] at this
 rw [this]
 simp [nums, List.map_take]
theorem own_block {e : TypeId} {xs : List Value} {n : Nat} (h : w.ownsRow base e 1 (.slice (some ⟨g, 0, none⟩) n cap) n xs) : base ≤ g ∧ n ≤ cap ∧ ∀ i, w.frozen? ⟨g, i, none⟩ = false := by
 obtain ⟨h1, h2⟩ := h
 rcases h2 with ⟨h2, _⟩ | ⟨g', cap', cur, h3, h4, h5, h6, h7, h8, h9⟩
 ·cases h2
 simp only [Value.slice.injEq, Option.some.injEq, Addr.mk.injEq, true_and, and_true] at h3
 obtain ⟨rfl, rfl⟩ := h3
 exact ⟨h4, h6, fun i => blk_frozen h5 i⟩
end
theorem zeros_cell {w : World} {base g cap : Nat} {pre : List Int} {n : Nat} (hn : pre.length = n) (h : w.ownsRow base 5 1 (.slice (some ⟨g, 0, none⟩) (n + 8) cap) (n + 8) (nums .u8 (pre ++ [0, 0, 0, 0, 0, 0, 0, 0]))) (j : Nat) (hj : j < 8) : w.cell? ⟨g, n + j, none⟩ = some (.int .u8 0) := by
 have := (own_at h ((n + j : Nat) : Int) (by omega) (by omega)).1
 rw [Int.toNat_natCast] at this
 rw [this]
 unfold rd
 rw [Int.toNat_natCast, List.getD_eq_getElem?_getD, List.getElem?_append_right (by omega)]
 have : n + j - pre.length = j := by omega
 rw [this]
 have hj' : j = 0 ∨ j = 1 ∨ j = 2 ∨ j = 3 ∨ j = 4 ∨ j = 5 ∨ j = 6 ∨ j = 7 := by omega
 rcases hj' with rfl | rfl | rfl | rfl | rfl | rfl | rfl | rfl <;> rfl
theorem runeit_at (s : ByteArray) (p q : Int) (hq : q = p + 2) (hz : s.size ≤ 65536) (h0 : 0 ≤ p) (h1 : p + 6 ≤ s.size) (h4 : hex4 s (p + 2)) :
  ∀ W, Calls Tryz.prog 93 #[.string (s.extract q.toNat s.size)] W fun e w' => e = .returned (.int .i32 (u4 s (p + 2))) ∧ Below W.heap.size W w' := by
 intro W
 subst hq
 have hb : ∀ x : Int, 0 ≤ x → x < 4 → bt (s.extract (p + 2).toNat s.size) x = bt s (p + 2 + x) := fun x a b => bt_extract' s _ _ x _ (by omega) a (by omega) (by omega)
 have e1 : u4 (s.extract (p + 2).toNat s.size) 0 = u4 s (p + 2) := by
  unfold u4 L.hd
  rw [hb 0 (by omega) (by omega), hb (0 + 1) (by omega) (by omega), hb (0 + 2) (by omega) (by omega), hb (0 + 3) (by omega) (by omega)]
  simp
 rw [← e1]
 exact runeit_calls _ W (by rw [ByteArray.size_extract]; omega) (by rw [ByteArray.size_extract]; omega) (fun x a b => by rw [hb x a (by omega)]; exact h4 _ (by omega) (by omega))
theorem own_below {w w2 : World} {base : Nat} {e : TypeId} {size : Nat} {v : Value} {n : Nat} {xs : List Value} (h : w.ownsRow base e size v n xs) (hb : Below w.heap.size w w2) : w2.ownsRow base e size v n xs := by
 obtain ⟨h1, h2⟩ := h
 refine ⟨h1, ?_⟩
 rcases h2 with h2 | ⟨g, cap, cur, h3, h4, h5, h6⟩
 ·exact .inl h2
 ·exact .inr ⟨g, cap, cur, h3, h4, (hb.block g (blk_lt h5)).trans h5, h6⟩
def z8 : List Int := [0, 0, 0, 0, 0, 0, 0, 0]
section
variable {ops : Array Oper} {rest : List Oper} {o : Oper} {a : Act} {Q : Exit → Act → World → Prop}
theorem zero_append {w0 : World} (W : World) (hgd : o.guard = none) (s x : Operand)
  (ho : o.op = .call { callee := .builtin .append, args := #[s, x], argTypes := #[103, 103] })
  (v : Value) (pre : List Int) (n : Nat) (hn : pre.length = n) (hs : a.eval s = v) (hx : a.eval x = .slice (some ⟨W.heap.size, 0, none⟩) 8 8)
  (HO : W.ownsRow w0.heap.size 5 1 v pre.length (nums .u8 pre)) (HB : Below w0.heap.size w0 W) (hl : n ≤ 100000)
  (h : ∀ g cap w1, w1.ownsRow w0.heap.size 5 1 (.slice (some ⟨g, 0, none⟩) (n + 8) cap) (n + 8) (nums .u8 (pre ++ z8)) → Below w0.heap.size w0 w1 → wpList Tryz.prog ops Q rest (a.put o.dst (.slice (some ⟨g, 0, none⟩) (n + 8) cap)) w1) :
  wpList Tryz.prog ops Q (o :: rest) a (W.alloc (.cells #[.int .u8 0, .int .u8 0, .int .u8 0, .int .u8 0, .int .u8 0, .int .u8 0, .int .u8 0, .int .u8 0] 5)) := by
 obtain ⟨i0, hi, hzz⟩ := Option.map_eq_some_iff.1 info5
 simp only [Prod.mk.injEq] at hzz
 obtain ⟨hz0, hz1, hz2⟩ := hzz
 subst hn
 refine wpList_append_own_at (W.alloc (.cells #[.int .u8 0, .int .u8 0, .int .u8 0, .int .u8 0, .int .u8 0, .int .u8 0, .int .u8 0, .int .u8 0] 5)) hgd s x 103 ho w0.heap.size 5 i0 (.int .u8 0) 1 1 Tryz.underlying103 hi hz0 hz1 hz2 rfl (by omega) v pre.length (nums .u8 pre) hs (HO.alloc _) ⟨W.heap.size, 0, none⟩ 8 8 (nums .u8 z8) hx rfl
  (World.news_of_block (cs := #[.int .u8 0, .int .u8 0, .int .u8 0, .int .u8 0, .int .u8 0, .int .u8 0, .int .u8 0, .int .u8 0]) (t := 5) (fr := (0, 0)) (heap_alloc_new W _)) (by intro u hu; simp [nums, z8] at hu; subst hu; rfl) (by simp only [maxLen]; omega) (by omega) (by have := HB.size; simp; omega) ?_
 intro v1 w1 hown hg _ hat
 have hown' : w1.ownsRow w0.heap.size 5 1 v1 (pre.length + 8) (nums .u8 (pre ++ z8)) := by
  have : nums .u8 (pre ++ z8) = nums .u8 pre ++ nums .u8 z8 := by simp [nums]
  rw [this]; exact hown
 obtain ⟨g, cap, rfl, _, _⟩ := hown'.form (by omega)
 exact h g cap w1 hown' ((HB.alloc HB.size _).grown hg (by have := HB.size; simp; omega) (own_base HO))
end
theorem size5 : (Tryz.prog.info? 5).map (·.size) = some 1 := by kernel_rfl
theorem cut8 (g n cap : Nat) (h : n + 8 ≤ cap) (W : World) : (Instr.slice 103 (.slice (some ⟨g, 0, none⟩) (n + 8) cap) (some (.int .i64 (n : Int))) none none).run Tryz.prog W = .ok (.slice (some ⟨g, n, none⟩) 8 (cap - n)) W := by
 obtain ⟨i, hi, hsz⟩ := Option.map_eq_some_iff.1 size5
 have hel : Tryz.prog.elem 103 = 5 := by simp [Program.elem, Tryz.underlying103]
 have hu : Tryz.prog.underlying 103 = some (.slice (Tryz.prog.elem 103)) := by rw [hel]; exact Tryz.underlying103
 rw [run_slice_l W 103 (some ⟨g, 0, none⟩) (n + 8) cap hu .i64 (n : Int) (Int.natCast_nonneg _) (by omega), hel]
 have hne : ¬ cap = n := by omega
 have ha : (⟨g, 0, none⟩ : Addr).add n = ⟨g, n, none⟩ := by rw [add_plain]
 simp [sizeOf, typeInfo, hi, hsz, sliced, Result.andThen, hne, ha]
theorem cutm (g n m cap : Nat) (h : n + m ≤ cap) (W : World) : (Instr.slice 103 (.slice (some ⟨g, 0, none⟩) (n + 8) cap) none (some (.int .i64 ((n : Int) + (m : Int)))) none).run Tryz.prog W = .ok (.slice (some ⟨g, 0, none⟩) (n + m) cap) W := by
 obtain ⟨i, hi, hsz⟩ := Option.map_eq_some_iff.1 size5
 have hel : Tryz.prog.elem 103 = 5 := by simp [Program.elem, Tryz.underlying103]
 have hu : Tryz.prog.underlying 103 = some (.slice (Tryz.prog.elem 103)) := by rw [hel]; exact Tryz.underlying103
 rw [run_slice_h W 103 (some ⟨g, 0, none⟩) (n + 8) cap hu .i64 ((n : Int) + m) (by omega) (by omega), hel]
 have ha : (⟨g, 0, none⟩ : Addr).add 0 = ⟨g, 0, none⟩ := rfl
 have e : ((n : Int) + (m : Int)).toNat = n + m := by omega
 simp [sizeOf, typeInfo, hi, hsz, sliced, Result.andThen, ha, e]
theorem own_enc {w1 : World} {base g n cap : Nat} {pre l : List Int} (hn : pre.length = n) (hl : l.length ≤ 8) (h : w1.ownsRow base 5 1 (.slice (some ⟨g, 0, none⟩) (n + 8) cap) (n + 8) (nums .u8 (pre ++ z8))) :
  (wrL w1 g n l).ownsRow base 5 1 (.slice (some ⟨g, 0, none⟩) (n + l.length) cap) (pre ++ l).length (nums .u8 (pre ++ l)) := by
 have h1 := own_take (own_wr l n h) (n + l.length) (by omega)
 rw [putL_take l (pre ++ z8) n (by simp [z8]; omega)] at h1
 have e : List.take n (pre ++ z8) = pre := by rw [← hn]; simp
 rw [e] at h1
 rw [List.length_append, hn]
 exact h1
def UnPost (o : List Int) (w : World) (e : Ending) (w' : World) : Prop := e = .returned (.string (strOfNums o)) ∧ Below w.heap.size w w'
theorem unescape_calls (s : ByteArray) (hz : s.size ≤ 65536) (hp : 0 < s.size) (o : List Int) (h : PDec s s.size 0 o) (hl : o.length ≤ 65536) (w : World) :
  Calls Tryz.prog 70 #[.string s] w (UnPost o w) := by
 have HP := Aside0.mk h
 have HL := Aside0.mk hl
 have hbt := bt_at s
 clear h hl
 have hown : ∀ v n (xs : List Int) W, W.ownsRow w.heap.size 5 1 v n (nums .u8 xs) → (convert 103 9 v).run Tryz.prog W = .ok (.string (strOfNums xs)) W := fun v n xs W H => own_string Tryz.underlying103 Tryz.underlying5 Tryz.underlying9 H
 obtain ⟨i0, hi0, hzz⟩ := Option.map_eq_some_iff.1 info5
 simp only [Prod.mk.injEq] at hzz
 obtain ⟨hz0, hz1, hz2⟩ := hzz
 obtain ⟨W, hmk, hO, hG⟩ := run_make_own (P := Tryz.prog) w w.heap.size 103 5 i0 (.int .u8 0) 1 Tryz.underlying103 hi0 hz0 hz1 .i64 .i64 s.size (by rw [hz2]; omega) (by simp only [maxLen]; omega) (Nat.le_refl _)
 clear hi0 hz0 hz1 hz2
 have hB : Below w.heap.size w W := (Below.refl _ _).grown hG (Nat.le_refl _) (by simp)
 have HO := Aside0.mk (show W.ownsRow w.heap.size 5 1 (.slice (some ⟨w.heap.size, 0, none⟩) 0 s.size) ([] : List Int).length (nums .u8 []) from hO)
 have HB := Aside0.mk hB
 clear hO hG hB
 go_enter Tryz.func70, Tryz.ntmps70
 go_wp2_with fail
 go_loopg [2, 3, 4, 5, 6] s.size (fun kq v2 v3 v4 v5 v6 w' => ∃ (i : Int) (pre o' : List Int), v2 = .string ⟨#[]⟩ ∧ v4 = .int .i64 i ∧ (0 ≤ i ∧ i ≤ s.size) ∧ (kq : Int) + i = s.size ∧ Aside0 (PDec s s.size i o') ∧ Aside0 (pre ++ o' = o) ∧ Aside0 (w'.ownsRow w.heap.size 5 1 v3 pre.length (nums .u8 pre)) ∧ Aside0 (Below w.heap.size w w'))
 case atStart => exact ⟨0, [], o, rfl, rfl, by omega, by omega, HP, ⟨rfl⟩, HO, HB⟩
 clear hmk HO HB HP
 obtain ⟨i, pre, o', rfl, rfl, hi, hk, HP, HE, HO, HB⟩ := hrel
 obtain ⟨x, hx⟩ : ∃ x, x = bt s i := ⟨_, rfl⟩
 have hxb : ∀ h : i.toNat < s.size, ((s[i.toNat]'h).toNat : Int) = x := fun h => by rw [hx]; exact bt_at s i h
 have hx0 : 0 ≤ x ∧ x ≤ 255 := by rw [hx]; exact bt_range s i
 have h0i : 0 ≤ i := hi.1
 clear hbt
 have HLP : pre.length ≤ 65536 := by
  have := HL.out
  rw [← HE.out, List.length_append] at this
  omega
 cases HP.out with
 | nil =>
  have hcv := hown _ _ _ _ HO.out
  have he := HE.out
  rw [List.append_nil] at he
  have HE2 := Aside0.mk he
  clear he hown hxb hx HE
  go_wp2_with fail
  go_ret
  exact ⟨by first | rfl | (rw [HE2.out]; rfl), HB.out⟩
 | plain _ o2 q1 q2 q3 q4 q5 q6 =>
  have x1 : decide (x < 32) = false := decide_eq_false (by rw [hx]; omega)
  have x2 : (x == 92) = false := beq_eq_false_iff_ne.mpr (by rw [hx]; exact q3)
  have q6' := Aside0.mk q6
  have HX := Aside0.mk hx
  clear q3 q4 q5 q6 hx hown
  go_wp2_with (at_builtin; refine print_append_num (w0 := w) w.heap.size rfl (.tmp 16) (.tmp 20) 103 5 .u8 1 rfl Tryz.underlying103 info5 (by decide) u3 pre _ rfl rfl HO.out HB.out HB.out.size (by omega) ?_; intro v1 w1 hown1 hB1 hg1 hat1; have HO1 := Aside0.mk hown1; have HB1 := Aside0.mk hB1; clear hown1 hB1 hg1 hat1)
  go_roundg (gk - 1)
  case measure => omega
  case rel => exact ⟨_, pre ++ [x], o2, rfl, rfl, by omega, by omega, q6', ⟨by rw [← HE.out, HX.out, List.append_assoc]; rfl⟩, HO1, HB1⟩
 | esc _ o2 q1 q2 q3 q4 q5 =>
  obtain ⟨y, hy⟩ : ∃ y, y = bt s (i + 1) := ⟨_, rfl⟩
  have hyb : ∀ h : (i + 1).toNat < s.size, ((s[(i + 1).toNat]'h).toNat : Int) = y := fun h => by rw [hy]; exact bt_at s (i + 1) h
  obtain rfl : x = 92 := hx.trans q3
  rw [← hy] at q4
  have HY := Aside0.mk hy
  have q5' := Aside0.mk q5
  clear q3 q5 hx hy hown
  rcases q4 with rfl | rfl | rfl | rfl | rfl | rfl | rfl | rfl
  rotate_left
  ·go_wp2_with (at_builtin; refine print_append_num (w0 := w) w.heap.size rfl (.tmp 49) (.tmp 50) 103 5 .u8 1 rfl Tryz.underlying103 info5 (by decide) u3 pre _ rfl rfl HO.out HB.out HB.out.size (by omega) ?_; intro v1 w1 hown1 hB1 hg1 hat1; have HO1 := Aside0.mk hown1; have HB1 := Aside0.mk hB1; clear hown1 hB1 hg1 hat1)
   go_roundg (gk - 2)
   case measure => omega
   case rel => exact ⟨_, pre ++ [92], o2, rfl, rfl, by omega, by omega, by first | exact q5' | exact ⟨by have := q5'.out; rwa [show i + 2 = i + 1 + 1 by omega] at this⟩, ⟨by rw [← HE.out, ← HY.out, List.append_assoc]; rfl⟩, HO1, HB1⟩
  ·go_wp2_with (at_builtin; refine print_append_num (w0 := w) w.heap.size rfl (.tmp 54) (.tmp 55) 103 5 .u8 1 rfl Tryz.underlying103 info5 (by decide) u3 pre _ rfl rfl HO.out HB.out HB.out.size (by omega) ?_; intro v1 w1 hown1 hB1 hg1 hat1; have HO1 := Aside0.mk hown1; have HB1 := Aside0.mk hB1; clear hown1 hB1 hg1 hat1)
   go_roundg (gk - 2)
   case measure => omega
   case rel => exact ⟨_, pre ++ [47], o2, rfl, rfl, by omega, by omega, by first | exact q5' | exact ⟨by have := q5'.out; rwa [show i + 2 = i + 1 + 1 by omega] at this⟩, ⟨by rw [← HE.out, ← HY.out, List.append_assoc]; rfl⟩, HO1, HB1⟩
  ·go_wp2_with (at_builtin; refine print_append_num (w0 := w) w.heap.size rfl (.tmp 59) (.tmp 60) 103 5 .u8 1 rfl Tryz.underlying103 info5 (by decide) u3 pre _ rfl rfl HO.out HB.out HB.out.size (by omega) ?_; intro v1 w1 hown1 hB1 hg1 hat1; have HO1 := Aside0.mk hown1; have HB1 := Aside0.mk hB1; clear hown1 hB1 hg1 hat1)
   go_roundg (gk - 2)
   case measure => omega
   case rel => exact ⟨_, pre ++ [8], o2, rfl, rfl, by omega, by omega, by first | exact q5' | exact ⟨by have := q5'.out; rwa [show i + 2 = i + 1 + 1 by omega] at this⟩, ⟨by rw [← HE.out, ← HY.out, List.append_assoc]; rfl⟩, HO1, HB1⟩
  ·go_wp2_with (at_builtin; refine print_append_num (w0 := w) w.heap.size rfl (.tmp 64) (.tmp 65) 103 5 .u8 1 rfl Tryz.underlying103 info5 (by decide) u3 pre _ rfl rfl HO.out HB.out HB.out.size (by omega) ?_; intro v1 w1 hown1 hB1 hg1 hat1; have HO1 := Aside0.mk hown1; have HB1 := Aside0.mk hB1; clear hown1 hB1 hg1 hat1)
   go_roundg (gk - 2)
   case measure => omega
   case rel => exact ⟨_, pre ++ [12], o2, rfl, rfl, by omega, by omega, by first | exact q5' | exact ⟨by have := q5'.out; rwa [show i + 2 = i + 1 + 1 by omega] at this⟩, ⟨by rw [← HE.out, ← HY.out, List.append_assoc]; rfl⟩, HO1, HB1⟩
  ·go_wp2_with (at_builtin; refine print_append_num (w0 := w) w.heap.size rfl (.tmp 69) (.tmp 70) 103 5 .u8 1 rfl Tryz.underlying103 info5 (by decide) u3 pre _ rfl rfl HO.out HB.out HB.out.size (by omega) ?_; intro v1 w1 hown1 hB1 hg1 hat1; have HO1 := Aside0.mk hown1; have HB1 := Aside0.mk hB1; clear hown1 hB1 hg1 hat1)
   go_roundg (gk - 2)
   case measure => omega
   case rel => exact ⟨_, pre ++ [10], o2, rfl, rfl, by omega, by omega, by first | exact q5' | exact ⟨by have := q5'.out; rwa [show i + 2 = i + 1 + 1 by omega] at this⟩, ⟨by rw [← HE.out, ← HY.out, List.append_assoc]; rfl⟩, HO1, HB1⟩
  ·go_wp2_with (at_builtin; refine print_append_num (w0 := w) w.heap.size rfl (.tmp 74) (.tmp 75) 103 5 .u8 1 rfl Tryz.underlying103 info5 (by decide) u3 pre _ rfl rfl HO.out HB.out HB.out.size (by omega) ?_; intro v1 w1 hown1 hB1 hg1 hat1; have HO1 := Aside0.mk hown1; have HB1 := Aside0.mk hB1; clear hown1 hB1 hg1 hat1)
   go_roundg (gk - 2)
   case measure => omega
   case rel => exact ⟨_, pre ++ [13], o2, rfl, rfl, by omega, by omega, by first | exact q5' | exact ⟨by have := q5'.out; rwa [show i + 2 = i + 1 + 1 by omega] at this⟩, ⟨by rw [← HE.out, ← HY.out, List.append_assoc]; rfl⟩, HO1, HB1⟩
  ·go_wp2_with (at_builtin; refine print_append_num (w0 := w) w.heap.size rfl (.tmp 79) (.tmp 80) 103 5 .u8 1 rfl Tryz.underlying103 info5 (by decide) u3 pre _ rfl rfl HO.out HB.out HB.out.size (by omega) ?_; intro v1 w1 hown1 hB1 hg1 hat1; have HO1 := Aside0.mk hown1; have HB1 := Aside0.mk hB1; clear hown1 hB1 hg1 hat1)
   go_roundg (gk - 2)
   case measure => omega
   case rel => exact ⟨_, pre ++ [9], o2, rfl, rfl, by omega, by omega, by first | exact q5' | exact ⟨by have := q5'.out; rwa [show i + 2 = i + 1 + 1 by omega] at this⟩, ⟨by rw [← HE.out, ← HY.out, List.append_assoc]; rfl⟩, HO1, HB1⟩
  go_wp2_with (at_builtin; refine print_append_num (w0 := w) w.heap.size rfl (.tmp 84) (.tmp 85) 103 5 .u8 1 rfl Tryz.underlying103 info5 (by decide) u3 pre _ rfl rfl HO.out HB.out HB.out.size (by omega) ?_; intro v1 w1 hown1 hB1 hg1 hat1; have HO1 := Aside0.mk hown1; have HB1 := Aside0.mk hB1; clear hown1 hB1 hg1 hat1)
  go_roundg (gk - 2)
  case measure => omega
  case rel => exact ⟨_, pre ++ [34], o2, rfl, rfl, by omega, by omega, by first | exact q5' | exact ⟨by have := q5'.out; rwa [show i + 2 = i + 1 + 1 by omega] at this⟩, ⟨by rw [← HE.out, ← HY.out, List.append_assoc]; rfl⟩, HO1, HB1⟩
 | uni _ o2 q1 q2 q3 q4 =>
  obtain ⟨u0, u1, u2, u3', u4'⟩ := q1
  obtain rfl : x = 92 := hx.trans u2
  have hRU := runeit_at s i (i + 1 + 1) (by omega) hz u0 u1 u4'
  have hyb : ∀ h : (i + 1).toNat < s.size, ((s[(i + 1).toNat]'h).toNat : Int) = 117 := fun h => by rw [← u3']; exact bt_at s (i + 1) h
  have hr := u4_range s (i + 2)
  have HQ4 := Aside0.mk q4
  have HRU := Aside0.mk hRU
  have HNS := Aside0.mk (And.intro q2 q3)
  clear q2 q3 q4 hRU hx u2 u3' u4'
  obtain ⟨r, hrr⟩ : ∃ r, r = u4 s (i + 2) := ⟨_, rfl⟩
  rw [← hrr] at HRU HNS hr
  have HR := Aside0.mk hrr
  clear hrr hown
  go_wp2_with fail
  refine (HRU.out _).mono ?_
  rintro e w2 ⟨rfl, hb2⟩
  go_wp2_with fail
  refine (isSurr_no _ _ HNS.out.1 HNS.out.2).mono ?_
  rintro e w3 ⟨rfl, rfl⟩
  have HO2 := Aside0.mk (own_below HO.out hb2)
  have HB2 := Aside0.mk (HB.out.trans (hb2.mono HB.out.size))
  obtain ⟨n, hn⟩ : ∃ n, n = pre.length := ⟨_, rfl⟩
  have HN := Aside0.mk hn.symm
  rw [← hn] at HLP
  clear hn hb2 HO HB
  go_wp2_with (at_builtin; refine zero_append (w0 := w) _ rfl (.tmp 132) (.tmp 133) rfl u3 pre n HN.out rfl rfl HO2.out HB2.out (by omega) ?_; intro g cap w1 hown1 hB1; have HO1 := Aside0.mk hown1; have HB1 := Aside0.mk hB1; have hcut := cut8 g n cap (own_block hown1).2.1; clear hown1 hB1)
  refine (enc_calls r g n 8 (cap - n) _ (by omega) (by omega) HNS.out (by omega) (zeros_cell HN.out HO1.out 0 (by omega)) (zeros_cell HN.out HO1.out 1 (by omega)) (zeros_cell HN.out HO1.out 2 (by omega)) (zeros_cell HN.out HO1.out 3 (by omega)) (own_block HO1.out).2.2).mono ?_
  rintro e w4 ⟨rfl, rfl⟩
  have HO3 := Aside0.mk (own_enc HN.out (show (enc r).length ≤ 8 by have := (enc_length r).2; omega) HO1.out)
  have HB3 := Aside0.mk (below_wr (enc r) n HB1.out (own_block HO1.out).1)
  have hm := enc_length r
  have hcut2 := cutm g n (enc r).length cap (by have := (own_block HO1.out).2.1; omega)
  have HEQ := Aside0.mk (show (pre ++ enc r) ++ o2 = o by rw [List.append_assoc, HR.out]; exact HE.out)
  clear HO1 HB1 hcut
  generalize enc r = l at *
  obtain ⟨W5, hW5⟩ : ∃ W5, W5 = wrL w1 g n l := ⟨_, rfl⟩
  rw [← hW5] at HO3 HB3 ⊢
  clear hW5
  go_wp2_with fail
  go_roundg (gk - 6)
  case measure => omega
  case rel => exact ⟨_, pre ++ l, o2, rfl, rfl, by omega, by omega, by first | exact HQ4 | exact ⟨by have := HQ4.out; rwa [show i + 6 = i + 1 + 5 by omega] at this⟩, HEQ, HO3, HB3⟩
 | pair _ o2 q1 q2 q3 =>
  obtain ⟨u0, u1, u2, u3', u4'⟩ := q1
  obtain ⟨⟨v0, v1, v2, v3, v4⟩, qH, qL⟩ := q2
  obtain rfl : x = 92 := hx.trans u2
  have hRU := runeit_at s i (i + 1 + 1) (by omega) hz u0 u1 u4'
  have hRV := runeit_at s (i + 6) (i + 1 + 5 + 2) (by omega) hz v0 v1 v4
  rw [show i + 6 + 2 = i + 8 by omega] at hRV
  have hyb : ∀ h : (i + 1).toNat < s.size, ((s[(i + 1).toNat]'h).toNat : Int) = 117 := fun h => by rw [← u3']; exact bt_at s (i + 1) h
  have hyc : ∀ h : (i + 1 + 5).toNat < s.size, ((s[(i + 1 + 5).toNat]'h).toNat : Int) = 92 := fun h => by rw [← v2, show i + 6 = i + 1 + 5 by omega]; exact bt_at s (i + 1 + 5) h
  have hyd : ∀ h : (i + 1 + 5 + 1).toNat < s.size, ((s[(i + 1 + 5 + 1).toNat]'h).toNat : Int) = 117 := fun h => by rw [← v3, show i + 6 + 1 = i + 1 + 5 + 1 by omega]; exact bt_at s (i + 1 + 5 + 1) h
  have hr := u4_range s (i + 2)
  have hr2 := u4_range s (i + 8)
  have HQ4 := Aside0.mk q3
  have HRU := Aside0.mk hRU
  have HRV := Aside0.mk hRV
  have HNS := Aside0.mk (And.intro qH qL)
  clear q3 qH qL hRU hRV hx u2 u3' u4' v0 v2 v3 v4
  obtain ⟨r1, hrr⟩ : ∃ r, r = u4 s (i + 2) := ⟨_, rfl⟩
  obtain ⟨r2, hrr2⟩ : ∃ r, r = u4 s (i + 8) := ⟨_, rfl⟩
  have HE' := HE.out
  rw [← hrr, ← hrr2] at HE'
  rw [← hrr] at HRU HNS hr
  rw [← hrr2] at HRV HNS hr2
  have HR := Aside0.mk HE'
  clear hrr hrr2 hown HE HE'
  go_wp2_with fail
  refine (HRU.out _).mono ?_
  rintro e w2 ⟨rfl, hb2⟩
  go_wp2_with fail
  refine (isSurr_yes _ _ (.inl HNS.out.1)).mono ?_
  rintro e w3 ⟨rfl, rfl⟩
  go_wp2_with fail
  refine (HRV.out _).mono ?_
  rintro e w3 ⟨rfl, hb3⟩
  go_wp2_with fail
  refine (decRune_calls _ _ _ HNS.out.1 HNS.out.2).mono ?_
  rintro e w4 ⟨rfl, rfl⟩
  obtain ⟨r, hr⟩ : ∃ r, r = 65536 + (r1 - 55296) * 1024 + (r2 - 56320) := ⟨_, rfl⟩
  rw [← hr] at HR ⊢
  have hrb : 65536 ≤ r ∧ r ≤ 1114111 := by
   have a := HNS.out.1
   have b := HNS.out.2
   unfold isHigh at a
   unfold isLow at b
   omega
  have hrn : ¬ isHigh r ∧ ¬ isLow r := by unfold isHigh isLow; omega
  have HRN := Aside0.mk hrn
  clear hr hrn
  have HO2 := Aside0.mk (own_below (own_below HO.out hb2) hb3)
  have HB2 := Aside0.mk ((HB.out.trans (hb2.mono HB.out.size)).trans (hb3.mono (Nat.le_trans HB.out.size hb2.size)))
  obtain ⟨n, hn⟩ : ∃ n, n = pre.length := ⟨_, rfl⟩
  have HN := Aside0.mk hn.symm
  rw [← hn] at HLP
  clear hn hb2 hb3 HO HB
  go_wp2_with (at_builtin; refine zero_append (w0 := w) _ rfl (.tmp 132) (.tmp 133) rfl u3 pre n HN.out rfl rfl HO2.out HB2.out (by omega) ?_; intro g cap w1 hown1 hB1; have HO1 := Aside0.mk hown1; have HB1 := Aside0.mk hB1; have hcut := cut8 g n cap (own_block hown1).2.1; clear hown1 hB1)
  refine (enc_calls r g n 8 (cap - n) _ (by omega) (by omega) HRN.out (by omega) (zeros_cell HN.out HO1.out 0 (by omega)) (zeros_cell HN.out HO1.out 1 (by omega)) (zeros_cell HN.out HO1.out 2 (by omega)) (zeros_cell HN.out HO1.out 3 (by omega)) (own_block HO1.out).2.2).mono ?_
  rintro e w4 ⟨rfl, rfl⟩
  have HO3 := Aside0.mk (own_enc HN.out (show (enc r).length ≤ 8 by have := (enc_length r).2; omega) HO1.out)
  have HB3 := Aside0.mk (below_wr (enc r) n HB1.out (own_block HO1.out).1)
  have hm := enc_length r
  have hcut2 := cutm g n (enc r).length cap (by have := (own_block HO1.out).2.1; omega)
  have HEQ := Aside0.mk (show (pre ++ enc r) ++ o2 = o by rw [List.append_assoc]; exact HR.out)
  clear HO1 HB1 hcut HR
  generalize enc r = l at *
  obtain ⟨W5, hW5⟩ : ∃ W5, W5 = wrL w1 g n l := ⟨_, rfl⟩
  rw [← hW5] at HO3 HB3 ⊢
  clear hW5
  go_wp2_with fail
  go_roundg (gk - 12)
  case measure => omega
  case rel => exact ⟨_, pre ++ l, o2, rfl, rfl, by omega, by omega, by first | exact HQ4 | exact ⟨by have := HQ4.out; rwa [show i + 12 = i + 1 + 5 + 6 by omega] at this⟩, HEQ, HO3, HB3⟩
abbrev bO (s : ByteArray) : List Int := Go.Proofs.YtgiioglmkogpkaaGreatDoorW.PrintWords.bytesOf s
theorem str_bytes (s : ByteArray) : strOfNums (bO s) = s := by
 unfold bO Go.Proofs.YtgiioglmkogpkaaGreatDoorW.PrintWords.bytesOf
 exact Go.Lib.Lz.strOfNums_map _
theorem pdec_plain {t : ByteArray} {i : Int} {o : List Int} (h : PDec t t.size i o) : (∀ k, i ≤ k → k < t.size → bt t k ≠ 92) → 0 ≤ i → o = (bO t).drop i.toNat := by
 induction h with
 | nil =>
  intro _ _
  have e : (t.size : Int).toNat = (bO t).length := by rw [bytesOf_length]; omega
  rw [e, List.drop_length]
 | plain i o a b c d e f ih =>
  intro hn h0
  have hi := ih (fun k q1 q2 => hn k (by omega) q2) (by omega)
  have hlt : i.toNat < (bO t).length := by rw [bytesOf_length]; omega
  rw [List.drop_eq_getElem_cons hlt, hi, show (i + 1).toNat = i.toNat + 1 by omega]
  congr 1
  have := rd_bytesOf t i
  unfold rd at this
  rw [List.getD_eq_getElem?_getD, List.getElem?_eq_getElem hlt] at this
  exact this.symm
 | esc i o a b c d e f => intro hn h0; exact absurd c (hn i (by omega) (by omega))
 | uni i o a b c d e => intro hn h0; exact absurd a.2.2.1 (hn i (by omega) (by have := a.2.1; omega))
 | pair i o a b c d => intro hn h0; exact absurd a.2.2.1 (hn i (by omega) (by have := a.2.1; omega))
end Go.Proofs.YtgiioglmkogpkaaGreatDoor.F
namespace Go.Proofs.YtgiioglmkogpkaaGreatDoor.F
open Go.RowKit Go.Proofs.YtgiioglmkogpkaaGreatDoorW.PrintWords Go.Proofs.YtgiioglmkogpkaaGreatDoorW.PrintLast Go.Proofs.YtgiioglmkogpkaaGreatDoorW.PrintMore
open M
set_option maxHeartbeats 8000000
set_option maxRecDepth 8192
theorem set_calls (s : ByteArray) (a b c : Int) (w0 w : World) (g : Nat) (d : Nat → Int) (ng tr : Bool) (H : Dec w0 w g d 0 0 ng tr) (hz : s.size < 1000000000) (N : NumAt s a b c) :
  Calls Tryz.prog 222 #[.pointer (some ⟨g, 0, none⟩), .string s] w (SPost w0 g (SX s a b c d false) (decide (a = 1))) := by
 have hs : 0 < s.size := by rcases N.a0 with h | h <;> (have := N.ab; have := N.bc; have := N.cs; omega)
 have hne : s ≠ ByteArray.empty := by rintro rfl; simp at hs
 have hb0 : ∀ h : 0 < s.size, ((s[0]'h).toNat : Int) = bt s 0 := bt_at s 0
 have c0 := H.cnd
 have c1 := H.cdp
 have c2 := H.cng
 have c3 := H.ctr
 have f0 := H.fr
 rcases N.a0 with rfl | ⟨rfl, h45⟩
 rotate_left
 ·have hd0 := N.ints 1 (by omega) N.ab
  have h43 : (bt s 0 == 43) = false := beq_eq_false_iff_ne.mpr (by omega)
  have h45 : (bt s 0 == 45) = true := beq_iff_eq.mpr (by omega)
  have HN := Aside0.mk N
  clear N
  have HD := Aside0.mk H
  clear H
  go_enter Tryz.func222, Tryz.ntmps222
  go_wp2_with fail
  have HD1 := ((HD.out.set_ng false).set_tr false).set_ng true
  exact stLoop_wp s 1 b c w0 _ g d true false _ (by assumption) _ _ _ _ _ _ _ _ _ _ _ _ _ _ _ _ _ _ _ _ _ _ _ _ _ _ _ _ HD1 hz HN.out
 have hd0 := N.ints 0 (by omega) N.ab
 have h43 : (bt s 0 == 43) = false := beq_eq_false_iff_ne.mpr (by omega)
 have h45 : (bt s 0 == 45) = false := beq_eq_false_iff_ne.mpr (by omega)
 have HN := Aside0.mk N
 clear N
 have HD := Aside0.mk H
 clear H
 go_enter Tryz.func222, Tryz.ntmps222
 go_wp2_with fail
 have HD1 := (HD.out.set_ng false).set_tr false
 exact stLoop_wp s 0 b c w0 _ g d false false _ (by assumption) _ _ _ _ _ _ _ _ _ _ _ _ _ _ _ _ _ _ _ _ _ _ _ _ _ _ _ _ HD1 hz HN.out
set_option maxHeartbeats 1000000
theorem mul64_det (x a : Int) : ∃ h l : Int, ∀ w, Calls Tryz.prog 231 #[.int .u64 x, .int .u64 a] w (fun e w' => e = .returned (.tuple #[.int .u64 h, .int .u64 l]) ∧ Drawn0 w w') :=
 ⟨_, _, fun w => bits_Mul64.calls x a _ _ w rfl⟩
def bI (b : Bool) : Int := if b = true then 1 else 0
theorem bool2_det (b : Bool) (w : World) : Calls Tryz.prog 224 #[.bool b] w (fun e w' => e = .returned (.int .u64 (bI b)) ∧ w' = w) := bool2_same b w
theorem bool2_detn (b : Bool) (w : World) : Calls Tryz.prog 224 #[.bool b] w (fun e w' => e = .returned (.int .u64 (bI b)) ∧ ∃ n, w' = w.drewN n) :=
 (bool2_same b w).mono fun e w' h => ⟨h.1, 0, h.2⟩
theorem uscale_det (x a b c : Int) (hc : 0 ≤ c ∧ c < 64) : ∃ u : Int, 0 ≤ u ∧ u < 18446744073709551616 ∧ ∀ (w : World) (g : Nat), w.heap[g]? = some (.cells #[.int .u64 a, .int .u64 b, .int .i64 c] 228 (0, 0)) →
  Calls Tryz.prog 195 #[.int .u64 x, .pointer (some ⟨g, 0, none⟩)] w (fun e w' => e = .returned (.int .u64 u) ∧ Drawn0 w w') := by
 obtain ⟨hc0, hc1⟩ := hc
 have hm := bits_mask64 c hc0 hc1
 have hn : ¬ c < 0 := by omega
 obtain ⟨h, l, HM⟩ := mul64_det x a
 obtain ⟨h2, l2, HM2⟩ := mul64_det x b
 cases hq : (IntKind.u64.wrap (h / 2 ^ c.toNat * 2 ^ c.toNat) != h)
 rotate_left
 ·refine ⟨bits .or .u64 (h / 2 ^ c.toNat) 1, (bits_range _ _ _).1, (bits_range _ _ _).2, fun w g hG => ?_⟩
  have h0 := cellS228_0 hG
  have h1 := cellS228_1 hG
  have h2' := cellS228_2 hG
  clear hG
  go_enter Tryz.func195, Tryz.ntmps195
  go_wp2_with fail
  refine (HM _).mono ?_
  rintro e w' ⟨rfl, ⟨nd, rfl⟩⟩
  go_wp2_with fail
  go_ret
  exact ⟨rfl, nd, rfl⟩
 refine ⟨bits .or .u64 (IntKind.u64.wrap (h - bI (decide (l < h2))) / 2 ^ c.toNat) (bI (decide (1 < IntKind.u64.wrap (l - h2)))), (bits_range _ _ _).1, (bits_range _ _ _).2, fun w g hG => ?_⟩
 have h0 := cellS228_0 hG
 have h1 := cellS228_1 hG
 have h2' := cellS228_2 hG
 clear hG
 go_enter Tryz.func195, Tryz.ntmps195
 go_wp2_with fail
 refine (HM _).mono ?_
 rintro e w' ⟨rfl, ⟨nd, rfl⟩⟩
 go_wp2_with fail
 refine (HM2 _).mono ?_
 rintro e w' ⟨rfl, ⟨nd2, rfl⟩⟩
 go_wp2_with fail
 refine (bool2_det _ _).mono ?_
 rintro e w' ⟨rfl, rfl⟩
 go_wp2_with fail
 go_quiet ((go_at_call 224; refine (bool2_detn _ _).mono ?_; rintro e w' ⟨rfl, ⟨nq, rfl⟩⟩; (first | exact ⟨rfl, _, World.drewN_drewN _ _ _⟩ | exact ⟨rfl, _, Eq.trans (World.drewN_drewN _ _ _) (congrArg (World.drewN _) (Nat.add_assoc _ _ _))⟩)))
 all_goals (try (go_wp2_with fail))
 all_goals go_ret
 all_goals exact ⟨rfl, _, World.drewN_drewN _ _ _⟩
set_option maxHeartbeats 1000000
theorem len64_det (d : Int) (h0 : 0 ≤ d) (h1 : d < 18446744073709551616) : ∃ n : Int, (0 ≤ n ∧ n ≤ 64) ∧ ∀ w, Calls Tryz.prog 162 #[.int .u64 d] w (fun e w' => e = .returned (.int .i64 n) ∧ w = w') :=
 ⟨_, ⟨by omega, by have := bitLen_le d.toNat; omega⟩, fun w => (Tryz.bits_Len64 d w h0 (by omega)).mono fun e w' h => ⟨h.1, h.2.symm⟩⟩
theorem log2_det (p : Int) (h : -400 ≤ p ∧ p ≤ 400) : ∃ n : Int, (-1400 ≤ n ∧ n ≤ 1400) ∧ ∀ w, Calls Tryz.prog 194 #[.int .i64 p] w (fun e w' => e = .returned (.int .i64 n) ∧ Drawn0 w w') :=
 ⟨_, (by
  have e1 : wrap64 (p * 108853) = p * 108853 := by unfold wrap64; omega
  show -1400 ≤ (wrap64 (p * 108853)) / 32768 ∧ (wrap64 (p * 108853)) / 32768 ≤ 1400
  rw [e1]; omega), fun w => strconv_log2Pow10.calls p _ w rfl⟩
theorem bool2i_det (b : Bool) : ∃ y : Int, (0 ≤ y ∧ y ≤ 1) ∧ ∀ w, Calls Tryz.prog 201 #[.bool b] w (fun e w' => e = .returned (.int .i64 y) ∧ w = w') := by
 cases b
 ·exact ⟨0, by omega, fun w => (Tryz.internal_strconv_bool2_int false w).mono fun e w' h => ⟨h.1, h.2.symm⟩⟩
 ·exact ⟨1, by omega, fun w => (Tryz.internal_strconv_bool2_int true w).mono fun e w' h => ⟨h.1, h.2.symm⟩⟩
theorem unmin_det (m : Int) : ∃ y : Int, ∀ w, Calls Tryz.prog 202 #[.int .u64 m] w (fun e w' => e = .returned (.int .u64 y) ∧ Drawn0 w w') := ⟨_, fun w => strconv_unmin.calls m _ w rfl⟩
theorem round_det (m : Int) : ∃ y : Int, ∀ w, Calls Tryz.prog 199 #[.int .u64 m] w (fun e w' => e = .returned (.int .u64 y) ∧ Drawn0 w w') := ⟨_, fun w => strconv_unrounded_round.calls m _ w rfl⟩
def FDet (x : Nat) (v : Value) (w : World) (e : Ending) (w' : World) : Prop := e = .returned (.tuple #[.float .f64 x, v]) ∧ (v = .nilIface ∨ v = .iface 181 (.int .i64 1)) ∧ Below w.heap.size w w'
theorem pack64_det (m e : Int) (he : -100000 ≤ e ∧ e ≤ 100000) : ∃ (x : Nat) (v : Value), (v = .nilIface ∨ v = .iface 181 (.int .i64 1)) ∧ ∀ w, Calls Tryz.prog 243 #[.int .u64 m, .int .i64 e] w (fun r w' => r = .returned (.tuple #[.float .f64 x, v]) ∧ Drawn0 w w') := by
 have hf := run_frombits
 by_cases c : bits .and .u64 m 4503599627370496 = 0
 ·have c1 := beq_iff_eq.mpr c
  refine ⟨m.toNat, .nilIface, .inl rfl, fun w => ?_⟩
  go_enter Tryz.func243, Tryz.ntmps243
  go_wp2
  go_ret2
  exact ⟨rfl, 0, rfl⟩
 have c1 := beq_eq_false_iff_ne.mpr c
 by_cases d : 972 ≤ e
 ·have d1 := decide_eq_true d
  refine ⟨(bits BinOp.or IntKind.u64 (bits BinOp.and IntKind.u64 m 9223372036854775808) 9218868437227405312).toNat, .iface 181 (.int .i64 1), .inr rfl, fun w => ?_⟩
  go_enter Tryz.func243, Tryz.ntmps243
  go_wp2
  go_ret2
  exact ⟨rfl, 0, rfl⟩
 have d1 := decide_eq_false d
 refine ⟨(bits BinOp.or IntKind.u64 (bits BinOp.andNot IntKind.u64 m 4503599627370496) (IntKind.u64.wrap (IntKind.u64.wrap (1075 + e) * 4503599627370496))).toNat, .nilIface, .inl rfl, fun w => ?_⟩
 go_enter Tryz.func243, Tryz.ntmps243
 go_wp2
 go_ret2
 exact ⟨rfl, 0, rfl⟩
theorem parseFloat64_det (d p sign : Int) (w0 : World) (hd : 0 ≤ d) (hd1 : d < 18446744073709551616) (hp : -345 ≤ p) (hp1 : p ≤ 310) (T : Pow w0) : ∃ (x : Nat) (v : Value), ∀ w, Below w0.heap.size w0 w →
  Calls Tryz.prog 227 #[.int .u64 d, .int .i64 p, .int .u64 sign] w (FDet x v w) := by
 have hf := run_frombits
 obtain ⟨q, rfl⟩ : ∃ q : Nat, p = (q : Int) - 348 := ⟨(p + 348).toNat, by omega⟩
 obtain ⟨b, ⟨hb0, hb1⟩, HB1⟩ := len64_det d hd hd1
 obtain ⟨lp, ⟨hl0, hl1⟩, HL⟩ := log2_det ((q : Int) - 348) ⟨by omega, by omega⟩
 obtain ⟨hi, hhi0⟩ := T (q * 2) (by omega)
 obtain ⟨lo, hlo0⟩ := T (q * 2 + 1) (by omega)
 obtain ⟨sc, hs⟩ : ∃ sc, sc = -(min 1074 (53 - b - lp) - (64 - b) + lp + 3) := ⟨_, rfl⟩
 have hs8 : 8 ≤ sc := by rw [hs]; omega
 have HS := Aside0.mk hs
 have HH := Aside0.mk (And.intro hhi0 hlo0)
 have H7 := Aside0.mk (World.block_lt_of_cell? w0 _ hhi0)
 clear T hs hhi0 hlo0
 by_cases h64 : sc < 64
 rotate_left
 ·have y1 : decide (64 ≤ sc) = true := decide_eq_true (by omega)
  refine ⟨(bits BinOp.or IntKind.u64 sign 0).toNat, .nilIface, fun w hbw => ?_⟩
  have hhi := pw_cell_below hbw HH.out.1
  have hlo := pw_cell_below hbw HH.out.2
  have h7 : 7 < w.heap.size := World.block_lt_of_cell? w _ hhi
  clear hbw
  go_enter Tryz.func227, Tryz.ntmps227
  go_wp2_with fail
  refine (HB1 _).mono ?_
  rintro e w' ⟨rfl, rfl⟩
  go_wp2_with fail
  refine (HL _).mono ?_
  rintro e w' ⟨rfl, ⟨nd, rfl⟩⟩
  go_wp2_with fail
  have hBd : Below w.heap.size w (w.drewN nd) := Drawn0.below ⟨nd, rfl⟩
  have hA := below_alloc hBd (.cells #[.int .u64 0, .int .u64 0, .int .i64 0] 228)
  refine (prescale_calls w.heap.size 0 0 0 _ lp hi lo q w _ (IsS228.new w (w.drewN nd) 0 0 0 hBd) hA (by omega) (pw_cell_below hA hhi) (pw_cell_below hA hlo) h7 ⟨by omega, by omega⟩ ⟨by omega, by omega⟩).mono ?_
  rintro e w1 ⟨rfl, hI, hB, hK⟩
  rw [← HS.out] at hI
  clear hA hBd hhi hlo
  obtain ⟨HG, hgg⟩ := hI
  have c2 := cellS228_2 HG
  have HGG := Aside0.mk HG
  clear HG
  have HB := Aside0.mk hB
  clear hB hK
  go_wp2_with fail
  go_ret2
  exact ⟨rfl, .inl rfl, HB.out⟩
 have y1 : decide (64 ≤ sc) = false := decide_eq_false (by omega)
 obtain ⟨u, hu0, hu1, HU⟩ := uscale_det (IntKind.u64.wrap (d * 2 ^ (64 - b).toNat)) hi lo sc ⟨by omega, h64⟩
 obtain ⟨y, HM⟩ := unmin_det 9007199254740992
 obtain ⟨z, ⟨hz0, hz1⟩, HI2⟩ := bool2i_det (decide (y ≤ u))
 obtain ⟨r, HR⟩ := round_det (bits BinOp.or IntKind.u64 (u / 2 ^ z.toNat) (bits BinOp.and IntKind.u64 u 1))
 obtain ⟨x, v, hv, HP⟩ := pack64_det (bits BinOp.or IntKind.u64 sign r) (-(min 1074 (53 - b - lp) - z)) ⟨by omega, by omega⟩
 refine ⟨x, v, fun w hbw => ?_⟩
 have hhi := pw_cell_below hbw HH.out.1
 have hlo := pw_cell_below hbw HH.out.2
 have h7 : 7 < w.heap.size := World.block_lt_of_cell? w _ hhi
 clear hbw
 go_enter Tryz.func227, Tryz.ntmps227
 go_wp2_with fail
 refine (HB1 _).mono ?_
 rintro e w' ⟨rfl, rfl⟩
 go_wp2_with fail
 refine (HL _).mono ?_
 rintro e w' ⟨rfl, ⟨nd, rfl⟩⟩
 go_wp2_with fail
 have hBd : Below w.heap.size w (w.drewN nd) := Drawn0.below ⟨nd, rfl⟩
 have hA := below_alloc hBd (.cells #[.int .u64 0, .int .u64 0, .int .i64 0] 228)
 refine (prescale_calls w.heap.size 0 0 0 _ lp hi lo q w _ (IsS228.new w (w.drewN nd) 0 0 0 hBd) hA (by omega) (pw_cell_below hA hhi) (pw_cell_below hA hlo) h7 ⟨by omega, by omega⟩ ⟨by omega, by omega⟩).mono ?_
 rintro e w1 ⟨rfl, hI, hB, hK⟩
 rw [← HS.out] at hI
 clear hA hBd hhi hlo
 obtain ⟨HG, hgg⟩ := hI
 have c2 := cellS228_2 HG
 have HGG := Aside0.mk HG
 clear HG
 have HB := Aside0.mk hB
 clear hB hK
 go_wp2_with fail
 refine (HU _ _ HGG.out).mono ?_
 rintro e w' ⟨rfl, ⟨n1, rfl⟩⟩
 go_wp2_with fail
 refine (HM _).mono ?_
 rintro e w' ⟨rfl, ⟨n2, rfl⟩⟩
 go_wp2_with fail
 refine (HI2 _).mono ?_
 rintro e w' ⟨rfl, rfl⟩
 go_wp2_with fail
 refine (HR _).mono ?_
 rintro e w' ⟨rfl, ⟨n3, rfl⟩⟩
 go_wp2_with fail
 refine (HP _).mono ?_
 rintro e w' ⟨rfl, ⟨n4, rfl⟩⟩
 go_wp2_with fail
 go_ret2
 exact ⟨rfl, hv, by repeat (first | (with_reducible first | exact HB.out | apply pw_below_drewN) | exact HB.out)⟩
def NN (x : Nat) : Prop := ∀ s t, Ieee.double.read x ≠ .nan s t
def FN (y : Nat) : Prop := ∃ s m i, Ieee.double.read y = .number s m i ∧ m ≠ 0
theorem nn_word (neg : Bool) (r : Nat) (h : r ≤ Ieee.double.infRung) : NN (Ieee.double.word neg r) := by
 have h1 : Ieee.double.infRung = 9218868437227405312 := by decide
 have h2 : Ieee.double.signWeight = 9223372036854775808 := by decide
 intro s t
 have h3 : Ieee.double.word neg r % Ieee.double.signWeight = r := by
  unfold Ieee.Format.word
  rw [h2]
  cases neg
  ·simp; omega
  ·simp; omega
 unfold Ieee.Format.read
 dsimp only
 rw [h3]
 split
 ·simp
 ·split
  ·simp
  ·rw [if_pos (by omega)]; simp
theorem nn_near (neg : Bool) (m : Nat) (p : Int) : NN (Ieee.double.nearest neg m p) := by
 unfold Ieee.Format.nearest
 split
 ·exact nn_word _ _ (Nat.zero_le _)
 ·exact nn_word _ _ (Nat.min_le_right _ _)
theorem nn_write {d : Ieee.Datum} (h : ∀ s t, d ≠ .nan s t) : NN (Ieee.double.write d) := by
 cases d with
 | number s m i => exact nn_near _ _ _
 | infinity s => exact nn_word _ _ (Nat.le_refl _)
 | nan s t => exact absurd rfl (h s t)
theorem mul_nn {x y : Nat} (hx : NN x) (hy : FN y) : ∃ r, floatBits .mul .f64 x y = some r ∧ NN r := by
 obtain ⟨s, m, i, hy, hm⟩ := hy
 show ∃ r, ((Ieee.double.read x).product (Ieee.double.read y)).map Ieee.double.write = some r ∧ NN r
 rw [hy]
 cases hq : Ieee.double.read x with
 | nan a b => exact absurd hq (hx a b)
 | number a b c => exact ⟨_, rfl, nn_write (by intro s t; simp)⟩
 | infinity a =>
  refine ⟨Ieee.double.write (.infinity (a ^^ s)), ?_, nn_write (by intro s t; simp)⟩
  simp [Ieee.Datum.product, hm]
theorem quo_nn {x y : Nat} (hx : NN x) (hy : FN y) : ∃ r, floatBits .quo .f64 x y = some r ∧ NN r := by
 obtain ⟨s, m, i, hy, hm⟩ := hy
 show ∃ r, ((Ieee.double.read x).quotient (Ieee.double.fractionBits + 2) (Ieee.double.read y)).map Ieee.double.write = some r ∧ NN r
 rw [hy]
 cases hq : Ieee.double.read x with
 | nan a b => exact absurd hq (hx a b)
 | number a b c => exact ⟨_, by simp only [Ieee.Datum.quotient, if_neg hm]; rfl, nn_write (by intro s t; simp)⟩
 | infinity a => exact ⟨_, rfl, nn_write (by intro s t; simp)⟩
set_option maxHeartbeats 4000000
theorem nn_ofInt (m : Int) : NN (floatOfInt .f64 m) := by
 unfold floatOfInt
 first | exact nn_near _ _ _ | exact nn_write (by intro s t; simp) | (split <;> first | exact nn_near _ _ _ | exact nn_write (by intro s t; simp))
theorem nn_neg {x : Nat} (h : NN x) : NN (Op.negFloat .f64 x) := by
 have h2 : Ieee.double.signWeight = 2 ^ 63 := by decide
 have e : Op.negFloat .f64 x = x ^^^ 2 ^ 63 := rfl
 have hm : (x ^^^ 2 ^ 63) % 2 ^ 63 = x % 2 ^ 63 := by
  rw [Nat.xor_mod_two_pow]; simp
 intro s t hq
 rw [e] at hq
 unfold Ieee.Format.read at hq
 dsimp only at hq
 rw [h2, hm] at hq
 refine h (x / 2 ^ 63 % 2 == 1) (x % 2 ^ 63 - Ieee.double.infRung) ?_
 unfold Ieee.Format.read
 dsimp only
 rw [h2]
 split at hq
 ·cases hq
 ·split at hq
  ·cases hq
  ·split at hq
   ·cases hq
   ·rename_i a b c
    rw [if_neg a, if_neg b, if_neg c]
def P10n (w : World) : Prop := ∃ (a : Addr) (c : Nat), w.cell? ⟨11, 0, none⟩ = some (.slice (some a) 23 c) ∧ ∀ i, i < 23 → ∃ x : Nat, w.cell? (a.add i) = some (.float .f64 x) ∧ FN x
theorem mul_run {x y r : Nat} (h : floatBits .mul .f64 x y = some r) (w : World) : (binOp .mul 39 (.float .f64 x) (.float .f64 y)).run Tryz.prog w = .ok (.float .f64 r) w := run_float_arith (P := Tryz.prog) w .mul 39 .f64 x y r h
theorem quo_run {x y r : Nat} (h : floatBits .quo .f64 x y = some r) (w : World) : (binOp .quo 39 (.float .f64 x) (.float .f64 y)).run Tryz.prog w = .ok (.float .f64 r) w := run_float_arith (P := Tryz.prog) w .quo 39 .f64 x y r h
theorem atof64exact_det (m p : Int) (neg : Bool) (w0 : World) (hm : 0 ≤ m) (hm1 : m < 18446744073709551616) (hp : -100000 ≤ p) (hp1 : p ≤ 100000) (h60 : w0.cell? ⟨6, 0, none⟩ = some (.int .u64 52)) (T : P10n w0) : ∃ (x : Nat) (b : Bool), ∀ w, Below w0.heap.size w0 w →
  Calls Tryz.prog 226 #[.int .u64 m, .int .i64 p, .bool neg] w (fun e w' => e = .returned (.tuple #[.float .f64 x, .bool b]) ∧ Drawn0 w w') := by
 obtain ⟨a, cc, h110, hT⟩ := T
 have hT' := Aside0.mk hT
 have HG := Aside0.mk (And.intro h60 h110)
 clear hT h60 h110
 have hneg : ∀ (x : Nat) (w : World), (Op.unary .neg (.float .f64 x)).run Tryz.prog w = .ok (.float .f64 (Op.negFloat .f64 x)) w := fun _ _ => rfl
 by_cases c1 : m / 4503599627370496 = 0
 rotate_left
 ·have c1c : ((m / 4503599627370496) != 0) = true := bne_iff_ne.mpr c1
  refine ⟨0, false, fun w hbw => ?_⟩
  have h6 := pw_cell_below hbw HG.out.1
  have h11 := pw_cell_below hbw HG.out.2
  clear hbw
  go_enter Tryz.func226, Tryz.ntmps226
  go_wp2_with fail
  go_ret2
  exact ⟨rfl, 0, rfl⟩
 have c1b := beq_iff_eq.mpr c1
 have c1c : ((m / 4503599627370496) != 0) = false := bne_eq_false_iff_eq.mpr c1
 cases neg
 ·have HF : NN (floatOfInt .f64 m) := by first | exact nn_ofInt m | exact nn_neg (nn_ofInt m)
  by_cases e3 : p = 0
  ·subst e3
   refine ⟨(floatOfInt .f64 m), true, fun w hbw => ?_⟩
   have h6 := pw_cell_below hbw HG.out.1
   have h11 := pw_cell_below hbw HG.out.2
   clear hbw
   go_enter Tryz.func226, Tryz.ntmps226
   go_wp2_with fail
   go_ret2
   exact ⟨rfl, 0, rfl⟩
  have e1 : (p == 0) = false := beq_eq_false_iff_ne.mpr (by omega)
  by_cases e4 : 0 < p
  rotate_left
  ·by_cases e5 : -22 ≤ p
   rotate_left
   ·refine ⟨(floatOfInt .f64 m), false, fun w hbw => ?_⟩
    have h6 := pw_cell_below hbw HG.out.1
    have h11 := pw_cell_below hbw HG.out.2
    clear hbw
    go_enter Tryz.func226, Tryz.ntmps226
    go_wp2_with fail
    go_ret2
    exact ⟨rfl, 0, rfl⟩
   obtain ⟨x, hx0, hxn⟩ := hT'.out (-p).toNat (by omega)
   obtain ⟨r, hr, _⟩ := quo_nn HF hxn
   have hquo := quo_run hr
   have HX := Aside0.mk hx0
   clear hx0 hr hxn
   refine ⟨r, true, fun w hbw => ?_⟩
   have h6 := pw_cell_below hbw HG.out.1
   have h11 := pw_cell_below hbw HG.out.2
   have hx := pw_cell_below hbw HX.out
   clear hbw
   go_enter Tryz.func226, Tryz.ntmps226
   go_wp2_with fail
   go_ret2
   exact ⟨rfl, 0, rfl⟩
  by_cases e5 : p ≤ 22
  ·obtain ⟨x, hx0, hxn⟩ := hT'.out p.toNat (by omega)
   obtain ⟨r, hr, _⟩ := mul_nn HF hxn
   have hmul := mul_run hr
   have HX := Aside0.mk hx0
   clear hx0 hr hxn
   by_cases g1 : FloatKind.f64.format.order (floatOfInt .f64 m) 4831355200913801216 = some Ordering.gt
   ·have q1 := beq_iff_eq.mpr g1
    refine ⟨(floatOfInt .f64 m), false, fun w hbw => ?_⟩
    have h6 := pw_cell_below hbw HG.out.1
    have h11 := pw_cell_below hbw HG.out.2
    have hx := pw_cell_below hbw HX.out
    clear hbw
    go_enter Tryz.func226, Tryz.ntmps226
    go_wp2_with fail
    go_ret2
    exact ⟨rfl, 0, rfl⟩
   have q1 := beq_eq_false_iff_ne.mpr g1
   by_cases g2 : FloatKind.f64.format.order (floatOfInt .f64 m) 14054727237768577024 = some Ordering.lt
   ·have q2 := beq_iff_eq.mpr g2
    refine ⟨(floatOfInt .f64 m), false, fun w hbw => ?_⟩
    have h6 := pw_cell_below hbw HG.out.1
    have h11 := pw_cell_below hbw HG.out.2
    have hx := pw_cell_below hbw HX.out
    clear hbw
    go_enter Tryz.func226, Tryz.ntmps226
    go_wp2_with fail
    go_ret2
    exact ⟨rfl, 0, rfl⟩
   have q2 := beq_eq_false_iff_ne.mpr g2
   refine ⟨r, true, fun w hbw => ?_⟩
   have h6 := pw_cell_below hbw HG.out.1
   have h11 := pw_cell_below hbw HG.out.2
   have hx := pw_cell_below hbw HX.out
   clear hbw
   go_enter Tryz.func226, Tryz.ntmps226
   go_wp2_with fail
   go_ret2
   exact ⟨rfl, 0, rfl⟩
  by_cases e6 : p ≤ 37
  rotate_left
  ·refine ⟨(floatOfInt .f64 m), false, fun w hbw => ?_⟩
   have h6 := pw_cell_below hbw HG.out.1
   have h11 := pw_cell_below hbw HG.out.2
   clear hbw
   go_enter Tryz.func226, Tryz.ntmps226
   go_wp2_with fail
   go_ret2
   exact ⟨rfl, 0, rfl⟩
  obtain ⟨x, hx0, hxn⟩ := hT'.out (p - 22).toNat (by omega)
  obtain ⟨x2, hx20, hxn2⟩ := hT'.out 22 (by omega)
  obtain ⟨F1, hF1, HF1⟩ := mul_nn HF hxn
  obtain ⟨r, hr, _⟩ := mul_nn HF1 hxn2
  have hmul := mul_run hF1
  have hmul2 := mul_run hr
  have HX := Aside0.mk (And.intro hx0 hx20)
  clear hx0 hx20 hr hF1 hxn hxn2
  by_cases g1 : FloatKind.f64.format.order F1 4831355200913801216 = some Ordering.gt
  ·have q1 := beq_iff_eq.mpr g1
   refine ⟨F1, false, fun w hbw => ?_⟩
   have h6 := pw_cell_below hbw HG.out.1
   have h11 := pw_cell_below hbw HG.out.2
   have hx := pw_cell_below hbw HX.out.1
   have hx2 := pw_cell_below hbw HX.out.2
   have hx3 : w.cell? { block := a.block, off := a.off + 22 } = some (.float .f64 x2) := hx2
   clear hbw
   go_enter Tryz.func226, Tryz.ntmps226
   go_wp2_with fail
   go_ret2
   exact ⟨rfl, 0, rfl⟩
  have q1 := beq_eq_false_iff_ne.mpr g1
  by_cases g2 : FloatKind.f64.format.order F1 14054727237768577024 = some Ordering.lt
  ·have q2 := beq_iff_eq.mpr g2
   refine ⟨F1, false, fun w hbw => ?_⟩
   have h6 := pw_cell_below hbw HG.out.1
   have h11 := pw_cell_below hbw HG.out.2
   have hx := pw_cell_below hbw HX.out.1
   have hx2 := pw_cell_below hbw HX.out.2
   have hx3 : w.cell? { block := a.block, off := a.off + 22 } = some (.float .f64 x2) := hx2
   clear hbw
   go_enter Tryz.func226, Tryz.ntmps226
   go_wp2_with fail
   go_ret2
   exact ⟨rfl, 0, rfl⟩
  have q2 := beq_eq_false_iff_ne.mpr g2
  refine ⟨r, true, fun w hbw => ?_⟩
  have h6 := pw_cell_below hbw HG.out.1
  have h11 := pw_cell_below hbw HG.out.2
  have hx := pw_cell_below hbw HX.out.1
  have hx2 := pw_cell_below hbw HX.out.2
  have hx3 : w.cell? { block := a.block, off := a.off + 22 } = some (.float .f64 x2) := hx2
  clear hbw
  go_enter Tryz.func226, Tryz.ntmps226
  go_wp2_with fail
  go_ret2
  exact ⟨rfl, 0, rfl⟩
 ·have HF : NN (Op.negFloat .f64 (floatOfInt .f64 m)) := by first | exact nn_ofInt m | exact nn_neg (nn_ofInt m)
  by_cases e3 : p = 0
  ·subst e3
   refine ⟨(Op.negFloat .f64 (floatOfInt .f64 m)), true, fun w hbw => ?_⟩
   have h6 := pw_cell_below hbw HG.out.1
   have h11 := pw_cell_below hbw HG.out.2
   clear hbw
   go_enter Tryz.func226, Tryz.ntmps226
   go_wp2_with fail
   go_ret2
   exact ⟨rfl, 0, rfl⟩
  have e1 : (p == 0) = false := beq_eq_false_iff_ne.mpr (by omega)
  by_cases e4 : 0 < p
  rotate_left
  ·by_cases e5 : -22 ≤ p
   rotate_left
   ·refine ⟨(Op.negFloat .f64 (floatOfInt .f64 m)), false, fun w hbw => ?_⟩
    have h6 := pw_cell_below hbw HG.out.1
    have h11 := pw_cell_below hbw HG.out.2
    clear hbw
    go_enter Tryz.func226, Tryz.ntmps226
    go_wp2_with fail
    go_ret2
    exact ⟨rfl, 0, rfl⟩
   obtain ⟨x, hx0, hxn⟩ := hT'.out (-p).toNat (by omega)
   obtain ⟨r, hr, _⟩ := quo_nn HF hxn
   have hquo := quo_run hr
   have HX := Aside0.mk hx0
   clear hx0 hr hxn
   refine ⟨r, true, fun w hbw => ?_⟩
   have h6 := pw_cell_below hbw HG.out.1
   have h11 := pw_cell_below hbw HG.out.2
   have hx := pw_cell_below hbw HX.out
   clear hbw
   go_enter Tryz.func226, Tryz.ntmps226
   go_wp2_with fail
   go_ret2
   exact ⟨rfl, 0, rfl⟩
  by_cases e5 : p ≤ 22
  ·obtain ⟨x, hx0, hxn⟩ := hT'.out p.toNat (by omega)
   obtain ⟨r, hr, _⟩ := mul_nn HF hxn
   have hmul := mul_run hr
   have HX := Aside0.mk hx0
   clear hx0 hr hxn
   by_cases g1 : FloatKind.f64.format.order (Op.negFloat .f64 (floatOfInt .f64 m)) 4831355200913801216 = some Ordering.gt
   ·have q1 := beq_iff_eq.mpr g1
    refine ⟨(Op.negFloat .f64 (floatOfInt .f64 m)), false, fun w hbw => ?_⟩
    have h6 := pw_cell_below hbw HG.out.1
    have h11 := pw_cell_below hbw HG.out.2
    have hx := pw_cell_below hbw HX.out
    clear hbw
    go_enter Tryz.func226, Tryz.ntmps226
    go_wp2_with fail
    go_ret2
    exact ⟨rfl, 0, rfl⟩
   have q1 := beq_eq_false_iff_ne.mpr g1
   by_cases g2 : FloatKind.f64.format.order (Op.negFloat .f64 (floatOfInt .f64 m)) 14054727237768577024 = some Ordering.lt
   ·have q2 := beq_iff_eq.mpr g2
    refine ⟨(Op.negFloat .f64 (floatOfInt .f64 m)), false, fun w hbw => ?_⟩
    have h6 := pw_cell_below hbw HG.out.1
    have h11 := pw_cell_below hbw HG.out.2
    have hx := pw_cell_below hbw HX.out
    clear hbw
    go_enter Tryz.func226, Tryz.ntmps226
    go_wp2_with fail
    go_ret2
    exact ⟨rfl, 0, rfl⟩
   have q2 := beq_eq_false_iff_ne.mpr g2
   refine ⟨r, true, fun w hbw => ?_⟩
   have h6 := pw_cell_below hbw HG.out.1
   have h11 := pw_cell_below hbw HG.out.2
   have hx := pw_cell_below hbw HX.out
   clear hbw
   go_enter Tryz.func226, Tryz.ntmps226
   go_wp2_with fail
   go_ret2
   exact ⟨rfl, 0, rfl⟩
  by_cases e6 : p ≤ 37
  rotate_left
  ·refine ⟨(Op.negFloat .f64 (floatOfInt .f64 m)), false, fun w hbw => ?_⟩
   have h6 := pw_cell_below hbw HG.out.1
   have h11 := pw_cell_below hbw HG.out.2
   clear hbw
   go_enter Tryz.func226, Tryz.ntmps226
   go_wp2_with fail
   go_ret2
   exact ⟨rfl, 0, rfl⟩
  obtain ⟨x, hx0, hxn⟩ := hT'.out (p - 22).toNat (by omega)
  obtain ⟨x2, hx20, hxn2⟩ := hT'.out 22 (by omega)
  obtain ⟨F1, hF1, HF1⟩ := mul_nn HF hxn
  obtain ⟨r, hr, _⟩ := mul_nn HF1 hxn2
  have hmul := mul_run hF1
  have hmul2 := mul_run hr
  have HX := Aside0.mk (And.intro hx0 hx20)
  clear hx0 hx20 hr hF1 hxn hxn2
  by_cases g1 : FloatKind.f64.format.order F1 4831355200913801216 = some Ordering.gt
  ·have q1 := beq_iff_eq.mpr g1
   refine ⟨F1, false, fun w hbw => ?_⟩
   have h6 := pw_cell_below hbw HG.out.1
   have h11 := pw_cell_below hbw HG.out.2
   have hx := pw_cell_below hbw HX.out.1
   have hx2 := pw_cell_below hbw HX.out.2
   have hx3 : w.cell? { block := a.block, off := a.off + 22 } = some (.float .f64 x2) := hx2
   clear hbw
   go_enter Tryz.func226, Tryz.ntmps226
   go_wp2_with fail
   go_ret2
   exact ⟨rfl, 0, rfl⟩
  have q1 := beq_eq_false_iff_ne.mpr g1
  by_cases g2 : FloatKind.f64.format.order F1 14054727237768577024 = some Ordering.lt
  ·have q2 := beq_iff_eq.mpr g2
   refine ⟨F1, false, fun w hbw => ?_⟩
   have h6 := pw_cell_below hbw HG.out.1
   have h11 := pw_cell_below hbw HG.out.2
   have hx := pw_cell_below hbw HX.out.1
   have hx2 := pw_cell_below hbw HX.out.2
   have hx3 : w.cell? { block := a.block, off := a.off + 22 } = some (.float .f64 x2) := hx2
   clear hbw
   go_enter Tryz.func226, Tryz.ntmps226
   go_wp2_with fail
   go_ret2
   exact ⟨rfl, 0, rfl⟩
  have q2 := beq_eq_false_iff_ne.mpr g2
  refine ⟨r, true, fun w hbw => ?_⟩
  have h6 := pw_cell_below hbw HG.out.1
  have h11 := pw_cell_below hbw HG.out.2
  have hx := pw_cell_below hbw HX.out.1
  have hx2 := pw_cell_below hbw HX.out.2
  have hx3 : w.cell? { block := a.block, off := a.off + 22 } = some (.float .f64 x2) := hx2
  clear hbw
  go_enter Tryz.func226, Tryz.ntmps226
  go_wp2_with fail
  go_ret2
  exact ⟨rfl, 0, rfl⟩
set_option maxHeartbeats 4000000
set_option maxRecDepth 8192
theorem readFloat_det (s : ByteArray) (a b c : Int) (w : World) (hz : s.size < 1000000000) (N : NumAt s a b c) :
  Calls Tryz.prog 216 #[.string s] w (RFD s a b c (decide (a = 1)) w) := by
 have hbt := bt_at s
 have hs : 0 < s.size := by rcases N.a0 with h | h <;> (have := N.ab; have := N.bc; have := N.cs; omega)
 have hne : s ≠ ByteArray.empty := by rintro rfl; simp at hs
 have hb0 : ∀ h : 0 < s.size, ((s[0]'h).toNat : Int) = bt s 0 := bt_at s 0
 have hb1 : ∀ h : 1 < s.size, ((s[1]'h).toNat : Int) = bt s 1 := bt_at s 1
 have hb2 : ∀ h : 2 < s.size, ((s[2]'h).toNat : Int) = bt s 2 := bt_at s 2
 have hlx : ∀ i, a < i → i ≤ c → i < s.size → (bits .or .u8 (bt s i) 32 == 120) = false := by
  intro i h1 h2 h3
  have hr := bt_range s i
  have hA : bt s i ≠ 120 ∧ bt s i ≠ 88 := by
   by_cases e1 : i < b
   ·have := N.ints i (by omega) e1; omega
   by_cases e2 : i < c
   rotate_left
   ·have e5 : i = c := by omega
    subst e5
    rcases N.ex with e3 | e3 <;> omega
   rcases N.frac with e3 | e3
   ·omega
   by_cases e4 : i = b
   ·subst e4; omega
   ·have := e3.2.2 i (by omega) e2; omega
  exact beq_eq_false_iff_ne.mpr (lower_x _ hr.1 hr.2 hA.1 hA.2)
 rcases N.a0 with rfl | ⟨rfl, h45⟩
 rotate_left
 ·have hd0 := N.ints 1 (by omega) N.ab
  have h43 : (bt s 0 == 43) = false := beq_eq_false_iff_ne.mpr (by omega)
  have h45 : (bt s 0 == 45) = true := beq_iff_eq.mpr (by omega)
  have hl1 : 2 < s.size → (bits .or .u8 (bt s 2) 32 == 120) = false := fun h => hlx 2 (by omega) (by have := N.ab; have := N.bc; omega) (by omega)
  clear hlx
  have HN := Aside0.mk N
  clear N
  go_enter Tryz.func216, Tryz.ntmps216
  go_wp2_with fail
  go_step3
  go_wp2_with (go_at_call 188; refine (Tryz.internal_strconv_lower _ _).mono ?_; rintro e w' ⟨rfl, hw2⟩; obtain rfl := hw2.symm)
  all_goals first
   | (exfalso; have := hl1 (by omega); simp_all; done)
   | skip
  all_goals go_step3
  all_goals (try simp only [Exit.then])
  all_goals refine (‹∀ (a : Act) (w_1 : World), Code.wp Tryz.prog _ _ a w_1 → _› _ _ ?_)
  all_goals exact readFloat_tail_det s 1 b c true w _ _ _ _ _ _ _ _ _ _ _ _ _ _ _ _ _ _ _ _ _ _ _ _ _ _ _ _ _ _ _ _ _ _ _ _ _ _ _ _ hz HN.out
 have hd0 := N.ints 0 (by omega) N.ab
 have h43 : (bt s 0 == 43) = false := beq_eq_false_iff_ne.mpr (by omega)
 have h45 : (bt s 0 == 45) = false := beq_eq_false_iff_ne.mpr (by omega)
 have hl1 : 1 < s.size → (bits .or .u8 (bt s 1) 32 == 120) = false := fun h => hlx 1 (by omega) (by have := N.ab; have := N.bc; omega) (by omega)
 clear hlx
 have HN := Aside0.mk N
 clear N
 go_enter Tryz.func216, Tryz.ntmps216
 go_wp2_with fail
 go_step3
 go_wp2_with (go_at_call 188; refine (Tryz.internal_strconv_lower _ _).mono ?_; rintro e w' ⟨rfl, hw2⟩; obtain rfl := hw2.symm)
 all_goals first
  | (exfalso; have := hl1 (by omega); simp_all; done)
  | skip
 all_goals go_step3
 all_goals (try simp only [Exit.then])
 all_goals refine (‹∀ (a : Act) (w_1 : World), Code.wp Tryz.prog _ _ a w_1 → _› _ _ ?_)
 all_goals exact readFloat_tail_det s 0 b c false w _ _ _ _ _ _ _ _ _ _ _ _ _ _ _ _ _ _ _ _ _ _ _ _ _ _ _ _ _ _ _ _ _ _ _ _ _ _ _ _ hz HN.out
set_option maxHeartbeats 4000000
set_option maxRecDepth 8192
structure Tabs (w : World) : Prop where
 op : w.cell? ⟨1, 0, none⟩ = some (.bool true)
 fi : FI w
 ch : Cheats w
 pt : PowTab w
 pw : Pow w
 pe : P10n w
 er : ∃ ev, w.cell? ⟨3, 0, none⟩ = some ev ∧ (ev = .nilIface ∨ ∃ te pe, ev = .iface te pe)
theorem Tabs.below {w w' : World} (h : Tabs w) (hb : Below w.heap.size w w') : Tabs w' := by
 obtain ⟨h1, h2, ⟨a, c, h3, h3'⟩, ⟨a2, c2, h4, h4', h4''⟩, h5, ⟨a3, c3, h6, h6'⟩, ev, h7, h7'⟩ := h
 refine ⟨pw_cell_below hb h1, ⟨pw_cell_below hb h2.a, pw_cell_below hb h2.b, pw_cell_below hb h2.c⟩, ⟨a, c, pw_cell_below hb h3, fun k x hk => ⟨pw_cell_below hb (h3' k x hk).1, pw_cell_below hb (h3' k x hk).2⟩⟩, ⟨a2, c2, pw_cell_below hb h4, fun i hi => pw_cell_below hb (h4' i hi), pw_cell_below hb h4''⟩, h5.below hb, ⟨a3, c3, pw_cell_below hb h6, fun i hi => ?_⟩, ev, pw_cell_below hb h7, h7'⟩
 obtain ⟨x, hx, hn⟩ := h6' i hi
 exact ⟨x, pw_cell_below hb hx, hn⟩
theorem cpl_calls (t p : ByteArray) (w : World) (h : 0 < t.size) (hd : 48 ≤ bt t 0 ∧ bt t 0 ≤ 57) (hp : 0 < p.size) (hc : bt p 0 ≥ 97) (hz : t.size < 1000000000) (hz2 : p.size < 100) :
  Calls Tryz.prog 238 #[.string t, .string p] w fun e w' => e = .returned (.int .i64 0) ∧ w = w' := by
 have hb0 : ∀ h : 0 < t.size, ((t[0]'h).toNat : Int) = bt t 0 := bt_at t 0
 have hb1 : ∀ h : 0 < p.size, ((p[0]'h).toNat : Int) = bt p 0 := bt_at p 0
 have x1 : decide (65 ≤ bt t 0) = false := decide_eq_false (by omega)
 have x2 : (bt t 0 != bt p 0) = true := bne_iff_ne.mpr (by omega)
 have hn : 0 < min (p.size : Int) (t.size : Int) := by omega
 obtain ⟨n, hn'⟩ : ∃ n, n = min (p.size : Int) (t.size : Int) := ⟨_, rfl⟩
 go_enter Tryz.func238, Tryz.ntmps238
 go_wp2_with fail
 go_loopg [6, 7] 0 (fun kq v6 v7 w' => v6 = .int .i64 0 ∧ w = w')
 case atStart => exact ⟨rfl, rfl⟩
 obtain ⟨rfl, rfl⟩ := hrel
 go_wp2_with fail
 go_ret
 exact ⟨rfl, rfl⟩
theorem special_calls (s : ByteArray) (a b c : Int) (w : World) (hz : s.size < 1000000000) (N : NumAt s a b c) :
  Calls Tryz.prog 215 #[.string s] w fun e w' => e = .returned (.tuple #[.float .f64 0, .int .i64 0, .bool false]) ∧ w = w' := by
 have hs : 0 < s.size := by rcases N.a0 with h | h <;> (have := N.ab; have := N.bc; have := N.cs; omega)
 have hb0 : ∀ h : 0 < s.size, ((s[0]'h).toNat : Int) = bt s 0 := bt_at s 0
 have hz0 : ((s.size : Int) == 0) = false := beq_eq_false_iff_ne.mpr (by omega)
 rcases N.a0 with rfl | ⟨rfl, h45⟩
 ·have hd0 := N.ints 0 (by omega) N.ab
  have x1 : (bt s 0 == 43) = false := beq_eq_false_iff_ne.mpr (by omega)
  have x2 : (bt s 0 == 45) = false := beq_eq_false_iff_ne.mpr (by omega)
  have x3 : (bt s 0 == 105) = false := beq_eq_false_iff_ne.mpr (by omega)
  have x4 : (bt s 0 == 73) = false := beq_eq_false_iff_ne.mpr (by omega)
  have x5 : (bt s 0 == 110) = false := beq_eq_false_iff_ne.mpr (by omega)
  have x6 : (bt s 0 == 78) = false := beq_eq_false_iff_ne.mpr (by omega)
  clear N
  go_enter Tryz.func215, Tryz.ntmps215
  go_wp2_with fail
  go_ret3
  exact ⟨rfl, rfl⟩
 have hd0 := N.ints 1 (by omega) N.ab
 have hs2 : 1 < s.size := by have := N.ab; have := N.bc; have := N.cs; omega
 have x1 : (bt s 0 == 43) = false := beq_eq_false_iff_ne.mpr (by omega)
 have x2 : (bt s 0 == 45) = true := beq_iff_eq.mpr (by omega)
 have e1 : bt (s.extract 1 s.size) 0 = bt s 1 := by
  unfold bt
  rw [dif_pos (by rw [ByteArray.size_extract]; omega), dif_pos (by omega), ByteArray.getElem_extract]
  rfl
 clear N h45
 go_enter Tryz.func215, Tryz.ntmps215
 go_wp2_with fail
 refine (cpl_calls _ _ _ (by rw [ByteArray.size_extract]; omega) (by rw [e1]; exact hd0) (by decide) (by decide) (by rw [ByteArray.size_extract]; omega) (by decide)).mono ?_
 rintro e w' ⟨rfl, rfl⟩
 go_wp2_with fail
 go_ret3
 exact ⟨rfl, rfl⟩
theorem below_d {w w2 : World} {n : Nat} (h : Below (w.drewN n).heap.size (w.drewN n) w2) : Below w.heap.size w w2 := (Drawn0.below ⟨n, rfl⟩).trans h
theorem zero202 : Tryz.zeroCells202 = (List.replicate 800 (Value.int .u8 0)).toArray ++ #[.int .i64 0, .int .i64 0, .bool false, .bool false] := by kernel_rfl
theorem rep_at (n : Nat) (v : Value) (ys : Array Value) : (∀ i, i < n → ((List.replicate n v).toArray ++ ys)[i]? = some v) ∧ (∀ i, ((List.replicate n v).toArray ++ ys)[n + i]? = ys[i]?) ∧ ((List.replicate n v).toArray ++ ys).size = n + ys.size := by
 have hs : (List.replicate n v).toArray.size = n := by rw [List.size_toArray, List.length_replicate]
 refine ⟨fun i hi => ?_, fun i => ?_, ?_⟩
 ·rw [Array.getElem?_append_left (by omega), List.getElem?_toArray, List.getElem?_replicate, if_pos hi]
 ·rw [Array.getElem?_append_right (by omega), hs, Nat.add_sub_cancel_left]
 ·rw [Array.size_append, hs]
theorem decC_rep (n : Nat) (h : n = 800) : DecC ((List.replicate n (Value.int .u8 0)).toArray ++ #[.int .i64 0, .int .i64 0, .bool false, .bool false]) (fun _ => 0) 0 0 false false := by
 obtain ⟨h1, h2, h3⟩ := rep_at n (.int .u8 0) #[.int .i64 0, .int .i64 0, .bool false, .bool false]
 subst h
 exact ⟨h3, h1, h2 0, h2 1, h2 2, h2 3⟩
theorem decC_zero : DecC Tryz.zeroCells202 (fun _ => 0) 0 0 false false := by
 rw [zero202]
 exact decC_rep _ rfl
theorem dec_new {w w3 : World} (hb : Below w.heap.size w w3) : Dec w (w3.alloc (.cells Tryz.zeroCells202 202)) w3.heap.size (fun _ => 0) 0 0 false false :=
 ⟨⟨_, heap_alloc_new _ _, decC_zero⟩, hb.size, below_alloc hb _⟩
def AF (x : Nat) (v : Value) (s : ByteArray) (w : World) (e : Ending) (w' : World) : Prop := e = .returned (.tuple #[.float .f64 x, .int .i64 s.size, v]) ∧ (v = .nilIface ∨ v = .iface 181 (.int .i64 1)) ∧ Below w.heap.size w w'
theorem AF.of {x y : Nat} {v u : Value} {s : ByteArray} {w w' : World} {e : Ending} (h : e = .returned (.tuple #[.float .f64 y, .int .i64 s.size, u])) (ho : u = .nilIface ∨ u = .iface 181 (.int .i64 1)) (hb : Below w.heap.size w w') (hq : y = x ∧ u = v) : AF x v s w e w' := by
 obtain ⟨rfl, rfl⟩ := hq
 exact ⟨h, ho, hb⟩
def avV (m p : Int) (t : Bool) (x0 : Nat) (b0 : Bool) (x1 : Nat) (v1 : Value) (x2 : Nat) (x3 : Int) (b3 neg : Bool) : Nat × Value :=
 if m = 0 then ((bits .or .u64 (IntKind.u64.wrap (bI neg * 9223372036854775808)) 0).toNat, .nilIface)
 else if 310 < p then ((bits .or .u64 (IntKind.u64.wrap (bI neg * 9223372036854775808)) 9218868437227405312).toNat, .iface 181 (.int .i64 1))
 else if p < -345 then ((bits .or .u64 (IntKind.u64.wrap (bI neg * 9223372036854775808)) 0).toNat, .nilIface)
 else if t = false then (if b0 = true then (x0, .nilIface) else (x1, v1))
 else if (FloatKind.f64.format.order x1 x2 == some Ordering.eq) = true then (x1, v1)
 else (x3.toNat, if b3 = true then .iface 181 (.int .i64 1) else .nilIface)
theorem av_0 {m p : Int} {t : Bool} {x0 : Nat} {b0 : Bool} {x1 : Nat} {v1 : Value} {x2 : Nat} {x3 : Int} {b3 neg : Bool} {X : Nat × Value} (h : X = avV m p t x0 b0 x1 v1 x2 x3 b3 neg) (h0 : (m == 0) = true) : (bits .or .u64 (IntKind.u64.wrap (bI neg * 9223372036854775808)) 0).toNat = X.1 ∧ Value.nilIface = X.2 := by
 rw [h, avV, if_pos (eq_of_beq h0)]
 exact ⟨rfl, rfl⟩
theorem av_1 {m p : Int} {t : Bool} {x0 : Nat} {b0 : Bool} {x1 : Nat} {v1 : Value} {x2 : Nat} {x3 : Int} {b3 neg : Bool} {X : Nat × Value} (h : X = avV m p t x0 b0 x1 v1 x2 x3 b3 neg) (h0 : (m == 0) = false) (h1 : 310 < p) : (bits .or .u64 (IntKind.u64.wrap (bI neg * 9223372036854775808)) 9218868437227405312).toNat = X.1 ∧ Value.iface 181 (.int .i64 1) = X.2 := by
 rw [h, avV, if_neg (beq_eq_false_iff_ne.mp h0), if_pos h1]
 exact ⟨rfl, rfl⟩
theorem av_2 {m p : Int} {t : Bool} {x0 : Nat} {b0 : Bool} {x1 : Nat} {v1 : Value} {x2 : Nat} {x3 : Int} {b3 neg : Bool} {X : Nat × Value} (h : X = avV m p t x0 b0 x1 v1 x2 x3 b3 neg) (h0 : (m == 0) = false) (h2 : p < -345) : (bits .or .u64 (IntKind.u64.wrap (bI neg * 9223372036854775808)) 0).toNat = X.1 ∧ Value.nilIface = X.2 := by
 have h1 : ¬ 310 < p := by omega
 rw [h, avV, if_neg (beq_eq_false_iff_ne.mp h0), if_neg h1, if_pos h2]
 exact ⟨rfl, rfl⟩
theorem av_3 {m p : Int} {t : Bool} {x0 : Nat} {b0 : Bool} {x1 : Nat} {v1 : Value} {x2 : Nat} {x3 : Int} {b3 neg : Bool} {X : Nat × Value} (h : X = avV m p t x0 b0 x1 v1 x2 x3 b3 neg) (h0 : (m == 0) = false) (h1 : p ≤ 310) (h2 : -345 ≤ p) :
  X = if t = false then (if b0 = true then (x0, .nilIface) else (x1, v1)) else if (FloatKind.f64.format.order x1 x2 == some Ordering.eq) = true then (x1, v1) else (x3.toNat, if b3 = true then .iface 181 (.int .i64 1) else .nilIface) := by
 have h1 : ¬ 310 < p := by omega
 have h2 : ¬ p < -345 := by omega
 rw [h, avV, if_neg (beq_eq_false_iff_ne.mp h0), if_neg h1, if_neg h2]
theorem opt_det {A B : Type} [Inhabited A] [Inhabited B] {P : Prop} {Q : A → B → Prop} (h : P → ∃ x v, Q x v) : ∃ x v, P → Q x v := by
 by_cases hp : P
 ·obtain ⟨x, v, hq⟩ := h hp
  exact ⟨x, v, fun _ => hq⟩
 ·exact ⟨default, default, fun q => absurd q hp⟩
theorem atof64_det (s : ByteArray) (a b c : Int) (w0 : World) (hz : s.size < 1000000000) (N : NumAt s a b c) (T : Tabs w0) : ∃ (x : Nat) (v : Value), ∀ w, Below w0.heap.size w0 w →
  Calls Tryz.prog 184 #[.string s] w (AF x v s w) := by
 have hf := run_frombits
 obtain ⟨neg, hneg⟩ : ∃ neg, neg = decide (a = 1) := ⟨_, rfl⟩
 obtain ⟨m, hm⟩ : ∃ m, m = (rfAt s a (c - a).toNat).m := ⟨_, rfl⟩
 obtain ⟨p, hp⟩ : ∃ p, p = rfX s b c (rfAt s a (c - a).toNat) := ⟨_, rfl⟩
 obtain ⟨t, ht⟩ : ∃ t, t = (rfAt s a (c - a).toNat).t := ⟨_, rfl⟩
 obtain ⟨x0, b0, D0⟩ := opt_det (P := (0 ≤ m ∧ m < 18446744073709551616) ∧ -345 ≤ p ∧ p ≤ 310) fun h => atof64exact_det m p neg w0 h.1.1 h.1.2 (by omega) (by omega) T.fi.a T.pe
 obtain ⟨x1, v1, D1⟩ := opt_det (P := (0 ≤ m ∧ m < 18446744073709551616) ∧ -345 ≤ p ∧ p ≤ 310) fun h => parseFloat64_det m p (IntKind.u64.wrap (bI neg * 9223372036854775808)) w0 h.1.1 h.1.2 (by omega) (by omega) T.pw
 obtain ⟨x2, v2, D2⟩ := opt_det (P := -345 ≤ p ∧ p ≤ 310) fun h => parseFloat64_det (IntKind.u64.wrap (m + 1)) p (IntKind.u64.wrap (bI neg * 9223372036854775808)) w0 (wrapu64 (m + 1)).1 (wrapu64 (m + 1)).2 (by omega) (by omega) T.pw
 obtain ⟨x3, b3, D3⟩ := opt_det (P := ∃ x b', FB neg (SX s a b c (fun _ => 0) false) (x, b')) fun h => h
 have E1 := Aside0.mk (And.intro hm (And.intro hp (And.intro ht hneg)))
 have H0 := Aside0.mk D0
 have H1 := Aside0.mk D1
 have H2 := Aside0.mk D2
 have H3 := Aside0.mk D3
 clear D0 D1 D2 D3
 have HT := Aside0.mk T
 have HN := Aside0.mk N
 clear T N hm hp ht
 obtain ⟨XV, hX⟩ : ∃ XV, XV = avV m p t x0 b0 x1 v1 x2 x3 b3 neg := ⟨_, rfl⟩
 have HX := Aside0.mk hX
 clear hX
 refine ⟨XV.1, XV.2, fun w hw => ?_⟩
 have hop := pw_cell_below hw HT.out.op
 have HW := Aside0.mk hw
 clear hw
 go_enter Tryz.func184, Tryz.ntmps184
 go_wp2_with fail
 refine (special_calls s a b c _ hz HN.out).mono ?_
 rintro e w' ⟨rfl, rfl⟩
 go_wp2_with fail
 refine (readFloat_det s a b c _ hz HN.out).mono ?_
 rintro e w' ⟨m', p', t', rfl, ⟨hm0, hm1⟩, ⟨hp0, hp1⟩, ⟨h1, h2, h3⟩, hw⟩
 obtain rfl := hw.symm
 obtain rfl := h1.trans E1.out.1.symm
 obtain rfl := h2.trans E1.out.2.1.symm
 obtain rfl := h3.trans E1.out.2.2.1.symm
 clear hw h1 h2 h3
 rw [← E1.out.2.2.2]
 clear hneg
 go_wp2_with fail
 refine (bool2_det neg _).mono ?_
 rintro e w' ⟨rfl, hw⟩
 obtain rfl := hw.symm
 clear hw
 by_cases m0 : m' = 0
 ·have m0b : (m' == 0) = true := beq_iff_eq.mpr m0
  clear m0
  go_wp2_with fail
  go_ret3
  refine AF.of rfl (.inl rfl) (Below.refl _ _) (av_0 HX.out m0b)
 have m0b : (m' == 0) = false := beq_eq_false_iff_ne.mpr m0
 clear m0
 by_cases p1 : 310 < p'
 ·go_wp2_with fail
  go_ret3
  refine AF.of rfl (.inr rfl) (Below.refl _ _) (av_1 HX.out m0b (by omega))
 by_cases p2 : p' < -345
 ·go_wp2_with fail
  go_ret3
  refine AF.of rfl (.inl rfl) (Below.refl _ _) (av_2 HX.out m0b (by omega))
 cases t'
 ·go_wp2_with fail
  refine (H0.out ⟨⟨hm0, hm1⟩, by omega, by omega⟩ _ HW.out).mono ?_
  rintro e w' ⟨rfl, ⟨n1, rfl⟩⟩
  cases b0
  rotate_left
  ·go_wp2_with fail
   go_ret3
   refine AF.of rfl (.inl rfl) (Drawn0.below ⟨n1, rfl⟩) (by have h := av_3 HX.out m0b (by omega) (by omega); rw [h]; exact ⟨rfl, rfl⟩)
  go_wp2_with fail
  refine (H1.out ⟨⟨hm0, hm1⟩, by omega, by omega⟩ _ (pw_below_drewN HW.out n1)).mono ?_
  rintro e w2 ⟨rfl, hv, hb⟩
  have hB : Below w.heap.size w w2 := below_d hb
  go_wp2_with fail
  go_ret3
  refine AF.of rfl hv hB (by have h := av_3 HX.out m0b (by omega) (by omega); rw [h]; exact ⟨rfl, rfl⟩)
 go_wp2_with fail
 refine (H1.out ⟨⟨hm0, hm1⟩, by omega, by omega⟩ _ HW.out).mono ?_
 rintro e w2 ⟨rfl, hv, hb⟩
 go_wp2_with fail
 refine (H2.out ⟨by omega, by omega⟩ _ (HW.out.trans (hb.mono HW.out.size))).mono ?_
 rintro e w3 ⟨rfl, hv2, hb2⟩
 have hb3 : Below w.heap.size w w3 := hb.trans (hb2.mono hb.size)
 clear hb hb2
 go_wp2_with fail
 ·go_ret3
  refine AF.of rfl hv hb3 (by have h := av_3 HX.out m0b (by omega) (by omega); rw [if_neg (by simp), if_pos (by assumption)] at h; rw [h]; exact ⟨rfl, rfl⟩)
 have HTw := Aside0.mk (HT.out.below HW.out)
 have HC := av_3 HX.out m0b (by omega) (by omega)
 rw [if_neg (by simp), if_neg (by simp_all)] at HC
 have HC' := Aside0.mk HC
 clear HC
 refine (set_calls s a b c w _ w3.heap.size _ _ _ (dec_new hb3) hz HN.out).mono ?_
 rintro e w4 ⟨rfl, d, nd, dp, tr, HD, hn, hd, h0, hdp, hSX⟩
 rw [← E1.out.2.2.2] at HD
 go_wp2_with fail
 refine (floatBits_calls w w4 w3.heap.size d nd dp neg tr HD HTw.out.fi HTw.out.ch HTw.out.pt hn hd h0 hdp).mono ?_
 rintro e w5 ⟨x, ov, rfl, hb5, hFB⟩
 rw [hSX] at hFB
 have hq := H3.out ⟨x, ov, hFB⟩
 obtain ⟨rfl, rfl⟩ := Prod.mk.inj (hq.one hFB)
 clear hq hFB hSX
 cases b3
 rotate_left
 ·go_wp2_with fail
  go_ret3
  refine AF.of rfl (.inr rfl) hb5 (by rw [HC'.out]; exact ⟨rfl, rfl⟩)
 go_wp2_with fail
 go_ret3
 refine AF.of rfl (.inl rfl) hb5 (by rw [HC'.out]; exact ⟨rfl, rfl⟩)
theorem pfPrefix_det (s : ByteArray) (w : World) (x : Nat) (v : Value) (hz : s.size < 1000000000) (H : Calls Tryz.prog 184 #[.string s] w (AF x v s w)) :
  Calls Tryz.prog 148 #[.string s, .int .i64 64] w (AF x v s w) := by
 have HC := Aside0.mk H
 clear H
 go_enter Tryz.func148, Tryz.ntmps148
 go_wp2_with fail
 refine HC.out.mono ?_
 rintro e w' ⟨rfl, hv, hb⟩
 go_wp2_with fail
 go_ret3
 exact ⟨rfl, hv, hb⟩
theorem ipf_det (s : ByteArray) (w : World) (x : Nat) (v : Value) (hz : s.size < 1000000000) (H : Calls Tryz.prog 184 #[.string s] w (AF x v s w)) :
  Calls Tryz.prog 120 #[.string s, .int .i64 64] w (FDet x v w) := by
 have HC := Aside0.mk (pfPrefix_det s w x v hz H)
 clear H
 go_enter Tryz.func120, Tryz.ntmps120
 go_wp2_with fail
 refine HC.out.mono ?_
 rintro e w' ⟨rfl, hv, hb⟩
 go_wp2_with fail
 go_ret2
 exact ⟨rfl, hv, hb⟩
def FAny (x : Nat) (w : World) (e : Ending) (w' : World) : Prop := ∃ v : Value, e = .returned (.tuple #[.float .f64 x, v]) ∧ Below w.heap.size w w'
theorem pf_one (s : ByteArray) (w : World) (x : Nat) (v : Value) (hz : s.size < 1000000000) (T : Tabs w) (H : Calls Tryz.prog 184 #[.string s] w (AF x v s w)) :
  Calls Tryz.prog 91 #[.string s, .int .i64 64] w (FAny x w) := by
 have HC := Aside0.mk (ipf_det s w x v hz H)
 have HT := Aside0.mk T
 clear T H
 go_enter Tryz.func91, Tryz.ntmps91
 go_wp2_with fail
 refine HC.out.mono ?_
 rintro e w' ⟨rfl, hv, hb⟩
 clear HC
 rcases hv with rfl | rfl
 ·go_wp2_with fail
  go_ret2
  exact ⟨_, rfl, hb⟩
 obtain ⟨ev, he, hev⟩ := (HT.out.below hb).er
 go_wp2_with fail
 refine (Tryz.strconv_toError_range _ s 0 64 ev w' (by omega) he hev).mono ?_
 rintro e w2 ⟨n, rfl, hn, hbk, hb2⟩
 have hb3 : Below w.heap.size w w2 := hb.trans (hb2.mono hb.size)
 clear hbk hb2 hb
 go_wp2_with fail
 go_ret2
 exact ⟨_, rfl, hb3⟩
theorem pf_det (s : ByteArray) (a b c : Int) (w0 : World) (hz : s.size < 1000000000) (N : NumAt s a b c) (T : Tabs w0) : ∃ x : Nat, ∀ w, Below w0.heap.size w0 w → Calls Tryz.prog 91 #[.string s, .int .i64 64] w (FAny x w) := by
 obtain ⟨x, v, h⟩ := atof64_det s a b c w0 hz N T
 exact ⟨x, fun w hw => pf_one s w x v hz (T.below hw) (h w hw)⟩
end Go.Proofs.YtgiioglmkogpkaaGreatDoor.F
namespace Go.Proofs.YtgiioglmkogpkaaGreatDoor.F
open Go.RowKit Go.Proofs.YtgiioglmkogpkaaGreatDoorW.PrintWords Go.Proofs.YtgiioglmkogpkaaGreatDoorW.PrintLast Go.Proofs.YtgiioglmkogpkaaGreatDoorW.PrintMore
open M L
theorem run_store_float (P : Program) (w : World) (a : Addr) (m : Mode) (k : FloatKind) (x : Nat) : (store a (.float k x) m).run P w = stored P w a (.float k x) m := run_store P w a _ m rfl
attribute [local go_sem] run_store_float
end Go.Proofs.YtgiioglmkogpkaaGreatDoor.F
namespace Go.Proofs.YtgiioglmkogpkaaGreatDoor.F
open Go.RowKit Go.Proofs.YtgiioglmkogpkaaGreatDoorW.PrintWords Go.Proofs.YtgiioglmkogpkaaGreatDoorW.PrintLast Go.Proofs.YtgiioglmkogpkaaGreatDoorW.PrintMore
open M L
end Go.Proofs.YtgiioglmkogpkaaGreatDoor.F
namespace Go.Proofs.YtgiioglmkogpkaaGreatDoor.F
open Go.RowKit Go.Proofs.YtgiioglmkogpkaaGreatDoorW.PrintWords Go.Proofs.YtgiioglmkogpkaaGreatDoorW.PrintLast Go.Proofs.YtgiioglmkogpkaaGreatDoorW.PrintMore
open M L V
attribute [local go_sem] run_store_float
section
variable {P : Program} {a : Act} {w : World} {Q : Exit → Act → World → Prop}
theorem wp_loop_once {c : Code} (h : c.wp P (Exit.then (fun _ _ => False) Q) a w) : (Code.loop c).wp P Q a w := by
 refine wp_loop_ghost (fun _ a' w' => a' = a ∧ w' = w) 0 ⟨rfl, rfl⟩ ?_
 rintro n a' w' ⟨rfl, rfl⟩
 refine wp_mono h ?_
 intro e a2 w2 hq
 cases e with
 | normal => exact hq.elim
 | exit id => exact hq
 | goto l => exact hq
 | ret => exact hq
 | panic ch => exact hq
 | outgrown => exact hq
end
abbrev resI (T : Int) (raw str : ByteArray) (x : Nat) (ix : Int) : Value := .agg #[.int .i64 T, .string raw, .string str, .float .f64 x, .int .i64 ix, .slice none 0 0]
def PnX (s : ByteArray) (p e T : Int) (str : ByteArray) (x : Nat) (w : World) (en : Ending) (w' : World) : Prop := ∃ (ix : Int), en = .returned (.tuple #[.int .i64 e, resI T (s.extract p.toNat e.toNat) str x ix, .bool true]) ∧ Below w.heap.size w w'
abbrev cl66 (T : Int) (raw str : ByteArray) (x : Nat) (ix : Int) : Array Value := #[.int .i64 T, .string raw, .string str, .float .f64 x, .int .i64 ix, .slice none 0 0]
structure Tw (w W : World) (g v : Nat) (T : Int) (raw str : ByteArray) (x : Nat) (ix : Int) : Prop where
 hg : W.heap[g]? = some (.cells (cl66 0 ⟨#[]⟩ ⟨#[]⟩ 0 0) 66 (0, 0))
 hv : W.heap[v]? = some (.cells (cl66 T raw str x ix) 66 (0, 0))
 ne : g ≠ v
 gb : w.heap.size ≤ g
 vb : w.heap.size ≤ v
 be : Below w.heap.size w W
theorem Tw.new (w : World) : Tw w ((w.alloc (.cells (cl66 0 ⟨#[]⟩ ⟨#[]⟩ 0 0) 66)).alloc (.cells (cl66 0 ⟨#[]⟩ ⟨#[]⟩ 0 0) 66)) w.heap.size (w.heap.size + 1) 0 ⟨#[]⟩ ⟨#[]⟩ 0 0 := by
 have e : (w.alloc (.cells (cl66 0 ⟨#[]⟩ ⟨#[]⟩ 0 0) 66)).heap.size = w.heap.size + 1 := by simp
 have hn := heap_alloc_new (w.alloc (.cells (cl66 0 ⟨#[]⟩ ⟨#[]⟩ 0 0) 66)) (.cells (cl66 0 ⟨#[]⟩ ⟨#[]⟩ 0 0) 66)
 rw [e] at hn
 exact ⟨(Below.heap_alloc _ _ _ (by omega)).trans (heap_alloc_new w _), hn, by omega, by omega, by omega, below_alloc (below_alloc (Below.refl _ _) _) _⟩
theorem Tw.below {w W w2 : World} {g v : Nat} {T : Int} {raw str : ByteArray} {x : Nat} {ix : Int} (h : Tw w W g v T raw str x ix) (hb : Below W.heap.size W w2) : Tw w w2 g v T raw str x ix :=
 ⟨(hb.block g (blk_lt h.hg)).trans h.hg, (hb.block v (blk_lt h.hv)).trans h.hv, h.ne, h.gb, h.vb, h.be.trans (hb.mono h.be.size)⟩
theorem Tw.set {w W : World} {g v : Nat} {T : Int} {raw str : ByteArray} {x : Nat} {ix : Int} (h : Tw w W g v T raw str x ix) (j : Nat) (u : Value) {T' : Int} {raw' str' : ByteArray} {x' : Nat} {ix' : Int}
  (hc : (cl66 T raw str x ix).setIfInBounds j u = cl66 T' raw' str' x' ix') : Tw w (W.setCell ⟨v, j, none⟩ u) g v T' raw' str' x' ix' :=
 ⟨(Below.heap_setCell W ⟨v, j, none⟩ u g h.ne).trans h.hg, by rw [← hc]; exact blk_set h.hv j u, h.ne, h.gb, h.vb, below_set h.be h.vb⟩
theorem Tw.cells {w W : World} {g v : Nat} {T : Int} {raw str : ByteArray} {x : Nat} {ix : Int} (h : Tw w W g v T raw str x ix) :
  W.cell? ⟨v, 0, none⟩ = some (.int .i64 T) ∧ W.cell? ⟨v, 1, none⟩ = some (.string raw) ∧ W.cell? ⟨v, 2, none⟩ = some (.string str) ∧ W.cell? ⟨v, 3, none⟩ = some (.float .f64 x) ∧ W.cell? ⟨v, 4, none⟩ = some (.int .i64 ix) ∧ W.cell? ⟨v, 5, none⟩ = some (.slice none 0 0) ∧ (∀ i, W.frozen? ⟨v, i, none⟩ = false) ∧ (∀ i, W.frozen? ⟨g, i, none⟩ = false) :=
 ⟨blk_cell h.hv 0, blk_cell h.hv 1, blk_cell h.hv 2, blk_cell h.hv 3, blk_cell h.hv 4, blk_cell h.hv 5, blk_frozen h.hv, blk_frozen h.hg⟩
theorem Tw.gcells {w W : World} {g v : Nat} {T : Int} {raw str : ByteArray} {x : Nat} {ix : Int} (h : Tw w W g v T raw str x ix) :
  W.cell? ⟨g, 0, none⟩ = some (.int .i64 0) ∧ W.cell? ⟨g, 1, none⟩ = some (.string ⟨#[]⟩) ∧ W.cell? ⟨g, 2, none⟩ = some (.string ⟨#[]⟩) ∧ W.cell? ⟨g, 3, none⟩ = some (.float .f64 0) ∧ W.cell? ⟨g, 4, none⟩ = some (.int .i64 0) ∧ W.cell? ⟨g, 5, none⟩ = some (.slice none 0 0) :=
 ⟨blk_cell h.hg 0, blk_cell h.hg 1, blk_cell h.hg 2, blk_cell h.hg 3, blk_cell h.hg 4, blk_cell h.hg 5⟩
def fin66 (W : World) (g : Nat) (a b c d e f : Value) : World := ((((((W.setCell ⟨g, 0, none⟩ a).setCell ⟨g, 1, none⟩ b).setCell ⟨g, 2, none⟩ c).setCell ⟨g, 3, none⟩ d).setCell ⟨g, 4, none⟩ e).setCell ⟨g, 5, none⟩ f).drew
theorem Tw.fin {w W : World} {g v : Nat} {T : Int} {raw str : ByteArray} {x : Nat} {ix : Int} (h : Tw w W g v T raw str x ix) (a b c d e f : Value) :
  (fin66 W g a b c d e f).heap[g]? = some (.cells #[a, b, c, d, e, f] 66 (0, 0)) ∧ Below w.heap.size w (fin66 W g a b c d e f) :=
 ⟨by unfold fin66; exact blk_drew (blk_set (blk_set (blk_set (blk_set (blk_set (blk_set h.hg 0 _) 1 _) 2 _) 3 _) 4 _) 5 _), by unfold fin66; exact below_drew1 (below_set (below_set (below_set (below_set (below_set (below_set h.be h.gb) h.gb) h.gb) h.gb) h.gb) h.gb)⟩
theorem pnEnd (s : ByteArray) (p e T : Int) (raw str : ByteArray) (x : Nat) (ix : Int) (hr : raw = s.extract p.toNat e.toNat) (w W : World) (g : Nat) (tm : Array Value) (h6 : tm.getD 6 undef = .int .i64 e) (h7 : tm.getD 7 undef = .pointer (some ⟨g, 0, none⟩)) (h8 : tm.getD 8 undef = .bool true)
  (hg : W.heap[g]? = some (.cells (cl66 T raw str x ix) 66 (0, 0))) (hb : Below w.heap.size w W) :
  bodyPost Tryz.prog Tryz.f62 (PnX s p e T str x w) .ret ⟨tm, []⟩ W := by
 subst hr
 have n0 := blk_cell hg 0
 have n1 := blk_cell hg 1
 have n2 := blk_cell hg 2
 have n3 := blk_cell hg 3
 have n4 := blk_cell hg 4
 have n5 := blk_cell hg 5
 refine bodyPost_ret (v := .tuple #[.int .i64 e, resI T (s.extract p.toNat e.toNat) str x ix, .bool true]) ?_ rfl ⟨ix, rfl, hb⟩
 simp only [results, Tryz.results62]
 have h6' := h6
 have h7' := h7
 have h8' := h8
 simp only [Array.getD_eq_getD_getElem?] at h6' h7' h8'
 simp [go_sem, h6, h6', h7, h7', h8, h8', n0, n1, n2, n3, n4, n5, resI]
theorem pnEndF (e T : Int) (raw str : ByteArray) (x : Nat) (ix : Int) (P : Ending → World → Prop) (W : World) (g : Nat) (tm : Array Value) (h6 : tm.getD 6 undef = .int .i64 e) (h7 : tm.getD 7 undef = .pointer (some ⟨g, 0, none⟩)) (h8 : tm.getD 8 undef = .bool false)
  (hg : W.heap[g]? = some (.cells (cl66 T raw str x ix) 66 (0, 0))) (hb : P (.returned (.tuple #[.int .i64 e, resI T raw str x ix, .bool false])) W) :
  bodyPost Tryz.prog Tryz.f62 P .ret ⟨tm, []⟩ W := by
 have n0 := blk_cell hg 0
 have n1 := blk_cell hg 1
 have n2 := blk_cell hg 2
 have n3 := blk_cell hg 3
 have n4 := blk_cell hg 4
 have n5 := blk_cell hg 5
 refine bodyPost_ret (v := .tuple #[.int .i64 e, resI T raw str x ix, .bool false]) ?_ rfl hb
 simp only [results, Tryz.results62]
 have h6' := h6
 have h7' := h7
 have h8' := h8
 simp only [Array.getD_eq_getD_getElem?] at h6' h7' h8'
 simp [go_sem, h6, h6', h7, h7', h8, h8', n0, n1, n2, n3, n4, n5, resI]
set_option maxHeartbeats 8000000 in
set_option maxRecDepth 8192 in
theorem pany_none (s : ByteArray) (hz : s.size ≤ 274877906944) (i : Int) (h0 : 0 ≤ i) (hi : i ≤ s.size) (hsk : ∀ j, i ≤ j → j < s.size → bt s j ≤ 32) (w : World) :
  Calls Tryz.prog 62 #[.string s, .int .i64 i, .bool true] w fun e w' => e = .returned (.tuple #[.int .i64 s.size, resI 0 ⟨#[]⟩ ⟨#[]⟩ 0 0, .bool false]) ∧ Below w.heap.size w w' := by
 have HT := Aside0.mk (Tw.new w)
 have HSK := Aside0.mk hsk
 clear hsk
 go_enter Tryz.func62, Tryz.ntmps62
 go_wp2_with fail
 go_loopg [1] ((s.size : Int) - i).toNat (fun kq v1 w' => ∃ j : Int, v1 = .int .i64 j ∧ (i ≤ j ∧ j ≤ (s.size : Int)) ∧ (kq : Int) + j = (s.size : Int) ∧ Aside0 (Tw w w' w.heap.size (w.heap.size + 1) 0 ⟨#[]⟩ ⟨#[]⟩ 0 0))
 case atStart => exact ⟨i, rfl, by omega, by omega, HT⟩
 clear HT
 obtain ⟨j, rfl, hj, hkj, HT⟩ := hrel
 by_cases hjp : j < (s.size : Int)
 ·obtain ⟨z, hzz⟩ : ∃ z, z = bt s j := ⟨_, rfl⟩
  have hzb : ∀ h : j.toNat < s.size, ((s[j.toNat]'h).toNat : Int) = z := fun h => by rw [hzz]; exact bt_at s j h
  have hz32 : z ≤ 32 := by rw [hzz]; exact HSK.out j hj.1 hjp
  have h0j : 0 ≤ j := by omega
  have x1 : (z == 123) = false := beq_eq_false_iff_ne.mpr (by omega)
  have x2 : (z == 91) = false := beq_eq_false_iff_ne.mpr (by omega)
  have x3 : decide (z ≤ 32) = true := decide_eq_true hz32
  clear hzz hz32
  go_wp2_with fail
  go_roundg (gk - 1)
  case measure => omega
  case rel => exact ⟨j + 1, rfl, by omega, by omega, HT⟩
 obtain rfl : j = s.size := by omega
 go_wp2_with fail
 obtain ⟨n0, n1, n2, n3, n4, n5, f0, f1⟩ := HT.out.cells
 obtain ⟨g0, g1, g2, g3, g4, g5⟩ := HT.out.gcells
 go_region
 have HF := Aside0.mk (HT.out.fin (.int .i64 0) (.string ⟨#[]⟩) (.string ⟨#[]⟩) (.float .f64 0) (.int .i64 0) (.slice none 0 0))
 generalize hW : fin66 wr w.heap.size _ _ _ _ _ _ = W2 at HF
 unfold fin66 at hW
 rw [hW]
 clear hW
 go_wp2_with fail
 exact pnEndF s.size 0 _ _ _ _ _ _ _ _ rfl rfl rfl HF.out.1 ⟨rfl, HF.out.2⟩
set_option maxHeartbeats 8000000 in
set_option maxRecDepth 8192 in
theorem pany_json (s : ByteArray) (hz : s.size ≤ 274877906944) (i p e : Int) (hi0 : 0 ≤ i) (hip : i ≤ p) (hsk : ∀ j, i ≤ j → j < p → bt s j ≤ 32) (h0 : 0 ≤ p) (hpe : p < e) (he : e ≤ s.size) (hb : bt s p = 123 ∨ bt s p = 91) (hR : Rem s e (p + 1) 1) (w : World) (hV : ∀ W, Below w.heap.size w W → VT W) :
  Calls Tryz.prog 62 #[.string s, .int .i64 i, .bool true] w (PnX s p e 5 ⟨#[]⟩ 0 w) := by
 have HR := Aside0.mk hR
 have HV := Aside0.mk hV
 clear hR hV
 have hex : ((s.extract p.toNat e.toNat).size : Int) = e - p := by rw [ByteArray.size_extract]; omega
 obtain ⟨y, hy⟩ : ∃ y, y = bt s p := ⟨_, rfl⟩
 have hby : ∀ h : p.toNat < s.size, ((s[p.toNat]'h).toNat : Int) = y := fun h => by rw [hy]; exact bt_at s p h
 have HT := Aside0.mk (Tw.new w)
 rw [← hy] at hb
 clear hy
 have HSK := Aside0.mk hsk
 have HBY := Aside0.mk hby
 have HB := Aside0.mk hb
 clear hsk hby hb
 go_enter Tryz.func62, Tryz.ntmps62
 go_wp2_with fail
 go_loopg [1] (p - i).toNat (fun kq v1 w' => ∃ j : Int, v1 = .int .i64 j ∧ (i ≤ j ∧ j ≤ p) ∧ (kq : Int) + j = p ∧ Aside0 (Tw w w' w.heap.size (w.heap.size + 1) 0 ⟨#[]⟩ ⟨#[]⟩ 0 0))
 case atStart => exact ⟨i, rfl, by omega, by omega, HT⟩
 clear HT
 obtain ⟨j, rfl, hj, hkj, HT⟩ := hrel
 by_cases hjp : j < p
 ·obtain ⟨z, hzz⟩ : ∃ z, z = bt s j := ⟨_, rfl⟩
  have hzb : ∀ h : j.toNat < s.size, ((s[j.toNat]'h).toNat : Int) = z := fun h => by rw [hzz]; exact bt_at s j h
  have hz32 : z ≤ 32 := by rw [hzz]; exact HSK.out j hj.1 hjp
  have h0j : 0 ≤ j := by omega
  have x1 : (z == 123) = false := beq_eq_false_iff_ne.mpr (by omega)
  have x2 : (z == 91) = false := beq_eq_false_iff_ne.mpr (by omega)
  have x3 : decide (z ≤ 32) = true := decide_eq_true hz32
  clear hzz hz32 HBY
  go_wp2_with fail
  go_roundg (gk - 1)
  case measure => omega
  case rel => exact ⟨j + 1, rfl, by omega, by omega, HT⟩
 have ejp : p = j := by omega
 subst ejp
 have hby := HBY.out
 have hb := HB.out
 clear HBY HB
 rcases hb with hb | hb
 ·have x1 : (y == 123) = true := beq_iff_eq.mpr hb
  clear hb
  go_wp2_with (go_at_call 88; refine (squash_calls s hz p e h0 he HR.out _ (HV.out _ HT.out.be)).mono ?_; rintro e' w2 ⟨rfl, hb⟩; have H2 := Aside0.mk (HT.out.below hb); clear hb; obtain ⟨n0, n1, n2, n3, n4, n5, f0, f1⟩ := H2.out.cells)
  have H3 := Aside0.mk (((H2.out.set 1 (.string (s.extract p.toNat e.toNat)) rfl).set 0 (.int .i64 5) rfl).set 4 (.int .i64 (min e s.size - ((e.toNat - p.toNat : Nat) : Int))) rfl)
  clear n0 n1 n2 n3 n4 n5 f0 f1 H2
  generalize (((w2.setCell ⟨w.heap.size + 1, 1, none⟩ (.string (s.extract p.toNat e.toNat))).setCell ⟨w.heap.size + 1, 0, none⟩ (.int .i64 5)).setCell ⟨w.heap.size + 1, 4, none⟩ (.int .i64 (min e s.size - ((e.toNat - p.toNat : Nat) : Int)))) = W at *
  obtain ⟨n0, n1, n2, n3, n4, n5, f0, f1⟩ := H3.out.cells
  obtain ⟨g0, g1, g2, g3, g4, g5⟩ := H3.out.gcells
  go_region
  have HF := Aside0.mk (H3.out.fin (.int .i64 5) (.string (s.extract p.toNat e.toNat)) (.string ⟨#[]⟩) (.float .f64 0) (.int .i64 (min e s.size - ((e.toNat - p.toNat : Nat) : Int))) (.slice none 0 0))
  generalize hW : fin66 W w.heap.size _ _ _ _ _ _ = W2 at HF
  unfold fin66 at hW
  rw [hW]
  clear hW
  go_wp2_with fail
  exact pnEnd s p e 5 _ _ _ _ rfl w _ _ _ rfl rfl rfl HF.out.1 HF.out.2
 have x1 : (y == 123) = false := beq_eq_false_iff_ne.mpr (by omega)
 have x2 : (y == 91) = true := beq_iff_eq.mpr hb
 clear hb
 go_wp2_with (go_at_call 88; refine (squash_calls s hz p e h0 he HR.out _ (HV.out _ HT.out.be)).mono ?_; rintro e' w2 ⟨rfl, hb⟩; have H2 := Aside0.mk (HT.out.below hb); clear hb; obtain ⟨n0, n1, n2, n3, n4, n5, f0, f1⟩ := H2.out.cells)
 have H3 := Aside0.mk (((H2.out.set 1 (.string (s.extract p.toNat e.toNat)) rfl).set 0 (.int .i64 5) rfl).set 4 (.int .i64 (min e s.size - ((e.toNat - p.toNat : Nat) : Int))) rfl)
 clear n0 n1 n2 n3 n4 n5 f0 f1 H2
 generalize (((w2.setCell ⟨w.heap.size + 1, 1, none⟩ (.string (s.extract p.toNat e.toNat))).setCell ⟨w.heap.size + 1, 0, none⟩ (.int .i64 5)).setCell ⟨w.heap.size + 1, 4, none⟩ (.int .i64 (min e s.size - ((e.toNat - p.toNat : Nat) : Int)))) = W at *
 obtain ⟨n0, n1, n2, n3, n4, n5, f0, f1⟩ := H3.out.cells
 obtain ⟨g0, g1, g2, g3, g4, g5⟩ := H3.out.gcells
 go_region
 have HF := Aside0.mk (H3.out.fin (.int .i64 5) (.string (s.extract p.toNat e.toNat)) (.string ⟨#[]⟩) (.float .f64 0) (.int .i64 (min e s.size - ((e.toNat - p.toNat : Nat) : Int))) (.slice none 0 0))
 generalize hW : fin66 W w.heap.size _ _ _ _ _ _ = W2 at HF
 unfold fin66 at hW
 rw [hW]
 clear hW
 go_wp2_with fail
 exact pnEnd s p e 5 _ _ _ _ rfl w _ _ _ rfl rfl rfl HF.out.1 HF.out.2
set_option maxHeartbeats 8000000 in
set_option maxRecDepth 8192 in
theorem pany_word (s : ByteArray) (hz : s.size ≤ 65536) (i p e T : Int) (hi0 : 0 ≤ i) (hip : i ≤ p) (hsk : ∀ j, i ≤ j → j < p → bt s j ≤ 32) (h0 : 0 ≤ p) (hpe : p < e) (he : e ≤ s.size) (hk : (T = 0 ∧ bt s p = 110 ∧ bt s (p + 1) = 117 ∧ p + 1 < e) ∨ (T = 4 ∧ bt s p = 116) ∨ (T = 1 ∧ bt s p = 102)) (hl : ∀ i, p ≤ i → i < e → 97 ≤ bt s i ∧ bt s i ≤ 122) (ht : Tv s e) (w : World) :
  Calls Tryz.prog 62 #[.string s, .int .i64 i, .bool true] w (PnX s p e T ⟨#[]⟩ 0 w) := by
 obtain ⟨k, hk1⟩ := plit_ev s hz p e h0 hpe he hl ht
 have HE := Aside0.mk (hk1 k (Nat.le_refl _))
 clear hk1 hl ht
 obtain ⟨y, hy⟩ : ∃ y, y = bt s p := ⟨_, rfl⟩
 have hby : ∀ h : p.toNat < s.size, ((s[p.toNat]'h).toNat : Int) = y := fun h => by rw [hy]; exact bt_at s p h
 have HT := Aside0.mk (Tw.new w)
 rw [← hy] at hk
 clear hy
 have HSK := Aside0.mk hsk
 have HBY := Aside0.mk hby
 have HB := Aside0.mk hk
 clear hsk hby hk
 go_enter Tryz.func62, Tryz.ntmps62
 go_wp2_with fail
 go_loopg [1] (p - i).toNat (fun kq v1 w' => ∃ j : Int, v1 = .int .i64 j ∧ (i ≤ j ∧ j ≤ p) ∧ (kq : Int) + j = p ∧ Aside0 (Tw w w' w.heap.size (w.heap.size + 1) 0 ⟨#[]⟩ ⟨#[]⟩ 0 0))
 case atStart => exact ⟨i, rfl, by omega, by omega, HT⟩
 clear HT
 obtain ⟨j, rfl, hj, hkj, HT⟩ := hrel
 by_cases hjp : j < p
 ·obtain ⟨z, hzz⟩ : ∃ z, z = bt s j := ⟨_, rfl⟩
  have hzb : ∀ h : j.toNat < s.size, ((s[j.toNat]'h).toNat : Int) = z := fun h => by rw [hzz]; exact bt_at s j h
  have hz32 : z ≤ 32 := by rw [hzz]; exact HSK.out j hj.1 hjp
  have h0j : 0 ≤ j := by omega
  have x1 : (z == 123) = false := beq_eq_false_iff_ne.mpr (by omega)
  have x2 : (z == 91) = false := beq_eq_false_iff_ne.mpr (by omega)
  have x3 : decide (z ≤ 32) = true := decide_eq_true hz32
  clear hzz hz32 HBY
  go_wp2_with fail
  go_roundg (gk - 1)
  case measure => omega
  case rel => exact ⟨j + 1, rfl, by omega, by omega, HT⟩
 have ejp : p = j := by omega
 subst ejp
 have hby := HBY.out
 have hk := HB.out
 clear HBY HB
 rcases hk with ⟨rfl, rfl, hb, h1⟩ | ⟨rfl, rfl⟩ | ⟨rfl, rfl⟩
 rotate_left
 ·go_wp2_with (go_at_call 89; refine (gjson_parseLiteral.calls k s p e (s.extract p.toNat e.toNat) _ HE.out).mono ?_; rintro e' w2 ⟨rfl, hb⟩; have H2 := Aside0.mk (HT.out.below (Drawn0.below hb)); clear hb; obtain ⟨n0, n1, n2, n3, n4, n5, f0, f1⟩ := H2.out.cells)
  have H3 := Aside0.mk ((H2.out.set 1 (.string (s.extract p.toNat e.toNat)) rfl).set 0 (.int .i64 4) rfl)
  clear n0 n1 n2 n3 n4 n5 f0 f1 H2
  generalize ((w2.setCell ⟨w.heap.size + 1, 1, none⟩ (.string (s.extract p.toNat e.toNat))).setCell ⟨w.heap.size + 1, 0, none⟩ (.int .i64 4)) = W at *
  obtain ⟨n0, n1, n2, n3, n4, n5, f0, f1⟩ := H3.out.cells
  obtain ⟨g0, g1, g2, g3, g4, g5⟩ := H3.out.gcells
  go_region
  have HF := Aside0.mk (H3.out.fin (.int .i64 4) (.string (s.extract p.toNat e.toNat)) (.string ⟨#[]⟩) (.float .f64 0) (.int .i64 0) (.slice none 0 0))
  generalize hW : fin66 W w.heap.size _ _ _ _ _ _ = W2 at HF
  unfold fin66 at hW
  rw [hW]
  clear hW
  go_wp2_with fail
  exact pnEnd s p e 4 _ _ _ _ rfl w _ _ _ rfl rfl rfl HF.out.1 HF.out.2
 ·go_wp2_with (go_at_call 89; refine (gjson_parseLiteral.calls k s p e (s.extract p.toNat e.toNat) _ HE.out).mono ?_; rintro e' w2 ⟨rfl, hb⟩; have H2 := Aside0.mk (HT.out.below (Drawn0.below hb)); clear hb; obtain ⟨n0, n1, n2, n3, n4, n5, f0, f1⟩ := H2.out.cells)
  have H3 := Aside0.mk ((H2.out.set 1 (.string (s.extract p.toNat e.toNat)) rfl).set 0 (.int .i64 1) rfl)
  clear n0 n1 n2 n3 n4 n5 f0 f1 H2
  generalize ((w2.setCell ⟨w.heap.size + 1, 1, none⟩ (.string (s.extract p.toNat e.toNat))).setCell ⟨w.heap.size + 1, 0, none⟩ (.int .i64 1)) = W at *
  obtain ⟨n0, n1, n2, n3, n4, n5, f0, f1⟩ := H3.out.cells
  obtain ⟨g0, g1, g2, g3, g4, g5⟩ := H3.out.gcells
  go_region
  have HF := Aside0.mk (H3.out.fin (.int .i64 1) (.string (s.extract p.toNat e.toNat)) (.string ⟨#[]⟩) (.float .f64 0) (.int .i64 0) (.slice none 0 0))
  generalize hW : fin66 W w.heap.size _ _ _ _ _ _ = W2 at HF
  unfold fin66 at hW
  rw [hW]
  clear hW
  go_wp2_with fail
  exact pnEnd s p e 1 _ _ _ _ rfl w _ _ _ rfl rfl rfl HF.out.1 HF.out.2
 have hb1 : ∀ h : (p + 1).toNat < s.size, ((s[(p + 1).toNat]'h).toNat : Int) = 117 := fun h => by rw [← hb]; exact bt_at s (p + 1) h
 have hb3 : ∀ h : p.toNat + 1 < s.size, ((s[p.toNat + 1]'h).toNat : Int) = 117 := fun h => by rw [← hb]; exact bt_nat s (p + 1) _ (by omega) h
 clear hb
 go_wp2_with (go_at_call 89; refine (gjson_parseLiteral.calls k s p e (s.extract p.toNat e.toNat) _ HE.out).mono ?_; rintro e' w2 ⟨rfl, hb⟩; have H2 := Aside0.mk (HT.out.below (Drawn0.below hb)); clear hb; obtain ⟨n0, n1, n2, n3, n4, n5, f0, f1⟩ := H2.out.cells)
 have H3 := Aside0.mk (H2.out.set 1 (.string (s.extract p.toNat e.toNat)) rfl)
 clear n0 n1 n2 n3 n4 n5 f0 f1 H2
 generalize (w2.setCell ⟨w.heap.size + 1, 1, none⟩ (.string (s.extract p.toNat e.toNat))) = W at *
 obtain ⟨n0, n1, n2, n3, n4, n5, f0, f1⟩ := H3.out.cells
 obtain ⟨g0, g1, g2, g3, g4, g5⟩ := H3.out.gcells
 go_region
 have HF := Aside0.mk (H3.out.fin (.int .i64 0) (.string (s.extract p.toNat e.toNat)) (.string ⟨#[]⟩) (.float .f64 0) (.int .i64 0) (.slice none 0 0))
 generalize hW : fin66 W w.heap.size _ _ _ _ _ _ = W2 at HF
 unfold fin66 at hW
 rw [hW]
 clear hW
 go_wp2_with fail
 exact pnEnd s p e 0 _ _ _ _ rfl w _ _ _ rfl rfl rfl HF.out.1 HF.out.2
theorem numG_at {s : ByteArray} {p e : Int} (h0 : 0 ≤ p) (h : NumG s p e) : ∃ a b c, NumAt (s.extract p.toNat e.toNat) a b c := by
 obtain ⟨_, k1, k2, _⟩ := (G.num p e h0 h).ok
 dsimp only at k1 k2
 have hs : ((s.extract p.toNat e.toNat).size : Int) = e - p := by rw [ByteArray.size_extract]; omega
 have g : Ag s (s.extract p.toNat e.toNat) (-p) p e := ⟨h0, by omega, k2, by omega, fun i x y => by
  have := bt_extract s p.toNat e.toNat (i + -p) (by omega) (by omega) (by omega)
  rw [this]; congr 1; omega⟩
 have h2 := h.sh g
 rw [show p + -p = 0 by omega] at h2
 obtain ⟨a, b, c, ha, hab, hbc, hce, h3, h48, hg, hf, hx⟩ := h2
 rw [show e + -p = ((s.extract p.toNat e.toNat).size : Int) by omega] at hce hx
 exact ⟨a, b, c, ⟨by rcases ha with ⟨h, _⟩ | ⟨h, h'⟩; exact .inl h; exact .inr ⟨by omega, h'⟩, hab, hbc, hce, hg, hf, by rcases hx with h | h; exact .inl h; exact .inr h⟩⟩
set_option maxHeartbeats 8000000 in
set_option maxRecDepth 8192 in
theorem pany_num (s : ByteArray) (hz : s.size ≤ 65536) (i p e : Int) (hi0 : 0 ≤ i) (hip : i ≤ p) (hsk : ∀ j, i ≤ j → j < p → bt s j ≤ 32) (h0 : 0 ≤ p) (h : NumG s p e) (ht : Tv s e) (x : Nat) (w : World) (hV : ∀ W, Below w.heap.size w W → Calls Tryz.prog 91 #[.string (s.extract p.toNat e.toNat), .int .i64 64] W (FAny x W)) :
  Calls Tryz.prog 62 #[.string s, .int .i64 i, .bool true] w (PnX s p e 2 ⟨#[]⟩ x w) := by
 obtain ⟨_, hpe, he, _⟩ := (G.num p e h0 h).ok
 dsimp only at hpe he
 obtain ⟨k, hk1⟩ := pn_ev s hz p e h0 h ht
 have HE := Aside0.mk (hk1 k (Nat.le_refl _))
 have HV := Aside0.mk hV
 have hd : bt s p = 45 ∨ L.dig (bt s p) := by
  obtain ⟨a, b, c, ha, hab, _, _, _, _, hg, _⟩ := h
  rcases ha with ⟨rfl, _⟩ | ⟨rfl, hm⟩
  ·exact .inr (hg a (by omega) hab)
  ·exact .inl hm
 have hsz : (s.extract p.toNat e.toNat).size < 1000000000 := by rw [ByteArray.size_extract]; omega
 clear hk1 ht h hV
 obtain ⟨y, hy⟩ : ∃ y, y = bt s p := ⟨_, rfl⟩
 have hby : ∀ h : p.toNat < s.size, ((s[p.toNat]'h).toNat : Int) = y := fun h => by rw [hy]; exact bt_at s p h
 have HT := Aside0.mk (Tw.new w)
 rw [← hy] at hd
 clear hy
 have hy11 : y = 45 ∨ y = 48 ∨ y = 49 ∨ y = 50 ∨ y = 51 ∨ y = 52 ∨ y = 53 ∨ y = 54 ∨ y = 55 ∨ y = 56 ∨ y = 57 := by unfold L.dig at hd; omega
 clear hd
 have HSK := Aside0.mk hsk
 have HBY := Aside0.mk hby
 have HB := Aside0.mk hy11
 clear hsk hby hy11
 go_enter Tryz.func62, Tryz.ntmps62
 go_wp2_with fail
 go_loopg [1] (p - i).toNat (fun kq v1 w' => ∃ j : Int, v1 = .int .i64 j ∧ (i ≤ j ∧ j ≤ p) ∧ (kq : Int) + j = p ∧ Aside0 (Tw w w' w.heap.size (w.heap.size + 1) 0 ⟨#[]⟩ ⟨#[]⟩ 0 0))
 case atStart => exact ⟨i, rfl, by omega, by omega, HT⟩
 clear HT
 obtain ⟨j, rfl, hj, hkj, HT⟩ := hrel
 by_cases hjp : j < p
 ·obtain ⟨z, hzz⟩ : ∃ z, z = bt s j := ⟨_, rfl⟩
  have hzb : ∀ h : j.toNat < s.size, ((s[j.toNat]'h).toNat : Int) = z := fun h => by rw [hzz]; exact bt_at s j h
  have hz32 : z ≤ 32 := by rw [hzz]; exact HSK.out j hj.1 hjp
  have h0j : 0 ≤ j := by omega
  have x1 : (z == 123) = false := beq_eq_false_iff_ne.mpr (by omega)
  have x2 : (z == 91) = false := beq_eq_false_iff_ne.mpr (by omega)
  have x3 : decide (z ≤ 32) = true := decide_eq_true hz32
  clear hzz hz32 HBY
  go_wp2_with fail
  go_roundg (gk - 1)
  case measure => omega
  case rel => exact ⟨j + 1, rfl, by omega, by omega, HT⟩
 have ejp : p = j := by omega
 subst ejp
 have hby := HBY.out
 have hy11 := HB.out
 clear HBY HB
 rcases hy11 with rfl | rfl | rfl | rfl | rfl | rfl | rfl | rfl | rfl | rfl | rfl
 all_goals go_wp2_with (first
  | (go_at_call 90; refine (gjson_parseNumber.calls k s p e (s.extract p.toNat e.toNat) _ HE.out).mono ?_; rintro e' w2 ⟨rfl, hb⟩; have H0 := Aside0.mk (HT.out.below (Drawn0.below hb)); clear hb; obtain ⟨n0, n1, n2, n3, n4, n5, f0, f1⟩ := H0.out.cells)
  | (go_at_call 91; have H1 := Aside0.mk ((H0.out.set 1 (.string (s.extract p.toNat e.toNat)) rfl).set 0 (.int .i64 2) rfl); refine (HV.out _ H1.out.be).mono ?_; rintro e' w3 ⟨ev, rfl, hb⟩; have H2 := Aside0.mk (H1.out.below hb); clear hb n0 n1 n2 n3 n4 n5 f0 f1; obtain ⟨n0, n1, n2, n3, n4, n5, f0, f1⟩ := H2.out.cells))
 all_goals (
  have H3 := Aside0.mk (H2.out.set 3 (.float .f64 x) rfl)
  clear n0 n1 n2 n3 n4 n5 f0 f1 H2
  generalize (w3.setCell ⟨w.heap.size + 1, 3, none⟩ (.float .f64 x)) = W at *
  obtain ⟨n0, n1, n2, n3, n4, n5, f0, f1⟩ := H3.out.cells
  obtain ⟨g0, g1, g2, g3, g4, g5⟩ := H3.out.gcells
  go_region
  have HF := Aside0.mk (H3.out.fin (.int .i64 2) (.string (s.extract p.toNat e.toNat)) (.string ⟨#[]⟩) (.float .f64 x) (.int .i64 0) (.slice none 0 0))
  generalize hW : fin66 W w.heap.size _ _ _ _ _ _ = W2 at HF
  unfold fin66 at hW
  rw [hW]
  clear hW
  go_wp2_with fail
  exact pnEnd s p e 2 _ _ _ _ rfl w _ _ _ rfl rfl rfl HF.out.1 HF.out.2)
set_option maxHeartbeats 8000000 in
set_option maxRecDepth 8192 in
theorem pany_str (s : ByteArray) (hz : s.size ≤ 65536) (i p e : Int) (hi0 : 0 ≤ i) (hip : i ≤ p) (hsk : ∀ j, i ≤ j → j < p → bt s j ≤ 32) (h : Str s p e) (o : List Int) (ho : PDec (s.extract (p + 1).toNat (e - 1).toNat) ((s.extract (p + 1).toNat (e - 1).toNat).size : Int) 0 o) (hol : o.length ≤ 65536) (w : World) :
  Calls Tryz.prog 62 #[.string s, .int .i64 i, .bool true] w (PnX s p e 3 (strOfNums o) 0 w) := by
 obtain ⟨v, hk1, hv0, hv1⟩ := pst_calls s hz p e h
 have HE := Aside0.mk hk1
 obtain ⟨hlt, he⟩ := Str.lt h
 obtain ⟨h0, h34, _⟩ := h
 have hby : ∀ h : p.toNat < s.size, ((s[p.toNat]'h).toNat : Int) = 34 := fun h => by rw [← h34]; exact bt_at s p h
 have HT := Aside0.mk (Tw.new w)
 have hex : ((s.extract p.toNat e.toNat).size : Int) = e - p := by rw [ByteArray.size_extract]; omega
 obtain ⟨r, hr⟩ : ∃ r, r = s.extract p.toNat e.toNat := ⟨_, rfl⟩
 obtain ⟨q, hq⟩ : ∃ q, q = r.extract 1 ((e - p).toNat - 1) := ⟨_, rfl⟩
 have hq2 : q = s.extract (p + 1).toNat (e - 1).toNat := by
  rw [hq, hr, ByteArray.extract_extract]
  congr 1 <;> omega
 have hqs : (q.size : Int) = e - p - 2 := by rw [hq2, ByteArray.size_extract]; omega
 have ho2 := ho
 rw [← hq2] at ho2
 have hrs : (r.size : Int) = e - p := by rw [hr]; exact hex
 have HO := Aside0.mk ho2
 have HQ := Aside0.mk (And.intro hq hq2)
 have HR := Aside0.mk hr
 rw [← hr] at HE
 have HV := Aside0.mk (And.intro hv0 hv1)
 clear hk1 ho ho2 hq2 hr h34 hv0 hv1 hex
 have HSK := Aside0.mk hsk
 have HBY := Aside0.mk hby
 clear hsk hby
 go_enter Tryz.func62, Tryz.ntmps62
 go_wp2_with fail
 go_loopg [1] (p - i).toNat (fun kq v1 w' => ∃ j : Int, v1 = .int .i64 j ∧ (i ≤ j ∧ j ≤ p) ∧ (kq : Int) + j = p ∧ Aside0 (Tw w w' w.heap.size (w.heap.size + 1) 0 ⟨#[]⟩ ⟨#[]⟩ 0 0))
 case atStart => exact ⟨i, rfl, by omega, by omega, HT⟩
 clear HT
 obtain ⟨j, rfl, hj, hkj, HT⟩ := hrel
 by_cases hjp : j < p
 ·obtain ⟨z, hzz⟩ : ∃ z, z = bt s j := ⟨_, rfl⟩
  have hzb : ∀ h : j.toNat < s.size, ((s[j.toNat]'h).toNat : Int) = z := fun h => by rw [hzz]; exact bt_at s j h
  have hz32 : z ≤ 32 := by rw [hzz]; exact HSK.out j hj.1 hjp
  have h0j : 0 ≤ j := by omega
  have x1 : (z == 123) = false := beq_eq_false_iff_ne.mpr (by omega)
  have x2 : (z == 91) = false := beq_eq_false_iff_ne.mpr (by omega)
  have x3 : decide (z ≤ 32) = true := decide_eq_true hz32
  clear hzz hz32 HBY
  go_wp2_with fail
  go_roundg (gk - 1)
  case measure => omega
  case rel => exact ⟨j + 1, rfl, by omega, by omega, HT⟩
 have ejp : p = j := by omega
 subst ejp
 have hby := HBY.out
 clear HBY
 cases v
 rotate_left
 ·have HUN := Aside0.mk (fun W => unescape_calls q (by omega) (by have := HV.out.2 rfl; omega) o HO.out (by omega) W)
  rw [hq] at HUN
  go_wp2_with (first
   | (go_at_call 69; refine (HE.out _).mono ?_; rintro e' w2 ⟨rfl, hb⟩; have H0 := Aside0.mk (HT.out.below (Drawn0.below hb)); clear hb; obtain ⟨n0, n1, n2, n3, n4, n5, f0, f1⟩ := H0.out.cells)
   | (go_at_call 70; have H1 := Aside0.mk ((H0.out.set 0 (.int .i64 3) rfl).set 1 (.string r) rfl); refine (HUN.out _).mono ?_; rintro e' w3 ⟨rfl, hb⟩; have H2 := Aside0.mk (H1.out.below hb); clear hb n0 n1 n2 n3 n4 n5 f0 f1; obtain ⟨n0, n1, n2, n3, n4, n5, f0, f1⟩ := H2.out.cells))
  have H3 := Aside0.mk (H2.out.set 2 (.string (strOfNums o)) rfl)
  clear n0 n1 n2 n3 n4 n5 f0 f1 H2
  generalize (w3.setCell ⟨w.heap.size + 1, 2, none⟩ (.string (strOfNums o))) = W at *
  obtain ⟨n0, n1, n2, n3, n4, n5, f0, f1⟩ := H3.out.cells
  obtain ⟨g0, g1, g2, g3, g4, g5⟩ := H3.out.gcells
  go_region
  have HF := Aside0.mk (H3.out.fin (.int .i64 3) (.string r) (.string (strOfNums o)) (.float .f64 0) (.int .i64 0) (.slice none 0 0))
  generalize hW : fin66 W w.heap.size _ _ _ _ _ _ = W2 at HF
  unfold fin66 at hW
  rw [hW]
  clear hW
  go_wp2_with fail
  exact pnEnd s p e 3 _ _ _ _ HR.out w _ _ _ rfl rfl rfl HF.out.1 HF.out.2
 have HS := Aside0.mk (show q = strOfNums o by
  have := pdec_plain HO.out (fun i x y => by
   have hb := HV.out.1 rfl (i + (p + 1)) (by omega) (by omega)
   rw [HQ.out.2, bt_extract s _ _ _ x (by omega) (by omega)]
   rwa [show ((p + 1).toNat : Int) + i = i + (p + 1) by omega]) (Int.le_refl _)
  rw [this]; simp [str_bytes])
 rw [hq] at HS
 go_wp2_with (go_at_call 69; refine (HE.out _).mono ?_; rintro e' w2 ⟨rfl, hb⟩; have H2 := Aside0.mk (HT.out.below (Drawn0.below hb)); clear hb; obtain ⟨n0, n1, n2, n3, n4, n5, f0, f1⟩ := H2.out.cells)
 have H3 := Aside0.mk (((H2.out.set 0 (.int .i64 3) rfl).set 1 (.string r) rfl).set 2 (.string (r.extract 1 ((e - p).toNat - 1))) rfl)
 have HS2 := HS.out
 clear n0 n1 n2 n3 n4 n5 f0 f1 H2
 generalize (((w2.setCell ⟨w.heap.size + 1, 0, none⟩ (.int .i64 3)).setCell ⟨w.heap.size + 1, 1, none⟩ (.string r)).setCell ⟨w.heap.size + 1, 2, none⟩ (.string (r.extract 1 ((e - p).toNat - 1)))) = W at *
 obtain ⟨n0, n1, n2, n3, n4, n5, f0, f1⟩ := H3.out.cells
 obtain ⟨g0, g1, g2, g3, g4, g5⟩ := H3.out.gcells
 rw [HS2] at H3 n2
 clear HS2
 go_region
 have HF := Aside0.mk (H3.out.fin (.int .i64 3) (.string r) (.string (strOfNums o)) (.float .f64 0) (.int .i64 0) (.slice none 0 0))
 generalize hW : fin66 W w.heap.size _ _ _ _ _ _ = W2 at HF
 unfold fin66 at hW
 rw [hW]
 clear hW
 go_wp2_with fail
 exact pnEnd s p e 3 _ _ _ _ HR.out w _ _ _ rfl rfl rfl HF.out.1 HF.out.2
def Keep66 (W W' : World) : Prop := ∀ (g : Nat) (c : Array Value) (fr : Nat × Nat), W.heap[g]? = some (Obj.cells c 66 fr) → W'.heap[g]? = some (Obj.cells c 66 fr)
def KeepN (b : Nat) (W W' : World) : Prop := W.heap.size ≤ W'.heap.size ∧ (∀ g, g < b → W'.heap[g]? = W.heap[g]?) ∧ ∀ (g : Nat) (c : Array Value) (T : TypeId) (fr : Nat × Nat), T ≠ 66 → W.heap[g]? = some (Obj.cells c T fr) → W'.heap[g]? = some (Obj.cells c T fr)
theorem KeepN.of_below {b : Nat} {W W' : World} (h : Below W.heap.size W W') (hb : b ≤ W.heap.size) : KeepN b W W' := ⟨h.size, fun g hg => h.block g (by omega), fun g c T fr _ hg => (h.block g (blk_lt hg)).trans hg⟩
theorem Keep66.of_below {W W' : World} (h : Below W.heap.size W W') : Keep66 W W' := fun g c fr hg => (h.block g (blk_lt hg)).trans hg
theorem KeepN.of_set {W : World} {g : Nat} {c : Array Value} {fr : Nat × Nat} (hg : W.heap[g]? = some (.cells c 66 fr)) {b : Nat} (hb : b ≤ g) (j : Nat) (u : Value) : KeepN b W (W.setCell ⟨g, j, none⟩ u) := by
 refine ⟨by simp [World.setCell], fun k hk => Below.heap_setCell W ⟨g, j, none⟩ u k (show k ≠ g by omega), fun k c' T fr' hT hk => ?_⟩
 have hne : k ≠ g := by
  intro e
  subst e
  rw [hg] at hk
  simp only [Option.some.injEq, Obj.cells.injEq] at hk
  exact hT hk.2.1.symm
 exact (Below.heap_setCell W ⟨g, j, none⟩ u k hne).trans hk
section
variable {B : Nat} {Inv : Nat → World → Prop}
variable {w W W2 : World} {n A g v : Nat} {s : ByteArray} {x0 : Nat} {k u : Array Value}
theorem cells6 {W : World} {b : Nat} {T : Int} {raw str : ByteArray} {x : Nat} {ix : Int} (h : W.heap[b]? = some (.cells (cl66 T raw str x ix) 66 (0, 0))) : W.cell? ⟨b, 0, none⟩ = some (.int .i64 T) ∧ W.cell? ⟨b, 1, none⟩ = some (.string raw) ∧ W.cell? ⟨b, 2, none⟩ = some (.string str) ∧ W.cell? ⟨b, 3, none⟩ = some (.float .f64 x) ∧ W.cell? ⟨b, 4, none⟩ = some (.int .i64 ix) ∧ W.cell? ⟨b, 5, none⟩ = some (.slice none 0 0) :=
 ⟨blk_cell h 0, blk_cell h 1, blk_cell h 2, blk_cell h 3, blk_cell h 4, blk_cell h 5⟩
end
def kT (K : Int) : Int := if K = 6 ∨ K = 5 then 5 else if K = 4 then 3 else if K = 3 then 2 else if K = 2 then 4 else K
def Sz (s : ByteArray) (c : S78) : Prop := s.size ≤ 65536 ∨ ((c.f0 = 5 ∨ c.f0 = 6) ∧ s.size ≤ 274877906944)
theorem Sz.big {s : ByteArray} {c : S78} (h : Sz s c) : s.size ≤ 274877906944 := by rcases h with h | h <;> omega
theorem Sz.small {s : ByteArray} {c : S78} (h : Sz s c) (h5 : c.f0 ≠ 5) (h6 : c.f0 ≠ 6) : s.size ≤ 65536 := by rcases h with h | h <;> omega
def Tell (s : ByteArray) (c : S78) (str : ByteArray) (x : Nat) (w0 : World) : Prop := ∀ w, Below w0.heap.size w0 w → ∀ i, 0 ≤ i → i ≤ c.f1 → (∀ j, i ≤ j → j < c.f1 → bt s j ≤ 32) → Calls Tryz.prog 62 #[.string s, .int .i64 i, .bool true] w (PnX s c.f1 c.f2 (kT c.f0) str x w)
def StrIn (s : ByteArray) (c : S78) (str : ByteArray) : Prop := (c.f0 = 4 → ∃ o, PDec (s.extract (c.f1 + 1).toNat (c.f2 - 1).toNat) ((s.extract (c.f1 + 1).toNat (c.f2 - 1).toNat).size : Int) 0 o ∧ o.length ≤ 65536 ∧ str = strOfNums o) ∧ (c.f0 ≠ 4 → str = ⟨#[]⟩)
theorem pany_one (s : ByteArray) (c : S78) (hz : Sz s c) (h : G s (.val c)) (hT : Tv s c.f2) (hP : VD s c) (w0 : World) (hV1 : ∀ W, Below w0.heap.size w0 W → VT W) (hV2 : Tabs w0) :
  ∃ str x, StrIn s c str ∧ Tell s c str x w0 := by
 have hR := h.rem
 obtain ⟨k0, k1, k2, _⟩ := h.ok
 have tr : ∀ {w W : World}, Below w0.heap.size w0 w → Below w.heap.size w W → Below w0.heap.size w0 W := fun a b => a.trans (b.mono a.size)
 have no : ∀ {c : S78}, c.f0 ≠ 4 → StrIn s c ⟨#[]⟩ := fun h => ⟨fun q => absurd q h, fun _ => rfl⟩
 cases h with
 | num p e h0 h =>
  obtain ⟨a, b, c, hN⟩ := numG_at h0 h
  have hs := hz.small (by dsimp only; omega) (by dsimp only; omega)
  obtain ⟨x, hx⟩ := pf_det (s.extract p.toNat e.toNat) a b c w0 (by rw [ByteArray.size_extract]; omega) hN hV2
  exact ⟨⟨#[]⟩, x, no (by dsimp only; omega), fun w hw i i0 i1 i2 => pany_num s hs i p e i0 i1 i2 h0 h hT x w fun W hW => hx W (tr hw hW)⟩
 | str p e h =>
  obtain ⟨o, ho, hol⟩ := hP rfl
  exact ⟨strOfNums o, 0, ⟨fun _ => ⟨o, ho, hol, rfl⟩, fun q => absurd rfl q⟩, fun w hw i i0 i1 i2 => pany_str s (hz.small (by dsimp only; omega) (by dsimp only; omega)) i p e i0 i1 i2 h o ho hol w⟩
 | null p e h0 h =>
  have hl := Wd.byte (P := fun x => 97 ≤ x ∧ x ≤ 122) h0 h wNull_low
  have hs : wNull.size = 4 := rfl
  have e0 := wd_bt h0 h 0 (by omega) (by omega)
  have e1 := wd_bt h0 h 1 (by omega) (by omega)
  rw [Int.add_zero] at e0
  have h1 := h.1
  exact ⟨⟨#[]⟩, 0, no (by dsimp only; omega), fun w hw i i0 i1 i2 => pany_word s (hz.small (by dsimp only; omega) (by dsimp only; omega)) i p e 0 i0 i1 i2 h0 k1 k2 (.inl ⟨rfl, by rw [e0]; rfl, by rw [e1]; rfl, by omega⟩) hl hT w⟩
 | fals p e h0 h =>
  have hl := Wd.byte (P := fun x => 97 ≤ x ∧ x ≤ 122) h0 h wFalse_low
  have e0 := wd_bt h0 h 0 (by omega) (by decide)
  rw [Int.add_zero] at e0
  exact ⟨⟨#[]⟩, 0, no (by dsimp only; omega), fun w hw i i0 i1 i2 => pany_word s (hz.small (by dsimp only; omega) (by dsimp only; omega)) i p e 1 i0 i1 i2 h0 k1 k2 (.inr (.inr ⟨rfl, by rw [e0]; rfl⟩)) hl hT w⟩
 | tru p e h0 h =>
  have hl := Wd.byte (P := fun x => 97 ≤ x ∧ x ≤ 122) h0 h wTrue_low
  have e0 := wd_bt h0 h 0 (by omega) (by decide)
  rw [Int.add_zero] at e0
  exact ⟨⟨#[]⟩, 0, no (by dsimp only; omega), fun w hw i i0 i1 i2 => pany_word s (hz.small (by dsimp only; omega) (by dsimp only; omega)) i p e 4 i0 i1 i2 h0 k1 k2 (.inr (.inl ⟨rfl, by rw [e0]; rfl⟩)) hl hT w⟩
 | arr0 p b h0 h1 h2 h3 h4 => exact ⟨⟨#[]⟩, 0, no (by dsimp only; omega), fun w hw i i0 i1 i2 => pany_json s hz.big i p (b + 1) i0 i1 i2 h0 k1 k2 (.inr h1) (hR.2 (.inl rfl)) w fun W hW => hV1 W (tr hw hW)⟩
 | arr p b e C h0 h1 h2 h3 => exact ⟨⟨#[]⟩, 0, no (by dsimp only; omega), fun w hw i i0 i1 i2 => pany_json s hz.big i p e i0 i1 i2 h0 k1 k2 (.inr h1) (hR.2 (.inl rfl)) w fun W hW => hV1 W (tr hw hW)⟩
 | obj0 p b h0 h1 h2 h3 h4 => exact ⟨⟨#[]⟩, 0, no (by dsimp only; omega), fun w hw i i0 i1 i2 => pany_json s hz.big i p (b + 1) i0 i1 i2 h0 k1 k2 (.inl h1) (hR.2 (.inr rfl)) w fun W hW => hV1 W (tr hw hW)⟩
 | obj p b e N C h0 h1 h2 h3 => exact ⟨⟨#[]⟩, 0, no (by dsimp only; omega), fun w hw i i0 i1 i2 => pany_json s hz.big i p e i0 i1 i2 h0 k1 k2 (.inl h1) (hR.2 (.inr rfl)) w fun W hW => hV1 W (tr hw hW)⟩
section
variable {B : Nat} {Inv : Nat → World → Prop}
end
section
variable {B : Nat} {Inv : Nat → World → Prop}
end
theorem exi_calls (T : Int) (raw str : ByteArray) (x : Nat) (ix : Int) (w : World) (h : T ≠ 0 ∨ 0 < raw.size) :
  Calls Tryz.prog 63 #[.agg #[.int .i64 T, .string raw, .string str, .float .f64 x, .int .i64 ix, .slice none 0 0]] w fun e w' => e = .returned (.bool true) ∧ Below w.heap.size w w' := by
 by_cases hT : T = 0
 rotate_left
 ·have hT0 : (T != 0) = true := bne_iff_ne.mpr hT
  clear hT h
  go_enter Tryz.func63, Tryz.ntmps63
  go_wp2_with fail
  go_ret
  exact ⟨rfl, below_alloc (Below.refl _ _) _⟩
 have hr : 0 < raw.size := h.resolve_left (fun q => q hT)
 have hT0 : (T != 0) = false := bne_eq_false_iff_eq.mpr hT
 have hr0 : ((raw.size : Int) != 0) = true := bne_iff_ne.mpr (by omega)
 clear hT h hr
 go_enter Tryz.func63, Tryz.ntmps63
 go_wp2_with fail
 go_ret
 exact ⟨rfl, below_alloc (Below.refl _ _) _⟩
section
variable {B : Nat} {Inv : Nat → World → Prop}
end
section
variable {B : Nat} {Inv : Nat → World → Prop}
end
end Go.Proofs.YtgiioglmkogpkaaGreatDoor.F
namespace Go.Proofs.YtgiioglmkogpkaaGreatDoor.F
open Go.RowKit Go.Proofs.YtgiioglmkogpkaaGreatDoorW.PrintWords Go.Proofs.YtgiioglmkogpkaaGreatDoorW.PrintLast Go.Proofs.YtgiioglmkogpkaaGreatDoorW.PrintMore
open M L
attribute [local go_sem] run_store_float
def cellv (w : World) (r i : Nat) : Value := (w.cell? ⟨r, i, none⟩).getD undef
theorem cellv_of {w : World} {r i : Nat} {v : Value} (h : w.cell? ⟨r, i, none⟩ = some v) : w.cell? ⟨r, i, none⟩ = some (cellv w r i) := by simp [cellv, h]
end Go.Proofs.YtgiioglmkogpkaaGreatDoor.F
namespace Go.Proofs.YtgiioglmkogpkaaGreatDoor.F
open Go.RowKit Go.Proofs.YtgiioglmkogpkaaGreatDoorW.PrintWords Go.Proofs.YtgiioglmkogpkaaGreatDoorW.PrintLast Go.Proofs.YtgiioglmkogpkaaGreatDoorW.PrintMore
open M L V
set_option maxHeartbeats 4000000
set_option maxRecDepth 8192
attribute [local go_sem] run_store_float
def r41b (T : Int) (s str : ByteArray) (x : Nat) (b : Bool) : Value := .agg #[.int .i64 T, .string s, .string str, .float .f64 x, .bool b]
theorem r41bEnd (P : Ending → World → Prop) (s str : ByteArray) (T : Int) (x : Nat) (b : Bool) (W : World) (r : Nat) (tm : Array Value) (h2 : tm.getD 2 undef = .pointer (some ⟨r, 0, none⟩)) (hg : W.heap[r]? = some (.cells #[.int .i64 T, .string s, .string str, .float .f64 x, .bool b] 41 (0, 0))) (hb : P (.returned (r41b T s str x b)) W) :
  bodyPost Tryz.prog Tryz.f39 P .ret ⟨tm, []⟩ W := by
 have n0 := blk_cell hg 0
 have n1 := blk_cell hg 1
 have n2 := blk_cell hg 2
 have n3 := blk_cell hg 3
 have n4 := blk_cell hg 4
 refine bodyPost_ret (v := r41b T s str x b) ?_ rfl hb
 simp only [results, Tryz.results39]
 have h2' := h2
 simp only [Array.getD_eq_getD_getElem?] at h2'
 simp [go_sem, h2, h2', n0, n1, n2, n3, n4, r41b]
theorem exb_calls (T : Int) (raw str : ByteArray) (x : Nat) (ix : Int) (w : World) (b : Bool) (h : (b = true ∧ (T ≠ 0 ∨ 0 < raw.size)) ∨ (b = false ∧ T = 0 ∧ raw = ⟨#[]⟩ ∧ str = ⟨#[]⟩ ∧ x = 0)) :
  Calls Tryz.prog 63 #[.agg #[.int .i64 T, .string raw, .string str, .float .f64 x, .int .i64 ix, .slice none 0 0]] w fun e w' => e = .returned (.bool b) ∧ Below w.heap.size w w' := by
 rcases h with ⟨rfl, h⟩ | ⟨rfl, rfl, rfl, rfl, rfl⟩
 ·exact exi_calls T raw str x ix w h
 go_enter Tryz.func63, Tryz.ntmps63
 go_wp2_with fail
 go_ret
 exact ⟨rfl, below_alloc (Below.refl _ _) _⟩
structure Gq (w W : World) (g r : Nat) (T : Int) (s str : ByteArray) (x : Nat) (ix : Int) (b : Bool) : Prop where
 hg : W.heap[g]? = some (.cells #[.int .i64 T, .string s, .string str, .float .f64 x, .int .i64 ix, .slice none 0 0] 66 (0, 0))
 hr : W.heap[r]? = some (.cells #[.int .i64 0, .string ⟨#[]⟩, .string ⟨#[]⟩, .float .f64 0, .bool false] 41 (0, 0)) ∨ W.heap[r]? = some (.cells #[.int .i64 T, .string s, .string str, .float .f64 x, .bool b] 41 (0, 0))
 ne : g ≠ r
 gb : w.heap.size ≤ g
 rb : w.heap.size ≤ r
 be : Below w.heap.size w W
theorem Gq.all {w W : World} {g r : Nat} {T : Int} {s str : ByteArray} {x : Nat} {ix : Int} {b : Bool} (h : Gq w W g r T s str x ix b) :
  Gq w W g r T s str x ix b ∧ W.cell? ⟨g, 0, none⟩ = some (.int .i64 T) ∧ W.cell? ⟨g, 1, none⟩ = some (.string s) ∧ W.cell? ⟨g, 2, none⟩ = some (.string str) ∧ W.cell? ⟨g, 3, none⟩ = some (.float .f64 x) ∧ W.cell? ⟨g, 4, none⟩ = some (.int .i64 ix) ∧ W.cell? ⟨g, 5, none⟩ = some (.slice none 0 0) ∧
   (∀ i, W.frozen? ⟨r, i, none⟩ = false) ∧ W.cell? ⟨r, 0, none⟩ = some (cellv W r 0) ∧ W.cell? ⟨r, 1, none⟩ = some (cellv W r 1) ∧ W.cell? ⟨r, 2, none⟩ = some (cellv W r 2) ∧ W.cell? ⟨r, 3, none⟩ = some (cellv W r 3) ∧ W.cell? ⟨r, 4, none⟩ = some (cellv W r 4) :=
 ⟨h, blk_cell h.hg 0, blk_cell h.hg 1, blk_cell h.hg 2, blk_cell h.hg 3, blk_cell h.hg 4, blk_cell h.hg 5, by rcases h.hr with h | h <;> exact blk_frozen h, by rcases h.hr with h | h <;> exact cellv_of (blk_cell h 0), by rcases h.hr with h | h <;> exact cellv_of (blk_cell h 1), by rcases h.hr with h | h <;> exact cellv_of (blk_cell h 2), by rcases h.hr with h | h <;> exact cellv_of (blk_cell h 3), by rcases h.hr with h | h <;> exact cellv_of (blk_cell h 4)⟩
theorem Gq.drew {w W : World} {g r : Nat} {T : Int} {s str : ByteArray} {x : Nat} {ix : Int} {b : Bool} (h : Gq w W g r T s str x ix b) : Gq w W.drew g r T s str x ix b :=
 ⟨h.hg, h.hr, h.ne, h.gb, h.rb, below_drew h.be⟩
theorem Gq.below {w W W2 : World} {g r : Nat} {T : Int} {s str : ByteArray} {x : Nat} {ix : Int} {b : Bool} (h : Gq w W g r T s str x ix b) (hb : Below W.heap.size W W2) : Gq w W2 g r T s str x ix b := by
 refine ⟨(hb.block g (blk_lt h.hg)).trans h.hg, ?_, h.ne, h.gb, h.rb, below_then h.be h.be.size hb⟩
 rcases h.hr with h | h
 ·exact .inl ((hb.block r (blk_lt h)).trans h)
 ·exact .inr ((hb.block r (blk_lt h)).trans h)
theorem Gq.store {w W : World} {g r : Nat} {T : Int} {s str : ByteArray} {x : Nat} {ix : Int} {b : Bool} (h : Gq w W g r T s str x ix b) :
  Gq w (((((W.setCell ⟨r, 0, none⟩ (.int .i64 T)).setCell ⟨r, 1, none⟩ (.string s)).setCell ⟨r, 2, none⟩ (.string str)).setCell ⟨r, 3, none⟩ (.float .f64 x)).setCell ⟨r, 4, none⟩ (.bool b)) g r T s str x ix b :=
 ⟨blk_far (blk_far (blk_far (blk_far (blk_far h.hg h.ne _) h.ne _) h.ne _) h.ne _) h.ne _, .inr (by rcases h.hr with h | h <;> exact blk_set (blk_set (blk_set (blk_set (blk_set h 0 _) 1 _) 2 _) 3 _) 4 _), h.ne, h.gb, h.rb, below_set (below_set (below_set (below_set (below_set h.be h.rb) h.rb) h.rb) h.rb) h.rb⟩
theorem Gq.fin {w X : World} {g r : Nat} {T : Int} {s str : ByteArray} {x : Nat} {ix : Int} {b : Bool} (h : Gq w (X.setCell ⟨r, 4, none⟩ (.bool b)) g r T s str x ix b) (hz : (b = true ∧ (T ≠ 0 ∨ 0 < s.size)) ∨ (b = false ∧ T = 0 ∧ s = ⟨#[]⟩ ∧ str = ⟨#[]⟩ ∧ x = 0)) :
  (X.setCell ⟨r, 4, none⟩ (.bool b)).heap[r]? = some (.cells #[.int .i64 T, .string s, .string str, .float .f64 x, .bool b] 41 (0, 0)) := by
 rcases h.hr with h1 | h1
 rotate_left
 ·exact h1
 rcases hz with ⟨rfl, _⟩ | ⟨rfl, rfl, rfl, rfl, rfl⟩
 rotate_left
 ·exact h1
 exfalso
 simp only [World.setCell, Array.getElem?_modify, if_true] at h1
 cases hq : X.heap[r]? with
 | none => rw [hq] at h1; simp at h1
 | some o =>
  rw [hq] at h1
  cases o <;> simp at h1
  rename_i cs t f
  obtain ⟨q, _⟩ := h1
  have := congrArg (fun a => a[4]?) q
  simp [Array.getElem?_setIfInBounds] at this
theorem gjb_calls (T : Int) (s str : ByteArray) (x : Nat) (ix : Int) (w : World) (b : Bool) (hT : (b = true ∧ (T ≠ 0 ∨ 0 < s.size)) ∨ (b = false ∧ T = 0 ∧ s = ⟨#[]⟩ ∧ str = ⟨#[]⟩ ∧ x = 0)) :
  Calls Tryz.prog 39 #[resI T s str x ix] w fun e w' => e = .returned (r41b T s str x b) ∧ Below w.heap.size w w' := by
 have HT := Aside0.mk hT
 clear hT
 simp only [resI, r41b]
 go_enter Tryz.func39, Tryz.ntmps39
 go_wp2_with fail
 have G0 : Gq w ((w.alloc (.cells #[.int .i64 T, .string s, .string str, .float .f64 x, .int .i64 ix, .slice none 0 0] 66)).alloc (.cells #[.int .i64 0, .string ⟨#[]⟩, .string ⟨#[]⟩, .float .f64 0, .bool false] 41)) w.heap.size (w.heap.size + 1) T s str x ix b := by
  have e : (w.alloc (.cells #[.int .i64 T, .string s, .string str, .float .f64 x, .int .i64 ix, .slice none 0 0] 66)).heap.size = w.heap.size + 1 := by simp
  have := heap_alloc_new (w.alloc (.cells #[.int .i64 T, .string s, .string str, .float .f64 x, .int .i64 ix, .slice none 0 0] 66)) (.cells #[.int .i64 0, .string ⟨#[]⟩, .string ⟨#[]⟩, .float .f64 0, .bool false] 41)
  rw [e] at this
  exact ⟨(Below.heap_alloc _ _ _ (by omega)).trans (heap_alloc_new w _), .inl this, by omega, by omega, by omega, below_alloc (below_alloc (Below.refl _ _) _) _⟩
 generalize (w.alloc (.cells #[.int .i64 T, .string s, .string str, .float .f64 x, .int .i64 ix, .slice none 0 0] 66)).alloc (.cells #[.int .i64 0, .string ⟨#[]⟩, .string ⟨#[]⟩, .float .f64 0, .bool false] 41) = W at *
 generalize w.heap.size = g at *
 generalize g + 1 = r at *
 have G1 := G0.drew
 go_region_held3 (fun w' => Gq w w' g r T s str x ix b ∧ w'.cell? ⟨g, 0, none⟩ = some (.int .i64 T) ∧ w'.cell? ⟨g, 1, none⟩ = some (.string s) ∧ w'.cell? ⟨g, 2, none⟩ = some (.string str) ∧ w'.cell? ⟨g, 3, none⟩ = some (.float .f64 x) ∧ w'.cell? ⟨g, 4, none⟩ = some (.int .i64 ix) ∧ w'.cell? ⟨g, 5, none⟩ = some (.slice none 0 0) ∧
   (∀ i, w'.frozen? ⟨r, i, none⟩ = false) ∧ w'.cell? ⟨r, 0, none⟩ = some (cellv w' r 0) ∧ w'.cell? ⟨r, 1, none⟩ = some (cellv w' r 1) ∧ w'.cell? ⟨r, 2, none⟩ = some (cellv w' r 2) ∧ w'.cell? ⟨r, 3, none⟩ = some (cellv w' r 3) ∧ w'.cell? ⟨r, 4, none⟩ = some (cellv w' r 4))
  ((go_split_ands; first | exact Gq.all (by assumption) | exact Gq.all (Gq.below (by assumption) (by assumption)) | exact Gq.all (Gq.store (by assumption))))
  (first | (go_at_call 63; refine (exb_calls T s str x ix _ b HT.out).mono ?_; rintro e w2 ⟨rfl, hb⟩))
 go_split_ands
 have Gf : Gq w (((((w2.setCell ⟨r, 0, none⟩ (.int .i64 T)).setCell ⟨r, 1, none⟩ (.string s)).setCell ⟨r, 2, none⟩ (.string str)).setCell ⟨r, 3, none⟩ (.float .f64 x)).setCell ⟨r, 4, none⟩ (.bool b)) g r T s str x ix b := by assumption
 have hf := Gf.fin HT.out
 have hbe := Gf.be
 have HE := Aside0.mk (And.intro hf hbe)
 go_wp2_with fail
 exact r41bEnd _ s str T x b _ r _ rfl HE.out.1 ⟨rfl, HE.out.2⟩
end Go.Proofs.YtgiioglmkogpkaaGreatDoor.F
namespace Go.Proofs.YtgiioglmkogpkaaGreatDoor.F
open Go.RowKit Go.Proofs.YtgiioglmkogpkaaGreatDoorW.PrintWords Go.Proofs.YtgiioglmkogpkaaGreatDoorW.PrintLast Go.Proofs.YtgiioglmkogpkaaGreatDoorW.PrintMore
open M
attribute [local go_sem] max2_int min2_int
section
variable {o : Oper} {ops : Array Oper} {Q : Exit → Act → World → Prop} {rest : List Oper} {a : Act}
end
end Go.Proofs.YtgiioglmkogpkaaGreatDoor.F
namespace Go.Proofs.YtgiioglmkogpkaaGreatDoor.F
open Go.RowKit Go.Proofs.YtgiioglmkogpkaaGreatDoorW.PrintWords Go.Proofs.YtgiioglmkogpkaaGreatDoorW.PrintLast Go.Proofs.YtgiioglmkogpkaaGreatDoorW.PrintMore
open M L
attribute [local go_sem] run_store_float
end Go.Proofs.YtgiioglmkogpkaaGreatDoor.F
namespace Go.Proofs.YtgiioglmkogpkaaGreatDoor.F
open Go.RowKit Go.Proofs.YtgiioglmkogpkaaGreatDoorW.PrintWords Go.Proofs.YtgiioglmkogpkaaGreatDoorW.PrintLast Go.Proofs.YtgiioglmkogpkaaGreatDoorW.PrintMore
open M L
attribute [local go_sem] max2_int min2_int
end Go.Proofs.YtgiioglmkogpkaaGreatDoor.F
namespace Go.Proofs.YtgiioglmkogpkaaGreatDoor.F
open Go.RowKit Go.Proofs.YtgiioglmkogpkaaGreatDoorW.PrintWords Go.Proofs.YtgiioglmkogpkaaGreatDoorW.PrintLast Go.Proofs.YtgiioglmkogpkaaGreatDoorW.PrintMore
open M L
theorem R_keepb {α : Type} {d : Kd α} {e : Nat} {w w1 : World} {base : Nat} {ok : Nat → Prop} {v : Value} {xs : List α} {g : Nat} (h : d.R e w base ok v xs) (hk : KeepBut w w1 g none) (hg : g < base) : d.R e w1 base ok v xs :=
 Kd.R_mono (Kd.R_keep (Kd.R_bound h) hk (fun k hk => by have := hk.2; omega)) (fun k hk => hk.1)
structure Pl (w W : World) (s : ByteArray) (p : Int) : Prop where
 hi : IsS112 w W (w.heap.size + 1) s p
 be : Below w.heap.size w W
 hr : W.heap[w.heap.size]? = some (.cells #[.int .i64 0, .int .i64 0, .int .i64 0, .slice none 0 0, .slice none 0 0] 78 (0, 0))
theorem Pl.new (w : World) (s : ByteArray) : Pl w ((w.alloc (.cells #[.int .i64 0, .int .i64 0, .int .i64 0, .slice none 0 0, .slice none 0 0] 78)).alloc (.cells #[.string s, .int .i64 0] 112)) s 0 := by
 have e : (w.alloc (.cells #[.int .i64 0, .int .i64 0, .int .i64 0, .slice none 0 0, .slice none 0 0] 78)).heap.size = w.heap.size + 1 := by simp
 have hn := heap_alloc_new (w.alloc (.cells #[.int .i64 0, .int .i64 0, .int .i64 0, .slice none 0 0, .slice none 0 0] 78)) (.cells #[.string s, .int .i64 0] 112)
 rw [e] at hn
 exact ⟨⟨hn, by omega⟩, below_alloc (below_alloc (Below.refl _ _) _) _, (Below.heap_alloc _ _ _ (by omega)).trans (heap_alloc_new w _)⟩
theorem Pl.step {w W W2 : World} {s : ByteArray} {p p2 : Int} (h : Pl w W s p) (hi : IsS112 w W2 (w.heap.size + 1) s p2) (hb : Below w.heap.size w W2) (hk : KeepBut W W2 (w.heap.size + 1) none) : Pl w W2 s p2 :=
 ⟨hi, hb, hk.blk h.hr (by omega) (by simp)⟩
theorem Pl.alloc {w W : World} {s : ByteArray} {p : Int} (h : Pl w W s p) (o : Obj) : Pl w (W.alloc o) s p :=
 ⟨h.hi.alloc o, below_alloc h.be o, (Below.heap_alloc W o _ (blk_lt h.hr)).trans h.hr⟩
theorem Pl.cells {w W : World} {s : ByteArray} {p : Int} (h : Pl w W s p) :
  W.cell? ⟨w.heap.size + 1, 1, none⟩ = some (.int .i64 p) ∧ W.cell? ⟨w.heap.size, 0, none⟩ = some (.int .i64 0) ∧ W.cell? ⟨w.heap.size, 1, none⟩ = some (.int .i64 0) ∧ W.cell? ⟨w.heap.size, 2, none⟩ = some (.int .i64 0) ∧ W.cell? ⟨w.heap.size, 3, none⟩ = some (.slice none 0 0) ∧ W.cell? ⟨w.heap.size, 4, none⟩ = some (.slice none 0 0) ∧ (∀ i, W.frozen? ⟨w.heap.size, i, none⟩ = false) :=
 ⟨blk_cell h.hi.1 1, blk_cell h.hr 0, blk_cell h.hr 1, blk_cell h.hr 2, blk_cell h.hr 3, blk_cell h.hr 4, fun i => blk_frozen h.hr i⟩
structure Pv (w W : World) (b : Nat) (K p q : Int) (A3 A4 : Option Addr) (n3 n4 c3 c4 : Nat) : Prop where
 hv : W.heap[b]? = some (.cells #[.int .i64 K, .int .i64 p, .int .i64 q, .slice A3 n3 c3, .slice A4 n4 c4] 78 (0, 0))
 ne : b ≠ w.heap.size
theorem Pv.new {w w2 W : World} {s : ByteArray} {p2 : Int} (h : Pl w w2 s p2) {K p q : Int} {A3 A4 : Option Addr} {n3 n4 c3 c4 : Nat} (hk : KeepBut (w2.alloc (.cells #[.int .i64 K, .int .i64 p, .int .i64 q, .slice A3 n3 c3, .slice A4 n4 c4] 78)) W (w.heap.size + 1) none) : Pv w W w2.heap.size K p q A3 A4 n3 n4 c3 c4 :=
 ⟨hk.blk (heap_alloc_new w2 _) (by have := blk_lt h.hi.1; omega) (by simp), by have := blk_lt h.hr; omega⟩
theorem Pv.cells {w W : World} {b : Nat} {K p q : Int} {A3 A4 : Option Addr} {n3 n4 c3 c4 : Nat} (h : Pv w W b K p q A3 A4 n3 n4 c3 c4) :
  W.cell? ⟨b, 0, none⟩ = some (.int .i64 K) ∧ W.cell? ⟨b, 1, none⟩ = some (.int .i64 p) ∧ W.cell? ⟨b, 2, none⟩ = some (.int .i64 q) ∧ W.cell? ⟨b, 3, none⟩ = some (.slice A3 n3 c3) ∧ W.cell? ⟨b, 4, none⟩ = some (.slice A4 n4 c4) :=
 ⟨blk_cell h.hv 0, blk_cell h.hv 1, blk_cell h.hv 2, blk_cell h.hv 3, blk_cell h.hv 4⟩
theorem Pl.stored {w W : World} {s : ByteArray} {p0 : Int} (h : Pl w W s p0) (a b c d e : Value) :
  (((((W.setCell ⟨w.heap.size, 0, none⟩ a).setCell ⟨w.heap.size, 1, none⟩ b).setCell ⟨w.heap.size, 2, none⟩ c).setCell ⟨w.heap.size, 3, none⟩ d).setCell ⟨w.heap.size, 4, none⟩ e).heap[w.heap.size]? = some (.cells #[a, b, c, d, e] 78 (0, 0)) :=
 blk_set (blk_set (blk_set (blk_set (blk_set h.hr 0 _) 1 _) 2 _) 3 _) 4 _
theorem Pl.stored_below {w W : World} {s : ByteArray} {p0 : Int} (h : Pl w W s p0) (a b c d e : Value) :
  Below w.heap.size w (((((W.setCell ⟨w.heap.size, 0, none⟩ a).setCell ⟨w.heap.size, 1, none⟩ b).setCell ⟨w.heap.size, 2, none⟩ c).setCell ⟨w.heap.size, 3, none⟩ d).setCell ⟨w.heap.size, 4, none⟩ e) :=
 below_set (below_set (below_set (below_set (below_set h.be (Nat.le_refl _)) (Nat.le_refl _)) (Nat.le_refl _)) (Nat.le_refl _)) (Nat.le_refl _)
theorem stored_keep (W : World) (r : Nat) (a b c d e : Value) :
  KeepBut W (((((W.setCell ⟨r, 0, none⟩ a).setCell ⟨r, 1, none⟩ b).setCell ⟨r, 2, none⟩ c).setCell ⟨r, 3, none⟩ d).setCell ⟨r, 4, none⟩ e) r none :=
 KeepBut.set_ (KeepBut.set_ (KeepBut.set_ (KeepBut.set_ (KeepBut.set_ (KeepBut.refl _ _ _) _ _) _ _) _ _) _ _) _ _
theorem Pl.facts {w W : World} {s : ByteArray} {p : Int} (h : Pl w W s p) :
  (∀ o, (W.alloc o).cell? ⟨w.heap.size, 0, none⟩ = some (.int .i64 0)) ∧ (∀ o, (W.alloc o).cell? ⟨w.heap.size, 1, none⟩ = some (.int .i64 0)) ∧ (∀ o, (W.alloc o).cell? ⟨w.heap.size, 2, none⟩ = some (.int .i64 0)) ∧ (∀ o, (W.alloc o).cell? ⟨w.heap.size, 3, none⟩ = some (.slice none 0 0)) ∧ (∀ o, (W.alloc o).cell? ⟨w.heap.size, 4, none⟩ = some (.slice none 0 0)) ∧ (∀ o i, (W.alloc o).frozen? ⟨w.heap.size, i, none⟩ = false) := by
 have hra : ∀ o, (W.alloc o).heap[w.heap.size]? = some (.cells #[.int .i64 0, .int .i64 0, .int .i64 0, .slice none 0 0, .slice none 0 0] 78 (0, 0)) := fun o => (Below.heap_alloc W o _ (blk_lt h.hr)).trans h.hr
 exact ⟨fun o => blk_cell (hra o) 0, fun o => blk_cell (hra o) 1, fun o => blk_cell (hra o) 2, fun o => blk_cell (hra o) 3, fun o => blk_cell (hra o) 4, fun o => blk_frozen (hra o)⟩
theorem plEnd (P : Ending → World → Prop) (K p q : Int) (v3 v4 : Value) (hv3 : ∃ A n c, v3 = .slice A n c) (hv4 : ∃ A n c, v4 = .slice A n c) (ok : Bool) (W : World) (r : Nat) (tm : Array Value) (h2 : tm.getD 2 undef = .pointer (some ⟨r, 0, none⟩)) (h3 : tm.getD 3 undef = .bool ok) (hg : W.heap[r]? = some (.cells #[.int .i64 K, .int .i64 p, .int .i64 q, v3, v4] 78 (0, 0))) (hb : P (.returned (.tuple #[.agg #[.int .i64 K, .int .i64 p, .int .i64 q, v3, v4], .bool ok])) W) :
  bodyPost Tryz.prog Tryz.f47 P .ret ⟨tm, []⟩ W := by
 obtain ⟨A3, n3, c3, rfl⟩ := hv3
 obtain ⟨A4, n4, c4, rfl⟩ := hv4
 have n0 := blk_cell hg 0
 have n1 := blk_cell hg 1
 have n2 := blk_cell hg 2
 have n3 := blk_cell hg 3
 have n4 := blk_cell hg 4
 refine bodyPost_ret (v := .tuple #[.agg #[.int .i64 K, .int .i64 p, .int .i64 q, .slice A3 _ c3, .slice A4 _ c4], .bool ok]) ?_ rfl hb
 simp only [results, Tryz.results47]
 have h2' := h2
 have h3' := h3
 simp only [Array.getD_eq_getD_getElem?] at h2' h3'
 simp [go_sem, h2, h2', h3, h3', n0, n1, n2, n3, n4]
structure Rb (w W : World) : Prop where
 hr : W.heap[w.heap.size]? = some (.cells #[.int .i64 0, .string ⟨#[]⟩, .slice none 0 0, .slice none 0 0] 25 (0, 0))
 be : Below w.heap.size w W
theorem Rb.new (w : World) : Rb w (w.alloc (.cells #[.int .i64 0, .string ⟨#[]⟩, .slice none 0 0, .slice none 0 0] 25)) := ⟨heap_alloc_new w _, below_alloc (Below.refl _ _) _⟩
theorem Rb.below {w W W2 : World} (h : Rb w W) (hb : Below W.heap.size W W2) : Rb w W2 := ⟨(hb.block _ (blk_lt h.hr)).trans h.hr, below_then h.be h.be.size hb⟩
theorem Rb.drewN {w W : World} (h : Rb w W) (n : Nat) : Rb w (W.drewN n) := ⟨h.hr, pw_below_drewN h.be n⟩
theorem Rb.cells {w W : World} (h : Rb w W) : W.cell? ⟨w.heap.size, 0, none⟩ = some (.int .i64 0) ∧ W.cell? ⟨w.heap.size, 1, none⟩ = some (.string ⟨#[]⟩) ∧ W.cell? ⟨w.heap.size, 2, none⟩ = some (.slice none 0 0) ∧ W.cell? ⟨w.heap.size, 3, none⟩ = some (.slice none 0 0) ∧ (∀ i, W.frozen? ⟨w.heap.size, i, none⟩ = false) :=
 ⟨blk_cell h.hr 0, blk_cell h.hr 1, blk_cell h.hr 2, blk_cell h.hr 3, fun i => blk_frozen h.hr i⟩
theorem Rb.alloc {w W : World} (h : Rb w W) (o : Obj) : Rb w (W.alloc o) := h.below (below_alloc (Below.refl _ _) o)
theorem Rb.acells {w W : World} (h : Rb w W) : (∀ o, (W.alloc o).cell? ⟨w.heap.size, 0, none⟩ = some (.int .i64 0)) ∧ (∀ o, (W.alloc o).cell? ⟨w.heap.size, 1, none⟩ = some (.string ⟨#[]⟩)) ∧ (∀ o, (W.alloc o).cell? ⟨w.heap.size, 2, none⟩ = some (.slice none 0 0)) ∧ (∀ o, (W.alloc o).cell? ⟨w.heap.size, 3, none⟩ = some (.slice none 0 0)) ∧ (∀ o i, (W.alloc o).frozen? ⟨w.heap.size, i, none⟩ = false) :=
 ⟨fun o => (h.alloc o).cells.1, fun o => (h.alloc o).cells.2.1, fun o => (h.alloc o).cells.2.2.1, fun o => (h.alloc o).cells.2.2.2.1, fun o => (h.alloc o).cells.2.2.2.2⟩
theorem Rb.stored {w W : World} (h : Rb w W) (a b c d : Value) :
  ((((W.setCell ⟨w.heap.size, 0, none⟩ a).setCell ⟨w.heap.size, 1, none⟩ b).setCell ⟨w.heap.size, 2, none⟩ c).setCell ⟨w.heap.size, 3, none⟩ d).heap[w.heap.size]? = some (.cells #[a, b, c, d] 25 (0, 0)) :=
 blk_set (blk_set (blk_set (blk_set h.hr 0 _) 1 _) 2 _) 3 _
theorem Rb.stored_below {w W : World} (h : Rb w W) (a b c d : Value) :
  Below w.heap.size w ((((W.setCell ⟨w.heap.size, 0, none⟩ a).setCell ⟨w.heap.size, 1, none⟩ b).setCell ⟨w.heap.size, 2, none⟩ c).setCell ⟨w.heap.size, 3, none⟩ d) :=
 below_set (below_set (below_set (below_set h.be (Nat.le_refl _)) (Nat.le_refl _)) (Nat.le_refl _)) (Nat.le_refl _)
theorem rdEnd (P : Ending → World → Prop) (K : Int) (txt : ByteArray) (A2 A3 : Option Addr) (n2 n3 c2 c3 : Nat) (ok : Bool) (W : World) (r : Nat) (tm : Array Value) (h2 : tm.getD 2 undef = .pointer (some ⟨r, 0, none⟩)) (h3 : tm.getD 3 undef = .bool ok) (hg : W.heap[r]? = some (.cells #[.int .i64 K, .string txt, .slice A2 n2 c2, .slice A3 n3 c3] 25 (0, 0))) (hb : P (.returned (.tuple #[.agg #[.int .i64 K, .string txt, .slice A2 n2 c2, .slice A3 n3 c3], .bool ok])) W) :
  bodyPost Tryz.prog Tryz.f21 P .ret ⟨tm, []⟩ W := by
 have n0 := blk_cell hg 0
 have n1 := blk_cell hg 1
 have n2' := blk_cell hg 2
 have n3' := blk_cell hg 3
 refine bodyPost_ret (v := .tuple #[.agg #[.int .i64 K, .string txt, .slice A2 n2 c2, .slice A3 n3 c3], .bool ok]) ?_ rfl hb
 simp only [results, Tryz.results21]
 have h2' := h2
 have h3' := h3
 simp only [Array.getD_eq_getD_getElem?] at h2' h3'
 simp [go_sem, h2, h2', h3, h3', n0, n1, n2', n3']
theorem gtEnd (P : Ending → World → Prop) (K : Int) (txt : ByteArray) (A2 A3 : Option Addr) (n2 n3 c2 c3 : Nat) (ok : Bool) (W : World) (r : Nat) (tm : Array Value) (h2 : tm.getD 2 undef = .pointer (some ⟨r, 0, none⟩)) (h3 : tm.getD 3 undef = .bool ok) (hg : W.heap[r]? = some (.cells #[.int .i64 K, .string txt, .slice A2 n2 c2, .slice A3 n3 c3] 25 (0, 0))) (hb : P (.returned (.tuple #[.agg #[.int .i64 K, .string txt, .slice A2 n2 c2, .slice A3 n3 c3], .bool ok])) W) :
  bodyPost Tryz.prog Tryz.f23 P .ret ⟨tm, []⟩ W := by
 have n0 := blk_cell hg 0
 have n1 := blk_cell hg 1
 have n2' := blk_cell hg 2
 have n3' := blk_cell hg 3
 refine bodyPost_ret (v := .tuple #[.agg #[.int .i64 K, .string txt, .slice A2 n2 c2, .slice A3 n3 c3], .bool ok]) ?_ rfl hb
 simp only [results, Tryz.results23]
 have h2' := h2
 have h3' := h3
 simp only [Array.getD_eq_getD_getElem?] at h2' h3'
 simp [go_sem, h2, h2', h3, h3', n0, n1, n2', n3']
end Go.Proofs.YtgiioglmkogpkaaGreatDoor.F
namespace Go.Proofs.YtgiioglmkogpkaaGreatDoor.F
open Go.RowKit Go.Proofs.YtgiioglmkogpkaaGreatDoorW.PrintWords Go.Proofs.YtgiioglmkogpkaaGreatDoorW.PrintLast Go.Proofs.YtgiioglmkogpkaaGreatDoorW.PrintMore
open M L V
def PlG (s : ByteArray) (K p q : Int) (N : List S115) (C : List S78) (b : Bool) (w : World) (e : Ending) (w' : World) : Prop := ∃ (K' p' q' : Int) (A3 A4 : Option Addr) (c3 c4 n3 n4 : Nat) (ok : Bool), e = .returned (.tuple #[.agg #[.int .i64 K', .int .i64 p', .int .i64 q', .slice A3 n3 c3, .slice A4 n4 c4], .bool ok]) ∧ Below w.heap.size w w' ∧ ok = b ∧
 (ok = true → K' = K ∧ p' = p ∧ q' = q ∧ n3 = N.length ∧ n4 = C.length ∧ Kd.C k115 w' A3 N.length N ∧ N.length ≤ c3 ∧ Kd.C k78 w' A4 C.length C ∧ C.length ≤ c4)
set_option maxHeartbeats 4000000 in
set_option maxRecDepth 8192 in
theorem places_gen (s : ByteArray) (hz : s.size ≤ 65536) (p K q p3 : Int) (N : List S115) (C : List S78) (ok : Bool) (K1 K2 K3 : Nat) (hE1 : spec_reader_blanks.f K1 s 0 = some (s, p)) (hp0 : 0 ≤ p) (hp1 : p ≤ s.size) (hE2 : spec_reader_value.f K2 s p = some (K, p, q, N, C, ok, s, q)) (hq0 : p ≤ q) (hq1 : q ≤ s.size) (hE3 : spec_reader_blanks.f K3 s q = some (s, p3)) (w : World) : Calls Tryz.prog 47 #[.string s] w (PlG s K p q N C (ok && decide (p3 = s.size)) w) := by
 have HE := Aside0.mk (And.intro hE1 (And.intro hE2 hE3))
 have HP := Aside0.mk (Pl.new w s)
 clear hE1 hE2 hE3
 cases ok
 all_goals go_enter Tryz.func47, Tryz.ntmps47
 all_goals go_wp2_with (first
  | (go_at_call 72; refine (spec_reader_blanks.calls K1 (w.heap.size + 1) s 0 s p w _ HP.out.hi HP.out.be HE.out.1).mono ?_; rintro e' w1 ⟨rfl, hi, hb, hk⟩; have HP1 := Aside0.mk (HP.out.step hi hb hk); clear hi hb hk HP)
  | (go_at_call 73; refine (spec_reader_value.calls K2 (w.heap.size + 1) s p K p q N C _ s q w _ HP1.out.hi HP1.out.be HE.out.2.1).mono ?_; rintro e' w2 ⟨v3, v4, rfl, hr3, hr4, hi, hb, hk⟩; obtain ⟨A3, c3, rfl⟩ := Kd.R_slice hr3; obtain ⟨A4, c4, rfl⟩ := Kd.R_slice hr4; have HP2 := Aside0.mk (HP1.out.step hi hb hk); have HR := Aside0.mk (And.intro hr3 hr4); clear hi hb hk hr3 hr4; obtain ⟨n0, n1, n2, n3, n4, f0⟩ := HP2.out.facts))
 ·refine plEnd _ 0 0 0 (.slice none 0 0) (.slice none 0 0) ⟨_, _, _, rfl⟩ ⟨_, _, _, rfl⟩ false _ _ _ rfl rfl ((HP2.out.alloc _).stored _ _ _ _ _) ?_
  exact ⟨0, 0, 0, none, none, 0, 0, 0, 0, false, rfl, (HP2.out.alloc _).stored_below _ _ _ _ _, rfl, fun h => by cases h⟩
 clear n0 n1 n2 n3 n4 f0
 by_cases hend : p3 = s.size
 rotate_left
 ·have x1 : (p3 != (s.size : Int)) = true := bne_iff_ne.mpr hend
  go_wp2_with (go_at_call 72; refine (spec_reader_blanks.calls K3 (w.heap.size + 1) s q s p3 w _ (HP2.out.alloc _).hi (HP2.out.alloc _).be HE.out.2.2).mono ?_; rintro e' w3 ⟨rfl, hi, hb, hk⟩; have HP3 := Aside0.mk ((HP2.out.alloc _).step hi hb hk); clear hi hb hk; obtain ⟨j1, n0, n1, n2, n3, n4, f0⟩ := HP3.out.cells)
  refine plEnd _ 0 0 0 (.slice none 0 0) (.slice none 0 0) ⟨_, _, _, rfl⟩ ⟨_, _, _, rfl⟩ false _ _ _ rfl rfl (HP3.out.stored _ _ _ _ _) ?_
  exact ⟨0, 0, 0, none, none, 0, 0, 0, 0, false, rfl, HP3.out.stored_below _ _ _ _ _, by simp [hend], fun h => by cases h⟩
 have x1 : (p3 != (s.size : Int)) = false := bne_eq_false_iff_eq.mpr hend
 go_wp2_with (go_at_call 72; refine (spec_reader_blanks.calls K3 (w.heap.size + 1) s q s p3 w _ (HP2.out.alloc _).hi (HP2.out.alloc _).be HE.out.2.2).mono ?_; rintro e' w3 ⟨rfl, hi, hb, hk⟩; have HP3 := Aside0.mk ((HP2.out.alloc _).step hi hb hk); have HV := Aside0.mk (Pv.new HP2.out hk); have HK := Aside0.mk hk; clear hi hb hk; obtain ⟨j1, n0, n1, n2, n3, n4, f0⟩ := HP3.out.cells; obtain ⟨k0, k1, k2, k3, k4⟩ := HV.out.cells)
 refine plEnd _ K p q (.slice A3 N.length c3) (.slice A4 C.length c4) ⟨_, _, _, rfl⟩ ⟨_, _, _, rfl⟩ true _ _ _ rfl rfl (HP3.out.stored _ _ _ _ _) ?_
 have hlt := blk_lt HP1.out.hi.1
 have hr3 := R_keepb (R_keepb (Kd.R_alloc HR.out.1 _) HK.out hlt) (stored_keep w3 w.heap.size (.int .i64 K) (.int .i64 p) (.int .i64 q) (.slice A3 N.length c3) (.slice A4 C.length c4)) (by omega)
 have hr4 := R_keepb (R_keepb (Kd.R_alloc HR.out.2 _) HK.out hlt) (stored_keep w3 w.heap.size (.int .i64 K) (.int .i64 p) (.int .i64 q) (.slice A3 N.length c3) (.slice A4 C.length c4)) (by omega)
 obtain ⟨_, hl3, hc3⟩ := Kd.R_reads' hr3
 obtain ⟨_, hl4, hc4⟩ := Kd.R_reads' hr4
 exact ⟨K, p, q, A3, A4, c3, c4, N.length, C.length, true, rfl, HP3.out.stored_below _ _ _ _ _, by simp [hend], fun _ => ⟨rfl, rfl, rfl, rfl, rfl, hc3, hl3, hc4, hl4⟩⟩
def NodeIn (w : World) (t : S25) (A2 A3 : Option Addr) (c2 c3 : Nat) : Prop := Kd.C Kd.string w A2 t.f2.length t.f2 ∧ t.f2.length ≤ c2 ∧ Kd.C k25 w A3 t.f3.length t.f3 ∧ t.f3.length ≤ c3
def NodeAt (B : Nat) (w : World) (t : S25) (A2 A3 : Option Addr) (c2 c3 : Nat) : Prop := ∀ W, (∀ k, B ≤ k → k < w.heap.size → W.heap[k]? = w.heap[k]?) → NodeIn W t A2 A3 c2 c3
theorem NodeAt.now {B : Nat} {w : World} {t : S25} {A2 A3 : Option Addr} {c2 c3 : Nat} (h : NodeAt B w t A2 A3 c2 c3) : NodeIn w t A2 A3 c2 c3 := h w (fun _ _ _ => rfl)
theorem NodeAt.low {B B' : Nat} {w : World} {t : S25} {A2 A3 : Option Addr} {c2 c3 : Nat} (h : NodeAt B w t A2 A3 c2 c3) (hB : B' ≤ B) : NodeAt B' w t A2 A3 c2 c3 := fun W hk => h W (fun k h1 h2 => hk k (by omega) h2)
theorem NodeAt.step {B : Nat} {w w2 : World} {t : S25} {A2 A3 : Option Addr} {c2 c3 : Nat} (h : NodeAt B w t A2 A3 c2 c3) (hz : w.heap.size ≤ w2.heap.size) (hs : ∀ k, B ≤ k → k < w.heap.size → w2.heap[k]? = w.heap[k]?) : NodeAt B w2 t A2 A3 c2 c3 := fun W hk => h W (fun k h1 h2 => (hk k h1 (by omega)).trans (hs k h1 h2))
theorem NodeAt.below {B : Nat} {w w2 : World} {t : S25} {A2 A3 : Option Addr} {c2 c3 : Nat} (h : NodeAt B w t A2 A3 c2 c3) (hb : Below w.heap.size w w2) : NodeAt B w2 t A2 A3 c2 c3 := h.step hb.size (fun k _ h2 => hb.block k h2)
theorem NodeAt.keepb {B g : Nat} {w w2 : World} {t : S25} {A2 A3 : Option Addr} {c2 c3 : Nat} (h : NodeAt B w t A2 A3 c2 c3) (hk : KeepBut w w2 g none) (hg : g < B) : NodeAt B w2 t A2 A3 c2 c3 := h.step hk.1 (fun k h1 h2 => hk.2 k h2 (by omega) (by simp))
theorem NodeAt.of_R {B b1 b2 : Nat} {ok1 ok2 : Nat → Prop} {e1 e2 n2 n3 : Nat} {w : World} {t : S25} {A2 A3 : Option Addr} {c2 c3 : Nat} (h2 : Kd.R Kd.string e1 w b1 ok1 (.slice A2 n2 c2) t.f2) (h3 : Kd.R k25 e2 w b2 ok2 (.slice A3 n3 c3) t.f3) (hB1 : B ≤ b1) (hB2 : B ≤ b2) : NodeAt B w t A2 A3 c2 c3 := fun W hk => by
 obtain ⟨e2, l2, r2⟩ := Kd.R_reads' (Kd.R_step (Kd.R_bound h2) (w1 := W) (fun k h1 h2 => hk k (by have := h1.2.1; omega) h2))
 obtain ⟨e3, l3, r3⟩ := Kd.R_reads' (Kd.R_step (Kd.R_bound h3) (w1 := W) (fun k h1 h2 => hk k (by have := h1.2.1; omega) h2))
 exact ⟨r2, by omega, r3, by omega⟩
def RdG (t : S25) (b : Bool) (w : World) (e : Ending) (w' : World) : Prop := ∃ (K : Int) (txt : ByteArray) (A2 A3 : Option Addr) (n2 n3 c2 c3 : Nat) (ok : Bool), e = .returned (.tuple #[.agg #[.int .i64 K, .string txt, .slice A2 n2 c2, .slice A3 n3 c3], .bool ok]) ∧ Below w.heap.size w w' ∧ ok = b ∧
 (ok = true → K = t.f0 ∧ txt = t.f1 ∧ n2 = t.f2.length ∧ n3 = t.f3.length ∧ NodeAt w.heap.size w' t A2 A3 c2 c3)
theorem stored_keep4 (W : World) (r : Nat) (a b c d : Value) : KeepBut W ((((W.setCell ⟨r, 0, none⟩ a).setCell ⟨r, 1, none⟩ b).setCell ⟨r, 2, none⟩ c).setCell ⟨r, 3, none⟩ d) r none :=
 KeepBut.set_ (KeepBut.set_ (KeepBut.set_ (KeepBut.set_ (KeepBut.refl _ _ _) _ _) _ _) _ _) _ _
set_option maxHeartbeats 4000000 in
set_option maxRecDepth 8192 in
theorem read_gen (s : ByteArray) (hz : s.size ≤ 65536) (p K q p3 : Int) (N : List S115) (C : List S78) (ok : Bool) (K1 K2 K3 : Nat) (hE1 : spec_reader_blanks.f K1 s 0 = some (s, p)) (hp0 : 0 ≤ p) (hp1 : p ≤ s.size) (hE2 : spec_reader_value.f K2 s p = some (K, p, q, N, C, ok, s, q)) (hq0 : p ≤ q) (hq1 : q ≤ s.size) (hE3 : spec_reader_blanks.f K3 s q = some (s, p3)) (t : S25) (ht : ok = true → p3 = s.size → TrOf s ⟨K, p, q, N, C⟩ t) (w : World) : Calls Tryz.prog 21 #[.string s] w (RdG t (ok && decide (p3 = s.size)) w) := by
 have HR := Aside0.mk (Rb.new w)
 have HP := Aside0.mk (fun W => places_gen s hz p K q p3 N C ok K1 K2 K3 hE1 hp0 hp1 hE2 hq0 hq1 hE3 W)
 have HTT := Aside0.mk ht
 clear hE1 hE2 hE3 ht
 go_enter Tryz.func21, Tryz.ntmps21
 go_upto_region 2 with (go_at_call 47; refine (HP.out _).mono ?_; rintro e' w1 ⟨K', p', q', A3, A4, c3, c4, n3, n4, ok', rfl, hb, hok, hF⟩; have HR1 := Aside0.mk (HR.out.below hb); have HF := Aside0.mk hF; have HOK := Aside0.mk hok; clear hb hF hok; obtain ⟨m0, m1, m2, m3, g0⟩ := HR1.out.acells)
 cases ok'
 ·go_wp2_with fail
  refine rdEnd _ 0 ⟨#[]⟩ none none 0 0 0 0 false _ _ _ rfl rfl ((HR1.out.alloc _).stored _ _ _ _) ?_
  exact ⟨0, ⟨#[]⟩, none, none, 0, 0, 0, 0, false, rfl, (HR1.out.alloc _).stored_below _ _ _ _, HOK.out, fun h => by cases h⟩
 obtain ⟨rfl, rfl, rfl, rfl, rfl, hC3, hl3, hC4, hl4⟩ := HF.out rfl
 have hb := HOK.out.symm
 simp only [Bool.and_eq_true, decide_eq_true_eq] at hb
 obtain ⟨k1, hE⟩ := HTT.out hb.1 hb.2
 have HE := Aside0.mk (hE k1 (Nat.le_refl _))
 have HC := Aside0.mk (And.intro (And.intro hC3 hl3) (And.intro hC4 hl4))
 clear hC3 hl3 hC4 hl4 hE m0 m1 m2 m3 g0 HF hb
 go_wp2_with (go_at_call 48; refine (tree_calls k1 s K' p' q' A3 c3 N A4 c4 C t.f0 t.f1 t.f2 t.f3 _ (Kd.C_alloc HC.out.1.1 _) HC.out.1.2 (Kd.C_alloc HC.out.2.1 _) HC.out.2.2 HE.out).mono ?_; rintro e' w2 ⟨v2, v3, rfl, hr2, hr3, hb⟩; obtain ⟨B2, d2, rfl⟩ := Kd.R_slice hr2; obtain ⟨B3, d3, rfl⟩ := Kd.R_slice hr3; have HR2 := Aside0.mk ((HR1.out.alloc _).below hb); have HRR := Aside0.mk (And.intro hr2 hr3); clear hr2 hr3 hb; obtain ⟨m0, m1, m2, m3, g0⟩ := HR2.out.cells)
 have hlt := blk_lt HR1.out.hr
 have hN := (NodeAt.of_R (B := w.heap.size + 1) HRR.out.1 HRR.out.2 (by simp; omega) (by simp; omega)).keepb (stored_keep4 w2 w.heap.size (.int .i64 t.f0) (.string t.f1) (.slice B2 t.f2.length d2) (.slice B3 t.f3.length d3)) (by omega)
 refine rdEnd _ t.f0 t.f1 B2 B3 t.f2.length t.f3.length d2 d3 true _ _ _ rfl rfl (HR2.out.stored _ _ _ _) ?_
 exact ⟨t.f0, t.f1, B2, B3, t.f2.length, t.f3.length, d2, d3, true, rfl, HR2.out.stored_below _ _ _ _, HOK.out, fun _ => ⟨rfl, rfl, rfl, rfl, hN.low (by omega)⟩⟩
def RdOk (s : ByteArray) (t : S25) : Prop := ∃ (q : S78) (T : ByteArray) (R : List ByteArray) (ts : List S25), V.G s (.val q) ∧ Bl s 0 q.f1 ∧ Bl s q.f2 s.size ∧ t = ⟨q.f0, T, R, ts⟩ ∧ TrOf s q t ∧ TLs s q.f4 ts ∧ SB t
def RdF (s : ByteArray) (w : World) (e : Ending) (w' : World) : Prop := ∃ (K : Int) (txt : ByteArray) (A2 A3 : Option Addr) (n2 n3 c2 c3 : Nat) (ok : Bool), e = .returned (.tuple #[.agg #[.int .i64 K, .string txt, .slice A2 n2 c2, .slice A3 n3 c3], .bool ok]) ∧ Below w.heap.size w w' ∧
 (ok = true → ∃ t : S25, RdOk s t ∧ K = t.f0 ∧ txt = t.f1 ∧ n2 = t.f2.length ∧ n3 = t.f3.length ∧ NodeAt w.heap.size w' t A2 A3 c2 c3)
theorem read_full (s : ByteArray) (hz : s.size ≤ 65536) (w : World) : Calls Tryz.prog 21 #[.string s] w (RdF s w) := by
 obtain ⟨p, ⟨K1, hE1⟩, hp0, hp1, hpB, _⟩ := blanksf_ev s hz 0 (by omega) (by omega)
 obtain ⟨K, q, N, C, ok, ⟨K2, hE2⟩, hq0, hq1, hqG⟩ := V.value_ev s hz (s.size + 1) p hp0 hp1 (by omega)
 obtain ⟨p3, ⟨K3, hE3⟩, hp30, hp31, hp3B, hp3n⟩ := blanksf_ev s hz q (by omega) hq1
 have go : ∀ t : S25, (ok = true → p3 = s.size → TrOf s ⟨K, p, q, N, C⟩ t) → (ok = true → p3 = s.size → RdOk s t) → Calls Tryz.prog 21 #[.string s] w (RdF s w) := by
  intro t h1 h2
  refine (read_gen s hz p K q p3 N C ok K1 K2 K3 (hE1 K1 (Nat.le_refl _)) hp0 hp1 (hE2 K2 (Nat.le_refl _)) hq0 hq1 (hE3 K3 (Nat.le_refl _)) t h1 w).mono ?_
  rintro e' w1 ⟨K', txt, A2, A3, n2, n3, c2, c3, ok', rfl, hb, hok, hF⟩
  refine ⟨K', txt, A2, A3, n2, n3, c2, c3, ok', rfl, hb, fun h => ?_⟩
  rw [hok] at h
  simp only [Bool.and_eq_true, decide_eq_true_eq] at h
  exact ⟨t, h2 h.1 h.2, hF (by rw [hok]; simp [h.1, h.2])⟩
 by_cases hc : ok = true ∧ p3 = s.size
 rotate_left
 ·exact go ⟨0, ⟨#[]⟩, [], []⟩ (fun h1 h2 => absurd ⟨h1, h2⟩ hc) (fun h1 h2 => absurd ⟨h1, h2⟩ hc)
 obtain ⟨h1, h2⟩ := hc
 have hG := hqG h1
 obtain ⟨T, R, ts, hR, hT, ht, _, hS, _⟩ := hG.tr hz
 refine go ⟨K, T, R, ts⟩ (fun _ _ => ht) (fun _ _ => ⟨⟨K, p, q, N, C⟩, T, R, ts, hG, ⟨hp0, hpB⟩, ⟨hq1, fun i a b => hp3B i a (by omega)⟩, rfl, ht, hT, hS⟩)
def GtF (s : ByteArray) (w : World) (e : Ending) (w' : World) : Prop := ∃ (K : Int) (txt : ByteArray) (A2 A3 : Option Addr) (n2 n3 c2 c3 : Nat) (ok : Bool), e = .returned (.tuple #[.agg #[.int .i64 K, .string txt, .slice A2 n2 c2, .slice A3 n3 c3], .bool ok]) ∧ Below w.heap.size w w' ∧
 (ok = true → s.size ≤ 65536 ∧ PA s 0 ∧ ∃ t : S25, RdOk s t ∧ K = t.f0 ∧ txt = t.f1 ∧ n2 = t.f2.length ∧ n3 = t.f3.length ∧ NodeAt w.heap.size w' t A2 A3 c2 c3)
set_option maxHeartbeats 4000000 in
set_option maxRecDepth 8192 in
theorem gjt_long (s : ByteArray) (hl : s.size < 140737488355328) (hz : 65536 < s.size) (w : World) : Calls Tryz.prog 23 #[.string s] w (GtF s w) := by
 have HR := Aside0.mk (Rb.new w)
 have x1 : decide (65536 < (s.size : Int)) = true := decide_eq_true (by omega)
 clear hz
 go_enter Tryz.func23, Tryz.ntmps23
 go_wp2_with fail
 refine gtEnd _ 0 ⟨#[]⟩ none none 0 0 0 0 false _ _ _ rfl rfl HR.out.hr ?_
 exact ⟨0, ⟨#[]⟩, none, none, 0, 0, 0, 0, false, rfl, HR.out.be, fun h => by cases h⟩
set_option maxHeartbeats 4000000 in
set_option maxRecDepth 8192 in
theorem gjt_short (s : ByteArray) (hz : s.size ≤ 65536) (w : World) : Calls Tryz.prog 23 #[.string s] w (GtF s w) := by
 have HR := Aside0.mk (Rb.new w)
 have x1 : decide (65536 < (s.size : Int)) = false := decide_eq_false (by omega)
 obtain ⟨u8, ku, hu⟩ := utf8_ev s hz (s.size + 1) 0 (by omega) (by omega) (by omega)
 obtain ⟨pr, kp, hp⟩ := paired_tot s hz (s.size + 1) 0 (by omega) (by omega) (by omega)
 have HU := Aside0.mk (hu ku (Nat.le_refl _))
 have HP := Aside0.mk (hp kp (Nat.le_refl _))
 have HPE := Aside0.mk (show Ev (fun k => spec_Paired.l0 k s 0) pr from ⟨kp, hp⟩)
 clear hu hp
 cases u8 <;> cases pr
 all_goals go_enter Tryz.func23, Tryz.ntmps23
 all_goals go_wp2_with (first
  | (go_at_call 50; refine (spec_UTF8.calls ku s _ _ HU.out).mono ?_; rintro e' w' ⟨rfl, n1, rfl⟩)
  | (go_at_call 36; refine (spec_Paired.calls kp s _ _ HP.out).mono ?_; rintro e' w' ⟨rfl, n2, rfl⟩)
  | (go_at_call 21; refine (read_full s hz _).mono ?_; rintro e' w3 ⟨K, txt, A2, A3, n2', n3', c2, c3, ok, rfl, hb, hF⟩; have HR3 := Aside0.mk ((HR.out.drewN (n1 + n2)).below hb); have HF := Aside0.mk hF; clear hb hF; obtain ⟨m0, m1, m2, m3, g0⟩ := HR3.out.cells))
 iterate 2
  refine gtEnd _ 0 ⟨#[]⟩ none none 0 0 0 0 false _ _ _ rfl rfl ((HR.out.drewN n1).stored _ _ _ _) ?_
  exact ⟨0, ⟨#[]⟩, none, none, 0, 0, 0, 0, false, rfl, (HR.out.drewN n1).stored_below _ _ _ _, fun h => by cases h⟩
 ·refine gtEnd _ 0 ⟨#[]⟩ none none 0 0 0 0 false _ _ _ rfl rfl ((HR.out.drewN (n1 + n2)).stored _ _ _ _) ?_
  exact ⟨0, ⟨#[]⟩, none, none, 0, 0, 0, 0, false, rfl, (HR.out.drewN (n1 + n2)).stored_below _ _ _ _, fun h => by cases h⟩
 refine gtEnd _ K txt A2 A3 n2' n3' c2 c3 ok _ _ _ rfl rfl (HR3.out.stored _ _ _ _) ?_
 refine ⟨K, txt, A2, A3, n2', n3', c2, c3, ok, rfl, HR3.out.stored_below _ _ _ _, fun h => ⟨hz, HPE.out, ?_⟩⟩
 obtain ⟨t, h1, h2, h3, h4, h5, h6⟩ := HF.out h
 have hlt := blk_lt HR.out.hr
 exact ⟨t, h1, h2, h3, h4, h5, ((h6.low (B' := w.heap.size + 1) (by simp)).keepb (stored_keep4 w3 w.heap.size _ _ _ _) (by omega)).low (by omega)⟩
theorem gjt_calls (s : ByteArray) (hl : s.size < 140737488355328) (w : World) : Calls Tryz.prog 23 #[.string s] w (GtF s w) := by
 by_cases h : s.size ≤ 65536
 ·exact gjt_short s h w
 ·exact gjt_long s hl (by omega) w
end Go.Proofs.YtgiioglmkogpkaaGreatDoor.F
namespace Go.Proofs.YtgiioglmkogpkaaGreatDoor.V
open Go.RowKit Go.Proofs.YtgiioglmkogpkaaGreatDoorW.PrintWords Go.Proofs.YtgiioglmkogpkaaGreatDoorW.PrintLast Go.Proofs.YtgiioglmkogpkaaGreatDoorW.PrintMore
open M L
theorem s25_ext {t u : S25} (h0 : t.f0 = u.f0) (h1 : t.f1 = u.f1) (h2 : t.f2 = u.f2) (h3 : t.f3 = u.f3) : t = u := by
 cases t; cases u; simp at h0 h1 h2 h3; subst h0 h1 h2 h3; rfl
theorem TrOf.one {s : ByteArray} {q : S78} {t u : S25} (h : TrOf s q t) (h2 : TrOf s q u) : t = u := by
 have := Ev.one h h2
 simp only [Prod.mk.injEq] at this
 exact s25_ext this.1 this.2.1 this.2.2.1 this.2.2.2
theorem tr_sh {s s' : ByteArray} (hz : s.size ≤ 65536) (hz' : s'.size ≤ 65536) {c : S78} (h : G s (.val c)) {t : S25} (ht : TrOf s c t) {d : Int} (g : Ag s s' d c.f1 c.f2) : TrOf s' (shP d c) t := by
 obtain ⟨T, R, ts, _, _, h1, _, _, h2⟩ := h.tr hz
 rw [TrOf.one ht h1]
 exact h2 s' d hz' g
def raw (s : ByteArray) (c : S78) : ByteArray := s.extract c.f1.toNat c.f2.toNat
theorem bt_drop (O : List UInt8) (p : Nat) (l : List UInt8) (h : O.drop p = l) (j : Nat) (hj : j < l.length) : bt ⟨O.toArray⟩ ((p + j : Nat) : Int) = (l[j].toNat : Int) := by
 have h2 := F.bt_list O (p + j)
 rw [h2]
 subst h
 rw [List.getD_eq_getElem?_getD, List.getElem_drop]
 rw [List.length_drop] at hj
 rw [List.getElem?_eq_getElem (by omega)]
 rfl
end Go.Proofs.YtgiioglmkogpkaaGreatDoor.V

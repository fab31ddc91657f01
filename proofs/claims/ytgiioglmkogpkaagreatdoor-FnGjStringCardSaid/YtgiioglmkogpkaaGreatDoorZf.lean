/- Texts behind the law FnGjString: part 6. -/
import Derived.Test.YtgiioglmkogpkaaGreatDoorZe
import Derived.Test.YtgiioglmkogpkaaGreatDoorRows
import Derived.ProofKit
import Derived.LaidMore
import Derived.OpenShut
import Derived.Stop.Joined
import Derived.Lib.LaidTab
import Derived.ChangeSame
import Derived.Deep.Strs
import Derived.LaidLaws
import Derived.MakeChecks
import Derived.WalkKit
import Derived.ShutString
import Derived.ChangeOld
import Derived.Below
import Derived.Lay
set_option linter.unusedVariables false
set_option linter.unusedSimpArgs false
namespace Go.Proofs.YtgiioglmkogpkaaGreatDoor.F
open Go.RowKit Go.Proofs.YtgiioglmkogpkaaGreatDoorW.PrintWords Go.Proofs.YtgiioglmkogpkaaGreatDoorW.PrintLast Go.Proofs.YtgiioglmkogpkaaGreatDoorW.PrintMore
open M L
set_option maxHeartbeats 4000000
set_option maxRecDepth 8192
theorem R_keepb {α : Type} {d : Kd α} {e : Nat} {w w1 : World} {base : Nat} {ok : Nat → Prop} {v : Value} {xs : List α} {g : Nat} (h : d.R e w base ok v xs) (hk : KeepBut w w1 g none) (hg : g < base) : d.R e w1 base ok v xs :=
 Kd.R_mono (Kd.R_keep (Kd.R_bound h) hk (fun k hk => by have := hk.2; omega)) (fun k hk => hk.1)
structure Pl (w W : World) (s : ByteArray) (p : Int) : Prop where
 hi : IsS112 w W (w.heap.size + 1) s p
 be : Below w.heap.size w W
 hr : W.heap[w.heap.size]? = some (.cells #[.int .i64 0, .int .i64 0, .int .i64 0, .slice none 0 0, .slice none 0 0] 78 (0, 0))
theorem Pl.new (w : World) (s : ByteArray) : Pl w ((w.alloc (.cells #[.int .i64 0, .int .i64 0, .int .i64 0, .slice none 0 0, .slice none 0 0] 78)).alloc (.cells #[.string s, .int .i64 0] 112)) s 0 := by
 have e : (w.alloc (.cells #[.int .i64 0, .int .i64 0, .int .i64 0, .slice none 0 0, .slice none 0 0] 78)).heap.size = w.heap.size + 1 := by simp
 have hn := heap_alloc_new (w.alloc (.cells #[.int .i64 0, .int .i64 0, .int .i64 0, .slice none 0 0, .slice none 0 0] 78)) (.cells #[.string s, .int .i64 0] 112)
 rw [e] at hn
 exact ⟨⟨hn, by omega⟩, below_alloc (below_alloc (Below.refl _ _) _) _, (Below.heap_alloc _ _ _ (by omega)).trans (heap_alloc_new w _)⟩
theorem Pl.step {w W W2 : World} {s : ByteArray} {p p2 : Int} (h : Pl w W s p) (hi : IsS112 w W2 (w.heap.size + 1) s p2) (hb : Below w.heap.size w W2) (hk : KeepBut W W2 (w.heap.size + 1) none) : Pl w W2 s p2 :=
 ⟨hi, hb, hk.blk h.hr (by omega) (by simp)⟩
theorem Pl.alloc {w W : World} {s : ByteArray} {p : Int} (h : Pl w W s p) (o : Obj) : Pl w (W.alloc o) s p :=
 ⟨h.hi.alloc o, below_alloc h.be o, (Below.heap_alloc W o _ (blk_lt h.hr)).trans h.hr⟩
theorem Pl.cells {w W : World} {s : ByteArray} {p : Int} (h : Pl w W s p) :
  W.cell? ⟨w.heap.size + 1, 1, none⟩ = some (.int .i64 p) ∧ W.cell? ⟨w.heap.size, 0, none⟩ = some (.int .i64 0) ∧ W.cell? ⟨w.heap.size, 1, none⟩ = some (.int .i64 0) ∧ W.cell? ⟨w.heap.size, 2, none⟩ = some (.int .i64 0) ∧ W.cell? ⟨w.heap.size, 3, none⟩ = some (.slice none 0 0) ∧ W.cell? ⟨w.heap.size, 4, none⟩ = some (.slice none 0 0) ∧ (∀ i, W.frozen? ⟨w.heap.size, i, none⟩ = false) :=
 ⟨blk_cell h.hi.1 1, blk_cell h.hr 0, blk_cell h.hr 1, blk_cell h.hr 2, blk_cell h.hr 3, blk_cell h.hr 4, fun i => blk_frozen h.hr i⟩
structure Pv (w W : World) (b : Nat) (K p q : Int) (A3 A4 : Option Addr) (n3 n4 c3 c4 : Nat) : Prop where
 hv : W.heap[b]? = some (.cells #[.int .i64 K, .int .i64 p, .int .i64 q, .slice A3 n3 c3, .slice A4 n4 c4] 78 (0, 0))
 ne : b ≠ w.heap.size
theorem Pv.new {w w2 W : World} {s : ByteArray} {p2 : Int} (h : Pl w w2 s p2) {K p q : Int} {A3 A4 : Option Addr} {n3 n4 c3 c4 : Nat} (hk : KeepBut (w2.alloc (.cells #[.int .i64 K, .int .i64 p, .int .i64 q, .slice A3 n3 c3, .slice A4 n4 c4] 78)) W (w.heap.size + 1) none) : Pv w W w2.heap.size K p q A3 A4 n3 n4 c3 c4 :=
 ⟨hk.blk (heap_alloc_new w2 _) (by have := blk_lt h.hi.1; omega) (by simp), by have := blk_lt h.hr; omega⟩
theorem Pv.cells {w W : World} {b : Nat} {K p q : Int} {A3 A4 : Option Addr} {n3 n4 c3 c4 : Nat} (h : Pv w W b K p q A3 A4 n3 n4 c3 c4) :
  W.cell? ⟨b, 0, none⟩ = some (.int .i64 K) ∧ W.cell? ⟨b, 1, none⟩ = some (.int .i64 p) ∧ W.cell? ⟨b, 2, none⟩ = some (.int .i64 q) ∧ W.cell? ⟨b, 3, none⟩ = some (.slice A3 n3 c3) ∧ W.cell? ⟨b, 4, none⟩ = some (.slice A4 n4 c4) :=
 ⟨blk_cell h.hv 0, blk_cell h.hv 1, blk_cell h.hv 2, blk_cell h.hv 3, blk_cell h.hv 4⟩
theorem Pl.stored {w W : World} {s : ByteArray} {p0 : Int} (h : Pl w W s p0) (a b c d e : Value) :
  (((((W.setCell ⟨w.heap.size, 0, none⟩ a).setCell ⟨w.heap.size, 1, none⟩ b).setCell ⟨w.heap.size, 2, none⟩ c).setCell ⟨w.heap.size, 3, none⟩ d).setCell ⟨w.heap.size, 4, none⟩ e).heap[w.heap.size]? = some (.cells #[a, b, c, d, e] 78 (0, 0)) :=
 blk_set (blk_set (blk_set (blk_set (blk_set h.hr 0 _) 1 _) 2 _) 3 _) 4 _
theorem Pl.stored_below {w W : World} {s : ByteArray} {p0 : Int} (h : Pl w W s p0) (a b c d e : Value) :
  Below w.heap.size w (((((W.setCell ⟨w.heap.size, 0, none⟩ a).setCell ⟨w.heap.size, 1, none⟩ b).setCell ⟨w.heap.size, 2, none⟩ c).setCell ⟨w.heap.size, 3, none⟩ d).setCell ⟨w.heap.size, 4, none⟩ e) :=
 below_set (below_set (below_set (below_set (below_set h.be (Nat.le_refl _)) (Nat.le_refl _)) (Nat.le_refl _)) (Nat.le_refl _)) (Nat.le_refl _)
theorem stored_keep (W : World) (r : Nat) (a b c d e : Value) :
  KeepBut W (((((W.setCell ⟨r, 0, none⟩ a).setCell ⟨r, 1, none⟩ b).setCell ⟨r, 2, none⟩ c).setCell ⟨r, 3, none⟩ d).setCell ⟨r, 4, none⟩ e) r none :=
 KeepBut.set_ (KeepBut.set_ (KeepBut.set_ (KeepBut.set_ (KeepBut.set_ (KeepBut.refl _ _ _) _ _) _ _) _ _) _ _) _ _
theorem Pl.facts {w W : World} {s : ByteArray} {p : Int} (h : Pl w W s p) :
  (∀ o, (W.alloc o).cell? ⟨w.heap.size, 0, none⟩ = some (.int .i64 0)) ∧ (∀ o, (W.alloc o).cell? ⟨w.heap.size, 1, none⟩ = some (.int .i64 0)) ∧ (∀ o, (W.alloc o).cell? ⟨w.heap.size, 2, none⟩ = some (.int .i64 0)) ∧ (∀ o, (W.alloc o).cell? ⟨w.heap.size, 3, none⟩ = some (.slice none 0 0)) ∧ (∀ o, (W.alloc o).cell? ⟨w.heap.size, 4, none⟩ = some (.slice none 0 0)) ∧ (∀ o i, (W.alloc o).frozen? ⟨w.heap.size, i, none⟩ = false) := by
 have hra : ∀ o, (W.alloc o).heap[w.heap.size]? = some (.cells #[.int .i64 0, .int .i64 0, .int .i64 0, .slice none 0 0, .slice none 0 0] 78 (0, 0)) := fun o => (Below.heap_alloc W o _ (blk_lt h.hr)).trans h.hr
 exact ⟨fun o => blk_cell (hra o) 0, fun o => blk_cell (hra o) 1, fun o => blk_cell (hra o) 2, fun o => blk_cell (hra o) 3, fun o => blk_cell (hra o) 4, fun o => blk_frozen (hra o)⟩
def PlPost (s : ByteArray) (w : World) (e : Ending) (w' : World) : Prop := ∃ (K p q : Int) (A3 A4 : Option Addr) (c3 c4 n3 n4 : Nat) (ok : Bool), e = .returned (.tuple #[.agg #[.int .i64 K, .int .i64 p, .int .i64 q, .slice A3 n3 c3, .slice A4 n4 c4], .bool ok]) ∧ Below w.heap.size w w' ∧
 (ok = true → ∃ (N : List S115) (C : List S78), n3 = N.length ∧ n4 = C.length ∧ Kd.C k115 w' A3 N.length N ∧ N.length ≤ c3 ∧ Kd.C k78 w' A4 C.length C ∧ C.length ≤ c4 ∧ L.Good s ⟨K, p, q, N, C⟩ ∧ KindAt s K p q ∧ 0 ≤ p ∧ p < q ∧ q ≤ s.size ∧ (∀ i, 0 ≤ i → i < p → isB (bt s i)) ∧ (∀ i, q ≤ i → i < s.size → isB (bt s i)))
theorem plEnd (P : Ending → World → Prop) (K p q : Int) (v3 v4 : Value) (hv3 : ∃ A n c, v3 = .slice A n c) (hv4 : ∃ A n c, v4 = .slice A n c) (ok : Bool) (W : World) (r : Nat) (tm : Array Value) (h2 : tm.getD 2 undef = .pointer (some ⟨r, 0, none⟩)) (h3 : tm.getD 3 undef = .bool ok) (hg : W.heap[r]? = some (.cells #[.int .i64 K, .int .i64 p, .int .i64 q, v3, v4] 78 (0, 0))) (hb : P (.returned (.tuple #[.agg #[.int .i64 K, .int .i64 p, .int .i64 q, v3, v4], .bool ok])) W) :
  bodyPost Tryz.prog Tryz.f47 P .ret ⟨tm, []⟩ W := by
 obtain ⟨A3, n3, c3, rfl⟩ := hv3
 obtain ⟨A4, n4, c4, rfl⟩ := hv4
 have n0 := blk_cell hg 0
 have n1 := blk_cell hg 1
 have n2 := blk_cell hg 2
 have n3 := blk_cell hg 3
 have n4 := blk_cell hg 4
 refine bodyPost_ret (v := .tuple #[.agg #[.int .i64 K, .int .i64 p, .int .i64 q, .slice A3 _ c3, .slice A4 _ c4], .bool ok]) ?_ rfl hb
 simp only [results, Tryz.results47]
 have h2' := h2
 have h3' := h3
 simp only [Array.getD_eq_getD_getElem?] at h2' h3'
 simp [go_sem, h2, h2', h3, h3', n0, n1, n2, n3, n4]
theorem places_calls (s : ByteArray) (hz : s.size ≤ 65536) (w : World) : Calls Tryz.prog 47 #[.string s] w (PlPost s w) := by
 obtain ⟨p, ⟨K1, hE1⟩, hp0, hp1, hpB, _⟩ := blanksf_ev s hz 0 (by omega) (by omega)
 obtain ⟨K, q, N, C, ok, ⟨K2, hE2⟩, hq0, hq1, hqG⟩ := value_ev s hz (s.size + 1) p hp0 hp1 (by omega)
 obtain ⟨p3, ⟨K3, hE3⟩, hp30, hp31, hp3B, hp3n⟩ := blanksf_ev s hz q (by omega) hq1
 have HE := Aside0.mk (And.intro (hE1 K1 (Nat.le_refl _)) (And.intro (hE2 K2 (Nat.le_refl _)) (hE3 K3 (Nat.le_refl _))))
 have HP := Aside0.mk (Pl.new w s)
 have HB := Aside0.mk (And.intro hpB (And.intro hqG hp3B))
 clear hE1 hE2 hE3 hpB hqG hp3B hp3n
 cases ok
 all_goals go_enter Tryz.func47, Tryz.ntmps47
 all_goals go_wp2_with (first
  | (go_at_call 72; refine (spec_reader_blanks.calls K1 (w.heap.size + 1) s 0 s p w _ HP.out.hi HP.out.be HE.out.1).mono ?_; rintro e' w1 ⟨rfl, hi, hb, hk⟩; have HP1 := Aside0.mk (HP.out.step hi hb hk); clear hi hb hk HP)
  | (go_at_call 73; refine (spec_reader_value.calls K2 (w.heap.size + 1) s p K p q N C _ s q w _ HP1.out.hi HP1.out.be HE.out.2.1).mono ?_; rintro e' w2 ⟨v3, v4, rfl, hr3, hr4, hi, hb, hk⟩; obtain ⟨A3, c3, rfl⟩ := Kd.R_slice hr3; obtain ⟨A4, c4, rfl⟩ := Kd.R_slice hr4; have HP2 := Aside0.mk (HP1.out.step hi hb hk); have HR := Aside0.mk (And.intro hr3 hr4); clear hi hb hk hr3 hr4; obtain ⟨n0, n1, n2, n3, n4, f0⟩ := HP2.out.facts))
 ·refine plEnd _ 0 0 0 (.slice none 0 0) (.slice none 0 0) ⟨_, _, _, rfl⟩ ⟨_, _, _, rfl⟩ false _ _ _ rfl rfl ((HP2.out.alloc _).stored _ _ _ _ _) ?_
  exact ⟨0, 0, 0, none, none, 0, 0, 0, 0, false, rfl, (HP2.out.alloc _).stored_below _ _ _ _ _, fun h => by cases h⟩
 ·obtain ⟨hpq, hG, hKA⟩ := HB.out.2.1 trivial
  have HG := Aside0.mk (And.intro hG hKA)
  clear hG hKA n0 n1 n2 n3 n4 f0
  by_cases hend : p3 = s.size
  ·have x1 : (p3 != (s.size : Int)) = false := bne_eq_false_iff_eq.mpr hend
   go_wp2_with (go_at_call 72; refine (spec_reader_blanks.calls K3 (w.heap.size + 1) s q s p3 w _ (HP2.out.alloc _).hi (HP2.out.alloc _).be HE.out.2.2).mono ?_; rintro e' w3 ⟨rfl, hi, hb, hk⟩; have HP3 := Aside0.mk ((HP2.out.alloc _).step hi hb hk); have HV := Aside0.mk (Pv.new HP2.out hk); have HK := Aside0.mk hk; clear hi hb hk; obtain ⟨j1, n0, n1, n2, n3, n4, f0⟩ := HP3.out.cells; obtain ⟨k0, k1, k2, k3, k4⟩ := HV.out.cells)
   refine plEnd _ K p q (.slice A3 N.length c3) (.slice A4 C.length c4) ⟨_, _, _, rfl⟩ ⟨_, _, _, rfl⟩ true _ _ _ rfl rfl (HP3.out.stored _ _ _ _ _) ?_
   have hlt := blk_lt HP1.out.hi.1
   have hr3 := R_keepb (R_keepb (Kd.R_alloc HR.out.1 _) HK.out hlt) (stored_keep w3 w.heap.size (.int .i64 K) (.int .i64 p) (.int .i64 q) (.slice A3 N.length c3) (.slice A4 C.length c4)) (by omega)
   have hr4 := R_keepb (R_keepb (Kd.R_alloc HR.out.2 _) HK.out hlt) (stored_keep w3 w.heap.size (.int .i64 K) (.int .i64 p) (.int .i64 q) (.slice A3 N.length c3) (.slice A4 C.length c4)) (by omega)
   obtain ⟨_, hl3, hc3⟩ := Kd.R_reads' hr3
   obtain ⟨_, hl4, hc4⟩ := Kd.R_reads' hr4
   exact ⟨K, p, q, A3, A4, c3, c4, N.length, C.length, true, rfl, HP3.out.stored_below _ _ _ _ _, fun _ => ⟨N, C, rfl, rfl, hc3, hl3, hc4, hl4, HG.out.1, HG.out.2, hp0, hpq, hq1, HB.out.1, fun i h1 h2 => HB.out.2.2 i h1 (by omega)⟩⟩
  ·have x1 : (p3 != (s.size : Int)) = true := bne_iff_ne.mpr hend
   go_wp2_with (go_at_call 72; refine (spec_reader_blanks.calls K3 (w.heap.size + 1) s q s p3 w _ (HP2.out.alloc _).hi (HP2.out.alloc _).be HE.out.2.2).mono ?_; rintro e' w3 ⟨rfl, hi, hb, hk⟩; have HP3 := Aside0.mk ((HP2.out.alloc _).step hi hb hk); clear hi hb hk; obtain ⟨j1, n0, n1, n2, n3, n4, f0⟩ := HP3.out.cells)
   refine plEnd _ 0 0 0 (.slice none 0 0) (.slice none 0 0) ⟨_, _, _, rfl⟩ ⟨_, _, _, rfl⟩ false _ _ _ rfl rfl (HP3.out.stored _ _ _ _ _) ?_
   exact ⟨0, 0, 0, none, none, 0, 0, 0, 0, false, rfl, HP3.out.stored_below _ _ _ _ _, fun h => by cases h⟩
end Go.Proofs.YtgiioglmkogpkaaGreatDoor.F
namespace Go.Proofs.YtgiioglmkogpkaaGreatDoor.F
open Go.RowKit Go.Proofs.YtgiioglmkogpkaaGreatDoorW.PrintWords Go.Proofs.YtgiioglmkogpkaaGreatDoorW.PrintLast Go.Proofs.YtgiioglmkogpkaaGreatDoorW.PrintMore
open M L
set_option maxHeartbeats 4000000
set_option maxRecDepth 8192
def Fact (s : ByteArray) (K : Int) (txt : ByteArray) : Prop := ∃ p q : Int, KindAt s K p q ∧ 0 ≤ p ∧ p < q ∧ q ≤ s.size ∧ (∀ i, 0 ≤ i → i < p → isB (bt s i)) ∧ (∀ i, q ≤ i → i < s.size → isB (bt s i)) ∧ (K = 4 → TxtOf s p q txt)
def RdPost (s : ByteArray) (w : World) (e : Ending) (w' : World) : Prop := ∃ (K : Int) (txt : ByteArray) (A2 A3 : Option Addr) (n2 n3 c2 c3 : Nat) (ok : Bool), e = .returned (.tuple #[.agg #[.int .i64 K, .string txt, .slice A2 n2 c2, .slice A3 n3 c3], .bool ok]) ∧ Below w.heap.size w w' ∧ (ok = true → Fact s K txt)
structure Rb (w W : World) : Prop where
 hr : W.heap[w.heap.size]? = some (.cells #[.int .i64 0, .string ⟨#[]⟩, .slice none 0 0, .slice none 0 0] 25 (0, 0))
 be : Below w.heap.size w W
theorem Rb.new (w : World) : Rb w (w.alloc (.cells #[.int .i64 0, .string ⟨#[]⟩, .slice none 0 0, .slice none 0 0] 25)) := ⟨heap_alloc_new w _, below_alloc (Below.refl _ _) _⟩
theorem Rb.below {w W W2 : World} (h : Rb w W) (hb : Below W.heap.size W W2) : Rb w W2 := ⟨(hb.block _ (blk_lt h.hr)).trans h.hr, below_then h.be h.be.size hb⟩
theorem Rb.drewN {w W : World} (h : Rb w W) (n : Nat) : Rb w (W.drewN n) := ⟨h.hr, pw_below_drewN h.be n⟩
theorem Rb.cells {w W : World} (h : Rb w W) : W.cell? ⟨w.heap.size, 0, none⟩ = some (.int .i64 0) ∧ W.cell? ⟨w.heap.size, 1, none⟩ = some (.string ⟨#[]⟩) ∧ W.cell? ⟨w.heap.size, 2, none⟩ = some (.slice none 0 0) ∧ W.cell? ⟨w.heap.size, 3, none⟩ = some (.slice none 0 0) ∧ (∀ i, W.frozen? ⟨w.heap.size, i, none⟩ = false) :=
 ⟨blk_cell h.hr 0, blk_cell h.hr 1, blk_cell h.hr 2, blk_cell h.hr 3, fun i => blk_frozen h.hr i⟩
theorem Rb.alloc {w W : World} (h : Rb w W) (o : Obj) : Rb w (W.alloc o) := h.below (below_alloc (Below.refl _ _) o)
theorem Rb.acells {w W : World} (h : Rb w W) : (∀ o, (W.alloc o).cell? ⟨w.heap.size, 0, none⟩ = some (.int .i64 0)) ∧ (∀ o, (W.alloc o).cell? ⟨w.heap.size, 1, none⟩ = some (.string ⟨#[]⟩)) ∧ (∀ o, (W.alloc o).cell? ⟨w.heap.size, 2, none⟩ = some (.slice none 0 0)) ∧ (∀ o, (W.alloc o).cell? ⟨w.heap.size, 3, none⟩ = some (.slice none 0 0)) ∧ (∀ o i, (W.alloc o).frozen? ⟨w.heap.size, i, none⟩ = false) :=
 ⟨fun o => (h.alloc o).cells.1, fun o => (h.alloc o).cells.2.1, fun o => (h.alloc o).cells.2.2.1, fun o => (h.alloc o).cells.2.2.2.1, fun o => (h.alloc o).cells.2.2.2.2⟩
theorem Rb.stored {w W : World} (h : Rb w W) (a b c d : Value) :
  ((((W.setCell ⟨w.heap.size, 0, none⟩ a).setCell ⟨w.heap.size, 1, none⟩ b).setCell ⟨w.heap.size, 2, none⟩ c).setCell ⟨w.heap.size, 3, none⟩ d).heap[w.heap.size]? = some (.cells #[a, b, c, d] 25 (0, 0)) :=
 blk_set (blk_set (blk_set (blk_set h.hr 0 _) 1 _) 2 _) 3 _
theorem Rb.stored_below {w W : World} (h : Rb w W) (a b c d : Value) :
  Below w.heap.size w ((((W.setCell ⟨w.heap.size, 0, none⟩ a).setCell ⟨w.heap.size, 1, none⟩ b).setCell ⟨w.heap.size, 2, none⟩ c).setCell ⟨w.heap.size, 3, none⟩ d) :=
 below_set (below_set (below_set (below_set h.be (Nat.le_refl _)) (Nat.le_refl _)) (Nat.le_refl _)) (Nat.le_refl _)
theorem rdEnd (P : Ending → World → Prop) (K : Int) (txt : ByteArray) (A2 A3 : Option Addr) (n2 n3 c2 c3 : Nat) (ok : Bool) (W : World) (r : Nat) (tm : Array Value) (h2 : tm.getD 2 undef = .pointer (some ⟨r, 0, none⟩)) (h3 : tm.getD 3 undef = .bool ok) (hg : W.heap[r]? = some (.cells #[.int .i64 K, .string txt, .slice A2 n2 c2, .slice A3 n3 c3] 25 (0, 0))) (hb : P (.returned (.tuple #[.agg #[.int .i64 K, .string txt, .slice A2 n2 c2, .slice A3 n3 c3], .bool ok])) W) :
  bodyPost Tryz.prog Tryz.f21 P .ret ⟨tm, []⟩ W := by
 have n0 := blk_cell hg 0
 have n1 := blk_cell hg 1
 have n2' := blk_cell hg 2
 have n3' := blk_cell hg 3
 refine bodyPost_ret (v := .tuple #[.agg #[.int .i64 K, .string txt, .slice A2 n2 c2, .slice A3 n3 c3], .bool ok]) ?_ rfl hb
 simp only [results, Tryz.results21]
 have h2' := h2
 have h3' := h3
 simp only [Array.getD_eq_getD_getElem?] at h2' h3'
 simp [go_sem, h2, h2', h3, h3', n0, n1, n2', n3']
theorem read_calls (s : ByteArray) (hz : s.size ≤ 65536) (w : World) : Calls Tryz.prog 21 #[.string s] w (RdPost s w) := by
 have HR := Aside0.mk (Rb.new w)
 go_enter Tryz.func21, Tryz.ntmps21
 go_upto_region 2 with (go_at_call 47; refine (places_calls s hz _).mono ?_; rintro e' w1 ⟨K, p, q, A3, A4, c3, c4, n3, n4, ok, rfl, hb, hF⟩; have HR1 := Aside0.mk (HR.out.below hb); have HF := Aside0.mk hF; clear hb hF; obtain ⟨m0, m1, m2, m3, g0⟩ := HR1.out.acells)
 cases ok
 ·go_wp2_with fail
  refine rdEnd _ 0 ⟨#[]⟩ none none 0 0 0 0 false _ _ _ rfl rfl ((HR1.out.alloc _).stored _ _ _ _) ?_
  exact ⟨0, ⟨#[]⟩, none, none, 0, 0, 0, 0, false, rfl, (HR1.out.alloc _).stored_below _ _ _ _, fun h => by cases h⟩
 ·obtain ⟨Ns, Cs, rfl, rfl, hC3, hl3, hC4, hl4, hG, hK, hp0, hpq, hq, hB1, hB2⟩ := HF.out rfl
  obtain ⟨txt, keys, kids, ⟨k1, hE⟩, hT⟩ := tree_ev s hz hG
  have HE := Aside0.mk (hE k1 (Nat.le_refl _))
  have HC := Aside0.mk (And.intro (And.intro hC3 hl3) (And.intro hC4 hl4))
  have HX := Aside0.mk (show Fact s K txt from ⟨p, q, hK, hp0, hpq, hq, hB1, hB2, hT⟩)
  clear hC3 hl3 hC4 hl4 hG hK hB1 hB2 hE hT m0 m1 m2 m3 g0 HF
  go_wp2_with (go_at_call 48; refine (spec_Tree.calls k1 s K p q A3 c3 Ns A4 c4 Cs K txt keys kids _ (Kd.C_alloc HC.out.1.1 _) HC.out.1.2 (Kd.C_alloc HC.out.2.1 _) HC.out.2.2 HE.out).mono ?_; rintro e' w2 ⟨v2, v3, rfl, hr2, hr3, hb⟩; obtain ⟨B2, d2, rfl⟩ := Kd.R_slice hr2; obtain ⟨B3, d3, rfl⟩ := Kd.R_slice hr3; have HR2 := Aside0.mk ((HR1.out.alloc _).below hb); clear hr2 hr3 hb; obtain ⟨m0, m1, m2, m3, g0⟩ := HR2.out.cells)
  refine rdEnd _ K txt B2 B3 keys.length kids.length d2 d3 true _ _ _ rfl rfl (HR2.out.stored _ _ _ _) ?_
  exact ⟨K, txt, B2, B3, keys.length, kids.length, d2, d3, true, rfl, HR2.out.stored_below _ _ _ _, fun _ => HX.out⟩
def GtPost (s : ByteArray) (w : World) (e : Ending) (w' : World) : Prop := ∃ (K : Int) (txt : ByteArray) (A2 A3 : Option Addr) (n2 n3 c2 c3 : Nat) (ok : Bool), e = .returned (.tuple #[.agg #[.int .i64 K, .string txt, .slice A2 n2 c2, .slice A3 n3 c3], .bool ok]) ∧ Below w.heap.size w w' ∧ (ok = true → s.size ≤ 65536 ∧ Ev (fun k => spec_Paired.l0 k s 0) true ∧ Fact s K txt)
theorem gtEnd (P : Ending → World → Prop) (K : Int) (txt : ByteArray) (A2 A3 : Option Addr) (n2 n3 c2 c3 : Nat) (ok : Bool) (W : World) (r : Nat) (tm : Array Value) (h2 : tm.getD 2 undef = .pointer (some ⟨r, 0, none⟩)) (h3 : tm.getD 3 undef = .bool ok) (hg : W.heap[r]? = some (.cells #[.int .i64 K, .string txt, .slice A2 n2 c2, .slice A3 n3 c3] 25 (0, 0))) (hb : P (.returned (.tuple #[.agg #[.int .i64 K, .string txt, .slice A2 n2 c2, .slice A3 n3 c3], .bool ok])) W) :
  bodyPost Tryz.prog Tryz.f23 P .ret ⟨tm, []⟩ W := by
 have n0 := blk_cell hg 0
 have n1 := blk_cell hg 1
 have n2' := blk_cell hg 2
 have n3' := blk_cell hg 3
 refine bodyPost_ret (v := .tuple #[.agg #[.int .i64 K, .string txt, .slice A2 n2 c2, .slice A3 n3 c3], .bool ok]) ?_ rfl hb
 simp only [results, Tryz.results23]
 have h2' := h2
 have h3' := h3
 simp only [Array.getD_eq_getD_getElem?] at h2' h3'
 simp [go_sem, h2, h2', h3, h3', n0, n1, n2', n3']
theorem gjtext_long (s : ByteArray) (hl : s.size < 140737488355328) (hz : 65536 < s.size) (w : World) : Calls Tryz.prog 23 #[.string s] w (GtPost s w) := by
 have HR := Aside0.mk (Rb.new w)
 have x1 : decide (65536 < (s.size : Int)) = true := decide_eq_true (by omega)
 clear hz
 go_enter Tryz.func23, Tryz.ntmps23
 go_wp2_with fail
 refine gtEnd _ 0 ⟨#[]⟩ none none 0 0 0 0 false _ _ _ rfl rfl HR.out.hr ?_
 exact ⟨0, ⟨#[]⟩, none, none, 0, 0, 0, 0, false, rfl, HR.out.be, fun h => by cases h⟩
theorem gjtext_short (s : ByteArray) (hz : s.size ≤ 65536) (w : World) : Calls Tryz.prog 23 #[.string s] w (GtPost s w) := by
 have HR := Aside0.mk (Rb.new w)
 have x1 : decide (65536 < (s.size : Int)) = false := decide_eq_false (by omega)
 obtain ⟨u8, ku, hu⟩ := utf8_ev s hz (s.size + 1) 0 (by omega) (by omega) (by omega)
 obtain ⟨pr, kp, hp⟩ := paired_tot s hz (s.size + 1) 0 (by omega) (by omega) (by omega)
 have HU := Aside0.mk (hu ku (Nat.le_refl _))
 have HP := Aside0.mk (hp kp (Nat.le_refl _))
 have HPE := Aside0.mk (show Ev (fun k => spec_Paired.l0 k s 0) pr from ⟨kp, hp⟩)
 clear hu hp
 cases u8 <;> cases pr
 all_goals go_enter Tryz.func23, Tryz.ntmps23
 all_goals go_wp2_with (first
  | (go_at_call 50; refine (spec_UTF8.calls ku s _ _ HU.out).mono ?_; rintro e' w' ⟨rfl, n1, rfl⟩)
  | (go_at_call 36; refine (spec_Paired.calls kp s _ _ HP.out).mono ?_; rintro e' w' ⟨rfl, n2, rfl⟩)
  | (go_at_call 21; refine (read_calls s hz _).mono ?_; rintro e' w3 ⟨K, txt, A2, A3, n2', n3', c2, c3, ok, rfl, hb, hF⟩; have HR3 := Aside0.mk ((HR.out.drewN (n1 + n2)).below hb); have HF := Aside0.mk hF; clear hb hF; obtain ⟨m0, m1, m2, m3, g0⟩ := HR3.out.cells))
 iterate 2
  refine gtEnd _ 0 ⟨#[]⟩ none none 0 0 0 0 false _ _ _ rfl rfl ((HR.out.drewN n1).stored _ _ _ _) ?_
  exact ⟨0, ⟨#[]⟩, none, none, 0, 0, 0, 0, false, rfl, (HR.out.drewN n1).stored_below _ _ _ _, fun h => by cases h⟩
 ·refine gtEnd _ 0 ⟨#[]⟩ none none 0 0 0 0 false _ _ _ rfl rfl ((HR.out.drewN (n1 + n2)).stored _ _ _ _) ?_
  exact ⟨0, ⟨#[]⟩, none, none, 0, 0, 0, 0, false, rfl, (HR.out.drewN (n1 + n2)).stored_below _ _ _ _, fun h => by cases h⟩
 ·refine gtEnd _ K txt A2 A3 n2' n3' c2 c3 ok _ _ _ rfl rfl (HR3.out.stored _ _ _ _) ?_
  exact ⟨K, txt, A2, A3, n2', n3', c2, c3, ok, rfl, HR3.out.stored_below _ _ _ _, fun h => ⟨hz, HPE.out, HF.out h⟩⟩
theorem gjtext_calls (s : ByteArray) (hl : s.size < 140737488355328) (w : World) : Calls Tryz.prog 23 #[.string s] w (GtPost s w) := by
 by_cases h : s.size ≤ 65536
 ·exact gjtext_short s h w
 ·exact gjtext_long s hl (by omega) w
end Go.Proofs.YtgiioglmkogpkaaGreatDoor.F
namespace Go.Proofs.YtgiioglmkogpkaaGreatDoor.F
open Go.RowKit Go.Proofs.YtgiioglmkogpkaaGreatDoorW.PrintWords Go.Proofs.YtgiioglmkogpkaaGreatDoorW.PrintLast Go.Proofs.YtgiioglmkogpkaaGreatDoorW.PrintMore
open M L
set_option maxHeartbeats 4000000
set_option maxRecDepth 8192
def BoPost (w : World) (e : Ending) (w' : World) : Prop := ∃ b : Bool, e = .returned (.bool b) ∧ Below w.heap.size w w'
theorem rd_new (w : World) (s : ByteArray) : IsS112 w (w.alloc (.cells #[.string s, .int .i64 0] 112)) w.heap.size s 0 := ⟨heap_alloc_new w _, Nat.le_refl _⟩
theorem isnumber_calls (s : ByteArray) (hz : s.size ≤ 65536) (w : World) : Calls Tryz.prog 53 #[.string s] w (BoPost w) := by
 obtain ⟨ok, p, ⟨k, hE⟩, hp0, hp1, _⟩ := number_ev s hz 0 (by omega) (by omega)
 have HE := Aside0.mk (hE k (Nat.le_refl _))
 have HI := Aside0.mk (And.intro (rd_new w s) (below_alloc (Below.refl w.heap.size w) (.cells #[.string s, .int .i64 0] 112)))
 clear hE
 cases ok
 all_goals go_enter Tryz.func53, Tryz.ntmps53
 all_goals go_wp2_with (go_at_call 78; refine (spec_reader_number.calls k w.heap.size s 0 _ s p w _ HI.out.1 HI.out.2 HE.out).mono ?_; rintro e' w' ⟨rfl, hi, hb, hk⟩; have j1 := blk_cell hi.1 1; have HB := Aside0.mk hb; clear hi hb hk)
 all_goals go_ret
 all_goals exact ⟨_, rfl, HB.out⟩
def WhPost (s : ByteArray) (w : World) (e : Ending) (w' : World) : Prop := ∃ (ng : Bool) (d : ByteArray) (ok : Bool), e = .returned (.tuple #[.bool ng, .string d, .bool ok]) ∧ Below w.heap.size w w' ∧ (ok = true → Plain s)
theorem plain_neg (s t : ByteArray) (ht : s.extract 1 s.size = t) (h45 : bt s 0 = 45) (h : ∀ j : Int, 0 ≤ j → j < t.size → 48 ≤ bt t j ∧ bt t j ≤ 57) : Plain s := by
 intro i h0 h1
 rw [if_pos h45] at h0
 have hz : t.size = s.size - 1 := by rw [← ht, ByteArray.size_extract]; omega
 have := h (i - 1) (by omega) (by omega)
 rwa [← ht, bt_extract' s 1 s.size (i - 1) i (by omega) (by omega) (by omega) (Nat.le_refl _)] at this
theorem plain_pos (s : ByteArray) (h45 : ¬ bt s 0 = 45) (h : ∀ j : Int, 0 ≤ j → j < s.size → 48 ≤ bt s j ∧ bt s j ≤ 57) : Plain s := by
 intro i h0 h1
 rw [if_neg h45] at h0
 exact h i h0 h1
theorem whole_calls (s : ByteArray) (hz : s.size ≤ 65536) (hs : 0 < s.size) (w : World) : Calls Tryz.prog 27 #[.string s] w (WhPost s w) := by
 have hb0 : ∀ h : 0 < s.size, ((s[0]'h).toNat : Int) = bt s 0 := bt_at s 0
 by_cases h45 : bt s 0 = 45
 ·have x1 : (bt s 0 == 45) = true := beq_iff_eq.mpr h45
  have H45 := Aside0.mk h45
  have h1s : (1 : Int) ≤ s.size := by omega
  obtain ⟨t, ht⟩ : ∃ t, s.extract 1 s.size = t := ⟨_, rfl⟩
  have htz : t.size = s.size - 1 := by rw [← ht, ByteArray.size_extract]; omega
  have HT := Aside0.mk ht
  clear h45
  go_enter Tryz.func27, Tryz.ntmps27
  go_wp2_with (go_at_call 53; refine (isnumber_calls s hz _).mono ?_; rintro e' w1 ⟨b, rfl, hb⟩; have HB := Aside0.mk hb; clear hb)
  ·go_ret3
   exact ⟨_, _, _, rfl, HB.out, fun h => by cases h⟩
  ·clear hb0
   obtain rfl : b = true := by simpa using ‹(!b) = false›
   simp only [Bool.not_true]
   go_loopg [2, 3, 4, 6] t.size (fun kq v2 v3 v4 v6 w' => ∃ i : Int, v6 = .int .i64 i ∧ (0 ≤ i ∧ i ≤ t.size) ∧ (kq : Int) + i = t.size ∧ Aside0 (∀ j : Int, 0 ≤ j → j < i → 48 ≤ bt t j ∧ bt t j ≤ 57) ∧ w1 = w')
   case atStart => exact ⟨0, rfl, by omega, by omega, ⟨fun j h1 h2 => by omega⟩, rfl⟩
   case round =>
    obtain ⟨i, rfl, hi, hk, HD, rfl⟩ := hrel
    obtain ⟨y, hy⟩ : ∃ y, y = bt t i := ⟨_, rfl⟩
    have hyb : ∀ h : i.toNat < t.size, ((t[i.toNat]'h).toNat : Int) = y := fun h => by rw [hy]; exact bt_at t i h
    have HY := Aside0.mk hy
    clear hy
    have h0i : 0 ≤ i := by omega
    by_cases e1 : i < t.size
    ·by_cases e2 : y < 48
     ·have y1 : decide (y < 48) = true := decide_eq_true e2
      go_wp2_with fail
      all_goals (go_ret3; exact ⟨_, _, _, rfl, HB.out, fun h => by cases h⟩)
     ·have y1 : decide (y < 48) = false := decide_eq_false e2
      by_cases e3 : 57 < y
      ·have y2 : decide (57 < y) = true := decide_eq_true e3
       go_wp2_with fail
       all_goals (go_ret3; exact ⟨_, _, _, rfl, HB.out, fun h => by cases h⟩)
      ·have y2 : decide (57 < y) = false := decide_eq_false e3
       go_wp2_with fail
       all_goals (go_roundg (gk - 1); (case measure => omega); (case rel => exact ⟨i + 1, rfl, by omega, by omega, ⟨fun j h1 h2 => by
        by_cases hj : j < i
        ·exact HD.out j h1 hj
        ·have hji : j = i := by omega
         subst hji
         have := HY.out
         omega⟩, rfl⟩))
    ·have e8 : i = t.size := by omega
     subst e8
     go_wp2_with fail
     all_goals (go_ret3; exact ⟨_, _, _, rfl, HB.out, fun _ => plain_neg s t HT.out H45.out HD.out⟩)
 ·have x1 : (bt s 0 == 45) = false := beq_eq_false_iff_ne.mpr h45
  have H45 := Aside0.mk h45
  clear h45
  go_enter Tryz.func27, Tryz.ntmps27
  go_wp2_with (go_at_call 53; refine (isnumber_calls s hz _).mono ?_; rintro e' w1 ⟨b, rfl, hb⟩; have HB := Aside0.mk hb; clear hb)
  ·go_ret3
   exact ⟨_, _, _, rfl, HB.out, fun h => by cases h⟩
  ·clear hb0
   obtain rfl : b = true := by simpa using ‹(!b) = false›
   simp only [Bool.not_true]
   go_loopg [2, 3, 4, 6] s.size (fun kq v2 v3 v4 v6 w' => ∃ i : Int, v6 = .int .i64 i ∧ (0 ≤ i ∧ i ≤ s.size) ∧ (kq : Int) + i = s.size ∧ Aside0 (∀ j : Int, 0 ≤ j → j < i → 48 ≤ bt s j ∧ bt s j ≤ 57) ∧ w1 = w')
   case atStart => exact ⟨0, rfl, by omega, by omega, ⟨fun j h1 h2 => by omega⟩, rfl⟩
   case round =>
    obtain ⟨i, rfl, hi, hk, HD, rfl⟩ := hrel
    obtain ⟨y, hy⟩ : ∃ y, y = bt s i := ⟨_, rfl⟩
    have hyb : ∀ h : i.toNat < s.size, ((s[i.toNat]'h).toNat : Int) = y := fun h => by rw [hy]; exact bt_at s i h
    have HY := Aside0.mk hy
    clear hy
    have h0i : 0 ≤ i := by omega
    by_cases e1 : i < s.size
    ·by_cases e2 : y < 48
     ·have y1 : decide (y < 48) = true := decide_eq_true e2
      go_wp2_with fail
      all_goals (go_ret3; exact ⟨_, _, _, rfl, HB.out, fun h => by cases h⟩)
     ·have y1 : decide (y < 48) = false := decide_eq_false e2
      by_cases e3 : 57 < y
      ·have y2 : decide (57 < y) = true := decide_eq_true e3
       go_wp2_with fail
       all_goals (go_ret3; exact ⟨_, _, _, rfl, HB.out, fun h => by cases h⟩)
      ·have y2 : decide (57 < y) = false := decide_eq_false e3
       go_wp2_with fail
       all_goals (go_roundg (gk - 1); (case measure => omega); (case rel => exact ⟨i + 1, rfl, by omega, by omega, ⟨fun j h1 h2 => by
        by_cases hj : j < i
        ·exact HD.out j h1 hj
        ·have hji : j = i := by omega
         subst hji
         have := HY.out
         omega⟩, rfl⟩))
    ·have e8 : i = s.size := by omega
     subst e8
     go_wp2_with fail
     all_goals (go_ret3; exact ⟨_, _, _, rfl, HB.out, fun _ => plain_pos s H45.out HD.out⟩)
end Go.Proofs.YtgiioglmkogpkaaGreatDoor.F
namespace Go.Proofs.YtgiioglmkogpkaaGreatDoor.F
open Go.RowKit Go.Proofs.YtgiioglmkogpkaaGreatDoorW.PrintWords Go.Proofs.YtgiioglmkogpkaaGreatDoorW.PrintLast Go.Proofs.YtgiioglmkogpkaaGreatDoorW.PrintMore
open M L
set_option maxHeartbeats 4000000
set_option maxRecDepth 8192
attribute [local go_sem] run_store_float
def RsPost (Q : ByteArray → Prop) (w : World) (e : Ending) (w' : World) : Prop := ∃ b : ByteArray, e = .returned (.string b) ∧ Q b ∧ Below w.heap.size w w'
theorem gjrs_calls (T : Int) (s str : ByteArray) (x : Nat) (w : World) (Q : ByteArray → Prop) (h : ∀ W, Below w.heap.size w W → Calls Tryz.prog 52 #[res T s str x] W (RsPost Q W)) :
  Calls Tryz.prog 25 #[r41 T s str x] w (RsPost Q w) := by
 have HB := Aside0.mk (below_alloc (Below.refl w.heap.size w))
 have HH := Aside0.mk h
 have hr : ∀ b, r41 T s str x = b → .agg #[.int .i64 T, .string s, .string str, .float .f64 x, .bool true] = b := fun _ h => h
 have H51 : ∀ W, Calls Tryz.prog 51 #[.agg #[.int .i64 T, .string s, .string str, .float .f64 x, .bool true]] W fun e w' => e = .returned (res T s str x) ∧ Below W.heap.size W w' := fun W => gjof_calls T s str x W
 have HC := Aside0.mk H51
 clear h H51 hr
 simp only [r41]
 go_enter Tryz.func25, Tryz.ntmps25
 go_wp2_with (first
  | (go_at_call 51; refine (HC.out _).mono ?_; rintro e w2 ⟨rfl, hb⟩; have HB2 := Aside0.mk (below_then (HB.out _) (HB.out _).size hb); clear hb)
  | (go_at_call 52; refine (HH.out _ HB2.out).mono ?_; rintro e w3 ⟨b, rfl, hq, hb⟩; have HB3 := Aside0.mk (below_then HB2.out HB2.out.size hb); have HQ := Aside0.mk hq; clear hb hq))
 go_ret
 exact ⟨b, rfl, HQ.out, HB3.out⟩
end Go.Proofs.YtgiioglmkogpkaaGreatDoor.F
namespace Go.Proofs.YtgiioglmkogpkaaGreatDoor.F
open Go.RowKit Go.Proofs.YtgiioglmkogpkaaGreatDoorW.PrintWords Go.Proofs.YtgiioglmkogpkaaGreatDoorW.PrintLast Go.Proofs.YtgiioglmkogpkaaGreatDoorW.PrintMore
open M L
theorem fact_span {s : ByteArray} {K : Int} {txt : ByteArray} (h : Fact s K txt) (h0 : ¬ isB (bt s 0)) (h1 : ¬ isB (bt s (s.size - 1))) : KindAt s K 0 s.size ∧ (K = 4 → TxtOf s 0 s.size txt) := by
 obtain ⟨p, q, hK, hp0, hpq, hq, hB1, hB2, hT⟩ := h
 have e1 : p = 0 := by
  by_cases c : 0 < p
  ·exact absurd (hB1 0 (by omega) c) h0
  ·omega
 have e2 : q = s.size := by
  by_cases c : q < s.size
  ·exact absurd (hB2 (s.size - 1) (by omega) (by omega)) h1
  ·omega
 subst e1 e2
 exact ⟨hK, hT⟩
theorem wd_eq {s l : ByteArray} (h : Wd s 0 s.size l) : s = l := by
 obtain ⟨_, _, h⟩ := h
 rw [ByteArray.toList_eq, ByteArray.toList_eq] at h
 have e : s.extract (Int.toNat 0) (Int.toNat (s.size : Int)) = s := by
  rw [Int.toNat_natCast]; exact ByteArray.extract_zero_size
 rw [e] at h
 exact ByteArray.ext (Array.toList_inj.1 h)
def Qk (s : ByteArray) (K : Int) (txt b : ByteArray) : Prop := (K = 4 → b = txt) ∧ (K = 3 → Plain s → b = s) ∧ (K ≠ 4 → K ≠ 3 → K ≠ 0 → b = s)
theorem FfAt.below {w W : World} (h : FfAt w) (hb : Below w.heap.size w W) : FfAt W := fun x W' hb' => h x W' (below_then hb hb.size hb')
def Both (s : ByteArray) (K : Int) (txt : ByteArray) (w : World) : Prop := ∃ (T : Int) (str : ByteArray), (T ≠ 0 ∨ 0 < s.size) ∧ (∀ W, Below w.heap.size w W → Calls Tryz.prog 43 #[.string s] W (PaPost T s str W)) ∧ (∀ x W, Below w.heap.size w W → Calls Tryz.prog 52 #[res T s str x] W (RsPost (Qk s K txt) W))
theorem both_str (s txt : ByteArray) (hz : s.size ≤ 65536) (h : Str s 0 s.size) (hT : TxtOf s 0 s.size txt) (hP : Ev (fun k => spec_Paired.l0 k s 0) true) (w : World) : Both s 4 txt w := by
 have hS := h
 obtain ⟨_, h34, j, hj, hj1, hjs, hj34, hB⟩ := h
 have e : ((s.size - 1 : Nat) : Int) = j := by omega
 have h1 : Ev (fun k => spec_Paired.l0 k s (0 + 1)) true := Ev.back (pair_plain s hz 0 (by omega) (by omega) (by omega)) hP
 obtain ⟨o, ho, hl⟩ := paired_dec s hz j (by omega) hj34 (s.size + 1) (0 + 1) (by omega) (by omega) hB h1
 have hd := PDec.shift (a := 1) (by omega) ho (by omega)
 rw [← e, Int.toNat_natCast] at hd
 have hol : o.length ≤ 65536 := by omega
 have ht : txt = strOfNums o := by
  have := hT o (by
   have := PDec.dec hd
   simpa using this) hol
  exact this
 refine ⟨3, strOfNums o, .inl (by decide), fun W _ => parse_str s W hz o hol hS (by simpa using hd), fun x W _ => (string_fix 3 s (strOfNums o) (strOfNums o) x W (.inl ⟨rfl, rfl⟩)).mono ?_⟩
 rintro e' w' ⟨rfl, hb⟩
 exact ⟨_, rfl, ⟨fun _ => ht.symm, fun q => by omega, fun q => absurd rfl q⟩, hb⟩
theorem both_num (s txt : ByteArray) (hz : s.size ≤ 65536) (hs : 0 < s.size) (h : Num s 0 s.size) (w : World) (T : Tabs w) (hF : FfAt w) : Both s 3 txt w := by
 obtain ⟨a, b, c, x1, x2, x3, x4, x5, x6, x7, x8⟩ := h
 have N : NumAt s a b c := ⟨by rcases x1 with h | ⟨h, h'⟩; exact .inl h; exact .inr ⟨by omega, h'⟩, x2, x3, x4, x6, x7, x8⟩
 refine ⟨2, ⟨#[]⟩, .inl (by decide), fun W hb => parse_num s W hz a b c N (T.below hb), fun x W hb => (string_num s ⟨#[]⟩ x W hz hs (hF.below hb)).mono ?_⟩
 rintro e' w' ⟨t, rfl, hp, hb⟩
 exact ⟨_, rfl, ⟨fun q => by omega, fun _ => hp, fun _ q => absurd rfl q⟩, hb⟩
theorem both_json (s txt : ByteArray) (K : Int) (hz : s.size ≤ 65536) (hs : 0 < s.size) (hK : K = 5 ∨ K = 6) (h : bt s 0 = 123 ∨ bt s 0 = 91) (w : World) : Both s K txt w := by
 refine ⟨5, ⟨#[]⟩, .inl (by decide), fun W hb => parse_json s W hz hs h, fun x W hb => (string_fix 5 s ⟨#[]⟩ s x W (.inr (.inl ⟨rfl, rfl⟩))).mono ?_⟩
 rintro e' w' ⟨rfl, hb⟩
 exact ⟨_, rfl, ⟨fun q => by omega, fun q => by omega, fun _ _ _ => rfl⟩, hb⟩
theorem both_null (txt : ByteArray) (w : World) : Both wNull 0 txt w := by
 refine ⟨0, ⟨#[]⟩, .inr (by decide), fun W hb => parse_null W, fun x W hb => (string_fix 0 wNull ⟨#[]⟩ ⟨#[]⟩ x W (.inr (.inr (.inr (.inr ⟨rfl, rfl⟩))))).mono ?_⟩
 rintro e' w' ⟨rfl, hb⟩
 exact ⟨_, rfl, ⟨fun q => by omega, fun q => by omega, fun _ _ q => absurd rfl q⟩, hb⟩
theorem both_false (txt : ByteArray) (w : World) : Both wFalse 1 txt w := by
 refine ⟨1, ⟨#[]⟩, .inl (by decide), fun W hb => parse_false W, fun x W hb => (string_fix 1 wFalse ⟨#[]⟩ wFalse x W (.inr (.inr (.inr (.inl ⟨rfl, rfl⟩))))).mono ?_⟩
 rintro e' w' ⟨rfl, hb⟩
 exact ⟨_, rfl, ⟨fun q => by omega, fun q => by omega, fun _ _ _ => rfl⟩, hb⟩
theorem both_true (txt : ByteArray) (w : World) : Both wTrue 2 txt w := by
 refine ⟨4, ⟨#[]⟩, .inl (by decide), fun W hb => parse_true W, fun x W hb => (string_fix 4 wTrue ⟨#[]⟩ wTrue x W (.inr (.inr (.inl ⟨rfl, rfl⟩)))).mono ?_⟩
 rintro e' w' ⟨rfl, hb⟩
 exact ⟨_, rfl, ⟨fun q => by omega, fun q => by omega, fun _ _ _ => rfl⟩, hb⟩
theorem both_all (s txt : ByteArray) (K : Int) (hz : s.size ≤ 65536) (hs : 0 < s.size) (hK : KindAt s K 0 s.size) (hT : K = 4 → TxtOf s 0 s.size txt) (hP : Ev (fun k => spec_Paired.l0 k s 0) true) (w : World) (T : Tabs w) (hF : FfAt w) : Both s K txt w := by
 rcases hK with ⟨rfl, h⟩ | ⟨rfl, h⟩ | ⟨rfl, h⟩ | ⟨rfl, h⟩ | ⟨rfl, h⟩ | ⟨rfl, h⟩ | ⟨rfl, h⟩
 ·exact both_json s txt 6 hz hs (.inr rfl) (.inl h) w
 ·exact both_json s txt 5 hz hs (.inl rfl) (.inr h) w
 ·exact both_str s txt hz h (hT rfl) hP w
 ·exact both_num s txt hz hs h w T hF
 ·obtain rfl := wd_eq h; exact both_null txt w
 ·obtain rfl := wd_eq h; exact both_false txt w
 ·obtain rfl := wd_eq h; exact both_true txt w
end Go.Proofs.YtgiioglmkogpkaaGreatDoor.F
namespace Go.Proofs.YtgiioglmkogpkaaGreatDoor.F
open Go.RowKit Go.Proofs.YtgiioglmkogpkaaGreatDoorW.PrintWords Go.Proofs.YtgiioglmkogpkaaGreatDoorW.PrintLast Go.Proofs.YtgiioglmkogpkaaGreatDoorW.PrintMore
open M L
set_option maxHeartbeats 4000000
set_option maxRecDepth 8192
structure Lb (w W : World) (b : Nat) (K : Int) (txt : ByteArray) : Prop where
 k : W.cell? ⟨b, 0, none⟩ = some (.int .i64 K)
 t : W.cell? ⟨b, 1, none⟩ = some (.string txt)
 be : Below w.heap.size w W
theorem Lb.new {w w1 : World} (hb : Below w.heap.size w w1) (K : Int) (txt : ByteArray) (a b : Value) : Lb w (w1.alloc (.cells #[.int .i64 K, .string txt, a, b] 25)) w1.heap.size K txt :=
 ⟨blk_cell (heap_alloc_new w1 _) 0, blk_cell (heap_alloc_new w1 _) 1, below_alloc hb _⟩
theorem Lb.below {w W W2 : World} {b : Nat} {K : Int} {txt : ByteArray} (h : Lb w W b K txt) (hb : Below W.heap.size W W2) : Lb w W2 b K txt :=
 ⟨pw_cell_below hb h.k, pw_cell_below hb h.t, below_then h.be h.be.size hb⟩
theorem Lb.drewN {w W : World} {b : Nat} {K : Int} {txt : ByteArray} (h : Lb w W b K txt) (n : Nat) : Lb w (W.drewN n) b K txt := ⟨h.k, h.t, pw_below_drewN h.be n⟩
def LawPost (w : World) (e : Ending) (w' : World) : Prop := e = .returned (.bool true) ∧ Below w.heap.size w w'
theorem law_long (s : ByteArray) (hz : 2147483647 < s.size) (w : World) : Calls Tryz.prog 6 #[.string s] w (LawPost w) := by
 have x1 : decide (2147483647 < (s.size : Int)) = true := decide_eq_true (by omega)
 clear hz
 go_enter Tryz.func6, Tryz.ntmps6
 go_wp2_with fail
 go_ret
 exact ⟨rfl, Below.refl _ _⟩
theorem law_short (s : ByteArray) (hz : s.size ≤ 2147483647) (w : World) (T : Tabs w) (hF : FfAt w) : Calls Tryz.prog 6 #[.string s] w (LawPost w) := by
 have x1 : decide (2147483647 < (s.size : Int)) = false := decide_eq_false (by omega)
 have HT := Aside0.mk (And.intro T hF)
 have hb0 : ∀ h : 0 < s.size, ((s[0]'h).toNat : Int) = bt s 0 := bt_at s 0
 clear T hF
 go_enter Tryz.func6, Tryz.ntmps6
 go_upto_region 4 with (go_at_call 23; refine (gjtext_calls s (by omega) _).mono ?_; rintro e' w1 ⟨K, txt, A2, A3, m2, m3, c2, c3, ok, rfl, hb, hG⟩; have HL := Aside0.mk (Lb.new hb K txt (.slice A2 m2 c2) (.slice A3 m3 c3)); have HG := Aside0.mk hG; clear hb hG)
 cases ok
 ·go_wp2_with fail
  go_ret
  exact ⟨rfl, HL.out.be⟩
 ·obtain ⟨hz2, hP, hFa⟩ := HG.out rfl
  have hs : 0 < s.size := by
   obtain ⟨p, q, _, h0, h1, h2, _⟩ := hFa
   omega
  obtain ⟨z, hzz⟩ : ∃ z, bt s (s.size - 1) = z := ⟨_, rfl⟩
  have hbl : ∀ h : s.size - 1 < s.size, ((s[s.size - 1]'h).toNat : Int) = z := fun h => by
   rw [← hzz, ← show ((s.size - 1 : Nat) : Int) = s.size - 1 by omega]; exact bt_at s ((s.size - 1 : Nat) : Int) h
  have HX := Aside0.mk (And.intro hP hFa)
  have HZ := Aside0.mk hzz
  clear hP hFa hzz HG
  by_cases b0 : isB (bt s 0)
  ·have y0 : decide (isB (bt s 0)) = true := decide_eq_true b0
   clear b0
   go_wp2_with (go_at_call 24; refine (spec_Blank.calls _ _ _ (blank_f _)).mono ?_; rintro e' w' ⟨rfl, n1, rfl⟩)
   all_goals go_ret
   all_goals exact ⟨rfl, (HL.out.drewN n1).be⟩
  ·have y0 : decide (isB (bt s 0)) = false := decide_eq_false b0
   by_cases b1 : isB z
   ·have y1 : decide (isB z) = true := decide_eq_true b1
    clear b0 b1
    go_wp2_with (first
     | (go_at_call 24; refine (spec_Blank.calls _ _ _ (blank_f _)).mono ?_; rintro e' w3 ⟨rfl, hd⟩; have HLb := Aside0.mk (HLa.out.below (Drawn0.below hd)); clear hd)
     | (go_at_call 24; refine (spec_Blank.calls _ _ _ (blank_f _)).mono ?_; rintro e' w2 ⟨rfl, hd⟩; have HLa := Aside0.mk (HL.out.below (Drawn0.below hd)); clear hd))
    all_goals go_ret
    all_goals exact ⟨rfl, HLb.out.be⟩
   ·have y1 : decide (isB z) = false := decide_eq_false b1
    obtain ⟨hKA, hTx⟩ := fact_span HX.out.2 b0 (by rw [HZ.out]; exact b1)
    obtain ⟨T0, str, hT0, h43, h52⟩ := both_all s txt K hz2 hs hKA hTx HX.out.1 w HT.out.1 HT.out.2
    have H43 := Aside0.mk h43
    have H52 := Aside0.mk h52
    have hT0 := Aside0.mk hT0
    clear b0 b1 hTx h43 h52 hKA
    go_upto_region 6 with (first
     | (go_at_call 24; refine (spec_Blank.calls _ _ _ (blank_f _)).mono ?_; rintro e' w3 ⟨rfl, hd⟩; have HLb := Aside0.mk (HLa.out.below (Drawn0.below hd)); clear hd)
     | (go_at_call 24; refine (spec_Blank.calls _ _ _ (blank_f _)).mono ?_; rintro e' w2 ⟨rfl, hd⟩; have HLa := Aside0.mk (HL.out.below (Drawn0.below hd)); clear hd))
    have HL6 := HLb
    clear hbl hb0 HLa HLb
    by_cases k4 : K = 4
    ·have x4 : (K == 4) = true := beq_iff_eq.mpr k4
     have K4 := Aside0.mk k4
     clear k4
     go_wp2_with (first
      | (go_at_call 26; refine (gjparse_calls T0 s str w3 hT0.out (fun W hb => H43.out W (below_then HL6.out.be HL6.out.be.size hb))).mono ?_; rintro e' w7 ⟨x, rfl, hb⟩; have HL7 := Aside0.mk (HL6.out.below hb); clear hb)
      | (go_at_call 25; refine (gjrs_calls T0 s str x _ (Qk s K txt) (fun W hb => H52.out x W (below_then HL7.out.be HL7.out.be.size hb))).mono ?_; rintro e' w8 ⟨b, rfl, hq, hb⟩; have HL8 := Aside0.mk (HL7.out.below hb); clear hb; have kk := HL8.out.k; have kt := HL8.out.t; obtain rfl := hq.1 K4.out; clear hq))
     go_ret
     exact ⟨rfl, HL8.out.be⟩
    ·have x4 : (K == 4) = false := beq_eq_false_iff_ne.mpr k4
     by_cases k3 : K = 3
     ·have x3 : (K == 3) = true := beq_iff_eq.mpr k3
      have K3 := Aside0.mk k3
      clear k3 k4
      go_upto_region 12 with (first
      | (go_at_call 27; refine (whole_calls s hz2 hs _).mono ?_; rintro e' w9 ⟨ng, d, ok2, rfl, hb, hpl⟩; have HL9 := Aside0.mk (HL8.out.below hb); have HPL := Aside0.mk hpl; clear hb hpl)
      | (go_at_call 26; refine (gjparse_calls T0 s str w3 hT0.out (fun W hb => H43.out W (below_then HL6.out.be HL6.out.be.size hb))).mono ?_; rintro e' w7 ⟨x, rfl, hb⟩; have HL7 := Aside0.mk (HL6.out.below hb); clear hb)
      | (go_at_call 25; refine (gjrs_calls T0 s str x _ (Qk s K txt) (fun W hb => H52.out x W (below_then HL7.out.be HL7.out.be.size hb))).mono ?_; rintro e' w8 ⟨b, rfl, hq, hb⟩; have HL8 := Aside0.mk (HL7.out.below hb); clear hb; have kk := HL8.out.k; have kt := HL8.out.t; have HQ := Aside0.mk hq; clear hq))
      cases ok2
      ·go_wp2_with fail
       go_ret
       exact ⟨rfl, HL9.out.be⟩
      ·obtain rfl : b = s := HQ.out.2.1 K3.out (HPL.out rfl)
       go_wp2_with fail
       go_ret
       exact ⟨rfl, HL9.out.be⟩
     ·have x3 : (K == 3) = false := beq_eq_false_iff_ne.mpr k3
      by_cases k0 : K = 0
      ·have x0 : (K == 0) = true := beq_iff_eq.mpr k0
       clear k0 k3 k4
       go_wp2_with (first
      | (go_at_call 26; refine (gjparse_calls T0 s str w3 hT0.out (fun W hb => H43.out W (below_then HL6.out.be HL6.out.be.size hb))).mono ?_; rintro e' w7 ⟨x, rfl, hb⟩; have HL7 := Aside0.mk (HL6.out.below hb); clear hb)
      | (go_at_call 25; refine (gjrs_calls T0 s str x _ (Qk s K txt) (fun W hb => H52.out x W (below_then HL7.out.be HL7.out.be.size hb))).mono ?_; rintro e' w8 ⟨b, rfl, hq, hb⟩; have HL8 := Aside0.mk (HL7.out.below hb); clear hb; have kk := HL8.out.k; have kt := HL8.out.t; clear hq))
       go_ret
       exact ⟨rfl, HL8.out.be⟩
      ·have x0 : (K == 0) = false := beq_eq_false_iff_ne.mpr k0
       have KN := Aside0.mk (And.intro k4 (And.intro k3 k0))
       clear k0 k3 k4
       go_wp2_with (first
      | (go_at_call 26; refine (gjparse_calls T0 s str w3 hT0.out (fun W hb => H43.out W (below_then HL6.out.be HL6.out.be.size hb))).mono ?_; rintro e' w7 ⟨x, rfl, hb⟩; have HL7 := Aside0.mk (HL6.out.below hb); clear hb)
      | (go_at_call 25; refine (gjrs_calls T0 s str x _ (Qk s K txt) (fun W hb => H52.out x W (below_then HL7.out.be HL7.out.be.size hb))).mono ?_; rintro e' w8 ⟨b, rfl, hq, hb⟩; have HL8 := Aside0.mk (HL7.out.below hb); clear hb; have kk := HL8.out.k; have kt := HL8.out.t; obtain rfl := hq.2.2 KN.out.1 KN.out.2.1 KN.out.2.2; clear hq))
       go_ret
       exact ⟨rfl, HL8.out.be⟩
theorem law_calls (s : ByteArray) (w : World) (T : Tabs w) (hF : FfAt w) : Calls Tryz.prog 6 #[.string s] w (LawPost w) := by
 by_cases h : s.size ≤ 2147483647
 ·exact law_short s h w T hF
 ·exact law_long s (by omega) w
end Go.Proofs.YtgiioglmkogpkaaGreatDoor.F
namespace Go.Proofs.YtgiioglmkogpkaaGreatDoor.F
open Go.ChangeShapes Go.WideShapes Go.ChangeAt Go.RowKit
set_option maxRecDepth 100000
theorem laid_mem {P : Program} {w : World} {n : String} {d : DataW Unit} : ∀ {l : List (String × DataW Unit)} {ps : List MemPlace}, DataW.LaidVars P w l ps → (n, d) ∈ l →
  ∃ g t cs fuel p, P.globalNamed n = some g ∧ (P.globals[g]?).map (·.type) = some t ∧ w.var? P n = some cs ∧ DataW.trod (fun _ => ()) P w 0 (fun _ => true) false fuel t cs.toList = some (d, p)
 | [], _, _, hm => by simp at hm
 | (n0, d0) :: r, ps, h, hm => by
  obtain ⟨g, t, cs, fuel, p, q, h1, h2, h3, h4, h5, _⟩ := h
  rcases List.mem_cons.1 hm with e | hm
  ·cases e
   exact ⟨g, t, cs, fuel, p, h1, h2, h3, h4⟩
  ·exact laid_mem h5 hm
abbrev LL : List (String × DataW Unit) := Rows.fnGjStringRow.laid
theorem laid_of {W : World} (h : laidMetH Tryz.prog LL W) : ∃ ps, DataW.LaidVars Tryz.prog W LL ps := by
 rw [MakeChecks.laidMetH_plain _ _ _ (by kernel_rfl)] at h
 obtain ⟨ps, h, _⟩ := h
 exact ⟨ps, h⟩
theorem g1 : Tryz.prog.globalNamed "internal/strconv.optimize" = some 1 := by kernel_rfl
theorem g3 : Tryz.prog.globalNamed "strconv.ErrRange" = some 3 := by kernel_rfl
theorem g4 : Tryz.prog.globalNamed "internal/strconv.uint64pow10" = some 4 := by kernel_rfl
theorem g6 : Tryz.prog.globalNamed "internal/strconv.float64info" = some 6 := by kernel_rfl
theorem g7 : Tryz.prog.globalNamed "internal/strconv.pow10Tab" = some 7 := by kernel_rfl
theorem g8 : Tryz.prog.globalNamed "internal/strconv.leftcheats" = some 8 := by kernel_rfl
theorem g10 : Tryz.prog.globalNamed "internal/strconv.powtab" = some 10 := by kernel_rfl
theorem g11 : Tryz.prog.globalNamed "internal/strconv.float64pow10" = some 11 := by kernel_rfl
theorem t1 : (Tryz.prog.globals[1]?).map (·.type) = some 4 := by kernel_rfl
theorem t3 : (Tryz.prog.globals[3]?).map (·.type) = some 123 := by kernel_rfl
theorem t4 : (Tryz.prog.globals[4]?).map (·.type) = some 237 := by kernel_rfl
theorem t7 : (Tryz.prog.globals[7]?).map (·.type) = some 280 := by kernel_rfl
theorem t10 : (Tryz.prog.globals[10]?).map (·.type) = some 64 := by kernel_rfl
theorem t6 : (Tryz.prog.globals[6]?).map (·.type) = some 259 := by kernel_rfl
theorem t8 : (Tryz.prog.globals[8]?).map (·.type) = some 286 := by kernel_rfl
theorem t11 : (Tryz.prog.globals[11]?).map (·.type) = some 293 := by kernel_rfl
section
variable {W : World} {ps : List MemPlace} (h : DataW.LaidVars Tryz.prog W LL ps)
theorem laid_at {ps : List MemPlace} {W : World} (h : DataW.LaidVars Tryz.prog W LL ps) {n : String} {d : DataW Unit} {g : Nat} {t : TypeId} (hm : (n, d) ∈ LL) (hg : Tryz.prog.globalNamed n = some g) (ht : (Tryz.prog.globals[g]?).map (·.type) = some t) :
  ∃ cs fuel p, (∀ i, W.cell? ⟨g, i, none⟩ = cs[i]?) ∧ DataW.trod (fun _ => ()) Tryz.prog W 0 (fun _ => true) false fuel t cs = some (d, p) := by
 obtain ⟨g', t', cs, fuel, p, h1, h2, h3, h4⟩ := laid_mem h hm
 obtain rfl := Option.some.inj (hg.symm.trans h1)
 obtain rfl := Option.some.inj (ht.symm.trans h2)
 exact ⟨cs.toList, fuel, p, fun i => by have := World.var?_cell hg h3 i; simpa using this, h4⟩
theorem laid_op {ps : List MemPlace} {W : World} (h : DataW.LaidVars Tryz.prog W LL ps) : W.cell? ⟨1, 0, none⟩ = some (.bool true) := by
 obtain ⟨cs, fuel, p, hc, ht⟩ := laid_at h (d := Rows.laid_internal_strconv_optimize) (by simp [LL, Rows.fnGjStringRow]) g1 t1
 obtain ⟨b, rfl, hx⟩ := DataW.trod_bool Tryz.underlying4 ht
 have hb : b = true := by simpa [Rows.laid_internal_strconv_optimize] using (congrArg Prod.fst hx).symm
 rw [hc 0, hb]; rfl
theorem laid_er {ps : List MemPlace} {W : World} (h : DataW.LaidVars Tryz.prog W LL ps) : ∃ ev, W.cell? ⟨3, 0, none⟩ = some ev ∧ (ev = .nilIface ∨ ∃ te pe, ev = .iface te pe) := by
 obtain ⟨cs, fuel, p, hc, ht⟩ := laid_at h (d := Rows.laid_strconv_ErrRange) (by simp [LL, Rows.fnGjStringRow]) g3 t3
 obtain ⟨f2, u, v, rfl, _, _⟩ := iface_of_trod Tryz.underlying123 ht
 exact ⟨_, hc 0, .inr ⟨u, v, rfl⟩⟩
theorem laid_u10 {ps : List MemPlace} {W : World} (h : DataW.LaidVars Tryz.prog W LL ps) : U10 W := by
 obtain ⟨cs, fuel, p, hc, ht⟩ := laid_at h (d := Rows.laid_internal_strconv_uint64pow10) (by simp [LL, Rows.fnGjStringRow]) g4 t4
 have e : (Rows.laid_internal_strconv_uint64pow10 : DataW Unit) = Lib.tabData .u64 Lib.pow10Tab := by kernel_rfl
 rw [e] at ht
 have hcs := Lib.cells_of_tab Tryz.underlying237 Tryz.underlying159 (by kernel_rfl) (by kernel_rfl) ht
 intro i hi
 rw [hc i, hcs]
 have := Lib.pow10Tab_at i hi
 simp only [List.getElem?_map]
 have hl : Lib.pow10Tab[i]? = some ((10 ^ i : Nat) : Int) := by
  rw [List.getElem?_eq_getElem (by rw [Lib.pow10Tab_length]; exact hi)]
  rw [List.getD_eq_getElem?_getD, List.getElem?_eq_getElem (by rw [Lib.pow10Tab_length]; exact hi)] at this
  simpa using this
 rw [hl]; rfl
end
end Go.Proofs.YtgiioglmkogpkaaGreatDoor.F
namespace Go.Proofs.YtgiioglmkogpkaaGreatDoor.F
open Go.ChangeShapes Go.WideShapes Go.ChangeAt Go.RowKit
set_option maxRecDepth 100000
theorem trod_f64 {H : Type} {enc : TypeId × Value → H} {P : Program} {w : World} {base : Nat} {sp : Nat → Bool} {held : Bool} {fuel : Nat} {t : TypeId} {c : Value} {x : Nat} {q : List MemPlace} (ht : P.underlying t = some (.float .f64)) (h : DataW.trod enc P w base sp held fuel t [c] = some (.lit (.float .f64 x), q)) : ∃ y, c = .float .f64 y := by
 cases fuel with
 | zero => simp [DataW.trod] at h
 | succ n =>
  cases c <;> simp [DataW.trod, ht] at h
  rename_i k y
  cases k <;> simp at h
  exact ⟨y, rfl⟩
theorem laid_fi {ps : List MemPlace} {W : World} (h : DataW.LaidVars Tryz.prog W LL ps) : FI W := by
 obtain ⟨cs, fuel, p, hc, ht⟩ := laid_at h (d := Rows.laid_internal_strconv_float64info) (by simp [LL, Rows.fnGjStringRow]) g6 t6
 obtain ⟨y0, y1, y2, n, hx, hl, a0, a1, a2⟩ := Go.Deep.trod_struct3 Tryz.underlying259 ht
 have c3 : Tryz.prog.cellsOf 259 = 3 := by kernel_rfl
 rw [c3] at hl
 match cs, hl with
 | [c0, c1, c2], _ =>
  dsimp only at a0 a1 a2
  have k3 : Tryz.prog.cellsOf 3 = 1 := by kernel_rfl
  have k162 : Tryz.prog.cellsOf 162 = 1 := by kernel_rfl
  rw [k162] at a0 a1
  rw [k3] at a2
  obtain ⟨n0, e0, z0, _⟩ := DataW.trod_int Tryz.underlying162 a0
  obtain ⟨n1, e1, z1, _⟩ := DataW.trod_int Tryz.underlying162 a1
  obtain ⟨n2, e2, z2, _⟩ := DataW.trod_int Tryz.underlying3 a2
  have hd := congrArg Prod.fst hx
  rw [z0, z1, z2] at hd
  have hd2 : (DataW.agg [.lit (.int .u64 52), .lit (.int .u64 11), .lit (.int .i64 (-1023))] : DataW Unit) = .agg [.lit (.int .u64 n0), .lit (.int .u64 n1), .lit (.int .i64 n2)] := hd
  simp at hd2
  obtain ⟨rfl, rfl, rfl⟩ := hd2
  have f0 : c0 = .int .u64 52 := by simpa using e0
  have f1 : c1 = .int .u64 11 := by simpa using e1
  have f2 : c2 = .int .i64 (-1023) := by simpa using e2
  subst f0 f1 f2
  exact ⟨hc 0, hc 1, hc 2⟩
theorem laid_pow {ps : List MemPlace} {W : World} (h : DataW.LaidVars Tryz.prog W LL ps) : Pow W := by
 obtain ⟨cs, fuel, p, hc, ht⟩ := laid_at h (d := Rows.laid_internal_strconv_pow10Tab) (by simp [LL, Rows.fnGjStringRow]) g7 t7
 obtain ⟨xs, m, _, _, hl, hn, hel⟩ := DataW.trod_array Tryz.underlying280 ht
 have c280 : Tryz.prog.cellsOf 280 = 1392 := by kernel_rfl
 have c279 : Tryz.prog.cellsOf 279 = 2 := by kernel_rfl
 rw [c280] at hl
 rw [c279] at hel
 intro i hi
 have hq := hel (i / 2) (by omega)
 have hx : xs[i / 2]? = some (xs[i / 2]'(by omega)) := List.getElem?_eq_getElem (by omega)
 rw [hx] at hq
 obtain ⟨y0, y1, n, _, hl2, a0, a1⟩ := trod_struct2 Tryz.underlying279 hq
 have c159 : Tryz.prog.cellsOf 159 = 1 := by kernel_rfl
 obtain ⟨L, hL⟩ : ∃ L, List.take 2 (List.drop (i / 2 * 2) cs) = L := ⟨_, rfl⟩
 rw [hL] at a0 a1 hl2
 rw [c279] at hl2
 dsimp only at a0 a1
 rw [c159] at a0 a1
 match L, hl2 with
 | [a, b], _ =>
  obtain ⟨n0, e0, _, _⟩ := DataW.trod_int Tryz.underlying159 a0
  obtain ⟨n1, e1, _, _⟩ := DataW.trod_int Tryz.underlying159 a1
  have hidx : ∀ j, j < 2 → cs[i / 2 * 2 + j]? = [a, b][j]? := by
   intro j hj
   rw [← hL, List.getElem?_take, if_pos hj, List.getElem?_drop]
  have ea : a = .int .u64 n0 := by simpa using e0
  have eb : b = .int .u64 n1 := by simpa using e1
  subst ea eb
  rw [hc i]
  rcases Nat.mod_two_eq_zero_or_one i with hm | hm
  ·have := hidx 0 (by omega)
   rw [show i / 2 * 2 + 0 = i by omega] at this
   exact ⟨n0, this⟩
  ·have := hidx 1 (by omega)
   rw [show i / 2 * 2 + 1 = i by omega] at this
   exact ⟨n1, this⟩
theorem laid_powtab {ps : List MemPlace} {W : World} (h : DataW.LaidVars Tryz.prog W LL ps) : PowTab W := by
 obtain ⟨cs, fuel, p, hc, ht⟩ := laid_at h (d := Rows.laid_internal_strconv_powtab) (by simp [LL, Rows.fnGjStringRow]) g10 t10
 obtain ⟨a, cap, rfl, hcap, hel⟩ := open_row Tryz.underlying64 (by kernel_rfl) ht
 have hall : ∀ i, i < 9 → W.cell? (a.add i) = some (.int .i64 (powtabL.getD i 0)) := by
  intro i hi
  have hd : ∀ i, i < 9 → ([1, 3, 6, 9, 13, 16, 19, 23, 26] : List Int)[i]? = some (powtabL.getD i 0) := by decide
  obtain ⟨v, n, q, hv, hr⟩ := hel i (.lit (.int .i64 (powtabL.getD i 0))) (by
   have := hd i hi
   have e : ([.lit (.int .i64 1), .lit (.int .i64 3), .lit (.int .i64 6), .lit (.int .i64 9), .lit (.int .i64 13), .lit (.int .i64 16), .lit (.int .i64 19), .lit (.int .i64 23), .lit (.int .i64 26)] : List (DataW Unit)) = ([1, 3, 6, 9, 13, 16, 19, 23, 26] : List Int).map fun z => .lit (.int .i64 z) := rfl
   rw [e, List.getElem?_map, this]; rfl)
  obtain ⟨k, e1, e2, _⟩ := DataW.trod_int Tryz.underlying3 hr
  have hk : powtabL.getD i 0 = k := by simpa using congrArg Prod.fst e2
  rw [hv, hk]
  simpa using e1
 exact ⟨a, cap, hc 0, hall, by have := hall 0 (by omega); simpa [Addr.add, powtabL] using this⟩
def p10L : List Nat := [4607182418800017408, 4621819117588971520, 4636737291354636288, 4652007308841189376, 4666723172467343360, 4681608360884174848, 4696837146684686336, 4711630319722168320, 4726483295884279808, 4741671816366391296, 4756540486875873280, 4771362005757984768, 4786511204640096256, 4801453603149578240, 4816244402031689728, 4831355200913801216, 4846369599423283200, 4861130398305394688, 4876203697187506176, 4891288408196988160, 4906019910204099648, 4921056587992461136, 4936209963552724370]
theorem laid_p10 {ps : List MemPlace} {W : World} (h : DataW.LaidVars Tryz.prog W LL ps) : P10 W := by
 obtain ⟨cs, fuel, p, hc, ht⟩ := laid_at h (d := Rows.laid_internal_strconv_float64pow10) (by simp [LL, Rows.fnGjStringRow]) g11 t11
 obtain ⟨a, cap, rfl, hcap, hel⟩ := open_row Tryz.underlying293 (by kernel_rfl) ht
 refine ⟨a, cap, hc 0, fun i hi => ?_⟩
 have hall : ∀ i, i < 23 → (p10L[i]?).isSome = true := by decide
 obtain ⟨x, hx⟩ := Option.isSome_iff_exists.1 (hall i hi)
 obtain ⟨v, n, q, hv, hr⟩ := hel i (.lit (.float .f64 x)) (by
  have e : (Rows.laid_internal_strconv_float64pow10 : DataW Unit) = .slice (p10L.map fun z => .lit (.float .f64 z)) [] := rfl
  injection e with e1 _
  rw [e1, List.getElem?_map, hx]; rfl)
 obtain ⟨y, rfl⟩ := trod_f64 Tryz.underlying39 hr
 exact ⟨y, hv⟩
theorem laid_cheats {ps : List MemPlace} {W : World} (h : DataW.LaidVars Tryz.prog W LL ps) : Cheats W := by
 obtain ⟨cs, fuel, p, hc, ht⟩ := laid_at h (d := Rows.laid_internal_strconv_leftcheats) (by simp [LL, Rows.fnGjStringRow]) g8 t8
 rcases DataW.trod_slice Tryz.underlying286 ht with ⟨_, hx⟩ | ⟨a, len, cap, elems, rest, n, _, rfl, hx, _, hl, _, hlen, hel, _⟩
 ·exact absurd (congrArg Prod.fst hx) (by intro e; cases e)
 ·have hfst := congrArg Prod.fst hx
  have hlst : Go.Pinned.cheatRows.map (fun x => (DataW.agg [.lit (.int .i64 x.1), .lit (.string x.2)] : DataW Unit)) = elems.map (·.1) := by
   have e : (Rows.laid_internal_strconv_leftcheats : DataW Unit) = .slice (Go.Pinned.cheatRows.map (fun x => (DataW.agg [.lit (.int .i64 x.1), .lit (.string x.2)] : DataW Unit))) [] := rfl
   rw [e] at hfst
   injection hfst
  have h61 : len = 61 := by
   have := congrArg List.length hlst
   simp only [List.length_map] at this
   rw [← hlen, ← this]; decide
  have c285 : Tryz.prog.cellsOf 285 = 2 := by kernel_rfl
  have c3 : Tryz.prog.cellsOf 3 = 1 := by kernel_rfl
  have c9 : Tryz.prog.cellsOf 9 = 1 := by kernel_rfl
  rw [c285] at hel
  subst h61
  refine ⟨a, cap, hc 0, fun k x hk => ?_⟩
  have hkl : k < 61 := by
   have := (List.getElem?_eq_some_iff.1 hk).1
   have h : Go.Pinned.cheatRows.length = 61 := by decide
   omega
  have hy : ∃ y, elems[k]? = some y ∧ y.1 = .agg [.lit (.int .i64 x.1), .lit (.string x.2)] := by
   have := congrArg (fun l => l[k]?) hlst
   simp only [List.getElem?_map, hk, Option.map_some] at this
   cases hz : elems[k]? with
   | none => rw [hz] at this; simp at this
   | some y => rw [hz] at this; exact ⟨y, rfl, by simpa using this.symm⟩
  obtain ⟨y, hy1, hy2⟩ := hy
  have he := hel k hkl
  rw [hy1] at he
  simp only [Option.bind_eq_some_iff] at he
  obtain ⟨L, hL, hT⟩ := he
  obtain ⟨y0, y1, m, hz, hl2, a0, a1⟩ := trod_struct2 Tryz.underlying285 hT
  rw [c285] at hl2
  dsimp only at a0 a1
  rw [c3] at a0
  rw [c9] at a1
  match L, hl2 with
  | [c0, c1], _ =>
   obtain ⟨n0, e0, z0, _⟩ := DataW.trod_int Tryz.underlying3 a0
   obtain ⟨s1, e1, z1, _⟩ := DataW.trod_string Tryz.underlying9 a1
   rw [hz, z0, z1] at hy2
   simp at hy2
   obtain ⟨h1, h2⟩ := hy2
   have f0 : c0 = .int .i64 n0 := by simpa using e0
   have f1 : c1 = .string s1 := by simpa using e1
   subst f0 f1
   unfold World.cells? at hL
   rw [if_pos (Nat.zero_le _)] at hL
   have e00 : (a.add (k * 2)).add 0 = a.add (k * 2) := by simp [Addr.add]
   simp only [List.range_succ, List.range_zero, List.nil_append, List.cons_append, List.mapM_cons, List.mapM_nil, e00] at hL
   cases hA : W.cell? (a.add (k * 2)) with
   | none => simp [hA] at hL
   | some u0 =>
    cases hB : W.cell? ((a.add (k * 2)).add 1) with
    | none => simp [hA, hB] at hL
    | some u1 =>
     simp [hA, hB] at hL
     obtain ⟨rfl, rfl⟩ := hL
     have hs : s1 = ⟨x.2.toArray⟩ := by
      apply ByteArray.ext
      apply Array.toList_inj.1
      simpa using h2
     refine ⟨by rw [h1], ?_⟩
     rw [← hs]
     exact hB
theorem tabs_of_laid {W : World} (h : laidMetH Tryz.prog LL W) : Tabs W ∧ U10 W := by
 obtain ⟨ps, h⟩ := laid_of h
 exact ⟨⟨laid_op h, laid_fi h, laid_cheats h, laid_powtab h, laid_pow h, laid_p10 h, laid_er h⟩, laid_u10 h⟩
end Go.Proofs.YtgiioglmkogpkaaGreatDoor.F
namespace Go.Proofs.YtgiioglmkogpkaaGreatDoor.fnGjString
open Go.ChangeShapes Go.WideShapes Go.ChangeAt Go.RowKit
open Go.ChangeMaps (open_string shut_string)
set_option maxRecDepth 100000
theorem own : ownKnob Tryz.prog.godebug = none := by kernel_rfl
theorem lifted (os : Os) (started : os.Started) (H : Type) (enc : TypeId × Value → H) :
  ReturnsInHanded {} Tryz.checked os 6 .any (fun w args => (Rows.fnGjStringSpec.pre enc Tryz.prog Tryz.f6 Rows.fnGjStringRow.domain false w args ∧ laidMetH Tryz.prog F.LL w) ∧ sizedMet enc Tryz.prog Tryz.f6 (OpenSpec.ofChange Rows.fnGjStringSpec) false w args)
   (Rows.fnGjStringSpec.post enc Tryz.prog Tryz.f6 false true false false) := by
 refine returnsInHanded_of_change_and (C := Tryz.checked) (X := fun w _ => laidMetH Tryz.prog F.LL w) (fun _ _ _ hh h => h.of_heap hh) own started (by kernel_rfl) Tryz.func6
  (ChangeSpec.witness_shaped (enc := enc) (C := Tryz.checked) (os := os) (X := fun w _ => laidMetH Tryz.prog F.LL w) false (World.laidAll Tryz.prog os F.LL) #[.string ByteArray.empty] 8 (World.laidAll_os _ _ _)
   (World.shaped_of_ZipB (by kernel_rfl) (by kernel_rfl)) (by kernel_rfl) (by kernel_rfl) (by kernel_rfl)
   (by rw [MakeChecks.laidMetH_plain _ _ _ (by kernel_rfl)]; exact laidMet_laidAll _ (by kernel_rfl) (by kernel_rfl))) ?_
 intro W base args ds gs before hval0 hW hc _ hL _
 have hval : ∀ (j : Nat) t v, Tryz.f6.params[j]? = some t → args[j]? = some v → Value.okWide Tryz.prog W .any base t v := hval0
 have hW' := hW
 obtain ⟨p, q, hA0, hV, rfl, _, _⟩ := hW
 have hA : DataW.TrodAll enc Tryz.prog W 0 (fun _ => true) true Tryz.f6.params.toList args.toList ds p := hA0
 rw [Tryz.params6] at hA hval
 obtain ⟨v0, d0, rfl, rfl, h0⟩ := trodAll_one hA
 obtain ⟨rfl, rfl⟩ := trodVars_none hV
 obtain ⟨a0, rfl, rfl, rfl, y0⟩ := open_string Tryz.underlying9 (hval 0 9 v0 rfl rfl) h0
 obtain ⟨T, U⟩ := F.tabs_of_laid hL
 clear hA0 hval0
 refine (F.law_calls a0 W T (F.ffAt W U T.pw)).mono fun e W' ⟨he, bel⟩ => ?_
 subst he
 exact ⟨_, rfl, _, _, _, [], _, [], hW', trodAll_mk1 (shut_bool Tryz.underlying4 _), (trodAll_mk1 (shut_string Tryz.underlying9 y0)), rfl, bel.frame _, fun h => by cases h⟩
theorem holds : Rows.FnGjStringSaid :=
 OpenClaim.holds_of_wide 6 Tryz.f6 rfl rfl rfl rfl rfl rfl rfl ⟨rfl, rfl, rfl, rfl, rfl⟩ rfl rfl rfl rfl rfl (by kernel_rfl) Tryz.func6 (by kernel_rfl)
  (of_decide_eq_true (by kernel_rfl)) (by unfold Func.isWrapper; first | (rw [if_pos (by decide +kernel)]; kernel_rfl) | (rw [if_neg (by decide +kernel)]; exact ⟨rfl, rfl⟩))
  (fun os started H enc _ => lifted os started H enc)
end Go.Proofs.YtgiioglmkogpkaaGreatDoor.fnGjString

/- Texts behind the law FnGjGroupKeys: part 7. -/
import Derived.Test.YtgiioglmkogpkaaGreatDoorZb
import Derived.Test.YtgiioglmkogpkaaGreatDoorZf
import Derived.Test.YtgiioglmkogpkaaGreatDoorZe
import Derived.Deep.RegionHeld3
import Derived.IntWalk
import Derived.BigRegion
import Derived.Deep.QuietTactic
import Derived.BigQuiet
import Derived.Test.YtgiioglmkogpkaaGreatDoorRows
import Derived.ProofKit
import Derived.LaidMore
import Derived.OpenShut
import Derived.Stop.Joined
import Derived.Lib.LaidTab
import Derived.ChangeSame
import Derived.Deep.Strs
import Derived.LaidLaws
import Derived.MakeChecks
import Derived.WalkKit
import Derived.ShutString
import Derived.ChangeOld
import Derived.Below
import Derived.Lay
set_option linter.unusedVariables false
set_option linter.unusedSimpArgs false
namespace Go.Proofs.YtgiioglmkogpkaaGreatDoor.F
open Go.RowKit Go.Proofs.YtgiioglmkogpkaaGreatDoorW.PrintWords Go.Proofs.YtgiioglmkogpkaaGreatDoorW.PrintLast Go.Proofs.YtgiioglmkogpkaaGreatDoorW.PrintMore
open M L V
structure Bb (w W : World) (g r : Nat) (K : Int) (txt : ByteArray) (A2 A3 : Option Addr) (n2 n3 c2 c3 : Nat) (b : Bool) (t : S25) : Prop where
 hg : W.heap[g]? = some (.cells #[.int .i64 K, .string txt, .slice A2 n2 c2, .slice A3 n3 c3] 25 (0, 0))
 hr : ∃ x y z u, W.heap[r]? = some (.cells #[x, y, z, u] 25 (0, 0))
 ne : g ≠ r
 rb : w.heap.size = r
 be : Below w.heap.size w W
 hN : b = true → NodeAt (r + 1) W t A2 A3 c2 c3
section
variable {w W : World} {g r : Nat} {K : Int} {txt : ByteArray} {A2 A3 : Option Addr} {n2 n3 c2 c3 : Nat} {b : Bool} {t : S25}
theorem Bb.all (h : Bb w W g r K txt A2 A3 n2 n3 c2 c3 b t) :
  Bb w W g r K txt A2 A3 n2 n3 c2 c3 b t ∧ W.cell? ⟨g, 0, none⟩ = some (.int .i64 K) ∧ W.cell? ⟨g, 1, none⟩ = some (.string txt) ∧ W.cell? ⟨g, 2, none⟩ = some (.slice A2 n2 c2) ∧ W.cell? ⟨g, 3, none⟩ = some (.slice A3 n3 c3) ∧
   (∀ i, W.frozen? ⟨r, i, none⟩ = false) ∧ W.cell? ⟨r, 0, none⟩ = some (cellv W r 0) ∧ W.cell? ⟨r, 1, none⟩ = some (cellv W r 1) ∧ W.cell? ⟨r, 2, none⟩ = some (cellv W r 2) ∧ W.cell? ⟨r, 3, none⟩ = some (cellv W r 3) := by
 obtain ⟨x, y, z, u, hr⟩ := h.hr
 exact ⟨h, blk_cell h.hg 0, blk_cell h.hg 1, blk_cell h.hg 2, blk_cell h.hg 3, blk_frozen hr, cellv_of (blk_cell hr 0), cellv_of (blk_cell hr 1), cellv_of (blk_cell hr 2), cellv_of (blk_cell hr 3)⟩
theorem Bb.drew (h : Bb w W g r K txt A2 A3 n2 n3 c2 c3 b t) : Bb w W.drew g r K txt A2 A3 n2 n3 c2 c3 b t := ⟨h.hg, h.hr, h.ne, h.rb, below_drew h.be, fun q => (h.hN q).step (Nat.le_refl _) (fun _ _ _ => rfl)⟩
theorem Bb.below {W2 : World} (h : Bb w W g r K txt A2 A3 n2 n3 c2 c3 b t) (hb : Below W.heap.size W W2) : Bb w W2 g r K txt A2 A3 n2 n3 c2 c3 b t := by
 obtain ⟨x, y, z, u, hr⟩ := h.hr
 exact ⟨(hb.block g (blk_lt h.hg)).trans h.hg, ⟨x, y, z, u, (hb.block r (blk_lt hr)).trans hr⟩, h.ne, h.rb, below_then h.be h.be.size hb, fun q => (h.hN q).below hb⟩
theorem Bb.below' {W2 : World} (hb : Below W.heap.size W W2) (h : Bb w W g r K txt A2 A3 n2 n3 c2 c3 b t) : Bb w W2 g r K txt A2 A3 n2 n3 c2 c3 b t := h.below hb
theorem Bb.store (h : Bb w W g r K txt A2 A3 n2 n3 c2 c3 b t) (x y z u : Value) : Bb w ((((W.setCell ⟨r, 0, none⟩ x).setCell ⟨r, 1, none⟩ y).setCell ⟨r, 2, none⟩ z).setCell ⟨r, 3, none⟩ u) g r K txt A2 A3 n2 n3 c2 c3 b t := by
 obtain ⟨x', y', z', u', hr⟩ := h.hr
 have e := h.rb
 exact ⟨blk_far (blk_far (blk_far (blk_far h.hg h.ne _) h.ne _) h.ne _) h.ne _, ⟨x, y, z, u, blk_set (blk_set (blk_set (blk_set hr 0 _) 1 _) 2 _) 3 _⟩, h.ne, h.rb, below_set (below_set (below_set (below_set h.be (Nat.le_of_eq e)) (Nat.le_of_eq e)) (Nat.le_of_eq e)) (Nat.le_of_eq e), fun q => (h.hN q).keepb (stored_keep4 W r x y z u) (by omega)⟩
end
section
variable {w W : World} {g r : Nat} {A2 A3 : Option Addr} {c2 c3 : Nat} {t : S25}
theorem Bb.inn (h : Bb w W g r t.f0 t.f1 A2 A3 t.f2.length t.f3.length c2 c3 true t) : NodeIn W t A2 A3 c2 c3 := (h.hN rfl).now
end
theorem bbEnd (P : Ending → World → Prop) (K : Int) (txt : ByteArray) (A2 A3 : Option Addr) (n2 n3 c2 c3 : Nat) (ok : Bool) (W : World) (r : Nat) (tm : Array Value) (h2 : tm.getD 2 undef = .pointer (some ⟨r, 0, none⟩)) (h3 : tm.getD 3 undef = .bool ok) (hg : W.heap[r]? = some (.cells #[.int .i64 K, .string txt, .slice A2 n2 c2, .slice A3 n3 c3] 25 (0, 0))) (hb : P (.returned (.tuple #[.agg #[.int .i64 K, .string txt, .slice A2 n2 c2, .slice A3 n3 c3], .bool ok])) W) :
  bodyPost Tryz.prog Tryz.f7 P .ret ⟨tm, []⟩ W := by
 have n0 := blk_cell hg 0
 have n1 := blk_cell hg 1
 have n2' := blk_cell hg 2
 have n3' := blk_cell hg 3
 refine bodyPost_ret (v := .tuple #[.agg #[.int .i64 K, .string txt, .slice A2 n2 c2, .slice A3 n3 c3], .bool ok]) ?_ rfl hb
 simp only [results, Tryz.results7]
 have h2' := h2
 have h3' := h3
 simp only [Array.getD_eq_getD_getElem?] at h2' h3'
 simp [go_sem, h2, h2', h3, h3', n0, n1, n2', n3']
theorem set_back {X : World} {r i t : Nat} {f : Nat × Nat} {v : Value} {cs : Array Value} (h : (X.setCell ⟨r, i, none⟩ v).heap[r]? = some (.cells cs t f)) : ∃ cs', X.heap[r]? = some (.cells cs' t f) ∧ cs = cs'.setIfInBounds i v := by
 simp only [World.setCell, Array.getElem?_modify, if_true] at h
 cases hq : X.heap[r]? with
 | none => rw [hq] at h; simp at h
 | some o =>
  rw [hq] at h
  cases o <;> simp at h
  obtain ⟨h1, h2, h3⟩ := h
  subst h2 h3
  exact ⟨_, rfl, h1.symm⟩
theorem fin4 {X : World} {r : Nat} {a b c d : Value} (h : ∃ x y z u, ((((X.setCell ⟨r, 0, none⟩ a).setCell ⟨r, 1, none⟩ b).setCell ⟨r, 2, none⟩ c).setCell ⟨r, 3, none⟩ d).heap[r]? = some (.cells #[x, y, z, u] 25 (0, 0))) :
  ((((X.setCell ⟨r, 0, none⟩ a).setCell ⟨r, 1, none⟩ b).setCell ⟨r, 2, none⟩ c).setCell ⟨r, 3, none⟩ d).heap[r]? = some (.cells #[a, b, c, d] 25 (0, 0)) := by
 obtain ⟨x, y, z, u, h⟩ := h
 rw [h]
 obtain ⟨c1, h1, e1⟩ := set_back h
 obtain ⟨c2, h2, e2⟩ := set_back h1
 obtain ⟨c3, h3, e3⟩ := set_back h2
 obtain ⟨c4, h4, e4⟩ := set_back h3
 subst e2 e3 e4
 have hs : c4.size = 4 := by have := congrArg Array.size e1; simpa using this.symm
 have q : (#[x, y, z, u] : Array Value) = #[a, b, c, d] := by
  rw [e1]
  obtain ⟨l⟩ := c4
  match l, hs with
  | [p0, p1, p2, p3], _ => rfl
 rw [q]
def BaF (s : ByteArray) (w : World) (e : Ending) (w' : World) : Prop := ∃ (K : Int) (txt : ByteArray) (A2 A3 : Option Addr) (n2 n3 c2 c3 : Nat) (ok : Bool), e = .returned (.tuple #[.agg #[.int .i64 K, .string txt, .slice A2 n2 c2, .slice A3 n3 c3], .bool ok]) ∧ Below w.heap.size w w' ∧
 (ok = true → s.size ≤ 65536 ∧ PA s 0 ∧ ¬ isB (bt s 0) ∧ ¬ isB (bt s (s.size - 1)) ∧ ∃ t : S25, RdOk s t ∧ K = t.f0 ∧ txt = t.f1 ∧ n2 = t.f2.length ∧ n3 = t.f3.length ∧ NodeAt w.heap.size w' t A2 A3 c2 c3)
theorem BaF.no {s : ByteArray} {w w' : World} {e : Ending} (K : Int) (txt : ByteArray) (A2 A3 : Option Addr) (n2 n3 c2 c3 : Nat) (he : e = .returned (.tuple #[.agg #[.int .i64 K, .string txt, .slice A2 n2 c2, .slice A3 n3 c3], .bool false])) (hb : Below w.heap.size w w') : BaF s w e w' := ⟨K, txt, A2, A3, n2, n3, c2, c3, false, he, hb, fun h => by cases h⟩
section
variable {s : ByteArray} {w X : World} {g : Nat} {K : Int} {txt : ByteArray} {A2 A3 : Option Addr} {n2 n3 c2 c3 : Nat} {b : Bool} {t : S25} {tm : Array Value}
theorem bbNo (h : Bb w ((((X.setCell ⟨w.heap.size, 0, none⟩ (.int .i64 K)).setCell ⟨w.heap.size, 1, none⟩ (.string txt)).setCell ⟨w.heap.size, 2, none⟩ (.slice A2 n2 c2)).setCell ⟨w.heap.size, 3, none⟩ (.slice A3 n3 c3)) g w.heap.size K txt A2 A3 n2 n3 c2 c3 b t) (h2 : tm.getD 2 undef = .pointer (some ⟨w.heap.size, 0, none⟩)) (h3 : tm.getD 3 undef = .bool false) :
  bodyPost Tryz.prog Tryz.f7 (BaF s w) .ret ⟨tm, []⟩ ((((X.setCell ⟨w.heap.size, 0, none⟩ (.int .i64 K)).setCell ⟨w.heap.size, 1, none⟩ (.string txt)).setCell ⟨w.heap.size, 2, none⟩ (.slice A2 n2 c2)).setCell ⟨w.heap.size, 3, none⟩ (.slice A3 n3 c3)) :=
 bbEnd _ K txt A2 A3 n2 n3 c2 c3 false _ w.heap.size _ h2 h3 (fin4 h.hr) (BaF.no K txt A2 A3 n2 n3 c2 c3 rfl h.be)
theorem bbNoD (h : Bb w ((((X.setCell ⟨w.heap.size, 0, none⟩ (.int .i64 K)).setCell ⟨w.heap.size, 1, none⟩ (.string txt)).setCell ⟨w.heap.size, 2, none⟩ (.slice A2 n2 c2)).setCell ⟨w.heap.size, 3, none⟩ (.slice A3 n3 c3)).drew g w.heap.size K txt A2 A3 n2 n3 c2 c3 b t) (h2 : tm.getD 2 undef = .pointer (some ⟨w.heap.size, 0, none⟩)) (h3 : tm.getD 3 undef = .bool false) :
  bodyPost Tryz.prog Tryz.f7 (BaF s w) .ret ⟨tm, []⟩ ((((X.setCell ⟨w.heap.size, 0, none⟩ (.int .i64 K)).setCell ⟨w.heap.size, 1, none⟩ (.string txt)).setCell ⟨w.heap.size, 2, none⟩ (.slice A2 n2 c2)).setCell ⟨w.heap.size, 3, none⟩ (.slice A3 n3 c3)).drew :=
 bbEnd _ K txt A2 A3 n2 n3 c2 c3 false (World.drew _) w.heap.size _ h2 h3 (show ((((X.setCell ⟨w.heap.size, 0, none⟩ (.int .i64 K)).setCell ⟨w.heap.size, 1, none⟩ (.string txt)).setCell ⟨w.heap.size, 2, none⟩ (.slice A2 n2 c2)).setCell ⟨w.heap.size, 3, none⟩ (.slice A3 n3 c3)).heap[w.heap.size]? = _ from fin4 h.hr) (BaF.no K txt A2 A3 n2 n3 c2 c3 rfl h.be)
theorem bbYes (hX : s.size ≤ 65536 ∧ PA s 0 ∧ RdOk s t) (hB : ¬ isB (bt s 0)) (hB2 : ¬ isB (bt s (s.size - 1))) (h : Bb w ((((X.setCell ⟨w.heap.size, 0, none⟩ (.int .i64 t.f0)).setCell ⟨w.heap.size, 1, none⟩ (.string t.f1)).setCell ⟨w.heap.size, 2, none⟩ (.slice A2 t.f2.length c2)).setCell ⟨w.heap.size, 3, none⟩ (.slice A3 t.f3.length c3)) g w.heap.size t.f0 t.f1 A2 A3 t.f2.length t.f3.length c2 c3 true t) (h2 : tm.getD 2 undef = .pointer (some ⟨w.heap.size, 0, none⟩)) (h3 : tm.getD 3 undef = .bool true) :
  bodyPost Tryz.prog Tryz.f7 (BaF s w) .ret ⟨tm, []⟩ ((((X.setCell ⟨w.heap.size, 0, none⟩ (.int .i64 t.f0)).setCell ⟨w.heap.size, 1, none⟩ (.string t.f1)).setCell ⟨w.heap.size, 2, none⟩ (.slice A2 t.f2.length c2)).setCell ⟨w.heap.size, 3, none⟩ (.slice A3 t.f3.length c3)) :=
 bbEnd _ t.f0 t.f1 A2 A3 t.f2.length t.f3.length c2 c3 true _ w.heap.size _ h2 h3 (fin4 h.hr) ⟨t.f0, t.f1, A2, A3, t.f2.length, t.f3.length, c2, c3, true, rfl, h.be, fun _ => ⟨hX.1, hX.2.1, hB, hB2, t, hX.2.2, rfl, rfl, rfl, rfl, (h.hN rfl).low (by omega)⟩⟩
end
theorem Bb.new {w w1 : World} (h : Rb w w1) (K : Int) (txt : ByteArray) (A2 A3 : Option Addr) (n2 n3 c2 c3 : Nat) (b : Bool) (t : S25) (hN : b = true → NodeAt (w.heap.size + 1) w1 t A2 A3 c2 c3) : Bb w (w1.alloc (.cells #[.int .i64 K, .string txt, .slice A2 n2 c2, .slice A3 n3 c3] 25)) w1.heap.size w.heap.size K txt A2 A3 n2 n3 c2 c3 b t :=
 ⟨heap_alloc_new w1 _, ⟨_, _, _, _, (h.alloc _).hr⟩, by have := blk_lt h.hr; omega, rfl, (h.alloc _).be, fun q => (hN q).below (below_alloc (Below.refl _ _) _)⟩
set_option maxHeartbeats 4000000 in
set_option maxRecDepth 8192 in
theorem bare_calls (s : ByteArray) (hl : s.size < 140737488355328) (w : World) : Calls Tryz.prog 7 #[.string s] w (BaF s w) := by
 have HR := Aside0.mk (Rb.new w)
 have hb0 : ∀ h : 0 < s.size, ((s[0]'h).toNat : Int) = bt s 0 := bt_at s 0
 go_enter Tryz.func7, Tryz.ntmps7
 go_upto_region 2 with (go_at_call 23; refine (gjt_calls s hl _).mono ?_; rintro e' w1 ⟨K, txt, A2, A3, n2, n3, c2, c3, ok, rfl, hb, hG⟩; have HR1 := Aside0.mk (HR.out.below hb); have HG := Aside0.mk hG; clear hb hG)
 cases ok
 ·have G1 := Bb.new HR1.out K txt A2 A3 n2 n3 c2 c3 false ⟨0, ⟨#[]⟩, [], []⟩ (fun h => by cases h)
  have G2 := G1.drew
  generalize w1.alloc (.cells #[.int .i64 K, .string txt, .slice A2 n2 c2, .slice A3 n3 c3] 25) = W at *
  generalize w1.heap.size = g at *
  clear HR HR1 HG hb0
  obtain ⟨_, m0, m1, m2, m3, g0, k0, k1, k2, k3⟩ := G1.all
  have HG1 := Aside0.mk G1
  clear G1 G2
  go_region
  all_goals go_wp2_with fail
  all_goals exact bbNoD (HG1.out.store _ _ _ _).drew rfl rfl
 ·obtain ⟨hz2, hPA, t, hRd, rfl, rfl, rfl, rfl, hN⟩ := HG.out rfl
  have hs : 0 < s.size := by
   obtain ⟨q, _, _, _, hq, _⟩ := hRd
   obtain ⟨q0, q1, q2, _⟩ := hq.ok
   omega
  obtain ⟨ub, hu⟩ : ∃ b, UniC t b := by
   obtain ⟨q, _, _, _, _, _, _, _, _, _, hS⟩ := hRd
   exact uni_calls hS
  have HU := Aside0.mk hu
  have HX := Aside0.mk (And.intro hz2 (And.intro hPA hRd))
  have G1 := Bb.new HR1.out t.f0 t.f1 A2 A3 t.f2.length t.f3.length c2 c3 true t (fun _ => hN.low (by simp))
  have G2 := G1.drew
  clear hu hRd hN hPA
  generalize w1.alloc (.cells #[.int .i64 t.f0, .string t.f1, .slice A2 t.f2.length c2, .slice A3 t.f3.length c3] 25) = W at *
  generalize w1.heap.size = g at *
  clear HR HR1 HG
  obtain ⟨_, m0, m1, m2, m3, g0, k0, k1, k2, k3⟩ := G1.all
  cases ub
  ·clear hb0
   refine wp_region_held_drew (S := (fun w' => Bb w w' g w.heap.size t.f0 t.f1 A2 A3 t.f2.length t.f3.length c2 c3 true t ∧ w'.cell? ⟨g, 0, none⟩ = some (.int .i64 t.f0) ∧ w'.cell? ⟨g, 1, none⟩ = some (.string t.f1) ∧ w'.cell? ⟨g, 2, none⟩ = some (.slice A2 t.f2.length c2) ∧ w'.cell? ⟨g, 3, none⟩ = some (.slice A3 t.f3.length c3) ∧
      (∀ i, w'.frozen? ⟨w.heap.size, i, none⟩ = false) ∧ w'.cell? ⟨w.heap.size, 0, none⟩ = some (cellv w' w.heap.size 0) ∧ w'.cell? ⟨w.heap.size, 1, none⟩ = some (cellv w' w.heap.size 1) ∧ w'.cell? ⟨w.heap.size, 2, none⟩ = some (cellv w' w.heap.size 2) ∧ w'.cell? ⟨w.heap.size, 3, none⟩ = some (cellv w' w.heap.size 3))) (by kernel_rfl) ?_ (fun hHeld => ?_)
   ·exact Bb.all G2
   refine tkH (i := 0) (by simp only [gT, gS, gZ]; rfl) (by kernel_rfl) (by exact fun _ _ _ h => h) (.inl ⟨by rfl, fun w hSw => by (try dsimp only at hSw); go_simp <;> with_reducible rfl⟩) hHeld ?_
   (try simp only [aP, aN, sT, sZ, sS])
   refine tkH (i := 1) (by simp only [gT, gS, gZ]; rfl) (by kernel_rfl) (by exact fun _ _ _ h => h) (.inl ⟨by rfl, fun w hSw => by (try dsimp only at hSw); go_simp <;> with_reducible rfl⟩) hHeld ?_
   (try simp only [aP, aN, sT, sZ, sS])
   refine tkH (i := 2) (by simp only [gT, gS, gZ]; rfl) (by kernel_rfl) (by exact fun _ _ _ h => h) (.inl ⟨by rfl, fun w hSw => by (try dsimp only at hSw); go_simp <;> with_reducible rfl⟩) hHeld ?_
   (try simp only [aP, aN, sT, sZ, sS])
   refine tkH (i := 3) (by simp only [gT, gS, gZ]; rfl) (by kernel_rfl) (by exact fun _ _ _ h => h) (.inl ⟨by rfl, fun w hSw => by (try dsimp only at hSw); go_simp <;> with_reducible rfl⟩) hHeld ?_
   (try simp only [aP, aN, sT, sZ, sS])
   refine wpAnyH_ready (rs := [4]) (by kernel_rfl) (by simp) (AllReadyH.cons (o := ?_) ?_ (fun K hK => ?_) AllReadyH.nil)
   rotate_left 1
   ·(simp only [gT, gS, gZ]; rfl)
   go_simp
   (go_at_call 28; refine (HU.out A2 A3 c2 c3 _ ?_).mono ?_; exact Bb.inn hHeld.1; rintro e w5 ⟨rfl, hb⟩)
   refine hK.out _ _ ?_ (fun hHeld2 => ?_)
   ·exact Bb.all (Bb.below' hb hHeld.1)
   clear hK K hHeld
   have hHeld := hHeld2
   clear hHeld2
   (try simp only [aP, aN, sT, sZ, sS])
   refine tkH (i := 5) (by simp only [gT, gS, gZ]; rfl) (by kernel_rfl) (by exact fun _ _ _ h => h) (.inl ⟨by rfl, fun w hSw => by (try dsimp only at hSw); go_simp <;> with_reducible rfl⟩) hHeld ?_
   (try simp only [aP, aN, sT, sZ, sS])
   refine tkH (i := 6) (by simp only [gT, gS, gZ]; rfl) (by kernel_rfl) (by exact fun _ _ _ h => h) (.inl ⟨by rfl, fun w hSw => by (try dsimp only at hSw); go_simp <;> with_reducible rfl⟩) hHeld ?_
   (try simp only [aP, aN, sT, sZ, sS])
   refine wpAnyH_take (i := 7) (oi := ?_) (v := undef) ?_ (by kernel_rfl) (by kernel_rfl) (by kernel_rfl) ?_ ?_ hHeld ?_
   rotate_left 1
   ·(simp only [gT, gS, gZ]; rfl)
   ·exact fun _ _ _ h => h
   ·exact Or.inr ⟨by rfl, rfl⟩
   (try simp only [aP, aN, sT, sZ, sS])
   refine wpAnyH_take (i := 8) (oi := ?_) (v := undef) ?_ (by kernel_rfl) (by kernel_rfl) (by kernel_rfl) ?_ ?_ hHeld ?_
   rotate_left 1
   ·(simp only [gT, gS, gZ]; rfl)
   ·exact fun _ _ _ h => h
   ·exact Or.inr ⟨by rfl, rfl⟩
   (try simp only [aP, aN, sT, sZ, sS])
   refine wpAnyH_take (i := 9) (oi := ?_) (v := undef) ?_ (by kernel_rfl) (by kernel_rfl) (by kernel_rfl) ?_ ?_ hHeld ?_
   rotate_left 1
   ·(simp only [gT, gS, gZ]; rfl)
   ·exact fun _ _ _ h => h
   ·exact Or.inr ⟨by rfl, rfl⟩
   (try simp only [aP, aN, sT, sZ, sS])
   refine wpAnyH_take (i := 10) (oi := ?_) (v := undef) ?_ (by kernel_rfl) (by kernel_rfl) (by kernel_rfl) ?_ ?_ hHeld ?_
   rotate_left 1
   ·(simp only [gT, gS, gZ]; rfl)
   ·exact fun _ _ _ h => h
   ·exact Or.inr ⟨by rfl, rfl⟩
   (try simp only [aP, aN, sT, sZ, sS])
   refine tkH (i := 11) (by simp only [gT, gS, gZ]; rfl) (by kernel_rfl) (by exact fun _ _ _ h => h) (.inl ⟨by rfl, fun w hSw => by (try dsimp only at hSw); go_simp <;> with_reducible rfl⟩) hHeld ?_
   (try simp only [aP, aN, sT, sZ, sS])
   refine tkH (i := 12) (by simp only [gT, gS, gZ]; rfl) (by kernel_rfl) (by exact fun _ _ _ h => h) (.inl ⟨by rfl, fun w hSw => by (try dsimp only at hSw); go_simp <;> with_reducible rfl⟩) hHeld ?_
   (try simp only [aP, aN, sT, sZ, sS])
   refine wpAnyH_take (i := 13) (oi := ?_) (v := undef) ?_ (by kernel_rfl) (by kernel_rfl) (by kernel_rfl) ?_ ?_ hHeld ?_
   rotate_left 1
   ·(simp only [gT, gS, gZ]; rfl)
   ·exact fun _ _ _ h => h
   ·exact Or.inr ⟨by rfl, rfl⟩
   (try simp only [aP, aN, sT, sZ, sS])
   refine wpAnyH_take (i := 14) (oi := ?_) (v := undef) ?_ (by kernel_rfl) (by kernel_rfl) (by kernel_rfl) ?_ ?_ hHeld ?_
   rotate_left 1
   ·(simp only [gT, gS, gZ]; rfl)
   ·exact fun _ _ _ h => h
   ·exact Or.inr ⟨by rfl, rfl⟩
   (try simp only [aP, aN, sT, sZ, sS])
   refine wpAnyH_take (i := 15) (oi := ?_) (v := undef) ?_ (by kernel_rfl) (by kernel_rfl) (by kernel_rfl) ?_ ?_ hHeld ?_
   rotate_left 1
   ·(simp only [gT, gS, gZ]; rfl)
   ·exact fun _ _ _ h => h
   ·exact Or.inr ⟨by rfl, rfl⟩
   (try simp only [aP, aN, sT, sZ, sS])
   refine wpAnyH_take (i := 16) (oi := ?_) (v := undef) ?_ (by kernel_rfl) (by kernel_rfl) (by kernel_rfl) ?_ ?_ hHeld ?_
   rotate_left 1
   ·(simp only [gT, gS, gZ]; rfl)
   ·exact fun _ _ _ h => h
   ·exact Or.inr ⟨by rfl, rfl⟩
   (try simp only [aP, aN, sT, sZ, sS])
   refine wpAnyH_take (i := 17) (oi := ?_) (v := undef) ?_ (by kernel_rfl) (by kernel_rfl) (by kernel_rfl) ?_ ?_ hHeld ?_
   rotate_left 1
   ·(simp only [gT, gS, gZ]; rfl)
   ·exact fun _ _ _ h => h
   ·exact Or.inr ⟨by rfl, rfl⟩
   (try simp only [aP, aN, sT, sZ, sS])
   refine wpAnyH_take (i := 18) (oi := ?_) (v := undef) ?_ (by kernel_rfl) (by kernel_rfl) (by kernel_rfl) ?_ ?_ hHeld ?_
   rotate_left 1
   ·(simp only [gT, gS, gZ]; rfl)
   ·exact fun _ _ _ h => h
   ·exact Or.inr ⟨by rfl, rfl⟩
   (try simp only [aP, aN, sT, sZ, sS])
   refine wpAnyH_take (i := 19) (oi := ?_) (v := undef) ?_ (by kernel_rfl) (by kernel_rfl) (by kernel_rfl) ?_ ?_ hHeld ?_
   rotate_left 1
   ·(simp only [gT, gS, gZ]; rfl)
   ·exact fun _ _ _ h => h
   ·exact Or.inr ⟨by rfl, rfl⟩
   (try simp only [aP, aN, sT, sZ, sS])
   refine tkH (i := 20) (by simp only [gT, gS, gZ]; rfl) (by kernel_rfl) (by exact fun _ _ _ h => h) (.inl ⟨by rfl, fun w hSw => by (try dsimp only at hSw); go_simp <;> with_reducible rfl⟩) hHeld ?_
   (try simp only [aP, aN, sT, sZ, sS])
   refine wpAnyH_ready (rs := [21]) (by kernel_rfl) (by simp) (AllReadyH.cons (o := ?_) ?_ (fun K hK => ?_) AllReadyH.nil)
   rotate_left 1
   ·(simp only [gT, gS, gZ]; rfl)
   go_simp
   refine hK.out _ _ ?_ (fun hHeld2 => ?_)
   ·exact Bb.all (Bb.store hHeld.1 _ _ _ _)
   clear hK K hHeld
   have hHeld := hHeld2
   clear hHeld2
   (try simp only [aP, aN, sT, sZ, sS])
   refine tkH (i := 22) (by simp only [gT, gS, gZ]; rfl) (by kernel_rfl) (by exact fun _ _ _ h => h) (.inl ⟨by rfl, fun w hSw => by (try dsimp only at hSw); go_simp <;> with_reducible rfl⟩) hHeld ?_
   (try simp only [aP, aN, sT, sZ, sS])
   refine wpAnyH_done (by kernel_rfl) ?_ _
   go_split_ands
   go_wp2_with fail
   first | exact bbNo (by assumption) rfl rfl | exact bbNoD (by assumption) rfl rfl
  ·obtain ⟨z, hzz⟩ : ∃ z, bt s (s.size - 1) = z := ⟨_, rfl⟩
   have hbl : ∀ h : s.size - 1 < s.size, ((s[s.size - 1]'h).toNat : Int) = z := fun h => by
    rw [← hzz, ← show ((s.size - 1 : Nat) : Int) = s.size - 1 by omega]; exact bt_at s ((s.size - 1 : Nat) : Int) h
   have HZ := Aside0.mk hzz
   clear hzz
   by_cases b0 : isB (bt s 0)
   ·have y0 : decide (isB (bt s 0)) = true := decide_eq_true b0
    clear b0 hbl
    refine wp_region_held_drew (S := (fun w' => Bb w w' g w.heap.size t.f0 t.f1 A2 A3 t.f2.length t.f3.length c2 c3 true t ∧ w'.cell? ⟨g, 0, none⟩ = some (.int .i64 t.f0) ∧ w'.cell? ⟨g, 1, none⟩ = some (.string t.f1) ∧ w'.cell? ⟨g, 2, none⟩ = some (.slice A2 t.f2.length c2) ∧ w'.cell? ⟨g, 3, none⟩ = some (.slice A3 t.f3.length c3) ∧
       (∀ i, w'.frozen? ⟨w.heap.size, i, none⟩ = false) ∧ w'.cell? ⟨w.heap.size, 0, none⟩ = some (cellv w' w.heap.size 0) ∧ w'.cell? ⟨w.heap.size, 1, none⟩ = some (cellv w' w.heap.size 1) ∧ w'.cell? ⟨w.heap.size, 2, none⟩ = some (cellv w' w.heap.size 2) ∧ w'.cell? ⟨w.heap.size, 3, none⟩ = some (cellv w' w.heap.size 3))) (by kernel_rfl) ?_ (fun hHeld => ?_)
    ·exact Bb.all G2
    refine tkH (i := 0) (by simp only [gT, gS, gZ]; rfl) (by kernel_rfl) (by exact fun _ _ _ h => h) (.inl ⟨by rfl, fun w hSw => by (try dsimp only at hSw); go_simp <;> with_reducible rfl⟩) hHeld ?_
    (try simp only [aP, aN, sT, sZ, sS])
    refine tkH (i := 1) (by simp only [gT, gS, gZ]; rfl) (by kernel_rfl) (by exact fun _ _ _ h => h) (.inl ⟨by rfl, fun w hSw => by (try dsimp only at hSw); go_simp <;> with_reducible rfl⟩) hHeld ?_
    (try simp only [aP, aN, sT, sZ, sS])
    refine tkH (i := 2) (by simp only [gT, gS, gZ]; rfl) (by kernel_rfl) (by exact fun _ _ _ h => h) (.inl ⟨by rfl, fun w hSw => by (try dsimp only at hSw); go_simp <;> with_reducible rfl⟩) hHeld ?_
    (try simp only [aP, aN, sT, sZ, sS])
    refine tkH (i := 3) (by simp only [gT, gS, gZ]; rfl) (by kernel_rfl) (by exact fun _ _ _ h => h) (.inl ⟨by rfl, fun w hSw => by (try dsimp only at hSw); go_simp <;> with_reducible rfl⟩) hHeld ?_
    (try simp only [aP, aN, sT, sZ, sS])
    refine wpAnyH_ready (rs := [4]) (by kernel_rfl) (by simp) (AllReadyH.cons (o := ?_) ?_ (fun K hK => ?_) AllReadyH.nil)
    rotate_left 1
    ·(simp only [gT, gS, gZ]; rfl)
    go_simp
    (go_at_call 28; refine (HU.out A2 A3 c2 c3 _ ?_).mono ?_; exact Bb.inn hHeld.1; rintro e w5 ⟨rfl, hb⟩)
    refine hK.out _ _ ?_ (fun hHeld2 => ?_)
    ·exact Bb.all (Bb.below' hb hHeld.1)
    clear hK K hHeld
    have hHeld := hHeld2
    clear hHeld2
    (try simp only [aP, aN, sT, sZ, sS])
    refine tkH (i := 5) (by simp only [gT, gS, gZ]; rfl) (by kernel_rfl) (by exact fun _ _ _ h => h) (.inl ⟨by rfl, fun w hSw => by (try dsimp only at hSw); go_simp <;> with_reducible rfl⟩) hHeld ?_
    (try simp only [aP, aN, sT, sZ, sS])
    refine tkH (i := 6) (by simp only [gT, gS, gZ]; rfl) (by kernel_rfl) (by exact fun _ _ _ h => h) (.inl ⟨by rfl, fun w hSw => by (try dsimp only at hSw); go_simp <;> with_reducible rfl⟩) hHeld ?_
    (try simp only [aP, aN, sT, sZ, sS])
    refine tkH (i := 7) (by simp only [gT, gS, gZ]; rfl) (by kernel_rfl) (by exact fun _ _ _ h => h) (.inl ⟨by rfl, fun w hSw => by (try dsimp only at hSw); go_simp <;> with_reducible rfl⟩) hHeld ?_
    (try simp only [aP, aN, sT, sZ, sS])
    refine wpAnyH_ready (rs := [8]) (by kernel_rfl) (by simp) (AllReadyH.cons (o := ?_) ?_ (fun K hK => ?_) AllReadyH.nil)
    rotate_left 1
    ·(simp only [gT, gS, gZ]; rfl)
    go_simp
    refine hK.out _ _ ?_ (fun hHeld2 => ?_)
    ·exact hHeld
    clear hK K hHeld
    have hHeld := hHeld2
    clear hHeld2
    (try simp only [aP, aN, sT, sZ, sS])
    refine wpAnyH_ready (rs := [9]) (by kernel_rfl) (by simp) (AllReadyH.cons (o := ?_) ?_ (fun K hK => ?_) AllReadyH.nil)
    rotate_left 1
    ·(simp only [gT, gS, gZ]; rfl)
    go_simp
    (go_at_call 24; refine (spec_Blank.calls _ _ _ (blank_f _)).mono ?_; rintro e w6 ⟨rfl, hd⟩; have hb := Drawn0.below hd; clear hd)
    refine hK.out _ _ ?_ (fun hHeld2 => ?_)
    ·exact Bb.all (Bb.below' hb hHeld.1)
    clear hK K hHeld
    have hHeld := hHeld2
    clear hHeld2
    (try simp only [aP, aN, sT, sZ, sS])
    refine tkH (i := 10) (by simp only [gT, gS, gZ]; rfl) (by kernel_rfl) (by exact fun _ _ _ h => h) (.inl ⟨by rfl, fun w hSw => by (try dsimp only at hSw); go_simp <;> with_reducible rfl⟩) hHeld ?_
    (try simp only [aP, aN, sT, sZ, sS])
    refine tkH (i := 11) (by simp only [gT, gS, gZ]; rfl) (by kernel_rfl) (by exact fun _ _ _ h => h) (.inl ⟨by rfl, fun w hSw => by (try dsimp only at hSw); go_simp <;> with_reducible rfl⟩) hHeld ?_
    (try simp only [aP, aN, sT, sZ, sS])
    refine tkH (i := 12) (by simp only [gT, gS, gZ]; rfl) (by kernel_rfl) (by exact fun _ _ _ h => h) (.inl ⟨by rfl, fun w hSw => by (try dsimp only at hSw); go_simp <;> with_reducible rfl⟩) hHeld ?_
    (try simp only [aP, aN, sT, sZ, sS])
    refine wpAnyH_take (i := 13) (oi := ?_) (v := undef) ?_ (by kernel_rfl) (by kernel_rfl) (by kernel_rfl) ?_ ?_ hHeld ?_
    rotate_left 1
    ·(simp only [gT, gS, gZ]; rfl)
    ·exact fun _ _ _ h => h
    ·exact Or.inr ⟨by rfl, rfl⟩
    (try simp only [aP, aN, sT, sZ, sS])
    refine wpAnyH_take (i := 14) (oi := ?_) (v := undef) ?_ (by kernel_rfl) (by kernel_rfl) (by kernel_rfl) ?_ ?_ hHeld ?_
    rotate_left 1
    ·(simp only [gT, gS, gZ]; rfl)
    ·exact fun _ _ _ h => h
    ·exact Or.inr ⟨by rfl, rfl⟩
    (try simp only [aP, aN, sT, sZ, sS])
    refine wpAnyH_take (i := 15) (oi := ?_) (v := undef) ?_ (by kernel_rfl) (by kernel_rfl) (by kernel_rfl) ?_ ?_ hHeld ?_
    rotate_left 1
    ·(simp only [gT, gS, gZ]; rfl)
    ·exact fun _ _ _ h => h
    ·exact Or.inr ⟨by rfl, rfl⟩
    (try simp only [aP, aN, sT, sZ, sS])
    refine wpAnyH_take (i := 16) (oi := ?_) (v := undef) ?_ (by kernel_rfl) (by kernel_rfl) (by kernel_rfl) ?_ ?_ hHeld ?_
    rotate_left 1
    ·(simp only [gT, gS, gZ]; rfl)
    ·exact fun _ _ _ h => h
    ·exact Or.inr ⟨by rfl, rfl⟩
    (try simp only [aP, aN, sT, sZ, sS])
    refine wpAnyH_take (i := 17) (oi := ?_) (v := undef) ?_ (by kernel_rfl) (by kernel_rfl) (by kernel_rfl) ?_ ?_ hHeld ?_
    rotate_left 1
    ·(simp only [gT, gS, gZ]; rfl)
    ·exact fun _ _ _ h => h
    ·exact Or.inr ⟨by rfl, rfl⟩
    (try simp only [aP, aN, sT, sZ, sS])
    refine wpAnyH_take (i := 18) (oi := ?_) (v := undef) ?_ (by kernel_rfl) (by kernel_rfl) (by kernel_rfl) ?_ ?_ hHeld ?_
    rotate_left 1
    ·(simp only [gT, gS, gZ]; rfl)
    ·exact fun _ _ _ h => h
    ·exact Or.inr ⟨by rfl, rfl⟩
    (try simp only [aP, aN, sT, sZ, sS])
    refine wpAnyH_take (i := 19) (oi := ?_) (v := undef) ?_ (by kernel_rfl) (by kernel_rfl) (by kernel_rfl) ?_ ?_ hHeld ?_
    rotate_left 1
    ·(simp only [gT, gS, gZ]; rfl)
    ·exact fun _ _ _ h => h
    ·exact Or.inr ⟨by rfl, rfl⟩
    (try simp only [aP, aN, sT, sZ, sS])
    refine tkH (i := 20) (by simp only [gT, gS, gZ]; rfl) (by kernel_rfl) (by exact fun _ _ _ h => h) (.inl ⟨by rfl, fun w hSw => by (try dsimp only at hSw); go_simp <;> with_reducible rfl⟩) hHeld ?_
    (try simp only [aP, aN, sT, sZ, sS])
    refine wpAnyH_ready (rs := [21]) (by kernel_rfl) (by simp) (AllReadyH.cons (o := ?_) ?_ (fun K hK => ?_) AllReadyH.nil)
    rotate_left 1
    ·(simp only [gT, gS, gZ]; rfl)
    go_simp
    refine hK.out _ _ ?_ (fun hHeld2 => ?_)
    ·exact Bb.all (Bb.store hHeld.1 _ _ _ _)
    clear hK K hHeld
    have hHeld := hHeld2
    clear hHeld2
    (try simp only [aP, aN, sT, sZ, sS])
    refine tkH (i := 22) (by simp only [gT, gS, gZ]; rfl) (by kernel_rfl) (by exact fun _ _ _ h => h) (.inl ⟨by rfl, fun w hSw => by (try dsimp only at hSw); go_simp <;> with_reducible rfl⟩) hHeld ?_
    (try simp only [aP, aN, sT, sZ, sS])
    refine wpAnyH_done (by kernel_rfl) ?_ _
    go_split_ands
    go_wp2_with fail
    first | exact bbNo (by assumption) rfl rfl | exact bbNoD (by assumption) rfl rfl
   ·have y0 : decide (isB (bt s 0)) = false := decide_eq_false b0
    have hw1 : IntKind.i64.wrap ((s.size : Int) - 1) = (s.size : Int) - 1 := IntWalk.i64_in _ (by omega)
    have hw2 : (0 : Int) ≤ (s.size : Int) - 1 := by omega
    have hw3 : (s.size : Int) - 1 < s.size := by omega
    have hw4 : ((s.size : Int) - 1).toNat = s.size - 1 := by omega
    have hw5 : s.size - 1 < s.size := by omega
    by_cases b1 : isB z
    ·have y1 : decide (isB z) = true := decide_eq_true b1
     clear b0 b1
     first
     | go_region_held3 (fun w' => Bb w w' g w.heap.size t.f0 t.f1 A2 A3 t.f2.length t.f3.length c2 c3 true t ∧ w'.cell? ⟨g, 0, none⟩ = some (.int .i64 t.f0) ∧ w'.cell? ⟨g, 1, none⟩ = some (.string t.f1) ∧ w'.cell? ⟨g, 2, none⟩ = some (.slice A2 t.f2.length c2) ∧ w'.cell? ⟨g, 3, none⟩ = some (.slice A3 t.f3.length c3) ∧
   (∀ i, w'.frozen? ⟨w.heap.size, i, none⟩ = false) ∧ w'.cell? ⟨w.heap.size, 0, none⟩ = some (cellv w' w.heap.size 0) ∧ w'.cell? ⟨w.heap.size, 1, none⟩ = some (cellv w' w.heap.size 1) ∧ w'.cell? ⟨w.heap.size, 2, none⟩ = some (cellv w' w.heap.size 2) ∧ w'.cell? ⟨w.heap.size, 3, none⟩ = some (cellv w' w.heap.size 3))
   ((go_split_ands; first | exact Bb.all (by assumption) | exact Bb.all (Bb.below' (by assumption) (by assumption)) | exact Bb.all (Bb.store (by assumption) _ _ _ _)))
   (first
    | (go_at_call 28; refine (HU.out A2 A3 c2 c3 _ ?_).mono ?_; exact Bb.inn (by assumption); rintro e w5 ⟨rfl, hb⟩)
    | (go_at_call 24; refine (spec_Blank.calls _ _ _ (blank_f _)).mono ?_; rintro e w6 ⟨rfl, hd⟩; have hb := Drawn0.below hd; clear hd))
     | fail "not through"
     all_goals go_split_ands
     all_goals go_wp2_with fail
     all_goals first | exact bbNo (by assumption) rfl rfl | exact bbNoD (by assumption) rfl rfl
    ·have y1 : decide (isB z) = false := decide_eq_false b1
     have HB := Aside0.mk (And.intro b0 b1)
     clear b0 b1
     first
     | go_region_held3 (fun w' => Bb w w' g w.heap.size t.f0 t.f1 A2 A3 t.f2.length t.f3.length c2 c3 true t ∧ w'.cell? ⟨g, 0, none⟩ = some (.int .i64 t.f0) ∧ w'.cell? ⟨g, 1, none⟩ = some (.string t.f1) ∧ w'.cell? ⟨g, 2, none⟩ = some (.slice A2 t.f2.length c2) ∧ w'.cell? ⟨g, 3, none⟩ = some (.slice A3 t.f3.length c3) ∧
   (∀ i, w'.frozen? ⟨w.heap.size, i, none⟩ = false) ∧ w'.cell? ⟨w.heap.size, 0, none⟩ = some (cellv w' w.heap.size 0) ∧ w'.cell? ⟨w.heap.size, 1, none⟩ = some (cellv w' w.heap.size 1) ∧ w'.cell? ⟨w.heap.size, 2, none⟩ = some (cellv w' w.heap.size 2) ∧ w'.cell? ⟨w.heap.size, 3, none⟩ = some (cellv w' w.heap.size 3))
   ((go_split_ands; first | exact Bb.all (by assumption) | exact Bb.all (Bb.below' (by assumption) (by assumption)) | exact Bb.all (Bb.store (by assumption) _ _ _ _)))
   (first
    | (go_at_call 28; refine (HU.out A2 A3 c2 c3 _ ?_).mono ?_; exact Bb.inn (by assumption); rintro e w5 ⟨rfl, hb⟩)
    | (go_at_call 24; refine (spec_Blank.calls _ _ _ (blank_f _)).mono ?_; rintro e w6 ⟨rfl, hd⟩; have hb := Drawn0.below hd; clear hd))
     | fail "not through"
     all_goals go_split_ands
     all_goals go_wp2_with fail
     all_goals first | exact bbYes HX.out HB.out.1 (by rw [HZ.out]; exact HB.out.2) (by assumption) rfl rfl
structure Lw (w W : World) (g : Nat) (t : S25) (A2 A3 : Option Addr) (c2 c3 : Nat) : Prop where
 hg : W.heap[g]? = some (.cells #[.int .i64 t.f0, .string t.f1, .slice A2 t.f2.length c2, .slice A3 t.f3.length c3] 25 (0, 0))
 be : Below w.heap.size w W
 hN : NodeAt w.heap.size W t A2 A3 c2 c3
section
variable {w W W2 : World} {g : Nat} {t : S25} {A2 A3 : Option Addr} {c2 c3 : Nat}
theorem Lw.all (h : Lw w W g t A2 A3 c2 c3) : Lw w W g t A2 A3 c2 c3 ∧ W.cell? ⟨g, 0, none⟩ = some (.int .i64 t.f0) ∧ W.cell? ⟨g, 1, none⟩ = some (.string t.f1) ∧ W.cell? ⟨g, 2, none⟩ = some (.slice A2 t.f2.length c2) ∧ W.cell? ⟨g, 3, none⟩ = some (.slice A3 t.f3.length c3) :=
 ⟨h, blk_cell h.hg 0, blk_cell h.hg 1, blk_cell h.hg 2, blk_cell h.hg 3⟩
theorem Lw.below (hb : Below W.heap.size W W2) (h : Lw w W g t A2 A3 c2 c3) : Lw w W2 g t A2 A3 c2 c3 := ⟨(hb.block g (blk_lt h.hg)).trans h.hg, below_then h.be h.be.size hb, h.hN.below hb⟩
theorem Lw.new {w w1 : World} (hb : Below w.heap.size w w1) (hN : NodeAt w.heap.size w1 t A2 A3 c2 c3) : Lw w (w1.alloc (.cells #[.int .i64 t.f0, .string t.f1, .slice A2 t.f2.length c2, .slice A3 t.f3.length c3] 25)) w1.heap.size t A2 A3 c2 c3 :=
 ⟨heap_alloc_new w1 _, below_alloc hb _, hN.below (below_alloc (Below.refl _ _) _)⟩
end
def VLaw (w : World) (e : Ending) (w' : World) : Prop := e = .returned (.bool true) ∧ Below w.heap.size w w'
set_option maxHeartbeats 4000000
set_option maxRecDepth 8192
theorem list_reads (s : ByteArray) (hz : s.size ≤ 65536) (cs : List S78) (ts : List S25) (hT : TLs s cs ts) (hG : ∀ c ∈ cs, V.G s (.val c)) (O : List UInt8) (hO : O = 91 :: joinL (cs.map (raw s))) (hl : O.length ≤ 65536) (w : World) : Calls Tryz.prog 21 #[.string ⟨O.toArray⟩] w (RdG ⟨5, ⟨#[]⟩, [], ts⟩ true w) := by
 obtain ⟨C', hC, hT'⟩ := list_out s hz cs ts hT hG O hO hl
 have hoz : (⟨O.toArray⟩ : ByteArray).size = O.length := by simp [ByteArray.size]
 have htr := TrOf.list (by omega) hC hT'
 obtain ⟨K2, hE2⟩ := G.goes (by omega) hC (fun h => by dsimp only at h; omega)
 obtain ⟨j0, j1, j2, j3, j4⟩ := hC.ok
 dsimp only at j1
 have h91 : bt ⟨O.toArray⟩ 0 = 91 := by rw [bt_head O 91 _ hO]; rfl
 obtain ⟨p, ⟨K1, hE1⟩, p0, p1, p2, _⟩ := blanksf_ev ⟨O.toArray⟩ (by omega) 0 (by omega) (by omega)
 have ep : p = 0 := by
  by_cases c : 0 < p
  rotate_left
  ·omega
  have := p2 0 (by omega) c
  unfold isB at this
  omega
 obtain ⟨p3, ⟨K3, hE3⟩, r0, r1, _⟩ := blanksf_ev ⟨O.toArray⟩ (by omega) (O.length : Int) (by omega) (by omega)
 have ep3 : p3 = (⟨O.toArray⟩ : ByteArray).size := by omega
 have hE2' := hE2 K2 (Nat.le_refl _)
 dsimp only at hE2'
 have := read_gen ⟨O.toArray⟩ (by omega) 0 5 O.length p3 [] C' true K1 K2 K3 (by rw [ep] at hE1; exact hE1 K1 (Nat.le_refl _)) (by omega) (by omega) hE2' (by omega) (by omega) (hE3 K3 (Nat.le_refl _)) ⟨5, ⟨#[]⟩, [], ts⟩ (fun _ _ => htr) w
 rw [show (true && decide (p3 = ((⟨O.toArray⟩ : ByteArray).size : Int))) = true by simp [ep3]] at this
 exact this
theorem trees_of {s : ByteArray} (hz : s.size ≤ 65536) : ∀ cs : List S78, (∀ c ∈ cs, V.G s (.val c)) → ∃ ts, TLs s cs ts ∧ ∀ t ∈ ts, SB t
 | [], _ => ⟨[], trivial, fun t h => by cases h⟩
 | c :: cs, h => by
  obtain ⟨ts, h1, h2⟩ := trees_of hz cs (fun x hx => h x (List.mem_cons_of_mem _ hx))
  obtain ⟨T, R, us, _, _, k1, _, k2, _⟩ := (h c (List.mem_cons_self ..)).tr hz
  exact ⟨⟨c.f0, T, R, us⟩ :: ts, ⟨k1, h1⟩, List.forall_mem_cons.2 ⟨k2, h2⟩⟩
def kTx (names : List ByteArray) : ByteArray := ⟨(91 :: joinL names).toArray⟩
theorem kTx_of (s : ByteArray) (L : List (S115 × S78)) : (⟨(outL (namesOf s L) L.length ++ [93]).toArray⟩ : ByteArray) = kTx (namesOf s L) := by
 have h := outL_joinL (namesOf s L)
 rw [show (namesOf s L).length = L.length by simp [namesOf]] at h
 unfold kTx
 rw [h]
theorem names_read {s : ByteArray} (hz : s.size ≤ 65536) {L : List (S115 × S78)} (hF : Fl s 1 L) : ∃ ts, SB ⟨5, ⟨#[]⟩, [], ts⟩ ∧ ∀ w, Calls Tryz.prog 21 #[.string (kTx (namesOf s L))] w (RdG ⟨5, ⟨#[]⟩, [], ts⟩ true w) := by
 obtain ⟨cs, hcs⟩ : ∃ cs, cs = L.map (fun p => (⟨4, p.1.f0, p.1.f1, [], []⟩ : S78)) := ⟨_, rfl⟩
 have hG : ∀ c ∈ cs, V.G s (.val c) := by
  intro c hc
  rw [hcs] at hc
  obtain ⟨p, hp, rfl⟩ := List.mem_map.1 hc
  exact .str _ _ (fl_names hF p hp).1
 have hn : cs.map (raw s) = namesOf s L := by rw [hcs, List.map_map]; rfl
 obtain ⟨ts, hT, hS⟩ := trees_of hz cs hG
 have hb := names_bounds hz (by omega) hF
 have hlen : ts.length = (namesOf s L).length := by rw [hT.length, ← hn, List.length_map]
 refine ⟨ts, .mk _ (by simp) (by dsimp only; omega) hS, fun w => list_reads s hz cs ts hT hG _ (by rw [hn]) ?_ w⟩
 have hs := fl_lenN hF
 by_cases c : namesOf s L = []
 ·rw [c]; simp [joinL]
 have := joinL_len (namesOf s L) c
 simp only [List.length_cons]
 omega
theorem kids_of {s : ByteArray} (hz : s.size ≤ 65536) (l0 : Nat) : ∀ (C : List S78) (ts : List S25), TLs s C ts → (∀ c ∈ C, V.G s (.val c)) → (∀ t ∈ ts, t.f0 = 5 ∧ t.f3.length = l0) → ∀ c ∈ C, c.f0 = 5 ∧ c.f4.length = l0
 | [], _, _, _, _ => fun c h => by cases h
 | c :: C, [], h, _, _ => h.elim
 | c :: C, t :: ts, h, hG, hK => by
  have ih := kids_of hz l0 C ts h.2 (fun x hx => hG x (List.mem_cons_of_mem _ hx)) (fun x hx => hK x (List.mem_cons_of_mem _ hx))
  obtain ⟨T, R, us, _, k0, k1, _⟩ := (hG c (List.mem_cons_self ..)).tr hz
  have e := TrOf.one h.1 k1
  obtain ⟨q1, q2⟩ := hK t (List.mem_cons_self ..)
  rw [e] at q1 q2
  exact List.forall_mem_cons.2 ⟨⟨q1, by rw [← q2]; exact (TLs.length k0).symm⟩, ih⟩
theorem group_args {s : ByteArray} (hz : s.size ≤ 65536) {t : S25} (hR : RdOk s t) (h6 : t.f0 = 6) : t.f2.length ≤ 65536 ∧ t.f3.length ≤ 65536 ∧ t.f3.length ≤ t.f2.length ∧ ∀ i (h : i < t.f3.length), t.f3[i].f2.length ≤ 65536 ∧ t.f3[i].f3.length ≤ 65536 := by
 obtain ⟨q, T, R, ts, hG, _, _, rfl, ht, hT, hS⟩ := hR
 dsimp only at h6 ⊢
 obtain ⟨T', R', ts', n1, n2, k1, _⟩ := hG.tr hz
 have e := TrOf.one ht k1
 obtain ⟨h123, hlen, _⟩ := G.par hG h6
 simp only [S25.mk.injEq, true_and] at e
 obtain ⟨e1, e2, e3⟩ := e
 have l1 := n1.length
 have l2 := n2.length
 rw [← e2] at l1
 rw [← e3] at l2
 cases hS with
 | mk _ h2 h3 h4 =>
  dsimp only at h2 h3 h4
  refine ⟨h2, h3, by omega, fun i h => ?_⟩
  cases h4 _ (List.getElem_mem h) with
  | mk _ a b _ => exact ⟨a, b⟩
structure Gp (s : ByteArray) (L : List (S115 × S78)) (Rs : List ByteArray) (E : List S78) (l0 : Nat) : Prop where
 hF : Fl s 1 L
 hG : Gr s L
 hs : 0 < s.size
 h123 : bt s 0 = 123
 tx : strOfNums (datI (rowsN s L L.length) (rowsN s L L.length).length ++ [93]) = kTx Rs
 h91 : bt (kTx Rs) 0 = 91
 sz : 0 < (kTx Rs).size ∧ (kTx Rs).size ≤ 274877906944
 hE : Fla (kTx Rs) 1 E
 rw : rawsA (kTx Rs) E = Rs
 h6 : ∀ c ∈ E, c.f0 = 6
 len : Rs.length = l0
 l0 : l0 ≤ 65536
 ob : ∀ r ∈ Rs, ObjT r (namesOf s L) ∧ 0 < r.size ∧ r.size ≤ 65536
theorem group_text (s : ByteArray) (hz : s.size ≤ 65536) (hP : PA s 0) (hb0 : ¬ isB (bt s 0)) (hb1 : ¬ isB (bt s (s.size - 1))) (t : S25) (hR : RdOk s t) (h6 : t.f0 = 6) (hk : 0 < t.f3.length) (l0 : Nat) (hRe : Rect t l0 t.f3.length) : ∃ L Rs E, Gp s L Rs E l0 := by
 obtain ⟨q, T, R, ts, hG, hB1, hB2, rfl, ht, hT, hS⟩ := hR
 dsimp only at h6 hk hRe
 obtain ⟨k0, k1, k2, k3, k4⟩ := hG.ok
 have e1 : q.f1 = 0 := by
  by_cases c : 0 < q.f1
  ·exact absurd (hB1.2 0 (by omega) c) hb0
  ·omega
 have e2 : q.f2 = s.size := by
  by_cases c : q.f2 < s.size
  ·exact absurd (hB2.2 (s.size - 1) (by omega) (by omega)) hb1
  ·omega
 obtain ⟨h123, hlen, hall⟩ := G.par hG h6
 have hF : Fl s 1 (q.f3.zip q.f4) := G.fl hz hG h6 e1 e2 hP
 rw [e1] at h123
 have hkk := kids_of hz l0 q.f4 ts hT hall (fun t ht => by
  obtain ⟨j, hj, e⟩ := List.getElem_of_mem ht
  have := hRe j hj hj
  dsimp only at this
  rw [e] at this
  exact this)
 have hl4 : 0 < q.f4.length := by have := hT.length; omega
 obtain ⟨hGr, hm, hL, hEf, hVal⟩ := gr_of s hz q hG h6 e1 e2 hP l0 hkk hl4
 obtain ⟨hrl, hOb⟩ := rows_obj hz hF hL l0 hEf hVal (fun r hr => (hGr.row r hr).1)
 obtain ⟨rows, hrows⟩ : ∃ rows, rows = rowsN s (q.f3.zip q.f4) (q.f3.zip q.f4).length := ⟨_, rfl⟩
 have hown : ∀ p ∈ q.f3.zip q.f4, ∀ r ∈ rawsA (raw s p.2) (Ef p.2), r.size + 2 ≤ (raw s p.2).size := fun p hp r hr =>
  ((own_array hz (hall p.2 (List.of_mem_zip hp).2) (hkk p.2 (List.of_mem_zip hp).2).1 (G.pas hz hG (by rw [e1]; exact hP) p.2 (List.of_mem_zip hp).2)).2.2.2.2 r hr).1
 have hr1 : ∀ r ∈ rows, 1 ≤ r.length ∧ (r.length : Int) + 1 ≤ s.size := by
  rw [hrows]; exact rows_row1 hF hL l0 hEf hown _ (Nat.le_refl _) hL
 have hds := dat_text rows
 have hdl := datI_len rows (fun r hr => by have := (hr1 r hr).2; omega) rows.length
 rw [← hrows] at hrl hOb
 have hsz : (kTx (rows.map ob)).size = (datI rows rows.length).length + 1 := by
  show (kTx (rows.map ob)).size = _
  unfold kTx
  rw [← hds]
  unfold strOfNums
  simp [ByteArray.size]
 have hsz2 : (kTx (rows.map ob)).size = (91 :: joinL (rows.map ob)).length := by unfold kTx; simp [ByteArray.size]
 obtain ⟨h91, E, hE1, hE2, hE3⟩ := list_fla (namesOf s (q.f3.zip q.f4)) (rows.map ob) hOb _ rfl (by rw [← hsz2]; omega)
 refine ⟨q.f3.zip q.f4, rows.map ob, E, hF, hGr, by omega, h123, by rw [← hrows]; exact hds, h91, ⟨by rw [hsz2]; simp, by omega⟩, hE1, hE2, hE3, by rw [List.length_map]; exact hrl, hm, fun r hr => ⟨hOb r hr, ?_⟩⟩
 obtain ⟨r0, h0, rfl⟩ := List.mem_map.1 hr
 have := hr1 r0 h0
 have e : (ob r0).size = r0.length - 1 + 2 := by simp [ob, ByteArray.size]
 omega
theorem keys_of {r : ByteArray} {names : List ByteArray} (h : ObjT r names) (h0 : 0 < r.size) (hz : r.size ≤ 65536) (w : World) (hT : Tabs w) (hV : VT w) : Calls Tryz.prog 22 #[.string r] w fun e w' => e = .returned (.string (kTx names)) ∧ Below w.heap.size w w' := by
 obtain ⟨N, C, _, hF, hn, hb⟩ := h
 have := gjkeys_calls r hz h0 hb _ hF w hT hV
 rw [kTx_of, hn] at this
 exact this
theorem c_zero (w : World) (A : Option Addr) : Kd.C Kd.string w A 0 [] := ⟨rfl, by omega, fun h => absurd h (by omega)⟩
theorem reads_calls2 (O : ByteArray) (ks : List S25) (hO : ∀ w, Calls Tryz.prog 21 #[.string O] w (RdG ⟨5, ⟨#[]⟩, [], ks⟩ true w)) (hS : SB ⟨5, ⟨#[]⟩, [], ks⟩) (A4 : Option Addr) (c4 : Nat) (A3 : Option Addr) (c3 : Nat) (w : World) (hC : Kd.C k25 w A3 ks.length ks) (hc : ks.length ≤ c3) :
  Calls Tryz.prog 8 #[.string O, .agg #[.int .i64 5, .string ⟨#[]⟩, .slice A4 0 c4, .slice A3 ks.length c3]] w fun e w' => e = .returned (.bool true) ∧ Below w.heap.size w w' := by
 have HS := Aside0.mk hS
 have HO := Aside0.mk hO
 have HC := Aside0.mk (And.intro hC hc)
 have HB0 := Aside0.mk (heap_alloc_new w (.cells #[.int .i64 5, .string ⟨#[]⟩, .slice A4 0 c4, .slice A3 ks.length c3] 25))
 clear hS hO hC hc
 go_enter Tryz.func8, Tryz.ntmps8
 go_upto_region 2 with (go_at_call 21; refine (HO.out _).mono ?_; rintro e w1 ⟨K, txt, A2', A3', n2, n3, c2', c3', ok, rfl, hb, rfl, hF⟩; have hF' := hF rfl; dsimp only at hF'; obtain ⟨rfl, rfl, rfl, rfl, hN⟩ := hF'; have HN := Aside0.mk (And.intro hN.now (And.intro ((hb.block _ (blk_lt HB0.out)).trans HB0.out) (below_then (below_alloc (Below.refl _ _) _) (by simp) hb))); clear hb hN hF)
 have hx : ∀ o, (w1.alloc o).heap[w.heap.size]? = some (.cells #[.int .i64 5, .string ⟨#[]⟩, .slice A4 0 c4, .slice A3 ks.length c3] 25 (0, 0)) := fun o => (Below.heap_alloc w1 o _ (blk_lt HN.out.2.1)).trans HN.out.2.1
 have x0 := fun o => blk_cell (hx o) 0
 have x1 := fun o => blk_cell (hx o) 1
 have x2 := fun o => blk_cell (hx o) 2
 have x3 := fun o => blk_cell (hx o) 3
 clear hx
 go_wp2_with (go_at_call 29; refine (same_calls HS.out A2' A3' A4 A3 c2' c3' c4 c3 _ ?_ ?_).mono ?_; exact HN.out.1.below (below_alloc (Below.refl _ _) _); exact ⟨c_zero _ _, Nat.zero_le _, Kd.C_below HC.out.1 (below_alloc HN.out.2.2 _), HC.out.2⟩; rintro e w3 ⟨rfl, hb⟩; have H3 := Aside0.mk (below_then (below_alloc HN.out.2.2 _) (by have := HN.out.2.2.size; simp; omega) hb); clear hb)
 go_ret
 exact ⟨rfl, H3.out⟩
set_option maxHeartbeats 4000000
set_option maxRecDepth 8192
theorem fld31_2 (a b c d e f g : Value) (w : World) : (Instr.field 31 (.agg #[a, b, c, d, e, f, g]) 2).run Tryz.prog w = .ok f w := by kernel_rfl
structure Lk (w W : World) (g : Nat) (ts : List S25) (A2 A3 : Option Addr) (c2 c3 : Nat) (A : Option Addr) (Rs : List ByteArray) : Prop where
 be : Below w.heap.size w W
 hg : W.heap[g]? = some (.cells #[.int .i64 5, .string ⟨#[]⟩, .slice A2 0 c2, .slice A3 ts.length c3] 25 (0, 0))
 hc : Kd.C k25 W A3 ts.length ts
 it : ∀ k, k < Rs.length → ∃ ad : Addr, A = some ad ∧ W.cell? (ad.add (k * 10 + 6)) = some (.string (Rs.getD k ⟨#[]⟩))
theorem Lk.below {w W W2 : World} {g : Nat} {ts : List S25} {A2 A3 : Option Addr} {c2 c3 : Nat} {A : Option Addr} {Rs : List ByteArray} (hb : Below W.heap.size W W2) (h : Lk w W g ts A2 A3 c2 c3 A Rs) : Lk w W2 g ts A2 A3 c2 c3 A Rs :=
 ⟨below_then h.be h.be.size hb, (hb.block g (blk_lt h.hg)).trans h.hg, Kd.C_below h.hc hb, fun k hk => by
  obtain ⟨ad, e, hc⟩ := h.it k hk
  exact ⟨ad, e, pw_cell_below hb hc⟩⟩
def Le (w W : World) (g : Nat) (ts : List S25) (A2 A3 : Option Addr) (c2 c3 : Nat) (ad : Addr) (Rs : List ByteArray) (k : Nat) (r : ByteArray) : Prop := Lk w W g ts A2 A3 c2 c3 (some ad) Rs ∧ W.cell? (ad.add (k * 10 + 6)) = some (.string r)
section
variable {w W W2 : World} {g : Nat} {ts : List S25} {A2 A3 : Option Addr} {c2 c3 : Nat} {ad : Addr} {Rs : List ByteArray} {k : Nat} {r : ByteArray}
theorem Le.below (hb : Below W.heap.size W W2) (h : Le w W g ts A2 A3 c2 c3 ad Rs k r) : Le w W2 g ts A2 A3 c2 c3 ad Rs k r := ⟨h.1.below hb, pw_cell_below hb h.2⟩
theorem Le.all (h : Le w W g ts A2 A3 c2 c3 ad Rs k r) : Le w W g ts A2 A3 c2 c3 ad Rs k r ∧ W.cell? ⟨g, 0, none⟩ = some (.int .i64 5) ∧ W.cell? ⟨g, 1, none⟩ = some (.string ⟨#[]⟩) ∧ W.cell? ⟨g, 2, none⟩ = some (.slice A2 0 c2) ∧ W.cell? ⟨g, 3, none⟩ = some (.slice A3 ts.length c3) ∧ W.cell? ⟨(ad.add (k * 10)).block, (ad.add (k * 10)).off + 5 + 1, none⟩ = some (.string r) :=
 ⟨h, blk_cell h.1.hg 0, blk_cell h.1.hg 1, blk_cell h.1.hg 2, blk_cell h.1.hg 3, by
  rw [Nat.add_assoc, add_next ad _ 6 (by decide)]; exact h.2⟩
theorem Le.bel (h : Le w W g ts A2 A3 c2 c3 ad Rs k r) : Below w.heap.size w W := h.1.be
theorem Le.lk (h : Le w W g ts A2 A3 c2 c3 ad Rs k r) : Lk w W g ts A2 A3 c2 c3 (some ad) Rs := h.1
theorem Le.kc (h : Le w W g ts A2 A3 c2 c3 ad Rs k r) : Kd.C k25 W A3 ts.length ts := h.1.hc
end
theorem items_at {raws : List ByteArray} {w' : World} {B n c : Nat} {A : Option Addr} {rows : List (List Value)} (h : Kd.R (Kd.raw 10) 50 w' B (fun _ => True) (.slice A n c) rows) (hl : rows.length = raws.length) (hr : ∀ k, k < raws.length → ∃ c, rows[k]? = some c ∧ c[6]? = some (.string (raws.getD k ⟨#[]⟩))) :
  ∀ k, k < raws.length → ∃ ad : Addr, A = some ad ∧ w'.cell? (ad.add (k * 10 + 6)) = some (.string (raws.getD k ⟨#[]⟩)) := by
 intro k hk
 obtain ⟨e1, _, hC⟩ := Kd.R_reads' h
 obtain ⟨ad, cs, hA, _, hK, hc⟩ := Kd.C_get hC [] (k : Int) (by omega) (by omega)
 obtain ⟨cr, h1, h2⟩ := hr k hk
 rw [Int.toNat_natCast, List.getD_eq_getElem?_getD, h1] at hK
 rw [Int.toNat_natCast] at hc
 have e : cs = cr := by first | exact hK.1.symm | exact hK.1 | exact hK | exact hK.symm | simpa [Kd.raw] using hK
 subst e
 exact ⟨ad, hA, hc 6 _ h2⟩
theorem items_keep {raws : List ByteArray} {W W2 : World} {A : Option Addr} (h : ∀ k, k < raws.length → ∃ ad : Addr, A = some ad ∧ W.cell? (ad.add (k * 10 + 6)) = some (.string (raws.getD k ⟨#[]⟩))) (hb : Below W.heap.size W W2) : ∀ k, k < raws.length → ∃ ad : Addr, A = some ad ∧ W2.cell? (ad.add (k * 10 + 6)) = some (.string (raws.getD k ⟨#[]⟩)) := fun k hk => by
 obtain ⟨ad, e, hc⟩ := h k hk
 exact ⟨ad, e, pw_cell_below hb hc⟩
theorem klaw_long (s : ByteArray) (hz : 2147483647 < s.size) (w : World) : Calls Tryz.prog 5 #[.string s] w (VLaw w) := by
 have x1 : decide (2147483647 < (s.size : Int)) = true := decide_eq_true (by omega)
 clear hz
 go_enter Tryz.func5, Tryz.ntmps5
 go_wp2_with fail
 go_ret
 exact ⟨rfl, Below.refl _ _⟩
theorem klaw_short (s : ByteArray) (hz : s.size ≤ 2147483647) (w : World) (T : Tabs w) (hV : VT w) : Calls Tryz.prog 5 #[.string s] w (VLaw w) := by
 have x1 : decide (2147483647 < (s.size : Int)) = false := decide_eq_false (by omega)
 have HT := Aside0.mk (And.intro T hV)
 clear T hV
 go_enter Tryz.func5, Tryz.ntmps5
 go_upto_region 4 with (go_at_call 7; refine (bare_calls s (by omega) _).mono ?_; rintro e' w1 ⟨K, txt, A2, A3, n2, n3, c2, c3, ok, rfl, hb, hG⟩; have HB := Aside0.mk hb; have HG := Aside0.mk hG; clear hb hG)
 cases ok
 ·go_wp2_with fail
  go_ret
  exact ⟨rfl, below_alloc HB.out _⟩
 obtain ⟨hz2, hPA, hb0, hb1, t, hRd, rfl, rfl, rfl, rfl, hN⟩ := HG.out rfl
 have L1 := Aside0.mk (Lw.new HB.out hN)
 obtain ⟨_, m0, m1, m2, m3⟩ := L1.out.all
 by_cases h6 : t.f0 = 6
 rotate_left
 ·have x6 : (t.f0 != 6) = true := bne_iff_ne.mpr h6
  go_wp2_with fail
  go_ret
  exact ⟨rfl, L1.out.be⟩
 by_cases hk0 : t.f3.length = 0
 ·have x6 : (t.f0 != 6) = false := bne_eq_false_iff_eq.mpr h6
  have x7 : ((t.f3.length : Int) == 0) = true := beq_iff_eq.mpr (by omega)
  clear h6 hk0
  go_wp2_with fail
  go_ret
  exact ⟨rfl, L1.out.be⟩
 have x6 : (t.f0 != 6) = false := bne_eq_false_iff_eq.mpr h6
 have x7 : ((t.f3.length : Int) == 0) = false := beq_eq_false_iff_ne.mpr (by omega)
 obtain ⟨g1, g2, g3, g4⟩ := group_args hz2 hRd h6
 obtain ⟨l0, hl0⟩ : ∃ l0, ∀ h : 0 < t.f3.length, t.f3[0].f3.length = l0 := ⟨t.f3[0].f3.length, fun _ => rfl⟩
 have HGA := Aside0.mk (fun W hA => group_calls t g1 g2 g3 g4 l0 hl0 A2 A3 c2 c3 W hA)
 have hk1 : 0 < t.f3.length := by omega
 have HTx := Aside0.mk (fun hRe => group_text s hz2 hPA hb0 hb1 t hRd h6 hk1 l0 hRe)
 have HZ := Aside0.mk (And.intro hz2 (And.intro g2 (And.intro hk1 hl0)))
 clear h6 hk0 g1 g2 g3 g4 hk1 hl0 hRd hN hb0 hb1 hPA HB HG
 generalize w1.alloc (.cells #[.int .i64 t.f0, .string t.f1, .slice A2 t.f2.length c2, .slice A3 t.f3.length c3] 25) = W at *
 generalize w1.heap.size = g at *
 have hfl := fld31_2
 go_upto_region 6 with (go_at_call 18; refine (HGA.out _ L1.out.hN.now).mono ?_; rintro e w5 ⟨⟨K, txt, B2, B3, n2, n3, d2, d3, b4, b5, b6, rfl, hRe⟩, hb⟩; simp only [an7]; have L5 := Aside0.mk (L1.out.below hb); have HRE := Aside0.mk hRe; clear hb hRe m0 m1 m2 m3; cases b5)
 rotate_left
 ·go_ret
  exact ⟨rfl, L5.out.be⟩
 obtain ⟨L, Rs, E, hGp⟩ := HTx.out (HRE.out rfl)
 obtain ⟨ts, hSB, hRd2⟩ := names_read HZ.out.1 hGp.hF
 have hEl : E.length = Rs.length := by have := congrArg List.length hGp.rw; simpa [rawsA] using this
 have hRl : Rs.length ≤ 65536 := by have := hGp.len; have := hGp.l0; omega
 have H20 := Aside0.mk (show ∀ W, Below w.heap.size w W → Calls Tryz.prog 20 #[.string s] W fun e w' => e = .returned (.string (kTx Rs)) ∧ Below W.heap.size W w' from fun W hb => by
  have := gjgroup_calls s HZ.out.1 hGp.hs hGp.h123 L hGp.hF hGp.hG W (HT.out.1.below hb) (HT.out.2.below hb)
  rw [hGp.tx] at this
  exact this)
 have H19 := Aside0.mk (show ∀ W, Below w.heap.size w W → Calls Tryz.prog 19 #[.string (kTx Rs)] W (ItP Rs W) from fun W hb => by
  have := gjitems_calls (kTx Rs) hGp.sz.2 hGp.sz.1 hGp.h91 E hGp.hE (by omega) hGp.h6 W (HT.out.1.below hb) (HT.out.2.below hb)
  rw [hGp.rw] at this
  exact this)
 have H22 := Aside0.mk (show ∀ W, Below w.heap.size w W → Calls Tryz.prog 22 #[.string s] W fun e w' => e = .returned (.string (kTx (namesOf s L))) ∧ Below W.heap.size W w' from fun W hb => by
  have := gjkeys_calls s HZ.out.1 hGp.hs hGp.h123 L hGp.hF W (HT.out.1.below hb) (HT.out.2.below hb)
  rw [kTx_of] at this
  exact this)
 have H21 := Aside0.mk (And.intro hRd2 hSB)
 have HOb := Aside0.mk (show ∀ r ∈ Rs, ∀ W, Below w.heap.size w W → Calls Tryz.prog 22 #[.string r] W fun e w' => e = .returned (.string (kTx (namesOf s L))) ∧ Below W.heap.size W w' from fun r hr W hb =>
  keys_of (hGp.ob r hr).1 (hGp.ob r hr).2.1 (hGp.ob r hr).2.2 W (HT.out.1.below hb) (HT.out.2.below hb))
 obtain ⟨ad, P2, P3, p2, p3, hA, na, ca, cb, cc, cd⟩ := node_at L5.out.hN.now.2.2.1 0 HZ.out.2.2.1
 rw [HZ.out.2.2.2 HZ.out.2.2.1, ← hGp.len] at cd
 have h4z : t.f3.length ≤ 65536 := HZ.out.2.1
 have hp1 : (0 : Int) < (t.f3.length : Int) := by have := HZ.out.2.2.1; omega
 have HRl := Aside0.mk (And.intro hRl h4z)
 subst hA
 rw [← add_next ad _ 3 (by decide)] at cd
 simp only [Nat.zero_mul, Addr.add_zero'] at cd
 have HCD := Aside0.mk cd
 clear na ca cb cc cd hGp hRd2 hSB hEl HTx HGA HRE L1
 go_upto_region 8 with (first
  | (go_at_call 20; refine (H20.out _ L5.out.be).mono ?_; rintro e w6 ⟨rfl, hb⟩; have L6 := Aside0.mk (L5.out.below hb); have HCD := Aside0.mk (pw_cell_below hb HCD.out); clear hb)
  | (go_at_call 19; refine (H19.out _ L6.out.be).mono ?_; rintro e w7 ⟨A, n, c, rows, rfl, hb, hR, hl, rfl, hr⟩; have L7 := Aside0.mk (L6.out.below hb); have HCD := Aside0.mk (pw_cell_below hb HCD.out); have HI7 := Aside0.mk (items_at hR hl hr); clear hb hR hl hr)
  | (go_at_call 22; refine (H22.out _ L7.out.be).mono ?_; rintro e w8 ⟨rfl, hb⟩; have L8 := Aside0.mk (L7.out.below hb); have HCD := Aside0.mk (pw_cell_below hb HCD.out); have HI8 := Aside0.mk (items_keep HI7.out hb); clear hb)
  | (go_at_call 21; refine (H21.out.1 _).mono ?_; rintro e w9 ⟨K', txt', B2', B3', m2, m3, d2', d3', ok, rfl, hb, rfl, hF⟩; have hF' := hF rfl; dsimp only at hF'; obtain ⟨rfl, rfl, rfl, rfl, hN⟩ := hF'; have L9 := Aside0.mk (L8.out.below hb); have HCD := Aside0.mk (pw_cell_below hb HCD.out); have HI9 := Aside0.mk (items_keep HI8.out hb); have HN9 := Aside0.mk hN.now; clear hb hN hF))
 have hal := below_alloc (Below.refl w9.heap.size w9) (.cells #[.int .i64 5, .string ⟨#[]⟩, .slice B2' 0 d2', .slice B3' ts.length d3'] 25)
 have L10 := Aside0.mk (L9.out.below hal)
 have HK := Aside0.mk (show Lk w _ w9.heap.size ts B2' B3' d2' d3' A Rs from ⟨L10.out.be, heap_alloc_new w9 _, (HN9.out.below hal).2.2.1, items_keep HI9.out hal⟩)
 have hls : ts.length ≤ d3' := HN9.out.2.2.2
 have cd := pw_cell_below hal HCD.out
 have HLS := Aside0.mk hls
 obtain ⟨_, m0, m1, m2, m3⟩ := L10.out.all
 clear hal L5 L6 L7 L8 L9 HI7 HI8 HI9 HN9 HCD hls
 generalize w9.alloc (.cells #[.int .i64 5, .string ⟨#[]⟩, .slice B2' 0 d2', .slice B3' ts.length d3'] 25) = W10 at *
 generalize w9.heap.size = g2 at *
 have hne : ((Rs.length : Int) != (Rs.length : Int)) = false := bne_eq_false_iff_eq.mpr rfl
 go_wp2_with fail
 clear m0 m1 m2 m3 cd L10
 go_loopg [59] Rs.length (fun kq v59 w' => ∃ k : Nat, v59 = .int .i64 (k : Int) ∧ kq + k = Rs.length ∧ Aside0 (Lk w w' g2 ts B2' B3' d2' d3' A Rs))
 case atStart => exact ⟨0, rfl, rfl, HK⟩
 obtain ⟨k, rfl, hkk, HK1⟩ := hrel
 have hrl := HRl.out.1
 by_cases hk : k < Rs.length
 rotate_left
 ·have hk1 : ¬ (k : Int) < (Rs.length : Int) := by omega
  go_wp2_with fail
  go_ret
  exact ⟨rfl, HK1.out.be⟩
 have hk1 : (k : Int) < (Rs.length : Int) := by omega
 have hk0 : (0 : Int) ≤ (k : Int) := by omega
 obtain ⟨q, rfl⟩ : ∃ q, gk = q + 1 := ⟨gk - 1, by omega⟩
 have hq : q + (k + 1) = Rs.length := by omega
 obtain ⟨ae, hA, hc⟩ := HK1.out.it k hk
 subst hA
 obtain ⟨r, hr⟩ : ∃ r, r = Rs.getD k ⟨#[]⟩ := ⟨_, rfl⟩
 have hrm : r ∈ Rs := by
  rw [hr, List.getD_eq_getElem?_getD, List.getElem?_eq_getElem hk]
  exact List.getElem_mem hk
 have HR := Aside0.mk (HOb.out r hrm)
 rw [← hr] at hc
 have K1 : Le w _ g2 ts B2' B3' d2' d3' ae Rs k r := ⟨HK1.out, hc⟩
 have K2 := K1.below (below_drew (Below.refl _ _))
 obtain ⟨_, m0, m1, m2, m3, m4⟩ := K2.all
 clear hr hrm hc HK1
 go_upto_region 13 with fail
 go_region_held3 (fun w' => Le w w' g2 ts B2' B3' d2' d3' ae Rs k r ∧ w'.cell? ⟨g2, 0, none⟩ = some (.int .i64 5) ∧ w'.cell? ⟨g2, 1, none⟩ = some (.string ⟨#[]⟩) ∧ w'.cell? ⟨g2, 2, none⟩ = some (.slice B2' 0 d2') ∧ w'.cell? ⟨g2, 3, none⟩ = some (.slice B3' ts.length d3') ∧ w'.cell? ⟨(ae.add (k * 10)).block, (ae.add (k * 10)).off + 5 + 1, none⟩ = some (.string r))
  ((go_split_ands; first | exact Le.all (by assumption) | exact Le.all (Le.below (by assumption) (by assumption))))
  (first
   | (go_at_call 22; go_split_ands; refine (HR.out _ ?_).mono ?_; exact Le.bel (by assumption); rintro e w11 ⟨rfl, hb⟩)
   | (go_at_call 8; go_split_ands; refine (reads_calls2 _ ts H21.out.1 H21.out.2 B2' d2' B3' d3' _ ?_ ?_).mono ?_; exact Le.kc (by assumption); exact HLS.out; rintro e w12 ⟨rfl, hb⟩))
 go_split_ands
 go_wp2_with fail
 go_roundg q
 case measure => omega
 case rel => exact ⟨k + 1, congrArg (Value.int .i64) (by omega), hq, ⟨Le.lk (by assumption)⟩⟩
theorem klaw_calls (s : ByteArray) (w : World) (T : Tabs w) (hV : VT w) : Calls Tryz.prog 5 #[.string s] w (VLaw w) := by
 by_cases h : s.size ≤ 2147483647
 ·exact klaw_short s h w T hV
 ·exact klaw_long s (by omega) w
end Go.Proofs.YtgiioglmkogpkaaGreatDoor.F
namespace Go.Proofs.YtgiioglmkogpkaaGreatDoor.F
open Go.ChangeShapes Go.WideShapes Go.ChangeAt Go.RowKit
set_option maxRecDepth 100000
theorem laid_mem {P : Program} {w : World} {n : String} {d : DataW Unit} : ∀ {l : List (String × DataW Unit)} {ps : List MemPlace}, DataW.LaidVars P w l ps → (n, d) ∈ l →
  ∃ g t cs fuel p, P.globalNamed n = some g ∧ (P.globals[g]?).map (·.type) = some t ∧ w.var? P n = some cs ∧ DataW.trod (fun _ => ()) P w 0 (fun _ => true) false fuel t cs.toList = some (d, p)
 | [], _, _, hm => by simp at hm
 | (n0, d0) :: r, ps, h, hm => by
  obtain ⟨g, t, cs, fuel, p, q, h1, h2, h3, h4, h5, _⟩ := h
  rcases List.mem_cons.1 hm with e | hm
  ·cases e
   exact ⟨g, t, cs, fuel, p, h1, h2, h3, h4⟩
  ·exact laid_mem h5 hm
abbrev LL : List (String × DataW Unit) := Rows.fnGjGroupKeysRow.laid
theorem laid_of {W : World} (h : laidMetH Tryz.prog LL W) : ∃ ps, DataW.LaidVars Tryz.prog W LL ps := by
 rw [MakeChecks.laidMetH_plain _ _ _ (by kernel_rfl)] at h
 obtain ⟨ps, h, _⟩ := h
 exact ⟨ps, h⟩
theorem g1 : Tryz.prog.globalNamed "internal/strconv.optimize" = some 1 := by kernel_rfl
theorem g3 : Tryz.prog.globalNamed "strconv.ErrRange" = some 3 := by kernel_rfl
theorem g0 : Tryz.prog.globalNamed "pub-tetrapla/pub/gjson.vchars" = some 0 := by kernel_rfl
theorem g6 : Tryz.prog.globalNamed "internal/strconv.float64info" = some 6 := by kernel_rfl
theorem g7 : Tryz.prog.globalNamed "internal/strconv.pow10Tab" = some 7 := by kernel_rfl
theorem g8 : Tryz.prog.globalNamed "internal/strconv.leftcheats" = some 8 := by kernel_rfl
theorem g10 : Tryz.prog.globalNamed "internal/strconv.powtab" = some 10 := by kernel_rfl
theorem g11 : Tryz.prog.globalNamed "internal/strconv.float64pow10" = some 11 := by kernel_rfl
theorem t1 : (Tryz.prog.globals[1]?).map (·.type) = some 4 := by kernel_rfl
theorem t3 : (Tryz.prog.globals[3]?).map (·.type) = some 123 := by kernel_rfl
theorem t0 : (Tryz.prog.globals[0]?).map (·.type) = some 157 := by kernel_rfl
theorem t7 : (Tryz.prog.globals[7]?).map (·.type) = some 280 := by kernel_rfl
theorem t10 : (Tryz.prog.globals[10]?).map (·.type) = some 64 := by kernel_rfl
theorem t6 : (Tryz.prog.globals[6]?).map (·.type) = some 259 := by kernel_rfl
theorem t8 : (Tryz.prog.globals[8]?).map (·.type) = some 286 := by kernel_rfl
theorem t11 : (Tryz.prog.globals[11]?).map (·.type) = some 293 := by kernel_rfl
section
variable {W : World} {ps : List MemPlace} (h : DataW.LaidVars Tryz.prog W LL ps)
theorem laid_at {ps : List MemPlace} {W : World} (h : DataW.LaidVars Tryz.prog W LL ps) {n : String} {d : DataW Unit} {g : Nat} {t : TypeId} (hm : (n, d) ∈ LL) (hg : Tryz.prog.globalNamed n = some g) (ht : (Tryz.prog.globals[g]?).map (·.type) = some t) :
  ∃ cs fuel p, (∀ i, W.cell? ⟨g, i, none⟩ = cs[i]?) ∧ DataW.trod (fun _ => ()) Tryz.prog W 0 (fun _ => true) false fuel t cs = some (d, p) := by
 obtain ⟨g', t', cs, fuel, p, h1, h2, h3, h4⟩ := laid_mem h hm
 obtain rfl := Option.some.inj (hg.symm.trans h1)
 obtain rfl := Option.some.inj (ht.symm.trans h2)
 exact ⟨cs.toList, fuel, p, fun i => by have := World.var?_cell hg h3 i; simpa using this, h4⟩
theorem laid_op {ps : List MemPlace} {W : World} (h : DataW.LaidVars Tryz.prog W LL ps) : W.cell? ⟨1, 0, none⟩ = some (.bool true) := by
 obtain ⟨cs, fuel, p, hc, ht⟩ := laid_at h (d := Rows.laid_internal_strconv_optimize) (by simp [LL, Rows.fnGjGroupKeysRow]) g1 t1
 obtain ⟨b, rfl, hx⟩ := DataW.trod_bool Tryz.underlying4 ht
 have hb : b = true := by simpa [Rows.laid_internal_strconv_optimize] using (congrArg Prod.fst hx).symm
 rw [hc 0, hb]; rfl
theorem laid_er {ps : List MemPlace} {W : World} (h : DataW.LaidVars Tryz.prog W LL ps) : ∃ ev, W.cell? ⟨3, 0, none⟩ = some ev ∧ (ev = .nilIface ∨ ∃ te pe, ev = .iface te pe) := by
 obtain ⟨cs, fuel, p, hc, ht⟩ := laid_at h (d := Rows.laid_strconv_ErrRange) (by simp [LL, Rows.fnGjGroupKeysRow]) g3 t3
 obtain ⟨f2, u, v, rfl, _, _⟩ := iface_of_trod Tryz.underlying123 ht
 exact ⟨_, hc 0, .inr ⟨u, v, rfl⟩⟩
theorem laid_vt {ps : List MemPlace} {W : World} (h : DataW.LaidVars Tryz.prog W LL ps) : VT W := by
 obtain ⟨cs, fuel, p, hc, ht⟩ := laid_at h (d := Rows.laid_pub_tetrapla_pub_gjson_vchars) (by simp [LL, Rows.fnGjGroupKeysRow]) g0 t0
 have e : (Rows.laid_pub_tetrapla_pub_gjson_vchars : DataW Unit) = Lib.tabData .u8 ((List.range 256).map fun i : Nat => V.vch (i : Int)) := by kernel_rfl
 rw [e] at ht
 have hcs := Lib.cells_of_tab Tryz.underlying157 Tryz.underlying5 (by kernel_rfl) (by kernel_rfl) ht
 intro i hi
 rw [hc i, hcs]
 simp only [List.getElem?_map]
 rw [List.getElem?_range hi]
 rfl
end
set_option maxRecDepth 100000
theorem trod_f64 {H : Type} {enc : TypeId × Value → H} {P : Program} {w : World} {base : Nat} {sp : Nat → Bool} {held : Bool} {fuel : Nat} {t : TypeId} {c : Value} {x : Nat} {q : List MemPlace} (ht : P.underlying t = some (.float .f64)) (h : DataW.trod enc P w base sp held fuel t [c] = some (.lit (.float .f64 x), q)) : ∃ y, c = .float .f64 y := by
 cases fuel with
 | zero => simp [DataW.trod] at h
 | succ n =>
  cases c <;> simp [DataW.trod, ht] at h
  rename_i k y
  cases k <;> simp at h
  exact ⟨y, rfl⟩
theorem laid_fi {ps : List MemPlace} {W : World} (h : DataW.LaidVars Tryz.prog W LL ps) : FI W := by
 obtain ⟨cs, fuel, p, hc, ht⟩ := laid_at h (d := Rows.laid_internal_strconv_float64info) (by simp [LL, Rows.fnGjGroupKeysRow]) g6 t6
 obtain ⟨y0, y1, y2, n, hx, hl, a0, a1, a2⟩ := Go.Deep.trod_struct3 Tryz.underlying259 ht
 have c3 : Tryz.prog.cellsOf 259 = 3 := by kernel_rfl
 rw [c3] at hl
 match cs, hl with
 | [c0, c1, c2], _ =>
  dsimp only at a0 a1 a2
  have k3 : Tryz.prog.cellsOf 3 = 1 := by kernel_rfl
  have k162 : Tryz.prog.cellsOf 162 = 1 := by kernel_rfl
  rw [k162] at a0 a1
  rw [k3] at a2
  obtain ⟨n0, e0, z0, _⟩ := DataW.trod_int Tryz.underlying162 a0
  obtain ⟨n1, e1, z1, _⟩ := DataW.trod_int Tryz.underlying162 a1
  obtain ⟨n2, e2, z2, _⟩ := DataW.trod_int Tryz.underlying3 a2
  have hd := congrArg Prod.fst hx
  rw [z0, z1, z2] at hd
  have hd2 : (DataW.agg [.lit (.int .u64 52), .lit (.int .u64 11), .lit (.int .i64 (-1023))] : DataW Unit) = .agg [.lit (.int .u64 n0), .lit (.int .u64 n1), .lit (.int .i64 n2)] := hd
  simp at hd2
  obtain ⟨rfl, rfl, rfl⟩ := hd2
  have f0 : c0 = .int .u64 52 := by simpa using e0
  have f1 : c1 = .int .u64 11 := by simpa using e1
  have f2 : c2 = .int .i64 (-1023) := by simpa using e2
  subst f0 f1 f2
  exact ⟨hc 0, hc 1, hc 2⟩
theorem laid_pow {ps : List MemPlace} {W : World} (h : DataW.LaidVars Tryz.prog W LL ps) : Pow W := by
 obtain ⟨cs, fuel, p, hc, ht⟩ := laid_at h (d := Rows.laid_internal_strconv_pow10Tab) (by simp [LL, Rows.fnGjGroupKeysRow]) g7 t7
 obtain ⟨xs, m, _, _, hl, hn, hel⟩ := DataW.trod_array Tryz.underlying280 ht
 have c280 : Tryz.prog.cellsOf 280 = 1392 := by kernel_rfl
 have c279 : Tryz.prog.cellsOf 279 = 2 := by kernel_rfl
 rw [c280] at hl
 rw [c279] at hel
 intro i hi
 have hq := hel (i / 2) (by omega)
 have hx : xs[i / 2]? = some (xs[i / 2]'(by omega)) := List.getElem?_eq_getElem (by omega)
 rw [hx] at hq
 obtain ⟨y0, y1, n, _, hl2, a0, a1⟩ := trod_struct2 Tryz.underlying279 hq
 have c159 : Tryz.prog.cellsOf 159 = 1 := by kernel_rfl
 obtain ⟨L, hL⟩ : ∃ L, List.take 2 (List.drop (i / 2 * 2) cs) = L := ⟨_, rfl⟩
 rw [hL] at a0 a1 hl2
 rw [c279] at hl2
 dsimp only at a0 a1
 rw [c159] at a0 a1
 match L, hl2 with
 | [a, b], _ =>
  obtain ⟨n0, e0, _, _⟩ := DataW.trod_int Tryz.underlying159 a0
  obtain ⟨n1, e1, _, _⟩ := DataW.trod_int Tryz.underlying159 a1
  have hidx : ∀ j, j < 2 → cs[i / 2 * 2 + j]? = [a, b][j]? := by
   intro j hj
   rw [← hL, List.getElem?_take, if_pos hj, List.getElem?_drop]
  have ea : a = .int .u64 n0 := by simpa using e0
  have eb : b = .int .u64 n1 := by simpa using e1
  subst ea eb
  rw [hc i]
  rcases Nat.mod_two_eq_zero_or_one i with hm | hm
  rotate_left
  ·have := hidx 1 (by omega)
   rw [show i / 2 * 2 + 1 = i by omega] at this
   exact ⟨n1, this⟩
  have := hidx 0 (by omega)
  rw [show i / 2 * 2 + 0 = i by omega] at this
  exact ⟨n0, this⟩
theorem laid_powtab {ps : List MemPlace} {W : World} (h : DataW.LaidVars Tryz.prog W LL ps) : PowTab W := by
 obtain ⟨cs, fuel, p, hc, ht⟩ := laid_at h (d := Rows.laid_internal_strconv_powtab) (by simp [LL, Rows.fnGjGroupKeysRow]) g10 t10
 obtain ⟨a, cap, rfl, hcap, hel⟩ := open_row Tryz.underlying64 (by kernel_rfl) ht
 have hall : ∀ i, i < 9 → W.cell? (a.add i) = some (.int .i64 (powtabL.getD i 0)) := by
  intro i hi
  have hd : ∀ i, i < 9 → ([1, 3, 6, 9, 13, 16, 19, 23, 26] : List Int)[i]? = some (powtabL.getD i 0) := by decide
  obtain ⟨v, n, q, hv, hr⟩ := hel i (.lit (.int .i64 (powtabL.getD i 0))) (by
   have := hd i hi
   have e : ([.lit (.int .i64 1), .lit (.int .i64 3), .lit (.int .i64 6), .lit (.int .i64 9), .lit (.int .i64 13), .lit (.int .i64 16), .lit (.int .i64 19), .lit (.int .i64 23), .lit (.int .i64 26)] : List (DataW Unit)) = ([1, 3, 6, 9, 13, 16, 19, 23, 26] : List Int).map fun z => .lit (.int .i64 z) := rfl
   rw [e, List.getElem?_map, this]; rfl)
  obtain ⟨k, e1, e2, _⟩ := DataW.trod_int Tryz.underlying3 hr
  have hk : powtabL.getD i 0 = k := by simpa using congrArg Prod.fst e2
  rw [hv, hk]
  simpa using e1
 exact ⟨a, cap, hc 0, hall, by have := hall 0 (by omega); simpa [Addr.add, powtabL] using this⟩
def p10L : List Nat := [4607182418800017408, 4621819117588971520, 4636737291354636288, 4652007308841189376, 4666723172467343360, 4681608360884174848, 4696837146684686336, 4711630319722168320, 4726483295884279808, 4741671816366391296, 4756540486875873280, 4771362005757984768, 4786511204640096256, 4801453603149578240, 4816244402031689728, 4831355200913801216, 4846369599423283200, 4861130398305394688, 4876203697187506176, 4891288408196988160, 4906019910204099648, 4921056587992461136, 4936209963552724370]
theorem laid_p10 {ps : List MemPlace} {W : World} (h : DataW.LaidVars Tryz.prog W LL ps) : P10 W := by
 obtain ⟨cs, fuel, p, hc, ht⟩ := laid_at h (d := Rows.laid_internal_strconv_float64pow10) (by simp [LL, Rows.fnGjGroupKeysRow]) g11 t11
 obtain ⟨a, cap, rfl, hcap, hel⟩ := open_row Tryz.underlying293 (by kernel_rfl) ht
 refine ⟨a, cap, hc 0, fun i hi => ?_⟩
 have hall : ∀ i, i < 23 → (p10L[i]?).isSome = true := by decide
 obtain ⟨x, hx⟩ := Option.isSome_iff_exists.1 (hall i hi)
 obtain ⟨v, n, q, hv, hr⟩ := hel i (.lit (.float .f64 x)) (by
  have e : (Rows.laid_internal_strconv_float64pow10 : DataW Unit) = .slice (p10L.map fun z => .lit (.float .f64 z)) [] := rfl
  injection e with e1 _
  rw [e1, List.getElem?_map, hx]; rfl)
 obtain ⟨y, rfl⟩ := trod_f64 Tryz.underlying39 hr
 exact ⟨y, hv⟩
theorem laid_cheats {ps : List MemPlace} {W : World} (h : DataW.LaidVars Tryz.prog W LL ps) : Cheats W := by
 obtain ⟨cs, fuel, p, hc, ht⟩ := laid_at h (d := Rows.laid_internal_strconv_leftcheats) (by simp [LL, Rows.fnGjGroupKeysRow]) g8 t8
 rcases DataW.trod_slice Tryz.underlying286 ht with ⟨_, hx⟩ | ⟨a, len, cap, elems, rest, n, _, rfl, hx, _, hl, _, hlen, hel, _⟩
 ·exact absurd (congrArg Prod.fst hx) (by intro e; cases e)
 have hfst := congrArg Prod.fst hx
 have hlst : Go.Pinned.cheatRows.map (fun x => (DataW.agg [.lit (.int .i64 x.1), .lit (.string x.2)] : DataW Unit)) = elems.map (·.1) := by
  have e : (Rows.laid_internal_strconv_leftcheats : DataW Unit) = .slice (Go.Pinned.cheatRows.map (fun x => (DataW.agg [.lit (.int .i64 x.1), .lit (.string x.2)] : DataW Unit))) [] := rfl
  rw [e] at hfst
  injection hfst
 have h61 : len = 61 := by
  have := congrArg List.length hlst
  simp only [List.length_map] at this
  rw [← hlen, ← this]; decide
 have c285 : Tryz.prog.cellsOf 285 = 2 := by kernel_rfl
 have c3 : Tryz.prog.cellsOf 3 = 1 := by kernel_rfl
 have c9 : Tryz.prog.cellsOf 9 = 1 := by kernel_rfl
 rw [c285] at hel
 subst h61
 refine ⟨a, cap, hc 0, fun k x hk => ?_⟩
 have hkl : k < 61 := by
  have := (List.getElem?_eq_some_iff.1 hk).1
  have h : Go.Pinned.cheatRows.length = 61 := by decide
  omega
 have hy : ∃ y, elems[k]? = some y ∧ y.1 = .agg [.lit (.int .i64 x.1), .lit (.string x.2)] := by
  have := congrArg (fun l => l[k]?) hlst
  simp only [List.getElem?_map, hk, Option.map_some] at this
  cases hz : elems[k]? with
  | none => rw [hz] at this; simp at this
  | some y => rw [hz] at this; exact ⟨y, rfl, by simpa using this.symm⟩
 obtain ⟨y, hy1, hy2⟩ := hy
 have he := hel k hkl
 rw [hy1] at he
 simp only [Option.bind_eq_some_iff] at he
 obtain ⟨L, hL, hT⟩ := he
 obtain ⟨y0, y1, m, hz, hl2, a0, a1⟩ := trod_struct2 Tryz.underlying285 hT
 rw [c285] at hl2
 dsimp only at a0 a1
 rw [c3] at a0
 rw [c9] at a1
 match L, hl2 with
 | [c0, c1], _ =>
  obtain ⟨n0, e0, z0, _⟩ := DataW.trod_int Tryz.underlying3 a0
  obtain ⟨s1, e1, z1, _⟩ := DataW.trod_string Tryz.underlying9 a1
  rw [hz, z0, z1] at hy2
  simp at hy2
  obtain ⟨h1, h2⟩ := hy2
  have f0 : c0 = .int .i64 n0 := by simpa using e0
  have f1 : c1 = .string s1 := by simpa using e1
  subst f0 f1
  unfold World.cells? at hL
  rw [if_pos (Nat.zero_le _)] at hL
  have e00 : (a.add (k * 2)).add 0 = a.add (k * 2) := by simp [Addr.add]
  simp only [List.range_succ, List.range_zero, List.nil_append, List.cons_append, List.mapM_cons, List.mapM_nil, e00] at hL
  cases hA : W.cell? (a.add (k * 2)) with
  | none => simp [hA] at hL
  | some u0 =>
   cases hB : W.cell? ((a.add (k * 2)).add 1) with
   | none => simp [hA, hB] at hL
   | some u1 =>
    simp [hA, hB] at hL
    obtain ⟨rfl, rfl⟩ := hL
    have hs : s1 = ⟨x.2.toArray⟩ := by
     apply ByteArray.ext
     apply Array.toList_inj.1
     simpa using h2
    refine ⟨by rw [h1], ?_⟩
    rw [← hs]
    exact hB
theorem tabs_of_laid {W : World} (h : laidMetH Tryz.prog LL W) : Tabs W ∧ VT W := by
 obtain ⟨ps, h⟩ := laid_of h
 exact ⟨⟨laid_op h, laid_fi h, laid_cheats h, laid_powtab h, laid_pow h, laid_p10 h, laid_er h⟩, laid_vt h⟩
end Go.Proofs.YtgiioglmkogpkaaGreatDoor.F
namespace Go.Proofs.YtgiioglmkogpkaaGreatDoor.fnGjGroupKeys
open Go.ChangeShapes Go.WideShapes Go.ChangeAt Go.RowKit
open Go.ChangeMaps (open_string shut_string)
set_option maxRecDepth 100000
theorem own : ownKnob Tryz.prog.godebug = none := by kernel_rfl
theorem lifted (os : Os) (started : os.Started) (H : Type) (enc : TypeId × Value → H) :
  ReturnsInHanded {} Tryz.checked os 5 .any (fun w args => (Rows.fnGjGroupKeysSpec.pre enc Tryz.prog Tryz.f5 Rows.fnGjGroupKeysRow.domain false w args ∧ laidMetH Tryz.prog F.LL w) ∧ sizedMet enc Tryz.prog Tryz.f5 (OpenSpec.ofChange Rows.fnGjGroupKeysSpec) false w args)
   (Rows.fnGjGroupKeysSpec.post enc Tryz.prog Tryz.f5 false true false false) := by
 refine returnsInHanded_of_change_and (C := Tryz.checked) (X := fun w _ => laidMetH Tryz.prog F.LL w) (fun _ _ _ hh h => h.of_heap hh) own started (by kernel_rfl) Tryz.func5
  (ChangeSpec.witness_shaped (enc := enc) (C := Tryz.checked) (os := os) (X := fun w _ => laidMetH Tryz.prog F.LL w) false (World.laidAll Tryz.prog os F.LL) #[.string ByteArray.empty] 8 (World.laidAll_os _ _ _)
   (World.shaped_of_ZipB (by kernel_rfl) (by kernel_rfl)) (by kernel_rfl) (by kernel_rfl) (by kernel_rfl)
   (by rw [MakeChecks.laidMetH_plain _ _ _ (by kernel_rfl)]; exact laidMet_laidAll _ (by kernel_rfl) (by kernel_rfl))) ?_
 intro W base args ds gs before hval0 hW hc _ hL _
 have hval : ∀ (j : Nat) t v, Tryz.f5.params[j]? = some t → args[j]? = some v → Value.okWide Tryz.prog W .any base t v := hval0
 have hW' := hW
 obtain ⟨p, q, hA0, hV, rfl, _, _⟩ := hW
 have hA : DataW.TrodAll enc Tryz.prog W 0 (fun _ => true) true Tryz.f5.params.toList args.toList ds p := hA0
 rw [Tryz.params5] at hA hval
 obtain ⟨v0, d0, rfl, rfl, h0⟩ := trodAll_one hA
 obtain ⟨rfl, rfl⟩ := trodVars_none hV
 obtain ⟨a0, rfl, rfl, rfl, y0⟩ := open_string Tryz.underlying9 (hval 0 9 v0 rfl rfl) h0
 obtain ⟨T, U⟩ := F.tabs_of_laid hL
 clear hA0 hval0
 refine (F.klaw_calls a0 W T U).mono fun e W' ⟨he, bel⟩ => ?_
 subst he
 exact ⟨_, rfl, _, _, _, [], _, [], hW', trodAll_mk1 (shut_bool Tryz.underlying4 _), (trodAll_mk1 (shut_string Tryz.underlying9 y0)), rfl, bel.frame _, fun h => by cases h⟩
theorem holds : Rows.FnGjGroupKeysSaid :=
 OpenClaim.holds_of_wide 5 Tryz.f5 rfl rfl rfl rfl rfl rfl rfl ⟨rfl, rfl, rfl, rfl, rfl⟩ rfl rfl rfl rfl rfl (by kernel_rfl) Tryz.func5 (by kernel_rfl)
  (of_decide_eq_true (by kernel_rfl)) (by unfold Func.isWrapper; first | (rw [if_pos (by decide +kernel)]; kernel_rfl) | (rw [if_neg (by decide +kernel)]; exact ⟨rfl, rfl⟩))
  (fun os started H enc _ => lifted os started H enc)
end Go.Proofs.YtgiioglmkogpkaaGreatDoor.fnGjGroupKeys

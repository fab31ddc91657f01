/- Texts behind the law FnGjGroupKeys: part 6. -/
import Derived.Test.YtgiioglmkogpkaaGreatDoorZb
import Derived.Test.YtgiioglmkogpkaaGreatDoorZe
import Derived.Test.YtgiioglmkogpkaaGreatDoorZc
import Derived.Test.YtgiioglmkogpkaaGreatDoorZd
import Derived.Deep.QuietTactic
import Derived.BigQuiet
import Derived.Deep.RegionHeld3
set_option linter.unusedVariables false
set_option linter.unusedSimpArgs false
namespace Go.Proofs.YtgiioglmkogpkaaGreatDoor.F
open Go.RowKit Go.Proofs.YtgiioglmkogpkaaGreatDoorW.PrintWords Go.Proofs.YtgiioglmkogpkaaGreatDoorW.PrintLast Go.Proofs.YtgiioglmkogpkaaGreatDoorW.PrintMore
open M L V
set_option maxHeartbeats 2000000
set_option maxRecDepth 8192
attribute [local go_sem] run_store_float
def piece (nm r : ByteArray) : ByteArray := (⟨#[44]⟩ : ByteArray) ++ nm ++ ⟨#[58]⟩ ++ r
def updR (nm : ByteArray) (raws : List ByteArray) (rows : List (List UInt8)) : Nat → List (List UInt8)
 | 0 => rows
 | n + 1 =>
  let R := updR nm raws rows n
  let R2 := if n = R.length then R ++ [[]] else R
  R2.set n ((R2.getD n []) ++ (piece nm (raws.getD n ⟨#[]⟩)).data.toList)
theorem updR_len (nm : ByteArray) (raws : List ByteArray) (rows : List (List UInt8)) : ∀ n, (updR nm raws rows n).length = max n rows.length
 | 0 => by simp [updR]
 | n + 1 => by
  have ih := updR_len nm raws rows n
  simp only [updR, List.length_set]
  split <;> rename_i h
  ·simp; omega
  ·omega
structure Jv (B b0 pi pa pk : Nat) (nm : ByteArray) (kst : ByteArray) (kx : Nat) (ki : Int) (raws : List ByteArray) (rows : List (List UInt8)) (n : Nat) (W : World) : Prop where
 hi : W.heap[pi]? = some (.cells #[.int .i64 (n : Int)] 3 (0, 0))
 hk : W.heap[pk]? = some (.cells (cl66 3 nm kst kx ki) 66 (0, 0))
 ha : ∃ v, W.heap[pa]? = some (.cells #[v] 140 (0, 0)) ∧ Al B W v (updR nm raws rows n)
 kb : pk < b0
 bi : B ≤ pi
 ba : B ≤ pa
 bw : B ≤ W.heap.size
theorem Jv.keep {B b0 pi pa pk : Nat} {nm kst : ByteArray} {kx : Nat} {ki : Int} {raws : List ByteArray} {rows : List (List UInt8)} {n : Nat} {W W' : World} (h : Jv B b0 pi pa pk nm kst kx ki raws rows n W) (hk : KeepN b0 W W') : Jv B b0 pi pa pk nm kst kx ki raws rows n W' := by
 obtain ⟨v, h1, h2⟩ := h.ha
 exact ⟨hk.2.2 _ _ _ _ (by decide) h.hi, (hk.2.1 pk h.kb).trans h.hk, ⟨v, hk.2.2 _ _ _ _ (by decide) h1, h2.move (fun g c T hT hg => hk.2.2 _ _ _ _ (by rcases hT with rfl | rfl <;> decide) hg)⟩, h.kb, h.bi, h.ba, Nat.le_trans h.bw hk.1⟩
structure Jw (B pi pa pk vb : Nat) (W w' : World) (n : Nat) (v : Value) (rows : List (List UInt8)) (nm kst : ByteArray) (kx : Nat) (ki T : Int) (r str : ByteArray) (x : Nat) (ix : Int) : Prop where
 hi : w'.heap[pi]? = some (.cells #[.int .i64 (n : Int)] 3 (0, 0))
 ha : w'.heap[pa]? = some (.cells #[v] 140 (0, 0))
 hk : w'.heap[pk]? = some (.cells (cl66 3 nm kst kx ki) 66 (0, 0))
 hv : w'.heap[vb]? = some (.cells (cl66 T r str x ix) 66 (0, 0))
 al : Al B w' v rows
 kp : Keep66 W w'
 be : Below B W w'
 bi : B ≤ pi
 ba : B ≤ pa
 bw : B ≤ W.heap.size
section
variable {B pi pa pk vb : Nat} {W w' w2 : World} {n : Nat} {v : Value} {rows : List (List UInt8)} {nm kst : ByteArray} {kx : Nat} {ki T : Int} {r str : ByteArray} {x : Nat} {ix : Int}
theorem Jw.cells (h : Jw B pi pa pk vb W w' n v rows nm kst kx ki T r str x ix) : w'.cell? ⟨pi, 0, none⟩ = some (.int .i64 (n : Int)) ∧ w'.cell? ⟨pa, 0, none⟩ = some v ∧ w'.cell? ⟨pk, 1, none⟩ = some (.string nm) ∧ w'.cell? ⟨vb, 1, none⟩ = some (.string r) ∧ (∀ i, w'.frozen? ⟨pi, i, none⟩ = false) ∧ (∀ i, w'.frozen? ⟨pa, i, none⟩ = false) :=
 ⟨blk_cell h.hi 0, blk_cell h.ha 0, blk_cell h.hk 1, blk_cell h.hv 1, blk_frozen h.hi, blk_frozen h.ha⟩
theorem Jw.drew (h : Jw B pi pa pk vb W w' n v rows nm kst kx ki T r str x ix) : Jw B pi pa pk vb W w'.drew n v rows nm kst kx ki T r str x ix := ⟨h.hi, h.ha, h.hk, h.hv, h.al.move (fun g c T _ hg => hg), h.kp, below_drew h.be, h.bi, h.ba, h.bw⟩
theorem Al.form (h : Al B w' v rows) (hp : 0 < rows.length) : ∃ g m cap, v = .slice (some ⟨g, 0, none⟩) m cap ∧ m = rows.length := by
 obtain ⟨sp, h1, _⟩ := h
 rcases h1.2 with ⟨_, h0⟩ | ⟨g, cap, cur, rfl, _⟩
 ·omega
 ·exact ⟨g, _, cap, rfl, rfl⟩
theorem Al.row {g m cap : Nat} (h : Al B w' (.slice (some ⟨g, 0, none⟩) m cap) rows) {i : Nat} (rk : List UInt8) (hi : rows[i]? = some rk) : ∃ b n c, w'.cell? ⟨g, i, none⟩ = some (.slice (some ⟨b, 0, none⟩) n c) ∧ w'.ownsRow B 5 1 (.slice (some ⟨b, 0, none⟩) n c) n (Lib.byteCells rk) ∧ n = rk.length := by
 obtain ⟨sp, h1, h2⟩ := h
 obtain ⟨b, n, c, q1, q2, _⟩ := h2 i rk hi
 obtain ⟨e, _, _, _⟩ := own_cell q2
 obtain ⟨_, hc, _, _⟩ := own_cell h1
 exact ⟨b, n, c, hc i _ q1, e ▸ q2, e⟩
structure Jz (B pi pa pk vb : Nat) (W w' : World) (n g m cap : Nat) (rows : List (List UInt8)) (u : Value) (nm kst : ByteArray) (kx : Nat) (ki T : Int) (r str : ByteArray) (x : Nat) (ix : Int) : Prop where
 hi : w'.heap[pi]? = some (.cells #[.int .i64 (n : Int)] 3 (0, 0))
 ha : w'.heap[pa]? = some (.cells #[.slice (some ⟨g, 0, none⟩) m cap] 140 (0, 0))
 hk : w'.heap[pk]? = some (.cells (cl66 3 nm kst kx ki) 66 (0, 0))
 hv : w'.heap[vb]? = some (.cells (cl66 T r str x ix) 66 (0, 0))
 al : Al B (w'.setCell ⟨g, n, none⟩ u) (.slice (some ⟨g, 0, none⟩) m cap) rows
 hg : ∃ cs, w'.heap[g]? = some (.cells cs 103 (0, 0))
 hc : ∃ u0, w'.cell? ⟨g, n, none⟩ = some u0
 gb : B ≤ g
 kp : Keep66 W w'
 be : Below B W w'
 bi : B ≤ pi
 ba : B ≤ pa
 bw : B ≤ W.heap.size
theorem Jz.fz {g m cap : Nat} {u : Value} (h : Jz B pi pa pk vb W w' n g m cap rows u nm kst kx ki T r str x ix) : ∀ i, w'.frozen? ⟨g, i, none⟩ = false := by
 obtain ⟨cs, hc⟩ := h.hg
 exact blk_frozen hc
theorem Jz.laid {g m cap : Nat} {u : Value} (h : Jz B pi pa pk vb W w' n g m cap rows u nm kst kx ki T r str x ix) : Jw B pi pa pk vb W (w'.setCell ⟨g, n, none⟩ u) n (.slice (some ⟨g, 0, none⟩) m cap) rows nm kst kx ki T r str x ix := by
 obtain ⟨cs, hc⟩ := h.hg
 have far : ∀ (k : Nat) (c : Array Value) (T : TypeId) (fr : Nat × Nat), T ≠ 103 → w'.heap[k]? = some (.cells c T fr) → (w'.setCell ⟨g, n, none⟩ u).heap[k]? = some (.cells c T fr) := fun k c T fr hT hk => by
  refine (Below.heap_setCell w' ⟨g, n, none⟩ u k (fun e => ?_)).trans hk
  have e : k = g := e
  subst e
  rw [hc] at hk
  simp only [Option.some.injEq, Obj.cells.injEq] at hk
  exact hT hk.2.1.symm
 exact ⟨far _ _ _ _ (by decide) h.hi, far _ _ _ _ (by decide) h.ha, far _ _ _ _ (by decide) h.hk, far _ _ _ _ (by decide) h.hv, h.al, fun k c fr hk => far _ _ _ _ (by decide) (h.kp k c fr hk), h.be.setCell (p := ⟨g, n, none⟩) h.gb _, h.bi, h.ba, h.bw⟩
theorem Jw.grown {g m cap : Nat} (h : Jw B pi pa pk vb W w' n (.slice (some ⟨g, 0, none⟩) m cap) rows nm kst kx ki T r str x ix) (rk : List UInt8) (hr : rows[n]? = some rk) (b nr cr : Nat) (hc : w'.cell? ⟨g, n, none⟩ = some (.slice (some ⟨b, 0, none⟩) nr cr)) (raw : ByteArray) (b2 c2 : Nat)
  (ho : w2.ownsRow B 5 1 (.slice (some ⟨b2, 0, none⟩) (nr + (((⟨#[44]⟩ : ByteArray) ++ nm ++ ⟨#[58]⟩) ++ raw).size) c2) (nr + (((⟨#[44]⟩ : ByteArray) ++ nm ++ ⟨#[58]⟩) ++ raw).size) (Lib.byteCells rk ++ Lib.strCells (((⟨#[44]⟩ : ByteArray) ++ nm ++ ⟨#[58]⟩) ++ raw))) (hnr : nr = rk.length) (hg : w'.grownBy w2 (some b)) (hb : b2 = b ∨ w'.heap.size ≤ b2) :
  Jz B pi pa pk vb W w2 n g m cap (rows.set n (rk ++ (piece nm raw).data.toList)) (.slice (some ⟨b2, 0, none⟩) (nr + (((⟨#[44]⟩ : ByteArray) ++ nm ++ ⟨#[58]⟩) ++ raw).size) c2) nm kst kx ki T r str x ix := by
 obtain ⟨sp, h1, h2⟩ := h.al
 obtain ⟨bi, ni, ci, q1, q2, _⟩ := h2 n rk hr
 obtain ⟨_, hsp, hBg, csg, hgb⟩ := own_cell h1
 have e1 := hsp n _ q1
 rw [hc] at e1
 injection e1 with e1
 injection e1 with ea
 injection ea with ea
 injection ea with ea
 subst ea
 obtain ⟨_, _, hBb, csb, hbb⟩ := own_cell q2
 have far : ∀ (k : Nat) (c : Array Value) (T : TypeId) (fr : Nat × Nat), T ≠ 5 → w'.heap[k]? = some (.cells c T fr) → w2.heap[k]? = some (.cells c T fr) := fun k c T fr hT hk => by
  refine (hg.block k (blk_lt hk) (fun e => ?_)).trans hk
  injection e with e
  subst e
  rw [hbb] at hk
  simp only [Option.some.injEq, Obj.cells.injEq] at hk
  exact hT hk.2.1.symm
 have hbe : Below B w' w2 := Below.grown (Below.refl _ _) hg (Nat.le_trans h.bw h.be.size) (fun k hk => by injection hk with hk; subst hk; exact hBb)
 have hlen : (rk ++ (piece nm raw).data.toList).length = nr + (((⟨#[44]⟩ : ByteArray) ++ nm ++ ⟨#[58]⟩) ++ raw).size := by
  rw [List.length_append, hnr]
  rfl
 refine ⟨far _ _ _ _ (by decide) h.hi, far _ _ _ _ (by decide) h.ha, far _ _ _ _ (by decide) h.hk, far _ _ _ _ (by decide) h.hv, ?_, ⟨csg, far _ _ _ _ (by decide) hgb⟩, ⟨_, (blk_cell (far _ _ _ _ (by decide) hgb) n).trans ((blk_cell hgb n).symm.trans hc)⟩, hBg, fun k c fr hk => far _ _ _ _ (by decide) (h.kp k c fr hk), h.be.trans hbe, h.bi, h.ba, h.bw⟩
 refine Al.grow h.al n rk hr b nr cr hc (piece nm raw).data.toList b2 _ c2 ?_ hg hb
 rw [hlen]
 have e : Lib.byteCells (rk ++ (piece nm raw).data.toList) = Lib.byteCells rk ++ Lib.strCells (((⟨#[44]⟩ : ByteArray) ++ nm ++ ⟨#[58]⟩) ++ raw) := by
  simp [Lib.byteCells, Lib.strCells, piece]
 rw [e]
 exact ho
theorem Jw.next {b0 : Nat} {raws : List ByteArray} {rows0 : List (List UInt8)} (h : Jw B pi pa pk vb W w' n v rows nm kst kx ki T r str x ix) (hR : rows = updR nm raws rows0 (n + 1)) (hkb : pk < b0) (u : Value) (hu : u = .int .i64 ((n : Int) + 1)) :
  Jv B b0 pi pa pk nm kst kx ki raws rows0 (n + 1) (w'.setCell ⟨pi, 0, none⟩ u) ∧ Keep66 W (w'.setCell ⟨pi, 0, none⟩ u) ∧ Below B W (w'.setCell ⟨pi, 0, none⟩ u) := by
 subst hu
 have far : ∀ (k : Nat) (c : Array Value) (T : TypeId) (fr : Nat × Nat), T ≠ 3 → w'.heap[k]? = some (.cells c T fr) → (w'.setCell ⟨pi, 0, none⟩ (.int .i64 ((n : Int) + 1))).heap[k]? = some (.cells c T fr) := fun k c T fr hT hk => by
  refine (Below.heap_setCell w' ⟨pi, 0, none⟩ _ k (fun e => ?_)).trans hk
  have e : k = pi := e
  subst e
  have := h.hi
  rw [this] at hk
  simp only [Option.some.injEq, Obj.cells.injEq] at hk
  exact hT hk.2.1.symm
 have hs := h.be.size
 have hbw := h.bw
 exact ⟨⟨by simpa using blk_set h.hi 0 (.int .i64 ((n : Int) + 1)), far _ _ _ _ (by decide) h.hk, ⟨v, far _ _ _ _ (by decide) h.ha, hR ▸ h.al.move (fun g c T hT hg => far _ _ _ _ (by rcases hT with rfl | rfl <;> decide) hg)⟩, hkb, h.bi, h.ba, by simp [World.setCell]; omega⟩, fun k c fr hk => far _ _ _ _ (by decide) (h.kp k c fr hk), h.be.setCell (p := ⟨pi, 0, none⟩) h.bi _⟩
theorem Jw.pblk {sp : List Value} (h : Jw B pi pa pk vb W w' n v rows nm kst kx ki T r str x ix) (h1 : w'.ownsRow B 103 1 v rows.length sp) (hg : (w'.alloc (.cells #[] 5)).grownBy w2 v.ownBlock) : w2.heap[pa]? = some (.cells #[v] 140 (0, 0)) := by
 have hk := (Below.heap_alloc w' (.cells #[] 5) _ (blk_lt h.ha)).trans h.ha
 refine (hg.block _ (blk_lt hk) (fun e => ?_)).trans hk
 obtain ⟨cs, hc⟩ := own_typed h1 _ e.symm
 rw [h.ha] at hc
 simp only [Option.some.injEq, Obj.cells.injEq] at hc
 exact absurd hc.2.1 (by decide)
theorem Jw.pushed {sp : List Value} {v1 : Value} (h : Jw B pi pa pk vb W w' n v rows nm kst kx ki T r str x ix) (h1 : w'.ownsRow B 103 1 v rows.length sp) (h2 : ∀ i r, rows[i]? = some r → ∃ (b n c : Nat), sp[i]? = some (Value.slice (some ⟨b, 0, none⟩) n c) ∧ w'.ownsRow B 5 1 (.slice (some ⟨b, 0, none⟩) n c) r.length (Lib.byteCells r) ∧ ∀ (j b' n' c' : Nat), j ≠ i → sp[j]? = some (Value.slice (some ⟨b', 0, none⟩) n' c') → b' ≠ b)
  (ho : w2.ownsRow B 103 1 v1 (rows.length + 1) (sp ++ [.slice (some ⟨w'.heap.size, 0, none⟩) 0 0])) (hbl : Below B (w'.alloc (.cells #[] 5)) w2) (hg : (w'.alloc (.cells #[] 5)).grownBy w2 v.ownBlock) :
  Jw B pi pa pk vb W (w2.setCell ⟨pa, 0, none⟩ v1) n v1 (rows ++ [[]]) nm kst kx ki T r str x ix := by
 have hal := h.al
 have hws : B ≤ w'.heap.size := Nat.le_trans h.bw h.be.size
 have ha1 : ∀ {g : Nat} {c : Array Value} {T' : TypeId} {fr : Nat × Nat}, w'.heap[g]? = some (.cells c T' fr) → (w'.alloc (.cells #[] 5)).heap[g]? = some (.cells c T' fr) := fun hg => (Below.heap_alloc w' _ _ (blk_lt hg)).trans hg
 have far : ∀ {k : Nat} {c : Array Value} {T' : TypeId} {fr : Nat × Nat}, T' ≠ 103 → (w'.alloc (.cells #[] 5)).heap[k]? = some (.cells c T' fr) → w2.heap[k]? = some (.cells c T' fr) := fun hT hk => by
  refine (hg.block _ (blk_lt hk) (fun e => ?_)).trans hk
  obtain ⟨cs, hc⟩ := own_typed h1 _ e.symm
  rw [ha1 hc] at hk
  simp only [Option.some.injEq, Obj.cells.injEq] at hk
  exact hT hk.2.1.symm
 have far2 : ∀ {k : Nat} {c : Array Value} {T' : TypeId} {fr : Nat × Nat}, T' ≠ 103 → T' ≠ 140 → w'.heap[k]? = some (.cells c T' fr) → (w2.setCell ⟨pa, 0, none⟩ v1).heap[k]? = some (.cells c T' fr) := fun {k c T' fr} hT hT2 hk => by
  refine (Below.heap_setCell w2 ⟨pa, 0, none⟩ v1 k (fun e => ?_)).trans (far hT (ha1 hk))
  have e : k = pa := e
  subst e
  have := h.ha
  rw [hk] at this
  simp only [Option.some.injEq, Obj.cells.injEq] at this
  exact hT2 this.2.1
 have hnb := far (by decide) (heap_alloc_new w' (.cells #[] 5))
 have hpush : Al B w2 v1 (rows ++ [[]]) := Al.push sp h1 h2 w'.heap.size 0 ⟨_, hnb⟩ (Nat.le_refl _) ⟨rfl, .inr ⟨w'.heap.size, 0, #[], rfl, hws, hnb, Nat.le_refl _, Nat.zero_le _, rfl, rfl⟩⟩ ho (fun g cs hg => far (by decide) (ha1 hg))
 have hpa2 := far (by decide) (ha1 h.ha)
 refine ⟨far2 (by decide) (by decide) h.hi, by simpa using blk_set hpa2 0 v1, far2 (by decide) (by decide) h.hk, far2 (by decide) (by decide) h.hv, hpush.move (fun g c T' hT hg => ?_), fun g c fr hg => far2 (by decide) (by decide) (h.kp g c fr hg), ((h.be.trans ((below_alloc (Below.refl _ _) _).mono hws)).trans hbl).setCell (p := ⟨pa, 0, none⟩) h.ba _, h.bi, h.ba, h.bw⟩
 refine (Below.heap_setCell w2 ⟨pa, 0, none⟩ v1 g (fun e => ?_)).trans hg
 have e : g = pa := e
 subst e
 rw [hpa2] at hg
 simp only [Option.some.injEq, Obj.cells.injEq] at hg
 rcases hT with rfl | rfl <;> exact absurd hg.2.1 (by decide)
end
theorem und9 : Tryz.prog.underlying 9 = some .string := by kernel_rfl
theorem info103 : (Tryz.prog.info? 103).map (fun i => (i.zero, i.size, i.bytes)) = some (some (.slice none 0 0), 1, 24) := by kernel_rfl
theorem info5 : (Tryz.prog.info? 5).map (fun i => (i.zero, i.size, i.bytes)) = some (some (.int .u8 0), 1, 1) := by kernel_rfl
theorem cl99_calls (B b0 pi pa pk : Nat) (nm kst : ByteArray) (kx : Nat) (ki : Int) (raws : List ByteArray) (rows : List (List UInt8)) (k : Nat) (raw : ByteArray) (hraw : raws[k]? = some raw) (W : World) (hI : Jv B b0 pi pa pk nm kst kx ki raws rows k W) (kt : Int) (kr ks : ByteArray) (kx2 : Nat) (ki2 T : Int) (str : ByteArray) (x : Nat) (ix : Int)
  (hrl : rows.length ≤ 1000000) (hkk : k ≤ 1000000) (hsz : ∀ r ∈ updR nm raws rows k, r.length ≤ 100000000000) (hnm : nm.size ≤ 100000) (hrs : raw.size ≤ 100000) :
  Calls Tryz.prog 99 #[resI kt kr ks kx2 ki2, resI T raw str x ix, .pointer (some ⟨pi, 0, none⟩), .pointer (some ⟨pa, 0, none⟩), .pointer (some ⟨pk, 0, none⟩)] W fun e W' => e = .returned (.bool true) ∧ Jv B b0 pi pa pk nm kst kx ki raws rows (k + 1) W' ∧ Keep66 W W' ∧ Below B W W' := by
 obtain ⟨v, ha, hal⟩ := hI.ha
 have hlen := updR_len nm raws rows k
 have h1 : Below W.heap.size W ((W.alloc (.cells (cl66 kt kr ks kx2 ki2) 66)).alloc (.cells (cl66 T raw str x ix) 66)) := below_alloc (below_alloc (Below.refl _ _) _) _
 have hv : ((W.alloc (.cells (cl66 kt kr ks kx2 ki2) 66)).alloc (.cells (cl66 T raw str x ix) 66)).heap[W.heap.size + 1]? = some (.cells (cl66 T raw str x ix) 66 (0, 0)) := by
  have e : (W.alloc (.cells (cl66 kt kr ks kx2 ki2) 66)).heap.size = W.heap.size + 1 := by simp
  have := heap_alloc_new (W.alloc (.cells (cl66 kt kr ks kx2 ki2) 66)) (.cells (cl66 T raw str x ix) 66)
  rwa [e] at this
 have bk : ∀ {g : Nat} {c : Array Value} {T' : TypeId} {fr : Nat × Nat}, W.heap[g]? = some (.cells c T' fr) → ((W.alloc (.cells (cl66 kt kr ks kx2 ki2) 66)).alloc (.cells (cl66 T raw str x ix) 66)).heap[g]? = some (.cells c T' fr) := fun hg => (h1.block _ (blk_lt hg)).trans hg
 obtain ⟨R, hR⟩ : ∃ R, R = updR nm raws rows k := ⟨_, rfl⟩
 rw [← hR] at hal hsz hlen
 have HJ0 := Aside0.mk (show Jw B pi pa pk (W.heap.size + 1) W _ k v R nm kst kx ki T raw str x ix from ⟨bk hI.hi, bk ha, bk hI.hk, hv, hal.move (fun g c T' _ hg => bk hg), .of_below h1, h1.mono hI.bw, hI.bi, hI.ba, hI.bw⟩)
 have HKB := Aside0.mk hI.kb
 have HRR := Aside0.mk hR
 have HRAW := Aside0.mk hraw
 clear h1 hv bk ha hal hI hraw hR
 simp only [resI]
 go_enter Tryz.func99, Tryz.ntmps99
 go_upto_region 1 with fail
 generalize hW1 : ((W.alloc (.cells (cl66 kt kr ks kx2 ki2) 66)).alloc (.cells (cl66 T raw str x ix) 66)) = W1 at *
 have hW1' := hW1
 simp only [cl66] at hW1'
 try rw [hW1']
 clear hW1 hW1'
 generalize W.heap.size + 1 = vb at *
 by_cases hkr : k = R.length
 rotate_left
 ·have hlt : k < R.length := by omega
  obtain ⟨g, m, cap, hvf, hgm⟩ := HJ0.out.al.form (by omega)
  subst hvf
  obtain ⟨c1, c2, c3, c4, f1, f2⟩ := HJ0.out.cells
  have x1 : ((k : Int) == (m : Int)) = false := beq_eq_false_iff_ne.mpr (by omega)
  go_upto_region 3 with fail
  clear c1 c2 c3 c4 f1 f2 x1
  obtain ⟨rk, hrk⟩ : ∃ rk, R[k]? = some rk := ⟨_, List.getElem?_eq_getElem hlt⟩
  have HK2 := Aside0.mk hrk
  have HSZ := Aside0.mk (And.intro (hsz rk (List.mem_of_getElem? hrk)) (And.intro hnm hrs))
  have HJ := Aside0.mk HJ0.out.drew
  have HEQ := Aside0.mk (show R.set k (rk ++ (piece nm raw).data.toList) = updR nm raws rows (k + 1) from by
   simp only [updR]
   rw [← HRR.out, if_neg hkr, List.getD_eq_getElem?_getD, hrk, List.getD_eq_getElem?_getD, HRAW.out]
   rfl)
  clear hrk HJ0
  obtain ⟨br, nr, cr, hrc, hrw, hnr⟩ := HJ.out.al.row rk HK2.out
  subst hnr
  have HRC := Aside0.mk hrc
  have HRW := Aside0.mk hrw
  have hkm : (k : Int) < (m : Int) := by omega
  have hk0 : (0 : Int) ≤ (k : Int) := by omega
  have hl8 : rk.length + ((((⟨#[44]⟩ : ByteArray) ++ nm ++ ⟨#[58]⟩) ++ raw)).size ≤ 140737488355328 := by
   have := HSZ.out.1
   have := HSZ.out.2.1
   have := HSZ.out.2.2
   simp [ByteArray.size_append]
   show rk.length + (1 + nm.size + 1 + raw.size) ≤ _
   omega
  have hs1 : ¬ (9223372036854775807 < 1 + nm.size) := by omega
  have hs2 : ¬ (9223372036854775807 < 1 + nm.size + 1) := by omega
  have hs3 : ¬ (9223372036854775807 < 1 + nm.size + 1 + raw.size) := by omega
  clear hrc hrw hgm
  have HS4 := Aside0.mk (show ∀ w' : World, (w'.heap[pi]? = some (.cells #[.int .i64 (k : Int)] 3 (0, 0)) ∧ w'.heap[pa]? = some (.cells #[.slice (some ⟨g, 0, none⟩) m cap] 140 (0, 0)) ∧ w'.heap[pk]? = some (.cells (cl66 3 nm kst kx ki) 66 (0, 0)) ∧ w'.heap[vb]? = some (.cells (cl66 T raw str x ix) 66 (0, 0))) → w'.cell? ⟨pi, 0, none⟩ = some (.int .i64 (k : Int)) ∧ w'.cell? ⟨pa, 0, none⟩ = some (.slice (some ⟨g, 0, none⟩) m cap) ∧ w'.cell? ⟨pk, 1, none⟩ = some (.string nm) ∧ w'.cell? ⟨vb, 1, none⟩ = some (.string raw) from fun w' hSw => ⟨blk_cell hSw.1 0, blk_cell hSw.2.1 0, blk_cell hSw.2.2.1 1, blk_cell hSw.2.2.2 1⟩)
  refine wp_region_held_drew (S := (fun w' => w'.heap[pi]? = some (.cells #[.int .i64 (k : Int)] 3 (0, 0)) ∧ w'.heap[pa]? = some (.cells #[.slice (some ⟨g, 0, none⟩) m cap] 140 (0, 0)) ∧ w'.heap[pk]? = some (.cells (cl66 3 nm kst kx ki) 66 (0, 0)) ∧ w'.heap[vb]? = some (.cells (cl66 T raw str x ix) 66 (0, 0)))) (by kernel_rfl) (show _ ∧ _ ∧ _ ∧ _ from ⟨HJ.out.hi, HJ.out.ha, HJ.out.hk, HJ.out.hv⟩) (fun hHeld => ?_)
  refine tkH (i := 0) (by simp only [gT, gS, gZ]; rfl) (by kernel_rfl) (by exact fun _ _ _ h => h) (.inl ⟨by rfl, fun w hSw => by obtain ⟨c1, c2, c3, c4⟩ := HS4.out _ hSw; go_simp <;> with_reducible rfl⟩) hHeld ?_
  (try simp only [aP, aN, sT, sZ, sS])
  refine tkH (i := 1) (by simp only [gT, gS, gZ]; rfl) (by kernel_rfl) (by exact fun _ _ _ h => h) (.inl ⟨by rfl, fun w hSw => by obtain ⟨c1, c2, c3, c4⟩ := HS4.out _ hSw; go_simp <;> with_reducible rfl⟩) hHeld ?_
  (try simp only [aP, aN, sT, sZ, sS])
  refine tkH (i := 2) (by simp only [gT, gS, gZ]; rfl) (by kernel_rfl) (by exact fun _ _ _ h => h) (.inl ⟨by rfl, fun w hSw => by obtain ⟨c1, c2, c3, c4⟩ := HS4.out _ hSw; go_simp <;> with_reducible rfl⟩) hHeld ?_
  (try simp only [aP, aN, sT, sZ, sS])
  refine tkH (i := 3) (by simp only [gT, gS, gZ]; rfl) (by kernel_rfl) (by exact fun _ _ _ h => h) (.inl ⟨by rfl, fun w hSw => by obtain ⟨c1, c2, c3, c4⟩ := HS4.out _ hSw; go_simp <;> with_reducible rfl⟩) hHeld ?_
  (try simp only [aP, aN, sT, sZ, sS])
  refine tkH (i := 4) (by simp only [gT, gS, gZ]; rfl) (by kernel_rfl) (by exact fun _ _ _ h => h) (.inl ⟨by rfl, fun w hSw => by obtain ⟨c1, c2, c3, c4⟩ := HS4.out _ hSw; go_simp <;> with_reducible rfl⟩) hHeld ?_
  (try simp only [aP, aN, sT, sZ, sS])
  refine tkH (i := 6) (by simp only [gT, gS, gZ]; rfl) (by kernel_rfl) (by exact fun _ _ _ h => h) (.inl ⟨by rfl, fun w hSw => by obtain ⟨c1, c2, c3, c4⟩ := HS4.out _ hSw; go_simp <;> with_reducible rfl⟩) hHeld ?_
  (try simp only [aP, aN, sT, sZ, sS])
  refine tkH (i := 7) (by simp only [gT, gS, gZ]; rfl) (by kernel_rfl) (by exact fun _ _ _ h => h) (.inl ⟨by rfl, fun w hSw => by obtain ⟨c1, c2, c3, c4⟩ := HS4.out _ hSw; go_simp <;> with_reducible rfl⟩) hHeld ?_
  (try simp only [aP, aN, sT, sZ, sS])
  refine tkH (i := 8) (by simp only [gT, gS, gZ]; rfl) (by kernel_rfl) (by exact fun _ _ _ h => h) (.inl ⟨by rfl, fun w hSw => by obtain ⟨c1, c2, c3, c4⟩ := HS4.out _ hSw; go_simp <;> with_reducible rfl⟩) hHeld ?_
  (try simp only [aP, aN, sT, sZ, sS])
  refine tkH (i := 9) (by simp only [gT, gS, gZ]; rfl) (by kernel_rfl) (by exact fun _ _ _ h => h) (.inl ⟨by rfl, fun w hSw => by obtain ⟨c1, c2, c3, c4⟩ := HS4.out _ hSw; go_simp <;> with_reducible rfl⟩) hHeld ?_
  (try simp only [aP, aN, sT, sZ, sS])
  refine tkH (i := 10) (by simp only [gT, gS, gZ]; rfl) (by kernel_rfl) (by exact fun _ _ _ h => h) (.inl ⟨by rfl, fun w hSw => by obtain ⟨c1, c2, c3, c4⟩ := HS4.out _ hSw; go_simp <;> with_reducible rfl⟩) hHeld ?_
  (try simp only [aP, aN, sT, sZ, sS])
  refine tkH (i := 11) (by simp only [gT, gS, gZ]; rfl) (by kernel_rfl) (by exact fun _ _ _ h => h) (.inl ⟨by rfl, fun w hSw => by obtain ⟨c1, c2, c3, c4⟩ := HS4.out _ hSw; go_simp <;> with_reducible rfl⟩) hHeld ?_
  (try simp only [aP, aN, sT, sZ, sS])
  refine tkH (i := 12) (by simp only [gT, gS, gZ]; rfl) (by kernel_rfl) (by exact fun _ _ _ h => h) (.inl ⟨by rfl, fun w hSw => by obtain ⟨c1, c2, c3, c4⟩ := HS4.out _ hSw; go_simp <;> with_reducible rfl⟩) hHeld ?_
  (try simp only [aP, aN, sT, sZ, sS])
  refine wpAnyH_ready (rs := [5]) (by kernel_rfl) (by simp) ?_
  refine AllReadyH.cons (o := ?_) ?_ (fun K hK => ?_) ?_
  rotate_left 1
  ·(simp only [gT, gS, gZ]; rfl)
  ·have r1 := HRC.out
   go_simp
   clear r1
   refine hK.out _ _ (show _ ∧ _ ∧ _ ∧ _ from ⟨HJ.out.hi, HJ.out.ha, HJ.out.hk, HJ.out.hv⟩) (fun hHeld2 => ?_)
   clear hK K hHeld
   have hHeld := hHeld2
   clear hHeld2
   (try simp only [aP, aN, sT, sZ, sS])
   refine wpAnyH_ready (rs := [13]) (by kernel_rfl) (by simp) ?_
   refine AllReadyH.cons (o := ?_) ?_ (fun K hK => ?_) ?_
   rotate_left 1
   ·(simp only [gT, gS, gZ]; rfl)
   ·refine step_append_str_at B (by rfl) (.tmp 21) (.tmp 28) 103 9 5 rfl Tryz.underlying103 und9 info5 br rk.length cr (Lib.byteCells rk) (((⟨#[44]⟩ : ByteArray) ++ nm ++ ⟨#[58]⟩) ++ raw) rfl rfl HRW.out (Nat.le_trans HJ.out.bw HJ.out.be.size) hl8 ?_
    intro b8 c8 w8 ho8 hg8 hb8
    have H7 := Aside0.mk (HJ.out.grown rk HK2.out br rk.length cr HRC.out raw b8 c8 ho8 rfl hg8 hb8)
    clear ho8 hg8 hb8 hl8
    generalize rk.length + (((⟨#[44]⟩ : ByteArray) ++ nm ++ ⟨#[58]⟩) ++ raw).size = q8 at *
    refine hK.out _ _ (show _ ∧ _ ∧ _ ∧ _ from ⟨H7.out.hi, H7.out.ha, H7.out.hk, H7.out.hv⟩) (fun hHeld2 => ?_)
    clear hK K hHeld
    have hHeld := hHeld2
    clear hHeld2
    (try simp only [aP, aN, sT, sZ, sS])
    refine tkH (i := 14) (by simp only [gT, gS, gZ]; rfl) (by kernel_rfl) (by exact fun _ _ _ h => h) (.inl ⟨by rfl, fun w hSw => by obtain ⟨c1, c2, c3, c4⟩ := HS4.out _ hSw; go_simp <;> with_reducible rfl⟩) hHeld ?_
    (try simp only [aP, aN, sT, sZ, sS])
    refine wpAnyH_ready (rs := [15]) (by kernel_rfl) (by simp) ?_
    refine AllReadyH.cons (o := ?_) ?_ (fun K hK => ?_) ?_
    rotate_left 1
    ·(simp only [gT, gS, gZ]; rfl)
    ·have f1 := H7.out.fz
     obtain ⟨u0, hu0⟩ := H7.out.hc
     go_simp
     clear f1 hu0
     refine hK.out _ _ (show _ ∧ _ ∧ _ ∧ _ from ⟨(H7.out.laid).hi, (H7.out.laid).ha, (H7.out.laid).hk, (H7.out.laid).hv⟩) (fun hHeld2 => ?_)
     clear hK K hHeld
     have hHeld := hHeld2
     clear hHeld2
     (try simp only [aP, aN, sT, sZ, sS])
     refine wpAnyH_done (by kernel_rfl) ?_ _
     obtain ⟨c1, c2, c3, c4, f1, f2⟩ := H7.out.laid.cells
     have H8 := Aside0.mk H7.out.laid
     clear H7
     go_wp2_with fail
     go_ret
     exact ⟨rfl, H8.out.next HEQ.out HKB.out _ (by simp)⟩
    exact AllReadyH.nil
   exact AllReadyH.nil
  exact AllReadyH.nil
 obtain ⟨sp, hsp1, hsp2⟩ := HJ0.out.al.ex
 have HSP := Aside0.mk (And.intro hsp1 hsp2)
 obtain ⟨A0, m, cap, hvf, hgm⟩ : ∃ A m c, v = .slice A m c ∧ m = R.length := by
  rcases hsp1.2 with ⟨q, h0⟩ | ⟨g, cap, cur, q, _⟩
  ·exact ⟨_, _, _, q, h0.symm⟩
  ·exact ⟨_, _, _, q, rfl⟩
 subst hvf
 have HSM := Aside0.mk (show W1.ownsRow B 103 1 (.slice A0 m cap) m sp from by have q := hsp1; rw [← hgm] at q; exact q)
 clear hsp1 hsp2
 obtain ⟨c1, c2, c3, c4, f1, f2⟩ := HJ0.out.cells
 have x1 : ((k : Int) == (m : Int)) = true := beq_iff_eq.mpr (by omega)
 have HLM := Aside0.mk (show (m + 1) * 24 ≤ 140737488355328 by omega)
 have HGM := Aside0.mk hgm
 have HKR := Aside0.mk (And.intro hkr hlen)
 clear hgm hkr hlen
 go_upto_region 3 with ((with_reducible refine gate_builtin (b := .append) (xs := #[.tmp 12, .tmp 14]) rfl ?_); at_builtin; (refine print_append_cells B rfl (.tmp 12) (.tmp 14) 140 103 (.slice none 0 0) 1 24 rfl Tryz.underlying140 info103 rfl (by decide) (by decide) (.slice A0 m cap) m sp [.slice (some ⟨W1.heap.size, 0, none⟩) 0 0] rfl (by rw [alloc_heap_size]; rfl) rfl ?aA ?aO (Below.refl _ _) ?aS ?aL ?_; (case aA => simp [Value.oneCell']); (case aO => exact World.ownsRow.alloc HSM.out _); (case aS => exact Nat.le_trans (Nat.le_trans HJ0.out.bw HJ0.out.be.size) (by simp)); (case aL => exact HLM.out); intro v1 w2 ho hbl hg hat; obtain ⟨A1, m1, cc1, rfl⟩ : ∃ A m c, v1 = .slice A m c := (by rcases ho.2 with ⟨q, _⟩ | ⟨g, cap, cur, q, _⟩ <;> exact ⟨_, _, _, q⟩); have HJ1 := Aside0.mk (HJ0.out.pushed HSP.out.1 HSP.out.2 (by rw [HGM.out] at ho; exact ho) hbl hg); have hpa2 := HJ0.out.pblk HSP.out.1 hg; have hbk := blk_cell hpa2 0; have hbf := blk_frozen hpa2; clear ho hbl hg hat hpa2 c1 c2 c3 c4 f1 f2))
 clear hbk hbf x1
 obtain ⟨R2, hR2⟩ : ∃ R2, R2 = R ++ [[]] := ⟨_, rfl⟩
 rw [← hR2] at HJ1
 generalize w2.setCell ⟨pa, 0, none⟩ (.slice A1 m1 cc1) = W2 at *
 have hl2 : R2.length = R.length + 1 := by rw [hR2]; simp
 have hkr := HKR.out.1
 obtain ⟨g, hgA, hgm⟩ : ∃ g, A1 = some ⟨g, 0, none⟩ ∧ m1 = R2.length := by
  obtain ⟨g, m, cap, hvf, hgm⟩ := HJ1.out.al.form (by omega)
  injection hvf with e1 e2 e3
  exact ⟨g, e1, e2.trans hgm⟩
 subst hgA
 have hlt : k < R2.length := by omega
 obtain ⟨rk, hrk0⟩ : ∃ rk : List UInt8, rk = [] := ⟨_, rfl⟩
 have hrk : R2[k]? = some rk := by rw [hrk0, hR2, List.getElem?_append_right (by omega), show k - R.length = 0 by omega]; rfl
 have HK2 := Aside0.mk hrk
 have HSZ := Aside0.mk (show rk.length ≤ 100000000000 ∧ nm.size ≤ 100000 ∧ raw.size ≤ 100000 from ⟨by rw [hrk0]; simp, hnm, hrs⟩)
 have HJ := Aside0.mk HJ1.out.drew
 have HEQ := Aside0.mk (show R2.set k (rk ++ (piece nm raw).data.toList) = updR nm raws rows (k + 1) from by
  simp only [updR]
  rw [← HRR.out, if_pos hkr, ← hR2, List.getD_eq_getElem?_getD, hrk, List.getD_eq_getElem?_getD, HRAW.out]
  rfl)
 clear hrk hrk0 hR2 hl2 hkr HJ0 HJ1 HKR HLM HGM HSP HSM
 obtain ⟨br, nr, cr, hrc, hrw, hnr⟩ := HJ.out.al.row rk HK2.out
 subst hnr
 have HRC := Aside0.mk hrc
 have HRW := Aside0.mk hrw
 have hkm : (k : Int) < (m1 : Int) := by omega
 have hk0 : (0 : Int) ≤ (k : Int) := by omega
 have hl8 : rk.length + ((((⟨#[44]⟩ : ByteArray) ++ nm ++ ⟨#[58]⟩) ++ raw)).size ≤ 140737488355328 := by
  have := HSZ.out.1
  have := HSZ.out.2.1
  have := HSZ.out.2.2
  simp [ByteArray.size_append]
  show rk.length + (1 + nm.size + 1 + raw.size) ≤ _
  omega
 have hs1 : ¬ (9223372036854775807 < 1 + nm.size) := by omega
 have hs2 : ¬ (9223372036854775807 < 1 + nm.size + 1) := by omega
 have hs3 : ¬ (9223372036854775807 < 1 + nm.size + 1 + raw.size) := by omega
 clear hrc hrw hgm
 have HS4 := Aside0.mk (show ∀ w' : World, (w'.heap[pi]? = some (.cells #[.int .i64 (k : Int)] 3 (0, 0)) ∧ w'.heap[pa]? = some (.cells #[.slice (some ⟨g, 0, none⟩) m1 cc1] 140 (0, 0)) ∧ w'.heap[pk]? = some (.cells (cl66 3 nm kst kx ki) 66 (0, 0)) ∧ w'.heap[vb]? = some (.cells (cl66 T raw str x ix) 66 (0, 0))) → w'.cell? ⟨pi, 0, none⟩ = some (.int .i64 (k : Int)) ∧ w'.cell? ⟨pa, 0, none⟩ = some (.slice (some ⟨g, 0, none⟩) m1 cc1) ∧ w'.cell? ⟨pk, 1, none⟩ = some (.string nm) ∧ w'.cell? ⟨vb, 1, none⟩ = some (.string raw) from fun w' hSw => ⟨blk_cell hSw.1 0, blk_cell hSw.2.1 0, blk_cell hSw.2.2.1 1, blk_cell hSw.2.2.2 1⟩)
 refine wp_region_held_drew (S := (fun w' => w'.heap[pi]? = some (.cells #[.int .i64 (k : Int)] 3 (0, 0)) ∧ w'.heap[pa]? = some (.cells #[.slice (some ⟨g, 0, none⟩) m1 cc1] 140 (0, 0)) ∧ w'.heap[pk]? = some (.cells (cl66 3 nm kst kx ki) 66 (0, 0)) ∧ w'.heap[vb]? = some (.cells (cl66 T raw str x ix) 66 (0, 0)))) (by kernel_rfl) (show _ ∧ _ ∧ _ ∧ _ from ⟨HJ.out.hi, HJ.out.ha, HJ.out.hk, HJ.out.hv⟩) (fun hHeld => ?_)
 refine tkH (i := 0) (by simp only [gT, gS, gZ]; rfl) (by kernel_rfl) (by exact fun _ _ _ h => h) (.inl ⟨by rfl, fun w hSw => by obtain ⟨c1, c2, c3, c4⟩ := HS4.out _ hSw; go_simp <;> with_reducible rfl⟩) hHeld ?_
 (try simp only [aP, aN, sT, sZ, sS])
 refine tkH (i := 1) (by simp only [gT, gS, gZ]; rfl) (by kernel_rfl) (by exact fun _ _ _ h => h) (.inl ⟨by rfl, fun w hSw => by obtain ⟨c1, c2, c3, c4⟩ := HS4.out _ hSw; go_simp <;> with_reducible rfl⟩) hHeld ?_
 (try simp only [aP, aN, sT, sZ, sS])
 refine tkH (i := 2) (by simp only [gT, gS, gZ]; rfl) (by kernel_rfl) (by exact fun _ _ _ h => h) (.inl ⟨by rfl, fun w hSw => by obtain ⟨c1, c2, c3, c4⟩ := HS4.out _ hSw; go_simp <;> with_reducible rfl⟩) hHeld ?_
 (try simp only [aP, aN, sT, sZ, sS])
 refine tkH (i := 3) (by simp only [gT, gS, gZ]; rfl) (by kernel_rfl) (by exact fun _ _ _ h => h) (.inl ⟨by rfl, fun w hSw => by obtain ⟨c1, c2, c3, c4⟩ := HS4.out _ hSw; go_simp <;> with_reducible rfl⟩) hHeld ?_
 (try simp only [aP, aN, sT, sZ, sS])
 refine tkH (i := 4) (by simp only [gT, gS, gZ]; rfl) (by kernel_rfl) (by exact fun _ _ _ h => h) (.inl ⟨by rfl, fun w hSw => by obtain ⟨c1, c2, c3, c4⟩ := HS4.out _ hSw; go_simp <;> with_reducible rfl⟩) hHeld ?_
 (try simp only [aP, aN, sT, sZ, sS])
 refine tkH (i := 6) (by simp only [gT, gS, gZ]; rfl) (by kernel_rfl) (by exact fun _ _ _ h => h) (.inl ⟨by rfl, fun w hSw => by obtain ⟨c1, c2, c3, c4⟩ := HS4.out _ hSw; go_simp <;> with_reducible rfl⟩) hHeld ?_
 (try simp only [aP, aN, sT, sZ, sS])
 refine tkH (i := 7) (by simp only [gT, gS, gZ]; rfl) (by kernel_rfl) (by exact fun _ _ _ h => h) (.inl ⟨by rfl, fun w hSw => by obtain ⟨c1, c2, c3, c4⟩ := HS4.out _ hSw; go_simp <;> with_reducible rfl⟩) hHeld ?_
 (try simp only [aP, aN, sT, sZ, sS])
 refine tkH (i := 8) (by simp only [gT, gS, gZ]; rfl) (by kernel_rfl) (by exact fun _ _ _ h => h) (.inl ⟨by rfl, fun w hSw => by obtain ⟨c1, c2, c3, c4⟩ := HS4.out _ hSw; go_simp <;> with_reducible rfl⟩) hHeld ?_
 (try simp only [aP, aN, sT, sZ, sS])
 refine tkH (i := 9) (by simp only [gT, gS, gZ]; rfl) (by kernel_rfl) (by exact fun _ _ _ h => h) (.inl ⟨by rfl, fun w hSw => by obtain ⟨c1, c2, c3, c4⟩ := HS4.out _ hSw; go_simp <;> with_reducible rfl⟩) hHeld ?_
 (try simp only [aP, aN, sT, sZ, sS])
 refine tkH (i := 10) (by simp only [gT, gS, gZ]; rfl) (by kernel_rfl) (by exact fun _ _ _ h => h) (.inl ⟨by rfl, fun w hSw => by obtain ⟨c1, c2, c3, c4⟩ := HS4.out _ hSw; go_simp <;> with_reducible rfl⟩) hHeld ?_
 (try simp only [aP, aN, sT, sZ, sS])
 refine tkH (i := 11) (by simp only [gT, gS, gZ]; rfl) (by kernel_rfl) (by exact fun _ _ _ h => h) (.inl ⟨by rfl, fun w hSw => by obtain ⟨c1, c2, c3, c4⟩ := HS4.out _ hSw; go_simp <;> with_reducible rfl⟩) hHeld ?_
 (try simp only [aP, aN, sT, sZ, sS])
 refine tkH (i := 12) (by simp only [gT, gS, gZ]; rfl) (by kernel_rfl) (by exact fun _ _ _ h => h) (.inl ⟨by rfl, fun w hSw => by obtain ⟨c1, c2, c3, c4⟩ := HS4.out _ hSw; go_simp <;> with_reducible rfl⟩) hHeld ?_
 (try simp only [aP, aN, sT, sZ, sS])
 refine wpAnyH_ready (rs := [5]) (by kernel_rfl) (by simp) ?_
 refine AllReadyH.cons (o := ?_) ?_ (fun K hK => ?_) ?_
 rotate_left 1
 ·(simp only [gT, gS, gZ]; rfl)
 ·have r1 := HRC.out
  go_simp
  clear r1
  refine hK.out _ _ (show _ ∧ _ ∧ _ ∧ _ from ⟨HJ.out.hi, HJ.out.ha, HJ.out.hk, HJ.out.hv⟩) (fun hHeld2 => ?_)
  clear hK K hHeld
  have hHeld := hHeld2
  clear hHeld2
  (try simp only [aP, aN, sT, sZ, sS])
  refine wpAnyH_ready (rs := [13]) (by kernel_rfl) (by simp) ?_
  refine AllReadyH.cons (o := ?_) ?_ (fun K hK => ?_) ?_
  rotate_left 1
  ·(simp only [gT, gS, gZ]; rfl)
  ·refine step_append_str_at B (by rfl) (.tmp 21) (.tmp 28) 103 9 5 rfl Tryz.underlying103 und9 info5 br rk.length cr (Lib.byteCells rk) (((⟨#[44]⟩ : ByteArray) ++ nm ++ ⟨#[58]⟩) ++ raw) rfl rfl HRW.out (Nat.le_trans HJ.out.bw HJ.out.be.size) hl8 ?_
   intro b8 c8 w8 ho8 hg8 hb8
   have H7 := Aside0.mk (HJ.out.grown rk HK2.out br rk.length cr HRC.out raw b8 c8 ho8 rfl hg8 hb8)
   clear ho8 hg8 hb8 hl8
   generalize rk.length + (((⟨#[44]⟩ : ByteArray) ++ nm ++ ⟨#[58]⟩) ++ raw).size = q8 at *
   refine hK.out _ _ (show _ ∧ _ ∧ _ ∧ _ from ⟨H7.out.hi, H7.out.ha, H7.out.hk, H7.out.hv⟩) (fun hHeld2 => ?_)
   clear hK K hHeld
   have hHeld := hHeld2
   clear hHeld2
   (try simp only [aP, aN, sT, sZ, sS])
   refine tkH (i := 14) (by simp only [gT, gS, gZ]; rfl) (by kernel_rfl) (by exact fun _ _ _ h => h) (.inl ⟨by rfl, fun w hSw => by obtain ⟨c1, c2, c3, c4⟩ := HS4.out _ hSw; go_simp <;> with_reducible rfl⟩) hHeld ?_
   (try simp only [aP, aN, sT, sZ, sS])
   refine wpAnyH_ready (rs := [15]) (by kernel_rfl) (by simp) ?_
   refine AllReadyH.cons (o := ?_) ?_ (fun K hK => ?_) ?_
   rotate_left 1
   ·(simp only [gT, gS, gZ]; rfl)
   ·have f1 := H7.out.fz
    obtain ⟨u0, hu0⟩ := H7.out.hc
    go_simp
    clear f1 hu0
    refine hK.out _ _ (show _ ∧ _ ∧ _ ∧ _ from ⟨(H7.out.laid).hi, (H7.out.laid).ha, (H7.out.laid).hk, (H7.out.laid).hv⟩) (fun hHeld2 => ?_)
    clear hK K hHeld
    have hHeld := hHeld2
    clear hHeld2
    (try simp only [aP, aN, sT, sZ, sS])
    refine wpAnyH_done (by kernel_rfl) ?_ _
    obtain ⟨c1, c2, c3, c4, f1, f2⟩ := H7.out.laid.cells
    have H8 := Aside0.mk H7.out.laid
    clear H7
    go_wp2_with fail
    go_ret
    exact ⟨rfl, H8.out.next HEQ.out HKB.out _ (by simp)⟩
   exact AllReadyH.nil
  exact AllReadyH.nil
 exact AllReadyH.nil
set_option maxHeartbeats 4000000
set_option maxRecDepth 8192
theorem isarrI_calls (s st : ByteArray) (x : Nat) (ix : Int) (w : World) (hs : 0 < s.size) (b : Bool) (hb : b = (bt s 0 == 91)) : Calls Tryz.prog 79 #[resI 5 s st x ix] w fun e w' => e = .returned (.bool b) ∧ Below w.heap.size w w' := by
 have hw : ∀ o, Below w.heap.size w (w.alloc o) := below_alloc (Below.refl _ _)
 have HW := Aside0.mk hw
 obtain ⟨y, hy⟩ : ∃ y, y = bt s 0 := ⟨_, rfl⟩
 have hby : ∀ h : 0 < s.size, ((s[0]'h).toNat : Int) = y := fun h => by rw [hy]; exact bt_at s 0 h
 rw [← hy] at hb
 have HB := Aside0.mk hb
 clear hy hb hw
 simp only [resI]
 go_enter Tryz.func79, Tryz.ntmps79
 go_wp2_with fail
 go_ret
 exact ⟨by rw [HB.out]; rfl, HW.out _⟩
structure On (B pa : Nat) (rows : List (List UInt8)) (W : World) : Prop where
 ha : ∃ v, W.heap[pa]? = some (.cells #[v] 140 (0, 0)) ∧ Al B W v rows
 ba : B ≤ pa
 bw : B ≤ W.heap.size
theorem On.keep {B pa : Nat} {rows : List (List UInt8)} {W W' : World} (h : On B pa rows W) {b0 : Nat} (hk : KeepN b0 W W') : On B pa rows W' := by
 obtain ⟨v, h1, h2⟩ := h.ha
 exact ⟨⟨v, hk.2.2 _ _ _ _ (by decide) h1, h2.move (fun g c T hT hg => hk.2.2 _ _ _ _ (by rcases hT with rfl | rfl <;> decide) hg)⟩, h.ba, Nat.le_trans h.bw hk.1⟩
structure Ow (W w' : World) (kb vb : Nat) (nm kst : ByteArray) (kx : Nat) (ki : Int) (s str : ByteArray) (x : Nat) (ix : Int) : Prop where
 hk : w'.heap[kb]? = some (.cells (cl66 3 nm kst kx ki) 66 (0, 0))
 hv : w'.heap[vb]? = some (.cells (cl66 5 s str x ix) 66 (0, 0))
 be : Below W.heap.size W w'
theorem Ow.below {W w' w2 : World} {kb vb : Nat} {nm kst : ByteArray} {kx : Nat} {ki : Int} {s str : ByteArray} {x : Nat} {ix : Int} (h : Ow W w' kb vb nm kst kx ki s str x ix) (hb : Below w'.heap.size w' w2) : Ow W w2 kb vb nm kst kx ki s str x ix :=
 ⟨(hb.block _ (blk_lt h.hk)).trans h.hk, (hb.block _ (blk_lt h.hv)).trans h.hv, below_then h.be h.be.size hb⟩
theorem cl98_calls (B pa : Nat) (rows : List (List UInt8)) (nm kst : ByteArray) (kx : Nat) (ki : Int) (s : ByteArray) (hz : s.size ≤ 65536) (hs : 0 < s.size) (h91 : bt s 0 = 91) (E : List S78) (hE : Fla s 1 E) (str : ByteArray) (x : Nat) (ix : Int) (W : World) (hI : On B pa rows W)
  (hrl : rows.length ≤ 1000000) (hel : E.length ≤ 1000000) (hsz : ∀ k, k ≤ E.length → ∀ r ∈ updR nm (rawsA s E) rows k, r.length ≤ 100000000000) (hnm : nm.size ≤ 100000) (hV : ∀ W', Below W.heap.size W W' → VT W' ∧ Tabs W') (hVB : ∀ W', Below B W W' → VT W' ∧ Tabs W') :
  Calls Tryz.prog 98 #[resI 3 nm kst kx ki, resI 5 s str x ix, .pointer (some ⟨pa, 0, none⟩)] W fun e W' => e = .returned (.bool true) ∧ On B pa (updR nm (rawsA s E) rows E.length) W' ∧ Keep66 W W' ∧ Below B W W' := by
 have h1 : Below W.heap.size W ((W.alloc (.cells (cl66 3 nm kst kx ki) 66)).alloc (.cells (cl66 5 s str x ix) 66)) := below_alloc (below_alloc (Below.refl _ _) _) _
 have hv : ((W.alloc (.cells (cl66 3 nm kst kx ki) 66)).alloc (.cells (cl66 5 s str x ix) 66)).heap[W.heap.size + 1]? = some (.cells (cl66 5 s str x ix) 66 (0, 0)) := by
  have e : (W.alloc (.cells (cl66 3 nm kst kx ki) 66)).heap.size = W.heap.size + 1 := by simp
  have := heap_alloc_new (W.alloc (.cells (cl66 3 nm kst kx ki) 66)) (.cells (cl66 5 s str x ix) 66)
  rwa [e] at this
 have hk : ((W.alloc (.cells (cl66 3 nm kst kx ki) 66)).alloc (.cells (cl66 5 s str x ix) 66)).heap[W.heap.size]? = some (.cells (cl66 3 nm kst kx ki) 66 (0, 0)) :=
  (Below.heap_alloc _ _ _ (by simp)).trans (heap_alloc_new W _)
 have H1 := Aside0.mk (show Ow W _ W.heap.size (W.heap.size + 1) nm kst kx ki s str x ix from ⟨hk, hv, h1⟩)
 have HI := Aside0.mk hI
 have H91 := Aside0.mk h91
 have HE := Aside0.mk hE
 have HSZ := Aside0.mk (And.intro hrl (And.intro hel (And.intro hsz (And.intro hnm (And.intro hV hVB)))))
 clear h1 hv hk hI h91 hE hrl hel hsz hnm hV hVB
 simp only [resI]
 go_enter Tryz.func98, Tryz.ntmps98
 go_upto_region 1 with fail
 generalize hW1 : ((W.alloc (.cells (cl66 3 nm kst kx ki) 66)).alloc (.cells (cl66 5 s str x ix) 66)) = W1 at *
 have hW1' := hW1
 simp only [cl66] at hW1'
 try rw [hW1']
 clear hW1 hW1'
 obtain ⟨v0, v1, v2, v3, v4, v5⟩ := cells6 H1.out.hv
 have hmf : ∀ (fn : Fn) (first cap : Array Value) (w : World), (Instr.makeFunc fn first cap).run Tryz.prog w = .ok (.func fn first cap) w := fun _ _ _ _ => rfl
 go_upto_region 4 with (go_at_call 79; refine (isarrI_calls s str x ix _ hs true (by rw [H91.out]; rfl)).mono ?_; rintro e w2 ⟨rfl, hb⟩; have H2 := Aside0.mk (H1.out.below hb); clear hb v0 v1 v2 v3 v4 v5; obtain ⟨v0, v1, v2, v3, v4, v5⟩ := cells6 H2.out.hv)
 have H3 := Aside0.mk (H2.out.below (below_alloc (Below.refl w2.heap.size w2) (.cells #[.int .i64 0] 3)))
 have hi3 := heap_alloc_new w2 (.cells #[.int .i64 0] 3)
 have hsz2 := H2.out.be.size
 have hpi : B ≤ w2.heap.size := Nat.le_trans HI.out.bw hsz2
 clear v0 v1 v2 v3 v4 v5
 obtain ⟨v0, v1, v2, v3, v4, v5⟩ := cells6 H3.out.hv
 generalize hW4 : w2.alloc (.cells #[.int .i64 0] 3) = W4 at *
 generalize w2.heap.size = pi at *
 clear hW4
 have HO4 := HI.out.keep (b0 := 0) (.of_below H3.out.be (Nat.zero_le _))
 have HJ := Aside0.mk (show Jv B W4.heap.size pi pa W.heap.size nm kst kx ki (rawsA s E) rows 0 W4 from ⟨hi3, H3.out.hk, HO4.ha, blk_lt H3.out.hk, hpi, HI.out.ba, HO4.bw⟩)
 have HB4 := Aside0.mk (H3.out.be.mono HI.out.bw)
 have HFE := Aside0.mk (foreach_arr (B := B) (Inv := Jv B W4.heap.size pi pa W.heap.size nm kst kx ki (rawsA s E) rows) s (by omega) hs H91.out E HE.out 99 #[.pointer (some ⟨pi, 0, none⟩), .pointer (some ⟨pa, 0, none⟩), .pointer (some ⟨W.heap.size, 0, none⟩)] str x ix W4 HO4.bw HJ.out (fun n W W' h hk => h.keep hk)
  (fun k c hget W' hb hI kx2 str2 x2 ix2 => by
   have hkl : k < E.length := by
    by_cases q : k < E.length
    ·exact q
    ·rw [List.getElem?_eq_none (by omega)] at hget; cases hget
   exact cl99_calls B W4.heap.size pi pa W.heap.size nm kst kx ki (rawsA s E) rows k _ (by simp [rawsA, hget]) W' hI 2 _ _ kx2 0 (kT c.f0) str2 x2 ix2 HSZ.out.1 (by have := HSZ.out.2.1; omega) (HSZ.out.2.2.1 k (by omega)) HSZ.out.2.2.2.1 (by rw [ByteArray.size_extract]; omega))
  (fun W' hb => HSZ.out.2.2.2.2.2 W' (HB4.out.trans hb)) (enters_of Tryz.func99 (by kernel_rfl) rfl))
 simp only [resI] at HFE
 clear HO4 hi3 hpi
 go_wp2_with (go_at_call 44; refine HFE.out.mono ?_; rintro e w9 ⟨rfl, hi, hb, h6⟩; have H9 := Aside0.mk (And.intro hi (And.intro hb h6)); clear hi hb h6 v0 v1 v2 v3 v4 v5)
 go_ret
 obtain ⟨hi, hb, h6⟩ := H9.out
 exact ⟨rfl, ⟨hi.ha, hi.ba, hi.bw⟩, fun g c fr hg => h6 g c fr ((H3.out.be.block g (blk_lt hg)).trans hg), HB4.out.trans hb⟩
set_option maxHeartbeats 4000000
set_option maxRecDepth 8192
structure Ik (B bb bi bo : Nat) (raws : List ByteArray) (n : Nat) (W : World) : Prop where
 iv : Iv B bb bi raws n W
 ho : W.heap[bo]? = some (.cells #[.bool true] 4 (0, 0))
theorem Ik.keep {B bb bi bo : Nat} {raws : List ByteArray} {n : Nat} {W W' : World} (h : Ik B bb bi bo raws n W) {b0 : Nat} (hk : KeepN b0 W W') : Ik B bb bi bo raws n W' :=
 ⟨h.iv.keep hk, hk.2.2 _ _ _ _ (by decide) h.ho⟩
theorem ik_next {B bb bi bo : Nat} {raws : List ByteArray} {k : Nat} {W W1 w2 : World} (hI : Ik B bb bi bo raws k W1) (hK : Keep66 W W1 ∧ Below B W W1) (hb : Bld B bb (Lib.byteCells (outL raws (k + 1))) w2) (hbel : Below B W1 w2) (hko : KeepO W1 w2) :
  Ik B bb bi bo raws (k + 1) (w2.setCell ⟨bi, 0, none⟩ (.int .i64 ((k : Int) + 1))) ∧ Keep66 W (w2.setCell ⟨bi, 0, none⟩ (.int .i64 ((k : Int) + 1))) ∧ Below B W (w2.setCell ⟨bi, 0, none⟩ (.int .i64 ((k : Int) + 1))) := by
 obtain ⟨h1, h2, h3⟩ := iv_next hI.iv hK hb hbel hko
 have ho2 := hko _ _ _ _ (by decide) (by decide) hI.ho
 have hc2 := hko _ _ _ _ (by decide) (by decide) hI.iv.hc
 have hne : bo ≠ bi := by
  intro e
  subst e
  rw [hc2] at ho2
  simp at ho2
 exact ⟨⟨h1, (Below.heap_setCell w2 ⟨bi, 0, none⟩ _ bo hne).trans ho2⟩, h2, h3⟩
theorem cl107_calls (B bb bi bo : Nat) (raws : List ByteArray) (hrl : raws.length ≤ 1000000) (hlen : ∀ k, k ≤ raws.length → (outL raws k).length ≤ 1000000) (k : Nat) (raw : ByteArray) (hraw : raws[k]? = some raw) (W : World) (hI : Ik B bb bi bo raws k W) (kt : Int) (r ks : ByteArray) (kx : Nat) (ki T : Int) (str : ByteArray) (x : Nat) (ix : Int) :
  Calls Tryz.prog 107 #[resI kt raw ks kx ki, resI T r str x ix, .pointer (some ⟨bi, 0, none⟩), .pointer (some ⟨bb, 0, none⟩), .pointer (some ⟨bo, 0, none⟩)] W fun e W' => e = .returned (.bool true) ∧ Ik B bb bi bo raws (k + 1) W' ∧ Keep66 W W' ∧ Below B W W' := by
 have hkl : k < raws.length := by
  by_cases c : k < raws.length
  ·exact c
  ·rw [List.getElem?_eq_none (by omega)] at hraw; cases hraw
 have hk6 : (k : Int) ≤ 1000000 := by omega
 have hl1 := hlen k (by omega)
 have hl2 := hlen (k + 1) (by omega)
 have hgd : raws.getD k ⟨#[]⟩ = raw := by rw [List.getD_eq_getElem?_getD, hraw]; rfl
 have hB := hI.iv.bw
 have h1 : Below W.heap.size W ((W.alloc (.cells (cl66 kt raw ks kx ki) 66)).alloc (.cells (cl66 T r str x ix) 66)) := below_alloc (below_alloc (Below.refl _ _) _) _
 have hv : ((W.alloc (.cells (cl66 kt raw ks kx ki) 66)).alloc (.cells (cl66 T r str x ix) 66)).heap[W.heap.size]? = some (.cells (cl66 kt raw ks kx ki) 66 (0, 0)) :=
  (Below.heap_alloc _ _ _ (by simp)).trans (heap_alloc_new W _)
 have hI1 := hI.keep (b0 := 0) (.of_below h1 (Nat.zero_le _))
 have HK1 := Aside0.mk (And.intro (Keep66.of_below h1) (h1.mono hB))
 simp only [resI]
 generalize hW1 : ((W.alloc (.cells (cl66 kt raw ks kx ki) 66)).alloc (.cells (cl66 T r str x ix) 66)) = W1 at *
 have cv := blk_cell hv 1
 have cc := blk_cell hI1.iv.hc 0
 have co := blk_cell hI1.ho 0
 have HV := Aside0.mk hv
 have HI1 := Aside0.mk hI1
 have hf1 := blk_frozen hI1.iv.hc
 have hls := outL_len raws k raw hgd
 have HL := Aside0.mk (And.intro hl1 (And.intro hl2 (And.intro hgd hls)))
 clear hv hI hI1 h1 hlen hl1 hl2 hgd hls
 by_cases hk0 : k = 0
 ·subst hk0
  go_enter Tryz.func107, Tryz.ntmps107
  go_upto_region 1 with fail
  clear hW1
  go_wp2_with (go_at_call 82; refine (ws_calls B bb _ raw W1 HI1.out.iv.hb (by have := HL.out; simp [Lib.byteCells]; omega) HI1.out.iv.bw).mono ?_; rintro e w2 ⟨rfl, hb, hbel, hko⟩; have HN := Aside0.mk (ik_next HI1.out HK1.out (by rw [← outL_zero raws raw HL.out.2.2.1]; exact hb) hbel hko); have hc2 := hko _ _ _ _ (by decide) (by decide) HI1.out.iv.hc; clear hb hbel hko cc hf1 cv co; have cc := blk_cell hc2 0; have hf1 := blk_frozen hc2; clear hc2)
  go_ret
  exact ⟨rfl, HN.out⟩
 have x1 : decide (0 < (k : Int)) = true := decide_eq_true (by omega)
 have HK0 := Aside0.mk hk0
 go_enter Tryz.func107, Tryz.ntmps107
 go_upto_region 1 with fail
 clear hW1
 go_wp2_with (first
  | (go_at_call 80; refine (wb_calls B bb _ 44 W1 HI1.out.iv.hb (by have := HL.out; simp [Lib.byteCells]; omega) HI1.out.iv.bw).mono ?_; rintro e w2 ⟨rfl, hb, hbel, hko⟩; have H2 := Aside0.mk (And.intro hb (And.intro hbel hko)); have hv2 := hko _ _ _ _ (by decide) (by decide) HV.out; have ho2 := hko _ _ _ _ (by decide) (by decide) HI1.out.ho; clear hb hbel hko cv cc hf1 co; have cv := blk_cell hv2 1; have co := blk_cell ho2 0; clear hv2 ho2)
  | (go_at_call 82; refine (ws_calls B bb _ raw w2 (bld_isb H2.out.1) (by have := HL.out; simp [Lib.byteCells]; omega) (by have := HI1.out.iv.bw; have := H2.out.2.1.size; omega)).mono ?_; rintro e w3 ⟨rfl, hb, hbel, hko⟩; have HN := Aside0.mk (ik_next HI1.out HK1.out (by rw [← outL_succ raws k HK0.out raw HL.out.2.2.1]; exact hb) (H2.out.2.1.trans hbel) (H2.out.2.2.trans hko)); have hc2 := (H2.out.2.2.trans hko) _ _ _ _ (by decide) (by decide) HI1.out.iv.hc; clear hb hbel hko cv co; have cc := blk_cell hc2 0; have hf1 := blk_frozen hc2; clear hc2))
 go_ret
 exact ⟨rfl, HN.out⟩
set_option maxHeartbeats 8000000
set_option maxRecDepth 8192
def namesOf (s : ByteArray) (L : List (S115 × S78)) : List ByteArray := L.map (fun p => s.extract p.1.f0.toNat p.1.f1.toNat)
theorem fl_lenN {s : ByteArray} {i : Int} {L : List (S115 × S78)} (h : Fl s i L) : ((((namesOf s L).map (fun r => r.size + 1)).sum : Nat) : Int) ≤ s.size - i := by
 induction h with
 | done => simp [namesOf]
 | skip i L h0 h1 h2 h3 ih => omega
 | item n c L h1 h2 h3 h4 h5 h6 h7 h8 ih =>
  obtain ⟨c0, c1, c2, _⟩ := h4.ok
  have := Str.lt h1
  have h0 := h1.1
  have := h3.1
  have hs : ((s.extract n.f0.toNat n.f1.toNat).size : Int) = n.f1 - n.f0 := by rw [ByteArray.size_extract]; omega
  simp only [namesOf, List.map_cons, List.sum_cons] at ih ⊢
  omega
theorem names_bounds {s : ByteArray} (hz : s.size ≤ 65536) {i : Int} (h0 : 0 ≤ i) {L : List (S115 × S78)} (h : Fl s i L) : (namesOf s L).length ≤ 65536 ∧ ∀ k, k ≤ (namesOf s L).length → (outL (namesOf s L) k).length ≤ 65537 := by
 have h1 := fl_lenN h
 have h2 := len_sum (namesOf s L)
 refine ⟨by omega, fun k hk => ?_⟩
 have h3 := outL_total _ k hk
 have h4 := sum_take ((namesOf s L).map (fun r => r.size + 1)) k
 rw [← List.map_take] at h4
 omega
theorem isobj_calls (s : ByteArray) (x : Nat) (w : World) (hs : 0 < s.size) (b : Bool) (hb : b = (bt s 0 == 123)) : Calls Tryz.prog 97 #[res 5 s ⟨#[]⟩ x] w fun e w' => e = .returned (.bool b) ∧ Below w.heap.size w w' := by
 have hw : ∀ o, Below w.heap.size w (w.alloc o) := below_alloc (Below.refl _ _)
 have HW := Aside0.mk hw
 obtain ⟨y, hy⟩ : ∃ y, y = bt s 0 := ⟨_, rfl⟩
 have hby : ∀ h : 0 < s.size, ((s[0]'h).toNat : Int) = y := fun h => by rw [hy]; exact bt_at s 0 h
 rw [← hy] at hb
 have HB := Aside0.mk hb
 clear hy hb hw
 simp only [res]
 go_enter Tryz.func97, Tryz.ntmps97
 go_wp2_with fail
 go_ret
 exact ⟨by rw [HB.out]; rfl, HW.out _⟩
theorem modkeys_calls (s : ByteArray) (hz : s.size ≤ 65536) (hs : 0 < s.size) (h123 : bt s 0 = 123) (L : List (S115 × S78)) (hL : Fl s 1 L) (w : World) (hT : Tabs w) (hV : VT w) :
  Calls Tryz.prog 75 #[.string s, .string ⟨#[]⟩] w fun e w' => e = .returned (.string ⟨(outL (namesOf s L) L.length ++ [93]).toArray⟩) ∧ Below w.heap.size w w' := by
 have HP := Aside0.mk (fun W => parse_json s W (by omega) hs (.inl h123))
 have HT := Aside0.mk (And.intro hT hV)
 have HL := Aside0.mk hL
 have H123 := Aside0.mk h123
 have hbd := names_bounds hz (by omega) hL
 have hll : (namesOf s L).length = L.length := by simp [namesOf]
 have HBD := Aside0.mk (And.intro hbd hll)
 clear hT hV hL h123 hbd hll
 go_enter Tryz.func75, Tryz.ntmps75
 go_upto_region 5 with (first
  | (go_at_call 43; refine (HP.out _).mono ?_; rintro e w2 ⟨x, rfl, hb⟩; simp only [res]; have H2 := Aside0.mk (Ax.new hb s x); clear hb)
  | (go_at_call 63; refine (exists_calls 5 s ⟨#[]⟩ x _ (.inl (by decide))).mono ?_; rintro e w3 ⟨rfl, hb⟩; have H3 := Aside0.mk (H2.out.below hb); clear hb; obtain ⟨n0, n1, n2, n3, n4, n5⟩ := cells6 H3.out.hA)
  | (go_at_call 97; refine (isobj_calls s x _ hs true (by rw [H123.out]; rfl)).mono ?_; rintro e w4 ⟨rfl, hb⟩; have H4 := Aside0.mk (H3.out.below hb); clear hb n0 n1 n2 n3 n4 n5; obtain ⟨n0, n1, n2, n3, n4, n5⟩ := cells6 H4.out.hA))
 have hob := heap_alloc_new w4 (.cells #[.bool true] 4)
 have H4b := Aside0.mk (And.intro (H4.out.below (below_alloc (Below.refl w4.heap.size w4) (.cells #[.bool true] 4))) hob)
 clear n0 n1 n2 n3 n4 n5 H2 H3 H4 hob
 generalize w2.heap.size = A at *
 generalize w4.alloc (.cells #[.bool true] 4) = W4 at *
 generalize w4.heap.size = bo at *
 go_upto_region 7 with (go_at_call 80; refine (wb_calls W4.heap.size W4.heap.size [] 91 _ (Lib.fresh_isBuilder 121 5 W4) (by simp) (by simp)).mono ?_; rintro e w5 ⟨rfl, hb, hbel, hko⟩; have H5 := Aside0.mk (And.intro hb (And.intro (H4b.out.1.later (below_alloc (Below.refl _ _) _) hbel) (And.intro hbel (((below_alloc (Below.refl W4.heap.size W4) (.cells #[.pointer none, .slice none 0 0] 121)).trans hbel).block bo (blk_lt H4b.out.2) |>.trans H4b.out.2)))); clear hb hbel hko)
 have hmf : ∀ (fn : Fn) (first cap : Array Value) (w : World), (Instr.makeFunc fn first cap).run Tryz.prog w = .ok (.func fn first cap) w := fun _ _ _ _ => rfl
 have hsz5 : W4.heap.size ≤ w5.heap.size := by have := H5.out.2.2.1.size; simp at this; omega
 have HI0 : Ik W4.heap.size W4.heap.size w5.heap.size bo (namesOf s L) 0 (w5.alloc (.cells #[.int .i64 0] 3)) :=
  ⟨⟨heap_alloc_new w5 _, isb_below (bld_isb H5.out.1) (below_alloc (Below.refl _ _) _), hsz5, by simp; omega⟩, (Below.heap_alloc w5 _ _ (blk_lt H5.out.2.2.2)).trans H5.out.2.2.2⟩
 have HA8 := (H5.out.2.1).below (below_alloc (Below.refl w5.heap.size w5) (.cells #[.int .i64 0] 3))
 have H8 := Aside0.mk (And.intro HI0 HA8)
 clear HI0 hsz5
 obtain ⟨n0, n1, n2, n3, n4, n5⟩ := cells6 HA8.hA
 clear HA8
 go_upto_region 8 with fail
 generalize hW8 : w5.alloc (.cells #[.int .i64 0] 3) = W8 at *
 generalize w5.heap.size = bi at *
 have hww : w.heap.size ≤ W4.heap.size := H4b.out.1.be.size
 have HFE := Aside0.mk (foreach_obj (B := W4.heap.size) (Inv := Ik W4.heap.size W4.heap.size bi bo (namesOf s L)) s hz hs H123.out L HL.out 107 #[.pointer (some ⟨bi, 0, none⟩), .pointer (some ⟨W4.heap.size, 0, none⟩), .pointer (some ⟨bo, 0, none⟩)] x W8 H8.out.1.iv.bw H8.out.1 (fun n W W' h hk => h.keep hk)
  (fun k nm c hget W hb hI kst str kx x ix' ix => cl107_calls W4.heap.size W4.heap.size bi bo (namesOf s L) (by have := HBD.out.1.1; omega) (fun k hk => by have := HBD.out.1.2 k hk; omega) k _ (by simp [namesOf, hget]) W hI 3 _ kst kx ix' (kT c.f0) str x ix)
  (fun W hb => Tabs2.below HT.out (H8.out.2.be.trans (hb.mono hww))) (enters_of Tryz.func107 (by kernel_rfl) rfl))
 simp only [res] at HFE
 clear hW8
 go_upto_region 9 with (go_at_call 44; refine HFE.out.mono ?_; rintro e w9 ⟨rfl, hi, hb⟩; have H9 := Aside0.mk (And.intro hi.iv (H8.out.2.be.trans (hb.mono hww))); clear hi hb n0 n1 n2 n3 n4 n5)
 go_upto_region 10 with (go_at_call 80; refine (wb_calls W4.heap.size W4.heap.size _ 93 w9 H9.out.1.hb (by have := HBD.out.1.2 L.length (by rw [HBD.out.2]; omega); simp [Lib.byteCells]; omega) H9.out.1.bw).mono ?_; rintro e w10 ⟨rfl, hb, hbel, hko⟩; have H10 := Aside0.mk (And.intro hb (H9.out.2.trans (hbel.mono hww))); have hz10 := hbel.size; have hz9 := H9.out.1.bw; clear hb hbel hko)
 have HBB : Lib.IsBuilder 121 5 W4.heap.size W4.heap.size (Lib.byteCells (outL (namesOf s L) L.length ++ [93])) w10 := by
  have := bld_isb H10.out.1
  have e : Lib.byteCells (outL (namesOf s L) L.length) ++ [.int .u8 93] = Lib.byteCells (outL (namesOf s L) L.length ++ [93]) := by simp [Lib.byteCells]
  rwa [e] at this
 have HBB := Aside0.mk HBB
 go_wp2_with (go_at_call 83; refine (Tryz.Builder_String_any W4.heap.size W4.heap.size _ w10 HBB.out (by omega)).mono ?_; rintro e w11 ⟨rfl, hb⟩; have H11 := Aside0.mk (H10.out.2.trans (hb.mono hww)); clear hb)
 go_ret
 exact ⟨rfl, H11.out⟩
theorem doork_calls (s O : ByteArray) (w : World) (h : ∀ W, Below w.heap.size w W → Calls Tryz.prog 75 #[.string s, .string ⟨#[]⟩] W fun e w' => e = .returned (.string O) ∧ Below W.heap.size W w') : Calls Tryz.prog 49 #[.string s] w fun e w' => e = .returned (.string O) ∧ Below w.heap.size w w' := by
 have H := Aside0.mk (h w (Below.refl _ _))
 clear h
 go_enter Tryz.func49, Tryz.ntmps49
 go_wp2_with (go_at_call 75; refine H.out.mono ?_; rintro e w2 ⟨rfl, hb⟩; have HB := Aside0.mk hb; clear hb)
 go_ret
 exact ⟨rfl, HB.out⟩
theorem gjkeys_calls (s : ByteArray) (hz : s.size ≤ 65536) (hs : 0 < s.size) (h123 : bt s 0 = 123) (L : List (S115 × S78)) (hL : Fl s 1 L) (w : World) (hT : Tabs w) (hV : VT w) :
  Calls Tryz.prog 22 #[.string s] w fun e w' => e = .returned (.string ⟨(outL (namesOf s L) L.length ++ [93]).toArray⟩) ∧ Below w.heap.size w w' := by
 have H := Aside0.mk (doork_calls s _ w (fun W hb => modkeys_calls s hz hs h123 L hL W (hT.below hb) (hV.below hb)))
 clear hT hV hL h123
 go_enter Tryz.func22, Tryz.ntmps22
 go_wp2_with (go_at_call 49; refine H.out.mono ?_; rintro e w2 ⟨rfl, hb⟩; have HB := Aside0.mk hb; clear hb)
 go_ret
 exact ⟨rfl, HB.out⟩
end Go.Proofs.YtgiioglmkogpkaaGreatDoor.F
namespace Go.Proofs.YtgiioglmkogpkaaGreatDoor.V
open Go.RowKit Go.Proofs.YtgiioglmkogpkaaGreatDoorW.PrintWords Go.Proofs.YtgiioglmkogpkaaGreatDoorW.PrintLast Go.Proofs.YtgiioglmkogpkaaGreatDoorW.PrintMore
open M L
theorem s25_ext {t u : S25} (h0 : t.f0 = u.f0) (h1 : t.f1 = u.f1) (h2 : t.f2 = u.f2) (h3 : t.f3 = u.f3) : t = u := by
 cases t; cases u; simp at h0 h1 h2 h3; subst h0 h1 h2 h3; rfl
theorem TrOf.one {s : ByteArray} {q : S78} {t u : S25} (h : TrOf s q t) (h2 : TrOf s q u) : t = u := by
 have := Ev.one h h2
 simp only [Prod.mk.injEq] at this
 exact s25_ext this.1 this.2.1 this.2.2.1 this.2.2.2
theorem tr_sh {s s' : ByteArray} (hz : s.size ≤ 65536) (hz' : s'.size ≤ 65536) {c : S78} (h : G s (.val c)) {t : S25} (ht : TrOf s c t) {d : Int} (g : Ag s s' d c.f1 c.f2) : TrOf s' (shP d c) t := by
 obtain ⟨T, R, ts, _, _, h1, _, _, h2⟩ := h.tr hz
 rw [TrOf.one ht h1]
 exact h2 s' d hz' g
def raw (s : ByteArray) (c : S78) : ByteArray := s.extract c.f1.toNat c.f2.toNat
def joinL : List ByteArray → List UInt8
 | [] => [93]
 | [r] => r.data.toList ++ [93]
 | r :: r2 :: rs => r.data.toList ++ 44 :: joinL (r2 :: rs)
theorem joinL_len : ∀ rs : List ByteArray, rs ≠ [] → (joinL rs).length = (rs.map (fun r => r.size + 1)).sum
 | [], h => absurd rfl h
 | [r], _ => by simp [joinL]
 | r :: r2 :: rs, _ => by
  have := joinL_len (r2 :: rs) (by simp)
  simp only [joinL, List.length_append, List.length_cons, this, List.map_cons, List.sum_cons]
  simp
  omega
theorem bt_drop (O : List UInt8) (p : Nat) (l : List UInt8) (h : O.drop p = l) (j : Nat) (hj : j < l.length) : bt ⟨O.toArray⟩ ((p + j : Nat) : Int) = (l[j].toNat : Int) := by
 have h2 := F.bt_list O (p + j)
 rw [h2]
 subst h
 rw [List.getD_eq_getElem?_getD, List.getElem_drop]
 rw [List.length_drop] at hj
 rw [List.getElem?_eq_getElem (by omega)]
 rfl
theorem ag_raw {s : ByteArray} (O : List UInt8) (p : Nat) {c : S78} (h0 : 0 ≤ c.f1) (h1 : c.f1 < c.f2) (h2 : c.f2 ≤ s.size) (rest : List UInt8) (h : O.drop p = (raw s c).data.toList ++ rest) : Ag s ⟨O.toArray⟩ (p - c.f1) c.f1 c.f2 := by
 have hs : ((raw s c).size : Int) = c.f2 - c.f1 := by unfold raw; rw [ByteArray.size_extract]; omega
 have hl : (raw s c).data.toList.length = (raw s c).size := by simp
 have hO : (O.drop p).length = (raw s c).size + rest.length := by rw [h, List.length_append, hl]
 rw [List.length_drop] at hO
 have hoz : ((⟨O.toArray⟩ : ByteArray).size : Int) = O.length := by simp [ByteArray.size]
 refine ⟨h0, by omega, h2, by omega, fun i x y => ?_⟩
 obtain ⟨j, hj⟩ : ∃ j : Nat, (j : Int) = i - c.f1 := ⟨(i - c.f1).toNat, by omega⟩
 have hjs : j < (raw s c).size := by omega
 have hb := bt_drop O p _ h j (by rw [List.length_append, hl]; omega)
 rw [show i + (p - c.f1) = ((p + j : Nat) : Int) by omega, hb]
 have hb2 := bt_at (raw s c) (j : Int) (by rw [Int.toNat_natCast]; exact hjs)
 have hb3 : bt (raw s c) (j : Int) = bt s i := by
  unfold raw
  rw [bt_extract s _ _ _ (by omega) (by omega) (by omega)]
  congr 1
  omega
 rw [← hb3, ← hb2]
 simp only [Int.toNat_natCast]
 rw [List.getElem_append_left (by rw [hl]; exact hjs)]
 rfl
theorem els_out (s : ByteArray) (hz : s.size ≤ 65536) (O : List UInt8) (hO : O.length ≤ 65536) : ∀ (cs : List S78) (ts : List S25), cs ≠ [] → TLs s cs ts → (∀ c ∈ cs, G s (.val c)) → ∀ p : Nat, O.drop p = joinL (cs.map (raw s)) → ∃ C', G ⟨O.toArray⟩ (.els p C' O.length) ∧ TLs ⟨O.toArray⟩ C' ts := by
 have hoz : (⟨O.toArray⟩ : ByteArray).size = O.length := by simp [ByteArray.size]
 have h1 : ∀ (c : S78) (t : S25), G s (.val c) → TrOf s c t → ∀ (p : Nat) (rest : List UInt8) (x : UInt8), O.drop p = (raw s c).data.toList ++ (x :: rest) →
   ∃ c' : S78, ∃ b : Nat, c'.f1 = p ∧ c'.f2 = b ∧ G ⟨O.toArray⟩ (.val c') ∧ TrOf ⟨O.toArray⟩ c' t ∧ bt ⟨O.toArray⟩ b = x.toNat ∧ O.drop (b + 1) = rest ∧ b < O.length := by
  intro c t hg ht p rest x h
  obtain ⟨k0, k1, k2, _⟩ := hg.ok
  have g := ag_raw O p k0 (by omega) k2 _ h
  have hs : ((raw s c).size : Int) = c.f2 - c.f1 := by unfold raw; rw [ByteArray.size_extract]; omega
  have hl : (raw s c).data.toList.length = (raw s c).size := by simp
  have hb := bt_drop O p _ h (raw s c).size (by rw [List.length_append, hl]; simp)
  have hlen : (O.drop p).length = (raw s c).size + 1 + rest.length := by rw [h, List.length_append, hl]; simp; omega
  rw [List.length_drop] at hlen
  refine ⟨shP (p - c.f1) c, p + (raw s c).size, by rw [shP_f1]; omega, by rw [shP_f2]; omega, hg.sh (it := .val c) g, tr_sh hz (by rw [hoz]; exact hO) hg ht g, ?_, ?_, by omega⟩
  ·rw [hb, List.getElem_append_right (by rw [hl]; omega)]
   simp [hl]
  ·have := congrArg (List.drop ((raw s c).size + 1)) h
   rw [List.drop_drop] at this
   rw [show p + (raw s c).size + 1 = p + ((raw s c).size + 1) by omega, this, List.drop_append]
   rw [List.drop_of_length_le (by rw [hl]; omega)]
   simp [hl]
 intro cs
 induction cs with
 | nil => intro ts h; exact absurd rfl h
 | cons c cs ih =>
  intro ts _ hT hG p hp
  cases ts with
  | nil => exact hT.elim
  | cons t ts =>
   cases cs with
   | nil =>
    simp only [List.map_cons, List.map_nil, joinL] at hp
    obtain ⟨c', b, e1, e2, hg, ht, hb, hd, hlt⟩ := h1 c t (hG c (by simp)) hT.1 p [] 93 hp
    have hbO : b + 1 = O.length := by
     have := congrArg List.length hd
     simp at this
     omega
    refine ⟨[c'], ?_, ht, by cases ts with | nil => exact trivial | cons u us => exact hT.2.elim⟩
    have := G.els1 c' b hg ⟨by omega, fun i x y => by omega⟩ (by rw [hoz]; omega) (by rw [hb]; rfl)
    rwa [e1, show (b : Int) + 1 = (O.length : Int) by omega] at this
   | cons c2 cs =>
    simp only [List.map_cons, joinL] at hp
    obtain ⟨c', b, e1, e2, hg, ht, hb, hd, hlt⟩ := h1 c t (hG c (by simp)) hT.1 p _ 44 hp
    obtain ⟨C', hC, hT2⟩ := ih ts (by simp) hT.2 (fun c h => hG c (by simp [h])) (b + 1) (by simpa using hd)
    refine ⟨c' :: C', ?_, ht, hT2⟩
    have := G.elsn c' b (b + 1 : Nat) O.length C' hg ⟨by omega, fun i x y => by omega⟩ (by rw [hoz]; omega) (by rw [hb]; rfl) ⟨by omega, fun i x y => by omega⟩ hC
    rwa [e1] at this
theorem list_out (s : ByteArray) (hz : s.size ≤ 65536) (cs : List S78) (ts : List S25) (hT : TLs s cs ts) (hG : ∀ c ∈ cs, G s (.val c)) (O : List UInt8) (hO : O = 91 :: joinL (cs.map (raw s))) (hl : O.length ≤ 65536) :
  ∃ C', G ⟨O.toArray⟩ (.val ⟨5, 0, O.length, [], C'⟩) ∧ TLs ⟨O.toArray⟩ C' ts := by
 have hoz : (⟨O.toArray⟩ : ByteArray).size = O.length := by simp [ByteArray.size]
 have hb0 : bt ⟨O.toArray⟩ 0 = 91 := by
  have := bt_drop O 0 O (by simp) 0 (by rw [hO]; simp)
  simp only [Nat.zero_add] at this
  rw [show ((0 : Nat) : Int) = 0 from rfl] at this
  rw [this]
  simp [hO]
 cases cs with
 | nil =>
  cases ts with
  | cons t ts => exact hT.elim
  | nil =>
   refine ⟨[], ?_, trivial⟩
   have hO2 : O = [91, 93] := by rw [hO]; rfl
   have hb1 := bt_drop O 1 [93] (by rw [hO2]; rfl) 0 (by simp)
   have := G.arr0 (s := ⟨O.toArray⟩) 0 1 (by omega) hb0 ⟨by omega, fun i x y => by omega⟩ (by rw [hoz, hO2]; simp) (by simpa using hb1)
   rwa [show (1 : Int) + 1 = (O.length : Int) by rw [hO2]; rfl] at this
 | cons c cs =>
  obtain ⟨C', hC, hT2⟩ := els_out s hz O hl (c :: cs) ts (by simp) hT hG 1 (by rw [hO]; rfl)
  exact ⟨C', .arr 0 1 _ C' (by omega) hb0 ⟨by omega, fun i x y => by omega⟩ hC, hT2⟩
theorem TrOf.list {s : ByteArray} (hz : s.size ≤ 65536) {e : Int} {C : List S78} {ts : List S25} (h : G s (.val ⟨5, 0, e, [], C⟩)) (hT : TLs s C ts) : TrOf s ⟨5, 0, e, [], C⟩ ⟨5, ⟨#[]⟩, [], ts⟩ := by
 obtain ⟨k0, k1, k2, k3, k4⟩ := h.ok
 dsimp only at k1 k2 k3 k4
 exact tr_val s hz ⟨5, 0, e, [], C⟩ k0 (by dsimp only; omega) k2 (by simp) (by dsimp only; omega) _ [] ts (.inr (.inr ⟨by dsimp only; decide, by dsimp only; decide, rfl⟩)) trivial hT
end Go.Proofs.YtgiioglmkogpkaaGreatDoor.V
namespace Go.Proofs.YtgiioglmkogpkaaGreatDoor.F
open Go.RowKit Go.Proofs.YtgiioglmkogpkaaGreatDoorW.PrintWords Go.Proofs.YtgiioglmkogpkaaGreatDoorW.PrintLast Go.Proofs.YtgiioglmkogpkaaGreatDoorW.PrintMore
open M L V
set_option maxHeartbeats 4000000
set_option maxRecDepth 8192
attribute [local go_sem] run_store_float
def Ef (c : S78) : List S78 := shL (-c.f1) c.f4
def rowsN (s : ByteArray) (L : List (S115 × S78)) : Nat → List (List UInt8)
 | 0 => []
 | n + 1 => match L[n]? with
  | some (nm, c) => updR (s.extract nm.f0.toNat nm.f1.toNat) (rawsA (raw s c) (Ef c)) (rowsN s L n) (Ef c).length
  | none => rowsN s L n
def datI (rows : List (List UInt8)) : Nat → List Int
 | 0 => [91]
 | j + 1 => datI rows j ++ (if j = 0 then [] else [44]) ++ [123] ++ ((rows.getD j []).drop 1).map (fun b => (b.toNat : Int)) ++ [125]
theorem datI_len (rows : List (List UInt8)) (h : ∀ r ∈ rows, r.length ≤ 65536) : ∀ j, (datI rows j).length ≤ 1 + j * 65539
 | 0 => by simp [datI]
 | j + 1 => by
  have ih := datI_len rows h j
  have hr : (rows.getD j []).length ≤ 65536 := by
   rw [List.getD_eq_getElem?_getD]
   by_cases q : j < rows.length
   ·rw [List.getElem?_eq_getElem q]; exact h _ (List.getElem_mem q)
   ·rw [List.getElem?_eq_none (by omega)]; simp
  simp only [datI, List.length_append, List.length_map, List.length_drop, List.length_cons, List.length_nil]
  have : (if j = 0 then ([] : List Int) else [44]).length ≤ 1 := by split <;> simp
  omega
def rI (r : List UInt8) : List Int := r.map (fun b => (b.toNat : Int))
theorem rI_nums (r : List UInt8) : nums .u8 (rI r) = Lib.byteCells r := by simp [nums, rI, Lib.byteCells]
theorem datI_succ (rows : List (List UInt8)) (j : Nat) (r : List UInt8) (h : rows[j]? = some r) : datI rows (j + 1) = datI rows j ++ (if j = 0 then [] else [44]) ++ [123] ++ (rI r).drop 1 ++ [125] := by
 simp only [datI, List.getD_eq_getElem?_getD, h, Option.getD_some, rI, List.map_drop]
theorem Al.item {B : Nat} {w : World} {A0 : Option Addr} {m cap : Nat} {rows : List (List UInt8)} (h : Al B w (.slice A0 m cap) rows) {j : Nat} {r : List UInt8} (hj : rows[j]? = some r) (h1 : 1 ≤ r.length) :
  ∃ (g b nr cr : Nat) (A' : Option Addr), A0 = some ⟨g, 0, none⟩ ∧ w.cell? ⟨g, j, none⟩ = some (.slice (some ⟨b, 0, none⟩) nr cr) ∧ (∀ W : World, (Instr.slice 103 (.slice (some ⟨b, 0, none⟩) nr cr) (some (.int .i64 1)) none none).run Tryz.prog W = .ok (.slice A' ((rI r).drop 1).length (cr - 1)) W) ∧ ReadsInt w .u8 A' ((rI r).drop 1).length ((rI r).drop 1) := by
 have hp : 0 < rows.length := by
  by_cases q : j < rows.length
  ·omega
  ·rw [List.getElem?_eq_none (by omega)] at hj; cases hj
 obtain ⟨g, m', cap', hv, _⟩ := h.form hp
 injection hv with e1 e2 e3
 subst e1
 obtain ⟨b, nr, cr, q1, q2, q3⟩ := h.row r hj
 have hl : (rI r).length = nr := by rw [q3]; simp [rI]
 have hcr : nr ≤ cr := by
  rcases q2.2 with ⟨q, _⟩ | ⟨g', c', cur, hv, _, _, hn, _⟩
  ·cases q
  ·injection hv with _ _ e
   omega
 rw [← rI_nums] at q2
 have hrd : ReadsInt w .u8 (some ⟨b, 0, none⟩) nr (rI r) := own_reads' q2
 obtain ⟨i5, hi5, hz⟩ := Option.map_eq_some_iff.1 info5
 simp only [Prod.mk.injEq] at hz
 obtain ⟨A', z1, z2, z3⟩ := print_drop_of (P := Tryz.prog) (Value.int .u8) (0 : Int) 103 5 .i64 Tryz.underlying103 hi5 hz.2.1 (some ⟨b, 0, none⟩) cr (rI r) 1 (by omega) (by rw [hl]; omega) (by rw [hl]; exact hcr)
 rw [hl] at z1 z2
 exact ⟨g, b, nr, cr, A', rfl, q1, z1, z2 w hrd⟩
theorem On.nil {B pa : Nat} {w : World} (h : w.heap[pa]? = some (.cells #[.slice none 0 0] 140 (0, 0))) (hp : B ≤ pa) (hb : B ≤ w.heap.size) : On B pa [] w := ⟨⟨_, h, Al.nil B w⟩, hp, hb⟩
structure Gr (s : ByteArray) (L : List (S115 × S78)) : Prop where
 arr : ∀ k nm c, L[k]? = some (nm, c) → c.f0 = 5 ∧ 0 < (raw s c).size ∧ (raw s c).size ≤ 65536 ∧ bt (raw s c) 0 = 91 ∧ Fla (raw s c) 1 (Ef c) ∧ (Ef c).length ≤ 1000000 ∧ (s.extract nm.f0.toNat nm.f1.toNat).size ≤ 100000 ∧ ∀ j, j ≤ (Ef c).length → ∀ r ∈ updR (s.extract nm.f0.toNat nm.f1.toNat) (rawsA (raw s c) (Ef c)) (rowsN s L k) j, r.length ≤ 100000000000
 rl : ∀ n, (rowsN s L n).length ≤ 65536
 row : ∀ r ∈ rowsN s L L.length, 1 ≤ r.length ∧ r.length ≤ 65536
theorem rowsN_succ {s : ByteArray} {L : List (S115 × S78)} {k : Nat} {nm : S115} {c : S78} (h : L[k]? = some (nm, c)) : rowsN s L (k + 1) = updR (s.extract nm.f0.toNat nm.f1.toNat) (rawsA (raw s c) (Ef c)) (rowsN s L k) (Ef c).length := by
 simp only [rowsN, h]
theorem modgroup_calls (s : ByteArray) (hz : s.size ≤ 65536) (hs : 0 < s.size) (h123 : bt s 0 = 123) (L : List (S115 × S78)) (hL : Fl s 1 L) (hG : Gr s L) (w : World) (hT : Tabs w) (hV : VT w) :
  Calls Tryz.prog 71 #[.string s, .string ⟨#[]⟩] w fun e w' => e = .returned (.string (strOfNums (datI (rowsN s L L.length) (rowsN s L L.length).length ++ [93]))) ∧ Below w.heap.size w w' := by
 have HP := Aside0.mk (fun W => parse_json s W (by omega) hs (.inl h123))
 have HT := Aside0.mk (And.intro hT hV)
 have HL := Aside0.mk hL
 have HG := Aside0.mk hG
 have H123 := Aside0.mk h123
 clear hT hV hL hG h123
 have hconv : ∀ v n (xs : List Int) B W, W.ownsRow B 5 1 v n (nums .u8 xs) → (convert 103 9 v).run Tryz.prog W = .ok (.string (strOfNums xs)) W := fun v n xs B W H => own_string Tryz.underlying103 Tryz.underlying5 Tryz.underlying9 H
 go_enter Tryz.func71, Tryz.ntmps71
 go_upto_region 4 with (first
  | (go_at_call 43; refine (HP.out _).mono ?_; rintro e w2 ⟨x, rfl, hb⟩; simp only [res]; have H2 := Aside0.mk (Ax.new hb s x); clear hb; obtain ⟨n0, n1, n2, n3, n4, n5⟩ := cells6 H2.out.hA)
  | (go_at_call 97; refine (isobj_calls s x _ hs true (by rw [H123.out]; rfl)).mono ?_; rintro e w4 ⟨rfl, hb⟩; have H4 := Aside0.mk (H2.out.below hb); clear hb n0 n1 n2 n3 n4 n5; obtain ⟨n0, n1, n2, n3, n4, n5⟩ := cells6 H4.out.hA))
 have hmf : ∀ (fn : Fn) (first cap : Array Value) (w : World), (Instr.makeFunc fn first cap).run Tryz.prog w = .ok (.func fn first cap) w := fun _ _ _ _ => rfl
 go_upto_region 5 with fail
 have hn5 := heap_alloc_new w4 (.cells #[.slice none 0 0] 140)
 have HA5 := H4.out.below (below_alloc (Below.refl w4.heap.size w4) (.cells #[.slice none 0 0] 140))
 have HO := Aside0.mk (On.nil (B := w4.heap.size) hn5 (Nat.le_refl _) (by simp))
 clear n0 n1 n2 n3 n4 n5 H2
 obtain ⟨n0, n1, n2, n3, n4, n5⟩ := cells6 HA5.hA
 have H5 := Aside0.mk HA5
 have hww : w.heap.size ≤ w4.heap.size := H4.out.be.size
 have HWW := Aside0.mk hww
 clear HA5 hn5 H4 hww
 generalize w2.heap.size = A at *
 generalize w4.alloc (.cells #[.slice none 0 0] 140) = W5 at *
 generalize w4.heap.size = B at *
 have HFE := Aside0.mk (foreach_obj (B := B) (Inv := fun n W => On B B (rowsN s L n) W) s hz hs H123.out L HL.out 98 #[.pointer (some ⟨B, 0, none⟩)] x W5 HO.out.bw HO.out (fun n W W' h hk => h.keep hk)
  (fun k nm c hget W' hb hI kst str kx x2 kix ix => by
   obtain ⟨g1, g2, g3, g4, g5, g6, g7, g8⟩ := HG.out.arr k nm c hget
   have e5 : kT c.f0 = 5 := by rw [g1]; rfl
   rw [e5]
   have hc := cl98_calls B B (rowsN s L k) _ kst kx kix (raw s c) g3 g2 g4 (Ef c) g5 str x2 ix W' hI (by have := HG.out.rl k; omega) g6 g8 g7 (fun W2 hb2 => Tabs2.below HT.out (H5.out.be.trans ((hb.trans (hb2.mono hI.bw)).mono HWW.out))) (fun W2 hb2 => Tabs2.below HT.out (H5.out.be.trans ((hb.trans hb2).mono HWW.out)))
   rw [← rowsN_succ hget] at hc
   exact hc)
  (fun W hb => Tabs2.below HT.out (H5.out.be.trans (hb.mono HWW.out))) (enters_of Tryz.func98 (by kernel_rfl) rfl))
 simp only [res] at HFE
 go_upto_region 6 with (go_at_call 44; refine HFE.out.mono ?_; rintro e w6 ⟨rfl, hi, hb⟩; have H6 := Aside0.mk (And.intro hi (H5.out.be.trans (hb.mono HWW.out))); clear hi hb n0 n1 n2 n3 n4 n5)
 obtain ⟨v, hv1, hv2⟩ := H6.out.1.ha
 obtain ⟨rows, hrows⟩ : ∃ rows, rows = rowsN s L L.length := ⟨_, rfl⟩
 have HRW := Aside0.mk (show ∀ r ∈ rows, 1 ≤ r.length ∧ r.length ≤ 65536 from hrows ▸ HG.out.row)
 have hrl : rows.length ≤ 65536 := hrows ▸ HG.out.rl L.length
 rw [← hrows] at hv2
 have HRR := Aside0.mk hrows
 have HAL := Aside0.mk hv2
 have hpa := blk_lt hv1
 have p0 := blk_cell hv1 0
 obtain ⟨A0, m, cap, hvf, hm⟩ : ∃ A m c, v = .slice A m c ∧ m = rows.length := by
  obtain ⟨sp, h, _⟩ := hv2.ex
  rcases h.2 with ⟨q, h0⟩ | ⟨g, cap, cur, q, _⟩
  ·exact ⟨_, _, _, q, h0.symm⟩
  ·exact ⟨_, _, _, q, rfl⟩
 subst hvf
 have HB6 := Aside0.mk (And.intro H6.out.2 hpa)
 have HV1 := Aside0.mk hv1
 have hbw6 : w.heap.size ≤ w6.heap.size := H6.out.2.size
 have HBW := Aside0.mk hbw6
 clear hv1 hv2 hpa hrows HFE HO H5 hbw6 H6 HG HL HP
 have HM := Aside0.mk hm
 have hlt7 : m ≤ 65536 := by omega
 clear hm
 go_upto_block 0 with (at_builtin; refine print_append_num (w0 := w6) w6.heap.size rfl (.tmp 18) (.tmp 19) 103 5 .u8 1 rfl Tryz.underlying103 info5 (by decide) (.slice none 0 0) [] 91 rfl rfl (World.ownsRow_nil _ _ _ _) (Below.refl _ _) (Nat.le_refl _) (by decide) ?_; intro v7 w7 ho hbl hg hat; have HD := Aside0.mk (And.intro ho hbl); have hp7 := blk_cell ((hbl.block _ HB6.out.2).trans HV1.out) 0; clear ho hbl hg hat p0)
 go_wp2_with fail
 go_loopg [7, 23] m (fun kq v7 v23 w' => ∃ j : Nat, v23 = .int .i64 (j : Int) ∧ j ≤ m ∧ kq + j = m ∧ Aside0 (w'.ownsRow w6.heap.size 5 1 v7 (datI rows j).length (nums .u8 (datI rows j)) ∧ Below w6.heap.size w6 w'))
 case atStart => exact ⟨0, rfl, by omega, by omega, HD⟩
 obtain ⟨j, rfl, hjm, hk, HJ⟩ := hrel
 obtain ⟨g1, rfl⟩ : ∃ g1, g1 = gk := ⟨_, rfl⟩
 by_cases hj : j < m
 rotate_left
 ·have hje : j = m := by omega
  have hjm2 : ¬ ((j : Int) < (m : Int)) := by omega
  have x1 : decide ((j : Int) < (m : Int)) = false := decide_eq_false hjm2
  go_wp2_with (at_builtin; refine print_append_num (w0 := w6) w6.heap.size rfl (.tmp 44) (.tmp 45) 103 5 .u8 1 rfl Tryz.underlying103 info5 (by decide) u7 (datI rows j) 93 rfl rfl HJ.out.1 HJ.out.2 HJ.out.2.size (by have := datI_len rows (fun r hr => (HRW.out r hr).2) j; have : j * 65539 ≤ 65536 * 65539 := Nat.mul_le_mul_right _ (by omega); omega) ?_; intro v8 w8 ho hbl hg hat; have H8 := Aside0.mk (And.intro ho hbl); have hcv := hconv _ _ _ _ _ ho; clear ho hbl hg hat)
  go_ret
  exact ⟨by (rw [← HRR.out, ← HM.out, ← hje]; rfl), H8.out.2.mono HBW.out |> HB6.out.1.trans⟩
 have hjl : j < rows.length := by have := HM.out; omega
 obtain ⟨r, hr⟩ : ∃ r, rows[j]? = some r := ⟨_, List.getElem?_eq_getElem hjl⟩
 have hr1 := HRW.out r (List.mem_of_getElem? hr)
 obtain ⟨g, b, nr, cr, A', hA0, hc6, hsl, hrd⟩ := HAL.out.item hr hr1.1
 subst hA0
 obtain ⟨R1, hR1⟩ : ∃ R, R = (rI r).drop 1 := ⟨_, rfl⟩
 rw [← hR1] at hsl hrd
 have HR1 := Aside0.mk hR1
 have HRD := Aside0.mk hrd
 obtain ⟨hBg, csg, hgb⟩ : w6.heap.size > g ∧ ∃ cs, w6.heap[g]? = some (.cells cs 103 (0, 0)) := by
  obtain ⟨sp, h, _⟩ := HAL.out.ex
  obtain ⟨_, _, _, cs, hc⟩ := own_cell h
  exact ⟨blk_lt hc, cs, hc⟩
 have hc := (blk_cell ((HJ.out.2.block g hBg).trans hgb) j).trans ((blk_cell hgb j).symm.trans hc6)
 have HSU := Aside0.mk (datI_succ rows j r hr)
 rw [← hR1] at HSU
 have HLEN := Aside0.mk (show (datI rows j).length + R1.length ≤ 100000000000 from by
  have h1 := datI_len rows (fun r hr => (HRW.out r hr).2) j
  have h2 : (rI r).length = r.length := by simp [rI]
  rw [hR1, List.length_drop, h2]
  have := hr1.2
  have : j * 65539 ≤ 65536 * 65539 := Nat.mul_le_mul_right _ (by omega)
  omega)
 have hjm2 : (j : Int) < (m : Int) := by omega
 have hj0 : (0 : Int) ≤ (j : Int) := by omega
 clear hr hr1 hrd hc6 hgb hBg hjl hR1
 by_cases hz0 : j = 0
 rotate_left
 ·have x1 : decide (0 < (j : Int)) = true := decide_eq_true (by omega)
  have HZ := Aside0.mk hz0
  clear hz0
  go_wp2_with (first
  | (exfalso; have := HZ.out; omega)
  | (at_builtin; (refine print_append_num (w0 := w6) w6.heap.size rfl (.tmp 40) (.tmp 41) 103 5 .u8 1 rfl Tryz.underlying103 info5 (by decide) vc (datI rows j ++ [44] ++ [123] ++ R1) 125 rfl rfl H3.out.1 H3.out.2 H3.out.2.size (by have := HLEN.out; (try simp only [List.length_append, List.length_cons, List.length_nil, List.length_drop]); omega) ?_; intro vd wd ho hbl hg hat; have H4 := Aside0.mk (And.intro ho hbl); clear ho hbl hg hat))
  | (at_builtin; (refine print_append_row (w0 := w6) w6.heap.size rfl (.tmp 36) (.tmp 38) 103 5 .u8 1 rfl Tryz.underlying103 info5 (by decide) vb (datI rows j ++ [44] ++ [123]) R1 A' _ _ rfl rfl H2.out.1 (HRD.out.below H2.out.2) H2.out.2 H2.out.2.size (by have := HLEN.out; (try simp only [List.length_append, List.length_cons, List.length_nil]); omega) ?_; intro vc wc ho hbl hg hat; have H3 := Aside0.mk (And.intro ho hbl); clear ho hbl hg hat))
  | (at_builtin; (refine print_append_num (w0 := w6) w6.heap.size rfl (.tmp 33) (.tmp 34) 103 5 .u8 1 rfl Tryz.underlying103 info5 (by decide) va (datI rows j ++ [44]) 123 rfl rfl H1.out.1 H1.out.2 H1.out.2.size (by have := HLEN.out; (try simp only [List.length_append, List.length_cons, List.length_nil, List.length_drop]); omega) ?_; intro vb wb ho hbl hg hat; have H2 := Aside0.mk (And.intro ho hbl); clear ho hbl hg hat))
  | (at_builtin; (refine print_append_num (w0 := w6) w6.heap.size rfl (.tmp 30) (.tmp 31) 103 5 .u8 1 rfl Tryz.underlying103 info5 (by decide) u7 (datI rows j) 44 rfl rfl HJ.out.1 HJ.out.2 HJ.out.2.size (by have := HLEN.out; (try simp only [List.length_append, List.length_cons, List.length_nil, List.length_drop]); omega) ?_; intro va wa ho hbl hg hat; have H1 := Aside0.mk (And.intro ho hbl); clear ho hbl hg hat)))
  go_roundg (g1 - 1)
  case measure => omega
  refine ⟨j + 1, rfl, by omega, by omega, ?_⟩
  have h4 := H4.out
  rw [HSU.out, if_neg HZ.out]
  exact ⟨h4⟩
 have x1 : decide (0 < (j : Int)) = false := decide_eq_false (by omega)
 have HZ := Aside0.mk hz0
 clear hz0
 go_wp2_with (first
 | (exfalso; have := HZ.out; omega)
 | (at_builtin; (refine print_append_num (w0 := w6) w6.heap.size rfl (.tmp 40) (.tmp 41) 103 5 .u8 1 rfl Tryz.underlying103 info5 (by decide) vc (datI rows j ++ [123] ++ R1) 125 rfl rfl H3.out.1 H3.out.2 H3.out.2.size (by have := HLEN.out; (try simp only [List.length_append, List.length_cons, List.length_nil, List.length_drop]); omega) ?_; intro vd wd ho hbl hg hat; have H4 := Aside0.mk (And.intro ho hbl); clear ho hbl hg hat))
 | (at_builtin; (refine print_append_row (w0 := w6) w6.heap.size rfl (.tmp 36) (.tmp 38) 103 5 .u8 1 rfl Tryz.underlying103 info5 (by decide) vb (datI rows j ++ [123]) R1 A' _ _ rfl rfl H2.out.1 (HRD.out.below H2.out.2) H2.out.2 H2.out.2.size (by have := HLEN.out; (try simp only [List.length_append, List.length_cons, List.length_nil]); omega) ?_; intro vc wc ho hbl hg hat; have H3 := Aside0.mk (And.intro ho hbl); clear ho hbl hg hat))
 | (at_builtin; (refine print_append_num (w0 := w6) w6.heap.size rfl (.tmp 33) (.tmp 34) 103 5 .u8 1 rfl Tryz.underlying103 info5 (by decide) u7 (datI rows j) 123 rfl rfl HJ.out.1 HJ.out.2 HJ.out.2.size (by have := HLEN.out; (try simp only [List.length_append, List.length_cons, List.length_nil, List.length_drop]); omega) ?_; intro vb wb ho hbl hg hat; have H2 := Aside0.mk (And.intro ho hbl); clear ho hbl hg hat)))
 go_roundg (g1 - 1)
 case measure => omega
 refine ⟨j + 1, rfl, by omega, by omega, ?_⟩
 have h4 := H4.out
 rw [HSU.out, if_pos HZ.out]
 simp only [List.append_nil]
 exact ⟨h4⟩
end Go.Proofs.YtgiioglmkogpkaaGreatDoor.F
namespace Go.Proofs.YtgiioglmkogpkaaGreatDoor.F
open M L V
theorem getD_set_eq {l : List (List UInt8)} {n j : Nat} {v : List UInt8} (h : n < l.length) : (l.set n v).getD j [] = if j = n then v else l.getD j [] := by
 simp only [List.getD_eq_getElem?_getD]
 by_cases q : j = n
 ·subst q; rw [if_pos rfl, List.getElem?_set_self h]; rfl
 ·rw [if_neg q, List.getElem?_set_ne (Ne.symm q)]
theorem getD_snoc (l : List (List UInt8)) (j : Nat) : (l ++ [[]]).getD j [] = l.getD j [] := by
 simp only [List.getD_eq_getElem?_getD]
 by_cases q : j < l.length
 ·rw [List.getElem?_append_left q]
 rw [List.getElem?_append_right (by omega), List.getElem?_eq_none (by omega : l.length ≤ j)]
 by_cases q2 : j - l.length = 0
 ·rw [q2]; rfl
 ·rw [List.getElem?_eq_none (by simp; omega)]
theorem updR_get (nm : ByteArray) (raws : List ByteArray) (rows : List (List UInt8)) (j : Nat) : ∀ n, (updR nm raws rows n).getD j [] = if j < n then rows.getD j [] ++ (piece nm (raws.getD j ⟨#[]⟩)).data.toList else rows.getD j []
 | 0 => by simp [updR]
 | n + 1 => by
  have ih := updR_get nm raws rows j n
  have hl := updR_len nm raws rows n
  simp only [updR]
  generalize updR nm raws rows n = R at *
  have key : ∀ R2 : List (List UInt8), n < R2.length → R2.getD j [] = R.getD j [] → (R2.set n (R2.getD n [] ++ (piece nm (raws.getD n ⟨#[]⟩)).data.toList)).getD j [] = if j < n + 1 then rows.getD j [] ++ (piece nm (raws.getD j ⟨#[]⟩)).data.toList else rows.getD j [] := by
   intro R2 h2 e
   rw [getD_set_eq h2]
   by_cases q : j = n
   ·subst q
    rw [if_pos rfl, if_pos (by omega), e, ih, if_neg (by omega)]
   ·rw [if_neg q, e, ih]
    by_cases q2 : j < n
    ·rw [if_pos q2, if_pos (by omega)]
    ·rw [if_neg q2, if_neg (by omega)]
  by_cases h : n = R.length
  ·rw [if_pos h]; exact key _ (by simp; omega) (getD_snoc R j)
  ·rw [if_neg h]; exact key R (by omega) rfl
def bit (s : ByteArray) (j : Nat) (p : S115 × S78) : List UInt8 := (piece (s.extract p.1.f0.toNat p.1.f1.toNat) ((rawsA (raw s p.2) (Ef p.2)).getD j ⟨#[]⟩)).data.toList
theorem rowsN_len (s : ByteArray) (L : List (S115 × S78)) (m : Nat) (hm : ∀ p ∈ L, (Ef p.2).length = m) : ∀ n, n ≤ L.length → (rowsN s L n).length = if n = 0 then 0 else m
 | 0, _ => rfl
 | n + 1, h => by
  have ih := rowsN_len s L m hm n (by omega)
  have hg : L[n]? = some L[n] := List.getElem?_eq_getElem (by omega)
  rw [rowsN_succ (nm := L[n].1) (c := L[n].2) hg, updR_len, hm _ (List.getElem_mem _), ih, if_neg (Nat.succ_ne_zero n)]
  split <;> omega
theorem rowsN_get (s : ByteArray) (L : List (S115 × S78)) (m : Nat) (hm : ∀ p ∈ L, (Ef p.2).length = m) (j : Nat) (hj : j < m) : ∀ n, n ≤ L.length → (rowsN s L n).getD j [] = (L.take n).flatMap (bit s j)
 | 0, _ => by simp [rowsN]
 | n + 1, h => by
  have ih := rowsN_get s L m hm j hj n (by omega)
  have hg : L[n]? = some L[n] := List.getElem?_eq_getElem (by omega)
  rw [rowsN_succ (nm := L[n].1) (c := L[n].2) hg, updR_get, hm _ (List.getElem_mem _), if_pos hj, ih, List.take_add_one, hg, List.flatMap_append]
  simp [bit]
theorem fl_len2 {s : ByteArray} {i : Int} {L : List (S115 × S78)} (h : Fl s i L) : ((((L.map (fun p => (s.extract p.1.f0.toNat p.1.f1.toNat).size + (raw s p.2).size + 1)).sum : Nat) : Int)) ≤ s.size - i := by
 induction h with
 | done => simp
 | skip i L h0 h1 h2 h3 ih => omega
 | item n c L h1 h2 h3 h4 h5 h6 h7 h8 ih =>
  obtain ⟨c0, c1, c2, _⟩ := h4.ok
  have := Str.lt h1
  have h0 := h1.1
  have := h3.1
  have hs : ((s.extract n.f0.toNat n.f1.toNat).size : Int) = n.f1 - n.f0 := by rw [ByteArray.size_extract]; omega
  have hr : ((raw s c).size : Int) = c.f2 - c.f1 := by simp only [raw]; rw [ByteArray.size_extract]; omega
  simp only [List.map_cons, List.sum_cons] at ih ⊢
  omega
theorem bit_len (s : ByteArray) (j : Nat) (p : S115 × S78) (hj : j < (Ef p.2).length) (he : ∀ r ∈ rawsA (raw s p.2) (Ef p.2), r.size + 2 ≤ (raw s p.2).size) : (bit s j p).length ≤ (s.extract p.1.f0.toNat p.1.f1.toNat).size + (raw s p.2).size ∧ 1 ≤ (bit s j p).length := by
 have hl : (rawsA (raw s p.2) (Ef p.2)).length = (Ef p.2).length := by simp [rawsA]
 have hg : (rawsA (raw s p.2) (Ef p.2)).getD j ⟨#[]⟩ = (rawsA (raw s p.2) (Ef p.2))[j]'(by omega) := by
  rw [List.getD_eq_getElem?_getD, List.getElem?_eq_getElem (by omega)]; rfl
 have h := he _ (List.getElem_mem (by omega : j < (rawsA (raw s p.2) (Ef p.2)).length))
 unfold bit
 rw [hg]
 generalize (rawsA (raw s p.2) (Ef p.2))[j]'(by omega) = r at *
 have e : (piece (s.extract p.1.f0.toNat p.1.f1.toNat) r).data.toList.length = 1 + (s.extract p.1.f0.toNat p.1.f1.toNat).size + 1 + r.size := by
  show (piece _ _).size = _
  simp only [piece, ByteArray.size_append]
  rfl
 omega
theorem row_len (s : ByteArray) (j : Nat) : ∀ L : List (S115 × S78), (∀ p ∈ L, j < (Ef p.2).length ∧ ∀ r ∈ rawsA (raw s p.2) (Ef p.2), r.size + 2 ≤ (raw s p.2).size) → (L.flatMap (bit s j)).length ≤ (L.map (fun p => (s.extract p.1.f0.toNat p.1.f1.toNat).size + (raw s p.2).size + 1)).sum ∧ L.length ≤ (L.flatMap (bit s j)).length
 | [], _ => by simp
 | p :: L, h => by
  have ih := row_len s j L (fun q hq => h q (List.mem_cons_of_mem _ hq))
  have h0 := h p (List.mem_cons_self ..)
  have h1 := bit_len s j p h0.1 h0.2
  simp only [List.flatMap_cons, List.length_append, List.map_cons, List.sum_cons, List.length_cons]
  omega
theorem rowsN_const (s : ByteArray) (L : List (S115 × S78)) : ∀ n, L.length ≤ n → rowsN s L n = rowsN s L L.length
 | 0, h => by
  have : L.length = 0 := by omega
  rw [this]
 | n + 1, h => by
  by_cases q : L.length = n + 1
  ·rw [q]
  ·have e : L[n]? = none := List.getElem?_eq_none (by omega)
   rw [← rowsN_const s L n (by omega)]
   simp only [rowsN, e]
theorem rows_rl (s : ByteArray) (L : List (S115 × S78)) (m : Nat) (hm : ∀ p ∈ L, (Ef p.2).length = m) (n : Nat) : (rowsN s L n).length ≤ m := by
 have key : ∀ k, k ≤ L.length → (rowsN s L k).length ≤ m := fun k hk => by
  rw [rowsN_len s L m hm k hk]
  split <;> omega
 by_cases q : n ≤ L.length
 ·exact key n q
 ·rw [rowsN_const s L n (by omega)]; exact key _ (Nat.le_refl _)
theorem rows_row1 {s : ByteArray} {i : Int} {L : List (S115 × S78)} (hF : Fl s i L) (hL : 0 < L.length) (m : Nat) (hm : ∀ p ∈ L, (Ef p.2).length = m) (he : ∀ p ∈ L, ∀ r ∈ rawsA (raw s p.2) (Ef p.2), r.size + 2 ≤ (raw s p.2).size) (k : Nat) (hk : k ≤ L.length) (hk0 : 0 < k) : ∀ r ∈ rowsN s L k, 1 ≤ r.length ∧ (r.length : Int) + i ≤ s.size := by
 intro r hr
 obtain ⟨j, hj, e⟩ := List.getElem_of_mem hr
 have hl := rowsN_len s L m hm k hk
 rw [if_neg (by omega)] at hl
 have hg := rowsN_get s L m hm j (by omega) k hk
 rw [List.getD_eq_getElem?_getD, List.getElem?_eq_getElem hj, e] at hg
 simp only [Option.getD_some] at hg
 have h1 := row_len s j (L.take k) (fun p hp => ⟨by rw [hm p (List.mem_of_mem_take hp)]; omega, he p (List.mem_of_mem_take hp)⟩)
 have h2 := fl_len2 hF
 rw [← hg] at h1
 have h3 := sum_take (L.map (fun p => (s.extract p.1.f0.toNat p.1.f1.toNat).size + (raw s p.2).size + 1)) k
 rw [← List.map_take] at h3
 rw [List.length_take] at h1
 omega
theorem rows_row {s : ByteArray} {i : Int} {L : List (S115 × S78)} (hF : Fl s i L) (h0 : 0 ≤ i) (hz : s.size ≤ 65536) (hL : 0 < L.length) (m : Nat) (hm : ∀ p ∈ L, (Ef p.2).length = m) (he : ∀ p ∈ L, ∀ r ∈ rawsA (raw s p.2) (Ef p.2), r.size + 2 ≤ (raw s p.2).size) (k : Nat) (hk : k ≤ L.length) (hk0 : 0 < k) : ∀ r ∈ rowsN s L k, 1 ≤ r.length ∧ r.length ≤ 65536 := fun r hr => by
 have := rows_row1 hF hL m hm he k hk hk0 r hr
 omega
theorem updR_le (nm : ByteArray) (raws : List ByteArray) (rows : List (List UInt8)) (A B : Nat) (hA : ∀ r ∈ rows, r.length ≤ A) (hB : ∀ r ∈ raws, nm.size + 2 + r.size ≤ B) (n : Nat) (hn : n ≤ raws.length) : ∀ r ∈ updR nm raws rows n, r.length ≤ A + B := by
 intro r hr
 obtain ⟨j, hj, e⟩ := List.getElem_of_mem hr
 have hg := updR_get nm raws rows j n
 rw [List.getD_eq_getElem?_getD, List.getElem?_eq_getElem hj, e] at hg
 simp only [Option.getD_some] at hg
 have h0 : (rows.getD j []).length ≤ A := by
  rw [List.getD_eq_getElem?_getD]
  by_cases q : j < rows.length
  ·rw [List.getElem?_eq_getElem q]; exact hA _ (List.getElem_mem q)
  ·rw [List.getElem?_eq_none (by omega)]; simp
 by_cases q : j < n
 rotate_left
 ·rw [if_neg q] at hg
  rw [hg]; omega
 rw [if_pos q] at hg
 have hgj : raws.getD j ⟨#[]⟩ = raws[j]'(by omega) := by rw [List.getD_eq_getElem?_getD, List.getElem?_eq_getElem (by omega)]; rfl
 have hb := hB _ (List.getElem_mem (by omega : j < raws.length))
 rw [hgj] at hg
 generalize raws[j]'(by omega) = z at *
 have ep : (piece nm z).data.toList.length = 1 + nm.size + 1 + z.size := by
  show (piece _ _).size = _
  simp only [piece, ByteArray.size_append]
  rfl
 rw [hg, List.length_append]
 omega
def It.flv (s : ByteArray) : V.It → Prop
 | .val q => q.f0 = 5 → q.f1 = 0 → q.f2 = s.size → (∀ c ∈ q.f4, Sz s c ∧ VD s c) → Fla s 1 q.f4
 | .els p C e => e = s.size → (∀ c ∈ C, Sz s c ∧ VD s c) → ∀ i, 0 ≤ i → Sk s i p → Fla s i C
 | .mems _ _ _ _ => True
theorem G.flv {s : ByteArray} {it : V.It} (h : V.G s it) : It.flv s it := by
 induction h with
 | num p e h0 h => exact fun q => by dsimp only at q; omega
 | str p e h => exact fun q => by dsimp only at q; omega
 | null p e h0 h => exact fun q => by dsimp only at q; omega
 | fals p e h0 h => exact fun q => by dsimp only at q; omega
 | tru p e h0 h => exact fun q => by dsimp only at q; omega
 | obj0 p b h0 h1 h2 h3 h4 => exact fun q => by dsimp only at q; omega
 | obj p b e N C h0 h1 h2 h3 ih => exact fun q => by dsimp only at q; omega
 | arr0 p b h0 h1 h2 h3 h4 =>
  intro _ hp he _
  dsimp only at hp he
  subst hp
  have hb : b = s.size - 1 := by omega
  subst hb
  exact .last 1 (by omega) (Sk.of_bl h2) h4
 | arr p b e C h0 h1 h2 h3 ih =>
  intro _ hp he hP
  dsimp only at hp he
  subst hp
  exact ih he hP 1 (by omega) (Sk.of_bl h2)
 | els1 c b h0 h1 h2 h3 ih =>
  intro he hP i hi hsk
  have q := h1.1
  obtain ⟨i0, i1, i2, _⟩ := h0.ok
  have hb : b = s.size - 1 := by omega
  have hv := hP c (List.mem_cons_self ..)
  refine .item i c [] hi hsk hv.1 h0 (Tv_of_Bl h1 (.inl h3)) hv.2 (by omega) ?_
  by_cases e : c.f2 = b
  ·rw [show c.f2 + 1 = (s.size : Int) by omega]; exact .done
  ·exact .last _ (by omega) (hb ▸ sk_from (Sk.of_bl h1) (by omega) (by omega)) (hb ▸ h3)
 | elsn c b p e C h0 h1 h2 h3 h4 h5 ih ih2 =>
  intro he hP i hi hsk
  have q := h1.1
  have q4 := h4.1
  obtain ⟨i0, i1, i2, _⟩ := h0.ok
  obtain ⟨j0, j1, j2, _⟩ := h5.ok
  have hv := hP c (List.mem_cons_self ..)
  exact .item i c C hi hsk hv.1 h0 (Tv_of_Bl h1 (.inr (.inl h3))) hv.2 (by omega) (ih2 he (fun x hx => hP x (List.mem_cons_of_mem _ hx)) (c.f2 + 1) (by omega) (sk_from (sk_comma h1 h3 h4) (by omega) (by omega)))
 | mem1 n c b x h0 h1 h2 h3 h4 h5 h6 h7 ih => trivial
 | memn n c b x p e N C h0 h1 h2 h3 h4 h5 h6 h7 h8 h9 ih ih2 => trivial
def It.lies (s : ByteArray) : V.It → Prop
 | .val q => q.f0 = 5 → ∀ c ∈ q.f4, q.f1 + 1 ≤ c.f1 ∧ c.f1 < c.f2 ∧ c.f2 + 1 ≤ q.f2 ∧ V.G s (.val c)
 | .els p C e => ∀ c ∈ C, p ≤ c.f1 ∧ c.f1 < c.f2 ∧ c.f2 + 1 ≤ e ∧ V.G s (.val c)
 | .mems _ _ _ _ => True
theorem G.lies {s : ByteArray} {it : V.It} (h : V.G s it) : It.lies s it := by
 induction h with
 | num p e h0 h => exact fun q => by dsimp only at q; omega
 | str p e h => exact fun q => by dsimp only at q; omega
 | null p e h0 h => exact fun q => by dsimp only at q; omega
 | fals p e h0 h => exact fun q => by dsimp only at q; omega
 | tru p e h0 h => exact fun q => by dsimp only at q; omega
 | obj0 p b h0 h1 h2 h3 h4 => exact fun q => by dsimp only at q; omega
 | obj p b e N C h0 h1 h2 h3 ih => exact fun q => by dsimp only at q; omega
 | arr0 p b h0 h1 h2 h3 h4 => exact fun _ c hc => by simp at hc
 | arr p b e C h0 h1 h2 h3 ih =>
  intro _ c hc
  have q := h2.1
  obtain ⟨a1, a2, a3, a4⟩ := ih c hc
  dsimp only
  exact ⟨by omega, a2, a3, a4⟩
 | els1 c b h0 h1 h2 h3 ih =>
  intro x hx
  have q := h1.1
  obtain ⟨i0, i1, i2, _⟩ := h0.ok
  simp only [List.mem_singleton] at hx
  subst hx
  exact ⟨by omega, by omega, by omega, h0⟩
 | elsn c b p e C h0 h1 h2 h3 h4 h5 ih ih2 =>
  intro x hx
  have q := h1.1
  have q4 := h4.1
  obtain ⟨i0, i1, i2, _⟩ := h0.ok
  obtain ⟨j0, j1, j2, _⟩ := h5.ok
  rcases List.mem_cons.1 hx with rfl | hx
  ·exact ⟨by omega, by omega, by omega, h0⟩
  ·obtain ⟨a1, a2, a3, a4⟩ := ih2 x hx
   exact ⟨by omega, a2, a3, a4⟩
 | mem1 n c b x h0 h1 h2 h3 h4 h5 h6 h7 ih => trivial
 | memn n c b x p e N C h0 h1 h2 h3 h4 h5 h6 h7 h8 h9 ih ih2 => trivial
end Go.Proofs.YtgiioglmkogpkaaGreatDoor.F
namespace Go.Proofs.YtgiioglmkogpkaaGreatDoor.F
open Go.RowKit Go.Proofs.YtgiioglmkogpkaaGreatDoorW.PrintWords Go.Proofs.YtgiioglmkogpkaaGreatDoorW.PrintLast Go.Proofs.YtgiioglmkogpkaaGreatDoorW.PrintMore
open M L
attribute [local go_sem] max2_int min2_int
end Go.Proofs.YtgiioglmkogpkaaGreatDoor.F
namespace Go.Proofs.YtgiioglmkogpkaaGreatDoor.F
open Go.RowKit Go.Proofs.YtgiioglmkogpkaaGreatDoorW.PrintWords Go.Proofs.YtgiioglmkogpkaaGreatDoorW.PrintLast Go.Proofs.YtgiioglmkogpkaaGreatDoorW.PrintMore
open M L
theorem R_keepb {α : Type} {d : Kd α} {e : Nat} {w w1 : World} {base : Nat} {ok : Nat → Prop} {v : Value} {xs : List α} {g : Nat} (h : d.R e w base ok v xs) (hk : KeepBut w w1 g none) (hg : g < base) : d.R e w1 base ok v xs :=
 Kd.R_mono (Kd.R_keep (Kd.R_bound h) hk (fun k hk => by have := hk.2; omega)) (fun k hk => hk.1)
structure Pl (w W : World) (s : ByteArray) (p : Int) : Prop where
 hi : IsS112 w W (w.heap.size + 1) s p
 be : Below w.heap.size w W
 hr : W.heap[w.heap.size]? = some (.cells #[.int .i64 0, .int .i64 0, .int .i64 0, .slice none 0 0, .slice none 0 0] 78 (0, 0))
theorem Pl.new (w : World) (s : ByteArray) : Pl w ((w.alloc (.cells #[.int .i64 0, .int .i64 0, .int .i64 0, .slice none 0 0, .slice none 0 0] 78)).alloc (.cells #[.string s, .int .i64 0] 112)) s 0 := by
 have e : (w.alloc (.cells #[.int .i64 0, .int .i64 0, .int .i64 0, .slice none 0 0, .slice none 0 0] 78)).heap.size = w.heap.size + 1 := by simp
 have hn := heap_alloc_new (w.alloc (.cells #[.int .i64 0, .int .i64 0, .int .i64 0, .slice none 0 0, .slice none 0 0] 78)) (.cells #[.string s, .int .i64 0] 112)
 rw [e] at hn
 exact ⟨⟨hn, by omega⟩, below_alloc (below_alloc (Below.refl _ _) _) _, (Below.heap_alloc _ _ _ (by omega)).trans (heap_alloc_new w _)⟩
theorem Pl.step {w W W2 : World} {s : ByteArray} {p p2 : Int} (h : Pl w W s p) (hi : IsS112 w W2 (w.heap.size + 1) s p2) (hb : Below w.heap.size w W2) (hk : KeepBut W W2 (w.heap.size + 1) none) : Pl w W2 s p2 :=
 ⟨hi, hb, hk.blk h.hr (by omega) (by simp)⟩
theorem Pl.alloc {w W : World} {s : ByteArray} {p : Int} (h : Pl w W s p) (o : Obj) : Pl w (W.alloc o) s p :=
 ⟨h.hi.alloc o, below_alloc h.be o, (Below.heap_alloc W o _ (blk_lt h.hr)).trans h.hr⟩
theorem Pl.cells {w W : World} {s : ByteArray} {p : Int} (h : Pl w W s p) :
  W.cell? ⟨w.heap.size + 1, 1, none⟩ = some (.int .i64 p) ∧ W.cell? ⟨w.heap.size, 0, none⟩ = some (.int .i64 0) ∧ W.cell? ⟨w.heap.size, 1, none⟩ = some (.int .i64 0) ∧ W.cell? ⟨w.heap.size, 2, none⟩ = some (.int .i64 0) ∧ W.cell? ⟨w.heap.size, 3, none⟩ = some (.slice none 0 0) ∧ W.cell? ⟨w.heap.size, 4, none⟩ = some (.slice none 0 0) ∧ (∀ i, W.frozen? ⟨w.heap.size, i, none⟩ = false) :=
 ⟨blk_cell h.hi.1 1, blk_cell h.hr 0, blk_cell h.hr 1, blk_cell h.hr 2, blk_cell h.hr 3, blk_cell h.hr 4, fun i => blk_frozen h.hr i⟩
structure Pv (w W : World) (b : Nat) (K p q : Int) (A3 A4 : Option Addr) (n3 n4 c3 c4 : Nat) : Prop where
 hv : W.heap[b]? = some (.cells #[.int .i64 K, .int .i64 p, .int .i64 q, .slice A3 n3 c3, .slice A4 n4 c4] 78 (0, 0))
 ne : b ≠ w.heap.size
theorem Pv.new {w w2 W : World} {s : ByteArray} {p2 : Int} (h : Pl w w2 s p2) {K p q : Int} {A3 A4 : Option Addr} {n3 n4 c3 c4 : Nat} (hk : KeepBut (w2.alloc (.cells #[.int .i64 K, .int .i64 p, .int .i64 q, .slice A3 n3 c3, .slice A4 n4 c4] 78)) W (w.heap.size + 1) none) : Pv w W w2.heap.size K p q A3 A4 n3 n4 c3 c4 :=
 ⟨hk.blk (heap_alloc_new w2 _) (by have := blk_lt h.hi.1; omega) (by simp), by have := blk_lt h.hr; omega⟩
theorem Pv.cells {w W : World} {b : Nat} {K p q : Int} {A3 A4 : Option Addr} {n3 n4 c3 c4 : Nat} (h : Pv w W b K p q A3 A4 n3 n4 c3 c4) :
  W.cell? ⟨b, 0, none⟩ = some (.int .i64 K) ∧ W.cell? ⟨b, 1, none⟩ = some (.int .i64 p) ∧ W.cell? ⟨b, 2, none⟩ = some (.int .i64 q) ∧ W.cell? ⟨b, 3, none⟩ = some (.slice A3 n3 c3) ∧ W.cell? ⟨b, 4, none⟩ = some (.slice A4 n4 c4) :=
 ⟨blk_cell h.hv 0, blk_cell h.hv 1, blk_cell h.hv 2, blk_cell h.hv 3, blk_cell h.hv 4⟩
theorem Pl.stored {w W : World} {s : ByteArray} {p0 : Int} (h : Pl w W s p0) (a b c d e : Value) :
  (((((W.setCell ⟨w.heap.size, 0, none⟩ a).setCell ⟨w.heap.size, 1, none⟩ b).setCell ⟨w.heap.size, 2, none⟩ c).setCell ⟨w.heap.size, 3, none⟩ d).setCell ⟨w.heap.size, 4, none⟩ e).heap[w.heap.size]? = some (.cells #[a, b, c, d, e] 78 (0, 0)) :=
 blk_set (blk_set (blk_set (blk_set (blk_set h.hr 0 _) 1 _) 2 _) 3 _) 4 _
theorem Pl.stored_below {w W : World} {s : ByteArray} {p0 : Int} (h : Pl w W s p0) (a b c d e : Value) :
  Below w.heap.size w (((((W.setCell ⟨w.heap.size, 0, none⟩ a).setCell ⟨w.heap.size, 1, none⟩ b).setCell ⟨w.heap.size, 2, none⟩ c).setCell ⟨w.heap.size, 3, none⟩ d).setCell ⟨w.heap.size, 4, none⟩ e) :=
 below_set (below_set (below_set (below_set (below_set h.be (Nat.le_refl _)) (Nat.le_refl _)) (Nat.le_refl _)) (Nat.le_refl _)) (Nat.le_refl _)
theorem stored_keep (W : World) (r : Nat) (a b c d e : Value) :
  KeepBut W (((((W.setCell ⟨r, 0, none⟩ a).setCell ⟨r, 1, none⟩ b).setCell ⟨r, 2, none⟩ c).setCell ⟨r, 3, none⟩ d).setCell ⟨r, 4, none⟩ e) r none :=
 KeepBut.set_ (KeepBut.set_ (KeepBut.set_ (KeepBut.set_ (KeepBut.set_ (KeepBut.refl _ _ _) _ _) _ _) _ _) _ _) _ _
theorem Pl.facts {w W : World} {s : ByteArray} {p : Int} (h : Pl w W s p) :
  (∀ o, (W.alloc o).cell? ⟨w.heap.size, 0, none⟩ = some (.int .i64 0)) ∧ (∀ o, (W.alloc o).cell? ⟨w.heap.size, 1, none⟩ = some (.int .i64 0)) ∧ (∀ o, (W.alloc o).cell? ⟨w.heap.size, 2, none⟩ = some (.int .i64 0)) ∧ (∀ o, (W.alloc o).cell? ⟨w.heap.size, 3, none⟩ = some (.slice none 0 0)) ∧ (∀ o, (W.alloc o).cell? ⟨w.heap.size, 4, none⟩ = some (.slice none 0 0)) ∧ (∀ o i, (W.alloc o).frozen? ⟨w.heap.size, i, none⟩ = false) := by
 have hra : ∀ o, (W.alloc o).heap[w.heap.size]? = some (.cells #[.int .i64 0, .int .i64 0, .int .i64 0, .slice none 0 0, .slice none 0 0] 78 (0, 0)) := fun o => (Below.heap_alloc W o _ (blk_lt h.hr)).trans h.hr
 exact ⟨fun o => blk_cell (hra o) 0, fun o => blk_cell (hra o) 1, fun o => blk_cell (hra o) 2, fun o => blk_cell (hra o) 3, fun o => blk_cell (hra o) 4, fun o => blk_frozen (hra o)⟩
theorem plEnd (P : Ending → World → Prop) (K p q : Int) (v3 v4 : Value) (hv3 : ∃ A n c, v3 = .slice A n c) (hv4 : ∃ A n c, v4 = .slice A n c) (ok : Bool) (W : World) (r : Nat) (tm : Array Value) (h2 : tm.getD 2 undef = .pointer (some ⟨r, 0, none⟩)) (h3 : tm.getD 3 undef = .bool ok) (hg : W.heap[r]? = some (.cells #[.int .i64 K, .int .i64 p, .int .i64 q, v3, v4] 78 (0, 0))) (hb : P (.returned (.tuple #[.agg #[.int .i64 K, .int .i64 p, .int .i64 q, v3, v4], .bool ok])) W) :
  bodyPost Tryz.prog Tryz.f47 P .ret ⟨tm, []⟩ W := by
 obtain ⟨A3, n3, c3, rfl⟩ := hv3
 obtain ⟨A4, n4, c4, rfl⟩ := hv4
 have n0 := blk_cell hg 0
 have n1 := blk_cell hg 1
 have n2 := blk_cell hg 2
 have n3 := blk_cell hg 3
 have n4 := blk_cell hg 4
 refine bodyPost_ret (v := .tuple #[.agg #[.int .i64 K, .int .i64 p, .int .i64 q, .slice A3 _ c3, .slice A4 _ c4], .bool ok]) ?_ rfl hb
 simp only [results, Tryz.results47]
 have h2' := h2
 have h3' := h3
 simp only [Array.getD_eq_getD_getElem?] at h2' h3'
 simp [go_sem, h2, h2', h3, h3', n0, n1, n2, n3, n4]
structure Rb (w W : World) : Prop where
 hr : W.heap[w.heap.size]? = some (.cells #[.int .i64 0, .string ⟨#[]⟩, .slice none 0 0, .slice none 0 0] 25 (0, 0))
 be : Below w.heap.size w W
theorem Rb.new (w : World) : Rb w (w.alloc (.cells #[.int .i64 0, .string ⟨#[]⟩, .slice none 0 0, .slice none 0 0] 25)) := ⟨heap_alloc_new w _, below_alloc (Below.refl _ _) _⟩
theorem Rb.below {w W W2 : World} (h : Rb w W) (hb : Below W.heap.size W W2) : Rb w W2 := ⟨(hb.block _ (blk_lt h.hr)).trans h.hr, below_then h.be h.be.size hb⟩
theorem Rb.drewN {w W : World} (h : Rb w W) (n : Nat) : Rb w (W.drewN n) := ⟨h.hr, pw_below_drewN h.be n⟩
theorem Rb.cells {w W : World} (h : Rb w W) : W.cell? ⟨w.heap.size, 0, none⟩ = some (.int .i64 0) ∧ W.cell? ⟨w.heap.size, 1, none⟩ = some (.string ⟨#[]⟩) ∧ W.cell? ⟨w.heap.size, 2, none⟩ = some (.slice none 0 0) ∧ W.cell? ⟨w.heap.size, 3, none⟩ = some (.slice none 0 0) ∧ (∀ i, W.frozen? ⟨w.heap.size, i, none⟩ = false) :=
 ⟨blk_cell h.hr 0, blk_cell h.hr 1, blk_cell h.hr 2, blk_cell h.hr 3, fun i => blk_frozen h.hr i⟩
theorem Rb.alloc {w W : World} (h : Rb w W) (o : Obj) : Rb w (W.alloc o) := h.below (below_alloc (Below.refl _ _) o)
theorem Rb.acells {w W : World} (h : Rb w W) : (∀ o, (W.alloc o).cell? ⟨w.heap.size, 0, none⟩ = some (.int .i64 0)) ∧ (∀ o, (W.alloc o).cell? ⟨w.heap.size, 1, none⟩ = some (.string ⟨#[]⟩)) ∧ (∀ o, (W.alloc o).cell? ⟨w.heap.size, 2, none⟩ = some (.slice none 0 0)) ∧ (∀ o, (W.alloc o).cell? ⟨w.heap.size, 3, none⟩ = some (.slice none 0 0)) ∧ (∀ o i, (W.alloc o).frozen? ⟨w.heap.size, i, none⟩ = false) :=
 ⟨fun o => (h.alloc o).cells.1, fun o => (h.alloc o).cells.2.1, fun o => (h.alloc o).cells.2.2.1, fun o => (h.alloc o).cells.2.2.2.1, fun o => (h.alloc o).cells.2.2.2.2⟩
theorem Rb.stored {w W : World} (h : Rb w W) (a b c d : Value) :
  ((((W.setCell ⟨w.heap.size, 0, none⟩ a).setCell ⟨w.heap.size, 1, none⟩ b).setCell ⟨w.heap.size, 2, none⟩ c).setCell ⟨w.heap.size, 3, none⟩ d).heap[w.heap.size]? = some (.cells #[a, b, c, d] 25 (0, 0)) :=
 blk_set (blk_set (blk_set (blk_set h.hr 0 _) 1 _) 2 _) 3 _
theorem Rb.stored_below {w W : World} (h : Rb w W) (a b c d : Value) :
  Below w.heap.size w ((((W.setCell ⟨w.heap.size, 0, none⟩ a).setCell ⟨w.heap.size, 1, none⟩ b).setCell ⟨w.heap.size, 2, none⟩ c).setCell ⟨w.heap.size, 3, none⟩ d) :=
 below_set (below_set (below_set (below_set h.be (Nat.le_refl _)) (Nat.le_refl _)) (Nat.le_refl _)) (Nat.le_refl _)
theorem rdEnd (P : Ending → World → Prop) (K : Int) (txt : ByteArray) (A2 A3 : Option Addr) (n2 n3 c2 c3 : Nat) (ok : Bool) (W : World) (r : Nat) (tm : Array Value) (h2 : tm.getD 2 undef = .pointer (some ⟨r, 0, none⟩)) (h3 : tm.getD 3 undef = .bool ok) (hg : W.heap[r]? = some (.cells #[.int .i64 K, .string txt, .slice A2 n2 c2, .slice A3 n3 c3] 25 (0, 0))) (hb : P (.returned (.tuple #[.agg #[.int .i64 K, .string txt, .slice A2 n2 c2, .slice A3 n3 c3], .bool ok])) W) :
  bodyPost Tryz.prog Tryz.f21 P .ret ⟨tm, []⟩ W := by
 have n0 := blk_cell hg 0
 have n1 := blk_cell hg 1
 have n2' := blk_cell hg 2
 have n3' := blk_cell hg 3
 refine bodyPost_ret (v := .tuple #[.agg #[.int .i64 K, .string txt, .slice A2 n2 c2, .slice A3 n3 c3], .bool ok]) ?_ rfl hb
 simp only [results, Tryz.results21]
 have h2' := h2
 have h3' := h3
 simp only [Array.getD_eq_getD_getElem?] at h2' h3'
 simp [go_sem, h2, h2', h3, h3', n0, n1, n2', n3']
theorem gtEnd (P : Ending → World → Prop) (K : Int) (txt : ByteArray) (A2 A3 : Option Addr) (n2 n3 c2 c3 : Nat) (ok : Bool) (W : World) (r : Nat) (tm : Array Value) (h2 : tm.getD 2 undef = .pointer (some ⟨r, 0, none⟩)) (h3 : tm.getD 3 undef = .bool ok) (hg : W.heap[r]? = some (.cells #[.int .i64 K, .string txt, .slice A2 n2 c2, .slice A3 n3 c3] 25 (0, 0))) (hb : P (.returned (.tuple #[.agg #[.int .i64 K, .string txt, .slice A2 n2 c2, .slice A3 n3 c3], .bool ok])) W) :
  bodyPost Tryz.prog Tryz.f23 P .ret ⟨tm, []⟩ W := by
 have n0 := blk_cell hg 0
 have n1 := blk_cell hg 1
 have n2' := blk_cell hg 2
 have n3' := blk_cell hg 3
 refine bodyPost_ret (v := .tuple #[.agg #[.int .i64 K, .string txt, .slice A2 n2 c2, .slice A3 n3 c3], .bool ok]) ?_ rfl hb
 simp only [results, Tryz.results23]
 have h2' := h2
 have h3' := h3
 simp only [Array.getD_eq_getD_getElem?] at h2' h3'
 simp [go_sem, h2, h2', h3, h3', n0, n1, n2', n3']
end Go.Proofs.YtgiioglmkogpkaaGreatDoor.F
namespace Go.Proofs.YtgiioglmkogpkaaGreatDoor.F
open Go.RowKit Go.Proofs.YtgiioglmkogpkaaGreatDoorW.PrintWords Go.Proofs.YtgiioglmkogpkaaGreatDoorW.PrintLast Go.Proofs.YtgiioglmkogpkaaGreatDoorW.PrintMore
open M L V
def PlG (s : ByteArray) (K p q : Int) (N : List S115) (C : List S78) (b : Bool) (w : World) (e : Ending) (w' : World) : Prop := ∃ (K' p' q' : Int) (A3 A4 : Option Addr) (c3 c4 n3 n4 : Nat) (ok : Bool), e = .returned (.tuple #[.agg #[.int .i64 K', .int .i64 p', .int .i64 q', .slice A3 n3 c3, .slice A4 n4 c4], .bool ok]) ∧ Below w.heap.size w w' ∧ ok = b ∧
 (ok = true → K' = K ∧ p' = p ∧ q' = q ∧ n3 = N.length ∧ n4 = C.length ∧ Kd.C k115 w' A3 N.length N ∧ N.length ≤ c3 ∧ Kd.C k78 w' A4 C.length C ∧ C.length ≤ c4)
set_option maxHeartbeats 4000000 in
set_option maxRecDepth 8192 in
theorem places_gen (s : ByteArray) (hz : s.size ≤ 65536) (p K q p3 : Int) (N : List S115) (C : List S78) (ok : Bool) (K1 K2 K3 : Nat) (hE1 : spec_reader_blanks.f K1 s 0 = some (s, p)) (hp0 : 0 ≤ p) (hp1 : p ≤ s.size) (hE2 : spec_reader_value.f K2 s p = some (K, p, q, N, C, ok, s, q)) (hq0 : p ≤ q) (hq1 : q ≤ s.size) (hE3 : spec_reader_blanks.f K3 s q = some (s, p3)) (w : World) : Calls Tryz.prog 47 #[.string s] w (PlG s K p q N C (ok && decide (p3 = s.size)) w) := by
 have HE := Aside0.mk (And.intro hE1 (And.intro hE2 hE3))
 have HP := Aside0.mk (Pl.new w s)
 clear hE1 hE2 hE3
 cases ok
 all_goals go_enter Tryz.func47, Tryz.ntmps47
 all_goals go_wp2_with (first
  | (go_at_call 72; refine (spec_reader_blanks.calls K1 (w.heap.size + 1) s 0 s p w _ HP.out.hi HP.out.be HE.out.1).mono ?_; rintro e' w1 ⟨rfl, hi, hb, hk⟩; have HP1 := Aside0.mk (HP.out.step hi hb hk); clear hi hb hk HP)
  | (go_at_call 73; refine (spec_reader_value.calls K2 (w.heap.size + 1) s p K p q N C _ s q w _ HP1.out.hi HP1.out.be HE.out.2.1).mono ?_; rintro e' w2 ⟨v3, v4, rfl, hr3, hr4, hi, hb, hk⟩; obtain ⟨A3, c3, rfl⟩ := Kd.R_slice hr3; obtain ⟨A4, c4, rfl⟩ := Kd.R_slice hr4; have HP2 := Aside0.mk (HP1.out.step hi hb hk); have HR := Aside0.mk (And.intro hr3 hr4); clear hi hb hk hr3 hr4; obtain ⟨n0, n1, n2, n3, n4, f0⟩ := HP2.out.facts))
 ·refine plEnd _ 0 0 0 (.slice none 0 0) (.slice none 0 0) ⟨_, _, _, rfl⟩ ⟨_, _, _, rfl⟩ false _ _ _ rfl rfl ((HP2.out.alloc _).stored _ _ _ _ _) ?_
  exact ⟨0, 0, 0, none, none, 0, 0, 0, 0, false, rfl, (HP2.out.alloc _).stored_below _ _ _ _ _, rfl, fun h => by cases h⟩
 clear n0 n1 n2 n3 n4 f0
 by_cases hend : p3 = s.size
 rotate_left
 ·have x1 : (p3 != (s.size : Int)) = true := bne_iff_ne.mpr hend
  go_wp2_with (go_at_call 72; refine (spec_reader_blanks.calls K3 (w.heap.size + 1) s q s p3 w _ (HP2.out.alloc _).hi (HP2.out.alloc _).be HE.out.2.2).mono ?_; rintro e' w3 ⟨rfl, hi, hb, hk⟩; have HP3 := Aside0.mk ((HP2.out.alloc _).step hi hb hk); clear hi hb hk; obtain ⟨j1, n0, n1, n2, n3, n4, f0⟩ := HP3.out.cells)
  refine plEnd _ 0 0 0 (.slice none 0 0) (.slice none 0 0) ⟨_, _, _, rfl⟩ ⟨_, _, _, rfl⟩ false _ _ _ rfl rfl (HP3.out.stored _ _ _ _ _) ?_
  exact ⟨0, 0, 0, none, none, 0, 0, 0, 0, false, rfl, HP3.out.stored_below _ _ _ _ _, by simp [hend], fun h => by cases h⟩
 have x1 : (p3 != (s.size : Int)) = false := bne_eq_false_iff_eq.mpr hend
 go_wp2_with (go_at_call 72; refine (spec_reader_blanks.calls K3 (w.heap.size + 1) s q s p3 w _ (HP2.out.alloc _).hi (HP2.out.alloc _).be HE.out.2.2).mono ?_; rintro e' w3 ⟨rfl, hi, hb, hk⟩; have HP3 := Aside0.mk ((HP2.out.alloc _).step hi hb hk); have HV := Aside0.mk (Pv.new HP2.out hk); have HK := Aside0.mk hk; clear hi hb hk; obtain ⟨j1, n0, n1, n2, n3, n4, f0⟩ := HP3.out.cells; obtain ⟨k0, k1, k2, k3, k4⟩ := HV.out.cells)
 refine plEnd _ K p q (.slice A3 N.length c3) (.slice A4 C.length c4) ⟨_, _, _, rfl⟩ ⟨_, _, _, rfl⟩ true _ _ _ rfl rfl (HP3.out.stored _ _ _ _ _) ?_
 have hlt := blk_lt HP1.out.hi.1
 have hr3 := R_keepb (R_keepb (Kd.R_alloc HR.out.1 _) HK.out hlt) (stored_keep w3 w.heap.size (.int .i64 K) (.int .i64 p) (.int .i64 q) (.slice A3 N.length c3) (.slice A4 C.length c4)) (by omega)
 have hr4 := R_keepb (R_keepb (Kd.R_alloc HR.out.2 _) HK.out hlt) (stored_keep w3 w.heap.size (.int .i64 K) (.int .i64 p) (.int .i64 q) (.slice A3 N.length c3) (.slice A4 C.length c4)) (by omega)
 obtain ⟨_, hl3, hc3⟩ := Kd.R_reads' hr3
 obtain ⟨_, hl4, hc4⟩ := Kd.R_reads' hr4
 exact ⟨K, p, q, A3, A4, c3, c4, N.length, C.length, true, rfl, HP3.out.stored_below _ _ _ _ _, by simp [hend], fun _ => ⟨rfl, rfl, rfl, rfl, rfl, hc3, hl3, hc4, hl4⟩⟩
def NodeIn (w : World) (t : S25) (A2 A3 : Option Addr) (c2 c3 : Nat) : Prop := Kd.C Kd.string w A2 t.f2.length t.f2 ∧ t.f2.length ≤ c2 ∧ Kd.C k25 w A3 t.f3.length t.f3 ∧ t.f3.length ≤ c3
def NodeAt (B : Nat) (w : World) (t : S25) (A2 A3 : Option Addr) (c2 c3 : Nat) : Prop := ∀ W, (∀ k, B ≤ k → k < w.heap.size → W.heap[k]? = w.heap[k]?) → NodeIn W t A2 A3 c2 c3
theorem NodeAt.now {B : Nat} {w : World} {t : S25} {A2 A3 : Option Addr} {c2 c3 : Nat} (h : NodeAt B w t A2 A3 c2 c3) : NodeIn w t A2 A3 c2 c3 := h w (fun _ _ _ => rfl)
theorem NodeAt.low {B B' : Nat} {w : World} {t : S25} {A2 A3 : Option Addr} {c2 c3 : Nat} (h : NodeAt B w t A2 A3 c2 c3) (hB : B' ≤ B) : NodeAt B' w t A2 A3 c2 c3 := fun W hk => h W (fun k h1 h2 => hk k (by omega) h2)
theorem NodeAt.step {B : Nat} {w w2 : World} {t : S25} {A2 A3 : Option Addr} {c2 c3 : Nat} (h : NodeAt B w t A2 A3 c2 c3) (hz : w.heap.size ≤ w2.heap.size) (hs : ∀ k, B ≤ k → k < w.heap.size → w2.heap[k]? = w.heap[k]?) : NodeAt B w2 t A2 A3 c2 c3 := fun W hk => h W (fun k h1 h2 => (hk k h1 (by omega)).trans (hs k h1 h2))
theorem NodeAt.below {B : Nat} {w w2 : World} {t : S25} {A2 A3 : Option Addr} {c2 c3 : Nat} (h : NodeAt B w t A2 A3 c2 c3) (hb : Below w.heap.size w w2) : NodeAt B w2 t A2 A3 c2 c3 := h.step hb.size (fun k _ h2 => hb.block k h2)
theorem NodeAt.keepb {B g : Nat} {w w2 : World} {t : S25} {A2 A3 : Option Addr} {c2 c3 : Nat} (h : NodeAt B w t A2 A3 c2 c3) (hk : KeepBut w w2 g none) (hg : g < B) : NodeAt B w2 t A2 A3 c2 c3 := h.step hk.1 (fun k h1 h2 => hk.2 k h2 (by omega) (by simp))
theorem NodeAt.of_R {B b1 b2 : Nat} {ok1 ok2 : Nat → Prop} {e1 e2 n2 n3 : Nat} {w : World} {t : S25} {A2 A3 : Option Addr} {c2 c3 : Nat} (h2 : Kd.R Kd.string e1 w b1 ok1 (.slice A2 n2 c2) t.f2) (h3 : Kd.R k25 e2 w b2 ok2 (.slice A3 n3 c3) t.f3) (hB1 : B ≤ b1) (hB2 : B ≤ b2) : NodeAt B w t A2 A3 c2 c3 := fun W hk => by
 obtain ⟨e2, l2, r2⟩ := Kd.R_reads' (Kd.R_step (Kd.R_bound h2) (w1 := W) (fun k h1 h2 => hk k (by have := h1.2.1; omega) h2))
 obtain ⟨e3, l3, r3⟩ := Kd.R_reads' (Kd.R_step (Kd.R_bound h3) (w1 := W) (fun k h1 h2 => hk k (by have := h1.2.1; omega) h2))
 exact ⟨r2, by omega, r3, by omega⟩
def RdG (t : S25) (b : Bool) (w : World) (e : Ending) (w' : World) : Prop := ∃ (K : Int) (txt : ByteArray) (A2 A3 : Option Addr) (n2 n3 c2 c3 : Nat) (ok : Bool), e = .returned (.tuple #[.agg #[.int .i64 K, .string txt, .slice A2 n2 c2, .slice A3 n3 c3], .bool ok]) ∧ Below w.heap.size w w' ∧ ok = b ∧
 (ok = true → K = t.f0 ∧ txt = t.f1 ∧ n2 = t.f2.length ∧ n3 = t.f3.length ∧ NodeAt w.heap.size w' t A2 A3 c2 c3)
theorem stored_keep4 (W : World) (r : Nat) (a b c d : Value) : KeepBut W ((((W.setCell ⟨r, 0, none⟩ a).setCell ⟨r, 1, none⟩ b).setCell ⟨r, 2, none⟩ c).setCell ⟨r, 3, none⟩ d) r none :=
 KeepBut.set_ (KeepBut.set_ (KeepBut.set_ (KeepBut.set_ (KeepBut.refl _ _ _) _ _) _ _) _ _) _ _
set_option maxHeartbeats 4000000 in
set_option maxRecDepth 8192 in
theorem read_gen (s : ByteArray) (hz : s.size ≤ 65536) (p K q p3 : Int) (N : List S115) (C : List S78) (ok : Bool) (K1 K2 K3 : Nat) (hE1 : spec_reader_blanks.f K1 s 0 = some (s, p)) (hp0 : 0 ≤ p) (hp1 : p ≤ s.size) (hE2 : spec_reader_value.f K2 s p = some (K, p, q, N, C, ok, s, q)) (hq0 : p ≤ q) (hq1 : q ≤ s.size) (hE3 : spec_reader_blanks.f K3 s q = some (s, p3)) (t : S25) (ht : ok = true → p3 = s.size → TrOf s ⟨K, p, q, N, C⟩ t) (w : World) : Calls Tryz.prog 21 #[.string s] w (RdG t (ok && decide (p3 = s.size)) w) := by
 have HR := Aside0.mk (Rb.new w)
 have HP := Aside0.mk (fun W => places_gen s hz p K q p3 N C ok K1 K2 K3 hE1 hp0 hp1 hE2 hq0 hq1 hE3 W)
 have HTT := Aside0.mk ht
 clear hE1 hE2 hE3 ht
 go_enter Tryz.func21, Tryz.ntmps21
 go_upto_region 2 with (go_at_call 47; refine (HP.out _).mono ?_; rintro e' w1 ⟨K', p', q', A3, A4, c3, c4, n3, n4, ok', rfl, hb, hok, hF⟩; have HR1 := Aside0.mk (HR.out.below hb); have HF := Aside0.mk hF; have HOK := Aside0.mk hok; clear hb hF hok; obtain ⟨m0, m1, m2, m3, g0⟩ := HR1.out.acells)
 cases ok'
 ·go_wp2_with fail
  refine rdEnd _ 0 ⟨#[]⟩ none none 0 0 0 0 false _ _ _ rfl rfl ((HR1.out.alloc _).stored _ _ _ _) ?_
  exact ⟨0, ⟨#[]⟩, none, none, 0, 0, 0, 0, false, rfl, (HR1.out.alloc _).stored_below _ _ _ _, HOK.out, fun h => by cases h⟩
 obtain ⟨rfl, rfl, rfl, rfl, rfl, hC3, hl3, hC4, hl4⟩ := HF.out rfl
 have hb := HOK.out.symm
 simp only [Bool.and_eq_true, decide_eq_true_eq] at hb
 obtain ⟨k1, hE⟩ := HTT.out hb.1 hb.2
 have HE := Aside0.mk (hE k1 (Nat.le_refl _))
 have HC := Aside0.mk (And.intro (And.intro hC3 hl3) (And.intro hC4 hl4))
 clear hC3 hl3 hC4 hl4 hE m0 m1 m2 m3 g0 HF hb
 go_wp2_with (go_at_call 48; refine (tree_calls k1 s K' p' q' A3 c3 N A4 c4 C t.f0 t.f1 t.f2 t.f3 _ (Kd.C_alloc HC.out.1.1 _) HC.out.1.2 (Kd.C_alloc HC.out.2.1 _) HC.out.2.2 HE.out).mono ?_; rintro e' w2 ⟨v2, v3, rfl, hr2, hr3, hb⟩; obtain ⟨B2, d2, rfl⟩ := Kd.R_slice hr2; obtain ⟨B3, d3, rfl⟩ := Kd.R_slice hr3; have HR2 := Aside0.mk ((HR1.out.alloc _).below hb); have HRR := Aside0.mk (And.intro hr2 hr3); clear hr2 hr3 hb; obtain ⟨m0, m1, m2, m3, g0⟩ := HR2.out.cells)
 have hlt := blk_lt HR1.out.hr
 have hN := (NodeAt.of_R (B := w.heap.size + 1) HRR.out.1 HRR.out.2 (by simp; omega) (by simp; omega)).keepb (stored_keep4 w2 w.heap.size (.int .i64 t.f0) (.string t.f1) (.slice B2 t.f2.length d2) (.slice B3 t.f3.length d3)) (by omega)
 refine rdEnd _ t.f0 t.f1 B2 B3 t.f2.length t.f3.length d2 d3 true _ _ _ rfl rfl (HR2.out.stored _ _ _ _) ?_
 exact ⟨t.f0, t.f1, B2, B3, t.f2.length, t.f3.length, d2, d3, true, rfl, HR2.out.stored_below _ _ _ _, HOK.out, fun _ => ⟨rfl, rfl, rfl, rfl, hN.low (by omega)⟩⟩
def RdOk (s : ByteArray) (t : S25) : Prop := ∃ (q : S78) (T : ByteArray) (R : List ByteArray) (ts : List S25), V.G s (.val q) ∧ Bl s 0 q.f1 ∧ Bl s q.f2 s.size ∧ t = ⟨q.f0, T, R, ts⟩ ∧ TrOf s q t ∧ TLs s q.f4 ts ∧ SB t
def RdF (s : ByteArray) (w : World) (e : Ending) (w' : World) : Prop := ∃ (K : Int) (txt : ByteArray) (A2 A3 : Option Addr) (n2 n3 c2 c3 : Nat) (ok : Bool), e = .returned (.tuple #[.agg #[.int .i64 K, .string txt, .slice A2 n2 c2, .slice A3 n3 c3], .bool ok]) ∧ Below w.heap.size w w' ∧
 (ok = true → ∃ t : S25, RdOk s t ∧ K = t.f0 ∧ txt = t.f1 ∧ n2 = t.f2.length ∧ n3 = t.f3.length ∧ NodeAt w.heap.size w' t A2 A3 c2 c3)
theorem read_full (s : ByteArray) (hz : s.size ≤ 65536) (w : World) : Calls Tryz.prog 21 #[.string s] w (RdF s w) := by
 obtain ⟨p, ⟨K1, hE1⟩, hp0, hp1, hpB, _⟩ := blanksf_ev s hz 0 (by omega) (by omega)
 obtain ⟨K, q, N, C, ok, ⟨K2, hE2⟩, hq0, hq1, hqG⟩ := V.value_ev s hz (s.size + 1) p hp0 hp1 (by omega)
 obtain ⟨p3, ⟨K3, hE3⟩, hp30, hp31, hp3B, hp3n⟩ := blanksf_ev s hz q (by omega) hq1
 have go : ∀ t : S25, (ok = true → p3 = s.size → TrOf s ⟨K, p, q, N, C⟩ t) → (ok = true → p3 = s.size → RdOk s t) → Calls Tryz.prog 21 #[.string s] w (RdF s w) := by
  intro t h1 h2
  refine (read_gen s hz p K q p3 N C ok K1 K2 K3 (hE1 K1 (Nat.le_refl _)) hp0 hp1 (hE2 K2 (Nat.le_refl _)) hq0 hq1 (hE3 K3 (Nat.le_refl _)) t h1 w).mono ?_
  rintro e' w1 ⟨K', txt, A2, A3, n2, n3, c2, c3, ok', rfl, hb, hok, hF⟩
  refine ⟨K', txt, A2, A3, n2, n3, c2, c3, ok', rfl, hb, fun h => ?_⟩
  rw [hok] at h
  simp only [Bool.and_eq_true, decide_eq_true_eq] at h
  exact ⟨t, h2 h.1 h.2, hF (by rw [hok]; simp [h.1, h.2])⟩
 by_cases hc : ok = true ∧ p3 = s.size
 rotate_left
 ·exact go ⟨0, ⟨#[]⟩, [], []⟩ (fun h1 h2 => absurd ⟨h1, h2⟩ hc) (fun h1 h2 => absurd ⟨h1, h2⟩ hc)
 obtain ⟨h1, h2⟩ := hc
 have hG := hqG h1
 obtain ⟨T, R, ts, hR, hT, ht, _, hS, _⟩ := hG.tr hz
 refine go ⟨K, T, R, ts⟩ (fun _ _ => ht) (fun _ _ => ⟨⟨K, p, q, N, C⟩, T, R, ts, hG, ⟨hp0, hpB⟩, ⟨hq1, fun i a b => hp3B i a (by omega)⟩, rfl, ht, hT, hS⟩)
def GtF (s : ByteArray) (w : World) (e : Ending) (w' : World) : Prop := ∃ (K : Int) (txt : ByteArray) (A2 A3 : Option Addr) (n2 n3 c2 c3 : Nat) (ok : Bool), e = .returned (.tuple #[.agg #[.int .i64 K, .string txt, .slice A2 n2 c2, .slice A3 n3 c3], .bool ok]) ∧ Below w.heap.size w w' ∧
 (ok = true → s.size ≤ 65536 ∧ PA s 0 ∧ ∃ t : S25, RdOk s t ∧ K = t.f0 ∧ txt = t.f1 ∧ n2 = t.f2.length ∧ n3 = t.f3.length ∧ NodeAt w.heap.size w' t A2 A3 c2 c3)
set_option maxHeartbeats 4000000 in
set_option maxRecDepth 8192 in
theorem gjt_long (s : ByteArray) (hl : s.size < 140737488355328) (hz : 65536 < s.size) (w : World) : Calls Tryz.prog 23 #[.string s] w (GtF s w) := by
 have HR := Aside0.mk (Rb.new w)
 have x1 : decide (65536 < (s.size : Int)) = true := decide_eq_true (by omega)
 clear hz
 go_enter Tryz.func23, Tryz.ntmps23
 go_wp2_with fail
 refine gtEnd _ 0 ⟨#[]⟩ none none 0 0 0 0 false _ _ _ rfl rfl HR.out.hr ?_
 exact ⟨0, ⟨#[]⟩, none, none, 0, 0, 0, 0, false, rfl, HR.out.be, fun h => by cases h⟩
set_option maxHeartbeats 4000000 in
set_option maxRecDepth 8192 in
theorem gjt_short (s : ByteArray) (hz : s.size ≤ 65536) (w : World) : Calls Tryz.prog 23 #[.string s] w (GtF s w) := by
 have HR := Aside0.mk (Rb.new w)
 have x1 : decide (65536 < (s.size : Int)) = false := decide_eq_false (by omega)
 obtain ⟨u8, ku, hu⟩ := utf8_ev s hz (s.size + 1) 0 (by omega) (by omega) (by omega)
 obtain ⟨pr, kp, hp⟩ := paired_tot s hz (s.size + 1) 0 (by omega) (by omega) (by omega)
 have HU := Aside0.mk (hu ku (Nat.le_refl _))
 have HP := Aside0.mk (hp kp (Nat.le_refl _))
 have HPE := Aside0.mk (show Ev (fun k => spec_Paired.l0 k s 0) pr from ⟨kp, hp⟩)
 clear hu hp
 cases u8 <;> cases pr
 all_goals go_enter Tryz.func23, Tryz.ntmps23
 all_goals go_wp2_with (first
  | (go_at_call 50; refine (spec_UTF8.calls ku s _ _ HU.out).mono ?_; rintro e' w' ⟨rfl, n1, rfl⟩)
  | (go_at_call 36; refine (spec_Paired.calls kp s _ _ HP.out).mono ?_; rintro e' w' ⟨rfl, n2, rfl⟩)
  | (go_at_call 21; refine (read_full s hz _).mono ?_; rintro e' w3 ⟨K, txt, A2, A3, n2', n3', c2, c3, ok, rfl, hb, hF⟩; have HR3 := Aside0.mk ((HR.out.drewN (n1 + n2)).below hb); have HF := Aside0.mk hF; clear hb hF; obtain ⟨m0, m1, m2, m3, g0⟩ := HR3.out.cells))
 iterate 2
  refine gtEnd _ 0 ⟨#[]⟩ none none 0 0 0 0 false _ _ _ rfl rfl ((HR.out.drewN n1).stored _ _ _ _) ?_
  exact ⟨0, ⟨#[]⟩, none, none, 0, 0, 0, 0, false, rfl, (HR.out.drewN n1).stored_below _ _ _ _, fun h => by cases h⟩
 ·refine gtEnd _ 0 ⟨#[]⟩ none none 0 0 0 0 false _ _ _ rfl rfl ((HR.out.drewN (n1 + n2)).stored _ _ _ _) ?_
  exact ⟨0, ⟨#[]⟩, none, none, 0, 0, 0, 0, false, rfl, (HR.out.drewN (n1 + n2)).stored_below _ _ _ _, fun h => by cases h⟩
 refine gtEnd _ K txt A2 A3 n2' n3' c2 c3 ok _ _ _ rfl rfl (HR3.out.stored _ _ _ _) ?_
 refine ⟨K, txt, A2, A3, n2', n3', c2, c3, ok, rfl, HR3.out.stored_below _ _ _ _, fun h => ⟨hz, HPE.out, ?_⟩⟩
 obtain ⟨t, h1, h2, h3, h4, h5, h6⟩ := HF.out h
 have hlt := blk_lt HR.out.hr
 exact ⟨t, h1, h2, h3, h4, h5, ((h6.low (B' := w.heap.size + 1) (by simp)).keepb (stored_keep4 w3 w.heap.size _ _ _ _) (by omega)).low (by omega)⟩
theorem gjt_calls (s : ByteArray) (hl : s.size < 140737488355328) (w : World) : Calls Tryz.prog 23 #[.string s] w (GtF s w) := by
 by_cases h : s.size ≤ 65536
 ·exact gjt_short s h w
 ·exact gjt_long s hl (by omega) w
theorem outL_suffix (raws : List ByteArray) : ∀ (B A : List ByteArray), raws = A ++ B → B ≠ [] → outL raws raws.length ++ [93] = outL raws A.length ++ ((if A.length = 0 then [] else [44]) ++ joinL B)
 | [], _, _, h => absurd rfl h
 | [r], A, hA, _ => by
  have hg : raws.getD A.length ⟨#[]⟩ = r := by rw [hA]; simp
  have hl : raws.length = A.length + 1 := by rw [hA]; simp
  rw [hl]
  simp only [outL, hg, joinL, List.append_assoc]
 | r :: r2 :: rs, A, hA, _ => by
  have hg : raws.getD A.length ⟨#[]⟩ = r := by rw [hA]; simp
  have ih := outL_suffix raws (r2 :: rs) (A ++ [r]) (by rw [hA]; simp) (by simp)
  rw [ih]
  simp only [List.length_append, List.length_cons, List.length_nil, Nat.zero_add, outL, hg, joinL, List.append_assoc]
  simp
theorem outL_joinL (raws : List ByteArray) : outL raws raws.length ++ [93] = 91 :: joinL raws := by
 cases raws with
 | nil => rfl
 | cons r rs =>
  rw [outL_suffix (r :: rs) (r :: rs) [] rfl (by simp)]
  rfl
def It.par (s : ByteArray) : V.It → Prop
 | .val q => q.f0 = 6 → bt s q.f1 = 123 ∧ q.f3.length = q.f4.length ∧ ∀ c ∈ q.f4, V.G s (.val c)
 | .els _ _ _ => True
 | .mems _ N C _ => N.length = C.length ∧ ∀ c ∈ C, V.G s (.val c)
theorem G.par {s : ByteArray} {it : V.It} (h : V.G s it) : It.par s it := by
 induction h with
 | num p e h0 h => exact fun q => by dsimp only at q; omega
 | str p e h => exact fun q => by dsimp only at q; omega
 | null p e h0 h => exact fun q => by dsimp only at q; omega
 | fals p e h0 h => exact fun q => by dsimp only at q; omega
 | tru p e h0 h => exact fun q => by dsimp only at q; omega
 | arr0 p b h0 h1 h2 h3 h4 => exact fun q => by dsimp only at q; omega
 | arr p b e C h0 h1 h2 h3 ih => exact fun q => by dsimp only at q; omega
 | obj0 p b h0 h1 h2 h3 h4 => exact fun _ => ⟨h1, rfl, fun c h => by cases h⟩
 | obj p b e N C h0 h1 h2 h3 ih => exact fun _ => ⟨h1, ih.1, ih.2⟩
 | els1 c b h0 h1 h2 h3 ih => trivial
 | elsn c b p e C h0 h1 h2 h3 h4 h5 ih ih2 => trivial
 | mem1 n c b x h0 h1 h2 h3 h4 h5 h6 h7 ih => exact ⟨rfl, fun c' h => by rw [List.mem_singleton.mp h]; exact h4⟩
 | memn n c b x p e N C h0 h1 h2 h3 h4 h5 h6 h7 h8 h9 ih ih2 => exact ⟨by simp [ih2.1], List.forall_mem_cons.2 ⟨h4, ih2.2⟩⟩
def It.pas (s : ByteArray) : V.It → Prop
 | .val q => PA s q.f1 → ∀ c ∈ q.f4, PA s c.f1
 | .els p C e => PA s p → ∀ c ∈ C, PA s c.f1
 | .mems p N C e => PA s p → ∀ c ∈ C, PA s c.f1
theorem G.pas {s : ByteArray} (hz : s.size ≤ 65536) {it : V.It} (h : V.G s it) : It.pas s it := by
 induction h with
 | num p e h0 h => exact fun _ c hc => by simp at hc
 | str p e h => exact fun _ c hc => by simp at hc
 | null p e h0 h => exact fun _ c hc => by simp at hc
 | fals p e h0 h => exact fun _ c hc => by simp at hc
 | tru p e h0 h => exact fun _ c hc => by simp at hc
 | obj0 p b h0 h1 h2 h3 h4 => exact fun _ c hc => by simp at hc
 | arr0 p b h0 h1 h2 h3 h4 => exact fun _ c hc => by simp at hc
 | obj p b e N C h0 h1 h2 h3 ih =>
  intro hP
  have q := h2.1
  obtain ⟨k0, k1, k2, _⟩ := h3.ok
  exact ih (pa_bl hz (by omega) (by omega) h2 (pa_one hz h0 (by omega) (by omega) hP))
 | arr p b e C h0 h1 h2 h3 ih =>
  intro hP
  have q := h2.1
  obtain ⟨k0, k1, k2, _⟩ := h3.ok
  exact ih (pa_bl hz (by omega) (by omega) h2 (pa_one hz h0 (by omega) (by omega) hP))
 | els1 c b h0 h1 h2 h3 ih =>
  intro hP x hx
  simp only [List.mem_singleton] at hx
  subst hx
  exact hP
 | elsn c b p e C h0 h1 h2 h3 h4 h5 ih ih2 =>
  intro hP x hx
  have q := h1.1
  have q4 := h4.1
  obtain ⟨i0, i1, i2, _⟩ := h0.ok
  obtain ⟨j0, j1, j2, _⟩ := h5.ok
  rcases List.mem_cons.1 hx with rfl | hx
  ·exact hP
  ·have p3 : PA s c.f2 := h0.pa hz hP
   exact ih2 (pa_bl hz (by omega) (by omega) h4 (pa_one hz (by omega) (by omega) (by omega) (pa_bl hz (by omega) (by omega) h1 p3))) x hx
 | mem1 n c b x h0 h1 h2 h3 h4 h5 h6 h7 ih =>
  intro hP y hy
  have q := h1.1
  have q2 := h3.1
  have q3 := h5.1
  obtain ⟨i0, i1, i2, _⟩ := h4.ok
  have hlt := Str.lt h0
  have hn0 := h0.1
  have p1 := (str_pa hz h0 hP).2
  have p2 : PA s c.f1 := pa_bl hz (by omega) (by omega) h3 (pa_one hz (by omega) (by omega) (by omega) (pa_bl hz (by omega) (by omega) h1 p1))
  simp only [List.mem_singleton] at hy
  subst hy
  exact p2
 | memn n c b x p e N C h0 h1 h2 h3 h4 h5 h6 h7 h8 h9 ih ih2 =>
  intro hP y hy
  have q := h1.1
  have q2 := h3.1
  have q3 := h5.1
  have q4 := h8.1
  obtain ⟨i0, i1, i2, _⟩ := h4.ok
  obtain ⟨j0, j1, j2, _⟩ := h9.ok
  have hlt := Str.lt h0
  have hn0 := h0.1
  have p1 := (str_pa hz h0 hP).2
  have p2 : PA s c.f1 := pa_bl hz (by omega) (by omega) h3 (pa_one hz (by omega) (by omega) (by omega) (pa_bl hz (by omega) (by omega) h1 p1))
  rcases List.mem_cons.1 hy with rfl | hy
  ·exact p2
  ·have p3 : PA s c.f2 := h4.pa hz p2
   exact ih2 (pa_bl hz (by omega) (by omega) h8 (pa_one hz (by omega) (by omega) (by omega) (pa_bl hz (by omega) (by omega) h5 p3))) y hy
theorem ag_own {s : ByteArray} {c : S78} (h0 : 0 ≤ c.f1) (h1 : c.f1 ≤ c.f2) (h2 : c.f2 ≤ s.size) : Ag s (raw s c) (-c.f1) c.f1 c.f2 := by
 have hs : ((raw s c).size : Int) = c.f2 - c.f1 := by unfold raw; rw [ByteArray.size_extract]; omega
 refine ⟨h0, by omega, h2, by omega, fun i x y => ?_⟩
 unfold raw
 exact bt_extract' s _ _ _ i (by omega) (by omega) (by omega) (by omega)
theorem vd_sh {s s' : ByteArray} {d : Int} {c : S78} (hG : V.G s (.val c)) (h : VD s c) (g : Ag s s' d c.f1 c.f2) : VD s' (shP d c) := by
 intro h4
 rw [shP_f0] at h4
 have hl : c.f1 + 2 ≤ c.f2 := by
  cases hG with
  | str p e hs => have := Str.lt hs; dsimp only; omega
  | _ => dsimp only at h4; omega
 rw [shP_f1, shP_f2]
 exact SD.sh (h h4) hl g
theorem mem_shL {d : Int} {x : S78} : ∀ {C : List S78}, x ∈ shL d C → ∃ c ∈ C, x = shP d c
 | [], h => by simp [shL] at h
 | c :: C, h => by
  simp only [shL, List.mem_cons] at h
  rcases h with rfl | h
  ·exact ⟨c, List.mem_cons_self .., rfl⟩
  ·obtain ⟨y, hy, e⟩ := mem_shL h
   exact ⟨y, List.mem_cons_of_mem _ hy, e⟩
def Val (r : ByteArray) : Prop := ∃ v : S78, V.G r (.val v) ∧ v.f1 = 0 ∧ v.f2 = r.size ∧ VD r v
theorem val_of {s : ByteArray} {c : S78} (hG : V.G s (.val c)) (h : VD s c) : Val (raw s c) := by
 obtain ⟨k0, k1, k2, _⟩ := hG.ok
 have g := ag_own k0 (by omega) k2
 have hs : ((raw s c).size : Int) = c.f2 - c.f1 := by unfold raw; rw [ByteArray.size_extract]; omega
 exact ⟨shP (-c.f1) c, hG.sh (it := .val c) g, by rw [shP_f1]; omega, by rw [shP_f2]; omega, vd_sh hG h g⟩
theorem arr_91 {s : ByteArray} {c : S78} (hG : V.G s (.val c)) (h : c.f0 = 5) : bt s c.f1 = 91 := by
 cases hG with
 | arr0 p b h0 h1 => exact h1
 | arr p b e C h0 h1 => exact h1
 | _ => dsimp only at h; omega
theorem own_array {s : ByteArray} (hz : s.size ≤ 65536) {c : S78} (hG : V.G s (.val c)) (h5 : c.f0 = 5) (hP : PA s c.f1) : 0 < (raw s c).size ∧ (raw s c).size ≤ 65536 ∧ bt (raw s c) 0 = 91 ∧ Fla (raw s c) 1 (Ef c) ∧ ∀ r ∈ rawsA (raw s c) (Ef c), r.size + 2 ≤ (raw s c).size ∧ Val r := by
 obtain ⟨k0, k1, k2, _⟩ := hG.ok
 have g := ag_own k0 (by omega) k2
 have hs : ((raw s c).size : Int) = c.f2 - c.f1 := by unfold raw; rw [ByteArray.size_extract]; omega
 have hG2 := hG.sh (it := .val c) g
 simp only [It.sh] at hG2
 have hpas := G.pas hz hG hP
 have hlie := G.lies hG h5
 have hel : ∀ e ∈ Ef c, Sz (raw s c) e ∧ VD (raw s c) e := by
  intro e he
  obtain ⟨x, hx, rfl⟩ := mem_shL he
  obtain ⟨a1, a2, a3, a4⟩ := hlie x hx
  exact ⟨.inl (by omega), vd_sh a4 (vd_of hz a4 (hpas x hx)) (g.sub (by omega) (by omega))⟩
 have hf4 : (shP (-c.f1) c).f4 = Ef c := shP_f4 _ _
 refine ⟨by omega, by omega, ?_, ?_, ?_⟩
 ·rw [g.at c.f1 0 (by omega) (by omega) (by omega)]; exact arr_91 hG h5
 ·have := G.flv hG2 (by rw [shP_f0]; exact h5) (by rw [shP_f1]; omega) (by rw [shP_f2]; omega) (by rw [hf4]; exact hel)
  rwa [hf4] at this
 intro r hr
 obtain ⟨e, he, rfl⟩ := List.mem_map.1 hr
 obtain ⟨a1, a2, a3, a4⟩ := G.lies hG2 (by rw [shP_f0]; exact h5) e (by rw [hf4]; exact he)
 rw [shP_f1] at a1
 rw [shP_f2] at a3
 refine ⟨?_, val_of a4 (hel e he).2⟩
 rw [ByteArray.size_extract]
 omega
theorem gr_of (s : ByteArray) (hz : s.size ≤ 65536) (q : S78) (hG : V.G s (.val q)) (h6 : q.f0 = 6) (e1 : q.f1 = 0) (e2 : q.f2 = s.size) (hP : PA s 0) (m : Nat) (hk : ∀ c ∈ q.f4, c.f0 = 5 ∧ c.f4.length = m) (hne : 0 < q.f4.length) : Gr s (q.f3.zip q.f4) ∧ m ≤ 65536 ∧ 0 < (q.f3.zip q.f4).length ∧ (∀ p ∈ q.f3.zip q.f4, (Ef p.2).length = m) ∧ ∀ p ∈ q.f3.zip q.f4, ∀ r ∈ rawsA (raw s p.2) (Ef p.2), Val r := by
 have hF := G.fl hz hG h6 e1 e2 hP
 obtain ⟨h123, hlen, hall⟩ := G.par hG h6
 have hpas := G.pas hz hG (by rw [e1]; exact hP)
 have hL : 0 < (q.f3.zip q.f4).length := by rw [List.length_zip]; omega
 have hown : ∀ p ∈ q.f3.zip q.f4, _ := fun p hp => own_array hz (hall p.2 (List.of_mem_zip hp).2) (hk p.2 (List.of_mem_zip hp).2).1 (hpas p.2 (List.of_mem_zip hp).2)
 have hm : ∀ p ∈ q.f3.zip q.f4, (Ef p.2).length = m := fun p hp => by
  rw [← (hk p.2 (List.of_mem_zip hp).2).2]; exact shL_length _ _
 have hmz : m ≤ 65536 := by
  obtain ⟨c, hc⟩ : ∃ c, c ∈ q.f4 := ⟨q.f4[0], List.getElem_mem _⟩
  obtain ⟨k0, k1, k2, k3, k4⟩ := (hall c hc).ok
  rw [(hk c hc).2] at k4
  omega
 have he : ∀ p ∈ q.f3.zip q.f4, ∀ r ∈ rawsA (raw s p.2) (Ef p.2), r.size + 2 ≤ (raw s p.2).size := fun p hp r hr => ((hown p hp).2.2.2.2 r hr).1
 refine ⟨⟨?_, fun n => by have := rows_rl s _ m hm n; omega, rows_row hF (by omega) hz hL m hm he _ (Nat.le_refl _) hL⟩, hmz, hL, hm, fun p hp r hr => ((hown p hp).2.2.2.2 r hr).2⟩
 intro k nm c hget
 have hp : (nm, c) ∈ q.f3.zip q.f4 := List.mem_of_getElem? hget
 obtain ⟨o1, o2, o3, o4, o5⟩ := hown _ hp
 have hkl : k < (q.f3.zip q.f4).length := by
  by_cases x : k < (q.f3.zip q.f4).length
  ·exact x
  ·rw [List.getElem?_eq_none (by omega)] at hget; cases hget
 have hns : (s.extract nm.f0.toNat nm.f1.toNat).size ≤ 65536 := by rw [ByteArray.size_extract]; omega
 have hml := hm _ hp
 refine ⟨(hk c (List.of_mem_zip hp).2).1, o1, o2, o3, o4, by dsimp only at hml; omega, by omega, fun j hj r hr => ?_⟩
 have hrows : ∀ r ∈ rowsN s (q.f3.zip q.f4) k, r.length ≤ 65536 := by
  by_cases hk0 : 0 < k
  ·exact fun r hr => (rows_row hF (by omega) hz hL m hm he k (by omega) hk0 r hr).2
  have : k = 0 := by omega
  subst this
  intro r hr
  simp [rowsN] at hr
 have := updR_le _ _ _ 65536 200000 hrows (fun r hr => by have := (o5 r hr).1; dsimp only at this o2; omega) j (by simp only [rawsA, List.length_map]; exact hj) r hr
 omega
def Nam (r : ByteArray) : Prop := Str r 0 r.size ∧ SD r 0 r.size
theorem raw_all (x : ByteArray) : raw x ⟨0, 0, x.size, [], []⟩ = x := by
 unfold raw
 show x.extract 0 ((x.size : Nat) : Int).toNat = x
 rw [Int.toNat_natCast]
 exact ByteArray.extract_zero_size
theorem at_text (O : List UInt8) (p : Nat) (x : ByteArray) (hx : 0 < x.size) (y : UInt8) (rest : List UInt8) (h : O.drop p = x.data.toList ++ y :: rest) :
  Ag x ⟨O.toArray⟩ p 0 x.size ∧ bt ⟨O.toArray⟩ ((p + x.size : Nat) : Int) = y.toNat ∧ O.drop (p + x.size + 1) = rest ∧ p + x.size + 1 + rest.length = O.length := by
 have hl : x.data.toList.length = x.size := by simp
 have g := ag_raw (s := x) O p (c := ⟨0, 0, x.size, [], []⟩) (by dsimp only; omega) (by dsimp only; omega) (by dsimp only; omega) (y :: rest) (by rw [raw_all]; exact h)
 dsimp only at g
 rw [show ((p : Int) - 0) = p by omega] at g
 have hlen : (O.drop p).length = x.size + 1 + rest.length := by rw [h, List.length_append, hl]; simp; omega
 rw [List.length_drop] at hlen
 refine ⟨g, ?_, ?_, by omega⟩
 ·rw [bt_drop O p _ h x.size (by rw [List.length_append, hl]; simp), List.getElem_append_right (by rw [hl]; omega)]
  simp [hl]
 have := congrArg (List.drop (x.size + 1)) h
 rw [List.drop_drop] at this
 rw [show p + x.size + 1 = p + (x.size + 1) by omega, this, List.drop_append]
 rw [List.drop_of_length_le (by rw [hl]; omega)]
 simp [hl]
theorem bl_nil (s : ByteArray) (a b : Int) (h : a = b) : Bl s a b := ⟨by omega, fun i x y => by omega⟩
theorem Val.pos {r : ByteArray} (h : Val r) : 0 < r.size := by
 obtain ⟨v, hG, h1, h2, _⟩ := h
 obtain ⟨k0, k1, k2, _⟩ := hG.ok
 omega
theorem Nam.pos {r : ByteArray} (h : Nam r) : 2 ≤ r.size := by have := Str.lt h.1; omega
theorem Val.at {x : ByteArray} (h : Val x) {O : ByteArray} {p : Int} (g : Ag x O p 0 x.size) : ∃ c : S78, V.G O (.val c) ∧ c.f1 = p ∧ c.f2 = p + x.size ∧ VD O c := by
 obtain ⟨v, hG, h1, h2, hV⟩ := h
 have g' : Ag x O p v.f1 v.f2 := by rw [h1, h2]; exact g
 exact ⟨shP p v, hG.sh (it := .val v) g', by rw [shP_f1]; omega, by rw [shP_f2]; omega, vd_sh hG hV g'⟩
theorem Nam.at {x : ByteArray} (h : Nam x) {O : ByteArray} {p : Int} (g : Ag x O p 0 x.size) : Str O p (p + x.size) ∧ SD O p (p + x.size) ∧ O.extract p.toNat (p + x.size).toNat = x := by
 have k1 := Str_sh h.1 g
 have k2 := SD.sh h.2 (by have := h.pos; omega) g
 have k3 := g.ext (by omega)
 rw [show (0 : Int) + p = p by omega, show (x.size : Int) + p = p + x.size by omega] at k1 k2 k3
 refine ⟨k1, k2, k3.trans ?_⟩
 have := raw_all x
 exact this
def joinM : List (ByteArray × ByteArray) → List UInt8
 | [] => [125]
 | [p] => p.1.data.toList ++ 58 :: (p.2.data.toList ++ [125])
 | p :: p2 :: ps => p.1.data.toList ++ 58 :: (p.2.data.toList ++ 44 :: joinM (p2 :: ps))
theorem piece_list (a b : ByteArray) : (piece a b).data.toList = 44 :: (a.data.toList ++ 58 :: b.data.toList) := by
 simp [piece, ByteArray.data_append]
theorem bits_joinM : ∀ P : List (ByteArray × ByteArray), P ≠ [] → P.flatMap (fun p => (piece p.1 p.2).data.toList) ++ [125] = 44 :: joinM P
 | [], h => absurd rfl h
 | [p], _ => by simp [piece_list, joinM]
 | p :: p2 :: ps, _ => by
  have ih := bits_joinM (p2 :: ps) (by simp)
  rw [List.flatMap_cons, List.append_assoc, ih, piece_list]
  simp [joinM]
theorem mems_out (O : List UInt8) : ∀ P : List (ByteArray × ByteArray), P ≠ [] → (∀ p ∈ P, Nam p.1 ∧ Val p.2) → ∀ p : Nat, O.drop p = joinM P →
  ∃ N C, V.G ⟨O.toArray⟩ (.mems p N C O.length) ∧ Fl ⟨O.toArray⟩ p (N.zip C) ∧ N.length = C.length ∧ namesOf ⟨O.toArray⟩ (N.zip C) = P.map Prod.fst := by
 have hoz : (⟨O.toArray⟩ : ByteArray).size = O.length := by simp [ByteArray.size]
 have step : ∀ (a b : ByteArray) (p : Nat) (x : UInt8) (rest : List UInt8), Nam a → Val b → O.drop p = a.data.toList ++ 58 :: (b.data.toList ++ x :: rest) →
   ∃ (n : S115) (c : S78), n.f0 = p ∧ Str ⟨O.toArray⟩ n.f0 n.f1 ∧ SD ⟨O.toArray⟩ n.f0 n.f1 ∧ bt ⟨O.toArray⟩ n.f1 = 58 ∧ c.f1 = n.f1 + 1 ∧ V.G ⟨O.toArray⟩ (.val c) ∧ VD ⟨O.toArray⟩ c ∧ bt ⟨O.toArray⟩ c.f2 = x.toNat ∧ (⟨O.toArray⟩ : ByteArray).extract n.f0.toNat n.f1.toNat = a ∧ c.f2 + 1 + rest.length = O.length ∧ ∃ z : Nat, (z : Int) = c.f2 ∧ O.drop (z + 1) = rest := by
  intro a b p x rest ha hb h
  obtain ⟨g1, q1, d1, l1⟩ := at_text O p a (by have := ha.pos; omega) 58 _ h
  obtain ⟨g2, q2, d2, l2⟩ := at_text O (p + a.size + 1) b hb.pos x rest d1
  obtain ⟨s1, s2, s3⟩ := ha.at g1
  obtain ⟨c, c1, c2, c3, c4⟩ := hb.at g2
  refine ⟨⟨p, p + a.size⟩, c, rfl, s1, s2, by rw [show ((⟨p, p + a.size⟩ : S115).f1) = ((p + a.size : Nat) : Int) by dsimp only; omega, q1]; rfl, by rw [c2]; dsimp only; omega, c1, c4, ?_, s3, by rw [c3]; omega, p + a.size + 1 + b.size, by rw [c3]; omega, d2⟩
  rw [c3, show ((p + a.size + 1 : Nat) : Int) + b.size = ((p + a.size + 1 + b.size : Nat) : Int) by omega, q2]
 intro P
 induction P with
 | nil => intro h; exact absurd rfl h
 | cons w P ih =>
  intro _ hP p hp
  obtain ⟨ha, hb⟩ := hP w (List.mem_cons_self ..)
  cases P with
  | nil =>
   obtain ⟨n, c, n0, hS, hD, h58, hc1, hG, hV, hx, hn, hl, z, hz, hd⟩ := step w.1 w.2 p 125 [] ha hb hp
   have hx : bt ⟨O.toArray⟩ c.f2 = 125 := by rw [hx]; rfl
   simp only [List.length_nil] at hl
   refine ⟨[n], [c], ?_, ?_, rfl, by simp [namesOf, hn]⟩
   ·have := V.G.mem1 n c n.f1 c.f2 hS (bl_nil _ _ _ rfl) h58 (bl_nil _ _ _ hc1.symm) hG (bl_nil _ _ _ rfl) (by rw [hoz]; omega) hx
    rw [n0, show c.f2 + 1 = (O.length : Int) by omega] at this
    exact this
   have hd0 : Fl ⟨O.toArray⟩ (c.f2 + 1) [] := by rw [show c.f2 + 1 = (((⟨O.toArray⟩ : ByteArray).size : Nat) : Int) by rw [hoz]; omega]; exact .done
   have := Fl.item n c [] hS hD (sk_colon (bl_nil _ _ _ rfl) h58 (bl_nil _ _ _ hc1.symm)) hG (fun _ => .inr (.inr (.inr hx))) hV (by rw [hoz]; omega) hd0
   rw [n0] at this
   exact this
  | cons w2 P =>
   obtain ⟨n, c, n0, hS, hD, h58, hc1, hG, hV, hx, hn, hl, z, hz, hd⟩ := step w.1 w.2 p 44 _ ha hb hp
   have hx : bt ⟨O.toArray⟩ c.f2 = 44 := by rw [hx]; rfl
   obtain ⟨N, C, i1, i2, i3, i4⟩ := ih (by simp) (fun x hx => hP x (List.mem_cons_of_mem _ hx)) (z + 1) hd
   have hzz : ((z + 1 : Nat) : Int) = c.f2 + 1 := by omega
   rw [hzz] at i1 i2
   refine ⟨n :: N, c :: C, ?_, ?_, by simp [i3], by simp only [namesOf] at i4 ⊢; simp only [List.zip_cons_cons, List.map_cons, hn, i4]⟩
   rotate_left
   ·have := Fl.item n c (N.zip C) hS hD (sk_colon (bl_nil _ _ _ rfl) h58 (bl_nil _ _ _ hc1.symm)) hG (fun _ => .inr (.inl hx)) hV (by rw [hoz]; omega) i2
    rw [n0] at this
    exact this
   have := V.G.memn n c n.f1 c.f2 (c.f2 + 1) O.length N C hS (bl_nil _ _ _ rfl) h58 (bl_nil _ _ _ hc1.symm) hG (bl_nil _ _ _ rfl) (by rw [hoz]; omega) hx (bl_nil _ _ _ rfl) i1
   rw [n0] at this
   exact this
theorem bt_head (O : List UInt8) (x : UInt8) (l : List UInt8) (h : O = x :: l) : bt ⟨O.toArray⟩ 0 = x.toNat := by
 have := bt_drop O 0 O (by simp) 0 (by rw [h]; simp)
 simp only [Nat.zero_add] at this
 rw [show ((0 : Nat) : Int) = 0 from rfl] at this
 rw [this]
 simp [h]
def ObjT (r : ByteArray) (names : List ByteArray) : Prop := ∃ N C, V.G r (.val ⟨6, 0, r.size, N, C⟩) ∧ Fl r 1 (N.zip C) ∧ namesOf r (N.zip C) = names ∧ bt r 0 = 123
theorem obj_out (P : List (ByteArray × ByteArray)) (hne : P ≠ []) (hP : ∀ p ∈ P, Nam p.1 ∧ Val p.2) (O : List UInt8) (hO : O = 123 :: joinM P) : ObjT ⟨O.toArray⟩ (P.map Prod.fst) := by
 have hoz : (⟨O.toArray⟩ : ByteArray).size = O.length := by simp [ByteArray.size]
 have hb := bt_head O 123 _ hO
 have hb : bt ⟨O.toArray⟩ 0 = 123 := by rw [hb]; rfl
 obtain ⟨N, C, i1, i2, i3, i4⟩ := mems_out O P hne hP 1 (by rw [hO]; rfl)
 refine ⟨N, C, ?_, i2, i4, hb⟩
 rw [hoz]
 exact .obj 0 1 _ N C (by omega) hb (bl_nil _ _ _ rfl) i1
theorem els_fla (O : List UInt8) (hO : O.length ≤ 274877906944) (names : List ByteArray) : ∀ Rs : List ByteArray, Rs ≠ [] → (∀ r ∈ Rs, ObjT r names) → ∀ p : Nat, O.drop p = joinL Rs → ∃ E, Fla ⟨O.toArray⟩ p E ∧ rawsA ⟨O.toArray⟩ E = Rs ∧ ∀ c ∈ E, c.f0 = 6 := by
 have hoz : (⟨O.toArray⟩ : ByteArray).size = O.length := by simp [ByteArray.size]
 have step : ∀ (r : ByteArray) (p : Nat) (x : UInt8) (rest : List UInt8), ObjT r names → O.drop p = r.data.toList ++ x :: rest →
   ∃ c : S78, c.f0 = 6 ∧ c.f1 = p ∧ V.G ⟨O.toArray⟩ (.val c) ∧ bt ⟨O.toArray⟩ c.f2 = x.toNat ∧ raw ⟨O.toArray⟩ c = r ∧ c.f2 + 1 + rest.length = O.length ∧ ∃ z : Nat, (z : Int) = c.f2 ∧ O.drop (z + 1) = rest := by
  intro r p x rest ⟨N, C, hG, _⟩ h
  obtain ⟨k0, k1, k2, _⟩ := hG.ok
  dsimp only at k1
  obtain ⟨g1, q1, d1, l1⟩ := at_text O p r (by omega) x rest h
  refine ⟨shP p ⟨6, 0, r.size, N, C⟩, by rw [shP_f0], by rw [shP_f1]; dsimp only; omega, hG.sh (it := .val ⟨6, 0, r.size, N, C⟩) g1, ?_, ?_, by rw [shP_f2]; dsimp only; omega, p + r.size, by rw [shP_f2]; dsimp only; omega, d1⟩
  ·rw [shP_f2]; dsimp only; rw [show (r.size : Int) + p = ((p + r.size : Nat) : Int) by omega]; exact q1
  ·unfold raw
   rw [shP_f1, shP_f2]
   dsimp only
   rw [g1.ext (by omega)]
   exact raw_all r
 intro Rs
 induction Rs with
 | nil => intro h; exact absurd rfl h
 | cons r Rs ih =>
  intro _ hR p hp
  have ho := hR r (List.mem_cons_self ..)
  cases Rs with
  | nil =>
   obtain ⟨c, c0, c1, hG, hx, hr, hl, z, hz, hd⟩ := step r p 93 [] ho hp
   simp only [List.length_nil] at hl
   have hx : bt ⟨O.toArray⟩ c.f2 = 93 := by rw [hx]; rfl
   have hd0 : Fla ⟨O.toArray⟩ (c.f2 + 1) [] := by rw [show c.f2 + 1 = (((⟨O.toArray⟩ : ByteArray).size : Nat) : Int) by rw [hoz]; omega]; exact .done
   refine ⟨[c], .item p c [] (by omega) ⟨by omega, fun i x y => by omega⟩ (.inr ⟨.inr c0, by rw [hoz]; omega⟩) hG (fun _ => .inr (.inr (.inl hx))) (fun h4 => by omega) (by rw [hoz]; omega) hd0, ?_, ?_⟩
   ·simp only [rawsA, List.map_cons, List.map_nil]; exact congrArg (· :: []) hr
   ·intro e he; rw [List.mem_singleton.1 he]; exact c0
  | cons r2 Rs =>
   obtain ⟨c, c0, c1, hG, hx, hr, hl, z, hz, hd⟩ := step r p 44 _ ho hp
   have hx : bt ⟨O.toArray⟩ c.f2 = 44 := by rw [hx]; rfl
   obtain ⟨E, i1, i2, i3⟩ := ih (by simp) (fun x hx => hR x (List.mem_cons_of_mem _ hx)) (z + 1) hd
   rw [show ((z + 1 : Nat) : Int) = c.f2 + 1 by omega] at i1
   refine ⟨c :: E, .item p c E (by omega) ⟨by omega, fun i x y => by omega⟩ (.inr ⟨.inr c0, by rw [hoz]; omega⟩) hG (fun _ => .inr (.inl hx)) (fun h4 => by omega) (by rw [hoz]; omega) i1, ?_, List.forall_mem_cons.2 ⟨c0, i3⟩⟩
   simp only [rawsA, List.map_cons] at i2 ⊢
   rw [i2]
   exact congrArg (· :: _) hr
theorem list_fla (names : List ByteArray) (Rs : List ByteArray) (hR : ∀ r ∈ Rs, ObjT r names) (O : List UInt8) (hO : O = 91 :: joinL Rs) (hl : O.length ≤ 274877906944) : bt ⟨O.toArray⟩ 0 = 91 ∧ ∃ E, Fla ⟨O.toArray⟩ 1 E ∧ rawsA ⟨O.toArray⟩ E = Rs ∧ ∀ c ∈ E, c.f0 = 6 := by
 have hoz : (⟨O.toArray⟩ : ByteArray).size = O.length := by simp [ByteArray.size]
 have hb := bt_head O 91 _ hO
 refine ⟨by rw [hb]; rfl, ?_⟩
 by_cases q : Rs = []
 rotate_left
 ·exact els_fla O hl names Rs q hR 1 (by rw [hO]; rfl)
 subst q
 have hO2 : O = [91, 93] := by rw [hO]; rfl
 have hb1 := bt_drop O 1 [93] (by rw [hO2]; rfl) 0 (by simp)
 have hs : (((⟨O.toArray⟩ : ByteArray).size : Nat) : Int) - 1 = 1 := by rw [hoz, hO2]; rfl
 refine ⟨[], .last 1 (by omega) ⟨by omega, fun i x y => by omega⟩ ?_, rfl, fun c h => by cases h⟩
 rw [hs]
 exact hb1
def ob (r : List UInt8) : ByteArray := ⟨(123 :: (r.drop 1 ++ [125])).toArray⟩
theorem datI_outL (rows : List (List UInt8)) : ∀ j, j ≤ rows.length → (datI rows j).map (fun n => UInt8.ofNat n.toNat) = outL (rows.map ob) j
 | 0, _ => rfl
 | j + 1, h => by
  have ih := datI_outL rows j (by omega)
  have hg : rows.getD j [] = rows[j] := by rw [List.getD_eq_getElem?_getD, List.getElem?_eq_getElem (by omega)]; rfl
  have hg2 : (rows.map ob).getD j ⟨#[]⟩ = ob rows[j] := by rw [List.getD_eq_getElem?_getD, List.getElem?_map, List.getElem?_eq_getElem (by omega)]; rfl
  have hm : ∀ l : List UInt8, (l.map (fun b => (b.toNat : Int))).map (fun n => UInt8.ofNat n.toNat) = l := fun l => by
   rw [List.map_map]
   conv => rhs; rw [← List.map_id l]
   refine List.map_congr_left fun b _ => ?_
   simp
  simp only [datI, outL, List.map_append, hg, hg2, hm, ih]
  by_cases q : j = 0
  ·simp [q, ob]
  ·simp [q, ob]
theorem dat_text (rows : List (List UInt8)) : strOfNums (datI rows rows.length ++ [93]) = ⟨(91 :: joinL (rows.map ob)).toArray⟩ := by
 have h := datI_outL rows rows.length (Nat.le_refl _)
 have h2 := outL_joinL (rows.map ob)
 rw [List.length_map] at h2
 unfold strOfNums
 rw [List.map_append, h, ← h2]
 rfl
theorem fl_names {s : ByteArray} {i : Int} {L : List (S115 × S78)} (h : Fl s i L) : ∀ p ∈ L, Str s p.1.f0 p.1.f1 ∧ SD s p.1.f0 p.1.f1 := by
 induction h with
 | done => exact fun p h => by cases h
 | skip i L h0 h1 h2 h3 ih => exact ih
 | item n c L h1 h2 h3 h4 h5 h6 h7 h8 ih => exact List.forall_mem_cons.2 ⟨⟨h1, h2⟩, ih⟩
theorem nam_of {s : ByteArray} {n : S115} (h : Str s n.f0 n.f1) (h2 : SD s n.f0 n.f1) : Nam (s.extract n.f0.toNat n.f1.toNat) := by
 have hl := Str.lt h
 have h0 := h.1
 have g := ag_own (s := s) (c := ⟨4, n.f0, n.f1, [], []⟩) h0 (by dsimp only; omega) hl.2
 dsimp only at g
 have hs : (((s.extract n.f0.toNat n.f1.toNat).size : Nat) : Int) = n.f1 - n.f0 := by rw [ByteArray.size_extract]; omega
 have k1 := Str_sh h g
 have k2 := SD.sh h2 (by omega) g
 rw [show n.f0 + -n.f0 = 0 by omega, show n.f1 + -n.f0 = (((s.extract n.f0.toNat n.f1.toNat).size : Nat) : Int) by omega] at k1 k2
 exact ⟨k1, k2⟩
theorem rows_obj {s : ByteArray} (hz : s.size ≤ 65536) {L : List (S115 × S78)} (hF : Fl s 1 L) (hL : 0 < L.length) (m : Nat) (hm : ∀ p ∈ L, (Ef p.2).length = m) (he : ∀ p ∈ L, ∀ r ∈ rawsA (raw s p.2) (Ef p.2), Val r) (hr : ∀ r ∈ rowsN s L L.length, 1 ≤ r.length) :
  (rowsN s L L.length).length = m ∧ ∀ r ∈ (rowsN s L L.length).map ob, ObjT r (namesOf s L) := by
 have hl := rowsN_len s L m hm L.length (Nat.le_refl _)
 rw [if_neg (by omega)] at hl
 refine ⟨hl, fun r hr' => ?_⟩
 obtain ⟨r0, h0, rfl⟩ := List.mem_map.1 hr'
 obtain ⟨j, hj, e⟩ := List.getElem_of_mem h0
 have hg := rowsN_get s L m hm j (by omega) L.length (Nat.le_refl _)
 rw [List.getD_eq_getElem?_getD, List.getElem?_eq_getElem hj, e, List.take_length] at hg
 simp only [Option.getD_some] at hg
 have h1 := hr r0 h0
 obtain ⟨P, hPd⟩ : ∃ P, P = L.map (fun p => (s.extract p.1.f0.toNat p.1.f1.toNat, (rawsA (raw s p.2) (Ef p.2)).getD j ⟨#[]⟩)) := ⟨_, rfl⟩
 have hne : P ≠ [] := by intro q; rw [q] at hPd; have := congrArg List.length hPd; simp at this; rw [this] at hL; simp at hL
 have hfm : r0 = P.flatMap (fun p => (piece p.1 p.2).data.toList) := by rw [hg, hPd, List.flatMap_map]; rfl
 have hb := bits_joinM P hne
 rw [← hfm] at hb
 have hd : r0.drop 1 ++ [125] = joinM P := by
  cases r0 with
  | nil => simp at h1
  | cons a r0 => simp only [List.cons_append, List.cons.injEq] at hb; simpa using hb.2
 have := obj_out P hne (fun p hp => ?_) (123 :: (r0.drop 1 ++ [125])) (by rw [hd])
 ·rw [show P.map Prod.fst = namesOf s L by rw [hPd, List.map_map]; rfl] at this
  exact this
 rw [hPd] at hp
 obtain ⟨q, hq, rfl⟩ := List.mem_map.1 hp
 obtain ⟨n1, n2⟩ := fl_names hF q hq
 refine ⟨nam_of n1 n2, he q hq _ ?_⟩
 have hlr : (rawsA (raw s q.2) (Ef q.2)).length = m := by simp only [rawsA, List.length_map]; exact hm q hq
 dsimp only
 rw [List.getD_eq_getElem?_getD, List.getElem?_eq_getElem (by omega)]
 exact List.getElem_mem (by omega)
theorem doorg_calls (s O : ByteArray) (w : World) (h : ∀ W, Below w.heap.size w W → Calls Tryz.prog 71 #[.string s, .string ⟨#[]⟩] W fun e w' => e = .returned (.string O) ∧ Below W.heap.size W w') : Calls Tryz.prog 46 #[.string s] w fun e w' => e = .returned (.string O) ∧ Below w.heap.size w w' := by
 have H := Aside0.mk (h w (Below.refl _ _))
 clear h
 go_enter Tryz.func46, Tryz.ntmps46
 go_wp2_with (go_at_call 71; refine H.out.mono ?_; rintro e w2 ⟨rfl, hb⟩; have HB := Aside0.mk hb; clear hb)
 go_ret
 exact ⟨rfl, HB.out⟩
theorem gjgroup_calls (s : ByteArray) (hz : s.size ≤ 65536) (hs : 0 < s.size) (h123 : bt s 0 = 123) (L : List (S115 × S78)) (hL : Fl s 1 L) (hG : Gr s L) (w : World) (hT : Tabs w) (hV : VT w) :
  Calls Tryz.prog 20 #[.string s] w fun e w' => e = .returned (.string (strOfNums (datI (rowsN s L L.length) (rowsN s L L.length).length ++ [93]))) ∧ Below w.heap.size w w' := by
 have H := Aside0.mk (doorg_calls s _ w (fun W hb => modgroup_calls s hz hs h123 L hL hG W (hT.below hb) (hV.below hb)))
 clear hT hV hL h123 hG
 go_enter Tryz.func20, Tryz.ntmps20
 go_wp2_with (go_at_call 46; refine H.out.mono ?_; rintro e w2 ⟨rfl, hb⟩; have HB := Aside0.mk hb; clear hb)
 go_ret
 exact ⟨rfl, HB.out⟩
theorem own_setcell {B : Nat} {e : TypeId} {sz : Nat} {W : World} {v : Value} {n : Nat} {xs : List Value} (h : W.ownsRow B e sz v n xs) {sb : Nat} (hv : v.ownBlock = some sb) (j : Nat) (x : Value) : (W.setCell ⟨sb, j, none⟩ x).ownsRow B e sz v n (xs.set j x) := by
 obtain ⟨p1, p2⟩ := h
 refine ⟨by rw [List.length_set]; exact p1, ?_⟩
 rcases p2 with ⟨q, _⟩ | ⟨g', cap', cur, hv', hb', hh, hn', hcm, hcs, ht⟩
 ·subst q; simp [Value.ownBlock] at hv
 subst hv'
 simp only [Value.ownBlock, Option.some.injEq] at hv
 subst hv
 exact .inr ⟨g', cap', cur.setIfInBounds j x, rfl, hb', blk_set hh j _, hn', hcm, by rw [Array.size_setIfInBounds]; exact hcs, by rw [Array.toList_setIfInBounds, List.take_set, ht]⟩
structure Ou (B g : Nat) (W : World) (kv : Value) (m N : Nat) (nv cv : Nat → Value) : Prop where
 bg : B ≤ g
 box : W.heap[g]? = some (.cells #[.int .i64 5, .string ⟨#[]⟩, .slice none 0 0, kv] 25 (0, 0))
 sp : ∃ xs, W.ownsRow B 25 4 kv m xs ∧ ∀ i, i < m → xs[4 * i + 2]? = some (nv i) ∧ xs[4 * i + 3]? = some (cv i)
 nr : ∀ i, i < m → ∃ n xs, n ≤ N ∧ W.ownsRow B 9 1 (nv i) n xs
 cr : ∀ i, i < m → ∃ n xs, n ≤ N ∧ W.ownsRow B 25 4 (cv i) n xs
 nd : ∀ i j b, i < m → j < m → (nv i).ownBlock = some b → (nv j).ownBlock = some b → i = j
 cd : ∀ i j b, i < m → j < m → (cv i).ownBlock = some b → (cv j).ownBlock = some b → i = j
 cs : ∀ i b, i < m → (cv i).ownBlock = some b → b ≠ g ∧ kv.ownBlock ≠ some b
 ks : kv.ownBlock ≠ some g
section
variable {B g : Nat} {W W' w1 : World} {kv v1 : Value} {m N N' : Nat} {nv cv : Nat → Value}
theorem Ou.nil (hb : B ≤ g) (h : W.heap[g]? = some (.cells #[.int .i64 5, .string ⟨#[]⟩, .slice none 0 0, .slice none 0 0] 25 (0, 0))) (N : Nat) : Ou B g W (.slice none 0 0) 0 N (fun _ => .slice none 0 0) (fun _ => .slice none 0 0) :=
 ⟨hb, h, ⟨[], World.ownsRow_nil _ _ _ _, fun i hi => absurd hi (by omega)⟩, fun i hi => absurd hi (by omega), fun i hi => absurd hi (by omega), fun i j b hi => absurd hi (by omega), fun i j b hi => absurd hi (by omega), fun i b hi => absurd hi (by omega), by simp [Value.ownBlock]⟩
theorem Ou.move (h : Ou B g W kv m N nv cv) (hm : ∀ k, k < W.heap.size → W'.heap[k]? = W.heap[k]?) : Ou B g W' kv m N nv cv := by
 have mv : ∀ {e : TypeId} {sz : Nat} {u : Value} {n : Nat} {xs : List Value}, W.ownsRow B e sz u n xs → W'.ownsRow B e sz u n xs := fun ho => own_move ho (fun k hk => hm k (ho.lt k hk).2)
 obtain ⟨xs, hs, hx⟩ := h.sp
 exact ⟨h.bg, (hm g (blk_lt h.box)).trans h.box, ⟨xs, mv hs, hx⟩, fun i hi => by obtain ⟨n, xs, h1, h2⟩ := h.nr i hi; exact ⟨n, xs, h1, mv h2⟩, fun i hi => by obtain ⟨n, xs, h1, h2⟩ := h.cr i hi; exact ⟨n, xs, h1, mv h2⟩, h.nd, h.cd, h.cs, h.ks⟩
theorem Ou.up (h : Ou B g W kv m N nv cv) (hN : N ≤ N') : Ou B g W kv m N' nv cv :=
 ⟨h.bg, h.box, h.sp, fun i hi => by obtain ⟨n, xs, h1, h2⟩ := h.nr i hi; exact ⟨n, xs, by omega, h2⟩, fun i hi => by obtain ⟨n, xs, h1, h2⟩ := h.cr i hi; exact ⟨n, xs, by omega, h2⟩, h.nd, h.cd, h.cs, h.ks⟩
theorem Ou.nt (h : Ou B g W kv m N nv cv) {i b : Nat} (hi : i < m) (hb : (nv i).ownBlock = some b) : ∃ cs, W.heap[b]? = some (.cells cs 9 (0, 0)) := by
 obtain ⟨n, xs, _, h2⟩ := h.nr i hi
 exact own_typed h2 b hb
theorem Ou.ct (h : Ou B g W kv m N nv cv) {i b : Nat} (hi : i < m) (hb : (cv i).ownBlock = some b) : ∃ cs, W.heap[b]? = some (.cells cs 25 (0, 0)) := by
 obtain ⟨n, xs, _, h2⟩ := h.cr i hi
 exact own_typed h2 b hb
theorem Ou.kt (h : Ou B g W kv m N nv cv) {b : Nat} (hb : kv.ownBlock = some b) : ∃ cs, W.heap[b]? = some (.cells cs 25 (0, 0)) := by
 obtain ⟨xs, hs, _⟩ := h.sp
 exact own_typed hs b hb
theorem Ou.kne (h : Ou B g W kv m N nv cv) {i b : Nat} (hi : i < m) (hb : (nv i).ownBlock = some b) : b ≠ g ∧ kv.ownBlock ≠ some b ∧ ∀ j, j < m → (cv j).ownBlock ≠ some b := by
 obtain ⟨cs, hc⟩ := h.nt hi hb
 have no : ∀ cs', W.heap[b]? ≠ some (.cells cs' 25 (0, 0)) := fun cs' e => by rw [hc] at e; simp at e
 refine ⟨fun e => ?_, fun e => ?_, fun j hj e => ?_⟩
 ·subst e; exact no _ h.box
 ·obtain ⟨cs', h'⟩ := h.kt e; exact no _ h'
 ·obtain ⟨cs', h'⟩ := h.ct hj e; exact no _ h'
theorem Ou.nlt (h : Ou B g W kv m N nv cv) {i b : Nat} (hi : i < m) (hb : (nv i).ownBlock = some b) : b < W.heap.size := by
 obtain ⟨_, hc⟩ := h.nt hi hb; exact blk_lt hc
theorem Ou.clt (h : Ou B g W kv m N nv cv) {i b : Nat} (hi : i < m) (hb : (cv i).ownBlock = some b) : b < W.heap.size := by
 obtain ⟨_, hc⟩ := h.ct hi hb; exact blk_lt hc
theorem Ou.klt (h : Ou B g W kv m N nv cv) {b : Nat} (hb : kv.ownBlock = some b) : b < W.heap.size := by
 obtain ⟨_, hc⟩ := h.kt hb; exact blk_lt hc
theorem Ou.push (h : Ou B g W kv m N nv cv) (xs : List Value) (hs : W.ownsRow B 25 4 kv m xs) (hx : ∀ i, i < m → xs[4 * i + 2]? = some (nv i) ∧ xs[4 * i + 3]? = some (cv i)) (ho : w1.ownsRow B 25 4 v1 (m + 1) (xs ++ [.int .i64 6, .string ⟨#[]⟩, .slice none 0 0, .slice none 0 0])) (hg : W.grownBy w1 kv.ownBlock) (hat : v1.ownBlock = kv.ownBlock ∨ ∃ b, v1.ownBlock = some b ∧ W.heap.size ≤ b) :
  Ou B g (w1.setCell ⟨g, 3, none⟩ v1) v1 (m + 1) N (fun i => if i < m then nv i else .slice none 0 0) (fun i => if i < m then cv i else .slice none 0 0) := by
 have hgk : w1.heap[g]? = W.heap[g]? := hg.block g (blk_lt h.box) (fun e => h.ks e.symm)
 have far : ∀ k, k ≠ g → (w1.setCell ⟨g, 3, none⟩ v1).heap[k]? = w1.heap[k]? := fun k hk => Below.heap_setCell w1 ⟨g, 3, none⟩ _ k hk
 have hv1 : v1.ownBlock ≠ some g := fun e => by
  rcases hat with q | ⟨b, q, hb⟩
  ·exact h.ks (q ▸ e)
  ·rw [q] at e; injection e with e; have := blk_lt h.box; omega
 have hxl : xs.length = m * 4 := hs.1
 have nn : ∀ {b : Nat}, (Value.slice none 0 0).ownBlock = some b → False := fun e => by simp [Value.ownBlock] at e
 refine ⟨h.bg, by simpa using blk_set (hgk.trans h.box) 3 v1, ⟨_, own_move ho (fun k hk => far k (fun e => hv1 (e ▸ hk))), fun i hi => ?_⟩, fun i hi => ?_, fun i hi => ?_, fun i j b hi hj h1 h2 => ?_, fun i j b hi hj h1 h2 => ?_, fun i b hi hb => ?_, hv1⟩
 ·by_cases q : i < m
  ·rw [if_pos q, if_pos q, List.getElem?_append_left (by omega), List.getElem?_append_left (by omega)]; exact hx i q
  have : i = m := by omega
  subst this
  rw [if_neg q, if_neg q, List.getElem?_append_right (by omega), List.getElem?_append_right (by omega), show 4 * i + 2 - xs.length = 2 by omega, show 4 * i + 3 - xs.length = 3 by omega]
  exact ⟨rfl, rfl⟩
 rotate_left
 ·by_cases q : i < m
  rotate_left
  ·rw [if_neg q]; exact ⟨0, [], Nat.zero_le _, World.ownsRow_nil _ _ _ _⟩
  obtain ⟨n, ys, h1, h2⟩ := h.cr i q
  refine ⟨n, ys, h1, ?_⟩
  rw [if_pos q]
  refine own_move h2 (fun k hk => ?_)
  obtain ⟨k1, k2⟩ := h.cs i k q hk
  exact (far k k1).trans (hg.block k (h.clt q hk) (fun e => k2 e.symm))
 ·by_cases qi : i < m
  rotate_left
  ·rw [if_neg qi] at h1; exact (nn h1).elim
  by_cases qj : j < m
  ·rw [if_pos qi] at h1; rw [if_pos qj] at h2; exact h.nd i j b qi qj h1 h2
  ·rw [if_neg qj] at h2; exact (nn h2).elim
 ·by_cases qi : i < m
  rotate_left
  ·rw [if_neg qi] at h1; exact (nn h1).elim
  by_cases qj : j < m
  ·rw [if_pos qi] at h1; rw [if_pos qj] at h2; exact h.cd i j b qi qj h1 h2
  ·rw [if_neg qj] at h2; exact (nn h2).elim
 ·by_cases qi : i < m
  rotate_left
  ·rw [if_neg qi] at hb; exact (nn hb).elim
  rw [if_pos qi] at hb
  obtain ⟨k1, k2⟩ := h.cs i b qi hb
  refine ⟨k1, fun e => ?_⟩
  rcases hat with q | ⟨b', q, hb'⟩
  ·exact k2 (q ▸ e)
  ·rw [q] at e; injection e with e; have := h.clt qi hb; omega
 by_cases q : i < m
 rotate_left
 ·rw [if_neg q]; exact ⟨0, [], Nat.zero_le _, World.ownsRow_nil _ _ _ _⟩
 obtain ⟨n, ys, h1, h2⟩ := h.nr i q
 refine ⟨n, ys, h1, ?_⟩
 rw [if_pos q]
 refine own_move h2 (fun k hk => ?_)
 obtain ⟨k1, k2, _⟩ := h.kne q hk
 exact (far k k1).trans (hg.block k (h.nlt q hk) (fun e => k2 e.symm))
theorem Ou.names (h : Ou B g W kv m N nv cv) {sb cap : Nat} (hk : kv = .slice (some ⟨sb, 0, none⟩) m cap) (i : Nat) (hi : i < m) (n : Nat) (ys : List Value) (hn : n ≤ N') (hN : N ≤ N') (ho : w1.ownsRow B 9 1 v1 n ys) (hg : W.grownBy w1 (nv i).ownBlock) (hat : v1.ownBlock = (nv i).ownBlock ∨ ∃ b, v1.ownBlock = some b ∧ W.heap.size ≤ b) :
  Ou B g (w1.setCell ⟨sb, 4 * i + 2, none⟩ v1) kv m N' (fun j => if j = i then v1 else nv j) cv := by
 have hks : kv.ownBlock = some sb := by rw [hk]; rfl
 have far : ∀ k, k ≠ sb → (w1.setCell ⟨sb, 4 * i + 2, none⟩ v1).heap[k]? = w1.heap[k]? := fun k hk => Below.heap_setCell w1 ⟨sb, _, none⟩ _ k hk
 have old : ∀ k, k < W.heap.size → k ≠ sb → (∀ b, (nv i).ownBlock = some b → k ≠ b) → (w1.setCell ⟨sb, 4 * i + 2, none⟩ v1).heap[k]? = W.heap[k]? := fun k h1 h2 h3 => (far k h2).trans (hg.block k h1 (fun e => h3 k e.symm rfl))
 have hsb : w1.heap[sb]? = W.heap[sb]? := hg.block sb (h.klt hks) (fun e => (h.kne hi e.symm).2.1 hks)
 have hv1 : v1.ownBlock ≠ some sb := fun e => by
  rcases hat with q | ⟨b, q, hb⟩
  ·exact (h.kne hi (q ▸ e)).2.1 hks
  ·rw [q] at e; injection e with e; have := h.klt hks; omega
 obtain ⟨xs, hs, hx⟩ := h.sp
 have hxl : xs.length = m * 4 := hs.1
 have hgs : g ≠ sb := fun e => h.ks (by rw [hks, e])
 refine ⟨h.bg, (old g (blk_lt h.box) hgs (fun b hb e => (h.kne hi hb).1 e.symm)).trans h.box, ⟨xs.set (4 * i + 2) v1, own_setcell (own_move hs (fun k hk' => ?_)) hks _ _, fun j hj => ?_⟩, fun j hj => ?_, fun j hj => ?_, fun a b c ha hb h1 h2 => ?_, h.cd, h.cs, h.ks⟩
 ·rw [hks] at hk'; injection hk' with e; subst e; exact hsb
 ·obtain ⟨q1, q2⟩ := hx j hj
  by_cases q : j = i
  rotate_left
  ·rw [if_neg q, List.getElem?_set_ne (by omega), List.getElem?_set_ne (by omega)]
   exact ⟨q1, q2⟩
  subst q
  rw [if_pos rfl, List.getElem?_set_self (by omega), List.getElem?_set_ne (by omega)]
  exact ⟨rfl, q2⟩
 ·by_cases q : j = i
  rotate_left
  ·rw [if_neg q]
   obtain ⟨n', zs, h1, h2⟩ := h.nr j hj
   exact ⟨n', zs, by omega, own_move h2 (fun k hk' => old k (h.nlt hj hk') (fun e => (h.kne hj hk').2.1 (e ▸ hks)) (fun b hb e => q (h.nd j i b hj hi (e ▸ hk') hb)))⟩
  subst q
  rw [if_pos rfl]
  exact ⟨n, ys, hn, own_move ho (fun k hk' => far k (fun e => hv1 (e ▸ hk')))⟩
 ·obtain ⟨n', zs, h1, h2⟩ := h.cr j hj
  exact ⟨n', zs, by omega, own_move h2 (fun k hk' => old k (h.clt hj hk') (fun e => (h.cs j k hj hk').2 (e ▸ hks)) (fun b hb e => (h.kne hi hb).2.2 j hj (e ▸ hk')))⟩
 have fr : ∀ j, j < m → j ≠ i → (nv j).ownBlock = some c → v1.ownBlock = some c → False := fun j hj hji e1 e2 => by
  rcases hat with q | ⟨b', q, hb'⟩
  ·exact hji (h.nd j i c hj hi e1 (q ▸ e2))
  ·rw [q] at e2; injection e2 with e2; have := h.nlt hj e1; omega
 by_cases qa : a = i
 rotate_left
 ·by_cases qb : b = i
  ·rw [if_neg qa] at h1; rw [if_pos qb] at h2; exact (fr a ha qa h1 h2).elim
  ·rw [if_neg qa] at h1; rw [if_neg qb] at h2; exact h.nd a b c ha hb h1 h2
 by_cases qb : b = i
 ·rw [qa, qb]
 ·rw [if_pos qa] at h1; rw [if_neg qb] at h2; exact (fr b hb qb h2 h1).elim
theorem Ou.kids (h : Ou B g W kv m N nv cv) {sb cap : Nat} (hk : kv = .slice (some ⟨sb, 0, none⟩) m cap) (i : Nat) (hi : i < m) (n : Nat) (ys : List Value) (hn : n ≤ N') (hN : N ≤ N') (ho : w1.ownsRow B 25 4 v1 n ys) (hg : W.grownBy w1 (cv i).ownBlock) (hat : v1.ownBlock = (cv i).ownBlock ∨ ∃ b, v1.ownBlock = some b ∧ W.heap.size ≤ b) :
  Ou B g (w1.setCell ⟨sb, 4 * i + 3, none⟩ v1) kv m N' nv (fun j => if j = i then v1 else cv j) := by
 have hks : kv.ownBlock = some sb := by rw [hk]; rfl
 have far : ∀ k, k ≠ sb → (w1.setCell ⟨sb, 4 * i + 3, none⟩ v1).heap[k]? = w1.heap[k]? := fun k hk => Below.heap_setCell w1 ⟨sb, _, none⟩ _ k hk
 have old : ∀ k, k < W.heap.size → k ≠ sb → (∀ b, (cv i).ownBlock = some b → k ≠ b) → (w1.setCell ⟨sb, 4 * i + 3, none⟩ v1).heap[k]? = W.heap[k]? := fun k h1 h2 h3 => (far k h2).trans (hg.block k h1 (fun e => h3 k e.symm rfl))
 have hsb : w1.heap[sb]? = W.heap[sb]? := hg.block sb (h.klt hks) (fun e => (h.cs i sb hi e.symm).2 hks)
 have hv1 : v1.ownBlock ≠ some sb := fun e => by
  rcases hat with q | ⟨b, q, hb⟩
  ·exact (h.cs i sb hi (q ▸ e)).2 hks
  ·rw [q] at e; injection e with e; have := h.klt hks; omega
 have hvg : ∀ b, v1.ownBlock = some b → b ≠ g ∧ kv.ownBlock ≠ some b := fun b e => by
  refine ⟨fun e2 => ?_, fun e2 => hv1 (by rw [e, ← e2, hks])⟩
  rcases hat with q | ⟨b', q, hb'⟩
  ·exact (h.cs i b hi (q ▸ e)).1 e2
  ·rw [q] at e; injection e with e; have := blk_lt h.box; omega
 obtain ⟨xs, hs, hx⟩ := h.sp
 have hxl : xs.length = m * 4 := hs.1
 have hgs : g ≠ sb := fun e => h.ks (by rw [hks, e])
 refine ⟨h.bg, (old g (blk_lt h.box) hgs (fun b hb e => (h.cs i b hi hb).1 e.symm)).trans h.box, ⟨xs.set (4 * i + 3) v1, own_setcell (own_move hs (fun k hk' => ?_)) hks _ _, fun j hj => ?_⟩, fun j hj => ?_, fun j hj => ?_, h.nd, fun a b c ha hb h1 h2 => ?_, fun j b hj hb => ?_, h.ks⟩
 ·rw [hks] at hk'; injection hk' with e; subst e; exact hsb
 ·obtain ⟨q1, q2⟩ := hx j hj
  by_cases q : j = i
  rotate_left
  ·rw [if_neg q, List.getElem?_set_ne (by omega), List.getElem?_set_ne (by omega)]
   exact ⟨q1, q2⟩
  subst q
  rw [if_pos rfl, List.getElem?_set_self (by omega), List.getElem?_set_ne (by omega)]
  exact ⟨q1, rfl⟩
 ·obtain ⟨n', zs, h1, h2⟩ := h.nr j hj
  exact ⟨n', zs, by omega, own_move h2 (fun k hk' => old k (h.nlt hj hk') (fun e => (h.kne hj hk').2.1 (e ▸ hks)) (fun b hb e => (h.kne hj hk').2.2 i hi (e ▸ hb)))⟩
 ·by_cases q : j = i
  rotate_left
  ·rw [if_neg q]
   obtain ⟨n', zs, h1, h2⟩ := h.cr j hj
   exact ⟨n', zs, by omega, own_move h2 (fun k hk' => old k (h.clt hj hk') (fun e => (h.cs j k hj hk').2 (e ▸ hks)) (fun b hb e => q (h.cd j i b hj hi (e ▸ hk') hb)))⟩
  subst q
  rw [if_pos rfl]
  exact ⟨n, ys, hn, own_move ho (fun k hk' => far k (fun e => hv1 (e ▸ hk')))⟩
 rotate_left
 ·by_cases q : j = i
  ·rw [if_pos q] at hb; exact hvg b hb
  ·rw [if_neg q] at hb; exact h.cs j b hj hb
 have fr : ∀ j, j < m → j ≠ i → (cv j).ownBlock = some c → v1.ownBlock = some c → False := fun j hj hji e1 e2 => by
  rcases hat with q | ⟨b', q, hb'⟩
  ·exact hji (h.cd j i c hj hi e1 (q ▸ e2))
  ·rw [q] at e2; injection e2 with e2; have := h.clt hj e1; omega
 by_cases qa : a = i
 rotate_left
 ·by_cases qb : b = i
  ·rw [if_neg qa] at h1; rw [if_pos qb] at h2; exact (fr a ha qa h1 h2).elim
  ·rw [if_neg qa] at h1; rw [if_neg qb] at h2; exact h.cd a b c ha hb h1 h2
 by_cases qb : b = i
 ·rw [qa, qb]
 ·rw [if_pos qa] at h1; rw [if_neg qb] at h2; exact (fr b hb qb h2 h1).elim
theorem Ou.kset (h : Ou B g W kv m N nv cv) {i b : Nat} (hi : i < m) (hb : (cv i).ownBlock = some b) (j : Nat) (x : Value) : Ou B g (W.setCell ⟨b, j, none⟩ x) kv m N nv cv := by
 have far : ∀ k, k ≠ b → (W.setCell ⟨b, j, none⟩ x).heap[k]? = W.heap[k]? := fun k hk => Below.heap_setCell W ⟨b, j, none⟩ _ k hk
 obtain ⟨k1, k2⟩ := h.cs i b hi hb
 obtain ⟨xs, hs, hx⟩ := h.sp
 refine ⟨h.bg, (far g (fun e => k1 e.symm)).trans h.box, ⟨xs, own_move hs (fun k hk => far k (fun e => k2 (e ▸ hk))), hx⟩, fun a ha => ?_, fun a ha => ?_, h.nd, h.cd, h.cs, h.ks⟩
 ·obtain ⟨n, ys, h1, h2⟩ := h.nr a ha
  exact ⟨n, ys, h1, own_move h2 (fun k hk => far k (fun e => (h.kne ha hk).2.2 i hi (e ▸ hb)))⟩
 obtain ⟨n, ys, h1, h2⟩ := h.cr a ha
 by_cases q : (cv a).ownBlock = some b
 ·exact ⟨n, _, h1, own_setcell h2 q j x⟩
 ·exact ⟨n, ys, h1, own_move h2 (fun k hk => far k (fun e => q (e ▸ hk)))⟩
end
set_option maxHeartbeats 4000000
set_option maxRecDepth 8192
structure Bx2 (w W : World) (t : S25) (A2 A3 B2 B3 : Option Addr) (c2 c3 d2 d3 : Nat) : Prop where
 h0 : W.heap[w.heap.size]? = some (.cells #[.int .i64 t.f0, .string t.f1, .slice A2 t.f2.length c2, .slice A3 t.f3.length c3] 25 (0, 0))
 h1 : W.heap[w.heap.size + 1]? = some (.cells #[.int .i64 t.f0, .string t.f1, .slice B2 t.f2.length d2, .slice B3 t.f3.length d3] 25 (0, 0))
 be : Below w.heap.size w W
section
variable {w W W2 : World} {t : S25} {A2 A3 B2 B3 : Option Addr} {c2 c3 d2 d3 : Nat}
theorem Bx2.new (w : World) (t : S25) (A2 A3 B2 B3 : Option Addr) (c2 c3 d2 d3 : Nat) : Bx2 w ((w.alloc (.cells #[.int .i64 t.f0, .string t.f1, .slice A2 t.f2.length c2, .slice A3 t.f3.length c3] 25)).alloc (.cells #[.int .i64 t.f0, .string t.f1, .slice B2 t.f2.length d2, .slice B3 t.f3.length d3] 25)) t A2 A3 B2 B3 c2 c3 d2 d3 := by
 have e := heap_alloc_new (w.alloc (.cells #[.int .i64 t.f0, .string t.f1, .slice A2 t.f2.length c2, .slice A3 t.f3.length c3] 25)) (.cells #[.int .i64 t.f0, .string t.f1, .slice B2 t.f2.length d2, .slice B3 t.f3.length d3] 25)
 rw [show (w.alloc (.cells #[.int .i64 t.f0, .string t.f1, .slice A2 t.f2.length c2, .slice A3 t.f3.length c3] 25)).heap.size = w.heap.size + 1 by simp] at e
 exact ⟨(Below.heap_alloc _ _ _ (by simp)).trans (heap_alloc_new w _), e, below_alloc (below_alloc (Below.refl _ _) _) _⟩
theorem Bx2.below (h : Bx2 w W t A2 A3 B2 B3 c2 c3 d2 d3) (hb : Below W.heap.size W W2) : Bx2 w W2 t A2 A3 B2 B3 c2 c3 d2 d3 :=
 ⟨(hb.block _ (blk_lt h.h0)).trans h.h0, (hb.block _ (blk_lt h.h1)).trans h.h1, below_then h.be h.be.size hb⟩
theorem Bx2.drewN (h : Bx2 w W t A2 A3 B2 B3 c2 c3 d2 d3) (n : Nat) : Bx2 w (W.drewN n) t A2 A3 B2 B3 c2 c3 d2 d3 := ⟨h.h0, h.h1, pw_below_drewN h.be n⟩
theorem Bx2.cells (h : Bx2 w W t A2 A3 B2 B3 c2 c3 d2 d3) : W.cell? ⟨w.heap.size, 0, none⟩ = some (.int .i64 t.f0) ∧ W.cell? ⟨w.heap.size, 1, none⟩ = some (.string t.f1) ∧ W.cell? ⟨w.heap.size, 2, none⟩ = some (.slice A2 t.f2.length c2) ∧ W.cell? ⟨w.heap.size, 3, none⟩ = some (.slice A3 t.f3.length c3) ∧
  W.cell? ⟨w.heap.size + 1, 0, none⟩ = some (.int .i64 t.f0) ∧ W.cell? ⟨w.heap.size + 1, 1, none⟩ = some (.string t.f1) ∧ W.cell? ⟨w.heap.size + 1, 2, none⟩ = some (.slice B2 t.f2.length d2) ∧ W.cell? ⟨w.heap.size + 1, 3, none⟩ = some (.slice B3 t.f3.length d3) :=
 ⟨blk_cell h.h0 0, blk_cell h.h0 1, blk_cell h.h0 2, blk_cell h.h0 3, blk_cell h.h1 0, blk_cell h.h1 1, blk_cell h.h1 2, blk_cell h.h1 3⟩
end
theorem add_next (ad : Addr) (n j : Nat) (hj : j ≠ 0) : (⟨(ad.add n).block, (ad.add n).off + j, none⟩ : Addr) = ad.add (n + j) := by
 unfold Addr.add
 rw [if_neg (show ¬ n + j = 0 by omega)]
 split
 ·rename_i h; subst h; simp
 ·simp; omega
structure El (w W : World) (t : S25) (A2 A3 B2 B3 : Option Addr) (c2 c3 d2 d3 : Nat) (i : Nat) (x : S25) (ad bd : Addr) (P2 P3 Q2 Q3 : Option Addr) (p2 p3 q2 q3 : Nat) : Prop where
 tw : Bx2 w W t A2 A3 B2 B3 c2 c3 d2 d3
 a : W.cell? (ad.add (i * 4 + 0)) = some (.int .i64 x.f0) ∧ W.cell? (ad.add (i * 4 + 1)) = some (.string x.f1) ∧ W.cell? (ad.add (i * 4 + 2)) = some (.slice P2 x.f2.length p2) ∧ W.cell? (ad.add (i * 4 + 3)) = some (.slice P3 x.f3.length p3)
 b : W.cell? (bd.add (i * 4 + 0)) = some (.int .i64 x.f0) ∧ W.cell? (bd.add (i * 4 + 1)) = some (.string x.f1) ∧ W.cell? (bd.add (i * 4 + 2)) = some (.slice Q2 x.f2.length q2) ∧ W.cell? (bd.add (i * 4 + 3)) = some (.slice Q3 x.f3.length q3)
 na : NodeIn W x P2 P3 p2 p3
 nb : NodeIn W x Q2 Q3 q2 q3
theorem NodeIn.below {w w2 : World} {t : S25} {A2 A3 : Option Addr} {c2 c3 : Nat} (h : NodeIn w t A2 A3 c2 c3) (hb : Below w.heap.size w w2) : NodeIn w2 t A2 A3 c2 c3 := ⟨Kd.C_below h.1 hb, h.2.1, Kd.C_below h.2.2.1 hb, h.2.2.2⟩
theorem node_at {w : World} {xs : List S25} {A : Option Addr} (h : Kd.C k25 w A xs.length xs) (i : Nat) (hi : i < xs.length) : ∃ (ad : Addr) (P2 P3 : Option Addr) (p2 p3 : Nat), A = some ad ∧ NodeIn w xs[i] P2 P3 p2 p3 ∧
  w.cell? (ad.add (i * 4 + 0)) = some (.int .i64 xs[i].f0) ∧ w.cell? (ad.add (i * 4 + 1)) = some (.string xs[i].f1) ∧ w.cell? (ad.add (i * 4 + 2)) = some (.slice P2 xs[i].f2.length p2) ∧ w.cell? (ad.add (i * 4 + 3)) = some (.slice P3 xs[i].f3.length p3) := by
 obtain ⟨ad, c, hA, hl, hK, hc⟩ := Kd.C_get h xs[i] (i : Int) (by omega) (by omega)
 rw [Int.toNat_natCast, List.getD_eq_getElem?_getD, List.getElem?_eq_getElem hi] at hK
 simp only [Option.getD_some] at hK
 obtain ⟨P2, p2, P3, p3, rfl, l2, g2, l3, g3⟩ := k25_open hK
 rw [Int.toNat_natCast] at hc
 have hs : k25.sz = 4 := rfl
 rw [hs] at hc
 exact ⟨ad, P2, P3, p2, p3, hA, ⟨g2, l2, g3, l3⟩, hc 0 _ rfl, hc 1 _ rfl, hc 2 _ rfl, hc 3 _ rfl⟩
section
variable {w W W2 : World} {t : S25} {A2 A3 B2 B3 : Option Addr} {c2 c3 d2 d3 : Nat} {i : Nat} {x : S25} {ad bd : Addr} {P2 P3 Q2 Q3 : Option Addr} {p2 p3 q2 q3 : Nat}
theorem El.below (hb : Below W.heap.size W W2) (h : El w W t A2 A3 B2 B3 c2 c3 d2 d3 i x ad bd P2 P3 Q2 Q3 p2 p3 q2 q3) : El w W2 t A2 A3 B2 B3 c2 c3 d2 d3 i x ad bd P2 P3 Q2 Q3 p2 p3 q2 q3 :=
 ⟨h.tw.below hb, ⟨pw_cell_below hb h.a.1, pw_cell_below hb h.a.2.1, pw_cell_below hb h.a.2.2.1, pw_cell_below hb h.a.2.2.2⟩, ⟨pw_cell_below hb h.b.1, pw_cell_below hb h.b.2.1, pw_cell_below hb h.b.2.2.1, pw_cell_below hb h.b.2.2.2⟩, h.na.below hb, h.nb.below hb⟩
theorem El.drew (h : El w W t A2 A3 B2 B3 c2 c3 d2 d3 i x ad bd P2 P3 Q2 Q3 p2 p3 q2 q3) : El w W.drew t A2 A3 B2 B3 c2 c3 d2 d3 i x ad bd P2 P3 Q2 Q3 p2 p3 q2 q3 := El.below (below_drew (Below.refl _ _)) h
theorem El.all (h : El w W t A2 A3 B2 B3 c2 c3 d2 d3 i x ad bd P2 P3 Q2 Q3 p2 p3 q2 q3) : El w W t A2 A3 B2 B3 c2 c3 d2 d3 i x ad bd P2 P3 Q2 Q3 p2 p3 q2 q3 ∧ W.cell? ⟨w.heap.size, 3, none⟩ = some (.slice A3 t.f3.length c3) ∧ W.cell? ⟨w.heap.size + 1, 3, none⟩ = some (.slice B3 t.f3.length d3) ∧
  W.cell? (ad.add (i * 4)) = some (.int .i64 x.f0) ∧ W.cell? ⟨(ad.add (i * 4)).block, (ad.add (i * 4)).off + 1, none⟩ = some (.string x.f1) ∧ W.cell? ⟨(ad.add (i * 4)).block, (ad.add (i * 4)).off + 2, none⟩ = some (.slice P2 x.f2.length p2) ∧ W.cell? ⟨(ad.add (i * 4)).block, (ad.add (i * 4)).off + 3, none⟩ = some (.slice P3 x.f3.length p3) ∧
  W.cell? (bd.add (i * 4)) = some (.int .i64 x.f0) ∧ W.cell? ⟨(bd.add (i * 4)).block, (bd.add (i * 4)).off + 1, none⟩ = some (.string x.f1) ∧ W.cell? ⟨(bd.add (i * 4)).block, (bd.add (i * 4)).off + 2, none⟩ = some (.slice Q2 x.f2.length q2) ∧ W.cell? ⟨(bd.add (i * 4)).block, (bd.add (i * 4)).off + 3, none⟩ = some (.slice Q3 x.f3.length q3) := by
 rw [add_next ad _ 1 (by decide), add_next ad _ 2 (by decide), add_next ad _ 3 (by decide), add_next bd _ 1 (by decide), add_next bd _ 2 (by decide), add_next bd _ 3 (by decide)]
 exact ⟨h, h.tw.cells.2.2.2.1, h.tw.cells.2.2.2.2.2.2.2, h.a.1, h.a.2.1, h.a.2.2.1, h.a.2.2.2, h.b.1, h.b.2.1, h.b.2.2.1, h.b.2.2.2⟩
end
theorem same_calls {t : S25} (h : SB t) : ∀ (A2 A3 B2 B3 : Option Addr) (c2 c3 d2 d3 : Nat) (w : World), NodeIn w t A2 A3 c2 c3 → NodeIn w t B2 B3 d2 d3 →
  Calls Tryz.prog 29 #[.agg #[.int .i64 t.f0, .string t.f1, .slice A2 t.f2.length c2, .slice A3 t.f3.length c3], .agg #[.int .i64 t.f0, .string t.f1, .slice B2 t.f2.length d2, .slice B3 t.f3.length d3]] w fun e w' => e = .returned (.bool true) ∧ Below w.heap.size w w' := by
 induction h with
 | mk t h2 h3 h4 ih =>
 intro A2 A3 B2 B3 c2 c3 d2 d3 w hA hB
 have HN := Aside0.mk (And.intro hA hB)
 have HW := Aside0.mk (Bx2.new w t A2 A3 B2 B3 c2 c3 d2 d3)
 have HI := Aside0.mk ih
 have HL := Aside0.mk (And.intro h2 h3)
 obtain ⟨m0, m1, m2, m3, m4, m5, m6, m7⟩ := HW.out.cells
 clear h4 hA hB ih h2 h3
 go_enter Tryz.func29, Tryz.ntmps29
 go_wp2_with fail
 generalize (w.alloc (.cells #[.int .i64 t.f0, .string t.f1, .slice A2 t.f2.length c2, .slice A3 t.f3.length c3] 25)).alloc (.cells #[.int .i64 t.f0, .string t.f1, .slice B2 t.f2.length d2, .slice B3 t.f3.length d3] 25) = W0 at *
 clear m0 m1 m2 m3 m4 m5 m6 m7
 go_loopg [5] t.f2.length (fun kq v5 w' => ∃ i : Nat, v5 = .int .i64 (i : Int) ∧ kq + i = t.f2.length ∧ Aside0 (Bx2 w w' t A2 A3 B2 B3 c2 c3 d2 d3))
 case atStart => exact ⟨0, rfl, rfl, HW⟩
 obtain ⟨i, rfl, hk, HT⟩ := hrel
 obtain ⟨m0, m1, m2, m3, m4, m5, m6, m7⟩ := HT.out.cells
 by_cases hi : i < t.f2.length
 ·have hi1 : (i : Int) < (t.f2.length : Int) := by omega
  have hi0 : (0 : Int) ≤ (i : Int) := by omega
  obtain ⟨ad, hA, ca⟩ := Kd.at_string (Kd.C_below HN.out.1.1 HT.out.be) i (by omega) (by omega)
  obtain ⟨bd, hB, cb⟩ := Kd.at_string (Kd.C_below HN.out.2.1 HT.out.be) i (by omega) (by omega)
  simp only [Int.toNat_natCast] at ca cb
  obtain ⟨q, rfl⟩ : ∃ q, gk = q + 1 := ⟨gk - 1, by omega⟩
  have hq : q + (i + 1) = t.f2.length := by omega
  have hw : wrap64 ((i : Int) + 1) = i + 1 := by rw [w64 (by have := HL.out.1; omega) (by have := HL.out.1; omega)]
  go_wp2_with fail
  go_quiet (fail)
  go_wp2_with fail
  trace_state
  go_roundg q
  case measure => omega
  case rel => exact ⟨i + 1, congrArg (Value.int .i64) (by omega), hq, ⟨HT.out.drewN _⟩⟩
 have hi1 : ¬ (i : Int) < (t.f2.length : Int) := by omega
 clear hk hi
 go_wp2_with fail
 clear hi1 m0 m1 m2 m3 m4 m5 m6 m7
 go_loopg [6] t.f3.length (fun kq v6 w' => ∃ i : Nat, v6 = .int .i64 (i : Int) ∧ kq + i = t.f3.length ∧ Aside0 (Bx2 w w' t A2 A3 B2 B3 c2 c3 d2 d3))
 case atStart => exact ⟨0, rfl, rfl, HT⟩
 obtain ⟨i2, rfl, hk, HT2⟩ := hrel
 obtain ⟨m0, m1, m2, m3, m4, m5, m6, m7⟩ := HT2.out.cells
 by_cases hi : i2 < t.f3.length
 rotate_left
 ·have hi1 : ¬ (i2 : Int) < (t.f3.length : Int) := by omega
  clear hk hi
  go_wp2_with fail
  go_ret
  exact ⟨rfl, HT2.out.be⟩
 have hi1 : (i2 : Int) < (t.f3.length : Int) := by omega
 have hi0 : (0 : Int) ≤ (i2 : Int) := by omega
 obtain ⟨ad, P2, P3, p2, p3, hA, na, ca⟩ := node_at (Kd.C_below HN.out.1.2.2.1 HT2.out.be) i2 hi
 obtain ⟨bd, Q2, Q3, q2, q3, hB, nb, cb⟩ := node_at (Kd.C_below HN.out.2.2.2.1 HT2.out.be) i2 hi
 subst hA hB
 have E0 : El w _ t A2 (some ad) B2 (some bd) c2 c3 d2 d3 i2 (t.f3[i2]) ad bd P2 P3 Q2 Q3 p2 p3 q2 q3 := ⟨HT2.out, ca, cb, na, nb⟩
 have E1 := E0.drew
 have HX := Aside0.mk (HI.out (t.f3[i2]) (List.getElem_mem hi))
 generalize t.f3[i2] = x at *
 obtain ⟨q, rfl⟩ : ∃ q, gk = q + 1 := ⟨gk - 1, by omega⟩
 have hq : q + (i2 + 1) = t.f3.length := by omega
 have hw : wrap64 ((i2 : Int) + 1) = i2 + 1 := by rw [w64 (by have := HL.out.2; omega) (by have := HL.out.2; omega)]
 clear m0 m1 m2 m3 m4 m5 m6 m7 ca cb na nb
 obtain ⟨_, m0, m1, m2, m3, m4, m5, m6, m7, m8, m9⟩ := E0.all
 go_wp2_with fail
 go_region_held3 (fun w' => El w w' t A2 (some ad) B2 (some bd) c2 c3 d2 d3 i2 x ad bd P2 P3 Q2 Q3 p2 p3 q2 q3 ∧ w'.cell? ⟨w.heap.size, 3, none⟩ = some (.slice (some ad) t.f3.length c3) ∧ w'.cell? ⟨w.heap.size + 1, 3, none⟩ = some (.slice (some bd) t.f3.length d3) ∧
   w'.cell? (ad.add (i2 * 4)) = some (.int .i64 x.f0) ∧ w'.cell? ⟨(ad.add (i2 * 4)).block, (ad.add (i2 * 4)).off + 1, none⟩ = some (.string x.f1) ∧ w'.cell? ⟨(ad.add (i2 * 4)).block, (ad.add (i2 * 4)).off + 2, none⟩ = some (.slice P2 x.f2.length p2) ∧ w'.cell? ⟨(ad.add (i2 * 4)).block, (ad.add (i2 * 4)).off + 3, none⟩ = some (.slice P3 x.f3.length p3) ∧
   w'.cell? (bd.add (i2 * 4)) = some (.int .i64 x.f0) ∧ w'.cell? ⟨(bd.add (i2 * 4)).block, (bd.add (i2 * 4)).off + 1, none⟩ = some (.string x.f1) ∧ w'.cell? ⟨(bd.add (i2 * 4)).block, (bd.add (i2 * 4)).off + 2, none⟩ = some (.slice Q2 x.f2.length q2) ∧ w'.cell? ⟨(bd.add (i2 * 4)).block, (bd.add (i2 * 4)).off + 3, none⟩ = some (.slice Q3 x.f3.length q3))
  ((go_split_ands; first | exact El.all (by assumption) | exact El.all (El.below (by assumption) (by assumption))))
  (first | (go_at_call 29; refine (HX.out P2 P3 Q2 Q3 p2 p3 q2 q3 _ ?_ ?_).mono ?_; exact El.na (by assumption); exact El.nb (by assumption); rintro e w5 ⟨rfl, hb⟩))
 go_split_ands
 go_wp2_with fail
 go_roundg q
 case measure => omega
 case rel => exact ⟨i2 + 1, congrArg (Value.int .i64) (by omega), hq, ⟨El.tw (by assumption)⟩⟩
set_option maxHeartbeats 4000000
set_option maxRecDepth 8192
structure Ob (w W : World) (t : S25) (A2 A3 : Option Addr) (c2 c3 : Nat) : Prop where
 h0 : W.heap[w.heap.size]? = some (.cells #[.int .i64 t.f0, .string t.f1, .slice A2 t.f2.length c2, .slice A3 t.f3.length c3] 25 (0, 0))
 be : Below w.heap.size w W
section
variable {w W W2 : World} {t : S25} {A2 A3 : Option Addr} {c2 c3 : Nat}
theorem Ob.new (w : World) (t : S25) (A2 A3 : Option Addr) (c2 c3 : Nat) : Ob w (w.alloc (.cells #[.int .i64 t.f0, .string t.f1, .slice A2 t.f2.length c2, .slice A3 t.f3.length c3] 25)) t A2 A3 c2 c3 := ⟨heap_alloc_new w _, below_alloc (Below.refl _ _) _⟩
theorem Ob.below (h : Ob w W t A2 A3 c2 c3) (hb : Below W.heap.size W W2) : Ob w W2 t A2 A3 c2 c3 := ⟨(hb.block _ (blk_lt h.h0)).trans h.h0, below_then h.be h.be.size hb⟩
theorem Ob.cells (h : Ob w W t A2 A3 c2 c3) : W.cell? ⟨w.heap.size, 0, none⟩ = some (.int .i64 t.f0) ∧ W.cell? ⟨w.heap.size, 1, none⟩ = some (.string t.f1) ∧ W.cell? ⟨w.heap.size, 2, none⟩ = some (.slice A2 t.f2.length c2) ∧ W.cell? ⟨w.heap.size, 3, none⟩ = some (.slice A3 t.f3.length c3) :=
 ⟨blk_cell h.h0 0, blk_cell h.h0 1, blk_cell h.h0 2, blk_cell h.h0 3⟩
end
def atF (ks : List ByteArray) (nm : ByteArray) : Nat → Int
 | 0 => -1
 | k + 1 => if (rdOf ByteArray.empty ks (k : Int)).toList = nm.toList then (k : Int) else atF ks nm k
theorem at_calls (t : S25) (hl : t.f2.length ≤ 65536) (nm : ByteArray) (A2 A3 : Option Addr) (c2 c3 : Nat) (w : World) (hA : NodeIn w t A2 A3 c2 c3) :
  Calls Tryz.prog 54 #[.agg #[.int .i64 t.f0, .string t.f1, .slice A2 t.f2.length c2, .slice A3 t.f3.length c3], .string nm] w fun e w' => e = .returned (.int .i64 (atF t.f2 nm t.f2.length)) ∧ Below w.heap.size w w' := by
 have HN := Aside0.mk hA
 have HW := Aside0.mk (Ob.new w t A2 A3 c2 c3)
 have HL := Aside0.mk hl
 have hw : wrap64 ((t.f2.length : Int) - 1) = t.f2.length - 1 := w64 (by omega) (by omega)
 obtain ⟨m0, m1, m2, m3⟩ := HW.out.cells
 clear hA hl
 go_enter Tryz.func54, Tryz.ntmps54
 go_wp2_with fail
 generalize w.alloc (.cells #[.int .i64 t.f0, .string t.f1, .slice A2 t.f2.length c2, .slice A3 t.f3.length c3] 25) = W0 at *
 clear m0 m1 m2 m3 hw
 go_loopg [5] t.f2.length (fun kq v5 w' => ∃ p : Int, v5 = .int .i64 p ∧ p + 1 = (kq : Int) ∧ kq ≤ t.f2.length ∧ Aside0 (atF t.f2 nm kq = atF t.f2 nm t.f2.length) ∧ Aside0 (Ob w w' t A2 A3 c2 c3))
 case atStart => exact ⟨_, rfl, by rw [w64 (by have := HL.out; omega) (by have := HL.out; omega)]; omega, by omega, ⟨rfl⟩, HW⟩
 obtain ⟨p, rfl, hk, hle, HF, HT⟩ := hrel
 obtain ⟨m0, m1, m2, m3⟩ := HT.out.cells
 by_cases hp : 0 ≤ p
 rotate_left
 ·have hr : atF t.f2 nm t.f2.length = -1 := by rw [← HF.out, show gk = 0 by omega]; rfl
  have HR := Aside0.mk hr
  clear hr
  go_wp2_with fail
  go_ret
  exact ⟨congrArg (fun z => Ending.returned (.int .i64 z)) HR.out.symm, HT.out.be⟩
 obtain ⟨q, rfl⟩ : ∃ q : Nat, p = q := ⟨p.toNat, by omega⟩
 obtain rfl : gk = q + 1 := by omega
 have hi1 : (q : Int) < (t.f2.length : Int) := by omega
 have hi0 : (0 : Int) ≤ (q : Int) := by omega
 obtain ⟨ad, hA, ca⟩ := Kd.at_string (Kd.C_below HN.out.1 HT.out.be) q (by omega) (by omega)
 simp only [Int.toNat_natCast] at ca
 have hw : wrap64 ((q : Int) - 1) = q - 1 := by rw [w64 (by omega) (by have := HL.out; omega)]
 subst hA
 by_cases hs : (rdOf ByteArray.empty t.f2 (q : Int)).toList = nm.toList
 ·have y1 : ((rdOf ByteArray.empty t.f2 (q : Int)).toList == nm.toList) = true := beq_iff_eq.mpr hs
  have hr : atF t.f2 nm t.f2.length = q := by rw [← HF.out]; unfold atF; rw [if_pos hs]
  have HR := Aside0.mk hr
  clear hs hr hw
  go_wp2_with fail
  go_ret
  exact ⟨congrArg (fun z => Ending.returned (.int .i64 z)) HR.out.symm, HT.out.be⟩
 have y1 : ((rdOf ByteArray.empty t.f2 (q : Int)).toList == nm.toList) = false := beq_eq_false_iff_ne.mpr hs
 have hr : atF t.f2 nm q = atF t.f2 nm t.f2.length := by rw [← HF.out]; conv => rhs; unfold atF; rw [if_neg hs]
 have HR := Aside0.mk hr
 clear hs hr
 go_wp2_with fail
 go_roundg q
 case measure => omega
 case rel => exact ⟨(q : Int) - 1, congrArg (Value.int .i64) (by first | rfl | omega), by omega, by omega, HR, HT⟩
structure Ky (w W : World) (t : S25) (A2 A3 : Option Addr) (c2 c3 : Nat) (i : Nat) (ad : Addr) (nm : ByteArray) : Prop where
 ob : Ob w W t A2 A3 c2 c3
 ck : W.cell? (ad.add i) = some (.string nm)
 na : NodeIn W t A2 A3 c2 c3
section
variable {w W W2 : World} {t : S25} {A2 A3 : Option Addr} {c2 c3 : Nat} {i : Nat} {ad : Addr} {nm : ByteArray}
theorem Ky.below (hb : Below W.heap.size W W2) (h : Ky w W t A2 A3 c2 c3 i ad nm) : Ky w W2 t A2 A3 c2 c3 i ad nm := ⟨h.ob.below hb, pw_cell_below hb h.ck, h.na.below hb⟩
theorem Ky.drew (h : Ky w W t A2 A3 c2 c3 i ad nm) : Ky w W.drew t A2 A3 c2 c3 i ad nm := Ky.below (below_drew (Below.refl _ _)) h
theorem Ky.all (h : Ky w W t A2 A3 c2 c3 i ad nm) : Ky w W t A2 A3 c2 c3 i ad nm ∧ W.cell? ⟨w.heap.size, 0, none⟩ = some (.int .i64 t.f0) ∧ W.cell? ⟨w.heap.size, 1, none⟩ = some (.string t.f1) ∧ W.cell? ⟨w.heap.size, 2, none⟩ = some (.slice A2 t.f2.length c2) ∧ W.cell? ⟨w.heap.size, 3, none⟩ = some (.slice A3 t.f3.length c3) ∧ W.cell? (ad.add i) = some (.string nm) :=
 ⟨h, h.ob.cells.1, h.ob.cells.2.1, h.ob.cells.2.2.1, h.ob.cells.2.2.2, h.ck⟩
end
def UniC (t : S25) (b : Bool) : Prop := ∀ (A2 A3 : Option Addr) (c2 c3 : Nat) (w : World), NodeIn w t A2 A3 c2 c3 → Calls Tryz.prog 28 #[.agg #[.int .i64 t.f0, .string t.f1, .slice A2 t.f2.length c2, .slice A3 t.f3.length c3]] w fun e w' => e = .returned (.bool b) ∧ Below w.heap.size w w'
def keyAt (t : S25) (i : Nat) : Bool := decide (atF t.f2 (rdOf ByteArray.empty t.f2 (i : Int)) t.f2.length = (i : Int))
def uniB (t : S25) (f : Nat → Bool) : Bool := (List.range t.f2.length).all (keyAt t) && (List.range t.f3.length).all f
theorem all_no {n i : Nat} {f : Nat → Bool} (hi : i < n) (h : f i = false) : (List.range n).all f = false := by
 rw [List.all_eq_false]
 exact ⟨i, List.mem_range.2 hi, by simp [h]⟩
theorem all_yes {n : Nat} {f : Nat → Bool} (h : ∀ i, i < n → f i = true) : (List.range n).all f = true := by
 rw [List.all_eq_true]
 exact fun i hi => h i (List.mem_range.1 hi)
theorem uni_step (t : S25) (h2 : t.f2.length ≤ 65536) (h3 : t.f3.length ≤ 65536) (f : Nat → Bool) (ih : ∀ i (h : i < t.f3.length), UniC t.f3[i] (f i)) : UniC t (uniB t f) := by
 intro A2 A3 c2 c3 w hA
 have HN := Aside0.mk hA
 have HW := Aside0.mk (Ob.new w t A2 A3 c2 c3)
 have HL := Aside0.mk (And.intro h2 h3)
 have HI := Aside0.mk ih
 obtain ⟨m0, m1, m2, m3⟩ := HW.out.cells
 clear hA h2 h3 ih
 go_enter Tryz.func28, Tryz.ntmps28
 go_wp2_with fail
 generalize w.alloc (.cells #[.int .i64 t.f0, .string t.f1, .slice A2 t.f2.length c2, .slice A3 t.f3.length c3] 25) = W0 at *
 clear m0 m1 m2 m3
 go_loopg [3] t.f2.length (fun kq v3 w' => ∃ i : Nat, v3 = .int .i64 (i : Int) ∧ kq + i = t.f2.length ∧ Aside0 (∀ j, j < i → keyAt t j = true) ∧ Aside0 (Ob w w' t A2 A3 c2 c3))
 case atStart => exact ⟨0, rfl, rfl, ⟨fun j h => by omega⟩, HW⟩
 obtain ⟨i, rfl, hk, HY, HT⟩ := hrel
 obtain ⟨m0, m1, m2, m3⟩ := HT.out.cells
 by_cases hi : i < t.f2.length
 rotate_left
 ·have hi1 : ¬ (i : Int) < (t.f2.length : Int) := by omega
  have HKs := Aside0.mk (all_yes (n := t.f2.length) (f := keyAt t) (fun j h => HY.out j (by omega)))
  clear hk hi
  go_wp2_with fail
  clear hi1 m0 m1 m2 m3
  go_loopg [4] t.f3.length (fun kq v4 w' => ∃ i : Nat, v4 = .int .i64 (i : Int) ∧ kq + i = t.f3.length ∧ Aside0 (∀ j, j < i → f j = true) ∧ Aside0 (Ob w w' t A2 A3 c2 c3))
  case atStart => exact ⟨0, rfl, rfl, ⟨fun j h => by omega⟩, HT⟩
  obtain ⟨i2, rfl, hk, HZ, HT2⟩ := hrel
  obtain ⟨m0, m1, m2, m3⟩ := HT2.out.cells
  by_cases hi : i2 < t.f3.length
  rotate_left
  ·have hi1 : ¬ (i2 : Int) < (t.f3.length : Int) := by omega
   have HB := Aside0.mk (show uniB t f = true by
    unfold uniB
    rw [HKs.out, all_yes (fun j h => HZ.out j (by omega))]; rfl)
   clear hk hi
   go_wp2_with fail
   go_ret
   exact ⟨congrArg (fun z => Ending.returned (.bool z)) HB.out.symm, HT2.out.be⟩
  have hi1 : (i2 : Int) < (t.f3.length : Int) := by omega
  have hi0 : (0 : Int) ≤ (i2 : Int) := by omega
  obtain ⟨ad, P2, P3, p2, p3, hA, na, ca, cb, cc, cd⟩ := node_at (Kd.C_below HN.out.2.2.1 HT2.out.be) i2 hi
  have HX := Aside0.mk (HI.out i2 hi _ _ _ _ _ na)
  have hfi : f i2 = f i2 := rfl
  generalize t.f3[i2] = x at *
  obtain ⟨q, rfl⟩ : ∃ q, gk = q + 1 := ⟨gk - 1, by omega⟩
  have hq : q + (i2 + 1) = t.f3.length := by omega
  have hw : wrap64 ((i2 : Int) + 1) = i2 + 1 := by rw [w64 (by have := HL.out.2; omega) (by have := HL.out.2; omega)]
  subst hA
  rw [← add_next ad _ 1 (by decide)] at cb
  rw [← add_next ad _ 2 (by decide)] at cc
  rw [← add_next ad _ 3 (by decide)] at cd
  simp only [Nat.add_zero] at ca
  obtain ⟨bo, hbo⟩ : ∃ bo, f i2 = bo := ⟨_, rfl⟩
  rw [hbo] at HX
  have HO := Aside0.mk hbo
  clear hbo hfi na
  cases bo
  ·go_wp2_with (go_at_call 28; refine HX.out.mono ?_; rintro e w5 ⟨rfl, hb⟩; have H5 := Aside0.mk (HT2.out.below hb); clear hb)
   go_ret
   exact ⟨congrArg (fun z => Ending.returned (.bool z)) (show false = uniB t f by unfold uniB; rw [all_no hi HO.out, Bool.and_false]), H5.out.be⟩
  go_wp2_with (go_at_call 28; refine HX.out.mono ?_; rintro e w5 ⟨rfl, hb⟩; have H5 := Aside0.mk (HT2.out.below hb); clear hb)
  go_roundg q
  case measure => omega
  case rel => exact ⟨i2 + 1, congrArg (Value.int .i64) (by omega), hq, ⟨fun j h => by
   by_cases c : j < i2
   ·exact HZ.out j c
   ·rw [show j = i2 by omega]; exact HO.out⟩, H5⟩
 have hi1 : (i : Int) < (t.f2.length : Int) := by omega
 have hi0 : (0 : Int) ≤ (i : Int) := by omega
 obtain ⟨ad, hA, ca⟩ := Kd.at_string (Kd.C_below HN.out.1 HT.out.be) i (by omega) (by omega)
 simp only [Int.toNat_natCast] at ca
 obtain ⟨q, rfl⟩ : ∃ q, gk = q + 1 := ⟨gk - 1, by omega⟩
 have hq : q + (i + 1) = t.f2.length := by omega
 have hw : wrap64 ((i : Int) + 1) = i + 1 := by rw [w64 (by have := HL.out.1; omega) (by have := HL.out.1; omega)]
 subst hA
 obtain ⟨nm, hnm⟩ : ∃ nm, rdOf ByteArray.empty t.f2 (i : Int) = nm := ⟨_, rfl⟩
 rw [hnm] at ca
 have K0 : Ky w _ t (some ad) A3 c2 c3 i ad nm := ⟨HT.out, ca, HN.out.below HT.out.be⟩
 have K1 := K0.drew
 have HC := Aside0.mk (fun W h => at_calls t HL.out.1 nm (some ad) A3 c2 c3 W h)
 obtain ⟨_, m0, m1, m2, m3, m4⟩ := K0.all
 have hKA : keyAt t i = decide (atF t.f2 nm t.f2.length = (i : Int)) := by unfold keyAt; rw [hnm]
 have HKA := Aside0.mk hKA
 generalize atF t.f2 nm t.f2.length = z at *
 clear ca hnm
 by_cases hz : z = i
 rotate_left
 ·have z1 : (z != (i : Int)) = true := bne_iff_ne.mpr hz
  have HZ := Aside0.mk (show uniB t f = false by
   unfold uniB
   rw [all_no hi (by rw [hKA]; exact decide_eq_false hz)]; rfl)
  clear hz hKA
  go_wp2_with fail
  go_region_held3 (fun w' => Ky w w' t (some ad) A3 c2 c3 i ad nm ∧ w'.cell? ⟨w.heap.size, 0, none⟩ = some (.int .i64 t.f0) ∧ w'.cell? ⟨w.heap.size, 1, none⟩ = some (.string t.f1) ∧ w'.cell? ⟨w.heap.size, 2, none⟩ = some (.slice (some ad) t.f2.length c2) ∧ w'.cell? ⟨w.heap.size, 3, none⟩ = some (.slice A3 t.f3.length c3) ∧ w'.cell? (ad.add i) = some (.string nm))
   ((go_split_ands; first | exact Ky.all (by assumption) | exact Ky.all (Ky.below (by assumption) (by assumption))))
   (first | (go_at_call 54; refine (HC.out _ ?_).mono ?_; exact Ky.na (by assumption); rintro e w5 ⟨rfl, hb⟩))
  go_split_ands
  go_wp2_with fail
  go_ret
  exact ⟨congrArg (fun z => Ending.returned (.bool z)) HZ.out.symm, (Ky.ob (by assumption)).be⟩
 have z1 : (z != (i : Int)) = false := bne_eq_false_iff_eq.mpr hz
 have HZ := Aside0.mk hz
 clear hz hKA
 go_wp2_with fail
 go_region_held3 (fun w' => Ky w w' t (some ad) A3 c2 c3 i ad nm ∧ w'.cell? ⟨w.heap.size, 0, none⟩ = some (.int .i64 t.f0) ∧ w'.cell? ⟨w.heap.size, 1, none⟩ = some (.string t.f1) ∧ w'.cell? ⟨w.heap.size, 2, none⟩ = some (.slice (some ad) t.f2.length c2) ∧ w'.cell? ⟨w.heap.size, 3, none⟩ = some (.slice A3 t.f3.length c3) ∧ w'.cell? (ad.add i) = some (.string nm))
  ((go_split_ands; first | exact Ky.all (by assumption) | exact Ky.all (Ky.below (by assumption) (by assumption))))
  (first | (go_at_call 54; refine (HC.out _ ?_).mono ?_; exact Ky.na (by assumption); rintro e w5 ⟨rfl, hb⟩))
 go_split_ands
 go_wp2_with fail
 go_roundg q
 case measure => omega
 case rel => exact ⟨i + 1, congrArg (Value.int .i64) (by omega), hq, ⟨fun j h => by
  by_cases c : j < i
  ·exact HY.out j c
  ·rw [show j = i by omega, HKA.out]; exact decide_eq_true HZ.out⟩, ⟨Ky.ob (by assumption)⟩⟩
theorem uni_calls {t : S25} (h : SB t) : ∃ b, UniC t b := by
 induction h with
 | mk t h2 h3 h4 ih =>
 have key : ∃ f : Nat → Bool, ∀ i (h : i < t.f3.length), UniC t.f3[i] (f i) := by
  refine ⟨fun i => if h : i < t.f3.length then (ih t.f3[i] (List.getElem_mem h)).choose else true, fun i h => ?_⟩
  dsimp only
  rw [dif_pos h]
  exact (ih t.f3[i] (List.getElem_mem h)).choose_spec
 obtain ⟨f, hf⟩ := key
 exact ⟨_, uni_step t h2 h3 f hf⟩
def ans (K : Int) (txt : ByteArray) (A2 A3 : Option Addr) (n2 n3 c2 c3 : Nat) : Value := .agg #[.int .i64 K, .string txt, .slice A2 n2 c2, .slice A3 n3 c3, .bool true, .bool false, .bool false]
def ansO (K : Int) (txt : ByteArray) (A2 A3 : Option Addr) (n2 n3 c2 c3 : Nat) : Obj := .cells #[.int .i64 K, .string txt, .slice A2 n2 c2, .slice A3 n3 c3, .bool true, .bool false, .bool false] 31 (0, 0)
theorem ansEnd32 (P : Ending → World → Prop) (K : Int) (txt : ByteArray) (A2 A3 : Option Addr) (n2 n3 c2 c3 : Nat) (W : World) (r : Nat) (tm : Array Value) (h2 : tm.getD 2 undef = .pointer (some ⟨r, 0, none⟩)) (hg : W.heap[r]? = some (ansO K txt A2 A3 n2 n3 c2 c3)) (hb : P (.returned (ans K txt A2 A3 n2 n3 c2 c3)) W) :
  bodyPost Tryz.prog Tryz.f32 P .ret ⟨tm, []⟩ W := by
 have n0 := blk_cell hg 0
 have n1 := blk_cell hg 1
 have n2' := blk_cell hg 2
 have n3' := blk_cell hg 3
 have n4 := blk_cell hg 4
 have n5 := blk_cell hg 5
 have n6 := blk_cell hg 6
 refine bodyPost_ret (v := ans K txt A2 A3 n2 n3 c2 c3) ?_ rfl hb
 simp only [results, Tryz.results32]
 have h2' := h2
 simp only [Array.getD_eq_getD_getElem?] at h2'
 simp [go_sem, h2, h2', n0, n1, n2', n3', n4, n5, n6, ans]
set_option maxHeartbeats 4000000 in
set_option maxRecDepth 8192 in
theorem found_calls (K : Int) (txt : ByteArray) (A2 A3 : Option Addr) (n2 n3 c2 c3 : Nat) (w : World) : Calls Tryz.prog 32 #[.agg #[.int .i64 K, .string txt, .slice A2 n2 c2, .slice A3 n3 c3]] w fun e w' => e = .returned (ans K txt A2 A3 n2 n3 c2 c3) ∧ Below w.heap.size w w' := by
 go_enter Tryz.func32, Tryz.ntmps32
 go_wp2_with fail
 refine ansEnd32 _ K txt A2 A3 n2 n3 c2 c3 _ (w.heap.size + 1) _ rfl ?_ ⟨rfl, below_alloc (below_alloc (Below.refl _ _) _) _⟩
 have := heap_alloc_new (w.alloc (.cells #[.int .i64 K, .string txt, .slice A2 n2 c2, .slice A3 n3 c3] 25)) (.cells #[.int .i64 K, .string txt, .slice A2 n2 c2, .slice A3 n3 c3, .bool true, .bool false, .bool false] 31)
 rwa [show (w.alloc (.cells #[.int .i64 K, .string txt, .slice A2 n2 c2, .slice A3 n3 c3] 25)).heap.size = w.heap.size + 1 by simp] at this
theorem own_form {W : World} {B : Nat} {e : TypeId} {sz n : Nat} {v : Value} {xs : List Value} (h : W.ownsRow B e sz v n xs) (hn : 0 < n) : ∃ b c, v = .slice (some ⟨b, 0, none⟩) n c ∧ B ≤ b ∧ n ≤ c ∧ ∃ cs, W.heap[b]? = some (.cells cs e (0, 0)) ∧ cs.size = c * sz ∧ cs.toList.take (n * sz) = xs := by
 rcases h.2 with ⟨_, h0⟩ | ⟨g, cap, cur, rfl, hb, hg, hnc, _, hcs, ht⟩
 ·omega
 ·exact ⟨g, cap, rfl, hb, hnc, cur, hg, hcs, ht⟩
theorem own_slice {W : World} {B : Nat} {e : TypeId} {sz n : Nat} {v : Value} {xs : List Value} (h : W.ownsRow B e sz v n xs) : ∃ A c, v = .slice A n c := by
 rcases h.2 with ⟨rfl, rfl⟩ | ⟨g, cap, cur, rfl, _⟩
 ·exact ⟨_, _, rfl⟩
 ·exact ⟨_, _, rfl⟩
section
variable {P : Program} {ops : Array Oper} {o : Oper} {a : Act} {Q : Exit → Act → World → Prop} {K : Act → World → Prop} {W : World}
theorem step_append_cells_at (base : Nat) (hw : Region.wanted o (yielded ops a.tmps) = true) (s x : Operand) (t e : TypeId) (z : Value) (size bytes : Nat)
  (ho : o.op = .call { callee := .builtin .append, args := #[s, x], argTypes := #[t, t] })
  (ht : P.underlying t = some (.slice e)) (hinfo : (P.info? e).map (fun i => (i.zero, i.size, i.bytes)) = some (some z, size, bytes)) (hz : z.cells.size = size) (hs0 : 0 < size) (hb0 : 0 < bytes)
  (v : Value) (n : Nat) (xs ys : List Value) (nb : Nat) (hs : a.eval s = v) (hx : a.eval x = .slice (some ⟨nb, 0, none⟩) 1 1) (hys : ys.length = size) (hnb : W.heap[nb]? = some (.cells ys.toArray e (0, 0))) (h1 : ∀ u ∈ ys, u.oneCell' = true)
  (HO : W.ownsRow base e size v n xs) (hbase : base ≤ W.heap.size) (hl : (n + 1) * bytes ≤ 140737488355328)
  (h : ∀ b c w1, w1.ownsRow base e size (.slice (some ⟨b, 0, none⟩) (n + 1) c) (n + 1) (xs ++ ys) → W.grownBy w1 v.ownBlock → (some b = v.ownBlock ∨ W.heap.size ≤ b) → K (a.put o.dst (.slice (some ⟨b, 0, none⟩) (n + 1) c)) w1) :
  if Region.wanted o (yielded ops a.tmps) = true then Oper.wp P o a W K Q else K (a.put o.dst undef) W := by
 obtain ⟨i0, hi, hzz⟩ := Option.map_eq_some_iff.1 hinfo
 simp only [Prod.mk.injEq] at hzz
 obtain ⟨hz0, hz1, hz2⟩ := hzz
 have hlen : n + 1 ≤ 140737488355328 := Nat.le_trans (Nat.le_mul_of_pos_right _ hb0) hl
 rw [if_pos hw]
 obtain ⟨v', w', hr, h2, h3, h4, h5⟩ := run_append_own_at (P := P) W base t o.type e i0 z size bytes ht hi hz0 hz1 hz2 hz hs0 v n xs HO ⟨nb, 0, none⟩ 1 1 ys (by rw [hys]; simp)
  (by simpa using World.news_of_block (cs := ys.toArray) (t := e) (fr := (0, 0)) hnb) h1 (by simp only [maxLen]; omega) hl hbase
 obtain ⟨b, c, rfl, hb⟩ : ∃ b c, v' = .slice (some ⟨b, 0, none⟩) (n + 1) c ∧ (some b = v.ownBlock ∨ W.heap.size ≤ b) := by
  obtain ⟨b, c, hv, _⟩ := own_form h2 (by omega)
  subst hv
  refine ⟨b, c, rfl, ?_⟩
  rcases h5 with q | q
  ·exact .inl q
  ·simp only [Value.ownBlock, Option.some.injEq] at q
   exact .inr (by omega)
 unfold Oper.wp execOp
 simp only [ho, resolve, invoke, builtin, Sem.run_bind, Sem.run_pure, Result.andThen_ok, List.map_toArray, List.map_cons, List.map_nil, hs, hx, hr]
 exact h b c w' h2 h3 hb
end
structure Gx (w W : World) (t : S25) (A2 A3 : Option Addr) (c2 c3 : Nat) (kv : Value) (m N : Nat) (nv cv : Nat → Value) : Prop where
 ob : Ob w W t A2 A3 c2 c3
 h2 : W.heap[w.heap.size + 1]? = some (.cells #[.int .i64 0, .string ⟨#[]⟩, .slice none 0 0, .slice none 0 0, .bool false, .bool false, .bool false] 31 (0, 0))
 ou : Ou (w.heap.size + 2) (w.heap.size + 2) W kv m N nv cv
section
variable {w W W' w1 : World} {t : S25} {A2 A3 : Option Addr} {c2 c3 : Nat} {kv kv' v1 : Value} {m N m' N' : Nat} {nv cv nv' cv' : Nat → Value}
theorem Gx.of (h : Gx w W t A2 A3 c2 c3 kv m N nv cv) (hb : Below (w.heap.size + 2) W W') (ho : Ou (w.heap.size + 2) (w.heap.size + 2) W' kv' m' N' nv' cv') : Gx w W' t A2 A3 c2 c3 kv' m' N' nv' cv' :=
 ⟨⟨(hb.block _ (by omega)).trans h.ob.h0, h.ob.be.trans (hb.mono (by omega))⟩, (hb.block _ (by omega)).trans h.h2, ho⟩
theorem Gx.sz (h : Gx w W t A2 A3 c2 c3 kv m N nv cv) : w.heap.size + 3 ≤ W.heap.size := blk_lt h.ou.box
theorem Gx.later (h : Gx w W t A2 A3 c2 c3 kv m N nv cv) (hb : Below W.heap.size W W') : Gx w W' t A2 A3 c2 c3 kv m N nv cv :=
 h.of (hb.mono (by have := h.sz; omega)) (h.ou.move (fun k hk => hb.block k hk))
theorem Gx.alloc (h : Gx w W t A2 A3 c2 c3 kv m N nv cv) (o : Obj) : Gx w (W.alloc o) t A2 A3 c2 c3 kv m N nv cv := h.later (below_alloc (Below.refl _ _) o)
theorem Gx.up (h : Gx w W t A2 A3 c2 c3 kv m N nv cv) (hN : N ≤ N') : Gx w W t A2 A3 c2 c3 kv m N' nv cv := ⟨h.ob, h.h2, h.ou.up hN⟩
theorem Gx.cells (h : Gx w W t A2 A3 c2 c3 kv m N nv cv) : (W.cell? ⟨w.heap.size, 0, none⟩ = some (.int .i64 t.f0) ∧ W.cell? ⟨w.heap.size, 1, none⟩ = some (.string t.f1) ∧ W.cell? ⟨w.heap.size, 2, none⟩ = some (.slice A2 t.f2.length c2) ∧ W.cell? ⟨w.heap.size, 3, none⟩ = some (.slice A3 t.f3.length c3)) ∧
  (W.cell? ⟨w.heap.size + 2, 0, none⟩ = some (.int .i64 5) ∧ W.cell? ⟨w.heap.size + 2, 1, none⟩ = some (.string ⟨#[]⟩) ∧ W.cell? ⟨w.heap.size + 2, 2, none⟩ = some (.slice none 0 0) ∧ W.cell? ⟨w.heap.size + 2, 3, none⟩ = some kv) ∧ (∀ i, W.frozen? ⟨w.heap.size + 2, i, none⟩ = false) :=
 ⟨h.ob.cells, ⟨blk_cell h.ou.box 0, blk_cell h.ou.box 1, blk_cell h.ou.box 2, blk_cell h.ou.box 3⟩, blk_frozen h.ou.box⟩
theorem Gx.new (w : World) (t : S25) (A2 A3 : Option Addr) (c2 c3 : Nat) : Gx w (((w.alloc (.cells #[.int .i64 t.f0, .string t.f1, .slice A2 t.f2.length c2, .slice A3 t.f3.length c3] 25)).alloc (.cells #[.int .i64 0, .string ⟨#[]⟩, .slice none 0 0, .slice none 0 0, .bool false, .bool false, .bool false] 31)).alloc (.cells #[.int .i64 5, .string ⟨#[]⟩, .slice none 0 0, .slice none 0 0] 25)) t A2 A3 c2 c3 (.slice none 0 0) 0 0 (fun _ => .slice none 0 0) (fun _ => .slice none 0 0) := by
 have h1 := Ob.new w t A2 A3 c2 c3
 have h2 := h1.below (below_alloc (Below.refl _ _) (.cells #[.int .i64 0, .string ⟨#[]⟩, .slice none 0 0, .slice none 0 0, .bool false, .bool false, .bool false] 31))
 have n2 := heap_alloc_new (w.alloc (.cells #[.int .i64 t.f0, .string t.f1, .slice A2 t.f2.length c2, .slice A3 t.f3.length c3] 25)) (.cells #[.int .i64 0, .string ⟨#[]⟩, .slice none 0 0, .slice none 0 0, .bool false, .bool false, .bool false] 31)
 have h3 := h2.below (below_alloc (Below.refl _ _) (.cells #[.int .i64 5, .string ⟨#[]⟩, .slice none 0 0, .slice none 0 0] 25))
 have n3 := heap_alloc_new ((w.alloc (.cells #[.int .i64 t.f0, .string t.f1, .slice A2 t.f2.length c2, .slice A3 t.f3.length c3] 25)).alloc (.cells #[.int .i64 0, .string ⟨#[]⟩, .slice none 0 0, .slice none 0 0, .bool false, .bool false, .bool false] 31)) (.cells #[.int .i64 5, .string ⟨#[]⟩, .slice none 0 0, .slice none 0 0] 25)
 have e2 := (Below.heap_alloc ((w.alloc (.cells #[.int .i64 t.f0, .string t.f1, .slice A2 t.f2.length c2, .slice A3 t.f3.length c3] 25)).alloc (.cells #[.int .i64 0, .string ⟨#[]⟩, .slice none 0 0, .slice none 0 0, .bool false, .bool false, .bool false] 31)) (.cells #[.int .i64 5, .string ⟨#[]⟩, .slice none 0 0, .slice none 0 0] 25) _ (blk_lt n2)).trans n2
 simp only [alloc_heap_size] at n3 e2
 exact ⟨h3, e2, Ou.nil (Nat.le_refl _) n3 0⟩
end
structure Gy (w W : World) (t : S25) (A2 A3 : Option Addr) (c2 c3 : Nat) (kv : Value) (m N : Nat) (nv cv : Nat → Value) (b7 : Nat) (y : S25) (Q2 Q3 : Option Addr) (q2 q3 : Nat) : Prop where
 gx : Gx w W t A2 A3 c2 c3 kv m N nv cv
 hb : W.heap[b7]? = some (.cells #[.int .i64 y.f0, .string y.f1, .slice Q2 y.f2.length q2, .slice Q3 y.f3.length q3] 25 (0, 0))
 k7 : kv.ownBlock ≠ some b7
 c7 : ∀ i, i < m → (cv i).ownBlock ≠ some b7
 g7 : w.heap.size + 3 ≤ b7
section
variable {w W W' w1 : World} {t y : S25} {A2 A3 Q2 Q3 : Option Addr} {c2 c3 q2 q3 b7 : Nat} {kv kv' v1 : Value} {m N m' N' : Nat} {nv cv nv' cv' : Nat → Value}
theorem Gx.drewN (h : Gx w W t A2 A3 c2 c3 kv m N nv cv) (n : Nat) : Gx w (W.drewN n) t A2 A3 c2 c3 kv m N nv cv := h.later (pw_below_drewN (Below.refl _ _) n)
theorem Gy.new (h : Gx w W t A2 A3 c2 c3 kv m N nv cv) (y : S25) (Q2 Q3 : Option Addr) (q2 q3 : Nat) : Gy w (W.alloc (.cells #[.int .i64 y.f0, .string y.f1, .slice Q2 y.f2.length q2, .slice Q3 y.f3.length q3] 25)) t A2 A3 c2 c3 kv m N nv cv W.heap.size y Q2 Q3 q2 q3 :=
 ⟨h.alloc _, heap_alloc_new W _, fun e => by have := h.ou.klt e; omega, fun i hi e => by have := h.ou.clt hi e; omega, h.sz⟩
theorem Gy.later (h : Gy w W t A2 A3 c2 c3 kv m N nv cv b7 y Q2 Q3 q2 q3) (hb : Below W.heap.size W W') : Gy w W' t A2 A3 c2 c3 kv m N nv cv b7 y Q2 Q3 q2 q3 :=
 ⟨h.gx.later hb, (hb.block _ (blk_lt h.hb)).trans h.hb, h.k7, h.c7, h.g7⟩
theorem Gy.drew (h : Gy w W t A2 A3 c2 c3 kv m N nv cv b7 y Q2 Q3 q2 q3) : Gy w W.drew t A2 A3 c2 c3 kv m N nv cv b7 y Q2 Q3 q2 q3 := h.later (below_drew (Below.refl _ _))
theorem Gy.alloc (h : Gy w W t A2 A3 c2 c3 kv m N nv cv b7 y Q2 Q3 q2 q3) (o : Obj) : Gy w (W.alloc o) t A2 A3 c2 c3 kv m N nv cv b7 y Q2 Q3 q2 q3 := h.later (below_alloc (Below.refl _ _) o)
theorem Gy.push (h : Gy w W t A2 A3 c2 c3 kv m N nv cv b7 y Q2 Q3 q2 q3) (xs : List Value) (hs : W.ownsRow (w.heap.size + 2) 25 4 kv m xs) (hx : ∀ i, i < m → xs[4 * i + 2]? = some (nv i) ∧ xs[4 * i + 3]? = some (cv i)) (ho : w1.ownsRow (w.heap.size + 2) 25 4 v1 (m + 1) (xs ++ [.int .i64 6, .string ⟨#[]⟩, .slice none 0 0, .slice none 0 0])) (hbl : Below (w.heap.size + 2) W w1) (hg : W.grownBy w1 kv.ownBlock) (hat : v1.ownBlock = kv.ownBlock ∨ ∃ b, v1.ownBlock = some b ∧ W.heap.size ≤ b) :
  Gy w (w1.setCell ⟨w.heap.size + 2, 3, none⟩ v1) t A2 A3 c2 c3 v1 (m + 1) N (fun i => if i < m then nv i else .slice none 0 0) (fun i => if i < m then cv i else .slice none 0 0) b7 y Q2 Q3 q2 q3 := by
 refine ⟨h.gx.of (hbl.setCell (p := ⟨w.heap.size + 2, 3, none⟩) (Nat.le_refl _) _) (h.gx.ou.push xs hs hx ho hg hat), ?_, fun e => ?_, fun i hi e => ?_, h.g7⟩
 ·have g7 := h.g7
  exact (Below.heap_setCell w1 ⟨w.heap.size + 2, 3, none⟩ _ b7 (by show b7 ≠ w.heap.size + 2; omega)).trans ((hg.block b7 (blk_lt h.hb) (fun e => h.k7 e.symm)).trans h.hb)
 rotate_left
 ·by_cases q : i < m
  ·rw [if_pos q] at e; exact h.c7 i q e
  ·rw [if_neg q] at e; simp [Value.ownBlock] at e
 rcases hat with q | ⟨b, q, hb⟩
 ·exact h.k7 (q ▸ e)
 ·rw [q] at e; injection e with e; have := blk_lt h.hb; omega
theorem Gy.names (h : Gy w W t A2 A3 c2 c3 kv m N nv cv b7 y Q2 Q3 q2 q3) {sb cap : Nat} (hk : kv = .slice (some ⟨sb, 0, none⟩) m cap) (i : Nat) (hi : i < m) (n : Nat) (ys : List Value) (hn : n ≤ N') (hN : N ≤ N') (ho : w1.ownsRow (w.heap.size + 2) 9 1 v1 n ys) (hg : W.grownBy w1 (nv i).ownBlock) (hat : v1.ownBlock = (nv i).ownBlock ∨ ∃ b, v1.ownBlock = some b ∧ W.heap.size ≤ b) :
  Gy w (w1.setCell ⟨sb, 4 * i + 2, none⟩ v1) t A2 A3 c2 c3 kv m N' (fun j => if j = i then v1 else nv j) cv b7 y Q2 Q3 q2 q3 := by
 have hks : kv.ownBlock = some sb := by rw [hk]; rfl
 have hsB : w.heap.size + 2 ≤ sb := by obtain ⟨xs, hs, _⟩ := h.gx.ou.sp; exact own_base hs _ hks
 have hbl : Below (w.heap.size + 2) W w1 := Below.grown (Below.refl _ _) hg (by have := h.gx.sz; omega) (fun k hk' => by obtain ⟨n', zs, _, hz⟩ := h.gx.ou.nr i hi; exact own_base hz _ hk')
 refine ⟨h.gx.of (hbl.setCell (p := ⟨sb, 4 * i + 2, none⟩) hsB _) (h.gx.ou.names hk i hi n ys hn hN ho hg hat), ?_, h.k7, h.c7, h.g7⟩
 refine (Below.heap_setCell w1 ⟨sb, 4 * i + 2, none⟩ _ b7 (fun e => h.k7 (by rw [hks]; exact congrArg some (show sb = b7 from e.symm)))).trans ((hg.block b7 (blk_lt h.hb) (fun e => ?_)).trans h.hb)
 obtain ⟨cs, hc⟩ := h.gx.ou.nt hi e.symm
 rw [h.hb] at hc
 simp at hc
theorem Gy.kids (h : Gy w W t A2 A3 c2 c3 kv m N nv cv b7 y Q2 Q3 q2 q3) {sb cap : Nat} (hk : kv = .slice (some ⟨sb, 0, none⟩) m cap) (i : Nat) (hi : i < m) (n : Nat) (ys : List Value) (hn : n ≤ N') (hN : N ≤ N') (ho : w1.ownsRow (w.heap.size + 2) 25 4 v1 n ys) (hg : W.grownBy w1 (cv i).ownBlock) (hat : v1.ownBlock = (cv i).ownBlock ∨ ∃ b, v1.ownBlock = some b ∧ W.heap.size ≤ b) :
  Gy w (w1.setCell ⟨sb, 4 * i + 3, none⟩ v1) t A2 A3 c2 c3 kv m N' nv (fun j => if j = i then v1 else cv j) b7 y Q2 Q3 q2 q3 := by
 have hks : kv.ownBlock = some sb := by rw [hk]; rfl
 have hsB : w.heap.size + 2 ≤ sb := by obtain ⟨xs, hs, _⟩ := h.gx.ou.sp; exact own_base hs _ hks
 have hbl : Below (w.heap.size + 2) W w1 := Below.grown (Below.refl _ _) hg (by have := h.gx.sz; omega) (fun k hk' => by obtain ⟨n', zs, _, hz⟩ := h.gx.ou.cr i hi; exact own_base hz _ hk')
 refine ⟨h.gx.of (hbl.setCell (p := ⟨sb, 4 * i + 3, none⟩) hsB _) (h.gx.ou.kids hk i hi n ys hn hN ho hg hat), ?_, h.k7, fun j hj e => ?_, h.g7⟩
 ·exact (Below.heap_setCell w1 ⟨sb, 4 * i + 3, none⟩ _ b7 (fun e => h.k7 (by rw [hks]; exact congrArg some (show sb = b7 from e.symm)))).trans ((hg.block b7 (blk_lt h.hb) (fun e => h.c7 i hi e.symm)).trans h.hb)
 by_cases q : j = i
 rotate_left
 ·rw [if_neg q] at e; exact h.c7 j hj e
 rw [if_pos q] at e
 rcases hat with q' | ⟨b, q', hb⟩
 ·exact h.c7 i hi (q' ▸ e)
 ·rw [q'] at e; injection e with e; have := blk_lt h.hb; omega
theorem Gy.kset (h : Gy w W t A2 A3 c2 c3 kv m N nv cv b7 y Q2 Q3 q2 q3) {i b : Nat} (hi : i < m) (hb : (cv i).ownBlock = some b) (j : Nat) (x : Value) : Gy w (W.setCell ⟨b, j, none⟩ x) t A2 A3 c2 c3 kv m N nv cv b7 y Q2 Q3 q2 q3 := by
 have hbB : w.heap.size + 2 ≤ b := by obtain ⟨n', zs, _, hz⟩ := h.gx.ou.cr i hi; exact own_base hz _ hb
 refine ⟨h.gx.of ((Below.refl _ _).setCell (p := ⟨b, j, none⟩) hbB _) (h.gx.ou.kset hi hb j x), ?_, h.k7, h.c7, h.g7⟩
 exact (Below.heap_setCell W ⟨b, j, none⟩ _ b7 (fun e => h.c7 i hi (by rw [hb]; exact congrArg some (show b = b7 from e.symm)))).trans h.hb
def Rd (w W : World) (t : S25) (A2 A3 : Option Addr) (c2 c3 : Nat) (kv : Value) (b7 : Nat) (y : S25) (Q2 Q3 : Option Addr) (q2 q3 : Nat) (pa : Addr) (nm : ByteArray) : Prop :=
 W.heap[w.heap.size + 1 + 1]? = some (.cells #[.int .i64 5, .string ⟨#[]⟩, .slice none 0 0, kv] 25 (0, 0)) ∧ W.heap[w.heap.size]? = some (.cells #[.int .i64 t.f0, .string t.f1, .slice A2 t.f2.length c2, .slice A3 t.f3.length c3] 25 (0, 0)) ∧ W.cell? pa = some (.string nm) ∧ W.heap[b7]? = some (.cells #[.int .i64 y.f0, .string y.f1, .slice Q2 y.f2.length q2, .slice Q3 y.f3.length q3] 25 (0, 0))
theorem Rd.cells {pa : Addr} {nm : ByteArray} (h : Rd w W t A2 A3 c2 c3 kv b7 y Q2 Q3 q2 q3 pa nm) : W.cell? ⟨w.heap.size + 1 + 1, 3, none⟩ = some kv ∧ W.cell? ⟨w.heap.size, 2, none⟩ = some (.slice A2 t.f2.length c2) ∧ W.cell? pa = some (.string nm) ∧ W.cell? ⟨b7, 0, none⟩ = some (.int .i64 y.f0) ∧ W.cell? ⟨b7, 1, none⟩ = some (.string y.f1) ∧ W.cell? ⟨b7, 2, none⟩ = some (.slice Q2 y.f2.length q2) ∧ W.cell? ⟨b7, 3, none⟩ = some (.slice Q3 y.f3.length q3) :=
 ⟨blk_cell h.1 3, blk_cell h.2.1 2, h.2.2.1, blk_cell h.2.2.2 0, blk_cell h.2.2.2 1, blk_cell h.2.2.2 2, blk_cell h.2.2.2 3⟩
theorem Gy.rd (h : Gy w W t A2 A3 c2 c3 kv m N nv cv b7 y Q2 Q3 q2 q3) {pa : Addr} {nm : ByteArray} (hp : w.cell? pa = some (.string nm)) : Rd w W t A2 A3 c2 c3 kv b7 y Q2 Q3 q2 q3 pa nm :=
 ⟨h.gx.ou.box, h.gx.ob.h0, pw_cell_below h.gx.ob.be hp, h.hb⟩
theorem Gy.spine {sb cap : Nat} (h : Gy w W t A2 A3 c2 c3 (.slice (some ⟨sb, 0, none⟩) m cap) m N nv cv b7 y Q2 Q3 q2 q3) {i : Nat} (hi : i < m) : W.cell? ⟨sb, i * 4 + 2, none⟩ = some (nv i) ∧ W.cell? ⟨sb, i * 4 + 3, none⟩ = some (cv i) ∧ ∀ j, W.frozen? ⟨sb, j, none⟩ = false := by
 obtain ⟨xs, hs, hx⟩ := h.gx.ou.sp
 have hc : ∀ j u, xs[j]? = some u → W.cell? ((⟨sb, 0, none⟩ : Addr).add j) = some u := hs.cells (g := sb) rfl
 obtain ⟨cs, hcs⟩ := h.gx.ou.kt (b := sb) rfl
 have e1 := hc _ _ (hx i hi).1
 have e2 := hc _ _ (hx i hi).2
 rw [Addr.add_lit] at e1 e2
 refine ⟨?_, ?_, blk_frozen hcs⟩
 ·rw [show i * 4 + 2 = 0 + (4 * i + 2) by omega]; exact e1
 ·rw [show i * 4 + 3 = 0 + (4 * i + 3) by omega]; exact e2
theorem Gy.midn {sb cap : Nat} (h : Gy w W t A2 A3 c2 c3 (.slice (some ⟨sb, 0, none⟩) m cap) m N nv cv b7 y Q2 Q3 q2 q3) {i : Nat} (hi : i < m) (hg : W.grownBy w1 (nv i).ownBlock) {pa : Addr} {nm : ByteArray} (hp : w.cell? pa = some (.string nm)) :
  Rd w w1 t A2 A3 c2 c3 (.slice (some ⟨sb, 0, none⟩) m cap) b7 y Q2 Q3 q2 q3 pa nm ∧ w1.cell? ⟨sb, i * 4 + 2, none⟩ = some (nv i) ∧ ∀ j, w1.frozen? ⟨sb, j, none⟩ = false := by
 have hbl : Below (w.heap.size + 2) W w1 := Below.grown (Below.refl _ _) hg (by have := h.gx.sz; omega) (fun k hk' => by obtain ⟨n', zs, _, hz⟩ := h.gx.ou.nr i hi; exact own_base hz _ hk')
 obtain ⟨s1, s2, s3⟩ := h.spine hi
 obtain ⟨cs, hcs⟩ := h.gx.ou.kt (b := sb) rfl
 have far : ∀ {k : Nat} {c : Array Value}, W.heap[k]? = some (.cells c 25 (0, 0)) → w1.heap[k]? = some (.cells c 25 (0, 0)) := fun {k c} hk => by
  refine (hg.block k (blk_lt hk) (fun e => ?_)).trans hk
  obtain ⟨cs', hc'⟩ := h.gx.ou.nt hi e.symm
  rw [hk] at hc'
  simp at hc'
 have hcs1 := far hcs
 refine ⟨⟨far h.gx.ou.box, far h.gx.ob.h0, pw_cell_below (h.gx.ob.be.trans (hbl.mono (by omega))) hp, far h.hb⟩, ?_, blk_frozen hcs1⟩
 rw [blk_cell hcs] at s1
 rw [blk_cell hcs1]
 exact s1
theorem Gy.midk {sb cap : Nat} (h : Gy w W t A2 A3 c2 c3 (.slice (some ⟨sb, 0, none⟩) m cap) m N nv cv b7 y Q2 Q3 q2 q3) {i : Nat} (hi : i < m) (hg : W.grownBy w1 (cv i).ownBlock) {pa : Addr} {nm : ByteArray} (hp : w.cell? pa = some (.string nm)) :
  Rd w w1 t A2 A3 c2 c3 (.slice (some ⟨sb, 0, none⟩) m cap) b7 y Q2 Q3 q2 q3 pa nm ∧ w1.cell? ⟨sb, i * 4 + 3, none⟩ = some (cv i) ∧ ∀ j, w1.frozen? ⟨sb, j, none⟩ = false := by
 have hbl : Below (w.heap.size + 2) W w1 := Below.grown (Below.refl _ _) hg (by have := h.gx.sz; omega) (fun k hk' => by obtain ⟨n', zs, _, hz⟩ := h.gx.ou.cr i hi; exact own_base hz _ hk')
 obtain ⟨s1, s2, s3⟩ := h.spine hi
 obtain ⟨cs, hcs⟩ := h.gx.ou.kt (b := sb) rfl
 have far : ∀ {k : Nat} {c : Array Value}, (cv i).ownBlock ≠ some k → W.heap[k]? = some (.cells c 25 (0, 0)) → w1.heap[k]? = some (.cells c 25 (0, 0)) := fun {k c} hne hk => (hg.block k (blk_lt hk) (fun e => hne e.symm)).trans hk
 have hne : (cv i).ownBlock ≠ some sb := fun e => (h.gx.ou.cs i sb hi e).2 rfl
 have hcs1 := far hne hcs
 refine ⟨⟨far (fun e => (h.gx.ou.cs i _ hi e).1 rfl) h.gx.ou.box, (hbl.block _ (by omega)).trans h.gx.ob.h0, pw_cell_below (h.gx.ob.be.trans (hbl.mono (by omega))) hp, far (h.c7 i hi) h.hb⟩, ?_, blk_frozen hcs1⟩
 rw [blk_cell hcs] at s2
 rw [blk_cell hcs1]
 exact s2
theorem Gy.nset {sb cap : Nat} (h : Gy w W t A2 A3 c2 c3 (.slice (some ⟨sb, 0, none⟩) m cap) m N nv cv b7 y Q2 Q3 q2 q3) {i : Nat} (hi : i < m) {n b c : Nat} {ys : List Value} (hn : n ≤ N + 1) (ho : w1.ownsRow (w.heap.size + 2) 9 1 (.slice (some ⟨b, 0, none⟩) n c) n ys) (hg : W.grownBy w1 (nv i).ownBlock) (hat : some b = (nv i).ownBlock ∨ W.heap.size ≤ b) :
  ∃ nv', Gy w (w1.setCell ⟨sb, i * 4 + 2, none⟩ (.slice (some ⟨b, 0, none⟩) n c)) t A2 A3 c2 c3 (.slice (some ⟨sb, 0, none⟩) m cap) m (N + 1) nv' cv b7 y Q2 Q3 q2 q3 := by
 have := h.names rfl i hi n ys hn (Nat.le_succ N) ho hg (hat.imp id (fun q => ⟨b, rfl, q⟩))
 rw [show 4 * i + 2 = i * 4 + 2 by omega] at this
 exact ⟨_, this⟩
theorem Gy.kdset {sb cap : Nat} (h : Gy w W t A2 A3 c2 c3 (.slice (some ⟨sb, 0, none⟩) m cap) m N nv cv b7 y Q2 Q3 q2 q3) {i : Nat} (hi : i < m) {n b c : Nat} {ys : List Value} (hn : n ≤ N + 1) (ho : w1.ownsRow (w.heap.size + 2) 25 4 (.slice (some ⟨b, 0, none⟩) n c) n ys) (hg : W.grownBy w1 (cv i).ownBlock) (hat : some b = (cv i).ownBlock ∨ W.heap.size ≤ b) :
  ∃ cv', Gy w (w1.setCell ⟨sb, i * 4 + 3, none⟩ (.slice (some ⟨b, 0, none⟩) n c)) t A2 A3 c2 c3 (.slice (some ⟨sb, 0, none⟩) m cap) m (N + 1) nv cv' b7 y Q2 Q3 q2 q3 ∧ cv' i = .slice (some ⟨b, 0, none⟩) n c := by
 have := h.kids rfl i hi n ys hn (Nat.le_succ N) ho hg (hat.imp id (fun q => ⟨b, rfl, q⟩))
 rw [show 4 * i + 3 = i * 4 + 3 by omega] at this
 exact ⟨_, this, by simp⟩
theorem Gy.elem (h : Gy w W t A2 A3 c2 c3 kv m N nv cv b7 y Q2 Q3 q2 q3) {i n b c : Nat} (hi : i < m) (hv : cv i = .slice (some ⟨b, 0, none⟩) (n + 1) c) : (∃ a0 a1 a2 a3, W.cell? ⟨b, n * 4, none⟩ = some a0 ∧ W.cell? ⟨b, n * 4 + 1, none⟩ = some a1 ∧ W.cell? ⟨b, n * 4 + 2, none⟩ = some a2 ∧ W.cell? ⟨b, n * 4 + 3, none⟩ = some a3) ∧ ∀ j, W.frozen? ⟨b, j, none⟩ = false := by
 obtain ⟨n', xs, _, ho⟩ := h.gx.ou.cr i hi
 rw [hv] at ho
 rcases ho.2 with ⟨q, _⟩ | ⟨g, cap, cur, hvv, _, hg, hnc, _, hcs, _⟩
 ·cases q
 injection hvv with ha hn hc
 injection ha with ha
 injection ha with ha
 subst ha hn hc
 have e : ∀ j, j < 4 → W.cell? ⟨b, n * 4 + j, none⟩ = some (cur.getD (n * 4 + j) undef) := fun j hj => by
  rw [blk_cell hg, Array.getElem?_eq_getElem (by omega), Array.getD_eq_getD_getElem?, Array.getElem?_eq_getElem (by omega)]
  rfl
 exact ⟨⟨_, _, _, _, e 0 (by omega), e 1 (by omega), e 2 (by omega), e 3 (by omega)⟩, blk_frozen hg⟩
end
set_option maxHeartbeats 8000000
set_option maxRecDepth 8192
def an7 (K : Int) (txt : ByteArray) (A2 A3 : Option Addr) (n2 n3 c2 c3 : Nat) (b4 b5 b6 : Bool) : Value := .agg #[.int .i64 K, .string txt, .slice A2 n2 c2, .slice A3 n3 c3, .bool b4, .bool b5, .bool b6]
theorem ansEnd18 (P : Ending → World → Prop) (K : Int) (txt : ByteArray) (A2 A3 : Option Addr) (n2 n3 c2 c3 : Nat) (b4 b5 b6 : Bool) (W : World) (r : Nat) (tm : Array Value) (h2 : tm.getD 2 undef = .pointer (some ⟨r, 0, none⟩)) (hg : W.heap[r]? = some (.cells #[.int .i64 K, .string txt, .slice A2 n2 c2, .slice A3 n3 c3, .bool b4, .bool b5, .bool b6] 31 (0, 0))) (hb : P (.returned (an7 K txt A2 A3 n2 n3 c2 c3 b4 b5 b6)) W) :
  bodyPost Tryz.prog Tryz.f18 P .ret ⟨tm, []⟩ W := by
 have n0 := blk_cell hg 0
 have n1 := blk_cell hg 1
 have n2' := blk_cell hg 2
 have n3' := blk_cell hg 3
 have n4 := blk_cell hg 4
 have n5 := blk_cell hg 5
 have n6 := blk_cell hg 6
 refine bodyPost_ret (v := an7 K txt A2 A3 n2 n3 c2 c3 b4 b5 b6) ?_ rfl hb
 simp only [results, Tryz.results18]
 have h2' := h2
 simp only [Array.getD_eq_getD_getElem?] at h2'
 simp [go_sem, h2, h2', n0, n1, n2', n3', n4, n5, n6, an7]
def Rect (t : S25) (l0 : Nat) (k : Nat) : Prop := ∀ j (h : j < t.f3.length), j < k → t.f3[j].f0 = 5 ∧ t.f3[j].f3.length = l0
def GrEnd (t : S25) (l0 : Nat) (e : Ending) : Prop := ∃ K txt B2 B3 n2 n3 d2 d3 b4 b5 b6, e = .returned (an7 K txt B2 B3 n2 n3 d2 d3 b4 b5 b6) ∧ (b5 = false → Rect t l0 t.f3.length)
def Gs (w W : World) (t : S25) (A2 A3 : Option Addr) (c2 c3 : Nat) (m N : Nat) : Prop := ∃ kv nv cv, Gx w W t A2 A3 c2 c3 kv m N nv cv
section
variable {w W : World} {t : S25} {A2 A3 : Option Addr} {c2 c3 : Nat} {kv : Value} {m N : Nat} {nv cv : Nat → Value}
theorem Gx.rcells (h : Gx w W t A2 A3 c2 c3 kv m N nv cv) : W.cell? ⟨w.heap.size + 1, 0, none⟩ = some (.int .i64 0) ∧ W.cell? ⟨w.heap.size + 1, 1, none⟩ = some (.string ⟨#[]⟩) ∧ W.cell? ⟨w.heap.size + 1, 2, none⟩ = some (.slice none 0 0) ∧ W.cell? ⟨w.heap.size + 1, 3, none⟩ = some (.slice none 0 0) ∧ W.cell? ⟨w.heap.size + 1, 4, none⟩ = some (.bool false) ∧ W.cell? ⟨w.heap.size + 1, 5, none⟩ = some (.bool false) ∧ W.cell? ⟨w.heap.size + 1, 6, none⟩ = some (.bool false) ∧ (∀ i, W.frozen? ⟨w.heap.size + 1, i, none⟩ = false) :=
 ⟨blk_cell h.h2 0, blk_cell h.h2 1, blk_cell h.h2 2, blk_cell h.h2 3, blk_cell h.h2 4, blk_cell h.h2 5, blk_cell h.h2 6, fun i => blk_frozen h.h2 i⟩
theorem Gx.stored (h : Gx w W t A2 A3 c2 c3 kv m N nv cv) (a b c d e f g : Value) :
  (((((((W.setCell ⟨w.heap.size + 1, 0, none⟩ a).setCell ⟨w.heap.size + 1, 1, none⟩ b).setCell ⟨w.heap.size + 1, 2, none⟩ c).setCell ⟨w.heap.size + 1, 3, none⟩ d).setCell ⟨w.heap.size + 1, 4, none⟩ e).setCell ⟨w.heap.size + 1, 5, none⟩ f).setCell ⟨w.heap.size + 1, 6, none⟩ g).heap[w.heap.size + 1]? = some (.cells #[a, b, c, d, e, f, g] 31 (0, 0)) :=
 blk_set (blk_set (blk_set (blk_set (blk_set (blk_set (blk_set h.h2 0 _) 1 _) 2 _) 3 _) 4 _) 5 _) 6 _
theorem Gx.stored_below (h : Gx w W t A2 A3 c2 c3 kv m N nv cv) (a b c d e f g : Value) :
  Below w.heap.size w (((((((W.setCell ⟨w.heap.size + 1, 0, none⟩ a).setCell ⟨w.heap.size + 1, 1, none⟩ b).setCell ⟨w.heap.size + 1, 2, none⟩ c).setCell ⟨w.heap.size + 1, 3, none⟩ d).setCell ⟨w.heap.size + 1, 4, none⟩ e).setCell ⟨w.heap.size + 1, 5, none⟩ f).setCell ⟨w.heap.size + 1, 6, none⟩ g) :=
 below_set (below_set (below_set (below_set (below_set (below_set (below_set h.ob.be (Nat.le_succ _)) (Nat.le_succ _)) (Nat.le_succ _)) (Nat.le_succ _)) (Nat.le_succ _)) (Nat.le_succ _)) (Nat.le_succ _)
end
theorem group_calls (t : S25) (h2 : t.f2.length ≤ 65536) (h3 : t.f3.length ≤ 65536) (h23 : t.f3.length ≤ t.f2.length) (hk : ∀ i (h : i < t.f3.length), t.f3[i].f2.length ≤ 65536 ∧ t.f3[i].f3.length ≤ 65536) (l0 : Nat) (hl0 : ∀ h : 0 < t.f3.length, t.f3[0].f3.length = l0) (A2 A3 : Option Addr) (c2 c3 : Nat) (w : World) (hA : NodeIn w t A2 A3 c2 c3) :
  Calls Tryz.prog 18 #[.agg #[.int .i64 t.f0, .string t.f1, .slice A2 t.f2.length c2, .slice A3 t.f3.length c3]] w fun e w' => GrEnd t l0 e ∧ Below w.heap.size w w' := by
 have HN := Aside0.mk hA
 have HW := Aside0.mk (Gx.new w t A2 A3 c2 c3)
 have HL := Aside0.mk (And.intro h2 (And.intro h3 (And.intro h23 (And.intro hk hl0))))
 obtain ⟨⟨m0, m1, m2, m3⟩, ⟨g0, g1, g2, g3⟩, gf⟩ := HW.out.cells
 clear hA h2 h23 hk hl0
 go_enter Tryz.func18, Tryz.ntmps18
 go_wp2_with fail
 clear m0 m1 m2 m3 g0 g1 g2 g3 gf
 generalize (((w.alloc (.cells #[.int .i64 t.f0, .string t.f1, .slice A2 t.f2.length c2, .slice A3 t.f3.length c3] 25)).alloc (.cells #[.int .i64 0, .string ⟨#[]⟩, .slice none 0 0, .slice none 0 0, .bool false, .bool false, .bool false] 31)).alloc (.cells #[.int .i64 5, .string ⟨#[]⟩, .slice none 0 0, .slice none 0 0] 25)) = W0 at *
 go_loopg [12] t.f3.length (fun kq v12 w' => ∃ (k m : Nat), v12 = .int .i64 (k : Int) ∧ kq + k = t.f3.length ∧ Aside0 (Gs w w' t A2 A3 c2 c3 m (k * 131072) ∧ (k = 0 → m = 0) ∧ (0 < k → m = l0) ∧ Rect t l0 k))
 case atStart => exact ⟨0, 0, rfl, by omega, ⟨⟨_, _, _, HW.out.up (by omega)⟩, fun _ => rfl, fun h => absurd h (by omega), fun j h h' => absurd h' (by omega)⟩⟩
 obtain ⟨k, m, rfl, hkk, HT⟩ := hrel
 obtain ⟨⟨kv, nv, cv, hx⟩, hm0, hm1, hR⟩ := HT.out
 have HX := Aside0.mk hx
 have HM := Aside0.mk (And.intro hm0 (And.intro hm1 hR))
 obtain ⟨⟨m0, m1, m2, m3⟩, ⟨g0, g1, g2, g3⟩, gf⟩ := HX.out.cells
 clear hx hm0 hm1 hR HT
 obtain ⟨g1', rfl⟩ : ∃ g1', g1' = gk := ⟨_, rfl⟩
 by_cases hi : k < t.f3.length
 rotate_left
 ·have hi1 : ¬ (k : Int) < (t.f3.length : Int) := by omega
  have hke : k = t.f3.length := by omega
  have HE := Aside0.mk hke
  obtain ⟨AA, cc', hkv⟩ : ∃ A c, kv = .slice A m c := by obtain ⟨xs, hs, _⟩ := HX.out.ou.sp; exact own_slice hs
  subst hkv
  clear hkk hke
  go_wp2_with (go_at_call 32; refine (found_calls 5 ⟨#[]⟩ none AA 0 m 0 cc' _).mono ?_; rintro e w2 ⟨rfl, hb⟩; simp only [ans]; have HB := Aside0.mk (HX.out.later hb); clear hb; obtain ⟨r0, r1, r2, r3, r4, r5, r6, rf⟩ := HB.out.rcells)
  refine ansEnd18 _ 5 ⟨#[]⟩ none AA 0 m 0 cc' true false false _ (w.heap.size + 1) _ rfl (HB.out.stored _ _ _ _ _ _ _) ⟨⟨_, _, _, _, _, _, _, _, _, _, _, rfl, fun _ => HE.out ▸ HM.out.2.2⟩, HB.out.stored_below _ _ _ _ _ _ _⟩
 have hi1 : (k : Int) < (t.f3.length : Int) := by omega
 have hi0 : (0 : Int) ≤ (k : Int) := by omega
 have hbe := HX.out.ob.be
 obtain ⟨ad, P2, P3, p2, p3, hA, na, ca, cb, cc, cd⟩ := node_at HN.out.2.2.1 k hi
 obtain ⟨ad', Z2, Z3, z2, z3, hA', nz, za, zb, zc, zd⟩ := node_at HN.out.2.2.1 0 (by omega)
 obtain ⟨an, hAn, nc⟩ := Kd.at_string HN.out.1 k (by omega) (by have := HL.out.2.2.1; omega)
 simp only [Int.toNat_natCast] at nc
 have ca := pw_cell_below hbe ca
 have cb := pw_cell_below hbe cb
 have cc := pw_cell_below hbe cc
 have cd := pw_cell_below hbe cd
 have zd := pw_cell_below hbe zd
 obtain ⟨nm, hnm⟩ : ∃ nm, rdOf ByteArray.empty t.f2 (k : Int) = nm := ⟨_, rfl⟩
 rw [hnm] at nc
 have HNC := Aside0.mk nc
 clear hbe hnm nc
 subst hAn
 have hkk2 := HL.out.2.2.2.1 k hi
 have hl0 := HL.out.2.2.2.2 (by omega)
 have HRX := Aside0.mk (show t.f3[k].f0 = 5 → t.f3[k].f3.length = l0 → Rect t l0 (k + 1) from fun e1 e2 j hj hjk => by
  by_cases q : j < k
  ·exact HM.out.2.2 j hj q
  have : j = k := by omega
  subst this
  exact ⟨e1, e2⟩)
 have HNA := Aside0.mk na
 have hkl : t.f3[k].f3.length ≤ 65536 := hkk2.2
 rw [hl0] at zd
 generalize t.f3[k] = x at *
 subst hA
 injection hA' with hA'
 subst hA'
 rw [← add_next ad _ 1 (by decide)] at cb
 rw [← add_next ad _ 2 (by decide)] at cc
 rw [← add_next ad _ 3 (by decide)] at cd
 rw [← add_next ad _ 3 (by decide)] at zd
 simp only [Nat.add_zero] at ca
 clear nz za zb zc hl0 hkk2 na
 have hp0 : 0 < t.f3.length := by omega
 have hp1 : (0 : Int) < (t.f3.length : Int) := by omega
 have zd2 := zd
 simp only [Nat.zero_mul, Addr.add_zero'] at zd2
 go_upto_region 5 with fail
 have hbx := heap_alloc_new wr (.cells #[.int .i64 x.f0, .string x.f1, .slice P2 x.f2.length p2, .slice P3 x.f3.length p3] 25)
 have HX5 := Aside0.mk (HX.out.alloc (.cells #[.int .i64 x.f0, .string x.f1, .slice P2 x.f2.length p2, .slice P3 x.f3.length p3] 25))
 have hbl := below_alloc (Below.refl wr.heap.size wr) (.cells #[.int .i64 x.f0, .string x.f1, .slice P2 x.f2.length p2, .slice P3 x.f3.length p3] 25)
 have zd := pw_cell_below hbl zd
 have zd2 := pw_cell_below hbl zd2
 clear m0 m1 m2 m3 g0 g1 g2 g3 gf ca cb cc cd hbl HX
 generalize wr.alloc (.cells #[.int .i64 x.f0, .string x.f1, .slice P2 x.f2.length p2, .slice P3 x.f3.length p3] 25) = W5 at *
 generalize wr.heap.size = b5 at *
 have q0 := blk_cell hbx 0
 have q3 := blk_cell hbx 3
 obtain ⟨⟨m0, m1, m2, m3⟩, ⟨g0, g1, g2, g3⟩, gf⟩ := HX5.out.cells
 have HBX := Aside0.mk hbx
 clear hbx
 by_cases h5 : x.f0 = 5
 rotate_left
 ·have y1 : (x.f0 != 5) = true := bne_iff_ne.mpr h5
  clear h5 HRX
  go_quiet (fail)
  obtain ⟨r0, r1, r2, r3, r4, r5, r6, rf⟩ := HX5.out.rcells
  go_wp2_with fail
  refine ansEnd18 _ 0 ⟨#[]⟩ none none 0 0 0 0 false true false _ (w.heap.size + 1) _ rfl ((HX5.out.drewN _).stored _ _ _ _ _ _ _) ⟨⟨_, _, _, _, _, _, _, _, _, _, _, rfl, fun h => by cases h⟩, (HX5.out.drewN _).stored_below _ _ _ _ _ _ _⟩
 have y1 : (x.f0 != 5) = false := bne_eq_false_iff_eq.mpr h5
 by_cases hll : x.f3.length = l0
 rotate_left
 ·have y2 : ((x.f3.length : Int) != (l0 : Int)) = true := bne_iff_ne.mpr (by omega)
  clear h5 hll HRX
  go_quiet (fail)
  obtain ⟨r0, r1, r2, r3, r4, r5, r6, rf⟩ := HX5.out.rcells
  go_wp2_with fail
  refine ansEnd18 _ 0 ⟨#[]⟩ none none 0 0 0 0 false true false _ (w.heap.size + 1) _ rfl ((HX5.out.drewN _).stored _ _ _ _ _ _ _) ⟨⟨_, _, _, _, _, _, _, _, _, _, _, rfl, fun h => by cases h⟩, (HX5.out.drewN _).stored_below _ _ _ _ _ _ _⟩
 have y2 : ((x.f3.length : Int) != (l0 : Int)) = false := bne_eq_false_iff_eq.mpr (by omega)
 have HR1 := Aside0.mk (HRX.out h5 hll)
 have HLL := Aside0.mk hll
 clear h5 hll HRX
 go_quiet (fail)
 have HX6 := Aside0.mk (HX5.out.drewN nq)
 have HB6 := Aside0.mk ((pw_below_drewN (Below.refl W5.heap.size W5) nq).block _ (blk_lt HBX.out) |>.trans HBX.out)
 clear m0 m1 m2 m3 g0 g1 g2 g3 gf q0 q3 zd zd2 y1 y2 HX5 HBX
 generalize W5.drewN nq = W6 at *
 have q3 := blk_cell HB6.out 3
 go_wp2_with fail
 clear q3
 go_loopg [36] x.f3.length (fun kq v36 w' => ∃ (i m' : Nat), v36 = .int .i64 (i : Int) ∧ kq + i = x.f3.length ∧ Aside0 (Gs w w' t (some an) (some ad) c2 c3 m' (k * 131072 + 2 * i) ∧ (k = 0 → m' = i) ∧ (0 < k → m' = x.f3.length)))
 case atStart => exact ⟨0, m, rfl, by omega, ⟨⟨_, _, _, HX6.out.up (by omega)⟩, HM.out.1, fun h => (HM.out.2.1 h).trans HLL.out.symm⟩⟩
 obtain ⟨i, m', rfl, hki, HT⟩ := hrel
 obtain ⟨⟨kv2, nv2, cv2, hx⟩, hm0, hm1⟩ := HT.out
 have HY := Aside0.mk hx
 have HM2 := Aside0.mk (And.intro hm0 hm1)
 obtain ⟨g2', rfl⟩ : ∃ g, g = gk := ⟨_, rfl⟩
 clear hx HT
 by_cases hii : i < x.f3.length
 rotate_left
 ·have hii1 : ¬ (i : Int) < (x.f3.length : Int) := by omega
  have hki2 : i = x.f3.length := by omega
  go_wp2_with fail
  go_roundg (g1' - 1)
  case measure => omega
  case rel => exact ⟨k + 1, m', rfl, by omega, ⟨⟨_, _, _, HY.out.up (by omega)⟩, fun h => by omega, fun _ => by
   by_cases hk0 : k = 0
   ·rw [HM2.out.1 hk0, hki2, HLL.out]
   ·rw [HM2.out.2 (by omega), HLL.out], HR1.out⟩⟩
 have hii1 : (i : Int) < (x.f3.length : Int) := by omega
 have hii0 : (0 : Int) ≤ (i : Int) := by omega
 obtain ⟨ad3, Q2, Q3, q2', q3', hA3, ny, ya, yb, yc, yd⟩ := node_at HNA.out.2.2.1 i hii
 have hbe := HY.out.ob.be
 have ya := pw_cell_below hbe ya
 have yb := pw_cell_below hbe yb
 have yc := pw_cell_below hbe yc
 have yd := pw_cell_below hbe yd
 generalize x.f3[i] = y at *
 subst hA3
 rw [← add_next ad3 _ 1 (by decide)] at yb
 rw [← add_next ad3 _ 2 (by decide)] at yc
 rw [← add_next ad3 _ 3 (by decide)] at yd
 simp only [Nat.add_zero] at ya
 clear hbe ny
 go_upto_region 10 with fail
 clear ya yb yc yd
 have HZ := Aside0.mk (Gy.new HY.out y Q2 Q3 q2' q3')
 have hsz := HY.out.sz
 clear HY
 generalize wr.alloc (.cells #[.int .i64 y.f0, .string y.f1, .slice Q2 y.f2.length q2', .slice Q3 y.f3.length q3'] 25) = W9 at *
 generalize wr.heap.size = b7 at *
 go_upto_if 42 with fail
 go_cut [] (fun wc => Aside0 (∃ (mm sb cap : Nat) (nv0 cv0 : Nat → Value), i < mm ∧ mm ≤ 65536 ∧ ((k = 0 → mm = i + 1) ∧ (0 < k → mm = x.f3.length)) ∧ Gy w wc t (some an) (some ad) c2 c3 (.slice (some ⟨sb, 0, none⟩) mm cap) mm (k * 131072 + 2 * i) nv0 cv0 b7 y Q2 Q3 q2' q3'))
 case first =>
  by_cases hk0 : k = 0
  rotate_left
  ·have y3 : ((k : Int) == 0) = false := beq_eq_false_iff_ne.mpr (by omega)
   have hmi := hm1 (by omega)
   have hmp : i < m' := by omega
   obtain ⟨sb, cap, hkv, _⟩ : ∃ b c, kv2 = .slice (some ⟨b, 0, none⟩) m' c ∧ True := by
    obtain ⟨xs, hs, _⟩ := HZ.out.gx.ou.sp
    obtain ⟨b, c, h, _⟩ := own_form hs (by omega)
    exact ⟨b, c, h, trivial⟩
   subst hkv
   have hm3 : m' ≤ 65536 := by omega
   have HMR := Aside0.mk (show (k = 0 → m' = i + 1) ∧ (0 < k → m' = x.f3.length) from ⟨fun h => absurd h hk0, fun _ => hmi⟩)
   clear hm0 hm1 hmi hk0
   go_wp2_with fail
   go_meet
   case rel => exact ⟨⟨_, _, _, _, _, hmp, hm3, HMR.out, HZ.out⟩⟩
  have y3 : ((k : Int) == 0) = true := beq_iff_eq.mpr (by omega)
  have hmi := hm0 hk0
  obtain ⟨xs, hs, hx⟩ := HZ.out.gx.ou.sp
  have HXS := Aside0.mk (And.intro hs hx)
  obtain ⟨AA, cc9, hkv⟩ := own_slice hs
  subst hkv
  have HMI := Aside0.mk (show m' = i from hmi)
  have hlm : (m' + 1) * 72 ≤ 140737488355328 := by omega
  obtain ⟨⟨m0, m1, m2, m3⟩, ⟨g0, g1, g2, g3⟩, gf⟩ := HZ.out.gx.cells
  have HK0 := Aside0.mk hk0
  clear hm0 hm1 hs hx hmi hk0
  go_wp2_with ((with_reducible refine gate_builtin (b := .append) (xs := #[.tmp 44, .tmp 46]) rfl ?_); at_builtin; (refine print_append_cells (w.heap.size + 2) rfl (.tmp 44) (.tmp 46) 23 25 (.agg #[(.int .i64 0), (.string ⟨#[]⟩), (.slice none 0 0), (.slice none 0 0)]) 4 72 rfl Tryz.underlying23 info25 rfl (by decide) (by decide) (.slice AA m' cc9) m' xs [.int .i64 6, .string ⟨#[]⟩, .slice none 0 0, .slice none 0 0] rfl rfl rfl ?aA ?aO (Below.refl _ _) ?aS ?aL ?_; (case aA => simp [Value.oneCell']); (case aO => exact HXS.out.1); (case aS => have := HZ.out.gx.sz; omega); (case aL => exact hlm); intro v1 w1 ho hbl hg hat; obtain ⟨sb, cap, hv1, _⟩ := own_form ho (by omega); subst hv1; have HP := Aside0.mk (HZ.out.push xs HXS.out.1 HXS.out.2 ho hbl hg hat); have hbox := (hg.block _ (blk_lt HZ.out.gx.ou.box) (fun e => HZ.out.gx.ou.ks e.symm)).trans HZ.out.gx.ou.box; have hbk := blk_cell hbox 3; have hbf := blk_frozen hbox; clear ho hbl hg hat hbox m0 m1 m2 m3 g0 g1 g2 g3 gf))
  have hmp : i < m' + 1 := by have := HMI.out; omega
  have hm3 : m' + 1 ≤ 65536 := by have := HMI.out; omega
  have HMR := Aside0.mk (show i < m' + 1 ∧ m' + 1 ≤ 65536 ∧ ((k = 0 → m' + 1 = i + 1) ∧ (0 < k → m' + 1 = x.f3.length)) from ⟨hmp, hm3, fun h => by rw [HMI.out], fun h => absurd HK0.out (by omega)⟩)
  clear HMI hlm HK0 hmp hm3
  go_meet
  case rel => exact ⟨⟨_, _, _, _, _, HMR.out.1, HMR.out.2.1, HMR.out.2.2, HP.out⟩⟩
 clear HZ hm0 hm1
 obtain ⟨⟨mm, sb, cap, nv0, cv0, hmp, hm3, hMR, hz0⟩⟩ := hcut
 have HMR := Aside0.mk hMR
 have HZ := Aside0.mk hz0
 clear hMR hz0
 go_upto_region 12 with fail
 go_cut [] (fun wd => Aside0 (∃ nv1 : Nat → Value, Gy w wd t (some an) (some ad) c2 c3 (.slice (some ⟨sb, 0, none⟩) mm cap) mm (k * 131072 + 2 * i + 1) nv1 cv0 b7 y Q2 Q3 q2' q3'))
 case first =>
  have hkn1 : (k : Int) < (t.f2.length : Int) := by have := HL.out.2.2.1; omega
  have hii2 : (i : Int) < (mm : Int) := by omega
  have HJ := Aside0.mk HZ.out.drew
  refine wp_region_held_drew (S := fun wz => Rd w wz t (some an) (some ad) c2 c3 (.slice (some ⟨sb, 0, none⟩) mm cap) b7 y Q2 Q3 q2' q3' (an.add k) nm) (by kernel_rfl) (HJ.out.rd HNC.out) (fun hHeld => ?_)
  generalize wc.drew = W11 at *
  clear HZ
  refine tkH (i := 0) (by simp only [gT, gS, gZ]; rfl) (by kernel_rfl) (by exact fun _ _ _ h => h) (.inl ⟨by rfl, fun wz hSw => by obtain ⟨d1, d2, d3, d4, d5, d6, d7⟩ := Rd.cells hSw; go_simp <;> with_reducible rfl⟩) hHeld ?_
  (try simp only [aP, aN, sT, sZ, sS])
  refine tkH (i := 1) (by simp only [gT, gS, gZ]; rfl) (by kernel_rfl) (by exact fun _ _ _ h => h) (.inl ⟨by rfl, fun wz hSw => by obtain ⟨d1, d2, d3, d4, d5, d6, d7⟩ := Rd.cells hSw; go_simp <;> with_reducible rfl⟩) hHeld ?_
  (try simp only [aP, aN, sT, sZ, sS])
  refine tkH (i := 2) (by simp only [gT, gS, gZ]; rfl) (by kernel_rfl) (by exact fun _ _ _ h => h) (.inl ⟨by rfl, fun wz hSw => by obtain ⟨d1, d2, d3, d4, d5, d6, d7⟩ := Rd.cells hSw; go_simp <;> with_reducible rfl⟩) hHeld ?_
  (try simp only [aP, aN, sT, sZ, sS])
  refine tkH (i := 3) (by simp only [gT, gS, gZ]; rfl) (by kernel_rfl) (by exact fun _ _ _ h => h) (.inl ⟨by rfl, fun wz hSw => by obtain ⟨d1, d2, d3, d4, d5, d6, d7⟩ := Rd.cells hSw; go_simp <;> with_reducible rfl⟩) hHeld ?_
  (try simp only [aP, aN, sT, sZ, sS])
  refine tkH (i := 4) (by simp only [gT, gS, gZ]; rfl) (by kernel_rfl) (by exact fun _ _ _ h => h) (.inl ⟨by rfl, fun wz hSw => by obtain ⟨d1, d2, d3, d4, d5, d6, d7⟩ := Rd.cells hSw; go_simp <;> with_reducible rfl⟩) hHeld ?_
  (try simp only [aP, aN, sT, sZ, sS])
  refine tkH (i := 5) (by simp only [gT, gS, gZ]; rfl) (by kernel_rfl) (by exact fun _ _ _ h => h) (.inl ⟨by rfl, fun wz hSw => by obtain ⟨d1, d2, d3, d4, d5, d6, d7⟩ := Rd.cells hSw; go_simp <;> with_reducible rfl⟩) hHeld ?_
  (try simp only [aP, aN, sT, sZ, sS])
  refine tkH (i := 6) (by simp only [gT, gS, gZ]; rfl) (by kernel_rfl) (by exact fun _ _ _ h => h) (.inl ⟨by rfl, fun wz hSw => by obtain ⟨d1, d2, d3, d4, d5, d6, d7⟩ := Rd.cells hSw; go_simp <;> with_reducible rfl⟩) hHeld ?_
  (try simp only [aP, aN, sT, sZ, sS])
  refine tkH (i := 7) (by simp only [gT, gS, gZ]; rfl) (by kernel_rfl) (by exact fun _ _ _ h => h) (.inl ⟨by rfl, fun wz hSw => by obtain ⟨d1, d2, d3, d4, d5, d6, d7⟩ := Rd.cells hSw; go_simp <;> with_reducible rfl⟩) hHeld ?_
  (try simp only [aP, aN, sT, sZ, sS])
  refine tkH (i := 9) (by simp only [gT, gS, gZ]; rfl) (by kernel_rfl) (by exact fun _ _ _ h => h) (.inl ⟨by rfl, fun wz hSw => by obtain ⟨d1, d2, d3, d4, d5, d6, d7⟩ := Rd.cells hSw; go_simp <;> with_reducible rfl⟩) hHeld ?_
  (try simp only [aP, aN, sT, sZ, sS])
  refine tkH (i := 10) (by simp only [gT, gS, gZ]; rfl) (by kernel_rfl) (by exact fun _ _ _ h => h) (.inl ⟨by rfl, fun wz hSw => by obtain ⟨d1, d2, d3, d4, d5, d6, d7⟩ := Rd.cells hSw; go_simp <;> with_reducible rfl⟩) hHeld ?_
  (try simp only [aP, aN, sT, sZ, sS])
  refine tkH (i := 11) (by simp only [gT, gS, gZ]; rfl) (by kernel_rfl) (by exact fun _ _ _ h => h) (.inl ⟨by rfl, fun wz hSw => by obtain ⟨d1, d2, d3, d4, d5, d6, d7⟩ := Rd.cells hSw; go_simp <;> with_reducible rfl⟩) hHeld ?_
  (try simp only [aP, aN, sT, sZ, sS])
  refine tkH (i := 12) (by simp only [gT, gS, gZ]; rfl) (by kernel_rfl) (by exact fun _ _ _ h => h) (.inl ⟨by rfl, fun wz hSw => by obtain ⟨d1, d2, d3, d4, d5, d6, d7⟩ := Rd.cells hSw; go_simp <;> with_reducible rfl⟩) hHeld ?_
  (try simp only [aP, aN, sT, sZ, sS])
  refine tkH (i := 13) (by simp only [gT, gS, gZ]; rfl) (by kernel_rfl) (by exact fun _ _ _ h => h) (.inl ⟨by rfl, fun wz hSw => by obtain ⟨d1, d2, d3, d4, d5, d6, d7⟩ := Rd.cells hSw; go_simp <;> with_reducible rfl⟩) hHeld ?_
  (try simp only [aP, aN, sT, sZ, sS])
  refine wpAnyH_ready (rs := [8, 14]) (by kernel_rfl) (by simp) ?_
  refine AllReadyH.cons (o := ?_) ?_ (fun K hK => ?_) ?_
  rotate_left 1
  ·(simp only [gT, gS, gZ]; rfl)
  ·have r1 := (HJ.out.spine hmp).1
   go_simp
   clear r1
   refine hK.out _ _ (HJ.out.rd HNC.out) (fun hHeld2 => ?_)
   clear hK K hHeld
   have hHeld := hHeld2
   clear hHeld2
   (try simp only [aP, aN, sT, sZ, sS])
   refine wpAnyH_ready (rs := [14]) (by kernel_rfl) (by simp) ?_
   refine AllReadyH.cons (o := ?_) ?_ (fun K hK => ?_) ?_
   rotate_left 1
   ·(simp only [gT, gS, gZ]; rfl)
   ·go_simp
    have HNB := Aside0.mk (heap_alloc_new W11 (.cells #[.string nm] 9))
    have HJ := Aside0.mk (HJ.out.alloc (.cells #[.string nm] 9))
    refine hK.out _ _ (HJ.out.rd HNC.out) (fun hHeld2 => ?_)
    clear hK K hHeld
    have hHeld := hHeld2
    clear hHeld2
    (try simp only [aP, aN, sT, sZ, sS])
    refine wpAnyH_ready (rs := [15]) (by kernel_rfl) (by simp) ?_
    refine AllReadyH.cons (o := ?_) ?_ (fun K hK => ?_) ?_
    rotate_left 1
    ·(simp only [gT, gS, gZ]; rfl)
    ·obtain ⟨n8, ys8, hn8, ho0⟩ := HJ.out.gx.ou.nr i hmp
     refine step_append_cells_at (w.heap.size + 2) (by rfl) (.tmp 57) (.tmp 63) 22 9 (.string ⟨#[]⟩) 1 16 rfl Tryz.underlying22 info9 rfl (by decide) (by decide) (nv0 i) n8 ys8 [.string nm] W11.heap.size rfl rfl rfl HNB.out (by simp [Value.oneCell']) ho0 (by have := HJ.out.gx.sz; omega) (by omega) ?_
     intro b8 c8 w8 ho8 hg8 hb8
     have H7 := Aside0.mk (HJ.out.midn hmp hg8 HNC.out)
     obtain ⟨nv8, h8⟩ := HJ.out.nset hmp (by omega) ho8 hg8 hb8
     have H8 := Aside0.mk h8
     clear h8 ho8 hg8 hb8 hn8 ho0 HJ
     refine hK.out _ _ H7.out.1 (fun hHeld2 => ?_)
     clear hK K hHeld
     have hHeld := hHeld2
     clear hHeld2
     (try simp only [aP, aN, sT, sZ, sS])
     refine tkH (i := 16) (by simp only [gT, gS, gZ]; rfl) (by kernel_rfl) (by exact fun _ _ _ h => h) (.inl ⟨by rfl, fun wz hSw => by obtain ⟨d1, d2, d3, d4, d5, d6, d7⟩ := Rd.cells hSw; go_simp <;> with_reducible rfl⟩) hHeld ?_
     (try simp only [aP, aN, sT, sZ, sS])
     refine tkH (i := 17) (by simp only [gT, gS, gZ]; rfl) (by kernel_rfl) (by exact fun _ _ _ h => h) (.inl ⟨by rfl, fun wz hSw => by obtain ⟨d1, d2, d3, d4, d5, d6, d7⟩ := Rd.cells hSw; go_simp <;> with_reducible rfl⟩) hHeld ?_
     (try simp only [aP, aN, sT, sZ, sS])
     refine wpAnyH_ready (rs := [18]) (by kernel_rfl) (by simp) ?_
     refine AllReadyH.cons (o := ?_) ?_ (fun K hK => ?_) ?_
     rotate_left 1
     ·(simp only [gT, gS, gZ]; rfl)
     ·obtain ⟨_, r1, r2⟩ := H7.out
      go_simp
      clear r1 r2
      refine hK.out _ _ (H8.out.rd HNC.out) (fun hHeld2 => ?_)
      clear hK K hHeld
      have hHeld := hHeld2
      clear hHeld2
      (try simp only [aP, aN, sT, sZ, sS])
      refine wpAnyH_done (by kernel_rfl) ?_ _
      clear H7
      go_wp2_with fail
      go_meet
      case rel => exact ⟨⟨_, H8.out⟩⟩
     exact AllReadyH.nil
    exact AllReadyH.nil
   exact AllReadyH.nil
  refine AllReadyH.cons (o := ?_) ?_ (fun K hK => ?_) ?_
  rotate_left 1
  ·(simp only [gT, gS, gZ]; rfl)
  ·go_simp
   have HNB := Aside0.mk (heap_alloc_new W11 (.cells #[.string nm] 9))
   have HJ := Aside0.mk (HJ.out.alloc (.cells #[.string nm] 9))
   refine hK.out _ _ (HJ.out.rd HNC.out) (fun hHeld2 => ?_)
   clear hK K hHeld
   have hHeld := hHeld2
   clear hHeld2
   (try simp only [aP, aN, sT, sZ, sS])
   refine wpAnyH_ready (rs := [8]) (by kernel_rfl) (by simp) ?_
   refine AllReadyH.cons (o := ?_) ?_ (fun K hK => ?_) ?_
   rotate_left 1
   ·(simp only [gT, gS, gZ]; rfl)
   ·have r1 := (HJ.out.spine hmp).1
    go_simp
    clear r1
    refine hK.out _ _ (HJ.out.rd HNC.out) (fun hHeld2 => ?_)
    clear hK K hHeld
    have hHeld := hHeld2
    clear hHeld2
    (try simp only [aP, aN, sT, sZ, sS])
    refine wpAnyH_ready (rs := [15]) (by kernel_rfl) (by simp) ?_
    refine AllReadyH.cons (o := ?_) ?_ (fun K hK => ?_) ?_
    rotate_left 1
    ·(simp only [gT, gS, gZ]; rfl)
    ·obtain ⟨n8, ys8, hn8, ho0⟩ := HJ.out.gx.ou.nr i hmp
     refine step_append_cells_at (w.heap.size + 2) (by rfl) (.tmp 57) (.tmp 63) 22 9 (.string ⟨#[]⟩) 1 16 rfl Tryz.underlying22 info9 rfl (by decide) (by decide) (nv0 i) n8 ys8 [.string nm] W11.heap.size rfl rfl rfl HNB.out (by simp [Value.oneCell']) ho0 (by have := HJ.out.gx.sz; omega) (by omega) ?_
     intro b8 c8 w8 ho8 hg8 hb8
     have H7 := Aside0.mk (HJ.out.midn hmp hg8 HNC.out)
     obtain ⟨nv8, h8⟩ := HJ.out.nset hmp (by omega) ho8 hg8 hb8
     have H8 := Aside0.mk h8
     clear h8 ho8 hg8 hb8 hn8 ho0 HJ
     refine hK.out _ _ H7.out.1 (fun hHeld2 => ?_)
     clear hK K hHeld
     have hHeld := hHeld2
     clear hHeld2
     (try simp only [aP, aN, sT, sZ, sS])
     refine tkH (i := 16) (by simp only [gT, gS, gZ]; rfl) (by kernel_rfl) (by exact fun _ _ _ h => h) (.inl ⟨by rfl, fun wz hSw => by obtain ⟨d1, d2, d3, d4, d5, d6, d7⟩ := Rd.cells hSw; go_simp <;> with_reducible rfl⟩) hHeld ?_
     (try simp only [aP, aN, sT, sZ, sS])
     refine tkH (i := 17) (by simp only [gT, gS, gZ]; rfl) (by kernel_rfl) (by exact fun _ _ _ h => h) (.inl ⟨by rfl, fun wz hSw => by obtain ⟨d1, d2, d3, d4, d5, d6, d7⟩ := Rd.cells hSw; go_simp <;> with_reducible rfl⟩) hHeld ?_
     (try simp only [aP, aN, sT, sZ, sS])
     refine wpAnyH_ready (rs := [18]) (by kernel_rfl) (by simp) ?_
     refine AllReadyH.cons (o := ?_) ?_ (fun K hK => ?_) ?_
     rotate_left 1
     ·(simp only [gT, gS, gZ]; rfl)
     ·obtain ⟨_, r1, r2⟩ := H7.out
      go_simp
      clear r1 r2
      refine hK.out _ _ (H8.out.rd HNC.out) (fun hHeld2 => ?_)
      clear hK K hHeld
      have hHeld := hHeld2
      clear hHeld2
      (try simp only [aP, aN, sT, sZ, sS])
      refine wpAnyH_done (by kernel_rfl) ?_ _
      clear H7
      go_wp2_with fail
      go_meet
      case rel => exact ⟨⟨_, H8.out⟩⟩
     exact AllReadyH.nil
    exact AllReadyH.nil
   exact AllReadyH.nil
  exact AllReadyH.nil
 clear HZ
 obtain ⟨⟨nv1, hz1⟩⟩ := hcut
 have hii2 : (i : Int) < (mm : Int) := by omega
 go_upto_region 13 with fail
 refine wp_region_held_drew (S := fun _ => True) (by kernel_rfl) trivial (fun hHeld => ?_)
 have HD := Aside0.mk hz1.drew
 generalize wc.drew = WD at *
 clear hz1
 refine wpAnyH_ready (rs := [0]) (by kernel_rfl) (by simp) ?_
 refine AllReadyH.cons (o := ?_) ?_ (fun K hK => ?_) ?_
 rotate_left 1
 ·(simp only [gT, gS, gZ]; rfl)
 ·go_simp
  have HA := Aside0.mk (And.intro (heap_alloc_new WD (.cells #[.bool false] 4)) (below_alloc (Below.refl WD.heap.size WD) (.cells #[.bool false] 4)))
  refine hK.out _ _ trivial (fun hHeld2 => ?_)
  clear hK K hHeld
  have hHeld := hHeld2
  clear hHeld2
  (try simp only [aP, aN, sT, sZ, sS])
  generalize WD.alloc (.cells #[.bool false] 4) = WA at *
  refine wpAnyH_ready (rs := [1, 2]) (by kernel_rfl) (by simp) ?_
  refine AllReadyH.cons (o := ?_) ?_ (fun K hK => ?_) ?_
  rotate_left 1
  ·(simp only [gT, gS, gZ]; rfl)
  ·obtain ⟨e0, eb⟩ := HA.out
   have e1 := blk_cell e0 0
   have f1 := blk_frozen e0
   go_simp
   have HA := Aside0.mk (And.intro (blk_set e0 0 (.bool true)) (below_set eb (g := WD.heap.size) (j := 0) (v := .bool true) (Nat.le_refl _)))
   simp only [List.setIfInBounds_toArray, List.set_cons_zero] at HA
   clear e0 e1 f1 eb
   refine hK.out _ _ trivial (fun hHeld2 => ?_)
   clear hK K hHeld
   have hHeld := hHeld2
   clear hHeld2
   (try simp only [aP, aN, sT, sZ, sS])
   generalize WA.setCell ⟨WD.heap.size, 0, none⟩ (.bool true) = WA at *
   refine wpAnyH_ready (rs := [2]) (by kernel_rfl) (by simp) ?_
   refine AllReadyH.cons (o := ?_) ?_ (fun K hK => ?_) ?_
   rotate_left 1
   ·(simp only [gT, gS, gZ]; rfl)
   ·obtain ⟨e0, eb⟩ := HA.out
    have e1 := blk_cell e0 0
    have f1 := blk_frozen e0
    go_simp
    have HA := Aside0.mk (And.intro (blk_set e0 0 (.bool false)) (below_set eb (g := WD.heap.size) (j := 0) (v := .bool false) (Nat.le_refl _)))
    simp only [List.setIfInBounds_toArray, List.set_cons_zero] at HA
    clear e0 e1 f1 eb
    refine hK.out _ _ trivial (fun hHeld2 => ?_)
    clear hK K hHeld
    have hHeld := hHeld2
    clear hHeld2
    (try simp only [aP, aN, sT, sZ, sS])
    generalize WA.setCell ⟨WD.heap.size, 0, none⟩ (.bool false) = WA at *
    refine wpAnyH_ready (rs := [3]) (by kernel_rfl) (by simp) ?_
    refine AllReadyH.cons (o := ?_) ?_ (fun K hK => ?_) ?_
    rotate_left 1
    ·(simp only [gT, gS, gZ]; rfl)
    ·have e1 := blk_cell HA.out.1 0
     go_simp
     clear e1
     refine hK.out _ _ trivial (fun hHeld2 => ?_)
     clear hK K hHeld
     have hHeld := hHeld2
     clear hHeld2
     (try simp only [aP, aN, sT, sZ, sS])
     refine wpAnyH_done (by kernel_rfl) ?_ _
     have HJ := Aside0.mk (HD.out.later HA.out.2)
     clear HA HD
     clear hHeld
     go_upto_region 16 with fail
     have HJ := Aside0.mk HJ.out.drew
     obtain ⟨n9, ys9, hn9, ho9⟩ := HJ.out.gx.ou.cr i hmp
     obtain ⟨A9, c9, hcv⟩ := own_slice ho9
     rw [hcv] at ho9
     have HCV := Aside0.mk hcv
     have HO := Aside0.mk ho9
     clear hcv ho9
     refine wp_region_held_drew (S := fun wz => Rd w wz t (some an) (some ad) c2 c3 (.slice (some ⟨sb, 0, none⟩) mm cap) b7 y Q2 Q3 q2' q3' (an.add k) nm) (by kernel_rfl) (HJ.out.rd HNC.out) (fun hHeld => ?_)
     generalize WA.drew = W11 at *
     refine tkH (i := 0) (by simp only [gT, gS, gZ]; rfl) (by kernel_rfl) (by exact fun _ _ _ h => h) (.inl ⟨by rfl, fun wz hSw => by obtain ⟨d1, d2, d3, d4, d5, d6, d7⟩ := Rd.cells hSw; go_simp <;> with_reducible rfl⟩) hHeld ?_
     (try simp only [aP, aN, sT, sZ, sS])
     refine tkH (i := 1) (by simp only [gT, gS, gZ]; rfl) (by kernel_rfl) (by exact fun _ _ _ h => h) (.inl ⟨by rfl, fun wz hSw => by obtain ⟨d1, d2, d3, d4, d5, d6, d7⟩ := Rd.cells hSw; go_simp <;> with_reducible rfl⟩) hHeld ?_
     (try simp only [aP, aN, sT, sZ, sS])
     refine tkH (i := 2) (by simp only [gT, gS, gZ]; rfl) (by kernel_rfl) (by exact fun _ _ _ h => h) (.inl ⟨by rfl, fun wz hSw => by obtain ⟨d1, d2, d3, d4, d5, d6, d7⟩ := Rd.cells hSw; go_simp <;> with_reducible rfl⟩) hHeld ?_
     (try simp only [aP, aN, sT, sZ, sS])
     refine tkH (i := 3) (by simp only [gT, gS, gZ]; rfl) (by kernel_rfl) (by exact fun _ _ _ h => h) (.inl ⟨by rfl, fun wz hSw => by obtain ⟨d1, d2, d3, d4, d5, d6, d7⟩ := Rd.cells hSw; go_simp <;> with_reducible rfl⟩) hHeld ?_
     (try simp only [aP, aN, sT, sZ, sS])
     refine tkH (i := 4) (by simp only [gT, gS, gZ]; rfl) (by kernel_rfl) (by exact fun _ _ _ h => h) (.inl ⟨by rfl, fun wz hSw => by obtain ⟨d1, d2, d3, d4, d5, d6, d7⟩ := Rd.cells hSw; go_simp <;> with_reducible rfl⟩) hHeld ?_
     (try simp only [aP, aN, sT, sZ, sS])
     refine tkH (i := 5) (by simp only [gT, gS, gZ]; rfl) (by kernel_rfl) (by exact fun _ _ _ h => h) (.inl ⟨by rfl, fun wz hSw => by obtain ⟨d1, d2, d3, d4, d5, d6, d7⟩ := Rd.cells hSw; go_simp <;> with_reducible rfl⟩) hHeld ?_
     (try simp only [aP, aN, sT, sZ, sS])
     refine tkH (i := 6) (by simp only [gT, gS, gZ]; rfl) (by kernel_rfl) (by exact fun _ _ _ h => h) (.inl ⟨by rfl, fun wz hSw => by obtain ⟨d1, d2, d3, d4, d5, d6, d7⟩ := Rd.cells hSw; go_simp <;> with_reducible rfl⟩) hHeld ?_
     (try simp only [aP, aN, sT, sZ, sS])
     refine tkH (i := 7) (by simp only [gT, gS, gZ]; rfl) (by kernel_rfl) (by exact fun _ _ _ h => h) (.inl ⟨by rfl, fun wz hSw => by obtain ⟨d1, d2, d3, d4, d5, d6, d7⟩ := Rd.cells hSw; go_simp <;> with_reducible rfl⟩) hHeld ?_
     (try simp only [aP, aN, sT, sZ, sS])
     refine tkH (i := 9) (by simp only [gT, gS, gZ]; rfl) (by kernel_rfl) (by exact fun _ _ _ h => h) (.inl ⟨by rfl, fun wz hSw => by obtain ⟨d1, d2, d3, d4, d5, d6, d7⟩ := Rd.cells hSw; go_simp <;> with_reducible rfl⟩) hHeld ?_
     (try simp only [aP, aN, sT, sZ, sS])
     refine wpAnyH_ready (rs := [8, 10]) (by kernel_rfl) (by simp) ?_
     refine AllReadyH.cons (o := ?_) ?_ (fun K hK => ?_) ?_
     rotate_left 1
     ·(simp only [gT, gS, gZ]; rfl)
     ·have r1 := (HJ.out.spine hmp).2.1
      rw [HCV.out] at r1
      go_simp
      clear r1
      refine hK.out _ _ (HJ.out.rd HNC.out) (fun hHeld2 => ?_)
      clear hK K hHeld
      have hHeld := hHeld2
      clear hHeld2
      (try simp only [aP, aN, sT, sZ, sS])
      refine wpAnyH_ready (rs := [10]) (by kernel_rfl) (by simp) ?_
      refine AllReadyH.cons (o := ?_) ?_ (fun K hK => ?_) ?_
      rotate_left 1
      ·(simp only [gT, gS, gZ]; rfl)
      ·go_simp
       have HNB := Aside0.mk (heap_alloc_new W11 (.cells #[.int .i64 y.f0, .string y.f1, .slice Q2 y.f2.length q2', .slice Q3 y.f3.length q3'] 25))
       have HJ := Aside0.mk (HJ.out.alloc (.cells #[.int .i64 y.f0, .string y.f1, .slice Q2 y.f2.length q2', .slice Q3 y.f3.length q3'] 25))
       have HO := Aside0.mk (HO.out.alloc (.cells #[.int .i64 y.f0, .string y.f1, .slice Q2 y.f2.length q2', .slice Q3 y.f3.length q3'] 25))
       refine hK.out _ _ (HJ.out.rd HNC.out) (fun hHeld2 => ?_)
       clear hK K hHeld
       have hHeld := hHeld2
       clear hHeld2
       (try simp only [aP, aN, sT, sZ, sS])
       refine wpAnyH_ready (rs := [11]) (by kernel_rfl) (by simp) ?_
       refine AllReadyH.cons (o := ?_) ?_ (fun K hK => ?_) ?_
       rotate_left 1
       ·(simp only [gT, gS, gZ]; rfl)
       ·refine step_append_cells_at (w.heap.size + 2) (by rfl) (.tmp 90) (.tmp 92) 23 25 (.agg #[(.int .i64 0), (.string ⟨#[]⟩), (.slice none 0 0), (.slice none 0 0)]) 4 72 rfl Tryz.underlying23 info25 rfl (by decide) (by decide) (.slice A9 n9 c9) n9 ys9 [.int .i64 y.f0, .string y.f1, .slice Q2 y.f2.length q2', .slice Q3 y.f3.length q3'] W11.heap.size rfl rfl rfl HNB.out (by simp [Value.oneCell']) HO.out (by have := HJ.out.gx.sz; omega) (by omega) ?_
        intro b9 c99 w9 ho8 hg8 hb8
        rw [← HCV.out] at hg8 hb8
        have H7 := Aside0.mk (HJ.out.midk hmp hg8 HNC.out)
        obtain ⟨cv9, h8, hv9⟩ := HJ.out.kdset hmp (by omega) ho8 hg8 hb8
        have H8 := Aside0.mk (And.intro h8 hv9)
        clear h8 hv9 ho8 hg8 hb8 HJ HCV HO
        refine hK.out _ _ H7.out.1 (fun hHeld2 => ?_)
        clear hK K hHeld
        have hHeld := hHeld2
        clear hHeld2
        (try simp only [aP, aN, sT, sZ, sS])
        refine tkH (i := 12) (by simp only [gT, gS, gZ]; rfl) (by kernel_rfl) (by exact fun _ _ _ h => h) (.inl ⟨by rfl, fun wz hSw => by obtain ⟨d1, d2, d3, d4, d5, d6, d7⟩ := Rd.cells hSw; go_simp <;> with_reducible rfl⟩) hHeld ?_
        (try simp only [aP, aN, sT, sZ, sS])
        refine tkH (i := 13) (by simp only [gT, gS, gZ]; rfl) (by kernel_rfl) (by exact fun _ _ _ h => h) (.inl ⟨by rfl, fun wz hSw => by obtain ⟨d1, d2, d3, d4, d5, d6, d7⟩ := Rd.cells hSw; go_simp <;> with_reducible rfl⟩) hHeld ?_
        (try simp only [aP, aN, sT, sZ, sS])
        refine wpAnyH_ready (rs := [14]) (by kernel_rfl) (by simp) ?_
        refine AllReadyH.cons (o := ?_) ?_ (fun K hK => ?_) ?_
        rotate_left 1
        ·(simp only [gT, gS, gZ]; rfl)
        ·obtain ⟨_, r1, r2⟩ := H7.out
         go_simp
         clear r1 r2
         refine hK.out _ _ (H8.out.1.rd HNC.out) (fun hHeld2 => ?_)
         clear hK K hHeld
         have hHeld := hHeld2
         clear hHeld2
         (try simp only [aP, aN, sT, sZ, sS])
         refine wpAnyH_done (by kernel_rfl) ?_ _
         have H9 := Aside0.mk H8.out.1
         clear H7 H8
         generalize w9.setCell ⟨sb, i * 4 + 3, none⟩ (.slice (some ⟨b9, 0, none⟩) (n9 + 1) c99) = W14 at *
         clear hHeld
         go_wp2_with fail
         go_roundg (g2' - 1)
         case measure => omega
         case rel => exact ⟨i + 1, mm, rfl, by omega, ⟨⟨_, _, _, H9.out.gx.up (by omega)⟩, HMR.out.1, HMR.out.2⟩⟩
        exact AllReadyH.nil
       exact AllReadyH.nil
      exact AllReadyH.nil
     refine AllReadyH.cons (o := ?_) ?_ (fun K hK => ?_) ?_
     rotate_left 1
     ·(simp only [gT, gS, gZ]; rfl)
     ·go_simp
      have HNB := Aside0.mk (heap_alloc_new W11 (.cells #[.int .i64 y.f0, .string y.f1, .slice Q2 y.f2.length q2', .slice Q3 y.f3.length q3'] 25))
      have HJ := Aside0.mk (HJ.out.alloc (.cells #[.int .i64 y.f0, .string y.f1, .slice Q2 y.f2.length q2', .slice Q3 y.f3.length q3'] 25))
      have HO := Aside0.mk (HO.out.alloc (.cells #[.int .i64 y.f0, .string y.f1, .slice Q2 y.f2.length q2', .slice Q3 y.f3.length q3'] 25))
      refine hK.out _ _ (HJ.out.rd HNC.out) (fun hHeld2 => ?_)
      clear hK K hHeld
      have hHeld := hHeld2
      clear hHeld2
      (try simp only [aP, aN, sT, sZ, sS])
      refine wpAnyH_ready (rs := [8]) (by kernel_rfl) (by simp) ?_
      refine AllReadyH.cons (o := ?_) ?_ (fun K hK => ?_) ?_
      rotate_left 1
      ·(simp only [gT, gS, gZ]; rfl)
      ·have r1 := (HJ.out.spine hmp).2.1
       rw [HCV.out] at r1
       go_simp
       clear r1
       refine hK.out _ _ (HJ.out.rd HNC.out) (fun hHeld2 => ?_)
       clear hK K hHeld
       have hHeld := hHeld2
       clear hHeld2
       (try simp only [aP, aN, sT, sZ, sS])
       refine wpAnyH_ready (rs := [11]) (by kernel_rfl) (by simp) ?_
       refine AllReadyH.cons (o := ?_) ?_ (fun K hK => ?_) ?_
       rotate_left 1
       ·(simp only [gT, gS, gZ]; rfl)
       ·refine step_append_cells_at (w.heap.size + 2) (by rfl) (.tmp 90) (.tmp 92) 23 25 (.agg #[(.int .i64 0), (.string ⟨#[]⟩), (.slice none 0 0), (.slice none 0 0)]) 4 72 rfl Tryz.underlying23 info25 rfl (by decide) (by decide) (.slice A9 n9 c9) n9 ys9 [.int .i64 y.f0, .string y.f1, .slice Q2 y.f2.length q2', .slice Q3 y.f3.length q3'] W11.heap.size rfl rfl rfl HNB.out (by simp [Value.oneCell']) HO.out (by have := HJ.out.gx.sz; omega) (by omega) ?_
        intro b9 c99 w9 ho8 hg8 hb8
        rw [← HCV.out] at hg8 hb8
        have H7 := Aside0.mk (HJ.out.midk hmp hg8 HNC.out)
        obtain ⟨cv9, h8, hv9⟩ := HJ.out.kdset hmp (by omega) ho8 hg8 hb8
        have H8 := Aside0.mk (And.intro h8 hv9)
        clear h8 hv9 ho8 hg8 hb8 HJ HCV HO
        refine hK.out _ _ H7.out.1 (fun hHeld2 => ?_)
        clear hK K hHeld
        have hHeld := hHeld2
        clear hHeld2
        (try simp only [aP, aN, sT, sZ, sS])
        refine tkH (i := 12) (by simp only [gT, gS, gZ]; rfl) (by kernel_rfl) (by exact fun _ _ _ h => h) (.inl ⟨by rfl, fun wz hSw => by obtain ⟨d1, d2, d3, d4, d5, d6, d7⟩ := Rd.cells hSw; go_simp <;> with_reducible rfl⟩) hHeld ?_
        (try simp only [aP, aN, sT, sZ, sS])
        refine tkH (i := 13) (by simp only [gT, gS, gZ]; rfl) (by kernel_rfl) (by exact fun _ _ _ h => h) (.inl ⟨by rfl, fun wz hSw => by obtain ⟨d1, d2, d3, d4, d5, d6, d7⟩ := Rd.cells hSw; go_simp <;> with_reducible rfl⟩) hHeld ?_
        (try simp only [aP, aN, sT, sZ, sS])
        refine wpAnyH_ready (rs := [14]) (by kernel_rfl) (by simp) ?_
        refine AllReadyH.cons (o := ?_) ?_ (fun K hK => ?_) ?_
        rotate_left 1
        ·(simp only [gT, gS, gZ]; rfl)
        ·obtain ⟨_, r1, r2⟩ := H7.out
         go_simp
         clear r1 r2
         refine hK.out _ _ (H8.out.1.rd HNC.out) (fun hHeld2 => ?_)
         clear hK K hHeld
         have hHeld := hHeld2
         clear hHeld2
         (try simp only [aP, aN, sT, sZ, sS])
         refine wpAnyH_done (by kernel_rfl) ?_ _
         have H9 := Aside0.mk H8.out.1
         clear H7 H8
         generalize w9.setCell ⟨sb, i * 4 + 3, none⟩ (.slice (some ⟨b9, 0, none⟩) (n9 + 1) c99) = W14 at *
         clear hHeld
         go_wp2_with fail
         go_roundg (g2' - 1)
         case measure => omega
         case rel => exact ⟨i + 1, mm, rfl, by omega, ⟨⟨_, _, _, H9.out.gx.up (by omega)⟩, HMR.out.1, HMR.out.2⟩⟩
        exact AllReadyH.nil
       exact AllReadyH.nil
      exact AllReadyH.nil
     exact AllReadyH.nil
    exact AllReadyH.nil
   exact AllReadyH.nil
  refine AllReadyH.cons (o := ?_) ?_ (fun K hK => ?_) ?_
  rotate_left 1
  ·(simp only [gT, gS, gZ]; rfl)
  ·obtain ⟨e0, eb⟩ := HA.out
   have e1 := blk_cell e0 0
   have f1 := blk_frozen e0
   go_simp
   have HA := Aside0.mk (And.intro (blk_set e0 0 (.bool false)) (below_set eb (g := WD.heap.size) (j := 0) (v := .bool false) (Nat.le_refl _)))
   simp only [List.setIfInBounds_toArray, List.set_cons_zero] at HA
   clear e0 e1 f1 eb
   refine hK.out _ _ trivial (fun hHeld2 => ?_)
   clear hK K hHeld
   have hHeld := hHeld2
   clear hHeld2
   (try simp only [aP, aN, sT, sZ, sS])
   generalize WA.setCell ⟨WD.heap.size, 0, none⟩ (.bool false) = WA at *
   refine wpAnyH_ready (rs := [1]) (by kernel_rfl) (by simp) ?_
   refine AllReadyH.cons (o := ?_) ?_ (fun K hK => ?_) ?_
   rotate_left 1
   ·(simp only [gT, gS, gZ]; rfl)
   ·obtain ⟨e0, eb⟩ := HA.out
    have e1 := blk_cell e0 0
    have f1 := blk_frozen e0
    go_simp
    have HA := Aside0.mk (And.intro (blk_set e0 0 (.bool true)) (below_set eb (g := WD.heap.size) (j := 0) (v := .bool true) (Nat.le_refl _)))
    simp only [List.setIfInBounds_toArray, List.set_cons_zero] at HA
    clear e0 e1 f1 eb
    refine hK.out _ _ trivial (fun hHeld2 => ?_)
    clear hK K hHeld
    have hHeld := hHeld2
    clear hHeld2
    (try simp only [aP, aN, sT, sZ, sS])
    generalize WA.setCell ⟨WD.heap.size, 0, none⟩ (.bool true) = WA at *
    refine wpAnyH_ready (rs := [3]) (by kernel_rfl) (by simp) ?_
    refine AllReadyH.cons (o := ?_) ?_ (fun K hK => ?_) ?_
    rotate_left 1
    ·(simp only [gT, gS, gZ]; rfl)
    ·have e1 := blk_cell HA.out.1 0
     go_simp
     clear e1
     refine hK.out _ _ trivial (fun hHeld2 => ?_)
     clear hK K hHeld
     have hHeld := hHeld2
     clear hHeld2
     (try simp only [aP, aN, sT, sZ, sS])
     refine wpAnyH_done (by kernel_rfl) ?_ _
     have HJ := Aside0.mk (HD.out.later HA.out.2)
     clear HA HD
     clear hHeld
     go_upto_region 14 with fail
     have HJ := Aside0.mk HJ.out.drew
     obtain ⟨n9, ys9, hn9, ho9⟩ := HJ.out.gx.ou.cr i hmp
     obtain ⟨A9, c9, hcv⟩ := own_slice ho9
     rw [hcv] at ho9
     have HCV := Aside0.mk hcv
     have HO := Aside0.mk ho9
     clear hcv ho9
     refine wp_region_held_drew (S := fun wz => Rd w wz t (some an) (some ad) c2 c3 (.slice (some ⟨sb, 0, none⟩) mm cap) b7 y Q2 Q3 q2' q3' (an.add k) nm) (by kernel_rfl) (HJ.out.rd HNC.out) (fun hHeld => ?_)
     generalize WA.drew = W11 at *
     refine tkH (i := 0) (by simp only [gT, gS, gZ]; rfl) (by kernel_rfl) (by exact fun _ _ _ h => h) (.inl ⟨by rfl, fun wz hSw => by obtain ⟨d1, d2, d3, d4, d5, d6, d7⟩ := Rd.cells hSw; go_simp <;> with_reducible rfl⟩) hHeld ?_
     (try simp only [aP, aN, sT, sZ, sS])
     refine tkH (i := 1) (by simp only [gT, gS, gZ]; rfl) (by kernel_rfl) (by exact fun _ _ _ h => h) (.inl ⟨by rfl, fun wz hSw => by obtain ⟨d1, d2, d3, d4, d5, d6, d7⟩ := Rd.cells hSw; go_simp <;> with_reducible rfl⟩) hHeld ?_
     (try simp only [aP, aN, sT, sZ, sS])
     refine tkH (i := 2) (by simp only [gT, gS, gZ]; rfl) (by kernel_rfl) (by exact fun _ _ _ h => h) (.inl ⟨by rfl, fun wz hSw => by obtain ⟨d1, d2, d3, d4, d5, d6, d7⟩ := Rd.cells hSw; go_simp <;> with_reducible rfl⟩) hHeld ?_
     (try simp only [aP, aN, sT, sZ, sS])
     refine tkH (i := 3) (by simp only [gT, gS, gZ]; rfl) (by kernel_rfl) (by exact fun _ _ _ h => h) (.inl ⟨by rfl, fun wz hSw => by obtain ⟨d1, d2, d3, d4, d5, d6, d7⟩ := Rd.cells hSw; go_simp <;> with_reducible rfl⟩) hHeld ?_
     (try simp only [aP, aN, sT, sZ, sS])
     refine tkH (i := 4) (by simp only [gT, gS, gZ]; rfl) (by kernel_rfl) (by exact fun _ _ _ h => h) (.inl ⟨by rfl, fun wz hSw => by obtain ⟨d1, d2, d3, d4, d5, d6, d7⟩ := Rd.cells hSw; go_simp <;> with_reducible rfl⟩) hHeld ?_
     (try simp only [aP, aN, sT, sZ, sS])
     refine tkH (i := 6) (by simp only [gT, gS, gZ]; rfl) (by kernel_rfl) (by exact fun _ _ _ h => h) (.inl ⟨by rfl, fun wz hSw => by obtain ⟨d1, d2, d3, d4, d5, d6, d7⟩ := Rd.cells hSw; go_simp <;> with_reducible rfl⟩) hHeld ?_
     (try simp only [aP, aN, sT, sZ, sS])
     refine wpAnyH_ready (rs := [5, 8]) (by kernel_rfl) (by simp) ?_
     refine AllReadyH.cons (o := ?_) ?_ (fun K hK => ?_) ?_
     rotate_left 1
     ·(simp only [gT, gS, gZ]; rfl)
     ·have r1 := (HJ.out.spine hmp).2.1
      rw [HCV.out] at r1
      go_simp
      clear r1
      refine hK.out _ _ (HJ.out.rd HNC.out) (fun hHeld2 => ?_)
      clear hK K hHeld
      have hHeld := hHeld2
      clear hHeld2
      (try simp only [aP, aN, sT, sZ, sS])
      refine tkH (i := 7) (by simp only [gT, gS, gZ]; rfl) (by kernel_rfl) (by exact fun _ _ _ h => h) (.inl ⟨by rfl, fun wz hSw => by obtain ⟨d1, d2, d3, d4, d5, d6, d7⟩ := Rd.cells hSw; go_simp <;> with_reducible rfl⟩) hHeld ?_
      (try simp only [aP, aN, sT, sZ, sS])
      refine wpAnyH_ready (rs := [8]) (by kernel_rfl) (by simp) ?_
      refine AllReadyH.cons (o := ?_) ?_ (fun K hK => ?_) ?_
      rotate_left 1
      ·(simp only [gT, gS, gZ]; rfl)
      ·go_simp
       have HNB := Aside0.mk (heap_alloc_new W11 (.cells #[.int .i64 0, .string ⟨#[]⟩, .slice none 0 0, .slice none 0 0] 25))
       have HJ := Aside0.mk (HJ.out.alloc (.cells #[.int .i64 0, .string ⟨#[]⟩, .slice none 0 0, .slice none 0 0] 25))
       have HO := Aside0.mk (HO.out.alloc (.cells #[.int .i64 0, .string ⟨#[]⟩, .slice none 0 0, .slice none 0 0] 25))
       refine hK.out _ _ (HJ.out.rd HNC.out) (fun hHeld2 => ?_)
       clear hK K hHeld
       have hHeld := hHeld2
       clear hHeld2
       (try simp only [aP, aN, sT, sZ, sS])
       refine wpAnyH_ready (rs := [9]) (by kernel_rfl) (by simp) ?_
       refine AllReadyH.cons (o := ?_) ?_ (fun K hK => ?_) ?_
       rotate_left 1
       ·(simp only [gT, gS, gZ]; rfl)
       ·refine step_append_cells_at (w.heap.size + 2) (by rfl) (.tmp 74) (.tmp 77) 23 25 (.agg #[(.int .i64 0), (.string ⟨#[]⟩), (.slice none 0 0), (.slice none 0 0)]) 4 72 rfl Tryz.underlying23 info25 rfl (by decide) (by decide) (.slice A9 n9 c9) n9 ys9 [.int .i64 0, .string ⟨#[]⟩, .slice none 0 0, .slice none 0 0] W11.heap.size rfl rfl rfl HNB.out (by simp [Value.oneCell']) HO.out (by have := HJ.out.gx.sz; omega) (by omega) ?_
        intro b9 c99 w9 ho8 hg8 hb8
        rw [← HCV.out] at hg8 hb8
        have H7 := Aside0.mk (HJ.out.midk hmp hg8 HNC.out)
        obtain ⟨cv9, h8, hv9⟩ := HJ.out.kdset hmp (by omega) ho8 hg8 hb8
        have H8 := Aside0.mk (And.intro h8 hv9)
        clear h8 hv9 ho8 hg8 hb8 HJ HCV HO
        refine hK.out _ _ H7.out.1 (fun hHeld2 => ?_)
        clear hK K hHeld
        have hHeld := hHeld2
        clear hHeld2
        (try simp only [aP, aN, sT, sZ, sS])
        refine tkH (i := 10) (by simp only [gT, gS, gZ]; rfl) (by kernel_rfl) (by exact fun _ _ _ h => h) (.inl ⟨by rfl, fun wz hSw => by obtain ⟨d1, d2, d3, d4, d5, d6, d7⟩ := Rd.cells hSw; go_simp <;> with_reducible rfl⟩) hHeld ?_
        (try simp only [aP, aN, sT, sZ, sS])
        refine tkH (i := 11) (by simp only [gT, gS, gZ]; rfl) (by kernel_rfl) (by exact fun _ _ _ h => h) (.inl ⟨by rfl, fun wz hSw => by obtain ⟨d1, d2, d3, d4, d5, d6, d7⟩ := Rd.cells hSw; go_simp <;> with_reducible rfl⟩) hHeld ?_
        (try simp only [aP, aN, sT, sZ, sS])
        refine wpAnyH_ready (rs := [12]) (by kernel_rfl) (by simp) ?_
        refine AllReadyH.cons (o := ?_) ?_ (fun K hK => ?_) ?_
        rotate_left 1
        ·(simp only [gT, gS, gZ]; rfl)
        ·obtain ⟨_, r1, r2⟩ := H7.out
         go_simp
         clear r1 r2
         refine hK.out _ _ (H8.out.1.rd HNC.out) (fun hHeld2 => ?_)
         clear hK K hHeld
         have hHeld := hHeld2
         clear hHeld2
         (try simp only [aP, aN, sT, sZ, sS])
         refine wpAnyH_done (by kernel_rfl) ?_ _
         have H9 := H8
         clear H7 H8
         generalize w9.setCell ⟨sb, i * 4 + 3, none⟩ (.slice (some ⟨b9, 0, none⟩) (n9 + 1) c99) = W14 at *
         clear hHeld
         obtain ⟨⟨a0, a1, a2, a3, v0, v1, v2, v3⟩, vf⟩ := H9.out.1.elem hmp H9.out.2
         have HOB := Aside0.mk (show (cv9 i).ownBlock = some b9 from by rw [H9.out.2]; rfl)
         have hn90 : (0 : Int) ≤ (n9 : Int) := by omega
         have hn91 : (n9 : Int) < ((n9 + 1 : Nat) : Int) := by omega
         go_wp2_with fail
         go_roundg (g2' - 1)
         case measure => omega
         case rel => exact ⟨i + 1, mm, rfl, by omega, ⟨⟨_, _, _, ((((H9.out.1.kset hmp HOB.out _ _).kset hmp HOB.out _ _).kset hmp HOB.out _ _).kset hmp HOB.out _ _).gx.up (by omega)⟩, HMR.out.1, HMR.out.2⟩⟩
        exact AllReadyH.nil
       exact AllReadyH.nil
      exact AllReadyH.nil
     refine AllReadyH.cons (o := ?_) ?_ (fun K hK => ?_) ?_
     rotate_left 1
     ·(simp only [gT, gS, gZ]; rfl)
     ·go_simp
      have HNB := Aside0.mk (heap_alloc_new W11 (.cells #[.int .i64 0, .string ⟨#[]⟩, .slice none 0 0, .slice none 0 0] 25))
      have HJ := Aside0.mk (HJ.out.alloc (.cells #[.int .i64 0, .string ⟨#[]⟩, .slice none 0 0, .slice none 0 0] 25))
      have HO := Aside0.mk (HO.out.alloc (.cells #[.int .i64 0, .string ⟨#[]⟩, .slice none 0 0, .slice none 0 0] 25))
      refine hK.out _ _ (HJ.out.rd HNC.out) (fun hHeld2 => ?_)
      clear hK K hHeld
      have hHeld := hHeld2
      clear hHeld2
      (try simp only [aP, aN, sT, sZ, sS])
      refine wpAnyH_ready (rs := [5]) (by kernel_rfl) (by simp) ?_
      refine AllReadyH.cons (o := ?_) ?_ (fun K hK => ?_) ?_
      rotate_left 1
      ·(simp only [gT, gS, gZ]; rfl)
      ·have r1 := (HJ.out.spine hmp).2.1
       rw [HCV.out] at r1
       go_simp
       clear r1
       refine hK.out _ _ (HJ.out.rd HNC.out) (fun hHeld2 => ?_)
       clear hK K hHeld
       have hHeld := hHeld2
       clear hHeld2
       (try simp only [aP, aN, sT, sZ, sS])
       refine tkH (i := 7) (by simp only [gT, gS, gZ]; rfl) (by kernel_rfl) (by exact fun _ _ _ h => h) (.inl ⟨by rfl, fun wz hSw => by obtain ⟨d1, d2, d3, d4, d5, d6, d7⟩ := Rd.cells hSw; go_simp <;> with_reducible rfl⟩) hHeld ?_
       (try simp only [aP, aN, sT, sZ, sS])
       refine wpAnyH_ready (rs := [9]) (by kernel_rfl) (by simp) ?_
       refine AllReadyH.cons (o := ?_) ?_ (fun K hK => ?_) ?_
       rotate_left 1
       ·(simp only [gT, gS, gZ]; rfl)
       ·refine step_append_cells_at (w.heap.size + 2) (by rfl) (.tmp 74) (.tmp 77) 23 25 (.agg #[(.int .i64 0), (.string ⟨#[]⟩), (.slice none 0 0), (.slice none 0 0)]) 4 72 rfl Tryz.underlying23 info25 rfl (by decide) (by decide) (.slice A9 n9 c9) n9 ys9 [.int .i64 0, .string ⟨#[]⟩, .slice none 0 0, .slice none 0 0] W11.heap.size rfl rfl rfl HNB.out (by simp [Value.oneCell']) HO.out (by have := HJ.out.gx.sz; omega) (by omega) ?_
        intro b9 c99 w9 ho8 hg8 hb8
        rw [← HCV.out] at hg8 hb8
        have H7 := Aside0.mk (HJ.out.midk hmp hg8 HNC.out)
        obtain ⟨cv9, h8, hv9⟩ := HJ.out.kdset hmp (by omega) ho8 hg8 hb8
        have H8 := Aside0.mk (And.intro h8 hv9)
        clear h8 hv9 ho8 hg8 hb8 HJ HCV HO
        refine hK.out _ _ H7.out.1 (fun hHeld2 => ?_)
        clear hK K hHeld
        have hHeld := hHeld2
        clear hHeld2
        (try simp only [aP, aN, sT, sZ, sS])
        refine tkH (i := 10) (by simp only [gT, gS, gZ]; rfl) (by kernel_rfl) (by exact fun _ _ _ h => h) (.inl ⟨by rfl, fun wz hSw => by obtain ⟨d1, d2, d3, d4, d5, d6, d7⟩ := Rd.cells hSw; go_simp <;> with_reducible rfl⟩) hHeld ?_
        (try simp only [aP, aN, sT, sZ, sS])
        refine tkH (i := 11) (by simp only [gT, gS, gZ]; rfl) (by kernel_rfl) (by exact fun _ _ _ h => h) (.inl ⟨by rfl, fun wz hSw => by obtain ⟨d1, d2, d3, d4, d5, d6, d7⟩ := Rd.cells hSw; go_simp <;> with_reducible rfl⟩) hHeld ?_
        (try simp only [aP, aN, sT, sZ, sS])
        refine wpAnyH_ready (rs := [12]) (by kernel_rfl) (by simp) ?_
        refine AllReadyH.cons (o := ?_) ?_ (fun K hK => ?_) ?_
        rotate_left 1
        ·(simp only [gT, gS, gZ]; rfl)
        ·obtain ⟨_, r1, r2⟩ := H7.out
         go_simp
         clear r1 r2
         refine hK.out _ _ (H8.out.1.rd HNC.out) (fun hHeld2 => ?_)
         clear hK K hHeld
         have hHeld := hHeld2
         clear hHeld2
         (try simp only [aP, aN, sT, sZ, sS])
         refine wpAnyH_done (by kernel_rfl) ?_ _
         have H9 := H8
         clear H7 H8
         generalize w9.setCell ⟨sb, i * 4 + 3, none⟩ (.slice (some ⟨b9, 0, none⟩) (n9 + 1) c99) = W14 at *
         clear hHeld
         obtain ⟨⟨a0, a1, a2, a3, v0, v1, v2, v3⟩, vf⟩ := H9.out.1.elem hmp H9.out.2
         have HOB := Aside0.mk (show (cv9 i).ownBlock = some b9 from by rw [H9.out.2]; rfl)
         have hn90 : (0 : Int) ≤ (n9 : Int) := by omega
         have hn91 : (n9 : Int) < ((n9 + 1 : Nat) : Int) := by omega
         go_wp2_with fail
         go_roundg (g2' - 1)
         case measure => omega
         case rel => exact ⟨i + 1, mm, rfl, by omega, ⟨⟨_, _, _, ((((H9.out.1.kset hmp HOB.out _ _).kset hmp HOB.out _ _).kset hmp HOB.out _ _).kset hmp HOB.out _ _).gx.up (by omega)⟩, HMR.out.1, HMR.out.2⟩⟩
        exact AllReadyH.nil
       exact AllReadyH.nil
      exact AllReadyH.nil
     exact AllReadyH.nil
    exact AllReadyH.nil
   exact AllReadyH.nil
  exact AllReadyH.nil
 exact AllReadyH.nil
end Go.Proofs.YtgiioglmkogpkaaGreatDoor.F

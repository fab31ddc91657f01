/- Texts behind the law FnGjAnyLines: part 6. -/
import Derived.Test.YtgiioglmkogpkaaGreatDoorZe
import Derived.Test.YtgiioglmkogpkaaGreatDoorZc
import Derived.Test.YtgiioglmkogpkaaGreatDoorZb
import Derived.Test.YtgiioglmkogpkaaGreatDoorZa
import Derived.Test.YtgiioglmkogpkaaGreatDoorZd
import Derived.Deep.QuietTactic
import Derived.BigQuiet
import Derived.Deep.RegionHeld3
import Derived.Lib.ConvBytes
import Derived.Test.YtgiioglmkogpkaaGreatDoorRows
import Derived.ProofKit
import Derived.LaidMore
import Derived.OpenShut
import Derived.Stop.Joined
import Derived.Lib.LaidTab
import Derived.ChangeSame
import Derived.Deep.Strs
import Derived.LaidLaws
import Derived.MakeChecks
import Derived.WalkKit
import Derived.ShutString
import Derived.ChangeOld
import Derived.Below
import Derived.Lay
import Derived.Carry
import Derived.SliceStrings
set_option linter.unusedVariables false
set_option linter.unusedSimpArgs false
namespace Go.Proofs.YtgiioglmkogpkaaGreatDoor.V
open Go.RowKit Go.Proofs.YtgiioglmkogpkaaGreatDoorW.PrintWords Go.Proofs.YtgiioglmkogpkaaGreatDoorW.PrintLast Go.Proofs.YtgiioglmkogpkaaGreatDoorW.PrintMore
open M L
def lnL : List ByteArray → List UInt8
 | [] => []
 | l :: B => l.data.toList ++ 10 :: lnL B
def lnT (B : List ByteArray) : ByteArray := ⟨(lnL B).toArray⟩
theorem lnL_append : ∀ (A B : List ByteArray), lnL (A ++ B) = lnL A ++ lnL B
 | [], _ => rfl
 | l :: A, B => by simp [lnL, lnL_append A B]
theorem lnT_size (B : List ByteArray) : (lnT B).size = (lnL B).length := by simp [lnT, ByteArray.size]
theorem lnT_one (A : List ByteArray) (l : ByteArray) : lnT (A ++ [l]) = lnT A ++ l ++ ⟨#[10]⟩ := by
 apply ByteArray.ext
 apply Array.ext'
 simp [lnT, lnL_append, lnL, ByteArray.data_append]
inductive Vs (s : ByteArray) : Int → List (S78 × S25) → Prop
 | nil (a : Int) : 0 ≤ a → a ≤ s.size → (∀ j, a ≤ j → j < s.size → bt s j ≤ 32) → Vs s a []
 | cons (a : Int) (c : S78) (t : S25) (L : List (S78 × S25)) : 0 ≤ a → a ≤ c.f1 → (∀ j, a ≤ j → j < c.f1 → bt s j ≤ 32) → G s (.val c) → Tv s c.f2 → VD s c → TrOf s c t → SB t → t.f0 = c.f0 → Vs s c.f2 L → Vs s a ((c, t) :: L)
def LOk : List ByteArray → List S25 → Prop
 | [], [] => True
 | l :: B, t :: ts => (F.RdOk l t ∧ PA l 0 ∧ l.size ≤ 65536) ∧ LOk B ts
 | _, _ => False
theorem LOk.snoc : ∀ {B : List ByteArray} {ts : List S25} {l : ByteArray} {t : S25}, LOk B ts → F.RdOk l t ∧ PA l 0 ∧ l.size ≤ 65536 → LOk (B ++ [l]) (ts ++ [t])
 | [], [], _, _, _, h => ⟨h, trivial⟩
 | [], _ :: _, _, _, h, _ => h.elim
 | _ :: _, [], _, _, h, _ => h.elim
 | _ :: _, _ :: _, _, _, h, g => ⟨h.1, LOk.snoc h.2 g⟩
theorem LOk.length : ∀ {B : List ByteArray} {ts : List S25}, LOk B ts → ts.length = B.length
 | [], [], _ => rfl
 | [], _ :: _, h => h.elim
 | _ :: _, [], h => h.elim
 | _ :: _, _ :: _, h => by simp [LOk.length h.2]
theorem ag_all {s : ByteArray} (O : List UInt8) (o : Nat) (rest : List UInt8) (h0 : 0 < s.size) (h : O.drop o = s.data.toList ++ rest) : Ag s ⟨O.toArray⟩ o 0 s.size := by
 have hl : s.data.toList.length = s.size := by simp
 have hO : (O.drop o).length = s.size + rest.length := by rw [h, List.length_append, hl]
 rw [List.length_drop] at hO
 have hoz : ((⟨O.toArray⟩ : ByteArray).size : Int) = O.length := by simp [ByteArray.size]
 refine ⟨by omega, by omega, by omega, by omega, fun i x y => ?_⟩
 obtain ⟨j, rfl⟩ : ∃ j : Nat, i = j := ⟨i.toNat, by omega⟩
 have hjs : j < s.size := by omega
 have hb := bt_drop O o _ h j (by rw [List.length_append, hl]; omega)
 rw [show (j : Int) + (o : Int) = ((o + j : Nat) : Int) by omega, hb]
 have hb2 := bt_at s (j : Int) (by rw [Int.toNat_natCast]; exact hjs)
 rw [← hb2]
 simp only [Int.toNat_natCast]
 rw [List.getElem_append_left (by rw [hl]; exact hjs)]
 rfl
theorem lines_vs (O : List UInt8) (hO : O.length ≤ 65536) : ∀ (B : List ByteArray) (ts : List S25), LOk B ts → ∀ (o : Nat), O.drop o = lnL B → o ≤ O.length → ∀ a : Int, 0 ≤ a → a ≤ o → (∀ j, a ≤ j → j < o → bt ⟨O.toArray⟩ j ≤ 32) →
  ∃ W, Vs ⟨O.toArray⟩ a W ∧ W.map Prod.snd = ts := by
 have hoz : ((⟨O.toArray⟩ : ByteArray).size : Int) = O.length := by simp [ByteArray.size]
 intro B
 induction B with
 | nil =>
  intro ts h o ho hol a h0 ha hb
  cases ts with
  | cons _ _ => exact h.elim
  | nil =>
   have : O.length ≤ o := by
    have := congrArg List.length ho
    simp [lnL] at this
    omega
   exact ⟨[], .nil a h0 (by omega) (fun j x y => hb j x (by omega)), rfl⟩
 | cons l B ih =>
  intro ts h o ho hol a h0 ha hb
  cases ts with
  | nil => exact h.elim
  | cons t ts =>
   obtain ⟨⟨⟨q, T, R, us, hG, hB1, hB2, ht, hTr, hTL, hS⟩, hP, hz⟩, hrest⟩ := h
   obtain ⟨k0, k1, k2, _⟩ := hG.ok
   have hl : l.data.toList.length = l.size := by simp
   have hlen := congrArg List.length ho
   rw [List.length_drop] at hlen
   simp only [lnL, List.length_append, List.length_cons, hl] at hlen
   have g := ag_all O o _ (by omega) (show O.drop o = l.data.toList ++ (10 :: lnL B) from ho)
   have g' : Ag l ⟨O.toArray⟩ o q.f1 q.f2 := g.sub k0 k2
   have hnl : bt ⟨O.toArray⟩ ((o + l.size : Nat) : Int) = 10 := by
    have := bt_drop O o _ ho l.size (by simp only [lnL, List.length_append, List.length_cons, hl]; omega)
    rw [this]
    have e : (lnL (l :: B))[l.size]? = some 10 := by
     simp only [lnL]
     rw [List.getElem?_append_right (by omega), hl]
     simp
    have e2 := List.getElem_of_getElem? e
    obtain ⟨_, e2⟩ := e2
    rw [e2]
    rfl
   have low : ∀ j : Int, 0 ≤ j → j < l.size → isB (bt l j) → bt ⟨O.toArray⟩ (j + o) ≤ 32 := fun j x y z => by
    rw [g.at j (j + o) rfl x y]
    unfold isB at z
    omega
   have hG2 : G ⟨O.toArray⟩ (.val (shP o q)) := hG.sh g'
   have hf1 := shP_f1 (o : Int) q
   have hf2 := shP_f2 (o : Int) q
   have hf0 := shP_f0 (o : Int) q
   have hob : ∀ j : Int, q.f2 + o ≤ j → j < ((o + l.size + 1 : Nat) : Int) → bt ⟨O.toArray⟩ j ≤ 32 := fun j x y => by
    by_cases e : j = ((o + l.size : Nat) : Int)
    ·rw [e, hnl]; omega
    ·have := low (j - o) (by omega) (by omega) (hB2.2 (j - o) (by omega) (by omega))
     rwa [show j - o + o = j by omega] at this
   obtain ⟨W, hW, hWm⟩ := ih ts hrest (o + l.size + 1) (by
    have : O.drop (o + l.size + 1) = (O.drop o).drop (l.size + 1) := by rw [List.drop_drop]; congr 1
    rw [this, ho]
    simp only [lnL]
    rw [List.drop_append]
    simp [hl]) (by omega) (q.f2 + o) (by omega) (by omega) hob
   refine ⟨(shP o q, t) :: W, .cons a (shP o q) t W h0 (by omega) (fun j x y => ?_) hG2 (fun x => ?_) (fun h4 => ?_) (tr_sh hz (by omega) hG hTr g') hS (by rw [hf0, ht]) (by rw [hf2]; exact hW), by simp [hWm]⟩
   ·by_cases e : j < o
    ·exact hb j x e
    ·have := low (j - o) (by omega) (by omega) (hB1.2 (j - o) (by omega) (by omega))
     rwa [show j - o + o = j by omega] at this
   ·rw [hf2] at x ⊢
    exact .inl (hob _ (Int.le_refl _) (by omega))
   ·rw [hf0] at h4
    have hv := vd_of hz hG (pa_bl hz (Int.le_refl _) (by omega) hB1 hP) h4
    rw [hf1, hf2]
    exact hv.sh (by
     cases hG with
     | str p e h => obtain ⟨_, _, j, h1, _⟩ := h; dsimp only; omega
     | _ => dsimp only at h4; omega) g'
end Go.Proofs.YtgiioglmkogpkaaGreatDoor.V
namespace Go.Proofs.YtgiioglmkogpkaaGreatDoor.F
open Go.RowKit Go.Proofs.YtgiioglmkogpkaaGreatDoorW.PrintWords Go.Proofs.YtgiioglmkogpkaaGreatDoorW.PrintLast Go.Proofs.YtgiioglmkogpkaaGreatDoorW.PrintMore
open M L V
theorem G.first {s : ByteArray} {c : S78} (h : V.G s (.val c)) : ¬ isB (bt s c.f1) := by
 have w0 : ∀ {p e : Int} {x : ByteArray}, 0 ≤ p → Wd s p e x → 0 < x.size → ¬ isB (bt x 0) → ¬ isB (bt s p) := fun {p e x} h0 h hx hb => by
  have := wd_bt h0 h 0 (by omega) (by omega)
  rw [Int.add_zero] at this
  rw [this]; exact hb
 cases h with
 | num p e h0 h =>
  obtain ⟨a, b, c, ha, hab, _, _, _, _, hg, _⟩ := h
  dsimp only
  unfold isB
  rcases ha with ⟨rfl, _⟩ | ⟨rfl, hm⟩
  ·have := hg a (by omega) hab
   unfold L.dig at this
   omega
  ·omega
 | str p e h => have := h.2.1; dsimp only; unfold isB; omega
 | null p e h0 h => exact w0 h0 h (by decide) (by unfold isB; decide)
 | fals p e h0 h => exact w0 h0 h (by decide) (by unfold isB; decide)
 | tru p e h0 h => exact w0 h0 h (by decide) (by unfold isB; decide)
 | arr0 p b h0 h1 _ _ _ => dsimp only; unfold isB; omega
 | arr p b e C h0 h1 _ _ => dsimp only; unfold isB; omega
 | obj0 p b h0 h1 _ _ _ => dsimp only; unfold isB; omega
 | obj p b e N C h0 h1 _ _ => dsimp only; unfold isB; omega
theorem ag_own {s : ByteArray} {c : S78} (h : V.G s (.val c)) : ((raw s c).size : Int) = c.f2 - c.f1 ∧ Ag s (raw s c) (-c.f1) c.f1 c.f2 := by
 obtain ⟨k0, k1, k2, _⟩ := h.ok
 have hs : ((raw s c).size : Int) = c.f2 - c.f1 := by unfold raw; rw [ByteArray.size_extract]; omega
 refine ⟨hs, k0, by omega, k2, by omega, fun i x y => ?_⟩
 have := bt_extract s c.f1.toNat c.f2.toNat (i + -c.f1) (by omega) (by omega) (by omega)
 unfold raw
 rw [this]; congr 1; omega
theorem raw_read (s : ByteArray) (hz : s.size ≤ 65536) {c : S78} (hG : V.G s (.val c)) {t : S25} (ht : TrOf s c t) (w : World) : Calls Tryz.prog 21 #[.string (raw s c)] w (RdG t true w) := by
 obtain ⟨k0, k1, k2, _⟩ := hG.ok
 obtain ⟨hs, g⟩ := ag_own hG
 have hrz : (raw s c).size ≤ 65536 := by omega
 have hG2 : V.G (raw s c) (.val (shP (-c.f1) c)) := hG.sh g
 have htr := tr_sh hz hrz hG ht g
 have e1 : (shP (-c.f1) c).f1 = 0 := by rw [shP_f1]; omega
 have e2 : (shP (-c.f1) c).f2 = (raw s c).size := by rw [shP_f2]; omega
 generalize raw s c = r at *
 generalize shP (-c.f1) c = q at *
 have hB := G.first hG2
 obtain ⟨k, b, e, M, C⟩ := q
 dsimp only at e1 e2 hB
 subst e1 e2
 obtain ⟨K2, hE2⟩ := G.goes hrz hG2 (fun _ => by unfold V.Tm; dsimp only; omega)
 obtain ⟨p, ⟨K1, hE1⟩, p0, p1, p2, _⟩ := blanksf_ev r hrz 0 (by omega) (by omega)
 have ep : p = 0 := by
  by_cases q : 0 < p
  ·exact absurd (p2 0 (by omega) q) hB
  ·omega
 subst ep
 obtain ⟨p3, ⟨K3, hE3⟩, r0, r1, _⟩ := blanksf_ev r hrz r.size (by omega) (by omega)
 have ep3 : p3 = r.size := by omega
 have := read_gen r hrz 0 k r.size p3 M C true K1 K2 K3 (hE1 K1 (Nat.le_refl _)) (by omega) (by omega) (hE2 K2 (Nat.le_refl _)) (by omega) (by omega) (hE3 K3 (Nat.le_refl _)) t (fun _ _ => htr) w
 rw [show (true && decide (p3 = (r.size : Int))) = true by simp [ep3]] at this
 exact this
theorem str_is {s : ByteArray} (hz : s.size ≤ 65536) {c : S78} (hG : V.G s (.val c)) (h4 : c.f0 = 4) {t : S25} (ht : TrOf s c t) {str : ByteArray} (hs : StrIn s c str) : str = t.f1 := by
 obtain ⟨T, R, ts, _, _, h1, hX, _, _⟩ := hG.tr hz
 rw [TrOf.one ht h1]
 obtain ⟨o, ho, hol, rfl⟩ := hs.1 h4
 have hX2 : Ev (fun k => spec_Unquote.f k (s.extract c.f1.toNat c.f2.toNat)) T := by
  rcases hX with ⟨h, _⟩ | ⟨_, h⟩ | ⟨_, h, _⟩
  ·omega
  ·exact h
  ·exact absurd h4 h
 have hS : Str s c.f1 c.f2 := by
  cases hG with
  | str p e h => exact h
  | _ => dsimp only at h4; omega
 obtain ⟨hlt, hle⟩ := Str.lt hS
 have h0 := hS.1
 obtain ⟨r, hr, hd⟩ := unqf_ev s hz c.f1 c.f2 hS
 have e1 : (c.f1 + 1).toNat = c.f1.toNat + 1 := by omega
 have e2 : (c.f2 - 1).toNat = c.f2.toNat - 1 := by omega
 rw [e1, e2] at ho
 rw [← hd o ho.dec hol]
 exact Ev.one hr hX2
set_option maxHeartbeats 4000000
set_option maxRecDepth 8192
attribute [local go_sem] run_store_float
def DA (e1 T : Int) (raw str : ByteArray) (x : Nat) (ok : Bool) (w : World) (en : Ending) (w' : World) : Prop := ∃ ix : Int, en = .returned (.tuple #[.int .i64 e1, resI T raw str x ix, .bool ok]) ∧ Below w.heap.size w w'
def GA (e1 T : Int) (raw str : ByteArray) (x : Nat) (ok : Bool) (w : World) (en : Ending) (w' : World) : Prop := en = .returned (.tuple #[.int .i64 e1, r41b T raw str x ok, .bool ok]) ∧ Below w.heap.size w w'
def st66 (W : World) (g : Nat) (a b c d e f : Value) : World := (((((W.setCell ⟨g, 0, none⟩ a).setCell ⟨g, 1, none⟩ b).setCell ⟨g, 2, none⟩ c).setCell ⟨g, 3, none⟩ d).setCell ⟨g, 4, none⟩ e).setCell ⟨g, 5, none⟩ f
structure NewB (w W : World) (g : Nat) (cs : Array Value) (T : TypeId) : Prop where
 hg : W.heap[g]? = some (.cells cs T (0, 0))
 ge : w.heap.size ≤ g
 be : Below w.heap.size w W
theorem NewB.below {w W W2 : World} {g : Nat} {cs : Array Value} {T : TypeId} (h : NewB w W g cs T) (hb : Below W.heap.size W W2) : NewB w W2 g cs T := ⟨(hb.block g (blk_lt h.hg)).trans h.hg, h.ge, h.be.trans (hb.mono h.be.size)⟩
theorem NewB.new (w : World) (cs : Array Value) (T : TypeId) : NewB w (w.alloc (.cells cs T)) w.heap.size cs T := ⟨heap_alloc_new w _, Nat.le_refl _, below_alloc (Below.refl _ _) _⟩
theorem NewB.set {w W : World} {g : Nat} {cs : Array Value} {T : TypeId} (h : NewB w W g cs T) (j : Nat) (u : Value) {cs' : Array Value} (hc : cs.setIfInBounds j u = cs') : NewB w (W.setCell ⟨g, j, none⟩ u) g cs' T := ⟨by rw [← hc]; exact blk_set h.hg j u, h.ge, below_set h.be h.ge⟩
theorem NewB.st66 {w W : World} {g : Nat} {x0 x1 x2 x3 x4 x5 : Value} (h : NewB w W g #[x0, x1, x2, x3, x4, x5] 66) (a b c d e f : Value) : NewB w (st66 W g a b c d e f) g #[a, b, c, d, e, f] 66 :=
 (((((h.set 0 a rfl).set 1 b rfl).set 2 c rfl).set 3 d rfl).set 4 e rfl).set 5 f rfl
theorem doorEnd (P : Ending → World → Prop) (e T : Int) (raw str : ByteArray) (x : Nat) (ix : Int) (ok : Bool) (W : World) (g : Nat) (tm : Array Value) (h4 : tm.getD 4 undef = .int .i64 e) (h5 : tm.getD 5 undef = .pointer (some ⟨g, 0, none⟩)) (h6 : tm.getD 6 undef = .bool ok)
  (hg : W.heap[g]? = some (.cells (cl66 T raw str x ix) 66 (0, 0))) (hb : P (.returned (.tuple #[.int .i64 e, resI T raw str x ix, .bool ok])) W) : bodyPost Tryz.prog Tryz.f40 P .ret ⟨tm, []⟩ W := by
 have n0 := blk_cell hg 0
 have n1 := blk_cell hg 1
 have n2 := blk_cell hg 2
 have n3 := blk_cell hg 3
 have n4 := blk_cell hg 4
 have n5 := blk_cell hg 5
 refine bodyPost_ret (v := .tuple #[.int .i64 e, resI T raw str x ix, .bool ok]) ?_ rfl hb
 simp only [results, Tryz.results40]
 have h4' := h4
 have h5' := h5
 have h6' := h6
 simp only [Array.getD_eq_getD_getElem?] at h4' h5' h6'
 simp [go_sem, h4, h4', h5, h5', h6, h6', n0, n1, n2, n3, n4, n5, resI]
theorem door_calls (s : ByteArray) (i e1 T : Int) (raw str : ByteArray) (x : Nat) (ok : Bool) (w : World) (hc : ∀ W, Below w.heap.size w W → Calls Tryz.prog 62 #[.string s, .int .i64 i, .bool true] W (DA e1 T raw str x ok W)) :
  Calls Tryz.prog 40 #[.string s, .int .i64 i] w (DA e1 T raw str x ok w) := by
 have HC := Aside0.mk hc
 have HN := Aside0.mk (NewB.new w (cl66 0 ⟨#[]⟩ ⟨#[]⟩ 0 0) 66)
 clear hc
 go_enter Tryz.func40, Tryz.ntmps40
 go_wp2_with (go_at_call 62; refine (HC.out _ HN.out.be).mono ?_; rintro e w2 ⟨ix, rfl, hb⟩; have HB := Aside0.mk (HN.out.below hb); clear hb; have f0 := blk_frozen HB.out.hg; obtain ⟨n0, n1, n2, n3, n4, n5⟩ := cells6 HB.out.hg)
 have HF := Aside0.mk (HB.out.st66 (.int .i64 T) (.string raw) (.string str) (.float .f64 x) (.int .i64 ix) (.slice none 0 0))
 refine doorEnd _ e1 T raw str x ix ok _ _ _ rfl rfl rfl HF.out.hg ⟨ix, rfl, HF.out.be⟩
set_option maxHeartbeats 8000000
set_option maxRecDepth 8192
def z41 : Value := .agg #[.int .i64 0, .string ⟨#[]⟩, .string ⟨#[]⟩, .float .f64 0, .bool false]
theorem info41 : (Tryz.prog.info? 41).map (fun i => (i.zero, i.size, i.bytes)) = some (some z41, 5, 56) := by kernel_rfl
abbrev rc (T : Int) (s str : ByteArray) (x : Nat) (b : Bool) : List Value := [.int .i64 T, .string s, .string str, .float .f64 x, .bool b]
structure Li (B po ps : Nat) (rows : List (List Value)) (W : World) : Prop where
 ex : ∃ v, W.heap[po]? = some (.cells #[v] 37 (0, 0)) ∧ Kd.R (Kd.raw 5) 41 W B (fun _ => True) v rows
 hs : W.heap[ps]? = some (.cells #[.int .i64 0] 3 (0, 0))
 bp : B ≤ po
 bs : B ≤ ps
 bw : B ≤ W.heap.size
theorem Li.keep {B po ps : Nat} {rows : List (List Value)} {W W' : World} (h : Li B po ps rows W) {b0 : Nat} (hk : KeepN b0 W W') : Li B po ps rows W' := by
 obtain ⟨⟨v, h1, h2⟩, h3, h4, h5, h6⟩ := h
 refine ⟨⟨v, hk.2.2 _ _ _ _ (by decide) h1, Kd.R_mono (Kd.R_step (Kd.R_bound h2) (fun k hj hlt => ?_)) (fun _ _ => trivial)⟩, hk.2.2 _ _ _ _ (by decide) h3, h4, h5, Nat.le_trans h6 hk.1⟩
 obtain ⟨_, _, _, q, hq, cs, hc⟩ := hj
 have hq : q = 41 := by simpa [Kd.raw] using hq
 exact (hk.2.2 _ _ _ _ (by rw [hq]; decide) hc).trans hc.symm
structure Cw (B : Nat) (W w' : World) (lb po ps : Nat) (v v1 : Value) (rows : List (List Value)) (T : Int) (r str : ByteArray) (x : Nat) (ix : Int) : Prop where
 hl : w'.heap[lb]? = some (.cells (cl66 T r str x ix) 66 (0, 0))
 ho : w'.heap[po]? = some (.cells #[v] 37 (0, 0))
 hs : w'.heap[ps]? = some (.cells #[.int .i64 0] 3 (0, 0))
 hr : Kd.R (Kd.raw 5) 41 w' B (fun _ => True) v1 rows
 kp : Keep66 W w'
 be : Below B W w'
 bp : B ≤ po
 bs : B ≤ ps
 bw : B ≤ W.heap.size
section
variable {B : Nat} {W w' w2 : World} {lb po ps : Nat} {v v1 : Value} {rows : List (List Value)} {T : Int} {r str : ByteArray} {x : Nat} {ix : Int}
theorem Cw.below (h : Cw B W w' lb po ps v v1 rows T r str x ix) (hb : Below w'.heap.size w' w2) : Cw B W w2 lb po ps v v1 rows T r str x ix :=
 ⟨(hb.block _ (blk_lt h.hl)).trans h.hl, (hb.block _ (blk_lt h.ho)).trans h.ho, (hb.block _ (blk_lt h.hs)).trans h.hs, Kd.R_step h.hr (fun k _ hlt => hb.block k hlt), fun g c fr hg => (hb.block _ (blk_lt (h.kp g c fr hg))).trans (h.kp g c fr hg), h.be.trans (hb.mono (Nat.le_trans h.bw h.be.size)), h.bp, h.bs, h.bw⟩
theorem Cw.appended {p : List Value} (h : Cw B W w' lb po ps v v rows T r str x ix) (ho : Kd.R (Kd.raw 5) 41 w2 B (fun _ => True) v1 (rows ++ [p])) (hbl : Below B w' w2) (hg : w'.grownBy w2 v.ownBlock) : Cw B W w2 lb po ps v v1 (rows ++ [p]) T r str x ix := by
 have own : ∀ (k : Nat) (c : Array Value) (T : TypeId) (fr : Nat × Nat), T ≠ 41 → w'.heap[k]? = some (.cells c T fr) → w2.heap[k]? = some (.cells c T fr) := fun k c T fr hT hk => by
  refine (hg.block k (blk_lt hk) (fun e => ?_)).trans hk
  obtain ⟨_, _, hlt, q, hq, cs, hc⟩ := (Kd.R_bound h.hr).1 k e.symm
  rw [hk] at hc
  simp only [Option.some.injEq, Obj.cells.injEq] at hc
  have : q = 41 := by simpa [Kd.raw] using hq
  exact hT (hc.2.1.trans this)
 exact ⟨own _ _ _ _ (by decide) h.hl, own _ _ _ _ (by decide) h.ho, own _ _ _ _ (by decide) h.hs, ho, fun g c fr hg => own _ _ _ _ (by decide) (h.kp g c fr hg), h.be.trans hbl, h.bp, h.bs, h.bw⟩
theorem Cw.far (h : Cw B W w' lb po ps v v1 rows T r str x ix) (u : Value) (g : Nat) (c : Array Value) (T' : TypeId) (fr : Nat × Nat) (hT : T' ≠ 37) (hg : w'.heap[g]? = some (.cells c T' fr)) : (w'.setCell ⟨po, 0, none⟩ u).heap[g]? = some (.cells c T' fr) := by
 refine (Below.heap_setCell w' ⟨po, 0, none⟩ u g (fun e => ?_)).trans hg
 subst e
 have := h.ho
 rw [hg] at this
 simp only [Option.some.injEq, Obj.cells.injEq] at this
 exact hT this.2.1
theorem Cw.stored (h : Cw B W w' lb po ps v v1 rows T r str x ix) : Cw B W (w'.setCell ⟨po, 0, none⟩ v1) lb po ps v1 v1 rows T r str x ix := by
 refine ⟨h.far _ _ _ _ _ (by decide) h.hl, blk_set h.ho 0 v1, h.far _ _ _ _ _ (by decide) h.hs, Kd.R_step (Kd.R_bound h.hr) (fun j hj hlt => ?_) |> (Kd.R_mono · (fun _ _ => trivial)), fun g c fr hg => h.far _ _ _ _ _ (by decide) (h.kp g c fr hg), h.be.setCell (p := ⟨po, 0, none⟩) h.bp _, h.bp, h.bs, h.bw⟩
 refine Below.heap_setCell w' ⟨po, 0, none⟩ v1 j (fun e => ?_)
 obtain ⟨_, _, _, q, hq, cs, hc⟩ := hj
 subst e
 rw [h.ho] at hc
 simp only [Option.some.injEq, Obj.cells.injEq] at hc
 have : q = 41 := by simpa [Kd.raw] using hq
 exact absurd (hc.2.1.trans this) (by decide)
theorem Cw.done (h : Cw B W w' lb po ps v v rows T r str x ix) : Li B po ps rows w' := ⟨⟨v, h.ho, h.hr⟩, h.hs, h.bp, h.bs, Nat.le_trans h.bw h.be.size⟩
end
theorem cl38_calls (B po ps : Nat) (rows : List (List Value)) (W : World) (hI : Li B po ps rows W) (T : Int) (raw str : ByteArray) (x : Nat) (ix : Int) (hT : T ≠ 0 ∨ 0 < raw.size) (hrl : rows.length ≤ 1000000) :
  Calls Tryz.prog 38 #[resI T raw str x ix, .pointer (some ⟨po, 0, none⟩), .pointer (some ⟨ps, 0, none⟩)] W fun e W' => e = .returned (.bool true) ∧ Li B po ps (rows ++ [rc T raw str x true]) W' ∧ Keep66 W W' ∧ Below B W W' := by
 obtain ⟨⟨v, ho, hr⟩, hs, hbp, hbs, hbw⟩ := hI
 have h1 : Below W.heap.size W (W.alloc (.cells (cl66 T raw str x ix) 66)) := below_alloc (Below.refl _ _) _
 have H0 := Aside0.mk (show Cw B W _ W.heap.size po ps v v rows T raw str x ix from ⟨heap_alloc_new W _, (h1.block _ (blk_lt ho)).trans ho, (h1.block _ (blk_lt hs)).trans hs, Kd.R_step hr (fun k _ hlt => h1.block k hlt), .of_below h1, h1.mono hbw, hbp, hbs, hbw⟩)
 have HX := Aside0.mk (And.intro hT hrl)
 clear ho hr hs h1 hT hrl
 simp only [resI]
 go_enter Tryz.func38, Tryz.ntmps38
 go_upto_region 1 with fail
 generalize hW1 : W.alloc (.cells (cl66 T raw str x ix) 66) = W1 at *
 have hW1' := hW1
 simp only [cl66] at hW1'
 try rw [hW1']
 clear hW1 hW1'
 generalize W.heap.size = lb at *
 have HY := Aside0.mk (H0.out.below (below_drew (Below.refl _ _)))
 clear H0
 refine wp_region_last_drew (S := (fun w' => w'.heap[lb]? = some (.cells (cl66 T raw str x ix) 66 (0, 0)) ∧ w'.heap[po]? = some (.cells #[v] 37 (0, 0)))) (ds := [5]) (by kernel_rfl) (show _ ∧ _ from ⟨HY.out.hl, HY.out.ho⟩) (fun hHeld => ?_)
 generalize W1.drew = W2 at *
 refine tkL (i := 0) (by simp only [gT, gS, gZ]; rfl) (by kernel_rfl) (by exact fun _ _ _ h => h) (.inl ⟨by rfl, fun w hSw => by have o0 := blk_cell hSw.2 0; go_simp <;> with_reducible rfl⟩) hHeld ?_
 (try simp only [aP, aN, sT, sZ, sS])
 refine tkL (i := 1) (by simp only [gT, gS, gZ]; rfl) (by kernel_rfl) (by exact fun _ _ _ h => h) (.inl ⟨by rfl, fun w hSw => by obtain ⟨c0, c1, c2, c3, c4, c5⟩ := cells6 hSw.1; go_simp <;> with_reducible rfl⟩) hHeld ?_
 (try simp only [aP, aN, sT, sZ, sS])
 refine wpAnyLast_ready (rs := [2]) (by kernel_rfl) (by simp) ?_
 refine AllReadyL.cons (o := ?_) ?_ (by decide) (fun K hK => ?_) AllReadyL.nil
 rotate_left 1
 ·(simp only [gT, gS, gZ]; rfl)
 go_simp
 (go_at_call 39; refine (gjb_calls T raw str x ix _ true (.inl ⟨rfl, HX.out.1⟩)).mono ?_; rintro e w5 ⟨rfl, hb⟩; simp only [r41b]; have HY := Aside0.mk (HY.out.below hb); clear hb)
 refine hK.out _ _ (show _ ∧ _ from ⟨HY.out.hl, HY.out.ho⟩) (fun hHeld2 => ?_)
 clear hK K hHeld
 have hHeld := hHeld2
 clear hHeld2
 (try simp only [aP, aN, sT, sZ, sS])
 refine wpAnyLast_ready (rs := [3]) (by kernel_rfl) (by simp) ?_
 refine AllReadyL.cons (o := ?_) ?_ (by decide) (fun K hK => ?_) AllReadyL.nil
 rotate_left 1
 ·(simp only [gT, gS, gZ]; rfl)
 go_simp
 refine hK.out _ _ (show _ ∧ _ from ⟨(Below.heap_alloc _ _ _ (blk_lt HY.out.hl)).trans HY.out.hl, (Below.heap_alloc _ _ _ (blk_lt HY.out.ho)).trans HY.out.ho⟩) (fun hHeld2 => ?_)
 clear hK K hHeld
 have hHeld := hHeld2
 clear hHeld2
 (try simp only [aP, aN, sT, sZ, sS])
 refine wpAnyLast_ready (rs := [4]) (by kernel_rfl) (by simp) ?_
 refine AllReadyL.cons (o := ?_) ?_ (by decide) (fun K hK => ?_) AllReadyL.nil
 rotate_left 1
 ·(simp only [gT, gS, gZ]; rfl)
 refine Kd.R_append_step (Kd.raw 5) B (by rfl) (.tmp 5) (.tmp 8) 37 41 z41 56 rfl Tryz.underlying37 info41 rfl (by decide) (by decide) v rows (rc T raw str x true) (rc T raw str x true) (fun _ => True) (fun _ => False) rfl rfl ⟨rfl, rfl, by simp [Value.oneCell']⟩ (fun _ h => h.elim) (fun _ _ => trivial) HY.out.hr (Below.refl _ _) (Nat.le_trans HY.out.bw HY.out.be.size) (by have := HX.out.2; show (rows.length + 1) * 56 ≤ 140737488355328; omega) ?_
 intro v1 w7 ho hbl hg hat
 obtain ⟨A1, c1, e1⟩ := Kd.R_slice ho
 have hlen : (rows ++ [rc T raw str x true]).length = rows.length + 1 := by simp
 rw [hlen] at e1
 subst e1
 have H7 := Aside0.mk (HY.out.appended ho hbl hg)
 clear ho hbl hg hat
 refine hK.out _ _ (show _ ∧ _ from ⟨H7.out.hl, H7.out.ho⟩) (fun hHeld2 => ?_)
 clear hK K hHeld
 have hHeld := hHeld2
 clear hHeld2
 (try simp only [aP, aN, sT, sZ, sS])
 refine wpAnyLast_ready (rs := [5]) (by kernel_rfl) (by simp) ?_
 refine AllReadyL.cons_last (o := ?_) ?_ (by decide) (fun K hK => ?_) AllReadyL.nil
 rotate_left 1
 ·(simp only [gT, gS, gZ]; rfl)
 have o0 := blk_cell H7.out.ho 0
 have o1 := blk_frozen H7.out.ho
 go_simp
 clear o0 o1
 refine hK.out _ _ ?_
 clear hK K hHeld
 (try simp only [aP, aN, sT, sZ, sS])
 refine wpAnyLast_done (by kernel_rfl) ?_ _
 have H8 := Aside0.mk H7.out.stored
 clear H7 HY
 generalize w7.setCell ⟨po, 0, none⟩ _ = w8 at *
 have o0 := blk_cell H8.out.ho 0
 have o1 := blk_cell H8.out.hs 0
 have hne : (((rows.length + 1 : Nat) : Int) != 0) = true := bne_iff_ne.mpr (by omega)
 go_wp2_with fail
 go_ret
 exact ⟨rfl, H8.out.done, H8.out.kp, H8.out.be⟩
end Go.Proofs.YtgiioglmkogpkaaGreatDoor.F
namespace Go.Proofs.YtgiioglmkogpkaaGreatDoor.F
open Go.RowKit Go.Proofs.YtgiioglmkogpkaaGreatDoorW.PrintWords Go.Proofs.YtgiioglmkogpkaaGreatDoorW.PrintLast Go.Proofs.YtgiioglmkogpkaaGreatDoorW.PrintMore
open M L
end Go.Proofs.YtgiioglmkogpkaaGreatDoor.F
namespace Go.Proofs.YtgiioglmkogpkaaGreatDoor.F
open Go.RowKit Go.Proofs.YtgiioglmkogpkaaGreatDoorW.PrintWords Go.Proofs.YtgiioglmkogpkaaGreatDoorW.PrintLast Go.Proofs.YtgiioglmkogpkaaGreatDoorW.PrintMore
open M L V
attribute [local go_sem] run_store_float
theorem VT.below {w W : World} (h : VT w) (hb : Below w.heap.size w W) : VT W := fun i hi => pw_cell_below hb (h i hi)
set_option maxHeartbeats 8000000
set_option maxRecDepth 8192
structure VR where
 c : S78
 t : S25
 str : ByteArray
 x : Nat
inductive Vt (s : ByteArray) (w0 : World) : Int → List VR → Prop
 | nil (a : Int) : 0 ≤ a → a ≤ s.size → (∀ j, a ≤ j → j < s.size → bt s j ≤ 32) → Vt s w0 a []
 | cons (a : Int) (r : VR) (L : List VR) : 0 ≤ a → a ≤ r.c.f1 → (∀ j, a ≤ j → j < r.c.f1 → bt s j ≤ 32) → V.G s (.val r.c) → TrOf s r.c r.t → SB r.t → r.t.f0 = r.c.f0 → StrIn s r.c r.str → Tell s r.c r.str r.x w0 → Vt s w0 r.c.f2 L → Vt s w0 a (r :: L)
theorem vt_of {s : ByteArray} (hz : s.size ≤ 65536) (w0 : World) (hV : VT w0) (hT : Tabs w0) {a : Int} {W : List (S78 × S25)} (h : Vs s a W) : ∃ L : List VR, Vt s w0 a L ∧ L.map VR.t = W.map Prod.snd := by
 induction h with
 | nil a h0 h1 h2 => exact ⟨[], .nil a h0 h1 h2, rfl⟩
 | cons a c t W h0 h1 h2 hG hTv hVD hTr hSB he _ ih =>
  obtain ⟨L, hL, hm⟩ := ih
  obtain ⟨str, x, hS, hTell⟩ := pany_one s c (.inl hz) hG hTv hVD w0 (fun W hb => hV.below hb) hT
  exact ⟨⟨c, t, str, x⟩ :: L, .cons a ⟨c, t, str, x⟩ L h0 h1 h2 hG hTr hSB he hS hTell hL, by simp [hm]⟩
def rowOf (s : ByteArray) (r : VR) : List Value := rc (kT r.c.f0) (raw s r.c) r.str r.x true
theorem Vt.inv {s : ByteArray} {w0 : World} {a : Int} {r : VR} {L : List VR} (h : Vt s w0 a (r :: L)) : (0 ≤ a ∧ a ≤ r.c.f1 ∧ ∀ j, a ≤ j → j < r.c.f1 → bt s j ≤ 32) ∧ V.G s (.val r.c) ∧ TrOf s r.c r.t ∧ SB r.t ∧ r.t.f0 = r.c.f0 ∧ StrIn s r.c r.str ∧ Tell s r.c r.str r.x w0 ∧ Vt s w0 r.c.f2 L := by
 cases h with
 | cons _ _ _ h0 h1 h2 h3 h4 h5 h6 h7 h8 h9 => exact ⟨⟨h0, h1, h2⟩, h3, h4, h5, h6, h7, h8, h9⟩
theorem Vt.inv0 {s : ByteArray} {w0 : World} {a : Int} (h : Vt s w0 a []) : 0 ≤ a ∧ a ≤ s.size ∧ ∀ j, a ≤ j → j < s.size → bt s j ≤ 32 := by
 cases h with
 | nil _ h0 h1 h2 => exact ⟨h0, h1, h2⟩
structure Fb (B : Nat) (w W : World) (bx po ps : Nat) (rows : List (List Value)) (T : Int) (r str : ByteArray) (x : Nat) (ix : Int) : Prop where
 hb : W.heap[bx]? = some (.cells (cl66 T r str x ix) 66 (0, 0))
 li : Li B po ps rows W
 be : Below B w W
 bb : B ≤ bx
section
variable {B : Nat} {w W W2 : World} {bx po ps : Nat} {rows : List (List Value)} {T : Int} {r str : ByteArray} {x : Nat} {ix : Int}
theorem Fb.below (h : Fb B w W bx po ps rows T r str x ix) (hb : Below W.heap.size W W2) : Fb B w W2 bx po ps rows T r str x ix :=
 ⟨(hb.block _ (blk_lt h.hb)).trans h.hb, h.li.keep (b0 := 0) (.of_below hb (Nat.zero_le _)), h.be.trans (hb.mono h.li.bw), h.bb⟩
theorem Fb.set (h : Fb B w W bx po ps rows T r str x ix) (j : Nat) (u : Value) {T' : Int} {r' str' : ByteArray} {x' : Nat} {ix' : Int} (hc : (cl66 T r str x ix).setIfInBounds j u = cl66 T' r' str' x' ix') : Fb B w (W.setCell ⟨bx, j, none⟩ u) bx po ps rows T' r' str' x' ix' :=
 ⟨by rw [← hc]; exact blk_set h.hb j u, h.li.keep (b0 := 0) (.of_set h.hb (Nat.zero_le _) j u), h.be.setCell (p := ⟨bx, j, none⟩) h.bb _, h.bb⟩
theorem Fb.st66 (h : Fb B w W bx po ps rows T r str x ix) (T' : Int) (r' str' : ByteArray) (x' : Nat) (ix' : Int) : Fb B w (st66 W bx (.int .i64 T') (.string r') (.string str') (.float .f64 x') (.int .i64 ix') (.slice none 0 0)) bx po ps rows T' r' str' x' ix' :=
 (((((h.set 0 (.int .i64 T') rfl).set 1 (.string r') rfl).set 2 (.string str') rfl).set 3 (.float .f64 x') rfl).set 4 (.int .i64 ix') rfl).set 5 (.slice none 0 0) rfl
theorem Fb.called (h : Fb B w W bx po ps rows T r str x ix) {rows' : List (List Value)} (hl : Li B po ps rows' W2) (hk : Keep66 W W2) (hb : Below B W W2) : Fb B w W2 bx po ps rows' T r str x ix := ⟨hk _ _ _ h.hb, hl, h.be.trans hb, h.bb⟩
end
theorem fel_calls (s : ByteArray) (hz : s.size ≤ 65536) (w0 w : World) (hw : Below w0.heap.size w0 w) (B po ps : Nat) (hB : w0.heap.size ≤ B) (L : List VR) (hL : Vt s w0 0 L) (hLl : L.length ≤ 100000) (hI : Li B po ps [] w) :
  Calls Tryz.prog 37 #[.string s, .func (.func 38) #[] #[.pointer (some ⟨po, 0, none⟩), .pointer (some ⟨ps, 0, none⟩)]] w fun e w' => e = .returned (.tuple #[]) ∧ Li B po ps (L.map (rowOf s)) w' ∧ Below B w w' := by
 have HW := Aside0.mk hw
 have HL := Aside0.mk hL
 have hbz := below_alloc (Below.refl w.heap.size w) (.cells (cl66 0 ⟨#[]⟩ ⟨#[]⟩ 0 0) 66)
 have H0 := Aside0.mk (show Fb B w (w.alloc (.cells (cl66 0 ⟨#[]⟩ ⟨#[]⟩ 0 0) 66)) w.heap.size po ps [] 0 ⟨#[]⟩ ⟨#[]⟩ 0 0 from ⟨heap_alloc_new w _, hI.keep (b0 := 0) (.of_below hbz (Nat.zero_le _)), hbz.mono hI.bw, hI.bw⟩)
 clear hL hI hw hbz
 go_enter Tryz.func37, Tryz.ntmps37
 go_wp2_with fail
 generalize w.heap.size = bx at *
 go_loopg [5, 6] L.length (fun kq v5 v6 w' => ∃ (i : Int) (rest : List VR) (done : List VR) (T : Int) (r str : ByteArray) (x : Nat) (ix : Int), v5 = .int .i64 i ∧ kq = rest.length ∧ Aside0 (Vt s w0 i rest) ∧ Aside0 (L = done ++ rest) ∧ Aside0 (Fb B w w' bx po ps (done.map (rowOf s)) T r str x ix))
 case atStart => exact ⟨0, L, [], _, _, _, _, _, rfl, rfl, HL, ⟨rfl⟩, H0⟩
 clear H0 HL
 obtain ⟨i, rest, done, T, r, str, x, ix, rfl, hk, HV, HD, HF⟩ := hrel
 cases rest with
 | nil =>
  obtain ⟨h0, h1, h2⟩ := HV.out.inv0
  have HP := Aside0.mk (pany_none s (by omega) i h0 h1 h2)
  clear h0 h1 h2 HV
  have hD := HD.out
  rw [List.append_nil] at hD
  subst hD
  clear HD
  go_upto_region 3 with (go_at_call 62; refine (HP.out _).mono ?_; rintro e w2 ⟨rfl, hb⟩; have H2 := Aside0.mk (HF.out.below hb); clear hb; have f0 := blk_frozen H2.out.hb; obtain ⟨n0, n1, n2, n3, n4, n5⟩ := cells6 H2.out.hb)
  have H3 := Aside0.mk (H2.out.st66 0 ⟨#[]⟩ ⟨#[]⟩ 0 0)
  clear H2 HF f0 n0 n1 n2 n3 n4 n5
  generalize hW : st66 w2 bx _ _ _ _ _ _ = W3 at H3
  unfold st66 at hW
  rw [hW]
  clear hW
  obtain ⟨n0, n1, n2, n3, n4, n5⟩ := cells6 H3.out.hb
  go_wp2_with (go_at_call 63; refine (exb_calls 0 ⟨#[]⟩ ⟨#[]⟩ 0 0 _ false (.inr ⟨rfl, rfl, rfl, rfl, rfl⟩)).mono ?_; rintro e w4 ⟨rfl, hb⟩; have H4 := Aside0.mk (H3.out.below hb); clear hb)
  go_end0
  exact ⟨rfl, H4.out.li, H4.out.be⟩
 | cons v rest =>
  obtain ⟨⟨h0, h1, h2⟩, hG, _, _, _, _, hTe, hV2⟩ := HV.out.inv
  obtain ⟨k0, k1, k2, _⟩ := hG.ok
  obtain ⟨hrs, _⟩ := ag_own hG
  have hr0 : 0 < (raw s v.c).size := by omega
  have HP := Aside0.mk (fun W hW => hTe W hW i h0 h1 h2)
  have HV2 := Aside0.mk hV2
  clear h0 h1 h2 HV hG hTe hV2 hrs k0 k1 k2
  have hdl : done.length ≤ 100000 := by
   have := congrArg List.length HD.out
   rw [List.length_append] at this
   omega
  go_upto_region 3 with (go_at_call 62; refine (HP.out _ (HW.out.trans (HF.out.be.mono hB))).mono ?_; rintro e w2 ⟨iy, rfl, hb⟩; have H2 := Aside0.mk (HF.out.below hb); clear hb; have f0 := blk_frozen H2.out.hb; obtain ⟨n0, n1, n2, n3, n4, n5⟩ := cells6 H2.out.hb)
  have H3 := Aside0.mk (H2.out.st66 (kT v.c.f0) (raw s v.c) v.str v.x iy)
  clear H2 HF f0 n0 n1 n2 n3 n4 n5
  generalize hW : st66 w2 bx _ _ _ _ _ _ = W3 at H3
  unfold st66 raw at hW
  rw [hW]
  clear hW
  obtain ⟨n0, n1, n2, n3, n4, n5⟩ := cells6 H3.out.hb
  go_wp2_with (first
   | (go_at_call 63; refine (exi_calls (kT v.c.f0) (raw s v.c) v.str v.x iy _ (.inr hr0)).mono ?_; rintro e w4 ⟨rfl, hb⟩; have H4 := Aside0.mk (H3.out.below hb); clear hb n0 n1 n2 n3 n4 n5; obtain ⟨n0, n1, n2, n3, n4, n5⟩ := cells6 H4.out.hb)
   | (go_at_call 38; refine (cl38_calls B po ps (done.map (rowOf s)) _ H4.out.li (kT v.c.f0) (raw s v.c) v.str v.x iy (.inr hr0) (by rw [List.length_map]; omega)).mono ?_; rintro e w5 ⟨rfl, hl, hk, hb⟩; have H5 := Aside0.mk (H4.out.called hl hk hb); clear hl hk hb))
  go_roundg rest.length
  case measure => simp at hk; omega
  case rel => exact ⟨v.c.f2, rest, done ++ [v], _, _, _, _, _, rfl, rfl, HV2, ⟨by rw [HD.out]; simp⟩, ⟨by rw [List.map_append]; exact H5.out⟩⟩
def GL (s : ByteArray) (L : List VR) (w : World) (e : Ending) (w' : World) : Prop := ∃ (A : Option Addr) (c : Nat), e = .returned (.slice A L.length c) ∧ Below w.heap.size w w' ∧ Kd.R (Kd.raw 5) 41 w' w.heap.size (fun _ => True) (.slice A L.length c) (L.map (rowOf s))
theorem li_new (w : World) : Li w.heap.size (w.heap.size + 1) w.heap.size [] ((w.alloc (.cells #[.int .i64 0] 3)).alloc (.cells #[.slice none 0 0] 37)) := by
 have e : (w.alloc (.cells #[.int .i64 0] 3)).heap.size = w.heap.size + 1 := by simp
 have hn := heap_alloc_new (w.alloc (.cells #[.int .i64 0] 3)) (.cells #[.slice none 0 0] 37)
 rw [e] at hn
 exact ⟨⟨_, hn, Kd.R_nil _ _ _ _ _⟩, (Below.heap_alloc _ _ _ (by omega)).trans (heap_alloc_new w _), by omega, Nat.le_refl _, by simp; omega⟩
theorem gjlines_calls (s : ByteArray) (hz : s.size ≤ 65536) (w0 w : World) (hw : Below w0.heap.size w0 w) (L : List VR) (hL : Vt s w0 0 L) (hLl : L.length ≤ 100000) :
  Calls Tryz.prog 13 #[.string s, .int .i64 0] w (GL s L w) := by
 have hba : Below w.heap.size w ((w.alloc (.cells #[.int .i64 0] 3)).alloc (.cells #[.slice none 0 0] 37)) := below_alloc (below_alloc (Below.refl _ _) _) _
 have HC := Aside0.mk (fel_calls s hz w0 _ (hw.trans (hba.mono hw.size)) w.heap.size (w.heap.size + 1) w.heap.size hw.size L hL hLl (li_new w))
 have HB := Aside0.mk hba
 have hmf : ∀ (fn : Fn) (first cap : Array Value) (w : World), (Instr.makeFunc fn first cap).run Tryz.prog w = .ok (.func fn first cap) w := fun _ _ _ _ => rfl
 clear hL hw hba
 go_enter Tryz.func13, Tryz.ntmps13
 go_upto_region 2 with fail
 generalize ((w.alloc (.cells #[.int .i64 0] 3)).alloc (.cells #[.slice none 0 0] 37)) = W1 at *
 go_upto_region 3 with (go_at_call 37; refine HC.out.mono ?_; rintro e w2 ⟨rfl, hl, hb⟩; have H2 := Aside0.mk (And.intro hl (HB.out.trans hb)); clear hl hb)
 obtain ⟨⟨v, q1, q2⟩, _, _, _, _⟩ := H2.out.1
 obtain ⟨A, c, hv⟩ := Kd.R_slice q2
 rw [List.length_map] at hv
 subst hv
 have o0 := blk_cell q1 0
 have HQ := Aside0.mk q2
 clear q1 q2
 go_wp2_with fail
 go_ret
 exact ⟨A, c, rfl, H2.out.2, HQ.out⟩
set_option maxHeartbeats 4000000
set_option maxRecDepth 8192
theorem anyEnd (P : Ending → World → Prop) (e T : Int) (raw str : ByteArray) (x : Nat) (ok : Bool) (W : World) (g : Nat) (tm : Array Value) (h4 : tm.getD 4 undef = .int .i64 e) (h5 : tm.getD 5 undef = .pointer (some ⟨g, 0, none⟩)) (h6 : tm.getD 6 undef = .bool ok)
  (hg : W.heap[g]? = some (.cells #[.int .i64 T, .string raw, .string str, .float .f64 x, .bool ok] 41 (0, 0))) (hb : P (.returned (.tuple #[.int .i64 e, r41b T raw str x ok, .bool ok])) W) : bodyPost Tryz.prog Tryz.f14 P .ret ⟨tm, []⟩ W := by
 have n0 := blk_cell hg 0
 have n1 := blk_cell hg 1
 have n2 := blk_cell hg 2
 have n3 := blk_cell hg 3
 have n4 := blk_cell hg 4
 refine bodyPost_ret (v := .tuple #[.int .i64 e, r41b T raw str x ok, .bool ok]) ?_ rfl hb
 simp only [results, Tryz.results14]
 have h4' := h4
 have h5' := h5
 have h6' := h6
 simp only [Array.getD_eq_getD_getElem?] at h4' h5' h6'
 simp [go_sem, h4, h4', h5, h5', h6, h6', n0, n1, n2, n3, n4, r41b]
theorem anyat_calls (s : ByteArray) (i e1 T : Int) (raw str : ByteArray) (x : Nat) (ok : Bool) (w : World) (hT : (ok = true ∧ (T ≠ 0 ∨ 0 < raw.size)) ∨ (ok = false ∧ T = 0 ∧ raw = ⟨#[]⟩ ∧ str = ⟨#[]⟩ ∧ x = 0)) (hc : ∀ W, Below w.heap.size w W → Calls Tryz.prog 62 #[.string s, .int .i64 i, .bool true] W (DA e1 T raw str x ok W)) :
  Calls Tryz.prog 14 #[.string s, .int .i64 i] w (GA e1 T raw str x ok w) := by
 have HN := Aside0.mk (NewB.new w #[.int .i64 0, .string ⟨#[]⟩, .string ⟨#[]⟩, .float .f64 0, .bool false] 41)
 have HC := Aside0.mk (door_calls s i e1 T raw str x ok (w.alloc (.cells #[.int .i64 0, .string ⟨#[]⟩, .string ⟨#[]⟩, .float .f64 0, .bool false] 41)) (fun W hb => hc W (below_then HN.out.be HN.out.be.size hb)))
 have HX := Aside0.mk hT
 clear hc hT
 go_enter Tryz.func14, Tryz.ntmps14
 go_upto_region 2 with (go_at_call 40; refine HC.out.mono ?_; rintro e w2 ⟨ix, rfl, hb⟩; have H2 := Aside0.mk (HN.out.below hb); clear hb; have q := heap_alloc_new w2 (.cells (cl66 0 ⟨#[]⟩ ⟨#[]⟩ 0 0) 66); have f0 := blk_frozen q; obtain ⟨n0, n1, n2, n3, n4, n5⟩ := cells6 q)
 have H3 := Aside0.mk (And.intro (heap_alloc_new w2 (.cells #[.int .i64 T, .string raw, .string str, .float .f64 x, .int .i64 ix, .slice none 0 0] 66)) (H2.out.below (below_alloc (Below.refl _ _) (.cells #[.int .i64 T, .string raw, .string str, .float .f64 x, .int .i64 ix, .slice none 0 0] 66))))
 clear H2 HN q f0 n0 n1 n2 n3 n4 n5
 generalize w2.alloc (.cells #[.int .i64 T, .string raw, .string str, .float .f64 x, .int .i64 ix, .slice none 0 0] 66) = W3 at *
 generalize w2.heap.size = g1 at *
 obtain ⟨n0, n1, n2, n3, n4, n5⟩ := cells6 H3.out.1
 go_wp2_with (go_at_call 39; refine (gjb_calls T raw str x ix _ ok HX.out).mono ?_; rintro e w4 ⟨rfl, hb⟩; simp only [r41b]; have H4 := Aside0.mk (H3.out.2.below hb); clear hb n0 n1 n2 n3 n4 n5; have f0 := blk_frozen H4.out.hg; have n0 := blk_cell H4.out.hg 0; have n1 := blk_cell H4.out.hg 1; have n2 := blk_cell H4.out.hg 2; have n3 := blk_cell H4.out.hg 3; have n4 := blk_cell H4.out.hg 4)
 have HF := Aside0.mk (((((H4.out.set 0 (.int .i64 T) rfl).set 1 (.string raw) rfl).set 2 (.string str) rfl).set 3 (.float .f64 x) rfl).set 4 (.bool ok) rfl)
 exact anyEnd _ e1 T raw str x ok _ _ _ rfl rfl rfl HF.out.hg ⟨rfl, HF.out.be⟩
theorem kind_calls (K : Int) (h : 0 ≤ K ∧ K ≤ 6) (w : World) : Calls Tryz.prog 41 #[.int .i64 K] w fun e w' => e = .returned (.int .i64 (kT K)) ∧ w' = w := by
 have h7 : K = 0 ∨ K = 1 ∨ K = 2 ∨ K = 3 ∨ K = 4 ∨ K = 5 ∨ K = 6 := by omega
 clear h
 rcases h7 with rfl | rfl | rfl | rfl | rfl | rfl | rfl
 all_goals go_enter Tryz.func41, Tryz.ntmps41
 all_goals go_wp2_with fail
 all_goals go_ret
 all_goals exact ⟨rfl, rfl⟩
theorem alike_calls (T : Int) (raw str : ByteArray) (x : Nat) (ok : Bool) (w : World) : Calls Tryz.prog 15 #[r41b T raw str x ok, r41b T raw str x ok] w fun e w' => e = .returned (.bool true) ∧ Below w.heap.size w w' := by
 simp only [r41b]
 have h1 := heap_alloc_new w (.cells #[.int .i64 T, .string raw, .string str, .float .f64 x, .bool ok] 41)
 generalize ho : (FloatKind.f64.format.order x x == some Ordering.eq) = b
 have hne : (FloatKind.f64.format.order x x != some Ordering.eq) = !b := by rw [← ho]; rfl
 cases b
 all_goals simp only [Bool.not_true, Bool.not_false] at hne
 all_goals go_enter Tryz.func15, Tryz.ntmps15
 all_goals go_wp2_with fail
 all_goals go_ret
 all_goals exact ⟨rfl, below_alloc (below_alloc (Below.refl _ _) _) _⟩
end Go.Proofs.YtgiioglmkogpkaaGreatDoor.F
namespace Go.Proofs.YtgiioglmkogpkaaGreatDoor.F
open Go.RowKit Go.Proofs.YtgiioglmkogpkaaGreatDoorW.PrintWords Go.Proofs.YtgiioglmkogpkaaGreatDoorW.PrintLast Go.Proofs.YtgiioglmkogpkaaGreatDoorW.PrintMore
open M L V
set_option maxHeartbeats 4000000
set_option maxRecDepth 8192
structure Bx2 (w W : World) (t : S25) (A2 A3 B2 B3 : Option Addr) (c2 c3 d2 d3 : Nat) : Prop where
 h0 : W.heap[w.heap.size]? = some (.cells #[.int .i64 t.f0, .string t.f1, .slice A2 t.f2.length c2, .slice A3 t.f3.length c3] 25 (0, 0))
 h1 : W.heap[w.heap.size + 1]? = some (.cells #[.int .i64 t.f0, .string t.f1, .slice B2 t.f2.length d2, .slice B3 t.f3.length d3] 25 (0, 0))
 be : Below w.heap.size w W
section
variable {w W W2 : World} {t : S25} {A2 A3 B2 B3 : Option Addr} {c2 c3 d2 d3 : Nat}
theorem Bx2.new (w : World) (t : S25) (A2 A3 B2 B3 : Option Addr) (c2 c3 d2 d3 : Nat) : Bx2 w ((w.alloc (.cells #[.int .i64 t.f0, .string t.f1, .slice A2 t.f2.length c2, .slice A3 t.f3.length c3] 25)).alloc (.cells #[.int .i64 t.f0, .string t.f1, .slice B2 t.f2.length d2, .slice B3 t.f3.length d3] 25)) t A2 A3 B2 B3 c2 c3 d2 d3 := by
 have e := heap_alloc_new (w.alloc (.cells #[.int .i64 t.f0, .string t.f1, .slice A2 t.f2.length c2, .slice A3 t.f3.length c3] 25)) (.cells #[.int .i64 t.f0, .string t.f1, .slice B2 t.f2.length d2, .slice B3 t.f3.length d3] 25)
 rw [show (w.alloc (.cells #[.int .i64 t.f0, .string t.f1, .slice A2 t.f2.length c2, .slice A3 t.f3.length c3] 25)).heap.size = w.heap.size + 1 by simp] at e
 exact ⟨(Below.heap_alloc _ _ _ (by simp)).trans (heap_alloc_new w _), e, below_alloc (below_alloc (Below.refl _ _) _) _⟩
theorem Bx2.below (h : Bx2 w W t A2 A3 B2 B3 c2 c3 d2 d3) (hb : Below W.heap.size W W2) : Bx2 w W2 t A2 A3 B2 B3 c2 c3 d2 d3 :=
 ⟨(hb.block _ (blk_lt h.h0)).trans h.h0, (hb.block _ (blk_lt h.h1)).trans h.h1, below_then h.be h.be.size hb⟩
theorem Bx2.drewN (h : Bx2 w W t A2 A3 B2 B3 c2 c3 d2 d3) (n : Nat) : Bx2 w (W.drewN n) t A2 A3 B2 B3 c2 c3 d2 d3 := ⟨h.h0, h.h1, pw_below_drewN h.be n⟩
theorem Bx2.cells (h : Bx2 w W t A2 A3 B2 B3 c2 c3 d2 d3) : W.cell? ⟨w.heap.size, 0, none⟩ = some (.int .i64 t.f0) ∧ W.cell? ⟨w.heap.size, 1, none⟩ = some (.string t.f1) ∧ W.cell? ⟨w.heap.size, 2, none⟩ = some (.slice A2 t.f2.length c2) ∧ W.cell? ⟨w.heap.size, 3, none⟩ = some (.slice A3 t.f3.length c3) ∧
  W.cell? ⟨w.heap.size + 1, 0, none⟩ = some (.int .i64 t.f0) ∧ W.cell? ⟨w.heap.size + 1, 1, none⟩ = some (.string t.f1) ∧ W.cell? ⟨w.heap.size + 1, 2, none⟩ = some (.slice B2 t.f2.length d2) ∧ W.cell? ⟨w.heap.size + 1, 3, none⟩ = some (.slice B3 t.f3.length d3) :=
 ⟨blk_cell h.h0 0, blk_cell h.h0 1, blk_cell h.h0 2, blk_cell h.h0 3, blk_cell h.h1 0, blk_cell h.h1 1, blk_cell h.h1 2, blk_cell h.h1 3⟩
end
theorem add_next (ad : Addr) (n j : Nat) (hj : j ≠ 0) : (⟨(ad.add n).block, (ad.add n).off + j, none⟩ : Addr) = ad.add (n + j) := by
 unfold Addr.add
 rw [if_neg (show ¬ n + j = 0 by omega)]
 split
 ·rename_i h; subst h; simp
 ·simp; omega
structure El (w W : World) (t : S25) (A2 A3 B2 B3 : Option Addr) (c2 c3 d2 d3 : Nat) (i : Nat) (x : S25) (ad bd : Addr) (P2 P3 Q2 Q3 : Option Addr) (p2 p3 q2 q3 : Nat) : Prop where
 tw : Bx2 w W t A2 A3 B2 B3 c2 c3 d2 d3
 a : W.cell? (ad.add (i * 4 + 0)) = some (.int .i64 x.f0) ∧ W.cell? (ad.add (i * 4 + 1)) = some (.string x.f1) ∧ W.cell? (ad.add (i * 4 + 2)) = some (.slice P2 x.f2.length p2) ∧ W.cell? (ad.add (i * 4 + 3)) = some (.slice P3 x.f3.length p3)
 b : W.cell? (bd.add (i * 4 + 0)) = some (.int .i64 x.f0) ∧ W.cell? (bd.add (i * 4 + 1)) = some (.string x.f1) ∧ W.cell? (bd.add (i * 4 + 2)) = some (.slice Q2 x.f2.length q2) ∧ W.cell? (bd.add (i * 4 + 3)) = some (.slice Q3 x.f3.length q3)
 na : NodeIn W x P2 P3 p2 p3
 nb : NodeIn W x Q2 Q3 q2 q3
theorem NodeIn.below {w w2 : World} {t : S25} {A2 A3 : Option Addr} {c2 c3 : Nat} (h : NodeIn w t A2 A3 c2 c3) (hb : Below w.heap.size w w2) : NodeIn w2 t A2 A3 c2 c3 := ⟨Kd.C_below h.1 hb, h.2.1, Kd.C_below h.2.2.1 hb, h.2.2.2⟩
theorem node_at {w : World} {xs : List S25} {A : Option Addr} (h : Kd.C k25 w A xs.length xs) (i : Nat) (hi : i < xs.length) : ∃ (ad : Addr) (P2 P3 : Option Addr) (p2 p3 : Nat), A = some ad ∧ NodeIn w xs[i] P2 P3 p2 p3 ∧
  w.cell? (ad.add (i * 4 + 0)) = some (.int .i64 xs[i].f0) ∧ w.cell? (ad.add (i * 4 + 1)) = some (.string xs[i].f1) ∧ w.cell? (ad.add (i * 4 + 2)) = some (.slice P2 xs[i].f2.length p2) ∧ w.cell? (ad.add (i * 4 + 3)) = some (.slice P3 xs[i].f3.length p3) := by
 obtain ⟨ad, c, hA, hl, hK, hc⟩ := Kd.C_get h xs[i] (i : Int) (by omega) (by omega)
 rw [Int.toNat_natCast, List.getD_eq_getElem?_getD, List.getElem?_eq_getElem hi] at hK
 simp only [Option.getD_some] at hK
 obtain ⟨P2, p2, P3, p3, rfl, l2, g2, l3, g3⟩ := k25_open hK
 rw [Int.toNat_natCast] at hc
 have hs : k25.sz = 4 := rfl
 rw [hs] at hc
 exact ⟨ad, P2, P3, p2, p3, hA, ⟨g2, l2, g3, l3⟩, hc 0 _ rfl, hc 1 _ rfl, hc 2 _ rfl, hc 3 _ rfl⟩
section
variable {w W W2 : World} {t : S25} {A2 A3 B2 B3 : Option Addr} {c2 c3 d2 d3 : Nat} {i : Nat} {x : S25} {ad bd : Addr} {P2 P3 Q2 Q3 : Option Addr} {p2 p3 q2 q3 : Nat}
theorem El.below (hb : Below W.heap.size W W2) (h : El w W t A2 A3 B2 B3 c2 c3 d2 d3 i x ad bd P2 P3 Q2 Q3 p2 p3 q2 q3) : El w W2 t A2 A3 B2 B3 c2 c3 d2 d3 i x ad bd P2 P3 Q2 Q3 p2 p3 q2 q3 :=
 ⟨h.tw.below hb, ⟨pw_cell_below hb h.a.1, pw_cell_below hb h.a.2.1, pw_cell_below hb h.a.2.2.1, pw_cell_below hb h.a.2.2.2⟩, ⟨pw_cell_below hb h.b.1, pw_cell_below hb h.b.2.1, pw_cell_below hb h.b.2.2.1, pw_cell_below hb h.b.2.2.2⟩, h.na.below hb, h.nb.below hb⟩
theorem El.drew (h : El w W t A2 A3 B2 B3 c2 c3 d2 d3 i x ad bd P2 P3 Q2 Q3 p2 p3 q2 q3) : El w W.drew t A2 A3 B2 B3 c2 c3 d2 d3 i x ad bd P2 P3 Q2 Q3 p2 p3 q2 q3 := El.below (below_drew (Below.refl _ _)) h
theorem El.all (h : El w W t A2 A3 B2 B3 c2 c3 d2 d3 i x ad bd P2 P3 Q2 Q3 p2 p3 q2 q3) : El w W t A2 A3 B2 B3 c2 c3 d2 d3 i x ad bd P2 P3 Q2 Q3 p2 p3 q2 q3 ∧ W.cell? ⟨w.heap.size, 3, none⟩ = some (.slice A3 t.f3.length c3) ∧ W.cell? ⟨w.heap.size + 1, 3, none⟩ = some (.slice B3 t.f3.length d3) ∧
  W.cell? (ad.add (i * 4)) = some (.int .i64 x.f0) ∧ W.cell? ⟨(ad.add (i * 4)).block, (ad.add (i * 4)).off + 1, none⟩ = some (.string x.f1) ∧ W.cell? ⟨(ad.add (i * 4)).block, (ad.add (i * 4)).off + 2, none⟩ = some (.slice P2 x.f2.length p2) ∧ W.cell? ⟨(ad.add (i * 4)).block, (ad.add (i * 4)).off + 3, none⟩ = some (.slice P3 x.f3.length p3) ∧
  W.cell? (bd.add (i * 4)) = some (.int .i64 x.f0) ∧ W.cell? ⟨(bd.add (i * 4)).block, (bd.add (i * 4)).off + 1, none⟩ = some (.string x.f1) ∧ W.cell? ⟨(bd.add (i * 4)).block, (bd.add (i * 4)).off + 2, none⟩ = some (.slice Q2 x.f2.length q2) ∧ W.cell? ⟨(bd.add (i * 4)).block, (bd.add (i * 4)).off + 3, none⟩ = some (.slice Q3 x.f3.length q3) := by
 rw [add_next ad _ 1 (by decide), add_next ad _ 2 (by decide), add_next ad _ 3 (by decide), add_next bd _ 1 (by decide), add_next bd _ 2 (by decide), add_next bd _ 3 (by decide)]
 exact ⟨h, h.tw.cells.2.2.2.1, h.tw.cells.2.2.2.2.2.2.2, h.a.1, h.a.2.1, h.a.2.2.1, h.a.2.2.2, h.b.1, h.b.2.1, h.b.2.2.1, h.b.2.2.2⟩
end
theorem same_calls {t : S25} (h : SB t) : ∀ (A2 A3 B2 B3 : Option Addr) (c2 c3 d2 d3 : Nat) (w : World), NodeIn w t A2 A3 c2 c3 → NodeIn w t B2 B3 d2 d3 →
  Calls Tryz.prog 29 #[.agg #[.int .i64 t.f0, .string t.f1, .slice A2 t.f2.length c2, .slice A3 t.f3.length c3], .agg #[.int .i64 t.f0, .string t.f1, .slice B2 t.f2.length d2, .slice B3 t.f3.length d3]] w fun e w' => e = .returned (.bool true) ∧ Below w.heap.size w w' := by
 induction h with
 | mk t h2 h3 h4 ih =>
 intro A2 A3 B2 B3 c2 c3 d2 d3 w hA hB
 have HN := Aside0.mk (And.intro hA hB)
 have HW := Aside0.mk (Bx2.new w t A2 A3 B2 B3 c2 c3 d2 d3)
 have HI := Aside0.mk ih
 have HL := Aside0.mk (And.intro h2 h3)
 obtain ⟨m0, m1, m2, m3, m4, m5, m6, m7⟩ := HW.out.cells
 clear h4 hA hB ih h2 h3
 go_enter Tryz.func29, Tryz.ntmps29
 go_wp2_with fail
 generalize (w.alloc (.cells #[.int .i64 t.f0, .string t.f1, .slice A2 t.f2.length c2, .slice A3 t.f3.length c3] 25)).alloc (.cells #[.int .i64 t.f0, .string t.f1, .slice B2 t.f2.length d2, .slice B3 t.f3.length d3] 25) = W0 at *
 clear m0 m1 m2 m3 m4 m5 m6 m7
 go_loopg [5] t.f2.length (fun kq v5 w' => ∃ i : Nat, v5 = .int .i64 (i : Int) ∧ kq + i = t.f2.length ∧ Aside0 (Bx2 w w' t A2 A3 B2 B3 c2 c3 d2 d3))
 case atStart => exact ⟨0, rfl, rfl, HW⟩
 obtain ⟨i, rfl, hk, HT⟩ := hrel
 obtain ⟨m0, m1, m2, m3, m4, m5, m6, m7⟩ := HT.out.cells
 by_cases hi : i < t.f2.length
 ·have hi1 : (i : Int) < (t.f2.length : Int) := by omega
  have hi0 : (0 : Int) ≤ (i : Int) := by omega
  obtain ⟨ad, hA, ca⟩ := Kd.at_string (Kd.C_below HN.out.1.1 HT.out.be) i (by omega) (by omega)
  obtain ⟨bd, hB, cb⟩ := Kd.at_string (Kd.C_below HN.out.2.1 HT.out.be) i (by omega) (by omega)
  simp only [Int.toNat_natCast] at ca cb
  obtain ⟨q, rfl⟩ : ∃ q, gk = q + 1 := ⟨gk - 1, by omega⟩
  have hq : q + (i + 1) = t.f2.length := by omega
  have hw : wrap64 ((i : Int) + 1) = i + 1 := by rw [w64 (by have := HL.out.1; omega) (by have := HL.out.1; omega)]
  go_wp2_with fail
  go_quiet (fail)
  go_wp2_with fail
  go_roundg q
  case measure => omega
  case rel => exact ⟨i + 1, congrArg (Value.int .i64) (by omega), hq, ⟨HT.out.drewN _⟩⟩
 have hi1 : ¬ (i : Int) < (t.f2.length : Int) := by omega
 clear hk hi
 go_wp2_with fail
 clear hi1 m0 m1 m2 m3 m4 m5 m6 m7
 go_loopg [6] t.f3.length (fun kq v6 w' => ∃ i : Nat, v6 = .int .i64 (i : Int) ∧ kq + i = t.f3.length ∧ Aside0 (Bx2 w w' t A2 A3 B2 B3 c2 c3 d2 d3))
 case atStart => exact ⟨0, rfl, rfl, HT⟩
 obtain ⟨i2, rfl, hk, HT2⟩ := hrel
 obtain ⟨m0, m1, m2, m3, m4, m5, m6, m7⟩ := HT2.out.cells
 by_cases hi : i2 < t.f3.length
 rotate_left
 ·have hi1 : ¬ (i2 : Int) < (t.f3.length : Int) := by omega
  clear hk hi
  go_wp2_with fail
  go_ret
  exact ⟨rfl, HT2.out.be⟩
 have hi1 : (i2 : Int) < (t.f3.length : Int) := by omega
 have hi0 : (0 : Int) ≤ (i2 : Int) := by omega
 obtain ⟨ad, P2, P3, p2, p3, hA, na, ca⟩ := node_at (Kd.C_below HN.out.1.2.2.1 HT2.out.be) i2 hi
 obtain ⟨bd, Q2, Q3, q2, q3, hB, nb, cb⟩ := node_at (Kd.C_below HN.out.2.2.2.1 HT2.out.be) i2 hi
 subst hA hB
 have E0 : El w _ t A2 (some ad) B2 (some bd) c2 c3 d2 d3 i2 (t.f3[i2]) ad bd P2 P3 Q2 Q3 p2 p3 q2 q3 := ⟨HT2.out, ca, cb, na, nb⟩
 have E1 := E0.drew
 have HX := Aside0.mk (HI.out (t.f3[i2]) (List.getElem_mem hi))
 generalize t.f3[i2] = x at *
 obtain ⟨q, rfl⟩ : ∃ q, gk = q + 1 := ⟨gk - 1, by omega⟩
 have hq : q + (i2 + 1) = t.f3.length := by omega
 have hw : wrap64 ((i2 : Int) + 1) = i2 + 1 := by rw [w64 (by have := HL.out.2; omega) (by have := HL.out.2; omega)]
 clear m0 m1 m2 m3 m4 m5 m6 m7 ca cb na nb
 obtain ⟨_, m0, m1, m2, m3, m4, m5, m6, m7, m8, m9⟩ := E0.all
 go_wp2_with fail
 go_region_held3 (fun w' => El w w' t A2 (some ad) B2 (some bd) c2 c3 d2 d3 i2 x ad bd P2 P3 Q2 Q3 p2 p3 q2 q3 ∧ w'.cell? ⟨w.heap.size, 3, none⟩ = some (.slice (some ad) t.f3.length c3) ∧ w'.cell? ⟨w.heap.size + 1, 3, none⟩ = some (.slice (some bd) t.f3.length d3) ∧
   w'.cell? (ad.add (i2 * 4)) = some (.int .i64 x.f0) ∧ w'.cell? ⟨(ad.add (i2 * 4)).block, (ad.add (i2 * 4)).off + 1, none⟩ = some (.string x.f1) ∧ w'.cell? ⟨(ad.add (i2 * 4)).block, (ad.add (i2 * 4)).off + 2, none⟩ = some (.slice P2 x.f2.length p2) ∧ w'.cell? ⟨(ad.add (i2 * 4)).block, (ad.add (i2 * 4)).off + 3, none⟩ = some (.slice P3 x.f3.length p3) ∧
   w'.cell? (bd.add (i2 * 4)) = some (.int .i64 x.f0) ∧ w'.cell? ⟨(bd.add (i2 * 4)).block, (bd.add (i2 * 4)).off + 1, none⟩ = some (.string x.f1) ∧ w'.cell? ⟨(bd.add (i2 * 4)).block, (bd.add (i2 * 4)).off + 2, none⟩ = some (.slice Q2 x.f2.length q2) ∧ w'.cell? ⟨(bd.add (i2 * 4)).block, (bd.add (i2 * 4)).off + 3, none⟩ = some (.slice Q3 x.f3.length q3))
  ((go_split_ands; first | exact El.all (by assumption) | exact El.all (El.below (by assumption) (by assumption))))
  (first | (go_at_call 29; refine (HX.out P2 P3 Q2 Q3 p2 p3 q2 q3 _ ?_ ?_).mono ?_; exact El.na (by assumption); exact El.nb (by assumption); rintro e w5 ⟨rfl, hb⟩))
 go_split_ands
 go_wp2_with fail
 go_roundg q
 case measure => omega
 case rel => exact ⟨i2 + 1, congrArg (Value.int .i64) (by omega), hq, ⟨El.tw (by assumption)⟩⟩
set_option maxHeartbeats 8000000
set_option maxRecDepth 8192
attribute [local go_sem] run_store_float
abbrev nd25 (t : S25) (A2 A3 : Option Addr) (c2 c3 : Nat) : Array Value := #[.int .i64 t.f0, .string t.f1, .slice A2 t.f2.length c2, .slice A3 t.f3.length c3]
structure Is (raw str : ByteArray) (x : Nat) (t : S25) (A2 A3 : Option Addr) (c2 c3 : Nat) (B2 B3 : Option Addr) (d2 d3 : Nat) (a n g : Nat) (W : World) : Prop where
 ha : W.heap[a]? = some (.cells #[.int .i64 (kT t.f0), .string raw, .string str, .float .f64 x, .bool true] 41 (0, 0))
 hn : W.heap[n]? = some (.cells (nd25 t A2 A3 c2 c3) 25 (0, 0))
 hg : W.heap[g]? = some (.cells (nd25 t B2 B3 d2 d3) 25 (0, 0))
 iA : NodeIn W t A2 A3 c2 c3
 iB : NodeIn W t B2 B3 d2 d3
section
variable {raw str : ByteArray} {x : Nat} {t : S25} {A2 A3 : Option Addr} {c2 c3 : Nat} {B2 B3 : Option Addr} {d2 d3 : Nat} {a n g : Nat} {W W2 : World}
theorem Is.below (h : Is raw str x t A2 A3 c2 c3 B2 B3 d2 d3 a n g W) (hb : Below W.heap.size W W2) : Is raw str x t A2 A3 c2 c3 B2 B3 d2 d3 a n g W2 :=
 ⟨(hb.block _ (blk_lt h.ha)).trans h.ha, (hb.block _ (blk_lt h.hn)).trans h.hn, (hb.block _ (blk_lt h.hg)).trans h.hg, h.iA.below hb, h.iB.below hb⟩
theorem Is.cells (h : Is raw str x t A2 A3 c2 c3 B2 B3 d2 d3 a n g W) : (W.cell? ⟨a, 0, none⟩ = some (.int .i64 (kT t.f0)) ∧ W.cell? ⟨a, 1, none⟩ = some (.string raw) ∧ W.cell? ⟨a, 2, none⟩ = some (.string str) ∧ W.cell? ⟨a, 4, none⟩ = some (.bool true)) ∧
  (W.cell? ⟨n, 0, none⟩ = some (.int .i64 t.f0) ∧ W.cell? ⟨n, 1, none⟩ = some (.string t.f1) ∧ W.cell? ⟨n, 2, none⟩ = some (.slice A2 t.f2.length c2) ∧ W.cell? ⟨n, 3, none⟩ = some (.slice A3 t.f3.length c3)) ∧
  (W.cell? ⟨g, 0, none⟩ = some (.int .i64 t.f0) ∧ W.cell? ⟨g, 1, none⟩ = some (.string t.f1) ∧ W.cell? ⟨g, 2, none⟩ = some (.slice B2 t.f2.length d2) ∧ W.cell? ⟨g, 3, none⟩ = some (.slice B3 t.f3.length d3)) :=
 ⟨⟨blk_cell h.ha 0, blk_cell h.ha 1, blk_cell h.ha 2, blk_cell h.ha 4⟩, ⟨blk_cell h.hn 0, blk_cell h.hn 1, blk_cell h.hn 2, blk_cell h.hn 3⟩, ⟨blk_cell h.hg 0, blk_cell h.hg 1, blk_cell h.hg 2, blk_cell h.hg 3⟩⟩
end
theorem gjis_calls (raw str : ByteArray) (x : Nat) (t : S25) (A2 A3 : Option Addr) (c2 c3 : Nat) (w : World) (hN : NodeIn w t A2 A3 c2 c3) (hSB : SB t) (hK : 0 ≤ t.f0 ∧ t.f0 ≤ 6) (hR : ∀ W, Calls Tryz.prog 21 #[.string raw] W (RdG t true W)) (hS : t.f0 = 4 → str = t.f1) :
  Calls Tryz.prog 16 #[r41b (kT t.f0) raw str x true, .agg (nd25 t A2 A3 c2 c3)] w fun e w' => e = .returned (.bool true) ∧ Below w.heap.size w w' := by
 have e1 : (w.alloc (.cells #[.int .i64 (kT t.f0), .string raw, .string str, .float .f64 x, .bool true] 41)).heap.size = w.heap.size + 1 := by simp
 have q1 := heap_alloc_new w (.cells #[.int .i64 (kT t.f0), .string raw, .string str, .float .f64 x, .bool true] 41)
 have q2 := heap_alloc_new (w.alloc (.cells #[.int .i64 (kT t.f0), .string raw, .string str, .float .f64 x, .bool true] 41)) (.cells (nd25 t A2 A3 c2 c3) 25)
 rw [e1] at q2
 have q1' := (Below.heap_alloc (w.alloc (.cells #[.int .i64 (kT t.f0), .string raw, .string str, .float .f64 x, .bool true] 41)) (.cells (nd25 t A2 A3 c2 c3) 25) w.heap.size (by omega)).trans q1
 have hb0 : Below w.heap.size w ((w.alloc (.cells #[.int .i64 (kT t.f0), .string raw, .string str, .float .f64 x, .bool true] 41)).alloc (.cells (nd25 t A2 A3 c2 c3) 25)) := below_alloc (below_alloc (Below.refl _ _) _) _
 have H0 := Aside0.mk (And.intro q1' (And.intro q2 (And.intro (hN.below hb0) hb0)))
 have HC := Aside0.mk (And.intro hSB (And.intro hK (And.intro hR hS)))
 have n1 := blk_cell q1' 1
 clear e1 q1 q2 q1' hb0 hN hSB hK hR hS
 simp only [r41b, nd25] at *
 go_enter Tryz.func16, Tryz.ntmps16
 go_upto_region 1 with fail
 generalize ((w.alloc (.cells #[.int .i64 (kT t.f0), .string raw, .string str, .float .f64 x, .bool true] 41)).alloc (.cells #[.int .i64 t.f0, .string t.f1, .slice A2 t.f2.length c2, .slice A3 t.f3.length c3] 25)) = W1 at *
 generalize w.heap.size + 1 = n at *
 go_upto_region 2 with (go_at_call 21; refine (HC.out.2.2.1 _).mono ?_; rintro e w2 ⟨K', txt, B2, B3, n2, n3, d2, d3, ok, rfl, hb, rfl, hF⟩; obtain ⟨rfl, rfl, rfl, rfl, hNA⟩ := hF rfl; have H2 := Aside0.mk (And.intro hb hNA); clear hb hF hNA)
 have hba := below_alloc (Below.refl w2.heap.size w2) (.cells (nd25 t B2 B3 d2 d3) 25)
 have hb12 : Below W1.heap.size W1 (w2.alloc (.cells (nd25 t B2 B3 d2 d3) 25)) := below_then H2.out.1 H2.out.1.size hba
 have H3 := Aside0.mk (show Is raw str x t A2 A3 c2 c3 B2 B3 d2 d3 w.heap.size n w2.heap.size (w2.alloc (.cells (nd25 t B2 B3 d2 d3) 25)) ∧ Below w.heap.size w (w2.alloc (.cells (nd25 t B2 B3 d2 d3) 25)) from
  ⟨⟨(hb12.block _ (blk_lt H0.out.1)).trans H0.out.1, (hb12.block _ (blk_lt H0.out.2.1)).trans H0.out.2.1, heap_alloc_new w2 _, H0.out.2.2.1.below hb12, (H2.out.2.below hba).now⟩, below_then H0.out.2.2.2 H0.out.2.2.2.size hb12⟩)
 clear H0 H2 hba hb12 n1
 simp only [nd25] at H3
 generalize w2.alloc (.cells #[.int .i64 t.f0, .string t.f1, .slice B2 t.f2.length d2, .slice B3 t.f3.length d3] 25) = W3 at *
 generalize w2.heap.size = g at *
 have HY := Aside0.mk (show Is raw str x t A2 A3 c2 c3 B2 B3 d2 d3 w.heap.size n g W3.drew ∧ Below w.heap.size w W3.drew from ⟨H3.out.1.below (below_drew (Below.refl _ _)), below_drew H3.out.2⟩)
 clear H3
 refine wp_region_held_drew (S := (fun w' => Is raw str x t A2 A3 c2 c3 B2 B3 d2 d3 w.heap.size n g w')) (by kernel_rfl) HY.out.1 (fun hHeld => ?_)
 generalize W3.drew = W4 at *
 refine tkH (i := 0) (by simp only [gT, gS, gZ]; rfl) (by kernel_rfl) (by exact fun _ _ _ h => h) (.inl ⟨by rfl, fun w hSw => by obtain ⟨⟨a0, a1, a2, a4⟩, ⟨n0, n1, n2, n3⟩, ⟨g0, g1, g2, g3⟩⟩ := hSw.cells; go_simp <;> with_reducible rfl⟩) hHeld ?_
 (try simp only [aP, aN, sT, sZ, sS])
 refine tkH (i := 1) (by simp only [gT, gS, gZ]; rfl) (by kernel_rfl) (by exact fun _ _ _ h => h) (.inl ⟨by rfl, fun w hSw => by obtain ⟨⟨a0, a1, a2, a4⟩, ⟨n0, n1, n2, n3⟩, ⟨g0, g1, g2, g3⟩⟩ := hSw.cells; go_simp <;> with_reducible rfl⟩) hHeld ?_
 (try simp only [aP, aN, sT, sZ, sS])
 refine tkH (i := 2) (by simp only [gT, gS, gZ]; rfl) (by kernel_rfl) (by exact fun _ _ _ h => h) (.inl ⟨by rfl, fun w hSw => by obtain ⟨⟨a0, a1, a2, a4⟩, ⟨n0, n1, n2, n3⟩, ⟨g0, g1, g2, g3⟩⟩ := hSw.cells; go_simp <;> with_reducible rfl⟩) hHeld ?_
 (try simp only [aP, aN, sT, sZ, sS])
 refine tkH (i := 3) (by simp only [gT, gS, gZ]; rfl) (by kernel_rfl) (by exact fun _ _ _ h => h) (.inl ⟨by rfl, fun w hSw => by obtain ⟨⟨a0, a1, a2, a4⟩, ⟨n0, n1, n2, n3⟩, ⟨g0, g1, g2, g3⟩⟩ := hSw.cells; go_simp <;> with_reducible rfl⟩) hHeld ?_
 (try simp only [aP, aN, sT, sZ, sS])
 refine tkH (i := 4) (by simp only [gT, gS, gZ]; rfl) (by kernel_rfl) (by exact fun _ _ _ h => h) (.inl ⟨by rfl, fun w hSw => by obtain ⟨⟨a0, a1, a2, a4⟩, ⟨n0, n1, n2, n3⟩, ⟨g0, g1, g2, g3⟩⟩ := hSw.cells; go_simp <;> with_reducible rfl⟩) hHeld ?_
 (try simp only [aP, aN, sT, sZ, sS])
 refine tkH (i := 5) (by simp only [gT, gS, gZ]; rfl) (by kernel_rfl) (by exact fun _ _ _ h => h) (.inl ⟨by rfl, fun w hSw => by obtain ⟨⟨a0, a1, a2, a4⟩, ⟨n0, n1, n2, n3⟩, ⟨g0, g1, g2, g3⟩⟩ := hSw.cells; go_simp <;> with_reducible rfl⟩) hHeld ?_
 (try simp only [aP, aN, sT, sZ, sS])
 refine tkH (i := 6) (by simp only [gT, gS, gZ]; rfl) (by kernel_rfl) (by exact fun _ _ _ h => h) (.inl ⟨by rfl, fun w hSw => by obtain ⟨⟨a0, a1, a2, a4⟩, ⟨n0, n1, n2, n3⟩, ⟨g0, g1, g2, g3⟩⟩ := hSw.cells; go_simp <;> with_reducible rfl⟩) hHeld ?_
 (try simp only [aP, aN, sT, sZ, sS])
 refine tkH (i := 7) (by simp only [gT, gS, gZ]; rfl) (by kernel_rfl) (by exact fun _ _ _ h => h) (.inl ⟨by rfl, fun w hSw => by obtain ⟨⟨a0, a1, a2, a4⟩, ⟨n0, n1, n2, n3⟩, ⟨g0, g1, g2, g3⟩⟩ := hSw.cells; go_simp <;> with_reducible rfl⟩) hHeld ?_
 (try simp only [aP, aN, sT, sZ, sS])
 refine tkH (i := 8) (by simp only [gT, gS, gZ]; rfl) (by kernel_rfl) (by exact fun _ _ _ h => h) (.inl ⟨by rfl, fun w hSw => by obtain ⟨⟨a0, a1, a2, a4⟩, ⟨n0, n1, n2, n3⟩, ⟨g0, g1, g2, g3⟩⟩ := hSw.cells; go_simp <;> with_reducible rfl⟩) hHeld ?_
 (try simp only [aP, aN, sT, sZ, sS])
 refine tkH (i := 9) (by simp only [gT, gS, gZ]; rfl) (by kernel_rfl) (by exact fun _ _ _ h => h) (.inl ⟨by rfl, fun w hSw => by obtain ⟨⟨a0, a1, a2, a4⟩, ⟨n0, n1, n2, n3⟩, ⟨g0, g1, g2, g3⟩⟩ := hSw.cells; go_simp <;> with_reducible rfl⟩) hHeld ?_
 (try simp only [aP, aN, sT, sZ, sS])
 refine tkH (i := 10) (by simp only [gT, gS, gZ]; rfl) (by kernel_rfl) (by exact fun _ _ _ h => h) (.inl ⟨by rfl, fun w hSw => by obtain ⟨⟨a0, a1, a2, a4⟩, ⟨n0, n1, n2, n3⟩, ⟨g0, g1, g2, g3⟩⟩ := hSw.cells; go_simp <;> with_reducible rfl⟩) hHeld ?_
 (try simp only [aP, aN, sT, sZ, sS])
 refine tkH (i := 11) (by simp only [gT, gS, gZ]; rfl) (by kernel_rfl) (by exact fun _ _ _ h => h) (.inl ⟨by rfl, fun w hSw => by obtain ⟨⟨a0, a1, a2, a4⟩, ⟨n0, n1, n2, n3⟩, ⟨g0, g1, g2, g3⟩⟩ := hSw.cells; go_simp <;> with_reducible rfl⟩) hHeld ?_
 (try simp only [aP, aN, sT, sZ, sS])
 refine wpAnyH_ready (rs := [12]) (by kernel_rfl) (by simp) (AllReadyH.cons (o := ?_) ?_ (fun K hK => ?_) AllReadyH.nil)
 rotate_left 1
 ·(simp only [gT, gS, gZ]; rfl)
 go_simp
 (go_at_call 41; refine (kind_calls t.f0 HC.out.2.1 _).mono ?_; rintro e w5 ⟨rfl, hw5⟩; obtain rfl := hw5.symm; clear hw5)
 refine hK.out _ _ HY.out.1 (fun hHeld2 => ?_)
 clear hK K hHeld
 have hHeld := hHeld2
 clear hHeld2
 (try simp only [aP, aN, sT, sZ, sS])
 refine tkH (i := 13) (by simp only [gT, gS, gZ]; rfl) (by kernel_rfl) (by exact fun _ _ _ h => h) (.inl ⟨by rfl, fun w hSw => by obtain ⟨⟨a0, a1, a2, a4⟩, ⟨n0, n1, n2, n3⟩, ⟨g0, g1, g2, g3⟩⟩ := hSw.cells; go_simp <;> with_reducible rfl⟩) hHeld ?_
 (try simp only [aP, aN, sT, sZ, sS])
 refine tkH (i := 14) (by simp only [gT, gS, gZ]; rfl) (by kernel_rfl) (by exact fun _ _ _ h => h) (.inl ⟨by rfl, fun w hSw => by obtain ⟨⟨a0, a1, a2, a4⟩, ⟨n0, n1, n2, n3⟩, ⟨g0, g1, g2, g3⟩⟩ := hSw.cells; go_simp <;> with_reducible rfl⟩) hHeld ?_
 (try simp only [aP, aN, sT, sZ, sS])
 refine tkH (i := 15) (by simp only [gT, gS, gZ]; rfl) (by kernel_rfl) (by exact fun _ _ _ h => h) (.inl ⟨by rfl, fun w hSw => by obtain ⟨⟨a0, a1, a2, a4⟩, ⟨n0, n1, n2, n3⟩, ⟨g0, g1, g2, g3⟩⟩ := hSw.cells; go_simp <;> with_reducible rfl⟩) hHeld ?_
 (try simp only [aP, aN, sT, sZ, sS])
 refine tkH (i := 16) (by simp only [gT, gS, gZ]; rfl) (by kernel_rfl) (by exact fun _ _ _ h => h) (.inl ⟨by rfl, fun w hSw => by obtain ⟨⟨a0, a1, a2, a4⟩, ⟨n0, n1, n2, n3⟩, ⟨g0, g1, g2, g3⟩⟩ := hSw.cells; go_simp <;> with_reducible rfl⟩) hHeld ?_
 (try simp only [aP, aN, sT, sZ, sS])
 refine tkH (i := 17) (by simp only [gT, gS, gZ]; rfl) (by kernel_rfl) (by exact fun _ _ _ h => h) (.inl ⟨by rfl, fun w hSw => by obtain ⟨⟨a0, a1, a2, a4⟩, ⟨n0, n1, n2, n3⟩, ⟨g0, g1, g2, g3⟩⟩ := hSw.cells; go_simp <;> with_reducible rfl⟩) hHeld ?_
 (try simp only [aP, aN, sT, sZ, sS])
 refine wpAnyH_ready (rs := [18]) (by kernel_rfl) (by simp) (AllReadyH.cons (o := ?_) ?_ (fun K hK => ?_) AllReadyH.nil)
 rotate_left 1
 ·(simp only [gT, gS, gZ]; rfl)
 go_simp
 (go_at_call 29; refine (same_calls HC.out.1 _ _ _ _ _ _ _ _ _ HY.out.1.iB HY.out.1.iA).mono ?_; rintro e w6 ⟨rfl, hb⟩; have HY := Aside0.mk (show Is raw str x t A2 A3 c2 c3 B2 B3 d2 d3 w.heap.size n g w6 ∧ Below w.heap.size w w6 from ⟨HY.out.1.below hb, below_then HY.out.2 HY.out.2.size hb⟩); clear hb)
 refine hK.out _ _ HY.out.1 (fun hHeld2 => ?_)
 clear hK K hHeld
 have hHeld := hHeld2
 clear hHeld2
 (try simp only [aP, aN, sT, sZ, sS])
 refine tkH (i := 19) (by simp only [gT, gS, gZ]; rfl) (by kernel_rfl) (by exact fun _ _ _ h => h) (.inl ⟨by rfl, fun w hSw => by obtain ⟨⟨a0, a1, a2, a4⟩, ⟨n0, n1, n2, n3⟩, ⟨g0, g1, g2, g3⟩⟩ := hSw.cells; go_simp <;> with_reducible rfl⟩) hHeld ?_
 (try simp only [aP, aN, sT, sZ, sS])
 refine tkH (i := 20) (by simp only [gT, gS, gZ]; rfl) (by kernel_rfl) (by exact fun _ _ _ h => h) (.inl ⟨by rfl, fun w hSw => by obtain ⟨⟨a0, a1, a2, a4⟩, ⟨n0, n1, n2, n3⟩, ⟨g0, g1, g2, g3⟩⟩ := hSw.cells; go_simp <;> with_reducible rfl⟩) hHeld ?_
 (try simp only [aP, aN, sT, sZ, sS])
 refine wpAnyH_done (by kernel_rfl) ?_ _
 obtain ⟨⟨a0, a1, a2, a4⟩, ⟨n0, n1, n2, n3⟩, ⟨g0, g1, g2, g3⟩⟩ := HY.out.1.cells
 by_cases h4 : t.f0 = 4
 ·have h4b : (t.f0 != 4) = false := bne_eq_false_iff_eq.mpr h4
  have hs := HC.out.2.2.2 h4
  subst hs
  clear h4
  go_wp2_with fail
  go_ret
  exact ⟨rfl, HY.out.2⟩
 have h4b : (t.f0 != 4) = true := bne_iff_ne.mpr h4
 clear h4
 go_wp2_with fail
 go_ret
 exact ⟨rfl, HY.out.2⟩
end Go.Proofs.YtgiioglmkogpkaaGreatDoor.F
namespace Go.Proofs.YtgiioglmkogpkaaGreatDoor.F
open Go.RowKit Go.Proofs.YtgiioglmkogpkaaGreatDoorW.PrintWords Go.Proofs.YtgiioglmkogpkaaGreatDoorW.PrintLast Go.Proofs.YtgiioglmkogpkaaGreatDoorW.PrintMore
open M L V
set_option maxHeartbeats 4000000
set_option maxRecDepth 8192
structure Ob (w W : World) (t : S25) (A2 A3 : Option Addr) (c2 c3 : Nat) : Prop where
 h0 : W.heap[w.heap.size]? = some (.cells #[.int .i64 t.f0, .string t.f1, .slice A2 t.f2.length c2, .slice A3 t.f3.length c3] 25 (0, 0))
 be : Below w.heap.size w W
section
variable {w W W2 : World} {t : S25} {A2 A3 : Option Addr} {c2 c3 : Nat}
theorem Ob.new (w : World) (t : S25) (A2 A3 : Option Addr) (c2 c3 : Nat) : Ob w (w.alloc (.cells #[.int .i64 t.f0, .string t.f1, .slice A2 t.f2.length c2, .slice A3 t.f3.length c3] 25)) t A2 A3 c2 c3 := ⟨heap_alloc_new w _, below_alloc (Below.refl _ _) _⟩
theorem Ob.below (h : Ob w W t A2 A3 c2 c3) (hb : Below W.heap.size W W2) : Ob w W2 t A2 A3 c2 c3 := ⟨(hb.block _ (blk_lt h.h0)).trans h.h0, below_then h.be h.be.size hb⟩
theorem Ob.cells (h : Ob w W t A2 A3 c2 c3) : W.cell? ⟨w.heap.size, 0, none⟩ = some (.int .i64 t.f0) ∧ W.cell? ⟨w.heap.size, 1, none⟩ = some (.string t.f1) ∧ W.cell? ⟨w.heap.size, 2, none⟩ = some (.slice A2 t.f2.length c2) ∧ W.cell? ⟨w.heap.size, 3, none⟩ = some (.slice A3 t.f3.length c3) :=
 ⟨blk_cell h.h0 0, blk_cell h.h0 1, blk_cell h.h0 2, blk_cell h.h0 3⟩
end
def atF (ks : List ByteArray) (nm : ByteArray) : Nat → Int
 | 0 => -1
 | k + 1 => if (rdOf ByteArray.empty ks (k : Int)).toList = nm.toList then (k : Int) else atF ks nm k
theorem at_calls (t : S25) (hl : t.f2.length ≤ 65536) (nm : ByteArray) (A2 A3 : Option Addr) (c2 c3 : Nat) (w : World) (hA : NodeIn w t A2 A3 c2 c3) :
  Calls Tryz.prog 54 #[.agg #[.int .i64 t.f0, .string t.f1, .slice A2 t.f2.length c2, .slice A3 t.f3.length c3], .string nm] w fun e w' => e = .returned (.int .i64 (atF t.f2 nm t.f2.length)) ∧ Below w.heap.size w w' := by
 have HN := Aside0.mk hA
 have HW := Aside0.mk (Ob.new w t A2 A3 c2 c3)
 have HL := Aside0.mk hl
 have hw : wrap64 ((t.f2.length : Int) - 1) = t.f2.length - 1 := w64 (by omega) (by omega)
 obtain ⟨m0, m1, m2, m3⟩ := HW.out.cells
 clear hA hl
 go_enter Tryz.func54, Tryz.ntmps54
 go_wp2_with fail
 generalize w.alloc (.cells #[.int .i64 t.f0, .string t.f1, .slice A2 t.f2.length c2, .slice A3 t.f3.length c3] 25) = W0 at *
 clear m0 m1 m2 m3 hw
 go_loopg [5] t.f2.length (fun kq v5 w' => ∃ p : Int, v5 = .int .i64 p ∧ p + 1 = (kq : Int) ∧ kq ≤ t.f2.length ∧ Aside0 (atF t.f2 nm kq = atF t.f2 nm t.f2.length) ∧ Aside0 (Ob w w' t A2 A3 c2 c3))
 case atStart => exact ⟨_, rfl, by rw [w64 (by have := HL.out; omega) (by have := HL.out; omega)]; omega, by omega, ⟨rfl⟩, HW⟩
 obtain ⟨p, rfl, hk, hle, HF, HT⟩ := hrel
 obtain ⟨m0, m1, m2, m3⟩ := HT.out.cells
 by_cases hp : 0 ≤ p
 rotate_left
 ·have hr : atF t.f2 nm t.f2.length = -1 := by rw [← HF.out, show gk = 0 by omega]; rfl
  have HR := Aside0.mk hr
  clear hr
  go_wp2_with fail
  go_ret
  exact ⟨congrArg (fun z => Ending.returned (.int .i64 z)) HR.out.symm, HT.out.be⟩
 obtain ⟨q, rfl⟩ : ∃ q : Nat, p = q := ⟨p.toNat, by omega⟩
 obtain rfl : gk = q + 1 := by omega
 have hi1 : (q : Int) < (t.f2.length : Int) := by omega
 have hi0 : (0 : Int) ≤ (q : Int) := by omega
 obtain ⟨ad, hA, ca⟩ := Kd.at_string (Kd.C_below HN.out.1 HT.out.be) q (by omega) (by omega)
 simp only [Int.toNat_natCast] at ca
 have hw : wrap64 ((q : Int) - 1) = q - 1 := by rw [w64 (by omega) (by have := HL.out; omega)]
 subst hA
 by_cases hs : (rdOf ByteArray.empty t.f2 (q : Int)).toList = nm.toList
 ·have y1 : ((rdOf ByteArray.empty t.f2 (q : Int)).toList == nm.toList) = true := beq_iff_eq.mpr hs
  have hr : atF t.f2 nm t.f2.length = q := by rw [← HF.out]; unfold atF; rw [if_pos hs]
  have HR := Aside0.mk hr
  clear hs hr hw
  go_wp2_with fail
  go_ret
  exact ⟨congrArg (fun z => Ending.returned (.int .i64 z)) HR.out.symm, HT.out.be⟩
 have y1 : ((rdOf ByteArray.empty t.f2 (q : Int)).toList == nm.toList) = false := beq_eq_false_iff_ne.mpr hs
 have hr : atF t.f2 nm q = atF t.f2 nm t.f2.length := by rw [← HF.out]; conv => rhs; unfold atF; rw [if_neg hs]
 have HR := Aside0.mk hr
 clear hs hr
 go_wp2_with fail
 go_roundg q
 case measure => omega
 case rel => exact ⟨(q : Int) - 1, congrArg (Value.int .i64) (by first | rfl | omega), by omega, by omega, HR, HT⟩
structure Ky (w W : World) (t : S25) (A2 A3 : Option Addr) (c2 c3 : Nat) (i : Nat) (ad : Addr) (nm : ByteArray) : Prop where
 ob : Ob w W t A2 A3 c2 c3
 ck : W.cell? (ad.add i) = some (.string nm)
 na : NodeIn W t A2 A3 c2 c3
section
variable {w W W2 : World} {t : S25} {A2 A3 : Option Addr} {c2 c3 : Nat} {i : Nat} {ad : Addr} {nm : ByteArray}
theorem Ky.below (hb : Below W.heap.size W W2) (h : Ky w W t A2 A3 c2 c3 i ad nm) : Ky w W2 t A2 A3 c2 c3 i ad nm := ⟨h.ob.below hb, pw_cell_below hb h.ck, h.na.below hb⟩
theorem Ky.drew (h : Ky w W t A2 A3 c2 c3 i ad nm) : Ky w W.drew t A2 A3 c2 c3 i ad nm := Ky.below (below_drew (Below.refl _ _)) h
theorem Ky.all (h : Ky w W t A2 A3 c2 c3 i ad nm) : Ky w W t A2 A3 c2 c3 i ad nm ∧ W.cell? ⟨w.heap.size, 0, none⟩ = some (.int .i64 t.f0) ∧ W.cell? ⟨w.heap.size, 1, none⟩ = some (.string t.f1) ∧ W.cell? ⟨w.heap.size, 2, none⟩ = some (.slice A2 t.f2.length c2) ∧ W.cell? ⟨w.heap.size, 3, none⟩ = some (.slice A3 t.f3.length c3) ∧ W.cell? (ad.add i) = some (.string nm) :=
 ⟨h, h.ob.cells.1, h.ob.cells.2.1, h.ob.cells.2.2.1, h.ob.cells.2.2.2, h.ck⟩
end
def UniC (t : S25) (b : Bool) : Prop := ∀ (A2 A3 : Option Addr) (c2 c3 : Nat) (w : World), NodeIn w t A2 A3 c2 c3 → Calls Tryz.prog 28 #[.agg #[.int .i64 t.f0, .string t.f1, .slice A2 t.f2.length c2, .slice A3 t.f3.length c3]] w fun e w' => e = .returned (.bool b) ∧ Below w.heap.size w w'
def keyAt (t : S25) (i : Nat) : Bool := decide (atF t.f2 (rdOf ByteArray.empty t.f2 (i : Int)) t.f2.length = (i : Int))
def uniB (t : S25) (f : Nat → Bool) : Bool := (List.range t.f2.length).all (keyAt t) && (List.range t.f3.length).all f
theorem all_no {n i : Nat} {f : Nat → Bool} (hi : i < n) (h : f i = false) : (List.range n).all f = false := by
 rw [List.all_eq_false]
 exact ⟨i, List.mem_range.2 hi, by simp [h]⟩
theorem all_yes {n : Nat} {f : Nat → Bool} (h : ∀ i, i < n → f i = true) : (List.range n).all f = true := by
 rw [List.all_eq_true]
 exact fun i hi => h i (List.mem_range.1 hi)
theorem uni_step (t : S25) (h2 : t.f2.length ≤ 65536) (h3 : t.f3.length ≤ 65536) (f : Nat → Bool) (ih : ∀ i (h : i < t.f3.length), UniC t.f3[i] (f i)) : UniC t (uniB t f) := by
 intro A2 A3 c2 c3 w hA
 have HN := Aside0.mk hA
 have HW := Aside0.mk (Ob.new w t A2 A3 c2 c3)
 have HL := Aside0.mk (And.intro h2 h3)
 have HI := Aside0.mk ih
 obtain ⟨m0, m1, m2, m3⟩ := HW.out.cells
 clear hA h2 h3 ih
 go_enter Tryz.func28, Tryz.ntmps28
 go_wp2_with fail
 generalize w.alloc (.cells #[.int .i64 t.f0, .string t.f1, .slice A2 t.f2.length c2, .slice A3 t.f3.length c3] 25) = W0 at *
 clear m0 m1 m2 m3
 go_loopg [3] t.f2.length (fun kq v3 w' => ∃ i : Nat, v3 = .int .i64 (i : Int) ∧ kq + i = t.f2.length ∧ Aside0 (∀ j, j < i → keyAt t j = true) ∧ Aside0 (Ob w w' t A2 A3 c2 c3))
 case atStart => exact ⟨0, rfl, rfl, ⟨fun j h => by omega⟩, HW⟩
 obtain ⟨i, rfl, hk, HY, HT⟩ := hrel
 obtain ⟨m0, m1, m2, m3⟩ := HT.out.cells
 by_cases hi : i < t.f2.length
 rotate_left
 ·have hi1 : ¬ (i : Int) < (t.f2.length : Int) := by omega
  have HKs := Aside0.mk (all_yes (n := t.f2.length) (f := keyAt t) (fun j h => HY.out j (by omega)))
  clear hk hi
  go_wp2_with fail
  clear hi1 m0 m1 m2 m3
  go_loopg [4] t.f3.length (fun kq v4 w' => ∃ i : Nat, v4 = .int .i64 (i : Int) ∧ kq + i = t.f3.length ∧ Aside0 (∀ j, j < i → f j = true) ∧ Aside0 (Ob w w' t A2 A3 c2 c3))
  case atStart => exact ⟨0, rfl, rfl, ⟨fun j h => by omega⟩, HT⟩
  obtain ⟨i2, rfl, hk, HZ, HT2⟩ := hrel
  obtain ⟨m0, m1, m2, m3⟩ := HT2.out.cells
  by_cases hi : i2 < t.f3.length
  rotate_left
  ·have hi1 : ¬ (i2 : Int) < (t.f3.length : Int) := by omega
   have HB := Aside0.mk (show uniB t f = true by
    unfold uniB
    rw [HKs.out, all_yes (fun j h => HZ.out j (by omega))]; rfl)
   clear hk hi
   go_wp2_with fail
   go_ret
   exact ⟨congrArg (fun z => Ending.returned (.bool z)) HB.out.symm, HT2.out.be⟩
  have hi1 : (i2 : Int) < (t.f3.length : Int) := by omega
  have hi0 : (0 : Int) ≤ (i2 : Int) := by omega
  obtain ⟨ad, P2, P3, p2, p3, hA, na, ca, cb, cc, cd⟩ := node_at (Kd.C_below HN.out.2.2.1 HT2.out.be) i2 hi
  have HX := Aside0.mk (HI.out i2 hi _ _ _ _ _ na)
  have hfi : f i2 = f i2 := rfl
  generalize t.f3[i2] = x at *
  obtain ⟨q, rfl⟩ : ∃ q, gk = q + 1 := ⟨gk - 1, by omega⟩
  have hq : q + (i2 + 1) = t.f3.length := by omega
  have hw : wrap64 ((i2 : Int) + 1) = i2 + 1 := by rw [w64 (by have := HL.out.2; omega) (by have := HL.out.2; omega)]
  subst hA
  rw [← add_next ad _ 1 (by decide)] at cb
  rw [← add_next ad _ 2 (by decide)] at cc
  rw [← add_next ad _ 3 (by decide)] at cd
  simp only [Nat.add_zero] at ca
  obtain ⟨bo, hbo⟩ : ∃ bo, f i2 = bo := ⟨_, rfl⟩
  rw [hbo] at HX
  have HO := Aside0.mk hbo
  clear hbo hfi na
  cases bo
  ·go_wp2_with (go_at_call 28; refine HX.out.mono ?_; rintro e w5 ⟨rfl, hb⟩; have H5 := Aside0.mk (HT2.out.below hb); clear hb)
   go_ret
   exact ⟨congrArg (fun z => Ending.returned (.bool z)) (show false = uniB t f by unfold uniB; rw [all_no hi HO.out, Bool.and_false]), H5.out.be⟩
  go_wp2_with (go_at_call 28; refine HX.out.mono ?_; rintro e w5 ⟨rfl, hb⟩; have H5 := Aside0.mk (HT2.out.below hb); clear hb)
  go_roundg q
  case measure => omega
  case rel => exact ⟨i2 + 1, congrArg (Value.int .i64) (by omega), hq, ⟨fun j h => by
   by_cases c : j < i2
   ·exact HZ.out j c
   ·rw [show j = i2 by omega]; exact HO.out⟩, H5⟩
 have hi1 : (i : Int) < (t.f2.length : Int) := by omega
 have hi0 : (0 : Int) ≤ (i : Int) := by omega
 obtain ⟨ad, hA, ca⟩ := Kd.at_string (Kd.C_below HN.out.1 HT.out.be) i (by omega) (by omega)
 simp only [Int.toNat_natCast] at ca
 obtain ⟨q, rfl⟩ : ∃ q, gk = q + 1 := ⟨gk - 1, by omega⟩
 have hq : q + (i + 1) = t.f2.length := by omega
 have hw : wrap64 ((i : Int) + 1) = i + 1 := by rw [w64 (by have := HL.out.1; omega) (by have := HL.out.1; omega)]
 subst hA
 obtain ⟨nm, hnm⟩ : ∃ nm, rdOf ByteArray.empty t.f2 (i : Int) = nm := ⟨_, rfl⟩
 rw [hnm] at ca
 have K0 : Ky w _ t (some ad) A3 c2 c3 i ad nm := ⟨HT.out, ca, HN.out.below HT.out.be⟩
 have K1 := K0.drew
 have HC := Aside0.mk (fun W h => at_calls t HL.out.1 nm (some ad) A3 c2 c3 W h)
 obtain ⟨_, m0, m1, m2, m3, m4⟩ := K0.all
 have hKA : keyAt t i = decide (atF t.f2 nm t.f2.length = (i : Int)) := by unfold keyAt; rw [hnm]
 have HKA := Aside0.mk hKA
 generalize atF t.f2 nm t.f2.length = z at *
 clear ca hnm
 by_cases hz : z = i
 rotate_left
 ·have z1 : (z != (i : Int)) = true := bne_iff_ne.mpr hz
  have HZ := Aside0.mk (show uniB t f = false by
   unfold uniB
   rw [all_no hi (by rw [hKA]; exact decide_eq_false hz)]; rfl)
  clear hz hKA
  go_wp2_with fail
  go_region_held3 (fun w' => Ky w w' t (some ad) A3 c2 c3 i ad nm ∧ w'.cell? ⟨w.heap.size, 0, none⟩ = some (.int .i64 t.f0) ∧ w'.cell? ⟨w.heap.size, 1, none⟩ = some (.string t.f1) ∧ w'.cell? ⟨w.heap.size, 2, none⟩ = some (.slice (some ad) t.f2.length c2) ∧ w'.cell? ⟨w.heap.size, 3, none⟩ = some (.slice A3 t.f3.length c3) ∧ w'.cell? (ad.add i) = some (.string nm))
   ((go_split_ands; first | exact Ky.all (by assumption) | exact Ky.all (Ky.below (by assumption) (by assumption))))
   (first | (go_at_call 54; refine (HC.out _ ?_).mono ?_; exact Ky.na (by assumption); rintro e w5 ⟨rfl, hb⟩))
  go_split_ands
  go_wp2_with fail
  go_ret
  exact ⟨congrArg (fun z => Ending.returned (.bool z)) HZ.out.symm, (Ky.ob (by assumption)).be⟩
 have z1 : (z != (i : Int)) = false := bne_eq_false_iff_eq.mpr hz
 have HZ := Aside0.mk hz
 clear hz hKA
 go_wp2_with fail
 go_region_held3 (fun w' => Ky w w' t (some ad) A3 c2 c3 i ad nm ∧ w'.cell? ⟨w.heap.size, 0, none⟩ = some (.int .i64 t.f0) ∧ w'.cell? ⟨w.heap.size, 1, none⟩ = some (.string t.f1) ∧ w'.cell? ⟨w.heap.size, 2, none⟩ = some (.slice (some ad) t.f2.length c2) ∧ w'.cell? ⟨w.heap.size, 3, none⟩ = some (.slice A3 t.f3.length c3) ∧ w'.cell? (ad.add i) = some (.string nm))
  ((go_split_ands; first | exact Ky.all (by assumption) | exact Ky.all (Ky.below (by assumption) (by assumption))))
  (first | (go_at_call 54; refine (HC.out _ ?_).mono ?_; exact Ky.na (by assumption); rintro e w5 ⟨rfl, hb⟩))
 go_split_ands
 go_wp2_with fail
 go_roundg q
 case measure => omega
 case rel => exact ⟨i + 1, congrArg (Value.int .i64) (by omega), hq, ⟨fun j h => by
  by_cases c : j < i
  ·exact HY.out j c
  ·rw [show j = i by omega, HKA.out]; exact decide_eq_true HZ.out⟩, ⟨Ky.ob (by assumption)⟩⟩
theorem uni_calls {t : S25} (h : SB t) : ∃ b, UniC t b := by
 induction h with
 | mk t h2 h3 h4 ih =>
 have key : ∃ f : Nat → Bool, ∀ i (h : i < t.f3.length), UniC t.f3[i] (f i) := by
  refine ⟨fun i => if h : i < t.f3.length then (ih t.f3[i] (List.getElem_mem h)).choose else true, fun i h => ?_⟩
  dsimp only
  rw [dif_pos h]
  exact (ih t.f3[i] (List.getElem_mem h)).choose_spec
 obtain ⟨f, hf⟩ := key
 exact ⟨_, uni_step t h2 h3 f hf⟩
set_option maxHeartbeats 8000000
set_option maxRecDepth 8192
theorem lnL_len : ∀ B : List ByteArray, B.length ≤ (lnL B).length
 | [] => Nat.le_refl _
 | l :: B => by have := lnL_len B; simp [lnL]; omega
structure KN where
 t : S25
 A2 : Option Addr
 A3 : Option Addr
 c2 : Nat
 c3 : Nat
 lo : Nat
 hi : Nat
def KN.cells (k : KN) : List Value := [.int .i64 k.t.f0, .string k.t.f1, .slice k.A2 k.t.f2.length k.c2, .slice k.A3 k.t.f3.length k.c3]
def NR (lo hi : Nat) (W : World) (t : S25) (A2 A3 : Option Addr) (c2 c3 : Nat) : Prop := ∀ W', (∀ k, lo ≤ k → k < hi → W'.heap[k]? = W.heap[k]?) → NodeIn W' t A2 A3 c2 c3
theorem NR.move {lo hi : Nat} {W W2 : World} {t : S25} {A2 A3 : Option Addr} {c2 c3 : Nat} (h : NR lo hi W t A2 A3 c2 c3) (hm : ∀ k, lo ≤ k → k < hi → W2.heap[k]? = W.heap[k]?) : NR lo hi W2 t A2 A3 c2 c3 := fun W' h' => h W' (fun k a b => (h' k a b).trans (hm k a b))
structure Gn (w W : World) (v v1 : Value) (ks : List KN) : Prop where
 hr : W.heap[w.heap.size]? = some (.cells #[.int .i64 0, .string ⟨#[]⟩, .slice none 0 0, .slice none 0 0] 25 (0, 0))
 ho : W.heap[w.heap.size + 1]? = some (.cells #[.int .i64 5, .string ⟨#[]⟩, .slice none 0 0, v] 25 (0, 0))
 rk : Kd.R (Kd.raw 4) 25 W (w.heap.size + 2) (fun _ => True) v1 (ks.map KN.cells)
 nd : ∀ k ∈ ks, NR k.lo k.hi W k.t k.A2 k.A3 k.c2 k.c3 ∧ w.heap.size + 2 ≤ k.lo ∧ k.hi ≤ W.heap.size ∧ ∀ rb, v1.ownBlock = some rb → rb < k.lo ∨ k.hi ≤ rb
 be : Below w.heap.size w W
 sz : w.heap.size + 2 ≤ W.heap.size
section
variable {w W W2 : World} {v v1 v2 : Value} {ks : List KN}
theorem Gn.below (h : Gn w W v v1 ks) (hb : Below W.heap.size W W2) : Gn w W2 v v1 ks :=
 ⟨(hb.block _ (blk_lt h.hr)).trans h.hr, (hb.block _ (blk_lt h.ho)).trans h.ho, Kd.R_step h.rk (fun k _ hlt => hb.block k hlt), fun k hk => ⟨(h.nd k hk).1.move (fun j _ a => hb.block j (by have := (h.nd k hk).2.2.1; omega)), (h.nd k hk).2.1, Nat.le_trans (h.nd k hk).2.2.1 hb.size, (h.nd k hk).2.2.2⟩, below_then h.be h.be.size hb, Nat.le_trans h.sz hb.size⟩
theorem Gn.app (h : Gn w W v v ks) (kn : KN) (hn : NR kn.lo kn.hi W kn.t kn.A2 kn.A3 kn.c2 kn.c3 ∧ w.heap.size + 2 ≤ kn.lo ∧ kn.hi ≤ W.heap.size ∧ ∀ rb, v.ownBlock = some rb → rb < kn.lo) (ho : Kd.R (Kd.raw 4) 25 W2 (w.heap.size + 2) (fun _ => True) v1 (ks.map KN.cells ++ [kn.cells])) (hbl : Below (w.heap.size + 2) W W2) (hg : W.grownBy W2 v.ownBlock)
  (hat : v1.ownBlock = v.ownBlock ∨ ∃ b, v1.ownBlock = some b ∧ W.heap.size ≤ b) : Gn w W2 v v1 (ks ++ [kn]) := by
 have nd : ∀ k ∈ ks ++ [kn], NR k.lo k.hi W k.t k.A2 k.A3 k.c2 k.c3 ∧ w.heap.size + 2 ≤ k.lo ∧ k.hi ≤ W.heap.size ∧ ∀ rb, v.ownBlock = some rb → rb < k.lo ∨ k.hi ≤ rb := fun k hk => by
  rcases List.mem_append.1 hk with hk | hk
  ·exact h.nd k hk
  ·rw [List.mem_singleton.1 hk]
   exact ⟨hn.1, hn.2.1, hn.2.2.1, fun rb e => .inl (hn.2.2.2 rb e)⟩
 refine ⟨(hbl.block _ (by omega)).trans h.hr, (hbl.block _ (by omega)).trans h.ho, by rw [List.map_append]; exact ho, fun k hk => ?_, h.be.trans (hbl.mono (by omega)), Nat.le_trans h.sz hbl.size⟩
 obtain ⟨n1, n2, n3, n4⟩ := nd k hk
 refine ⟨n1.move (fun j a b => hg.block j (by omega) (fun e => ?_)), n2, Nat.le_trans n3 hbl.size, fun rb e => ?_⟩
 ·rcases n4 j e.symm with q | q <;> omega
 ·rcases hat with q | ⟨b, q, hb⟩
  ·exact n4 rb (q ▸ e)
  ·rw [q] at e
   injection e with e
   exact .inr (by omega)
theorem Gn.store (h : Gn w W v v1 ks) : Gn w (W.setCell ⟨w.heap.size + 1, 3, none⟩ v1) v1 v1 ks := by
 have hf : ∀ k, k ≠ w.heap.size + 1 → (W.setCell ⟨w.heap.size + 1, 3, none⟩ v1).heap[k]? = W.heap[k]? := fun k hk => Below.heap_setCell W ⟨w.heap.size + 1, 3, none⟩ _ k hk
 have hz : (W.setCell ⟨w.heap.size + 1, 3, none⟩ v1).heap.size = W.heap.size := by simp [World.setCell]
 exact ⟨(hf _ (by omega)).trans h.hr, blk_set h.ho 3 v1, Kd.R_mono (Kd.R_step (Kd.R_bound h.rk) (fun k hk _ => hf k (by have := hk.2.1; omega))) (fun _ _ => trivial), fun k hk => ⟨(h.nd k hk).1.move (fun j a _ => hf j (by have := (h.nd k hk).2.1; omega)), (h.nd k hk).2.1, by rw [hz]; exact (h.nd k hk).2.2.1, (h.nd k hk).2.2.2⟩, below_set h.be (Nat.le_succ _), by rw [hz]; exact h.sz⟩
theorem Gn.new (w : World) : Gn w ((w.alloc (.cells #[.int .i64 0, .string ⟨#[]⟩, .slice none 0 0, .slice none 0 0] 25)).alloc (.cells #[.int .i64 5, .string ⟨#[]⟩, .slice none 0 0, .slice none 0 0] 25)) (.slice none 0 0) (.slice none 0 0) [] := by
 have e : (w.alloc (.cells #[.int .i64 0, .string ⟨#[]⟩, .slice none 0 0, .slice none 0 0] 25)).heap.size = w.heap.size + 1 := by simp
 have hn := heap_alloc_new (w.alloc (.cells #[.int .i64 0, .string ⟨#[]⟩, .slice none 0 0, .slice none 0 0] 25)) (.cells #[.int .i64 5, .string ⟨#[]⟩, .slice none 0 0, .slice none 0 0] 25)
 rw [e] at hn
 exact ⟨(Below.heap_alloc _ _ _ (by omega)).trans (heap_alloc_new w _), hn, Kd.R_nil _ _ _ _ _, fun k hk => (by cases hk), below_alloc (below_alloc (Below.refl _ _) _) _, by simp⟩
end
def GLn (ls : List ByteArray) (w : World) (e : Ending) (w' : World) : Prop := ∃ (K : Int) (txt : ByteArray) (A2 A3 : Option Addr) (n2 n3 c2 c3 : Nat) (text : ByteArray) (ok : Bool), e = .returned (.tuple #[.agg #[.int .i64 K, .string txt, .slice A2 n2 c2, .slice A3 n3 c3], .string text, .bool ok]) ∧ Below w.heap.size w w' ∧
 (ok = true → text = lnT ls ∧ (lnT ls).size ≤ 4097 ∧ ∃ ks : List KN, n3 = ks.length ∧ Kd.C (Kd.raw 4) w' A3 ks.length (ks.map KN.cells) ∧ ks.length ≤ c3 ∧ LOk ls (ks.map KN.t) ∧ ∀ k ∈ ks, NodeIn w' k.t k.A2 k.A3 k.c2 k.c3)
theorem glnEnd (P : Ending → World → Prop) (K : Int) (txt : ByteArray) (A2 A3 : Option Addr) (n2 n3 c2 c3 : Nat) (text : ByteArray) (ok : Bool) (W : World) (r : Nat) (tm : Array Value) (h4 : tm.getD 4 undef = .pointer (some ⟨r, 0, none⟩)) (h5 : tm.getD 5 undef = .string text) (h6 : tm.getD 6 undef = .bool ok)
  (hg : W.heap[r]? = some (.cells #[.int .i64 K, .string txt, .slice A2 n2 c2, .slice A3 n3 c3] 25 (0, 0))) (hb : P (.returned (.tuple #[.agg #[.int .i64 K, .string txt, .slice A2 n2 c2, .slice A3 n3 c3], .string text, .bool ok])) W) :
  bodyPost Tryz.prog Tryz.f12 P .ret ⟨tm, []⟩ W := by
 have n0 := blk_cell hg 0
 have n1 := blk_cell hg 1
 have n2' := blk_cell hg 2
 have n3' := blk_cell hg 3
 refine bodyPost_ret (v := .tuple #[.agg #[.int .i64 K, .string txt, .slice A2 n2 c2, .slice A3 n3 c3], .string text, .bool ok]) ?_ rfl hb
 simp only [results, Tryz.results12]
 have h4' := h4
 have h5' := h5
 have h6' := h6
 simp only [Array.getD_eq_getD_getElem?] at h4' h5' h6'
 simp [go_sem, h4, h4', h5, h5', h6, h6', n0, n1, n2', n3']
theorem Gn.fin {w W : World} {v v1 : Value} {ks : List KN} (h : Gn w W v v1 ks) (a b c d : Value) : ((((W.setCell ⟨w.heap.size, 0, none⟩ a).setCell ⟨w.heap.size, 1, none⟩ b).setCell ⟨w.heap.size, 2, none⟩ c).setCell ⟨w.heap.size, 3, none⟩ d).heap[w.heap.size]? = some (.cells #[a, b, c, d] 25 (0, 0)) ∧
  Below w.heap.size w ((((W.setCell ⟨w.heap.size, 0, none⟩ a).setCell ⟨w.heap.size, 1, none⟩ b).setCell ⟨w.heap.size, 2, none⟩ c).setCell ⟨w.heap.size, 3, none⟩ d) :=
 ⟨blk_set (blk_set (blk_set (blk_set h.hr 0 _) 1 _) 2 _) 3 _, below_set (below_set (below_set (below_set h.be (Nat.le_refl _)) (Nat.le_refl _)) (Nat.le_refl _)) (Nat.le_refl _)⟩
theorem Gn.fail {w W : World} {v v1 : Value} {ks : List KN} {ls : List ByteArray} (h : Gn w W v v1 ks) {tm : Array Value} (h4 : tm.getD 4 undef = .pointer (some ⟨w.heap.size, 0, none⟩)) (h5 : tm.getD 5 undef = .string ⟨#[]⟩) (h6 : tm.getD 6 undef = .bool false) :
  bodyPost Tryz.prog Tryz.f12 (GLn ls w) .ret ⟨tm, []⟩ ((((W.setCell ⟨w.heap.size, 0, none⟩ (.int .i64 0)).setCell ⟨w.heap.size, 1, none⟩ (.string ⟨#[]⟩)).setCell ⟨w.heap.size, 2, none⟩ (.slice none 0 0)).setCell ⟨w.heap.size, 3, none⟩ (.slice none 0 0)) := by
 obtain ⟨q1, q2⟩ := h.fin (.int .i64 0) (.string ⟨#[]⟩) (.slice none 0 0) (.slice none 0 0)
 exact glnEnd _ 0 ⟨#[]⟩ none none 0 0 0 0 ⟨#[]⟩ false _ _ _ h4 h5 h6 q1 ⟨_, _, _, _, _, _, _, _, _, false, rfl, q2, fun q => by cases q⟩
theorem gjl_calls (A0 : Option Addr) (c0 : Nat) (ls : List ByteArray) (w : World) (hr0 : Kd.C Kd.string w A0 ls.length ls) (hc0 : ls.length ≤ c0) (hsz : ∀ l ∈ ls, l.size ≤ 2147483647) (hll : ls.length ≤ 2147483647) :
  Calls Tryz.prog 12 #[.slice A0 ls.length c0, .bool true] w (GLn ls w) := by
 have HG := Aside0.mk (Gn.new w)
 have HR := Aside0.mk (And.intro hr0 (And.intro hsz hll))
 clear hr0 hsz
 go_enter Tryz.func12, Tryz.ntmps12
 go_wp2_with fail
 generalize ((w.alloc (.cells #[.int .i64 0, .string ⟨#[]⟩, .slice none 0 0, .slice none 0 0] 25)).alloc (.cells #[.int .i64 5, .string ⟨#[]⟩, .slice none 0 0, .slice none 0 0] 25)) = W0 at *
 go_loopg [8, 17] ls.length (fun kq v8 v17 w' => ∃ (i : Nat) (tx : ByteArray) (v : Value) (ks : List KN), v8 = .string tx ∧ v17 = .int .i64 (i : Int) ∧ kq + i = ls.length ∧ Aside0 (tx = lnT (ls.take i)) ∧ tx.size ≤ 4097 ∧ Aside0 (Gn w w' v v ks) ∧ Aside0 (LOk (ls.take i) (ks.map KN.t)))
 case atStart => exact ⟨0, ⟨#[]⟩, _, [], rfl, rfl, by omega, ⟨rfl⟩, by show 0 ≤ 4097; omega, HG, ⟨trivial⟩⟩
 clear HG
 obtain ⟨i, tx, v, ks, rfl, rfl, hki, HTX, htx, HG, HLO⟩ := hrel
 by_cases hlt : i < ls.length
 rotate_left
 ·have hge : ¬ (i : Int) < ls.length := by omega
  obtain ⟨A3, c3, hv⟩ := Kd.R_slice HG.out.rk
  rw [List.length_map] at hv
  subst hv
  have hii : i = ls.length := by omega
  subst hii
  have htx2 := HTX.out
  have hlo := HLO.out
  rw [List.take_length] at htx2 hlo
  have HX := Aside0.mk (And.intro htx2 hlo)
  have f0 := blk_frozen HG.out.hr
  have k0 := blk_cell HG.out.hr 0
  have k1 := blk_cell HG.out.hr 1
  have k2 := blk_cell HG.out.hr 2
  have k3 := blk_cell HG.out.hr 3
  have o0 := blk_cell HG.out.ho 0
  have o1 := blk_cell HG.out.ho 1
  have o2 := blk_cell HG.out.ho 2
  have o3 := blk_cell HG.out.ho 3
  clear htx2 hlo HTX HLO
  go_wp2_with fail
  obtain ⟨q1, q2⟩ := HG.out.fin (.int .i64 5) (.string ⟨#[]⟩) (.slice none 0 0) (.slice A3 ks.length c3)
  have hf : ∀ k, w.heap.size + 2 ≤ k → ((((wr.setCell ⟨w.heap.size, 0, none⟩ (.int .i64 5)).setCell ⟨w.heap.size, 1, none⟩ (.string ⟨#[]⟩)).setCell ⟨w.heap.size, 2, none⟩ (.slice none 0 0)).setCell ⟨w.heap.size, 3, none⟩ (.slice A3 ks.length c3)).heap[k]? = wr.heap[k]? := fun k hk => by
   rw [Below.heap_setCell _ _ _ k (show k ≠ w.heap.size by omega), Below.heap_setCell _ _ _ k (show k ≠ w.heap.size by omega), Below.heap_setCell _ _ _ k (show k ≠ w.heap.size by omega), Below.heap_setCell _ _ _ k (show k ≠ w.heap.size by omega)]
  have hR := Kd.R_reads' (Kd.R_step (Kd.R_bound HG.out.rk) (fun k hk _ => hf k hk.2.1))
  (try rw [List.length_map] at hR)
  refine glnEnd _ 5 ⟨#[]⟩ none A3 0 ks.length 0 c3 tx true _ _ _ rfl rfl rfl q1 ⟨_, _, _, _, _, _, _, _, _, true, rfl, q2, fun _ => ⟨HX.out.1, by rw [← HX.out.1]; exact htx, ks, rfl, hR.2.2, hR.2.1, HX.out.2, fun k hk => ?_⟩⟩
  exact (HG.out.nd k hk).1 _ (fun j a _ => hf j (by have := (HG.out.nd k hk).2.1; omega))
 obtain ⟨l, hl⟩ : ∃ l, ls[i]? = some l := ⟨_, List.getElem?_eq_getElem hlt⟩
 obtain ⟨ad, hA, hc⟩ := Kd.at_string (Kd.C_below HR.out.1 HG.out.be) (i : Int) (by omega) (by omega)
 have hrd : rdOf ByteArray.empty ls (i : Int) = l := by
  unfold rdOf
  rw [Int.toNat_natCast, List.getD_eq_getElem?_getD, hl]
  rfl
 rw [hrd] at hc
 subst hA
 have hlz := HR.out.2.1 l (List.mem_of_getElem? hl)
 have hlt' : (i : Int) < ls.length := by omega
 rw [Int.toNat_natCast] at hc
 go_upto_region 6 with (go_at_call 23; refine (gjt_calls l (by omega) _).mono ?_; rintro e w2 ⟨K, txt, A2, A3, n2, n3, c2, c3, ok, rfl, hb, hG⟩; have HG2 := Aside0.mk (HG.out.below hb); have HF := Aside0.mk (And.intro hb hG); clear hb hG)
 have hba := below_alloc (Below.refl w2.heap.size w2) (.cells #[.int .i64 K, .string txt, .slice A2 n2 c2, .slice A3 n3 c3] 25)
 have HG3 := Aside0.mk (And.intro (HG2.out.below hba) (And.intro (heap_alloc_new w2 (.cells #[.int .i64 K, .string txt, .slice A2 n2 c2, .slice A3 n3 c3] 25)) hba))
 clear hba HG2
 generalize w2.alloc (.cells #[.int .i64 K, .string txt, .slice A2 n2 c2, .slice A3 n3 c3] 25) = W3 at *
 cases ok
 ·have f0 := blk_frozen HG3.out.1.hr
  have k0 := blk_cell HG3.out.1.hr 0
  have k1 := blk_cell HG3.out.1.hr 1
  have k2 := blk_cell HG3.out.1.hr 2
  have k3 := blk_cell HG3.out.1.hr 3
  go_wp2_with fail
  exact HG3.out.1.fail rfl rfl rfl
 obtain ⟨hz2, hPA, t, hRd, rfl, rfl, rfl, rfl, hN⟩ := HF.out.2 rfl
 obtain ⟨ub, hu⟩ : ∃ b, UniC t b := by
  obtain ⟨q, _, _, _, _, _, _, _, _, _, hS⟩ := hRd
  exact uni_calls hS
 have HU := Aside0.mk hu
 have hrow : ∀ rb, v.ownBlock = some rb → rb < wr.heap.size := fun rb e => ((Kd.R_bound HG.out.rk).1 rb e).2.2.1
 have hnr : NR wr.heap.size w2.heap.size W3 t A2 A3 c2 c3 := (show NR wr.heap.size w2.heap.size w2 t A2 A3 c2 c3 from hN).move (fun k _ a => HG3.out.2.2.block k a)
 have HNn := Aside0.mk (And.intro hnr (And.intro HG.out.sz (And.intro HG3.out.2.2.size hrow)))
 have HLn := Aside0.mk (And.intro hRd (And.intro hPA hz2))
 have n0 := blk_cell HG3.out.2.1 0
 have n1 := blk_cell HG3.out.2.1 1
 have n2 := blk_cell HG3.out.2.1 2
 have n3 := blk_cell HG3.out.2.1 3
 clear hu hrow hnr hN hRd hPA
 cases ub
 ·go_wp2_with (go_at_call 28; refine (HU.out A2 A3 c2 c3 _ (HNn.out.1 _ (fun _ _ _ => rfl))).mono ?_; rintro e w4 ⟨rfl, hb⟩; have HG4 := Aside0.mk (HG3.out.1.below hb); have HB4 := Aside0.mk hb; clear hb n0 n1 n2 n3; have f0 := blk_frozen HG4.out.hr; have k0 := blk_cell HG4.out.hr 0; have k1 := blk_cell HG4.out.hr 1; have k2 := blk_cell HG4.out.hr 2; have k3 := blk_cell HG4.out.hr 3)
  exact HG4.out.fail rfl rfl rfl
 by_cases hs : 4096 < tx.size + l.size
 ·have hs' : 4096 < (tx.size : Int) + l.size := by omega
  go_wp2_with (go_at_call 28; refine (HU.out A2 A3 c2 c3 _ (HNn.out.1 _ (fun _ _ _ => rfl))).mono ?_; rintro e w4 ⟨rfl, hb⟩; have HG4 := Aside0.mk (HG3.out.1.below hb); have HB4 := Aside0.mk hb; clear hb n0 n1 n2 n3; have f0 := blk_frozen HG4.out.hr; have k0 := blk_cell HG4.out.hr 0; have k1 := blk_cell HG4.out.hr 1; have k2 := blk_cell HG4.out.hr 2; have k3 := blk_cell HG4.out.hr 3)
  exact HG4.out.fail rfl rfl rfl
 have hs' : ¬ 4096 < (tx.size : Int) + l.size := by omega
 go_upto_region 8 with (go_at_call 28; refine (HU.out A2 A3 c2 c3 _ (HNn.out.1 _ (fun _ _ _ => rfl))).mono ?_; rintro e w4 ⟨rfl, hb⟩; have HG4 := Aside0.mk (HG3.out.1.below hb); have HB4 := Aside0.mk hb; clear hb n0 n1 n2 n3; have f0 := blk_frozen HG4.out.hr; have k0 := blk_cell HG4.out.hr 0; have k1 := blk_cell HG4.out.hr 1; have k2 := blk_cell HG4.out.hr 2; have k3 := blk_cell HG4.out.hr 3)
 have HN4 := Aside0.mk (And.intro (HNn.out.1.move (fun j _ a => HB4.out.block j (by have := HNn.out.2.2.1; omega))) (And.intro HNn.out.2.1 (And.intro (Nat.le_trans HNn.out.2.2.1 HB4.out.size) HNn.out.2.2.2)))
 have hnb := (HB4.out.block _ (blk_lt HG3.out.2.1)).trans HG3.out.2.1
 have HNB := Aside0.mk hnb
 clear hnb HNn HG3 HU HB4 HF
 generalize w2.heap.size = hi0 at *
 obtain ⟨kn, hkn⟩ : ∃ kn : KN, kn = ⟨t, A2, A3, c2, c3, wr.heap.size, hi0⟩ := ⟨_, rfl⟩
 have hkc : kn.cells = [.int .i64 t.f0, .string t.f1, .slice A2 t.f2.length c2, .slice A3 t.f3.length c3] := by rw [hkn]; rfl
 have HKN := Aside0.mk (show NR kn.lo kn.hi w4 kn.t kn.A2 kn.A3 kn.c2 kn.c3 ∧ w.heap.size + 2 ≤ kn.lo ∧ kn.hi ≤ w4.heap.size ∧ ∀ rb, v.ownBlock = some rb → rb < kn.lo from by rw [hkn]; exact HN4.out)
 have HKT := Aside0.mk (show kn.t = t from by rw [hkn])
 have hks : ks.length ≤ 4097 := by
  have h1 := HLO.out.length
  have h2 := HTX.out
  rw [List.length_map] at h1
  have h3 : (ls.take i).length ≤ (lnL (ls.take i)).length := lnL_len _
  have h4 := lnT_size (ls.take i)
  rw [← h2] at h4
  omega
 have HKS := Aside0.mk (show (List.map KN.cells ks).length ≤ 4097 by rw [List.length_map]; exact hks)
 have HKC := Aside0.mk hkc
 clear hkn hkc hks HN4
 obtain ⟨g2, rfl⟩ : ∃ g2, g2 = gk := ⟨_, rfl⟩
 have hbt := bt_at l
 go_wp2_with fail
 go_loopg [13] l.size (fun kq v13 w' => ∃ j : Int, v13 = .int .i64 j ∧ (0 ≤ j ∧ j ≤ l.size) ∧ (kq : Int) + j = l.size ∧ w' = w4)
 case atStart => exact ⟨0, rfl, by omega, by omega, rfl⟩
 obtain ⟨j, rfl, hj, hkj, hw4⟩ := hrel
 obtain rfl := hw4.symm
 by_cases hjl : j < l.size
 ·obtain ⟨y, hy⟩ : ∃ y, y = bt l j := ⟨_, rfl⟩
  have hyb : ∀ h : j.toNat < l.size, ((l[j.toNat]'h).toNat : Int) = y := fun h => by rw [hy]; exact bt_at l j h
  have h0j := hj.1
  clear hbt hy
  by_cases hy10 : y = 10
  ·have hyt : (y == 10) = true := beq_iff_eq.mpr hy10
   clear hy10
   go_wp2_with fail
   exact HG4.out.fail rfl rfl rfl
  have hyt : (y == 10) = false := beq_eq_false_iff_ne.mpr hy10
  clear hy10
  go_wp2_with fail
  go_roundg (gk - 1)
  case measure => omega
  case rel => exact ⟨j + 1, rfl, by omega, by omega, rfl⟩
 clear hbt f0 k0 k1 k2 k3
 have n0 := blk_cell HNB.out 0
 have n1 := blk_cell HNB.out 1
 have n2 := blk_cell HNB.out 2
 have n3 := blk_cell HNB.out 3
 have o3 := blk_cell HG4.out.ho 3
 go_upto_region 14 with ((with_reducible refine gate_builtin (b := .append) (xs := #[.tmp 55, .tmp 57]) rfl ?_); at_builtin; rw [← HKC.out]; refine Kd.R_append (Kd.raw 4) (w.heap.size + 2) rfl (.tmp 55) (.tmp 57) 23 25 (.agg #[(.int .i64 0), (.string ⟨#[]⟩), (.slice none 0 0), (.slice none 0 0)]) 72 rfl Tryz.underlying23 info25 rfl (by decide) (by decide) v (ks.map KN.cells) kn.cells kn.cells (fun _ => True) (fun _ => False) rfl rfl ?aP ?aK ?aF ?aO (Below.refl _ _) ?aS ?aL ?_; (case aP => exact ⟨rfl, rfl, by simp [KN.cells, Value.oneCell']⟩); (case aK => exact fun _ h => h.elim); (case aF => exact fun _ _ => trivial); (case aO => exact HG4.out.rk); (case aS => exact HG4.out.sz); (case aL => have := HKS.out; omega); intro v1 w5 ho hbl hg hat; obtain ⟨A1, m1, e1⟩ := Kd.R_slice ho; rw [show (List.map KN.cells ks ++ [kn.cells]).length = ks.length + 1 by simp] at e1; subst e1; have H5 := Aside0.mk (HG4.out.app kn HKN.out ho hbl hg hat); clear ho hbl hg hat; have f1 := blk_frozen H5.out.ho; have o4 := blk_cell H5.out.ho 3)
 have H6 := Aside0.mk H5.out.store
 clear H5 HG4 f1 o4 n0 n1 n2 n3 o3
 generalize (w5.setCell ⟨w.heap.size + 1, 3, none⟩ (.slice A1 (ks.length + 1) m1)) = w6 at *
 have hLO2 := LOk.snoc HLO.out HLn.out
 have htk : ls.take (i + 1) = ls.take i ++ [l] := by rw [List.take_add_one, hl]; rfl
 rw [← htk] at hLO2
 have htx3 : tx ++ l ++ ⟨#[10]⟩ = lnT (ls.take (i + 1)) := by rw [htk, lnT_one, HTX.out]
 have hsz3 : (tx ++ l ++ ⟨#[10]⟩).size ≤ 4097 := by
  rw [ByteArray.size_append, ByteArray.size_append]
  show tx.size + l.size + 1 ≤ 4097
  omega
 have HZ := Aside0.mk (And.intro hLO2 (And.intro htx3 hsz3))
 clear hLO2 htk htx3 hsz3
 go_wp2_with fail
 go_roundg (g2 - 1)
 case measure => omega
 case rel => exact ⟨i + 1, _, _, ks ++ [kn], rfl, congrArg (Value.int .i64) (by omega), by omega, ⟨HZ.out.2.1⟩, HZ.out.2.2, H6, ⟨by rw [List.map_append]; show LOk _ (_ ++ [kn.t]); rw [HKT.out]; exact HZ.out.1⟩⟩
set_option maxHeartbeats 4000000
set_option maxRecDepth 8192
theorem vnum0_calls (g c : Nat) (w : World) (hc : w.cell? ⟨g, 0, none⟩ = some (.int .u8 48)) :
  Calls Tryz.prog 125 #[.slice (some ⟨g, 0, none⟩) 1 c, .int .i64 1] w fun e w' => e = .returned (.tuple #[.int .i64 1, .bool true]) ∧ w = w' := by
 go_enter Tryz.func125, Tryz.ntmps125
 go_wp2_with fail
 go_ret2
 exact ⟨rfl, rfl⟩
theorem vany0_calls (g c : Nat) (w : World) (hc : w.cell? ⟨g, 0, none⟩ = some (.int .u8 48)) :
  Calls Tryz.prog 92 #[.slice (some ⟨g, 0, none⟩) 1 c, .int .i64 0] w fun e w' => e = .returned (.tuple #[.int .i64 1, .bool true]) ∧ w = w' := by
 go_enter Tryz.func92, Tryz.ntmps92
 go_wp2_with fail
 refine wp_loop_once ?_
 go_wp2_with (go_at_call 125; refine (vnum0_calls g c _ hc).mono ?_; rintro e w' ⟨rfl, rfl⟩)
 go_ret2
 exact ⟨rfl, rfl⟩
theorem vpay0_calls (g c : Nat) (w : World) (hc : w.cell? ⟨g, 0, none⟩ = some (.int .u8 48)) :
  Calls Tryz.prog 64 #[.slice (some ⟨g, 0, none⟩) 1 c, .int .i64 0] w fun e w' => e = .returned (.tuple #[.int .i64 1, .bool true]) ∧ w = w' := by
 go_enter Tryz.func64, Tryz.ntmps64
 go_wp2_with fail
 refine wp_loop_once ?_
 go_wp2_with (go_at_call 92; refine (vany0_calls g c _ hc).mono ?_; rintro e w' ⟨rfl, rfl⟩)
 refine wp_loop_once ?_
 go_wp2_with fail
 go_ret2
 exact ⟨rfl, rfl⟩
theorem bytes_cells (W : World) (t : ByteArray) (hl : t.size ≤ 65536) (k : Nat) (hk : k < t.size) : (Lib.bytesWorld W 5 t).cell? ⟨W.heap.size, k, none⟩ = some (.int .u8 (bt t k)) := by
 obtain ⟨ad, e1, e2⟩ := (bytes_reads W 5 t (by omega)).2.2 (by omega)
 obtain rfl := Option.some.inj e1
 have := e2 k (by omega)
 rw [add_plain] at this
 rw [this]
 have h2 := rd_bytesOf t (k : Int)
 unfold rd at h2
 rw [Int.toNat_natCast] at h2
 rw [h2]
theorem gjvalid0_calls (w : World) : Calls Tryz.prog 17 #[.string ⟨#[48]⟩] w fun e w' => e = .returned (.bool true) ∧ Below w.heap.size w w' := by
 have hcv : ∀ W : World, (convert 9 103 (.string ⟨#[48]⟩)).run Tryz.prog W = .ok (.slice (some ⟨W.heap.size, 0, none⟩) 1 (grownCap W 1 0 5)) (Lib.bytesWorld W 5 ⟨#[48]⟩) := fun W => Lib.run_convert_string_bytes (P := Tryz.prog) W 9 103 5 ⟨#[48]⟩ Tryz.underlying9 Tryz.underlying103 Tryz.underlying5
 have hB : Below w.heap.size w (Lib.bytesWorld w 5 ⟨#[48]⟩) := bytes_below (Below.refl _ _) (Nat.le_refl _) 5 ⟨#[48]⟩
 have hc : (Lib.bytesWorld w 5 ⟨#[48]⟩).cell? ⟨w.heap.size, 0, none⟩ = some (.int .u8 48) := bytes_cells w ⟨#[48]⟩ (by decide) 0 (by decide)
 have s65 : Calls Tryz.prog 65 #[.string ⟨#[48]⟩] w fun e w' => e = .returned (.slice (some ⟨w.heap.size, 0, none⟩) 1 (grownCap w 1 0 5)) ∧ w' = Lib.bytesWorld w 5 ⟨#[48]⟩ := by
  go_enter Tryz.func65, Tryz.ntmps65
  go_wp2_with fail
  go_ret
  exact ⟨rfl, rfl⟩
 have s42 : Calls Tryz.prog 42 #[.string ⟨#[48]⟩] w fun e w' => e = .returned (.bool true) ∧ w' = Lib.bytesWorld w 5 ⟨#[48]⟩ := by
  generalize Lib.bytesWorld w 5 ⟨#[48]⟩ = W1 at *
  clear hcv
  go_enter Tryz.func42, Tryz.ntmps42
  go_wp2_with (first
   | (go_at_call 65; refine s65.mono ?_; rintro e w' ⟨rfl, rfl⟩)
   | (go_at_call 64; refine (vpay0_calls _ _ _ hc).mono ?_; rintro e w' ⟨rfl, rfl⟩))
  go_ret
  exact ⟨rfl, rfl⟩
 generalize Lib.bytesWorld w 5 ⟨#[48]⟩ = W1 at *
 clear hcv s65
 go_enter Tryz.func17, Tryz.ntmps17
 go_wp2_with (go_at_call 42; refine s42.mono ?_; rintro e w' ⟨rfl, rfl⟩)
 go_ret
 exact ⟨rfl, hB⟩
set_option maxHeartbeats 8000000
set_option maxRecDepth 8192
attribute [local go_sem] run_store_float
theorem zz_tot (ls : List ByteArray) (hl : ls.length ≤ 2147483647) : ∀ (d i : Nat), i + d = ls.length → ∃ r, laws_zzFits1.l0 (d + 1) ls (ls.length : Int) (i : Int) = some r ∧ (r = true → ∀ j, i ≤ j → j < ls.length → (ls.getD j ByteArray.empty).size ≤ 2147483647) := by
 intro d
 induction d with
 | zero =>
  intro i h
  have h1 : ¬ (i : Int) < (ls.length : Int) := by omega
  exact ⟨true, by simp only [laws_zzFits1.l0]; rw [if_neg h1], fun _ j a b => by omega⟩
 | succ d ih =>
  intro i h
  have h1 : (i : Int) < (ls.length : Int) := by omega
  have h2 : (0 : Int) ≤ (i : Int) := by omega
  have hr : rdOf ByteArray.empty ls (i : Int) = ls.getD i ByteArray.empty := by unfold rdOf; rw [Int.toNat_natCast]
  have hw : wrap64 ((i : Int) + 1) = ((i + 1 : Nat) : Int) := by unfold wrap64; omega
  obtain ⟨r, hr1, hr2⟩ := ih (i + 1) (by omega)
  by_cases c : ((ls.getD i ByteArray.empty).size : Int) > 2147483647
  ·refine ⟨false, ?_, fun q => by cases q⟩
   unfold laws_zzFits1.l0
   rw [if_pos h1, if_pos h2, if_pos h1, hr, if_pos c]
  refine ⟨r, ?_, fun q j a b => ?_⟩
  ·unfold laws_zzFits1.l0
   rw [if_pos h1, if_pos h2, if_pos h1, hr, if_neg c, hw]
   exact hr1
  by_cases e : j = i
  ·subst e; omega
  ·exact hr2 q j (by omega) b
theorem zz_f (ls : List ByteArray) : ∃ k r, laws_zzFits1.f k ls = some r ∧ (r = true → ls.length ≤ 2147483647 ∧ ∀ l ∈ ls, l.size ≤ 2147483647) := by
 by_cases c : (ls.length : Int) > 2147483647
 ·exact ⟨0, false, by unfold laws_zzFits1.f; rw [if_pos c], fun q => by cases q⟩
 obtain ⟨r, h1, h2⟩ := zz_tot ls (by omega) ls.length 0 (by omega)
 refine ⟨ls.length + 1, r, by unfold laws_zzFits1.f; rw [if_neg c]; exact h1, fun q => ⟨by omega, fun l hl => ?_⟩⟩
 obtain ⟨j, hj, e⟩ := List.mem_iff_getElem.1 hl
 have := h2 q j (by omega) hj
 rw [List.getD_eq_getElem?_getD, List.getElem?_eq_getElem hj, e] at this
 exact this
theorem raw_cells {m : Nat} {W : World} {A : Option Addr} {xs : List (List Value)} {n : Nat} (h : Kd.C (Kd.raw m) W A n xs) (hn : n = xs.length) (i : Nat) (cs : List Value) (hc : xs[i]? = some cs) : ∃ ad, A = some ad ∧ ∀ j u, cs[j]? = some u → W.cell? (ad.add (i * m + j)) = some u := by
 subst hn
 have hi : i < xs.length := by
  by_cases q : i < xs.length
  ·exact q
  ·rw [List.getElem?_eq_none (by omega)] at hc; cases hc
 obtain ⟨ad, c, hA, _, hK, hx⟩ := Kd.C_get h [] (i : Int) (by omega) (by omega)
 rw [Int.toNat_natCast, List.getD_eq_getElem?_getD, hc] at hK
 rw [Int.toNat_natCast] at hx
 have e : cs = c := by first | exact hK.1.symm | exact hK.1
 subst e
 exact ⟨ad, hA, hx⟩
structure Lq (w W : World) (g : Nat) (K : Int) (txt : ByteArray) (A2 A3 : Option Addr) (n2 c2 c3 : Nat) (ks : List KN) (Aa : Option Addr) (T : ByteArray) (L : List VR) : Prop where
 hg : W.heap[g]? = some (.cells #[.int .i64 K, .string txt, .slice A2 n2 c2, .slice A3 ks.length c3] 25 (0, 0))
 hk : Kd.C (Kd.raw 4) W A3 ks.length (ks.map KN.cells)
 ha : Kd.C (Kd.raw 5) W Aa L.length (L.map (rowOf T))
 hn : ∀ k ∈ ks, NodeIn W k.t k.A2 k.A3 k.c2 k.c3
 be : Below w.heap.size w W
theorem Lq.below {w W W2 : World} {g : Nat} {K : Int} {txt : ByteArray} {A2 A3 : Option Addr} {n2 c2 c3 : Nat} {ks : List KN} {Aa : Option Addr} {T : ByteArray} {L : List VR} (h : Lq w W g K txt A2 A3 n2 c2 c3 ks Aa T L) (hb : Below W.heap.size W W2) : Lq w W2 g K txt A2 A3 n2 c2 c3 ks Aa T L :=
 ⟨(hb.block _ (blk_lt h.hg)).trans h.hg, Kd.C_below h.hk hb, Kd.C_below h.ha hb, fun k hk => (h.hn k hk).below hb, below_then h.be h.be.size hb⟩
structure Sx (W : World) (g g1 : Nat) (K : Int) (txt : ByteArray) (A2 : Option Addr) (n2 c2 c3 n : Nat) (ka aa : Addr) (i : Nat) (kn : KN) (T : Int) (raw str : ByteArray) (x : Nat) : Prop where
 hg : W.heap[g]? = some (.cells #[.int .i64 K, .string txt, .slice A2 n2 c2, .slice (some ka) n c3] 25 (0, 0))
 h1 : W.heap[g1]? = some (.cells #[.int .i64 T, .string raw, .string str, .float .f64 x, .bool true] 41 (0, 0))
 ka : ∀ j u, kn.cells[j]? = some u → W.cell? (ka.add (i * 4 + j)) = some u
 aa : ∀ j u, (rc T raw str x true)[j]? = some u → W.cell? (aa.add (i * 5 + j)) = some u
 hn : NodeIn W kn.t kn.A2 kn.A3 kn.c2 kn.c3
section
variable {W W2 : World} {g g1 : Nat} {K : Int} {txt : ByteArray} {A2 : Option Addr} {n2 c2 c3 n : Nat} {ka aa : Addr} {i : Nat} {kn : KN} {T : Int} {raw str : ByteArray} {x : Nat}
theorem Sx.below (h : Sx W g g1 K txt A2 n2 c2 c3 n ka aa i kn T raw str x) (hb : Below W.heap.size W W2) : Sx W2 g g1 K txt A2 n2 c2 c3 n ka aa i kn T raw str x :=
 ⟨(hb.block _ (blk_lt h.hg)).trans h.hg, (hb.block _ (blk_lt h.h1)).trans h.h1, fun j u q => pw_cell_below hb (h.ka j u q), fun j u q => pw_cell_below hb (h.aa j u q), h.hn.below hb⟩
theorem Sx.cells (h : Sx W g g1 K txt A2 n2 c2 c3 n ka aa i kn T raw str x) : W.cell? ⟨g, 3, none⟩ = some (.slice (some ka) n c3) ∧
  (W.cell? ⟨g1, 0, none⟩ = some (.int .i64 T) ∧ W.cell? ⟨g1, 1, none⟩ = some (.string raw) ∧ W.cell? ⟨g1, 2, none⟩ = some (.string str) ∧ W.cell? ⟨g1, 3, none⟩ = some (.float .f64 x) ∧ W.cell? ⟨g1, 4, none⟩ = some (.bool true)) ∧
  (W.cell? (ka.add (i * 4)) = some (.int .i64 kn.t.f0) ∧ W.cell? ⟨(ka.add (i * 4)).block, (ka.add (i * 4)).off + 1, none⟩ = some (.string kn.t.f1) ∧ W.cell? ⟨(ka.add (i * 4)).block, (ka.add (i * 4)).off + 2, none⟩ = some (.slice kn.A2 kn.t.f2.length kn.c2) ∧ W.cell? ⟨(ka.add (i * 4)).block, (ka.add (i * 4)).off + 3, none⟩ = some (.slice kn.A3 kn.t.f3.length kn.c3)) ∧
  (W.cell? (aa.add (i * 5)) = some (.int .i64 T) ∧ W.cell? ⟨(aa.add (i * 5)).block, (aa.add (i * 5)).off + 1, none⟩ = some (.string raw) ∧ W.cell? ⟨(aa.add (i * 5)).block, (aa.add (i * 5)).off + 2, none⟩ = some (.string str) ∧ W.cell? ⟨(aa.add (i * 5)).block, (aa.add (i * 5)).off + 3, none⟩ = some (.float .f64 x) ∧ W.cell? ⟨(aa.add (i * 5)).block, (aa.add (i * 5)).off + 4, none⟩ = some (.bool true)) := by
 rw [add_next ka _ 1 (by decide), add_next ka _ 2 (by decide), add_next ka _ 3 (by decide), add_next aa _ 1 (by decide), add_next aa _ 2 (by decide), add_next aa _ 3 (by decide), add_next aa _ 4 (by decide)]
 exact ⟨blk_cell h.hg 3, ⟨blk_cell h.h1 0, blk_cell h.h1 1, blk_cell h.h1 2, blk_cell h.h1 3, blk_cell h.h1 4⟩, ⟨h.ka 0 _ rfl, h.ka 1 _ rfl, h.ka 2 _ rfl, h.ka 3 _ rfl⟩, ⟨h.aa 0 _ rfl, h.aa 1 _ rfl, h.aa 2 _ rfl, h.aa 3 _ rfl, h.aa 4 _ rfl⟩⟩
end
theorem kind_of {s : ByteArray} {c : S78} (h : V.G s (.val c)) : 0 ≤ c.f0 ∧ c.f0 ≤ 6 := by
 cases h <;> first | exact ⟨by decide, by decide⟩ | (dsimp only; omega) | (split <;> decide)
def ALaw (w : World) (e : Ending) (w' : World) : Prop := e = .returned (.bool true) ∧ Below w.heap.size w w'
theorem vt_lines (ls : List ByteArray) (ks : List KN) (h : LOk ls (ks.map KN.t)) (hz : (lnT ls).size ≤ 4097) (w0 : World) (hT : Tabs w0) (hV : VT w0) : ∃ L : List VR, Vt (lnT ls) w0 0 L ∧ L.map VR.t = ks.map KN.t := by
 rw [lnT_size] at hz
 obtain ⟨W, hW, hm⟩ := lines_vs (lnL ls) (by omega) ls _ h 0 rfl (by omega) 0 (by omega) (by omega) (fun j a b => by omega)
 obtain ⟨L, hL, hm2⟩ := vt_of (s := lnT ls) (by rw [lnT_size]; omega) w0 hV hT hW
 exact ⟨L, hL, hm2.trans hm⟩
theorem alaw_calls (A0 : Option Addr) (c0 : Nat) (ls : List ByteArray) (w : World) (hr0 : Kd.C Kd.string w A0 ls.length ls) (hc0 : ls.length ≤ c0) (hT : Tabs w) (hV : VT w) :
  Calls Tryz.prog 4 #[.slice A0 ls.length c0] w (ALaw w) := by
 obtain ⟨k0, r0, hf, hz⟩ := zz_f ls
 have HR := Aside0.mk (And.intro hr0 (And.intro hc0 (And.intro hf (And.intro hz (And.intro hT hV)))))
 clear hr0 hc0 hf hz hT hV
 go_enter Tryz.func4, Tryz.ntmps4
 cases r0
 ·go_wp2_with (go_at_call 11; refine (laws_zzFits1.calls k0 A0 c0 ls _ _ HR.out.1 HR.out.2.1 HR.out.2.2.1).mono ?_; rintro e w1 ⟨rfl, hd⟩; have HD := Aside0.mk hd.below; clear hd)
  go_ret
  exact ⟨rfl, HD.out⟩
 have HZ := Aside0.mk (HR.out.2.2.2.1 rfl)
 go_upto_region 3 with (go_at_call 11; refine (laws_zzFits1.calls k0 A0 c0 ls _ _ HR.out.1 HR.out.2.1 HR.out.2.2.1).mono ?_; rintro e w1 ⟨rfl, hd⟩; have HD := Aside0.mk hd.below; clear hd)
 go_upto_region 4 with (go_at_call 12; refine (gjl_calls A0 c0 ls _ (Kd.C_below HR.out.1 HD.out) HR.out.2.1 HZ.out.2 HZ.out.1).mono ?_; rintro e w2 ⟨K, txt, A2, A3, n2, n3, c2, c3, text, ok, rfl, hb, hG⟩; have HG := Aside0.mk (And.intro (below_then HD.out HD.out.size hb) hG); clear hb hG)
 have hba := below_alloc (Below.refl w2.heap.size w2) (.cells #[.int .i64 K, .string txt, .slice A2 n2 c2, .slice A3 n3 c3] 25)
 cases ok
 ·go_wp2_with fail
  go_ret
  exact ⟨rfl, below_then HG.out.1 HG.out.1.size hba⟩
 obtain ⟨rfl, hz, ks, rfl, hk, hkc, hlo, hkn⟩ := HG.out.2 rfl
 obtain ⟨L, hL, hm⟩ := vt_lines ls ks hlo hz w HR.out.2.2.2.2.1 HR.out.2.2.2.2.2
 have hlen : L.length = ks.length := by have := congrArg List.length hm; rw [List.length_map, List.length_map] at this; exact this
 have hsz := lnT_size ls
 have hll : L.length ≤ 100000 := by
  have h1 := hlo.length
  rw [List.length_map] at h1
  have h2 := lnL_len ls
  omega
 have HV := Aside0.mk (And.intro hL (And.intro hm (And.intro hlen (And.intro hll hz))))
 have HQ0 := Aside0.mk (And.intro (heap_alloc_new w2 (.cells #[.int .i64 K, .string txt, .slice A2 n2 c2, .slice A3 ks.length c3] 25)) (And.intro (Kd.C_below hk hba) (And.intro (fun k q => (hkn k q).below hba) (below_then HG.out.1 HG.out.1.size hba))))
 clear hk hkn hlo hL hm hsz hba HG HD HZ hz
 generalize w2.alloc (.cells #[.int .i64 K, .string txt, .slice A2 n2 c2, .slice A3 ks.length c3] 25) = W3 at *
 generalize w2.heap.size = g at *
 go_upto_region 7 with (go_at_call 13; refine (gjlines_calls (lnT ls) (by have := HV.out.2.2.2.2; omega) w _ HQ0.out.2.2.2 L HV.out.1 HV.out.2.2.2.1).mono ?_; rintro e w4 ⟨Aa, ca, rfl, hb, hR⟩; have HL := Aside0.mk (And.intro hb hR); clear hb hR)
 have hra := Kd.R_reads' HL.out.2
 have HQ := Aside0.mk (show Lq w w4 g K txt A2 A3 n2 c2 c3 ks Aa (lnT ls) L from ⟨(HL.out.1.block _ (blk_lt HQ0.out.1)).trans HQ0.out.1, Kd.C_below HQ0.out.2.1 HL.out.1, (by have := hra.2.2; rw [List.length_map] at this; exact this), fun k q => (HQ0.out.2.2.1 k q).below HL.out.1, below_then HQ0.out.2.2.2 HQ0.out.2.2.2.size HL.out.1⟩)
 clear HQ0 HL hra
 obtain ⟨s, hs⟩ : ∃ s, s = lnT ls := ⟨_, rfl⟩
 rw [← hs] at HQ HV
 (try simp only [← hs])
 clear hs
 have g3 := blk_cell HQ.out.hg 3
 go_upto_region 9 with fail
 go_loopg [7, 31] L.length (fun kq v7 v31 w' => ∃ (i : Nat) (a : Int), v7 = .int .i64 a ∧ v31 = .int .i64 (i : Int) ∧ kq + i = L.length ∧ Aside0 (Vt s w a (L.drop i)) ∧ Aside0 (Lq w w' g K txt A2 A3 n2 c2 c3 ks Aa s L))
 case atStart => exact ⟨0, 0, rfl, rfl, by omega, ⟨HV.out.1⟩, HQ⟩
 clear HQ g3
 obtain ⟨i, a, rfl, rfl, hki, HVt, HQ⟩ := hrel
 have hlen := HV.out.2.2.1
 have g3 := blk_cell HQ.out.hg 3
 by_cases hlt : i < L.length
 rotate_left
 ·have hge : ¬ (i : Int) < ks.length := by omega
  have hn : L.drop i = [] := List.drop_eq_nil_of_le (by omega)
  rw [hn] at HVt
  obtain ⟨a0, a1, a2⟩ := HVt.out.inv0
  have hsz : s.size ≤ 4097 := HV.out.2.2.2.2
  have HC := Aside0.mk (anyat_calls s a s.size 0 ⟨#[]⟩ ⟨#[]⟩ 0 false wr (.inr ⟨rfl, rfl, rfl, rfl, rfl⟩) (fun W hb => (pany_none s (by omega) a a0 a1 a2 W).mono fun e w' h => ⟨0, h.1, h.2⟩))
  clear hn a2 HVt
  go_upto_region 17 with (go_at_call 14; refine HC.out.mono ?_; rintro e w5 ⟨rfl, hb⟩; simp only [r41b]; have H5 := Aside0.mk (And.intro hb (HQ.out.below hb)); clear hb)
  have hba := below_alloc (Below.refl w5.heap.size w5) (.cells #[.int .i64 0, .string ⟨#[]⟩, .string ⟨#[]⟩, .float .f64 0, .bool false] 41)
  have H6 := Aside0.mk (H5.out.2.below hba)
  clear H5 HC HQ hba g3
  generalize (w5.alloc (.cells #[.int .i64 0, .string ⟨#[]⟩, .string ⟨#[]⟩, .float .f64 0, .bool false] 41)) = W7 at *
  generalize w5.heap.size = g1 at *
  have g3 := blk_cell H6.out.hg 3
  by_cases hl : 0 < ls.length
  ·have hl' : (ls.length : Int) > 0 := by omega
   go_wp2_with fail
   go_ret
   exact ⟨rfl, H6.out.be⟩
  have hl' : ¬ (ls.length : Int) > 0 := by omega
  go_wp2_with (go_at_call 17; refine (gjvalid0_calls _).mono ?_; rintro e w8 ⟨rfl, hb⟩; have H8 := Aside0.mk (below_then H6.out.be H6.out.be.size hb); clear hb)
  go_ret
  exact ⟨rfl, H8.out⟩
 have hlt' : (i : Int) < ks.length := by omega
 have hdr : L.drop i = L[i] :: L.drop (i + 1) := List.drop_eq_getElem_cons hlt
 have hik : i < ks.length := by omega
 obtain ⟨kn, hkn⟩ : ∃ kn, ks[i]? = some kn := ⟨_, List.getElem?_eq_getElem hik⟩
 obtain ⟨r, hr⟩ : ∃ r, L[i]? = some r := ⟨_, List.getElem?_eq_getElem hlt⟩
 have hrt : r.t = kn.t := by
  have := congrArg (fun q => q[i]?) HV.out.2.1
  simp only [List.getElem?_map, hkn, hr, Option.map_some] at this
  injection this
 have hr' : L[i] = r := by rw [List.getElem?_eq_getElem hlt] at hr; injection hr
 rw [hdr, hr'] at HVt
 clear hdr hr'
 obtain ⟨⟨a0, a1, a2⟩, hG, hTr, hSB, h0, hSt, hTe, hVn⟩ := HVt.out.inv
 have hsz : s.size ≤ 65536 := by have := HV.out.2.2.2.2; omega
 obtain ⟨hrz, _⟩ := ag_own hG
 obtain ⟨p0, p1, p2, _⟩ := hG.ok
 have p1 : r.c.f1 < r.c.f2 := p1
 have p2 : r.c.f2 ≤ s.size := p2
 have hkk : 0 ≤ r.t.f0 ∧ r.t.f0 ≤ 6 := by rw [h0]; exact kind_of hG
 have HC := Aside0.mk (anyat_calls s a r.c.f2 (kT r.c.f0) (raw s r.c) r.str r.x true wr (.inl ⟨rfl, .inr (by omega)⟩) (fun W hb => hTe W (below_then HQ.out.be HQ.out.be.size hb) a a0 a1 a2))
 have HK := Aside0.mk (show SB kn.t ∧ (0 ≤ kn.t.f0 ∧ kn.t.f0 ≤ 6) ∧ (∀ W, Calls Tryz.prog 21 #[.string (raw s r.c)] W (RdG kn.t true W)) ∧ (kn.t.f0 = 4 → r.str = kn.t.f1) ∧ raw s r.c = s.extract r.c.f1.toNat r.c.f2.toNat by
  rw [← hrt]; exact ⟨hSB, hkk, fun W => raw_read s hsz hG hTr W, fun q => str_is hsz hG (h0 ▸ q) hTr hSt, rfl⟩)
 have HN := Aside0.mk (And.intro hVn (And.intro hkn hr))
 have hT0 : kT r.c.f0 = kT kn.t.f0 := by rw [← hrt, h0]
 rw [hT0] at HC
 have HR5 := Aside0.mk (show rowOf s r = rc (kT kn.t.f0) (raw s r.c) r.str r.x true by unfold rowOf; rw [hT0])
 clear hVn hkn hr hrt hG hTr hSB h0 hSt hTe hkk a2 hT0 HVt
 generalize raw s r.c = rw1 at *
 generalize r.str = st1 at *
 generalize r.x = x1 at *
 generalize r.c.f1 = P at *
 generalize r.c.f2 = E at *
 obtain ⟨ka, rfl, hka⟩ := raw_cells HQ.out.hk (by rw [List.length_map]) i kn.cells (by rw [List.getElem?_map, HN.out.2.1]; rfl)
 obtain ⟨aa, rfl, haa⟩ := raw_cells HQ.out.ha (by rw [List.length_map]) i (rc (kT kn.t.f0) rw1 st1 x1 true) (by rw [List.getElem?_map, HN.out.2.2]; show some (rowOf s r) = _; rw [HR5.out])
 have HE := Aside0.mk (And.intro hka (And.intro haa (HQ.out.hn kn (List.mem_of_getElem? HN.out.2.1))))
 clear hka haa HR5
 go_upto_region 12 with (go_at_call 14; refine HC.out.mono ?_; rintro e w5 ⟨rfl, hb⟩; simp only [r41b]; have H5 := Aside0.mk (And.intro hb (HQ.out.below hb)); clear hb)
 have hba := below_alloc (Below.refl w5.heap.size w5) (.cells #[.int .i64 (kT kn.t.f0), .string rw1, .string st1, .float .f64 x1, .bool true] 41)
 have HS := Aside0.mk (show Sx (w5.alloc (.cells #[.int .i64 (kT kn.t.f0), .string rw1, .string st1, .float .f64 x1, .bool true] 41)) g w5.heap.size K txt A2 n2 c2 c3 ks.length ka aa i kn (kT kn.t.f0) rw1 st1 x1 ∧ Lq w (w5.alloc (.cells #[.int .i64 (kT kn.t.f0), .string rw1, .string st1, .float .f64 x1, .bool true] 41)) g K txt A2 (some ka) n2 c2 c3 ks (some aa) s L from
  ⟨⟨(H5.out.2.below hba).hg, heap_alloc_new w5 _, fun j u q => pw_cell_below hba (pw_cell_below H5.out.1 (HE.out.1 j u q)), fun j u q => pw_cell_below hba (pw_cell_below H5.out.1 (HE.out.2.1 j u q)), (HE.out.2.2.below H5.out.1).below hba⟩, H5.out.2.below hba⟩)
 clear H5 hba HE HQ HC g3
 generalize (w5.alloc (.cells #[.int .i64 (kT kn.t.f0), .string rw1, .string st1, .float .f64 x1, .bool true] 41)) = W7 at *
 generalize w5.heap.size = g1 at *
 have HY := Aside0.mk (show Sx W7.drew g g1 K txt A2 n2 c2 c3 ks.length ka aa i kn (kT kn.t.f0) rw1 st1 x1 ∧ Lq w W7.drew g K txt A2 (some ka) n2 c2 c3 ks (some aa) s L from ⟨HS.out.1.below (below_drew (Below.refl _ _)), HS.out.2.below (below_drew (Below.refl _ _))⟩)
 clear HS
 refine wp_region_held_drew (S := (fun w' => Sx w' g g1 K txt A2 n2 c2 c3 ks.length ka aa i kn (kT kn.t.f0) rw1 st1 x1)) (by kernel_rfl) HY.out.1 (fun hHeld => ?_)
 generalize W7.drew = W8 at *
 have wrapP : IntKind.i64.wrap P = P := by have := HV.out.2.2.2.2; unfold IntKind.wrap; simp [IntKind.bits, IntKind.signed]; omega
 have pE : 0 ≤ E := by omega
 have pPE : P ≤ E := by omega
 refine tkH (i := 0) (by simp only [gT, gS, gZ]; rfl) (by kernel_rfl) (by exact fun _ _ _ h => h) (.inl ⟨by rfl, fun w hSw => by obtain ⟨g3, ⟨a0, a1, a2, a3, a4⟩, ⟨n0, n1, n2, n3⟩, ⟨r0, r1, r2, r3, r4⟩⟩ := hSw.cells; go_simp <;> with_reducible rfl⟩) hHeld ?_
 (try simp only [aP, aN, sT, sZ, sS])
 refine tkH (i := 1) (by simp only [gT, gS, gZ]; rfl) (by kernel_rfl) (by exact fun _ _ _ h => h) (.inl ⟨by rfl, fun w hSw => by obtain ⟨g3, ⟨a0, a1, a2, a3, a4⟩, ⟨n0, n1, n2, n3⟩, ⟨r0, r1, r2, r3, r4⟩⟩ := hSw.cells; go_simp <;> with_reducible rfl⟩) hHeld ?_
 (try simp only [aP, aN, sT, sZ, sS])
 refine tkH (i := 2) (by simp only [gT, gS, gZ]; rfl) (by kernel_rfl) (by exact fun _ _ _ h => h) (.inl ⟨by rfl, fun w hSw => by obtain ⟨g3, ⟨a0, a1, a2, a3, a4⟩, ⟨n0, n1, n2, n3⟩, ⟨r0, r1, r2, r3, r4⟩⟩ := hSw.cells; go_simp <;> with_reducible rfl⟩) hHeld ?_
 (try simp only [aP, aN, sT, sZ, sS])
 refine tkH (i := 3) (by simp only [gT, gS, gZ]; rfl) (by kernel_rfl) (by exact fun _ _ _ h => h) (.inl ⟨by rfl, fun w hSw => by obtain ⟨g3, ⟨a0, a1, a2, a3, a4⟩, ⟨n0, n1, n2, n3⟩, ⟨r0, r1, r2, r3, r4⟩⟩ := hSw.cells; go_simp <;> with_reducible rfl⟩) hHeld ?_
 (try simp only [aP, aN, sT, sZ, sS])
 refine tkH (i := 4) (by simp only [gT, gS, gZ]; rfl) (by kernel_rfl) (by exact fun _ _ _ h => h) (.inl ⟨by rfl, fun w hSw => by obtain ⟨g3, ⟨a0, a1, a2, a3, a4⟩, ⟨n0, n1, n2, n3⟩, ⟨r0, r1, r2, r3, r4⟩⟩ := hSw.cells; go_simp <;> with_reducible rfl⟩) hHeld ?_
 (try simp only [aP, aN, sT, sZ, sS])
 refine tkH (i := 5) (by simp only [gT, gS, gZ]; rfl) (by kernel_rfl) (by exact fun _ _ _ h => h) (.inl ⟨by rfl, fun w hSw => by obtain ⟨g3, ⟨a0, a1, a2, a3, a4⟩, ⟨n0, n1, n2, n3⟩, ⟨r0, r1, r2, r3, r4⟩⟩ := hSw.cells; go_simp <;> with_reducible rfl⟩) hHeld ?_
 (try simp only [aP, aN, sT, sZ, sS])
 refine tkH (i := 6) (by simp only [gT, gS, gZ]; rfl) (by kernel_rfl) (by exact fun _ _ _ h => h) (.inl ⟨by rfl, fun w hSw => by obtain ⟨g3, ⟨a0, a1, a2, a3, a4⟩, ⟨n0, n1, n2, n3⟩, ⟨r0, r1, r2, r3, r4⟩⟩ := hSw.cells; go_simp <;> with_reducible rfl⟩) hHeld ?_
 (try simp only [aP, aN, sT, sZ, sS])
 rw [show decide (ks.length ≤ i) = false from decide_eq_false (by omega)]
 refine tkH (i := 7) (by simp only [gT, gS, gZ]; rfl) (by kernel_rfl) (by exact fun _ _ _ h => h) (.inl ⟨by rfl, fun w hSw => by obtain ⟨g3, ⟨a0, a1, a2, a3, a4⟩, ⟨n0, n1, n2, n3⟩, ⟨r0, r1, r2, r3, r4⟩⟩ := hSw.cells; go_simp <;> with_reducible rfl⟩) hHeld ?_
 (try simp only [aP, aN, sT, sZ, sS])
 refine tkH (i := 8) (by simp only [gT, gS, gZ]; rfl) (by kernel_rfl) (by exact fun _ _ _ h => h) (.inl ⟨by rfl, fun w hSw => by obtain ⟨g3, ⟨a0, a1, a2, a3, a4⟩, ⟨n0, n1, n2, n3⟩, ⟨r0, r1, r2, r3, r4⟩⟩ := hSw.cells; go_simp <;> with_reducible rfl⟩) hHeld ?_
 (try simp only [aP, aN, sT, sZ, sS])
 refine tkH (i := 9) (by simp only [gT, gS, gZ]; rfl) (by kernel_rfl) (by exact fun _ _ _ h => h) (.inl ⟨by rfl, fun w hSw => by obtain ⟨g3, ⟨a0, a1, a2, a3, a4⟩, ⟨n0, n1, n2, n3⟩, ⟨r0, r1, r2, r3, r4⟩⟩ := hSw.cells; go_simp <;> with_reducible rfl⟩) hHeld ?_
 (try simp only [aP, aN, sT, sZ, sS])
 refine tkH (i := 10) (by simp only [gT, gS, gZ]; rfl) (by kernel_rfl) (by exact fun _ _ _ h => h) (.inl ⟨by rfl, fun w hSw => by obtain ⟨g3, ⟨a0, a1, a2, a3, a4⟩, ⟨n0, n1, n2, n3⟩, ⟨r0, r1, r2, r3, r4⟩⟩ := hSw.cells; go_simp <;> with_reducible rfl⟩) hHeld ?_
 (try simp only [aP, aN, sT, sZ, sS])
 refine tkH (i := 11) (by simp only [gT, gS, gZ]; rfl) (by kernel_rfl) (by exact fun _ _ _ h => h) (.inl ⟨by rfl, fun w hSw => by obtain ⟨g3, ⟨a0, a1, a2, a3, a4⟩, ⟨n0, n1, n2, n3⟩, ⟨r0, r1, r2, r3, r4⟩⟩ := hSw.cells; go_simp <;> with_reducible rfl⟩) hHeld ?_
 (try simp only [aP, aN, sT, sZ, sS])
 refine tkH (i := 12) (by simp only [gT, gS, gZ]; rfl) (by kernel_rfl) (by exact fun _ _ _ h => h) (.inl ⟨by rfl, fun w hSw => by obtain ⟨g3, ⟨a0, a1, a2, a3, a4⟩, ⟨n0, n1, n2, n3⟩, ⟨r0, r1, r2, r3, r4⟩⟩ := hSw.cells; go_simp <;> with_reducible rfl⟩) hHeld ?_
 (try simp only [aP, aN, sT, sZ, sS])
 refine tkH (i := 13) (by simp only [gT, gS, gZ]; rfl) (by kernel_rfl) (by exact fun _ _ _ h => h) (.inl ⟨by rfl, fun w hSw => by obtain ⟨g3, ⟨a0, a1, a2, a3, a4⟩, ⟨n0, n1, n2, n3⟩, ⟨r0, r1, r2, r3, r4⟩⟩ := hSw.cells; go_simp <;> with_reducible rfl⟩) hHeld ?_
 (try simp only [aP, aN, sT, sZ, sS])
 refine wpAnyH_ready (rs := [14]) (by kernel_rfl) (by simp) (AllReadyH.cons (o := ?_) ?_ (fun KK hK => ?_) AllReadyH.nil)
 rotate_left 1
 ·(simp only [gT, gS, gZ]; rfl)
 go_simp
 (go_at_call 15; refine (alike_calls _ _ _ _ _ _).mono ?_; rintro e w9 ⟨rfl, hb⟩; have HY := Aside0.mk (show Sx w9 g g1 K txt A2 n2 c2 c3 ks.length ka aa i kn (kT kn.t.f0) rw1 st1 x1 ∧ Lq w w9 g K txt A2 (some ka) n2 c2 c3 ks (some aa) s L from ⟨HY.out.1.below hb, HY.out.2.below hb⟩); clear hb)
 refine hK.out _ _ HY.out.1 (fun hHeld2 => ?_)
 clear hK KK hHeld
 have hHeld := hHeld2
 clear hHeld2
 (try simp only [aP, aN, sT, sZ, sS])
 refine tkH (i := 15) (by simp only [gT, gS, gZ]; rfl) (by kernel_rfl) (by exact fun _ _ _ h => h) (.inl ⟨by rfl, fun w hSw => by obtain ⟨g3, ⟨a0, a1, a2, a3, a4⟩, ⟨n0, n1, n2, n3⟩, ⟨r0, r1, r2, r3, r4⟩⟩ := hSw.cells; go_simp <;> with_reducible rfl⟩) hHeld ?_
 (try simp only [aP, aN, sT, sZ, sS])
 refine tkH (i := 16) (by simp only [gT, gS, gZ]; rfl) (by kernel_rfl) (by exact fun _ _ _ h => h) (.inl ⟨by rfl, fun w hSw => by obtain ⟨g3, ⟨a0, a1, a2, a3, a4⟩, ⟨n0, n1, n2, n3⟩, ⟨r0, r1, r2, r3, r4⟩⟩ := hSw.cells; go_simp <;> with_reducible rfl⟩) hHeld ?_
 (try simp only [aP, aN, sT, sZ, sS])
 refine tkH (i := 17) (by simp only [gT, gS, gZ]; rfl) (by kernel_rfl) (by exact fun _ _ _ h => h) (.inl ⟨by rfl, fun w hSw => by obtain ⟨g3, ⟨a0, a1, a2, a3, a4⟩, ⟨n0, n1, n2, n3⟩, ⟨r0, r1, r2, r3, r4⟩⟩ := hSw.cells; go_simp <;> with_reducible rfl⟩) hHeld ?_
 (try simp only [aP, aN, sT, sZ, sS])
 refine tkH (i := 18) (by simp only [gT, gS, gZ]; rfl) (by kernel_rfl) (by exact fun _ _ _ h => h) (.inl ⟨by rfl, fun w hSw => by obtain ⟨g3, ⟨a0, a1, a2, a3, a4⟩, ⟨n0, n1, n2, n3⟩, ⟨r0, r1, r2, r3, r4⟩⟩ := hSw.cells; go_simp <;> with_reducible rfl⟩) hHeld ?_
 (try simp only [aP, aN, sT, sZ, sS])
 refine tkH (i := 19) (by simp only [gT, gS, gZ]; rfl) (by kernel_rfl) (by exact fun _ _ _ h => h) (.inl ⟨by rfl, fun w hSw => by obtain ⟨g3, ⟨a0, a1, a2, a3, a4⟩, ⟨n0, n1, n2, n3⟩, ⟨r0, r1, r2, r3, r4⟩⟩ := hSw.cells; go_simp <;> with_reducible rfl⟩) hHeld ?_
 (try simp only [aP, aN, sT, sZ, sS])
 refine tkH (i := 20) (by simp only [gT, gS, gZ]; rfl) (by kernel_rfl) (by exact fun _ _ _ h => h) (.inl ⟨by rfl, fun w hSw => by obtain ⟨g3, ⟨a0, a1, a2, a3, a4⟩, ⟨n0, n1, n2, n3⟩, ⟨r0, r1, r2, r3, r4⟩⟩ := hSw.cells; go_simp <;> with_reducible rfl⟩) hHeld ?_
 (try simp only [aP, aN, sT, sZ, sS])
 refine tkH (i := 21) (by simp only [gT, gS, gZ]; rfl) (by kernel_rfl) (by exact fun _ _ _ h => h) (.inl ⟨by rfl, fun w hSw => by obtain ⟨g3, ⟨a0, a1, a2, a3, a4⟩, ⟨n0, n1, n2, n3⟩, ⟨r0, r1, r2, r3, r4⟩⟩ := hSw.cells; go_simp <;> with_reducible rfl⟩) hHeld ?_
 (try simp only [aP, aN, sT, sZ, sS])
 refine tkH (i := 22) (by simp only [gT, gS, gZ]; rfl) (by kernel_rfl) (by exact fun _ _ _ h => h) (.inl ⟨by rfl, fun w hSw => by obtain ⟨g3, ⟨a0, a1, a2, a3, a4⟩, ⟨n0, n1, n2, n3⟩, ⟨r0, r1, r2, r3, r4⟩⟩ := hSw.cells; go_simp <;> with_reducible rfl⟩) hHeld ?_
 (try simp only [aP, aN, sT, sZ, sS])
 refine tkH (i := 23) (by simp only [gT, gS, gZ]; rfl) (by kernel_rfl) (by exact fun _ _ _ h => h) (.inl ⟨by rfl, fun w hSw => by obtain ⟨g3, ⟨a0, a1, a2, a3, a4⟩, ⟨n0, n1, n2, n3⟩, ⟨r0, r1, r2, r3, r4⟩⟩ := hSw.cells; go_simp <;> with_reducible rfl⟩) hHeld ?_
 (try simp only [aP, aN, sT, sZ, sS])
 refine wpAnyH_ready (rs := [24]) (by kernel_rfl) (by simp) (AllReadyH.cons (o := ?_) ?_ (fun KK hK => ?_) AllReadyH.nil)
 rotate_left 1
 ·(simp only [gT, gS, gZ]; rfl)
 go_simp
 (go_at_call 16; refine (gjis_calls _ _ _ _ _ _ _ _ _ HY.out.1.hn HK.out.1 HK.out.2.1 HK.out.2.2.1 HK.out.2.2.2.1).mono ?_; rintro e w10 ⟨rfl, hb⟩; have HY := Aside0.mk (show Sx w10 g g1 K txt A2 n2 c2 c3 ks.length ka aa i kn (kT kn.t.f0) rw1 st1 x1 ∧ Lq w w10 g K txt A2 (some ka) n2 c2 c3 ks (some aa) s L from ⟨HY.out.1.below hb, HY.out.2.below hb⟩); clear hb)
 refine hK.out _ _ HY.out.1 (fun hHeld2 => ?_)
 clear hK KK hHeld
 have hHeld := hHeld2
 clear hHeld2
 (try simp only [aP, aN, sT, sZ, sS])
 refine tkH (i := 25) (by simp only [gT, gS, gZ]; rfl) (by kernel_rfl) (by exact fun _ _ _ h => h) (.inl ⟨by rfl, fun w hSw => by obtain ⟨g3, ⟨a0, a1, a2, a3, a4⟩, ⟨n0, n1, n2, n3⟩, ⟨r0, r1, r2, r3, r4⟩⟩ := hSw.cells; go_simp <;> with_reducible rfl⟩) hHeld ?_
 (try simp only [aP, aN, sT, sZ, sS])
 refine tkH (i := 26) (by simp only [gT, gS, gZ]; rfl) (by kernel_rfl) (by exact fun _ _ _ h => h) (.inl ⟨by rfl, fun w hSw => by obtain ⟨g3, ⟨a0, a1, a2, a3, a4⟩, ⟨n0, n1, n2, n3⟩, ⟨r0, r1, r2, r3, r4⟩⟩ := hSw.cells; go_simp <;> with_reducible rfl⟩) hHeld ?_
 (try simp only [aP, aN, sT, sZ, sS])
 refine tkH (i := 27) (by simp only [gT, gS, gZ]; rfl) (by kernel_rfl) (by exact fun _ _ _ h => h) (.inl ⟨by rfl, fun w hSw => by obtain ⟨g3, ⟨a0, a1, a2, a3, a4⟩, ⟨n0, n1, n2, n3⟩, ⟨r0, r1, r2, r3, r4⟩⟩ := hSw.cells; go_simp <;> with_reducible rfl⟩) hHeld ?_
 (try simp only [aP, aN, sT, sZ, sS])
 refine tkH (i := 28) (by simp only [gT, gS, gZ]; rfl) (by kernel_rfl) (by exact fun _ _ _ h => h) (.inl ⟨by rfl, fun w hSw => by obtain ⟨g3, ⟨a0, a1, a2, a3, a4⟩, ⟨n0, n1, n2, n3⟩, ⟨r0, r1, r2, r3, r4⟩⟩ := hSw.cells; go_simp <;> with_reducible rfl⟩) hHeld ?_
 (try simp only [aP, aN, sT, sZ, sS])
 refine tkH (i := 29) (by simp only [gT, gS, gZ]; rfl) (by kernel_rfl) (by exact fun _ _ _ h => h) (.inl ⟨by rfl, fun w hSw => by obtain ⟨g3, ⟨a0, a1, a2, a3, a4⟩, ⟨n0, n1, n2, n3⟩, ⟨r0, r1, r2, r3, r4⟩⟩ := hSw.cells; go_simp <;> with_reducible rfl⟩) hHeld ?_
 (try simp only [aP, aN, sT, sZ, sS])
 refine tkH (i := 30) (by simp only [gT, gS, gZ]; rfl) (by kernel_rfl) (by exact fun _ _ _ h => h) (.inl ⟨by rfl, fun w hSw => by obtain ⟨g3, ⟨a0, a1, a2, a3, a4⟩, ⟨n0, n1, n2, n3⟩, ⟨r0, r1, r2, r3, r4⟩⟩ := hSw.cells; go_simp <;> with_reducible rfl⟩) hHeld ?_
 (try simp only [aP, aN, sT, sZ, sS])
 rw [show decide (E ≤ a) = false from decide_eq_false (by omega)]
 refine tkH (i := 31) (by simp only [gT, gS, gZ]; rfl) (by kernel_rfl) (by exact fun _ _ _ h => h) (.inl ⟨by rfl, fun w hSw => by obtain ⟨g3, ⟨a0, a1, a2, a3, a4⟩, ⟨n0, n1, n2, n3⟩, ⟨r0, r1, r2, r3, r4⟩⟩ := hSw.cells; go_simp <;> with_reducible rfl⟩) hHeld ?_
 (try simp only [aP, aN, sT, sZ, sS])
 refine tkH (i := 32) (by simp only [gT, gS, gZ]; rfl) (by kernel_rfl) (by exact fun _ _ _ h => h) (.inl ⟨by rfl, fun w hSw => by obtain ⟨g3, ⟨a0, a1, a2, a3, a4⟩, ⟨n0, n1, n2, n3⟩, ⟨r0, r1, r2, r3, r4⟩⟩ := hSw.cells; go_simp <;> with_reducible rfl⟩) hHeld ?_
 (try simp only [aP, aN, sT, sZ, sS])
 refine tkH (i := 33) (by simp only [gT, gS, gZ]; rfl) (by kernel_rfl) (by exact fun _ _ _ h => h) (.inl ⟨by rfl, fun w hSw => by obtain ⟨g3, ⟨a0, a1, a2, a3, a4⟩, ⟨n0, n1, n2, n3⟩, ⟨r0, r1, r2, r3, r4⟩⟩ := hSw.cells; go_simp <;> with_reducible rfl⟩) hHeld ?_
 (try simp only [aP, aN, sT, sZ, sS])
 refine tkH (i := 34) (by simp only [gT, gS, gZ]; rfl) (by kernel_rfl) (by exact fun _ _ _ h => h) (.inl ⟨by rfl, fun w hSw => by obtain ⟨g3, ⟨a0, a1, a2, a3, a4⟩, ⟨n0, n1, n2, n3⟩, ⟨r0, r1, r2, r3, r4⟩⟩ := hSw.cells; go_simp <;> with_reducible rfl⟩) hHeld ?_
 (try simp only [aP, aN, sT, sZ, sS])
 refine tkH (i := 35) (by simp only [gT, gS, gZ]; rfl) (by kernel_rfl) (by exact fun _ _ _ h => h) (.inl ⟨by rfl, fun w hSw => by obtain ⟨g3, ⟨a0, a1, a2, a3, a4⟩, ⟨n0, n1, n2, n3⟩, ⟨r0, r1, r2, r3, r4⟩⟩ := hSw.cells; go_simp <;> with_reducible rfl⟩) hHeld ?_
 (try simp only [aP, aN, sT, sZ, sS])
 refine tkH (i := 36) (by simp only [gT, gS, gZ]; rfl) (by kernel_rfl) (by exact fun _ _ _ h => h) (.inl ⟨by rfl, fun w hSw => by obtain ⟨g3, ⟨a0, a1, a2, a3, a4⟩, ⟨n0, n1, n2, n3⟩, ⟨r0, r1, r2, r3, r4⟩⟩ := hSw.cells; go_simp <;> with_reducible rfl⟩) hHeld ?_
 (try simp only [aP, aN, sT, sZ, sS])
 rw [show decide ((s.size : Int) < E) = false from decide_eq_false (by omega)]
 refine tkH (i := 37) (by simp only [gT, gS, gZ]; rfl) (by kernel_rfl) (by exact fun _ _ _ h => h) (.inl ⟨by rfl, fun w hSw => by obtain ⟨g3, ⟨a0, a1, a2, a3, a4⟩, ⟨n0, n1, n2, n3⟩, ⟨r0, r1, r2, r3, r4⟩⟩ := hSw.cells; go_simp <;> with_reducible rfl⟩) hHeld ?_
 (try simp only [aP, aN, sT, sZ, sS])
 refine tkH (i := 38) (by simp only [gT, gS, gZ]; rfl) (by kernel_rfl) (by exact fun _ _ _ h => h) (.inl ⟨by rfl, fun w hSw => by obtain ⟨g3, ⟨a0, a1, a2, a3, a4⟩, ⟨n0, n1, n2, n3⟩, ⟨r0, r1, r2, r3, r4⟩⟩ := hSw.cells; go_simp <;> with_reducible rfl⟩) hHeld ?_
 (try simp only [aP, aN, sT, sZ, sS])
 refine tkH (i := 39) (by simp only [gT, gS, gZ]; rfl) (by kernel_rfl) (by exact fun _ _ _ h => h) (.inl ⟨by rfl, fun w hSw => by obtain ⟨g3, ⟨a0, a1, a2, a3, a4⟩, ⟨n0, n1, n2, n3⟩, ⟨r0, r1, r2, r3, r4⟩⟩ := hSw.cells; go_simp <;> with_reducible rfl⟩) hHeld ?_
 (try simp only [aP, aN, sT, sZ, sS])
 refine tkH (i := 40) (by simp only [gT, gS, gZ]; rfl) (by kernel_rfl) (by exact fun _ _ _ h => h) (.inl ⟨by rfl, fun w hSw => by obtain ⟨g3, ⟨a0, a1, a2, a3, a4⟩, ⟨n0, n1, n2, n3⟩, ⟨r0, r1, r2, r3, r4⟩⟩ := hSw.cells; go_simp <;> with_reducible rfl⟩) hHeld ?_
 (try simp only [aP, aN, sT, sZ, sS])
 refine tkH (i := 41) (by simp only [gT, gS, gZ]; rfl) (by kernel_rfl) (by exact fun _ _ _ h => h) (.inl ⟨by rfl, fun w hSw => by obtain ⟨g3, ⟨a0, a1, a2, a3, a4⟩, ⟨n0, n1, n2, n3⟩, ⟨r0, r1, r2, r3, r4⟩⟩ := hSw.cells; go_simp <;> with_reducible rfl⟩) hHeld ?_
 (try simp only [aP, aN, sT, sZ, sS])
 refine tkH (i := 42) (by simp only [gT, gS, gZ]; rfl) (by kernel_rfl) (by exact fun _ _ _ h => h) (.inl ⟨by rfl, fun w hSw => by obtain ⟨g3, ⟨a0, a1, a2, a3, a4⟩, ⟨n0, n1, n2, n3⟩, ⟨r0, r1, r2, r3, r4⟩⟩ := hSw.cells; go_simp <;> with_reducible rfl⟩) hHeld ?_
 (try simp only [aP, aN, sT, sZ, sS])
 refine tkH (i := 43) (by simp only [gT, gS, gZ]; rfl) (by kernel_rfl) (by exact fun _ _ _ h => h) (.inl ⟨by rfl, fun w hSw => by obtain ⟨g3, ⟨a0, a1, a2, a3, a4⟩, ⟨n0, n1, n2, n3⟩, ⟨r0, r1, r2, r3, r4⟩⟩ := hSw.cells; go_simp <;> with_reducible rfl⟩) hHeld ?_
 (try simp only [aP, aN, sT, sZ, sS])
 refine tkH (i := 44) (by simp only [gT, gS, gZ]; rfl) (by kernel_rfl) (by exact fun _ _ _ h => h) (.inl ⟨by rfl, fun w hSw => by obtain ⟨g3, ⟨a0, a1, a2, a3, a4⟩, ⟨n0, n1, n2, n3⟩, ⟨r0, r1, r2, r3, r4⟩⟩ := hSw.cells; go_simp <;> with_reducible rfl⟩) hHeld ?_
 (try simp only [aP, aN, sT, sZ, sS])
 rw [show IntKind.i64.wrap (E - (E - P)) = P from by rw [show E - (E - P) = P by omega]; exact wrapP]
 refine tkH (i := 45) (by simp only [gT, gS, gZ]; rfl) (by kernel_rfl) (by exact fun _ _ _ h => h) (.inl ⟨by rfl, fun w hSw => by obtain ⟨g3, ⟨a0, a1, a2, a3, a4⟩, ⟨n0, n1, n2, n3⟩, ⟨r0, r1, r2, r3, r4⟩⟩ := hSw.cells; go_simp <;> with_reducible rfl⟩) hHeld ?_
 (try simp only [aP, aN, sT, sZ, sS])
 refine tkH (i := 46) (by simp only [gT, gS, gZ]; rfl) (by kernel_rfl) (by exact fun _ _ _ h => h) (.inl ⟨by rfl, fun w hSw => by obtain ⟨g3, ⟨a0, a1, a2, a3, a4⟩, ⟨n0, n1, n2, n3⟩, ⟨r0, r1, r2, r3, r4⟩⟩ := hSw.cells; go_simp <;> with_reducible rfl⟩) hHeld ?_
 (try simp only [aP, aN, sT, sZ, sS])
 rw [← HK.out.2.2.2.2]
 refine tkH (i := 47) (by simp only [gT, gS, gZ]; rfl) (by kernel_rfl) (by exact fun _ _ _ h => h) (.inl ⟨by rfl, fun w hSw => by obtain ⟨g3, ⟨a0, a1, a2, a3, a4⟩, ⟨n0, n1, n2, n3⟩, ⟨r0, r1, r2, r3, r4⟩⟩ := hSw.cells; go_simp <;> with_reducible rfl⟩) hHeld ?_
 (try simp only [aP, aN, sT, sZ, sS])
 refine tkH (i := 48) (by simp only [gT, gS, gZ]; rfl) (by kernel_rfl) (by exact fun _ _ _ h => h) (.inl ⟨by rfl, fun w hSw => by obtain ⟨g3, ⟨a0, a1, a2, a3, a4⟩, ⟨n0, n1, n2, n3⟩, ⟨r0, r1, r2, r3, r4⟩⟩ := hSw.cells; go_simp <;> with_reducible rfl⟩) hHeld ?_
 (try simp only [aP, aN, sT, sZ, sS])
 refine tkH (i := 49) (by simp only [gT, gS, gZ]; rfl) (by kernel_rfl) (by exact fun _ _ _ h => h) (.inl ⟨by rfl, fun w hSw => by obtain ⟨g3, ⟨a0, a1, a2, a3, a4⟩, ⟨n0, n1, n2, n3⟩, ⟨r0, r1, r2, r3, r4⟩⟩ := hSw.cells; go_simp <;> with_reducible rfl⟩) hHeld ?_
 (try simp only [aP, aN, sT, sZ, sS])
 refine tkH (i := 50) (by simp only [gT, gS, gZ]; rfl) (by kernel_rfl) (by exact fun _ _ _ h => h) (.inl ⟨by rfl, fun w hSw => by obtain ⟨g3, ⟨a0, a1, a2, a3, a4⟩, ⟨n0, n1, n2, n3⟩, ⟨r0, r1, r2, r3, r4⟩⟩ := hSw.cells; go_simp <;> with_reducible rfl⟩) hHeld ?_
 (try simp only [aP, aN, sT, sZ, sS])
 refine wpAnyH_done (by kernel_rfl) ?_ _
 go_wp2_with fail
 go_roundg (gk - 1)
 case measure => omega
 case rel => exact ⟨i + 1, E, rfl, congrArg (Value.int .i64) (by omega), by omega, ⟨HN.out.1⟩, ⟨HY.out.2⟩⟩
end Go.Proofs.YtgiioglmkogpkaaGreatDoor.F
namespace Go.Proofs.YtgiioglmkogpkaaGreatDoor.F
open Go.ChangeShapes Go.WideShapes Go.ChangeAt Go.RowKit
set_option maxRecDepth 100000
theorem laid_mem {P : Program} {w : World} {n : String} {d : DataW Unit} : ∀ {l : List (String × DataW Unit)} {ps : List MemPlace}, DataW.LaidVars P w l ps → (n, d) ∈ l →
  ∃ g t cs fuel p, P.globalNamed n = some g ∧ (P.globals[g]?).map (·.type) = some t ∧ w.var? P n = some cs ∧ DataW.trod (fun _ => ()) P w 0 (fun _ => true) false fuel t cs.toList = some (d, p)
 | [], _, _, hm => by simp at hm
 | (n0, d0) :: r, ps, h, hm => by
  obtain ⟨g, t, cs, fuel, p, q, h1, h2, h3, h4, h5, _⟩ := h
  rcases List.mem_cons.1 hm with e | hm
  ·cases e
   exact ⟨g, t, cs, fuel, p, h1, h2, h3, h4⟩
  ·exact laid_mem h5 hm
abbrev LL : List (String × DataW Unit) := Rows.fnGjAnyLinesRow.laid
theorem laid_of {W : World} (h : laidMetH Tryz.prog LL W) : ∃ ps, DataW.LaidVars Tryz.prog W LL ps := by
 rw [MakeChecks.laidMetH_plain _ _ _ (by kernel_rfl)] at h
 obtain ⟨ps, h, _⟩ := h
 exact ⟨ps, h⟩
theorem g1 : Tryz.prog.globalNamed "internal/strconv.optimize" = some 1 := by kernel_rfl
theorem g3 : Tryz.prog.globalNamed "strconv.ErrRange" = some 3 := by kernel_rfl
theorem g0 : Tryz.prog.globalNamed "pub-tetrapla/pub/gjson.vchars" = some 0 := by kernel_rfl
theorem g6 : Tryz.prog.globalNamed "internal/strconv.float64info" = some 6 := by kernel_rfl
theorem g7 : Tryz.prog.globalNamed "internal/strconv.pow10Tab" = some 7 := by kernel_rfl
theorem g8 : Tryz.prog.globalNamed "internal/strconv.leftcheats" = some 8 := by kernel_rfl
theorem g10 : Tryz.prog.globalNamed "internal/strconv.powtab" = some 10 := by kernel_rfl
theorem g11 : Tryz.prog.globalNamed "internal/strconv.float64pow10" = some 11 := by kernel_rfl
theorem t1 : (Tryz.prog.globals[1]?).map (·.type) = some 4 := by kernel_rfl
theorem t3 : (Tryz.prog.globals[3]?).map (·.type) = some 123 := by kernel_rfl
theorem t0 : (Tryz.prog.globals[0]?).map (·.type) = some 157 := by kernel_rfl
theorem t7 : (Tryz.prog.globals[7]?).map (·.type) = some 280 := by kernel_rfl
theorem t10 : (Tryz.prog.globals[10]?).map (·.type) = some 64 := by kernel_rfl
theorem t6 : (Tryz.prog.globals[6]?).map (·.type) = some 259 := by kernel_rfl
theorem t8 : (Tryz.prog.globals[8]?).map (·.type) = some 286 := by kernel_rfl
theorem t11 : (Tryz.prog.globals[11]?).map (·.type) = some 293 := by kernel_rfl
section
variable {W : World} {ps : List MemPlace} (h : DataW.LaidVars Tryz.prog W LL ps)
theorem laid_at {ps : List MemPlace} {W : World} (h : DataW.LaidVars Tryz.prog W LL ps) {n : String} {d : DataW Unit} {g : Nat} {t : TypeId} (hm : (n, d) ∈ LL) (hg : Tryz.prog.globalNamed n = some g) (ht : (Tryz.prog.globals[g]?).map (·.type) = some t) :
  ∃ cs fuel p, (∀ i, W.cell? ⟨g, i, none⟩ = cs[i]?) ∧ DataW.trod (fun _ => ()) Tryz.prog W 0 (fun _ => true) false fuel t cs = some (d, p) := by
 obtain ⟨g', t', cs, fuel, p, h1, h2, h3, h4⟩ := laid_mem h hm
 obtain rfl := Option.some.inj (hg.symm.trans h1)
 obtain rfl := Option.some.inj (ht.symm.trans h2)
 exact ⟨cs.toList, fuel, p, fun i => by have := World.var?_cell hg h3 i; simpa using this, h4⟩
theorem laid_op {ps : List MemPlace} {W : World} (h : DataW.LaidVars Tryz.prog W LL ps) : W.cell? ⟨1, 0, none⟩ = some (.bool true) := by
 obtain ⟨cs, fuel, p, hc, ht⟩ := laid_at h (d := Rows.laid_internal_strconv_optimize) (by simp [LL, Rows.fnGjAnyLinesRow]) g1 t1
 obtain ⟨b, rfl, hx⟩ := DataW.trod_bool Tryz.underlying4 ht
 have hb : b = true := by simpa [Rows.laid_internal_strconv_optimize] using (congrArg Prod.fst hx).symm
 rw [hc 0, hb]; rfl
theorem laid_er {ps : List MemPlace} {W : World} (h : DataW.LaidVars Tryz.prog W LL ps) : ∃ ev, W.cell? ⟨3, 0, none⟩ = some ev ∧ (ev = .nilIface ∨ ∃ te pe, ev = .iface te pe) := by
 obtain ⟨cs, fuel, p, hc, ht⟩ := laid_at h (d := Rows.laid_strconv_ErrRange) (by simp [LL, Rows.fnGjAnyLinesRow]) g3 t3
 obtain ⟨f2, u, v, rfl, _, _⟩ := iface_of_trod Tryz.underlying123 ht
 exact ⟨_, hc 0, .inr ⟨u, v, rfl⟩⟩
theorem laid_vt {ps : List MemPlace} {W : World} (h : DataW.LaidVars Tryz.prog W LL ps) : VT W := by
 obtain ⟨cs, fuel, p, hc, ht⟩ := laid_at h (d := Rows.laid_pub_tetrapla_pub_gjson_vchars) (by simp [LL, Rows.fnGjAnyLinesRow]) g0 t0
 have e : (Rows.laid_pub_tetrapla_pub_gjson_vchars : DataW Unit) = Lib.tabData .u8 ((List.range 256).map fun i : Nat => V.vch (i : Int)) := by kernel_rfl
 rw [e] at ht
 have hcs := Lib.cells_of_tab Tryz.underlying157 Tryz.underlying5 (by kernel_rfl) (by kernel_rfl) ht
 intro i hi
 rw [hc i, hcs]
 simp only [List.getElem?_map]
 rw [List.getElem?_range hi]
 rfl
end
set_option maxRecDepth 100000
theorem trod_f64 {H : Type} {enc : TypeId × Value → H} {P : Program} {w : World} {base : Nat} {sp : Nat → Bool} {held : Bool} {fuel : Nat} {t : TypeId} {c : Value} {x : Nat} {q : List MemPlace} (ht : P.underlying t = some (.float .f64)) (h : DataW.trod enc P w base sp held fuel t [c] = some (.lit (.float .f64 x), q)) : c = .float .f64 x := by
 cases fuel with
 | zero => simp [DataW.trod] at h
 | succ n =>
  cases c <;> simp [DataW.trod, ht] at h
  rename_i k y
  cases k <;> simp at h
  obtain ⟨_, rfl, _⟩ := h
  rfl
theorem laid_fi {ps : List MemPlace} {W : World} (h : DataW.LaidVars Tryz.prog W LL ps) : FI W := by
 obtain ⟨cs, fuel, p, hc, ht⟩ := laid_at h (d := Rows.laid_internal_strconv_float64info) (by simp [LL, Rows.fnGjAnyLinesRow]) g6 t6
 obtain ⟨y0, y1, y2, n, hx, hl, a0, a1, a2⟩ := Go.Deep.trod_struct3 Tryz.underlying259 ht
 have c3 : Tryz.prog.cellsOf 259 = 3 := by kernel_rfl
 rw [c3] at hl
 match cs, hl with
 | [c0, c1, c2], _ =>
  dsimp only at a0 a1 a2
  have k3 : Tryz.prog.cellsOf 3 = 1 := by kernel_rfl
  have k162 : Tryz.prog.cellsOf 162 = 1 := by kernel_rfl
  rw [k162] at a0 a1
  rw [k3] at a2
  obtain ⟨n0, e0, z0, _⟩ := DataW.trod_int Tryz.underlying162 a0
  obtain ⟨n1, e1, z1, _⟩ := DataW.trod_int Tryz.underlying162 a1
  obtain ⟨n2, e2, z2, _⟩ := DataW.trod_int Tryz.underlying3 a2
  have hd := congrArg Prod.fst hx
  rw [z0, z1, z2] at hd
  have hd2 : (DataW.agg [.lit (.int .u64 52), .lit (.int .u64 11), .lit (.int .i64 (-1023))] : DataW Unit) = .agg [.lit (.int .u64 n0), .lit (.int .u64 n1), .lit (.int .i64 n2)] := hd
  simp at hd2
  obtain ⟨rfl, rfl, rfl⟩ := hd2
  have f0 : c0 = .int .u64 52 := by simpa using e0
  have f1 : c1 = .int .u64 11 := by simpa using e1
  have f2 : c2 = .int .i64 (-1023) := by simpa using e2
  subst f0 f1 f2
  exact ⟨hc 0, hc 1, hc 2⟩
theorem laid_pow {ps : List MemPlace} {W : World} (h : DataW.LaidVars Tryz.prog W LL ps) : Pow W := by
 obtain ⟨cs, fuel, p, hc, ht⟩ := laid_at h (d := Rows.laid_internal_strconv_pow10Tab) (by simp [LL, Rows.fnGjAnyLinesRow]) g7 t7
 obtain ⟨xs, m, _, _, hl, hn, hel⟩ := DataW.trod_array Tryz.underlying280 ht
 have c280 : Tryz.prog.cellsOf 280 = 1392 := by kernel_rfl
 have c279 : Tryz.prog.cellsOf 279 = 2 := by kernel_rfl
 rw [c280] at hl
 rw [c279] at hel
 intro i hi
 have hq := hel (i / 2) (by omega)
 have hx : xs[i / 2]? = some (xs[i / 2]'(by omega)) := List.getElem?_eq_getElem (by omega)
 rw [hx] at hq
 obtain ⟨y0, y1, n, _, hl2, a0, a1⟩ := trod_struct2 Tryz.underlying279 hq
 have c159 : Tryz.prog.cellsOf 159 = 1 := by kernel_rfl
 obtain ⟨L, hL⟩ : ∃ L, List.take 2 (List.drop (i / 2 * 2) cs) = L := ⟨_, rfl⟩
 rw [hL] at a0 a1 hl2
 rw [c279] at hl2
 dsimp only at a0 a1
 rw [c159] at a0 a1
 match L, hl2 with
 | [a, b], _ =>
  obtain ⟨n0, e0, _, _⟩ := DataW.trod_int Tryz.underlying159 a0
  obtain ⟨n1, e1, _, _⟩ := DataW.trod_int Tryz.underlying159 a1
  have hidx : ∀ j, j < 2 → cs[i / 2 * 2 + j]? = [a, b][j]? := by
   intro j hj
   rw [← hL, List.getElem?_take, if_pos hj, List.getElem?_drop]
  have ea : a = .int .u64 n0 := by simpa using e0
  have eb : b = .int .u64 n1 := by simpa using e1
  subst ea eb
  rw [hc i]
  rcases Nat.mod_two_eq_zero_or_one i with hm | hm
  rotate_left
  ·have := hidx 1 (by omega)
   rw [show i / 2 * 2 + 1 = i by omega] at this
   exact ⟨n1, this⟩
  have := hidx 0 (by omega)
  rw [show i / 2 * 2 + 0 = i by omega] at this
  exact ⟨n0, this⟩
theorem laid_powtab {ps : List MemPlace} {W : World} (h : DataW.LaidVars Tryz.prog W LL ps) : PowTab W := by
 obtain ⟨cs, fuel, p, hc, ht⟩ := laid_at h (d := Rows.laid_internal_strconv_powtab) (by simp [LL, Rows.fnGjAnyLinesRow]) g10 t10
 obtain ⟨a, cap, rfl, hcap, hel⟩ := open_row Tryz.underlying64 (by kernel_rfl) ht
 have hall : ∀ i, i < 9 → W.cell? (a.add i) = some (.int .i64 (powtabL.getD i 0)) := by
  intro i hi
  have hd : ∀ i, i < 9 → ([1, 3, 6, 9, 13, 16, 19, 23, 26] : List Int)[i]? = some (powtabL.getD i 0) := by decide
  obtain ⟨v, n, q, hv, hr⟩ := hel i (.lit (.int .i64 (powtabL.getD i 0))) (by
   have := hd i hi
   have e : ([.lit (.int .i64 1), .lit (.int .i64 3), .lit (.int .i64 6), .lit (.int .i64 9), .lit (.int .i64 13), .lit (.int .i64 16), .lit (.int .i64 19), .lit (.int .i64 23), .lit (.int .i64 26)] : List (DataW Unit)) = ([1, 3, 6, 9, 13, 16, 19, 23, 26] : List Int).map fun z => .lit (.int .i64 z) := rfl
   rw [e, List.getElem?_map, this]; rfl)
  obtain ⟨k, e1, e2, _⟩ := DataW.trod_int Tryz.underlying3 hr
  have hk : powtabL.getD i 0 = k := by simpa using congrArg Prod.fst e2
  rw [hv, hk]
  simpa using e1
 exact ⟨a, cap, hc 0, hall, by have := hall 0 (by omega); simpa [Addr.add, powtabL] using this⟩
def p10L : List Nat := [4607182418800017408, 4621819117588971520, 4636737291354636288, 4652007308841189376, 4666723172467343360, 4681608360884174848, 4696837146684686336, 4711630319722168320, 4726483295884279808, 4741671816366391296, 4756540486875873280, 4771362005757984768, 4786511204640096256, 4801453603149578240, 4816244402031689728, 4831355200913801216, 4846369599423283200, 4861130398305394688, 4876203697187506176, 4891288408196988160, 4906019910204099648, 4921056587992461136, 4936209963552724370]
def fnB (y : Nat) : Bool := match Ieee.double.read y with
 | .number _ m _ => m != 0
 | _ => false
theorem fn_of {y : Nat} (h : fnB y = true) : FN y := by
 unfold fnB at h
 split at h
 ·rename_i s m i q
  exact ⟨s, m, i, q, bne_iff_ne.mp h⟩
 ·cases h
theorem p10_fn : ∀ x ∈ p10L, FN x := fun x hx => fn_of (List.all_eq_true.1 (show p10L.all fnB = true by kernel_rfl) x hx)
theorem laid_p10 {ps : List MemPlace} {W : World} (h : DataW.LaidVars Tryz.prog W LL ps) : P10n W := by
 obtain ⟨cs, fuel, p, hc, ht⟩ := laid_at h (d := Rows.laid_internal_strconv_float64pow10) (by simp [LL, Rows.fnGjAnyLinesRow]) g11 t11
 obtain ⟨a, cap, rfl, hcap, hel⟩ := open_row Tryz.underlying293 (by kernel_rfl) ht
 refine ⟨a, cap, hc 0, fun i hi => ?_⟩
 have hall : ∀ i, i < 23 → (p10L[i]?).isSome = true := by decide
 obtain ⟨x, hx⟩ := Option.isSome_iff_exists.1 (hall i hi)
 obtain ⟨v, n, q, hv, hr⟩ := hel i (.lit (.float .f64 x)) (by
  have e : (Rows.laid_internal_strconv_float64pow10 : DataW Unit) = .slice (p10L.map fun z => .lit (.float .f64 z)) [] := rfl
  injection e with e1 _
  rw [e1, List.getElem?_map, hx]; rfl)
 obtain rfl := trod_f64 Tryz.underlying39 hr
 exact ⟨x, hv, p10_fn x (List.mem_of_getElem? hx)⟩
theorem laid_cheats {ps : List MemPlace} {W : World} (h : DataW.LaidVars Tryz.prog W LL ps) : Cheats W := by
 obtain ⟨cs, fuel, p, hc, ht⟩ := laid_at h (d := Rows.laid_internal_strconv_leftcheats) (by simp [LL, Rows.fnGjAnyLinesRow]) g8 t8
 rcases DataW.trod_slice Tryz.underlying286 ht with ⟨_, hx⟩ | ⟨a, len, cap, elems, rest, n, _, rfl, hx, _, hl, _, hlen, hel, _⟩
 ·exact absurd (congrArg Prod.fst hx) (by intro e; cases e)
 have hfst := congrArg Prod.fst hx
 have hlst : Go.Pinned.cheatRows.map (fun x => (DataW.agg [.lit (.int .i64 x.1), .lit (.string x.2)] : DataW Unit)) = elems.map (·.1) := by
  have e : (Rows.laid_internal_strconv_leftcheats : DataW Unit) = .slice (Go.Pinned.cheatRows.map (fun x => (DataW.agg [.lit (.int .i64 x.1), .lit (.string x.2)] : DataW Unit))) [] := rfl
  rw [e] at hfst
  injection hfst
 have h61 : len = 61 := by
  have := congrArg List.length hlst
  simp only [List.length_map] at this
  rw [← hlen, ← this]; decide
 have c285 : Tryz.prog.cellsOf 285 = 2 := by kernel_rfl
 have c3 : Tryz.prog.cellsOf 3 = 1 := by kernel_rfl
 have c9 : Tryz.prog.cellsOf 9 = 1 := by kernel_rfl
 rw [c285] at hel
 subst h61
 refine ⟨a, cap, hc 0, fun k x hk => ?_⟩
 have hkl : k < 61 := by
  have := (List.getElem?_eq_some_iff.1 hk).1
  have h : Go.Pinned.cheatRows.length = 61 := by decide
  omega
 have hy : ∃ y, elems[k]? = some y ∧ y.1 = .agg [.lit (.int .i64 x.1), .lit (.string x.2)] := by
  have := congrArg (fun l => l[k]?) hlst
  simp only [List.getElem?_map, hk, Option.map_some] at this
  cases hz : elems[k]? with
  | none => rw [hz] at this; simp at this
  | some y => rw [hz] at this; exact ⟨y, rfl, by simpa using this.symm⟩
 obtain ⟨y, hy1, hy2⟩ := hy
 have he := hel k hkl
 rw [hy1] at he
 simp only [Option.bind_eq_some_iff] at he
 obtain ⟨L, hL, hT⟩ := he
 obtain ⟨y0, y1, m, hz, hl2, a0, a1⟩ := trod_struct2 Tryz.underlying285 hT
 rw [c285] at hl2
 dsimp only at a0 a1
 rw [c3] at a0
 rw [c9] at a1
 match L, hl2 with
 | [c0, c1], _ =>
  obtain ⟨n0, e0, z0, _⟩ := DataW.trod_int Tryz.underlying3 a0
  obtain ⟨s1, e1, z1, _⟩ := DataW.trod_string Tryz.underlying9 a1
  rw [hz, z0, z1] at hy2
  simp at hy2
  obtain ⟨h1, h2⟩ := hy2
  have f0 : c0 = .int .i64 n0 := by simpa using e0
  have f1 : c1 = .string s1 := by simpa using e1
  subst f0 f1
  unfold World.cells? at hL
  rw [if_pos (Nat.zero_le _)] at hL
  have e00 : (a.add (k * 2)).add 0 = a.add (k * 2) := by simp [Addr.add]
  simp only [List.range_succ, List.range_zero, List.nil_append, List.cons_append, List.mapM_cons, List.mapM_nil, e00] at hL
  cases hA : W.cell? (a.add (k * 2)) with
  | none => simp [hA] at hL
  | some u0 =>
   cases hB : W.cell? ((a.add (k * 2)).add 1) with
   | none => simp [hA, hB] at hL
   | some u1 =>
    simp [hA, hB] at hL
    obtain ⟨rfl, rfl⟩ := hL
    have hs : s1 = ⟨x.2.toArray⟩ := by
     apply ByteArray.ext
     apply Array.toList_inj.1
     simpa using h2
    refine ⟨by rw [h1], ?_⟩
    rw [← hs]
    exact hB
theorem tabs_of_laid {W : World} (h : laidMetH Tryz.prog LL W) : Tabs W ∧ VT W := by
 obtain ⟨ps, h⟩ := laid_of h
 exact ⟨⟨laid_op h, laid_fi h, laid_cheats h, laid_powtab h, laid_pow h, laid_p10 h, laid_er h⟩, laid_vt h⟩
end Go.Proofs.YtgiioglmkogpkaaGreatDoor.F
namespace Go.Proofs.YtgiioglmkogpkaaGreatDoor.fnGjAnyLines
open Go.ChangeShapes Go.WideShapes Go.ChangeAt Go.RowKit
open Go.Proofs.YtgiioglmkogpkaaGreatDoorW.PrintWords Go.Proofs.YtgiioglmkogpkaaGreatDoorW.PrintLast Go.Proofs.YtgiioglmkogpkaaGreatDoorW.PrintMore
open Go.ChangeMaps (open_string shut_string)
set_option maxRecDepth 100000
theorem laidOut : laidOutB Tryz.prog = true := by kernel_rfl
theorem own : ownKnob Tryz.prog.godebug = none := by kernel_rfl
theorem lifted (os : Os) (started : os.Started) (H : Type) (enc : TypeId × Value → H) :
  ReturnsInHanded {} Tryz.checked os 4 .any (fun w args => (Rows.fnGjAnyLinesSpec.pre enc Tryz.prog Tryz.f4 Rows.fnGjAnyLinesRow.domain false w args ∧ laidMetH Tryz.prog F.LL w) ∧ sizedMet enc Tryz.prog Tryz.f4 (OpenSpec.ofChange Rows.fnGjAnyLinesSpec) false w args)
   (Rows.fnGjAnyLinesSpec.post enc Tryz.prog Tryz.f4 false true false false) := by
 refine returnsInHanded_of_change_and (C := Tryz.checked) (X := fun w _ => laidMetH Tryz.prog F.LL w) (fun _ _ _ hh h => h.of_heap hh) own started (by kernel_rfl) Tryz.func4
  (ChangeSpec.witness_shaped (enc := enc) (C := Tryz.checked) (os := os) (X := fun w _ => laidMetH Tryz.prog F.LL w) false (World.laidAll Tryz.prog os F.LL) #[.slice none 0 0] 8 (World.laidAll_os _ _ _)
   (World.shaped_of_ZipB (by kernel_rfl) (by kernel_rfl)) (by kernel_rfl) (by kernel_rfl) (by kernel_rfl)
   (by rw [MakeChecks.laidMetH_plain _ _ _ (by kernel_rfl)]; exact laidMet_laidAll _ (by kernel_rfl) (by kernel_rfl))) ?_
 intro W base args ds gs before hval0 hW hc _ hL _
 have hval : ∀ (j : Nat) t v, Tryz.f4.params[j]? = some t → args[j]? = some v → Value.okWide Tryz.prog W .any base t v := hval0
 have hW' := hW
 obtain ⟨p, q, hA0, hV, rfl, _, _⟩ := hW
 have hA : DataW.TrodAll enc Tryz.prog W 0 (fun _ => true) true Tryz.f4.params.toList args.toList ds p := hA0
 rw [Tryz.params4] at hA hval
 obtain ⟨v0, d0, rfl, rfl, h0⟩ := trodAll_one hA
 obtain ⟨rfl, rfl⟩ := trodVars_none hV
 obtain ⟨a0, len, cap, rfl⟩ := okWide_slice Tryz.underlying22 (hval 0 22 v0 rfl rfl)
 have h0k := h0
 obtain ⟨fuel, hf⟩ := h0
 simp only [List.append_nil] at hW'
 have hlt : ∀ x ∈ p, x.block < W.heap.size := fun x hx => by simpa using hW'.lt x hx
 obtain ⟨T, U⟩ := F.tabs_of_laid hL
 clear hA0 hval0
 obtain ⟨ls, hll, hC, hcap⟩ : ∃ ls : List ByteArray, ls.length = len ∧ Kd.C Kd.string W a0 ls.length ls ∧ ls.length ≤ cap := by
  rcases open_strings Tryz.underlying22 Tryz.underlying9 (by kernel_rfl) hf with ⟨hcs, hx⟩ | ⟨a, len', cap', ss, hcs, _, hl, hm, hz, hx, hcell, hws⟩
  ·simp [Value.cells] at hcs
   obtain ⟨rfl, rfl, rfl⟩ := hcs
   exact ⟨[], rfl, ⟨rfl, by decide, fun h => absurd h (by decide)⟩, Nat.le_refl _⟩
  simp [Value.cells] at hcs
  obtain ⟨rfl, rfl, rfl⟩ := hcs
  simp only [if_true] at hz
  have hz2 : (ss.take len).length = len := by rw [List.length_take]; omega
  refine ⟨ss.take len, hz2, ⟨rfl, Nat.le_trans (show (ss.take len).length ≤ maxLen by rw [hz2]; omega) (by decide), fun _ => ⟨a, rfl, fun j p hp => ⟨[.string p], rfl, rfl, fun i u hu => ?_⟩⟩⟩, by omega⟩
  have hj : j < len := by
   have := (List.getElem?_eq_some_iff.1 hp).1
   omega
  match i, hu with
  | 0, hu =>
   injection hu with hu
   subst hu
   have h2 := hcell j (by omega)
   rw [List.getElem?_take_of_lt hj] at hp
   rw [List.getD_eq_getElem?_getD, hp] at h2
   simpa [Kd.string, Kd.scalar] using h2
 subst hll
 refine (F.alaw_calls a0 cap ls W hC hcap T U).mono fun e W' ⟨he, bel⟩ => ?_
 subst he
 exact ⟨_, rfl, _, _, _, [] ++ [], p, [], hW', trodAll_mk1 (shut_bool Tryz.underlying4 _), trodAll_mk1 (Below.trod laidOut (by kernel_rfl) (of_decide_eq_true (by kernel_rfl)) h0k bel hlt), rfl, bel.frame _, fun h => by cases h⟩
theorem holds : Rows.FnGjAnyLinesSaid :=
 OpenClaim.holds_of_wide 4 Tryz.f4 rfl rfl rfl rfl rfl rfl rfl ⟨rfl, rfl, rfl, rfl, rfl⟩ rfl rfl rfl rfl rfl (by kernel_rfl) Tryz.func4 (by kernel_rfl)
  (of_decide_eq_true (by kernel_rfl)) (by unfold Func.isWrapper; first | (rw [if_pos (by decide +kernel)]; kernel_rfl) | (rw [if_neg (by decide +kernel)]; exact ⟨rfl, rfl⟩))
  (fun os started H enc _ => lifted os started H enc)
end Go.Proofs.YtgiioglmkogpkaaGreatDoor.fnGjAnyLines

/- Texts behind the law FnGjValuesText: part 7. -/
import Derived.Test.YtgiioglmkogpkaaGreatDoorZf
import Derived.Deep.QuietTactic
import Derived.BigQuiet
import Derived.Test.YtgiioglmkogpkaaGreatDoorRows
import Derived.ProofKit
import Derived.LaidMore
import Derived.OpenShut
import Derived.Stop.Joined
import Derived.Lib.LaidTab
import Derived.ChangeSame
import Derived.Deep.Strs
import Derived.LaidLaws
import Derived.MakeChecks
import Derived.WalkKit
import Derived.ShutString
import Derived.ChangeOld
import Derived.Below
import Derived.Lay
set_option linter.unusedVariables false
set_option linter.unusedSimpArgs false
namespace Go.Proofs.YtgiioglmkogpkaaGreatDoor.V
open Go.RowKit Go.Proofs.YtgiioglmkogpkaaGreatDoorW.PrintWords Go.Proofs.YtgiioglmkogpkaaGreatDoorW.PrintLast Go.Proofs.YtgiioglmkogpkaaGreatDoorW.PrintMore
open M L
theorem s25_ext {t u : S25} (h0 : t.f0 = u.f0) (h1 : t.f1 = u.f1) (h2 : t.f2 = u.f2) (h3 : t.f3 = u.f3) : t = u := by
 cases t; cases u; simp at h0 h1 h2 h3; subst h0 h1 h2 h3; rfl
theorem TrOf.one {s : ByteArray} {q : S78} {t u : S25} (h : TrOf s q t) (h2 : TrOf s q u) : t = u := by
 have := Ev.one h h2
 simp only [Prod.mk.injEq] at this
 exact s25_ext this.1 this.2.1 this.2.2.1 this.2.2.2
theorem tr_sh {s s' : ByteArray} (hz : s.size ≤ 65536) (hz' : s'.size ≤ 65536) {c : S78} (h : G s (.val c)) {t : S25} (ht : TrOf s c t) {d : Int} (g : Ag s s' d c.f1 c.f2) : TrOf s' (shP d c) t := by
 obtain ⟨T, R, ts, _, _, h1, _, _, h2⟩ := h.tr hz
 rw [TrOf.one ht h1]
 exact h2 s' d hz' g
def raw (s : ByteArray) (c : S78) : ByteArray := s.extract c.f1.toNat c.f2.toNat
def joinL : List ByteArray → List UInt8
 | [] => [93]
 | [r] => r.data.toList ++ [93]
 | r :: r2 :: rs => r.data.toList ++ 44 :: joinL (r2 :: rs)
theorem joinL_len : ∀ rs : List ByteArray, rs ≠ [] → (joinL rs).length = (rs.map (fun r => r.size + 1)).sum
 | [], h => absurd rfl h
 | [r], _ => by simp [joinL]
 | r :: r2 :: rs, _ => by
  have := joinL_len (r2 :: rs) (by simp)
  simp only [joinL, List.length_append, List.length_cons, this, List.map_cons, List.sum_cons]
  simp
  omega
theorem bt_drop (O : List UInt8) (p : Nat) (l : List UInt8) (h : O.drop p = l) (j : Nat) (hj : j < l.length) : bt ⟨O.toArray⟩ ((p + j : Nat) : Int) = (l[j].toNat : Int) := by
 have h2 := F.bt_list O (p + j)
 rw [h2]
 subst h
 rw [List.getD_eq_getElem?_getD, List.getElem_drop]
 rw [List.length_drop] at hj
 rw [List.getElem?_eq_getElem (by omega)]
 rfl
theorem ag_raw {s : ByteArray} (O : List UInt8) (p : Nat) {c : S78} (h0 : 0 ≤ c.f1) (h1 : c.f1 < c.f2) (h2 : c.f2 ≤ s.size) (rest : List UInt8) (h : O.drop p = (raw s c).data.toList ++ rest) : Ag s ⟨O.toArray⟩ (p - c.f1) c.f1 c.f2 := by
 have hs : ((raw s c).size : Int) = c.f2 - c.f1 := by unfold raw; rw [ByteArray.size_extract]; omega
 have hl : (raw s c).data.toList.length = (raw s c).size := by simp
 have hO : (O.drop p).length = (raw s c).size + rest.length := by rw [h, List.length_append, hl]
 rw [List.length_drop] at hO
 have hoz : ((⟨O.toArray⟩ : ByteArray).size : Int) = O.length := by simp [ByteArray.size]
 refine ⟨h0, by omega, h2, by omega, fun i x y => ?_⟩
 obtain ⟨j, hj⟩ : ∃ j : Nat, (j : Int) = i - c.f1 := ⟨(i - c.f1).toNat, by omega⟩
 have hjs : j < (raw s c).size := by omega
 have hb := bt_drop O p _ h j (by rw [List.length_append, hl]; omega)
 rw [show i + (p - c.f1) = ((p + j : Nat) : Int) by omega, hb]
 have hb2 := bt_at (raw s c) (j : Int) (by rw [Int.toNat_natCast]; exact hjs)
 have hb3 : bt (raw s c) (j : Int) = bt s i := by
  unfold raw
  rw [bt_extract s _ _ _ (by omega) (by omega) (by omega)]
  congr 1
  omega
 rw [← hb3, ← hb2]
 simp only [Int.toNat_natCast]
 rw [List.getElem_append_left (by rw [hl]; exact hjs)]
 rfl
theorem els_out (s : ByteArray) (hz : s.size ≤ 65536) (O : List UInt8) (hO : O.length ≤ 65536) : ∀ (cs : List S78) (ts : List S25), cs ≠ [] → TLs s cs ts → (∀ c ∈ cs, G s (.val c)) → ∀ p : Nat, O.drop p = joinL (cs.map (raw s)) → ∃ C', G ⟨O.toArray⟩ (.els p C' O.length) ∧ TLs ⟨O.toArray⟩ C' ts := by
 have hoz : (⟨O.toArray⟩ : ByteArray).size = O.length := by simp [ByteArray.size]
 have h1 : ∀ (c : S78) (t : S25), G s (.val c) → TrOf s c t → ∀ (p : Nat) (rest : List UInt8) (x : UInt8), O.drop p = (raw s c).data.toList ++ (x :: rest) →
   ∃ c' : S78, ∃ b : Nat, c'.f1 = p ∧ c'.f2 = b ∧ G ⟨O.toArray⟩ (.val c') ∧ TrOf ⟨O.toArray⟩ c' t ∧ bt ⟨O.toArray⟩ b = x.toNat ∧ O.drop (b + 1) = rest ∧ b < O.length := by
  intro c t hg ht p rest x h
  obtain ⟨k0, k1, k2, _⟩ := hg.ok
  have g := ag_raw O p k0 (by omega) k2 _ h
  have hs : ((raw s c).size : Int) = c.f2 - c.f1 := by unfold raw; rw [ByteArray.size_extract]; omega
  have hl : (raw s c).data.toList.length = (raw s c).size := by simp
  have hb := bt_drop O p _ h (raw s c).size (by rw [List.length_append, hl]; simp)
  have hlen : (O.drop p).length = (raw s c).size + 1 + rest.length := by rw [h, List.length_append, hl]; simp; omega
  rw [List.length_drop] at hlen
  refine ⟨shP (p - c.f1) c, p + (raw s c).size, by rw [shP_f1]; omega, by rw [shP_f2]; omega, hg.sh (it := .val c) g, tr_sh hz (by rw [hoz]; exact hO) hg ht g, ?_, ?_, by omega⟩
  ·rw [hb, List.getElem_append_right (by rw [hl]; omega)]
   simp [hl]
  ·have := congrArg (List.drop ((raw s c).size + 1)) h
   rw [List.drop_drop] at this
   rw [show p + (raw s c).size + 1 = p + ((raw s c).size + 1) by omega, this, List.drop_append]
   rw [List.drop_of_length_le (by rw [hl]; omega)]
   simp [hl]
 intro cs
 induction cs with
 | nil => intro ts h; exact absurd rfl h
 | cons c cs ih =>
  intro ts _ hT hG p hp
  cases ts with
  | nil => exact hT.elim
  | cons t ts =>
   cases cs with
   | nil =>
    simp only [List.map_cons, List.map_nil, joinL] at hp
    obtain ⟨c', b, e1, e2, hg, ht, hb, hd, hlt⟩ := h1 c t (hG c (by simp)) hT.1 p [] 93 hp
    have hbO : b + 1 = O.length := by
     have := congrArg List.length hd
     simp at this
     omega
    refine ⟨[c'], ?_, ht, by cases ts with | nil => exact trivial | cons u us => exact hT.2.elim⟩
    have := G.els1 c' b hg ⟨by omega, fun i x y => by omega⟩ (by rw [hoz]; omega) (by rw [hb]; rfl)
    rwa [e1, show (b : Int) + 1 = (O.length : Int) by omega] at this
   | cons c2 cs =>
    simp only [List.map_cons, joinL] at hp
    obtain ⟨c', b, e1, e2, hg, ht, hb, hd, hlt⟩ := h1 c t (hG c (by simp)) hT.1 p _ 44 hp
    obtain ⟨C', hC, hT2⟩ := ih ts (by simp) hT.2 (fun c h => hG c (by simp [h])) (b + 1) (by simpa using hd)
    refine ⟨c' :: C', ?_, ht, hT2⟩
    have := G.elsn c' b (b + 1 : Nat) O.length C' hg ⟨by omega, fun i x y => by omega⟩ (by rw [hoz]; omega) (by rw [hb]; rfl) ⟨by omega, fun i x y => by omega⟩ hC
    rwa [e1] at this
theorem list_out (s : ByteArray) (hz : s.size ≤ 65536) (cs : List S78) (ts : List S25) (hT : TLs s cs ts) (hG : ∀ c ∈ cs, G s (.val c)) (O : List UInt8) (hO : O = 91 :: joinL (cs.map (raw s))) (hl : O.length ≤ 65536) :
  ∃ C', G ⟨O.toArray⟩ (.val ⟨5, 0, O.length, [], C'⟩) ∧ TLs ⟨O.toArray⟩ C' ts := by
 have hoz : (⟨O.toArray⟩ : ByteArray).size = O.length := by simp [ByteArray.size]
 have hb0 : bt ⟨O.toArray⟩ 0 = 91 := by
  have := bt_drop O 0 O (by simp) 0 (by rw [hO]; simp)
  simp only [Nat.zero_add] at this
  rw [show ((0 : Nat) : Int) = 0 from rfl] at this
  rw [this]
  simp [hO]
 cases cs with
 | nil =>
  cases ts with
  | cons t ts => exact hT.elim
  | nil =>
   refine ⟨[], ?_, trivial⟩
   have hO2 : O = [91, 93] := by rw [hO]; rfl
   have hb1 := bt_drop O 1 [93] (by rw [hO2]; rfl) 0 (by simp)
   have := G.arr0 (s := ⟨O.toArray⟩) 0 1 (by omega) hb0 ⟨by omega, fun i x y => by omega⟩ (by rw [hoz, hO2]; simp) (by simpa using hb1)
   rwa [show (1 : Int) + 1 = (O.length : Int) by rw [hO2]; rfl] at this
 | cons c cs =>
  obtain ⟨C', hC, hT2⟩ := els_out s hz O hl (c :: cs) ts (by simp) hT hG 1 (by rw [hO]; rfl)
  exact ⟨C', .arr 0 1 _ C' (by omega) hb0 ⟨by omega, fun i x y => by omega⟩ hC, hT2⟩
theorem TrOf.list {s : ByteArray} (hz : s.size ≤ 65536) {e : Int} {C : List S78} {ts : List S25} (h : G s (.val ⟨5, 0, e, [], C⟩)) (hT : TLs s C ts) : TrOf s ⟨5, 0, e, [], C⟩ ⟨5, ⟨#[]⟩, [], ts⟩ := by
 obtain ⟨k0, k1, k2, k3, k4⟩ := h.ok
 dsimp only at k1 k2 k3 k4
 exact tr_val s hz ⟨5, 0, e, [], C⟩ k0 (by dsimp only; omega) k2 (by simp) (by dsimp only; omega) _ [] ts (.inr (.inr ⟨by dsimp only; decide, by dsimp only; decide, rfl⟩)) trivial hT
end Go.Proofs.YtgiioglmkogpkaaGreatDoor.V
namespace Go.Proofs.YtgiioglmkogpkaaGreatDoor.F
open Go.RowKit Go.Proofs.YtgiioglmkogpkaaGreatDoorW.PrintWords Go.Proofs.YtgiioglmkogpkaaGreatDoorW.PrintLast Go.Proofs.YtgiioglmkogpkaaGreatDoorW.PrintMore
open M L V
theorem outL_suffix (raws : List ByteArray) : ∀ (B A : List ByteArray), raws = A ++ B → B ≠ [] → outL raws raws.length ++ [93] = outL raws A.length ++ ((if A.length = 0 then [] else [44]) ++ joinL B)
 | [], _, _, h => absurd rfl h
 | [r], A, hA, _ => by
  have hg : raws.getD A.length ⟨#[]⟩ = r := by rw [hA]; simp
  have hl : raws.length = A.length + 1 := by rw [hA]; simp
  rw [hl]
  simp only [outL, hg, joinL, List.append_assoc]
 | r :: r2 :: rs, A, hA, _ => by
  have hg : raws.getD A.length ⟨#[]⟩ = r := by rw [hA]; simp
  have ih := outL_suffix raws (r2 :: rs) (A ++ [r]) (by rw [hA]; simp) (by simp)
  rw [ih]
  simp only [List.length_append, List.length_cons, List.length_nil, Nat.zero_add, outL, hg, joinL, List.append_assoc]
  simp
theorem outL_joinL (raws : List ByteArray) : outL raws raws.length ++ [93] = 91 :: joinL raws := by
 cases raws with
 | nil => rfl
 | cons r rs =>
  rw [outL_suffix (r :: rs) (r :: rs) [] rfl (by simp)]
  rfl
def It.par (s : ByteArray) : It → Prop
 | .val q => q.f0 = 6 → bt s q.f1 = 123 ∧ q.f3.length = q.f4.length ∧ ∀ c ∈ q.f4, V.G s (.val c)
 | .els _ _ _ => True
 | .mems _ N C _ => N.length = C.length ∧ ∀ c ∈ C, V.G s (.val c)
theorem G.par {s : ByteArray} {it : It} (h : V.G s it) : It.par s it := by
 induction h with
 | num p e h0 h => exact fun q => by dsimp only at q; omega
 | str p e h => exact fun q => by dsimp only at q; omega
 | null p e h0 h => exact fun q => by dsimp only at q; omega
 | fals p e h0 h => exact fun q => by dsimp only at q; omega
 | tru p e h0 h => exact fun q => by dsimp only at q; omega
 | arr0 p b h0 h1 h2 h3 h4 => exact fun q => by dsimp only at q; omega
 | arr p b e C h0 h1 h2 h3 ih => exact fun q => by dsimp only at q; omega
 | obj0 p b h0 h1 h2 h3 h4 => exact fun _ => ⟨h1, rfl, fun c h => by cases h⟩
 | obj p b e N C h0 h1 h2 h3 ih => exact fun _ => ⟨h1, ih.1, ih.2⟩
 | els1 c b h0 h1 h2 h3 ih => trivial
 | elsn c b p e C h0 h1 h2 h3 h4 h5 ih ih2 => trivial
 | mem1 n c b x h0 h1 h2 h3 h4 h5 h6 h7 ih => exact ⟨rfl, fun c' h => by rw [List.mem_singleton.mp h]; exact h4⟩
 | memn n c b x p e N C h0 h1 h2 h3 h4 h5 h6 h7 h8 h9 ih ih2 => exact ⟨by simp [ih2.1], List.forall_mem_cons.2 ⟨h4, ih2.2⟩⟩
theorem obj_reads (s : ByteArray) (hz : s.size ≤ 65536) (hP : PA s 0) (hb0 : ¬ isB (bt s 0)) (hb1 : ¬ isB (bt s (s.size - 1))) (t : S25) (hR : RdOk s t) (h6 : t.f0 = 6) :
  0 < s.size ∧ bt s 0 = 123 ∧ SB ⟨5, ⟨#[]⟩, [], t.f3⟩ ∧ ∃ L, Fl s 1 L ∧ ∀ w, Calls Tryz.prog 21 #[.string ⟨(outL (rawsOf s L) L.length ++ [93]).toArray⟩] w (RdG ⟨5, ⟨#[]⟩, [], t.f3⟩ true w) := by
 obtain ⟨q, T, R, ts, hG, hB1, hB2, rfl, ht, hT, hS⟩ := hR
 dsimp only at h6 ⊢
 obtain ⟨k0, k1, k2, k3, k4⟩ := hG.ok
 have e1 : q.f1 = 0 := by
  by_cases c : 0 < q.f1
  ·exact absurd (hB1.2 0 (by omega) c) hb0
  ·omega
 have e2 : q.f2 = s.size := by
  by_cases c : q.f2 < s.size
  ·exact absurd (hB2.2 (s.size - 1) (by omega) (by omega)) hb1
  ·omega
 obtain ⟨h123, hlen, hall⟩ := G.par hG h6
 have hF : Fl s 1 (q.f3.zip q.f4) := G.fl hz hG h6 e1 e2 hP
 rw [e1] at h123
 have hSB : SB ⟨5, ⟨#[]⟩, [], ts⟩ := by
  cases hS with
  | mk _ h1 h2 h3 => exact .mk _ (by simp) h2 h3
 refine ⟨by omega, h123, hSB, q.f3.zip q.f4, hF, ?_⟩
 have hraws : rawsOf s (q.f3.zip q.f4) = q.f4.map (raw s) := by
  have e : rawsOf s (q.f3.zip q.f4) = ((q.f3.zip q.f4).map Prod.snd).map (raw s) := by unfold rawsOf; rw [List.map_map]; rfl
  rw [e, List.map_snd_zip (by omega)]
 have hLl : (q.f3.zip q.f4).length = (q.f4.map (raw s)).length := by simp; omega
 have hfl := fl_len hF
 rw [hraws] at hfl
 rw [hraws, hLl, outL_joinL]
 obtain ⟨O, hO⟩ : ∃ O, O = 91 :: joinL (q.f4.map (raw s)) := ⟨_, rfl⟩
 rw [← hO]
 have hOl : O.length ≤ 65536 := by
  rw [hO]
  by_cases c : q.f4 = []
  ·rw [c]; simp [joinL]
  ·have := joinL_len (q.f4.map (raw s)) (by simpa using c)
   simp only [List.length_cons]
   omega
 obtain ⟨C', hC, hT'⟩ := list_out s hz q.f4 ts hT hall O hO hOl
 have hoz : (⟨O.toArray⟩ : ByteArray).size = O.length := by simp [ByteArray.size]
 have htr := TrOf.list (by omega) hC hT'
 obtain ⟨K2, hE2⟩ := G.goes (by omega) hC (fun h => by dsimp only at h; omega)
 obtain ⟨j0, j1, j2, j3, j4⟩ := hC.ok
 dsimp only at j1
 have h91 : bt ⟨O.toArray⟩ 0 = 91 := by
  have := bt_drop O 0 O (by simp) 0 (by omega)
  simp only [Nat.zero_add] at this
  rw [show ((0 : Nat) : Int) = 0 from rfl] at this
  rw [this]
  simp [hO]
 obtain ⟨p, ⟨K1, hE1⟩, p0, p1, p2, _⟩ := blanksf_ev ⟨O.toArray⟩ (by omega) 0 (by omega) (by omega)
 have ep : p = 0 := by
  by_cases c : 0 < p
  ·have := p2 0 (by omega) c
   unfold isB at this
   omega
  ·omega
 obtain ⟨p3, ⟨K3, hE3⟩, r0, r1, _⟩ := blanksf_ev ⟨O.toArray⟩ (by omega) (O.length : Int) (by omega) (by omega)
 have ep3 : p3 = (⟨O.toArray⟩ : ByteArray).size := by omega
 intro w
 have hE2' := hE2 K2 (Nat.le_refl _)
 dsimp only at hE2'
 have := read_gen ⟨O.toArray⟩ (by omega) 0 5 O.length p3 [] C' true K1 K2 K3 (by rw [← ep]; rw [ep]; rw [ep] at hE1; exact hE1 K1 (Nat.le_refl _)) (by omega) (by omega) hE2' (by omega) (by omega) (hE3 K3 (Nat.le_refl _)) ⟨5, ⟨#[]⟩, [], ts⟩ (fun _ _ => htr) w
 rw [show (true && decide (p3 = ((⟨O.toArray⟩ : ByteArray).size : Int))) = true by simp [ep3]] at this
 exact this
end Go.Proofs.YtgiioglmkogpkaaGreatDoor.F
namespace Go.Proofs.YtgiioglmkogpkaaGreatDoor.F
open Go.RowKit Go.Proofs.YtgiioglmkogpkaaGreatDoorW.PrintWords Go.Proofs.YtgiioglmkogpkaaGreatDoorW.PrintLast Go.Proofs.YtgiioglmkogpkaaGreatDoorW.PrintMore
open M L V
def ans (K : Int) (txt : ByteArray) (A2 A3 : Option Addr) (n2 n3 c2 c3 : Nat) : Value := .agg #[.int .i64 K, .string txt, .slice A2 n2 c2, .slice A3 n3 c3, .bool true, .bool false, .bool false]
def ansO (K : Int) (txt : ByteArray) (A2 A3 : Option Addr) (n2 n3 c2 c3 : Nat) : Obj := .cells #[.int .i64 K, .string txt, .slice A2 n2 c2, .slice A3 n3 c3, .bool true, .bool false, .bool false] 31 (0, 0)
theorem ansEnd32 (P : Ending → World → Prop) (K : Int) (txt : ByteArray) (A2 A3 : Option Addr) (n2 n3 c2 c3 : Nat) (W : World) (r : Nat) (tm : Array Value) (h2 : tm.getD 2 undef = .pointer (some ⟨r, 0, none⟩)) (hg : W.heap[r]? = some (ansO K txt A2 A3 n2 n3 c2 c3)) (hb : P (.returned (ans K txt A2 A3 n2 n3 c2 c3)) W) :
  bodyPost Tryz.prog Tryz.f32 P .ret ⟨tm, []⟩ W := by
 have n0 := blk_cell hg 0
 have n1 := blk_cell hg 1
 have n2' := blk_cell hg 2
 have n3' := blk_cell hg 3
 have n4 := blk_cell hg 4
 have n5 := blk_cell hg 5
 have n6 := blk_cell hg 6
 refine bodyPost_ret (v := ans K txt A2 A3 n2 n3 c2 c3) ?_ rfl hb
 simp only [results, Tryz.results32]
 have h2' := h2
 simp only [Array.getD_eq_getD_getElem?] at h2'
 simp [go_sem, h2, h2', n0, n1, n2', n3', n4, n5, n6, ans]
theorem ansEnd10 (P : Ending → World → Prop) (K : Int) (txt : ByteArray) (A2 A3 : Option Addr) (n2 n3 c2 c3 : Nat) (W : World) (r : Nat) (tm : Array Value) (h2 : tm.getD 6 undef = .pointer (some ⟨r, 0, none⟩)) (hg : W.heap[r]? = some (ansO K txt A2 A3 n2 n3 c2 c3)) (hb : P (.returned (ans K txt A2 A3 n2 n3 c2 c3)) W) :
  bodyPost Tryz.prog Tryz.f10 P .ret ⟨tm, []⟩ W := by
 have n0 := blk_cell hg 0
 have n1 := blk_cell hg 1
 have n2' := blk_cell hg 2
 have n3' := blk_cell hg 3
 have n4 := blk_cell hg 4
 have n5 := blk_cell hg 5
 have n6 := blk_cell hg 6
 refine bodyPost_ret (v := ans K txt A2 A3 n2 n3 c2 c3) ?_ rfl hb
 simp only [results, Tryz.results10]
 have h2' := h2
 simp only [Array.getD_eq_getD_getElem?] at h2'
 simp [go_sem, h2, h2', n0, n1, n2', n3', n4, n5, n6, ans]
set_option maxHeartbeats 4000000 in
set_option maxRecDepth 8192 in
theorem found_calls (K : Int) (txt : ByteArray) (A2 A3 : Option Addr) (n2 n3 c2 c3 : Nat) (w : World) : Calls Tryz.prog 32 #[.agg #[.int .i64 K, .string txt, .slice A2 n2 c2, .slice A3 n3 c3]] w fun e w' => e = .returned (ans K txt A2 A3 n2 n3 c2 c3) ∧ Below w.heap.size w w' := by
 go_enter Tryz.func32, Tryz.ntmps32
 go_wp2_with fail
 refine ansEnd32 _ K txt A2 A3 n2 n3 c2 c3 _ (w.heap.size + 1) _ rfl ?_ ⟨rfl, below_alloc (below_alloc (Below.refl _ _) _) _⟩
 have := heap_alloc_new (w.alloc (.cells #[.int .i64 K, .string txt, .slice A2 n2 c2, .slice A3 n3 c3] 25)) (.cells #[.int .i64 K, .string txt, .slice A2 n2 c2, .slice A3 n3 c3, .bool true, .bool false, .bool false] 31)
 rwa [show (w.alloc (.cells #[.int .i64 K, .string txt, .slice A2 n2 c2, .slice A3 n3 c3] 25)).heap.size = w.heap.size + 1 by simp] at this
structure Ab (w W : World) : Prop where
 hr : W.heap[w.heap.size + 1]? = some (.cells #[.int .i64 0, .string ⟨#[]⟩, .slice none 0 0, .slice none 0 0, .bool false, .bool false, .bool false] 31 (0, 0))
 be : Below w.heap.size w W
theorem Ab.new (w : World) (cs : Array Value) : Ab w ((w.alloc (.cells cs 25)).alloc (.cells #[.int .i64 0, .string ⟨#[]⟩, .slice none 0 0, .slice none 0 0, .bool false, .bool false, .bool false] 31)) := by
 have := heap_alloc_new (w.alloc (.cells cs 25)) (.cells #[.int .i64 0, .string ⟨#[]⟩, .slice none 0 0, .slice none 0 0, .bool false, .bool false, .bool false] 31)
 rw [show (w.alloc (.cells cs 25)).heap.size = w.heap.size + 1 by simp] at this
 exact ⟨this, below_alloc (below_alloc (Below.refl _ _) _) _⟩
theorem Ab.below {w W W2 : World} (h : Ab w W) (hb : Below W.heap.size W W2) : Ab w W2 := ⟨(hb.block _ (blk_lt h.hr)).trans h.hr, below_then h.be h.be.size hb⟩
theorem Ab.cells {w W : World} (h : Ab w W) : W.cell? ⟨w.heap.size + 1, 0, none⟩ = some (.int .i64 0) ∧ W.cell? ⟨w.heap.size + 1, 1, none⟩ = some (.string ⟨#[]⟩) ∧ W.cell? ⟨w.heap.size + 1, 2, none⟩ = some (.slice none 0 0) ∧ W.cell? ⟨w.heap.size + 1, 3, none⟩ = some (.slice none 0 0) ∧ W.cell? ⟨w.heap.size + 1, 4, none⟩ = some (.bool false) ∧ W.cell? ⟨w.heap.size + 1, 5, none⟩ = some (.bool false) ∧ W.cell? ⟨w.heap.size + 1, 6, none⟩ = some (.bool false) ∧ (∀ i, W.frozen? ⟨w.heap.size + 1, i, none⟩ = false) :=
 ⟨blk_cell h.hr 0, blk_cell h.hr 1, blk_cell h.hr 2, blk_cell h.hr 3, blk_cell h.hr 4, blk_cell h.hr 5, blk_cell h.hr 6, fun i => blk_frozen h.hr i⟩
theorem Ab.stored {w W : World} (h : Ab w W) (a b c d e f g : Value) :
  (((((((W.setCell ⟨w.heap.size + 1, 0, none⟩ a).setCell ⟨w.heap.size + 1, 1, none⟩ b).setCell ⟨w.heap.size + 1, 2, none⟩ c).setCell ⟨w.heap.size + 1, 3, none⟩ d).setCell ⟨w.heap.size + 1, 4, none⟩ e).setCell ⟨w.heap.size + 1, 5, none⟩ f).setCell ⟨w.heap.size + 1, 6, none⟩ g).heap[w.heap.size + 1]? = some (.cells #[a, b, c, d, e, f, g] 31 (0, 0)) :=
 blk_set (blk_set (blk_set (blk_set (blk_set (blk_set (blk_set h.hr 0 _) 1 _) 2 _) 3 _) 4 _) 5 _) 6 _
theorem Ab.stored_below {w W : World} (h : Ab w W) (a b c d e f g : Value) :
  Below w.heap.size w (((((((W.setCell ⟨w.heap.size + 1, 0, none⟩ a).setCell ⟨w.heap.size + 1, 1, none⟩ b).setCell ⟨w.heap.size + 1, 2, none⟩ c).setCell ⟨w.heap.size + 1, 3, none⟩ d).setCell ⟨w.heap.size + 1, 4, none⟩ e).setCell ⟨w.heap.size + 1, 5, none⟩ f).setCell ⟨w.heap.size + 1, 6, none⟩ g) :=
 below_set (below_set (below_set (below_set (below_set (below_set (below_set h.be (Nat.le_succ _)) (Nat.le_succ _)) (Nat.le_succ _)) (Nat.le_succ _)) (Nat.le_succ _)) (Nat.le_succ _)) (Nat.le_succ _)
set_option maxHeartbeats 4000000 in
set_option maxRecDepth 8192 in
theorem change_calls (txt : ByteArray) (A2 A3 : Option Addr) (n2 n3 c2 c3 : Nat) (w : World) : Calls Tryz.prog 10 #[.agg #[.int .i64 6, .string txt, .slice A2 n2 c2, .slice A3 n3 c3], .string { data := #[118, 97, 108, 117, 101, 115] }, .string { data := #[] }] w fun e w' => e = .returned (ans 5 ⟨#[]⟩ none A3 0 n3 0 c3) ∧ Below w.heap.size w w' := by
 have HA := Aside0.mk (Ab.new w #[.int .i64 6, .string txt, .slice A2 n2 c2, .slice A3 n3 c3])
 go_enter Tryz.func10, Tryz.ntmps10
 go_wp2_with (go_at_call 32; refine (found_calls 5 ⟨#[]⟩ none A3 0 n3 0 c3 _).mono ?_; rintro e w2 ⟨rfl, hb⟩; simp only [ans]; have HB := Aside0.mk (HA.out.below hb); clear hb; obtain ⟨m0, m1, m2, m3, m4, m5, m6, g0⟩ := HB.out.cells)
 refine ansEnd10 _ 5 ⟨#[]⟩ none A3 0 n3 0 c3 _ (w.heap.size + 1) _ rfl (HB.out.stored _ _ _ _ _ _ _) ⟨rfl, HB.out.stored_below _ _ _ _ _ _ _⟩
end Go.Proofs.YtgiioglmkogpkaaGreatDoor.F
namespace Go.Proofs.YtgiioglmkogpkaaGreatDoor.F
open Go.RowKit Go.Proofs.YtgiioglmkogpkaaGreatDoorW.PrintWords Go.Proofs.YtgiioglmkogpkaaGreatDoorW.PrintLast Go.Proofs.YtgiioglmkogpkaaGreatDoorW.PrintMore
open M L V
theorem doorv_calls (s O : ByteArray) (w : World) (h : ∀ W, Below w.heap.size w W → Calls Tryz.prog 55 #[.string s, .string ⟨#[]⟩] W fun e w' => e = .returned (.string O) ∧ Below W.heap.size W w') : Calls Tryz.prog 30 #[.string s] w fun e w' => e = .returned (.string O) ∧ Below w.heap.size w w' := by
 have H := Aside0.mk (h w (Below.refl _ _))
 clear h
 go_enter Tryz.func30, Tryz.ntmps30
 go_wp2_with (go_at_call 55; refine H.out.mono ?_; rintro e w2 ⟨rfl, hb⟩; have HB := Aside0.mk hb; clear hb)
 go_ret
 exact ⟨rfl, HB.out⟩
theorem gjv_calls (s O : ByteArray) (w : World) (h : ∀ W, Below w.heap.size w W → Calls Tryz.prog 55 #[.string s, .string ⟨#[]⟩] W fun e w' => e = .returned (.string O) ∧ Below W.heap.size W w') : Calls Tryz.prog 9 #[.string s] w fun e w' => e = .returned (.string O) ∧ Below w.heap.size w w' := by
 have H := Aside0.mk (doorv_calls s O w h)
 clear h
 go_enter Tryz.func9, Tryz.ntmps9
 go_wp2_with (go_at_call 30; refine H.out.mono ?_; rintro e w2 ⟨rfl, hb⟩; have HB := Aside0.mk hb; clear hb)
 go_ret
 exact ⟨rfl, HB.out⟩
set_option maxHeartbeats 4000000 in
set_option maxRecDepth 8192 in
theorem reads_calls (O : ByteArray) (ks : List S25) (hO : ∀ w, Calls Tryz.prog 21 #[.string O] w (RdG ⟨5, ⟨#[]⟩, [], ks⟩ true w)) (hS : SB ⟨5, ⟨#[]⟩, [], ks⟩) (A3 : Option Addr) (c3 : Nat) (w : World) (hC : Kd.C k25 w A3 ks.length ks) (hc : ks.length ≤ c3) :
  Calls Tryz.prog 8 #[.string O, .agg #[.int .i64 5, .string ⟨#[]⟩, .slice none 0 0, .slice A3 ks.length c3]] w fun e w' => e = .returned (.bool true) ∧ Below w.heap.size w w' := by
 have HS := Aside0.mk hS
 have HO := Aside0.mk hO
 have HC := Aside0.mk (And.intro hC hc)
 have HB0 := Aside0.mk (heap_alloc_new w (.cells #[.int .i64 5, .string ⟨#[]⟩, .slice none 0 0, .slice A3 ks.length c3] 25))
 clear hS hO hC hc
 go_enter Tryz.func8, Tryz.ntmps8
 go_upto_region 2 with (go_at_call 21; refine (HO.out _).mono ?_; rintro e w1 ⟨K, txt, A2', A3', n2, n3, c2', c3', ok, rfl, hb, rfl, hF⟩; have hF' := hF rfl; dsimp only at hF'; obtain ⟨rfl, rfl, rfl, rfl, hN⟩ := hF'; have HN := Aside0.mk (And.intro hN.now (And.intro ((hb.block _ (blk_lt HB0.out)).trans HB0.out) (below_then (below_alloc (Below.refl _ _) _) (by simp) hb))); clear hb hN hF)
 have hx : ∀ o, (w1.alloc o).heap[w.heap.size]? = some (.cells #[.int .i64 5, .string ⟨#[]⟩, .slice none 0 0, .slice A3 ks.length c3] 25 (0, 0)) := fun o => (Below.heap_alloc w1 o _ (blk_lt HN.out.2.1)).trans HN.out.2.1
 have x0 := fun o => blk_cell (hx o) 0
 have x1 := fun o => blk_cell (hx o) 1
 have x2 := fun o => blk_cell (hx o) 2
 have x3 := fun o => blk_cell (hx o) 3
 clear hx
 go_wp2_with (go_at_call 29; refine (same_calls HS.out A2' A3' none A3 c2' c3' 0 c3 _ ?_ ?_).mono ?_; exact HN.out.1.below (below_alloc (Below.refl _ _) _); exact ⟨Kd.C_nil Kd.string _, Nat.le_refl _, Kd.C_below HC.out.1 (below_alloc HN.out.2.2 _), HC.out.2⟩; rintro e w3 ⟨rfl, hb⟩; have H3 := Aside0.mk (below_then (below_alloc HN.out.2.2 _) (by have := HN.out.2.2.size; simp; omega) hb); clear hb)
 go_ret
 exact ⟨rfl, H3.out⟩
structure Lw (w W : World) (g : Nat) (t : S25) (A2 A3 : Option Addr) (c2 c3 : Nat) : Prop where
 hg : W.heap[g]? = some (.cells #[.int .i64 t.f0, .string t.f1, .slice A2 t.f2.length c2, .slice A3 t.f3.length c3] 25 (0, 0))
 be : Below w.heap.size w W
 hN : NodeAt w.heap.size W t A2 A3 c2 c3
section
variable {w W W2 : World} {g : Nat} {t : S25} {A2 A3 : Option Addr} {c2 c3 : Nat}
theorem Lw.all (h : Lw w W g t A2 A3 c2 c3) : Lw w W g t A2 A3 c2 c3 ∧ W.cell? ⟨g, 0, none⟩ = some (.int .i64 t.f0) ∧ W.cell? ⟨g, 1, none⟩ = some (.string t.f1) ∧ W.cell? ⟨g, 2, none⟩ = some (.slice A2 t.f2.length c2) ∧ W.cell? ⟨g, 3, none⟩ = some (.slice A3 t.f3.length c3) :=
 ⟨h, blk_cell h.hg 0, blk_cell h.hg 1, blk_cell h.hg 2, blk_cell h.hg 3⟩
theorem Lw.drew (h : Lw w W g t A2 A3 c2 c3) : Lw w W.drew g t A2 A3 c2 c3 := ⟨h.hg, below_drew h.be, h.hN.step (Nat.le_refl _) (fun _ _ _ => rfl)⟩
theorem Lw.below (hb : Below W.heap.size W W2) (h : Lw w W g t A2 A3 c2 c3) : Lw w W2 g t A2 A3 c2 c3 := ⟨(hb.block g (blk_lt h.hg)).trans h.hg, below_then h.be h.be.size hb, h.hN.below hb⟩
theorem Lw.kc (h : Lw w W g t A2 A3 c2 c3) : Kd.C k25 W A3 t.f3.length t.f3 := h.hN.now.2.2.1
theorem Lw.kl (h : Lw w W g t A2 A3 c2 c3) : t.f3.length ≤ c3 := h.hN.now.2.2.2
theorem Lw.new {w w1 : World} (hb : Below w.heap.size w w1) (hN : NodeAt w.heap.size w1 t A2 A3 c2 c3) : Lw w (w1.alloc (.cells #[.int .i64 t.f0, .string t.f1, .slice A2 t.f2.length c2, .slice A3 t.f3.length c3] 25)) w1.heap.size t A2 A3 c2 c3 :=
 ⟨heap_alloc_new w1 _, below_alloc hb _, hN.below (below_alloc (Below.refl _ _) _)⟩
end
theorem fld31 (a b c d e f g : Value) (w : World) : (Instr.field 31 (.agg #[a, b, c, d, e, f, g]) 0).run Tryz.prog w = .ok (.agg #[a, b, c, d]) w := by kernel_rfl
def VLaw (w : World) (e : Ending) (w' : World) : Prop := e = .returned (.bool true) ∧ Below w.heap.size w w'
theorem vlaw_long (s : ByteArray) (hz : 2147483647 < s.size) (w : World) : Calls Tryz.prog 3 #[.string s] w (VLaw w) := by
 have x1 : decide (2147483647 < (s.size : Int)) = true := decide_eq_true (by omega)
 clear hz
 go_enter Tryz.func3, Tryz.ntmps3
 go_wp2_with fail
 go_ret
 exact ⟨rfl, Below.refl _ _⟩
set_option maxHeartbeats 4000000 in
set_option maxRecDepth 8192 in
theorem vlaw_short (s : ByteArray) (hz : s.size ≤ 2147483647) (w : World) (T : Tabs w) (hV : VT w) : Calls Tryz.prog 3 #[.string s] w (VLaw w) := by
 have x1 : decide (2147483647 < (s.size : Int)) = false := decide_eq_false (by omega)
 have HT := Aside0.mk (And.intro T hV)
 clear T hV
 go_enter Tryz.func3, Tryz.ntmps3
 go_upto_region 4 with (go_at_call 7; refine (bare_calls s (by omega) _).mono ?_; rintro e' w1 ⟨K, txt, A2, A3, n2, n3, c2, c3, ok, rfl, hb, hG⟩; have HB := Aside0.mk hb; have HG := Aside0.mk hG; clear hb hG)
 cases ok
 ·go_quiet (fail)
  go_wp2_with fail
  go_ret
  exact ⟨rfl, pw_below_drewN (below_alloc HB.out _) _⟩
 ·obtain ⟨hz2, hPA, hb0, hb1, t, hRd, rfl, rfl, rfl, rfl, hN⟩ := HG.out rfl
  by_cases h6 : t.f0 = 6
  ·obtain ⟨hs, h123, hSB, L, hL, hRG⟩ := obj_reads s hz2 hPA hb0 hb1 t hRd h6
   have L1 := Lw.new HB.out hN
   have L2 := L1.drew
   have HM := Aside0.mk (fun W hb => modvalues_calls s hz2 hs h123 L hL W (HT.out.1.below hb) (HT.out.2.below hb))
   have HR := Aside0.mk (And.intro hRG hSB)
   clear hRd hN hb0 hb1 hPA hRG hSB hL h123 HB HG HT
   generalize w1.alloc (.cells #[.int .i64 t.f0, .string t.f1, .slice A2 t.f2.length c2, .slice A3 t.f3.length c3] 25) = W at *
   generalize w1.heap.size = g at *
   obtain ⟨_, m0, m1, m2, m3⟩ := L1.all
   have hfl := fld31
   go_region_held3 (fun w' => Lw w w' g t A2 A3 c2 c3 ∧ w'.cell? ⟨g, 0, none⟩ = some (.int .i64 t.f0) ∧ w'.cell? ⟨g, 1, none⟩ = some (.string t.f1) ∧ w'.cell? ⟨g, 2, none⟩ = some (.slice A2 t.f2.length c2) ∧ w'.cell? ⟨g, 3, none⟩ = some (.slice A3 t.f3.length c3))
    ((go_split_ands; first | exact Lw.all (by assumption) | exact Lw.all (Lw.below (by assumption) (by assumption))))
    (first
     | (go_at_call 9; refine (gjv_calls s _ _ (fun W' hb => HM.out W' (below_then (Lw.be (by assumption)) (Lw.be (by assumption)).size hb))).mono ?_; rintro e w5 ⟨rfl, hb⟩)
     | (go_at_call 10; refine (change_calls t.f1 A2 A3 t.f2.length t.f3.length c2 c3 _).mono ?_; rintro e w6 ⟨rfl, hb⟩; simp only [ans])
     | (go_at_call 8; go_split_ands; refine (reads_calls _ t.f3 HR.out.1 HR.out.2 A3 c3 _ ?_ ?_).mono ?_; exact Lw.kc (by assumption); exact Lw.kl (by assumption); rintro e w7 ⟨rfl, hb⟩))
   go_split_ands
   go_wp2_with fail
   go_ret
   exact ⟨rfl, Lw.be (by assumption)⟩
  ·have x6 : (t.f0 != 6) = true := bne_iff_ne.mpr h6
   have L1 := Lw.new HB.out hN
   obtain ⟨_, m0, m1, m2, m3⟩ := L1.all
   go_quiet (fail)
   go_wp2_with fail
   go_ret
   exact ⟨rfl, pw_below_drewN L1.be _⟩
theorem vlaw_calls (s : ByteArray) (w : World) (T : Tabs w) (hV : VT w) : Calls Tryz.prog 3 #[.string s] w (VLaw w) := by
 by_cases h : s.size ≤ 2147483647
 ·exact vlaw_short s h w T hV
 ·exact vlaw_long s (by omega) w
end Go.Proofs.YtgiioglmkogpkaaGreatDoor.F
namespace Go.Proofs.YtgiioglmkogpkaaGreatDoor.F
open Go.ChangeShapes Go.WideShapes Go.ChangeAt Go.RowKit
set_option maxRecDepth 100000
theorem laid_mem {P : Program} {w : World} {n : String} {d : DataW Unit} : ∀ {l : List (String × DataW Unit)} {ps : List MemPlace}, DataW.LaidVars P w l ps → (n, d) ∈ l →
  ∃ g t cs fuel p, P.globalNamed n = some g ∧ (P.globals[g]?).map (·.type) = some t ∧ w.var? P n = some cs ∧ DataW.trod (fun _ => ()) P w 0 (fun _ => true) false fuel t cs.toList = some (d, p)
 | [], _, _, hm => by simp at hm
 | (n0, d0) :: r, ps, h, hm => by
  obtain ⟨g, t, cs, fuel, p, q, h1, h2, h3, h4, h5, _⟩ := h
  rcases List.mem_cons.1 hm with e | hm
  ·cases e
   exact ⟨g, t, cs, fuel, p, h1, h2, h3, h4⟩
  ·exact laid_mem h5 hm
abbrev LL : List (String × DataW Unit) := Rows.fnGjValuesTextRow.laid
theorem laid_of {W : World} (h : laidMetH Tryz.prog LL W) : ∃ ps, DataW.LaidVars Tryz.prog W LL ps := by
 rw [MakeChecks.laidMetH_plain _ _ _ (by kernel_rfl)] at h
 obtain ⟨ps, h, _⟩ := h
 exact ⟨ps, h⟩
theorem g1 : Tryz.prog.globalNamed "internal/strconv.optimize" = some 1 := by kernel_rfl
theorem g3 : Tryz.prog.globalNamed "strconv.ErrRange" = some 3 := by kernel_rfl
theorem g0 : Tryz.prog.globalNamed "pub-tetrapla/pub/gjson.vchars" = some 0 := by kernel_rfl
theorem g6 : Tryz.prog.globalNamed "internal/strconv.float64info" = some 6 := by kernel_rfl
theorem g7 : Tryz.prog.globalNamed "internal/strconv.pow10Tab" = some 7 := by kernel_rfl
theorem g8 : Tryz.prog.globalNamed "internal/strconv.leftcheats" = some 8 := by kernel_rfl
theorem g10 : Tryz.prog.globalNamed "internal/strconv.powtab" = some 10 := by kernel_rfl
theorem g11 : Tryz.prog.globalNamed "internal/strconv.float64pow10" = some 11 := by kernel_rfl
theorem t1 : (Tryz.prog.globals[1]?).map (·.type) = some 4 := by kernel_rfl
theorem t3 : (Tryz.prog.globals[3]?).map (·.type) = some 123 := by kernel_rfl
theorem t0 : (Tryz.prog.globals[0]?).map (·.type) = some 157 := by kernel_rfl
theorem t7 : (Tryz.prog.globals[7]?).map (·.type) = some 280 := by kernel_rfl
theorem t10 : (Tryz.prog.globals[10]?).map (·.type) = some 64 := by kernel_rfl
theorem t6 : (Tryz.prog.globals[6]?).map (·.type) = some 259 := by kernel_rfl
theorem t8 : (Tryz.prog.globals[8]?).map (·.type) = some 286 := by kernel_rfl
theorem t11 : (Tryz.prog.globals[11]?).map (·.type) = some 293 := by kernel_rfl
section
variable {W : World} {ps : List MemPlace} (h : DataW.LaidVars Tryz.prog W LL ps)
theorem laid_at {ps : List MemPlace} {W : World} (h : DataW.LaidVars Tryz.prog W LL ps) {n : String} {d : DataW Unit} {g : Nat} {t : TypeId} (hm : (n, d) ∈ LL) (hg : Tryz.prog.globalNamed n = some g) (ht : (Tryz.prog.globals[g]?).map (·.type) = some t) :
  ∃ cs fuel p, (∀ i, W.cell? ⟨g, i, none⟩ = cs[i]?) ∧ DataW.trod (fun _ => ()) Tryz.prog W 0 (fun _ => true) false fuel t cs = some (d, p) := by
 obtain ⟨g', t', cs, fuel, p, h1, h2, h3, h4⟩ := laid_mem h hm
 obtain rfl := Option.some.inj (hg.symm.trans h1)
 obtain rfl := Option.some.inj (ht.symm.trans h2)
 exact ⟨cs.toList, fuel, p, fun i => by have := World.var?_cell hg h3 i; simpa using this, h4⟩
theorem laid_op {ps : List MemPlace} {W : World} (h : DataW.LaidVars Tryz.prog W LL ps) : W.cell? ⟨1, 0, none⟩ = some (.bool true) := by
 obtain ⟨cs, fuel, p, hc, ht⟩ := laid_at h (d := Rows.laid_internal_strconv_optimize) (by simp [LL, Rows.fnGjValuesTextRow]) g1 t1
 obtain ⟨b, rfl, hx⟩ := DataW.trod_bool Tryz.underlying4 ht
 have hb : b = true := by simpa [Rows.laid_internal_strconv_optimize] using (congrArg Prod.fst hx).symm
 rw [hc 0, hb]; rfl
theorem laid_er {ps : List MemPlace} {W : World} (h : DataW.LaidVars Tryz.prog W LL ps) : ∃ ev, W.cell? ⟨3, 0, none⟩ = some ev ∧ (ev = .nilIface ∨ ∃ te pe, ev = .iface te pe) := by
 obtain ⟨cs, fuel, p, hc, ht⟩ := laid_at h (d := Rows.laid_strconv_ErrRange) (by simp [LL, Rows.fnGjValuesTextRow]) g3 t3
 obtain ⟨f2, u, v, rfl, _, _⟩ := iface_of_trod Tryz.underlying123 ht
 exact ⟨_, hc 0, .inr ⟨u, v, rfl⟩⟩
theorem laid_vt {ps : List MemPlace} {W : World} (h : DataW.LaidVars Tryz.prog W LL ps) : VT W := by
 obtain ⟨cs, fuel, p, hc, ht⟩ := laid_at h (d := Rows.laid_pub_tetrapla_pub_gjson_vchars) (by simp [LL, Rows.fnGjValuesTextRow]) g0 t0
 have e : (Rows.laid_pub_tetrapla_pub_gjson_vchars : DataW Unit) = Lib.tabData .u8 ((List.range 256).map fun i : Nat => V.vch (i : Int)) := by kernel_rfl
 rw [e] at ht
 have hcs := Lib.cells_of_tab Tryz.underlying157 Tryz.underlying5 (by kernel_rfl) (by kernel_rfl) ht
 intro i hi
 rw [hc i, hcs]
 simp only [List.getElem?_map]
 rw [List.getElem?_range hi]
 rfl
end
end Go.Proofs.YtgiioglmkogpkaaGreatDoor.F
namespace Go.Proofs.YtgiioglmkogpkaaGreatDoor.F
open Go.ChangeShapes Go.WideShapes Go.ChangeAt Go.RowKit
set_option maxRecDepth 100000
theorem trod_f64 {H : Type} {enc : TypeId × Value → H} {P : Program} {w : World} {base : Nat} {sp : Nat → Bool} {held : Bool} {fuel : Nat} {t : TypeId} {c : Value} {x : Nat} {q : List MemPlace} (ht : P.underlying t = some (.float .f64)) (h : DataW.trod enc P w base sp held fuel t [c] = some (.lit (.float .f64 x), q)) : ∃ y, c = .float .f64 y := by
 cases fuel with
 | zero => simp [DataW.trod] at h
 | succ n =>
  cases c <;> simp [DataW.trod, ht] at h
  rename_i k y
  cases k <;> simp at h
  exact ⟨y, rfl⟩
theorem laid_fi {ps : List MemPlace} {W : World} (h : DataW.LaidVars Tryz.prog W LL ps) : FI W := by
 obtain ⟨cs, fuel, p, hc, ht⟩ := laid_at h (d := Rows.laid_internal_strconv_float64info) (by simp [LL, Rows.fnGjValuesTextRow]) g6 t6
 obtain ⟨y0, y1, y2, n, hx, hl, a0, a1, a2⟩ := Go.Deep.trod_struct3 Tryz.underlying259 ht
 have c3 : Tryz.prog.cellsOf 259 = 3 := by kernel_rfl
 rw [c3] at hl
 match cs, hl with
 | [c0, c1, c2], _ =>
  dsimp only at a0 a1 a2
  have k3 : Tryz.prog.cellsOf 3 = 1 := by kernel_rfl
  have k162 : Tryz.prog.cellsOf 162 = 1 := by kernel_rfl
  rw [k162] at a0 a1
  rw [k3] at a2
  obtain ⟨n0, e0, z0, _⟩ := DataW.trod_int Tryz.underlying162 a0
  obtain ⟨n1, e1, z1, _⟩ := DataW.trod_int Tryz.underlying162 a1
  obtain ⟨n2, e2, z2, _⟩ := DataW.trod_int Tryz.underlying3 a2
  have hd := congrArg Prod.fst hx
  rw [z0, z1, z2] at hd
  have hd2 : (DataW.agg [.lit (.int .u64 52), .lit (.int .u64 11), .lit (.int .i64 (-1023))] : DataW Unit) = .agg [.lit (.int .u64 n0), .lit (.int .u64 n1), .lit (.int .i64 n2)] := hd
  simp at hd2
  obtain ⟨rfl, rfl, rfl⟩ := hd2
  have f0 : c0 = .int .u64 52 := by simpa using e0
  have f1 : c1 = .int .u64 11 := by simpa using e1
  have f2 : c2 = .int .i64 (-1023) := by simpa using e2
  subst f0 f1 f2
  exact ⟨hc 0, hc 1, hc 2⟩
theorem laid_pow {ps : List MemPlace} {W : World} (h : DataW.LaidVars Tryz.prog W LL ps) : Pow W := by
 obtain ⟨cs, fuel, p, hc, ht⟩ := laid_at h (d := Rows.laid_internal_strconv_pow10Tab) (by simp [LL, Rows.fnGjValuesTextRow]) g7 t7
 obtain ⟨xs, m, _, _, hl, hn, hel⟩ := DataW.trod_array Tryz.underlying280 ht
 have c280 : Tryz.prog.cellsOf 280 = 1392 := by kernel_rfl
 have c279 : Tryz.prog.cellsOf 279 = 2 := by kernel_rfl
 rw [c280] at hl
 rw [c279] at hel
 intro i hi
 have hq := hel (i / 2) (by omega)
 have hx : xs[i / 2]? = some (xs[i / 2]'(by omega)) := List.getElem?_eq_getElem (by omega)
 rw [hx] at hq
 obtain ⟨y0, y1, n, _, hl2, a0, a1⟩ := trod_struct2 Tryz.underlying279 hq
 have c159 : Tryz.prog.cellsOf 159 = 1 := by kernel_rfl
 obtain ⟨L, hL⟩ : ∃ L, List.take 2 (List.drop (i / 2 * 2) cs) = L := ⟨_, rfl⟩
 rw [hL] at a0 a1 hl2
 rw [c279] at hl2
 dsimp only at a0 a1
 rw [c159] at a0 a1
 match L, hl2 with
 | [a, b], _ =>
  obtain ⟨n0, e0, _, _⟩ := DataW.trod_int Tryz.underlying159 a0
  obtain ⟨n1, e1, _, _⟩ := DataW.trod_int Tryz.underlying159 a1
  have hidx : ∀ j, j < 2 → cs[i / 2 * 2 + j]? = [a, b][j]? := by
   intro j hj
   rw [← hL, List.getElem?_take, if_pos hj, List.getElem?_drop]
  have ea : a = .int .u64 n0 := by simpa using e0
  have eb : b = .int .u64 n1 := by simpa using e1
  subst ea eb
  rw [hc i]
  rcases Nat.mod_two_eq_zero_or_one i with hm | hm
  ·have := hidx 0 (by omega)
   rw [show i / 2 * 2 + 0 = i by omega] at this
   exact ⟨n0, this⟩
  ·have := hidx 1 (by omega)
   rw [show i / 2 * 2 + 1 = i by omega] at this
   exact ⟨n1, this⟩
theorem laid_powtab {ps : List MemPlace} {W : World} (h : DataW.LaidVars Tryz.prog W LL ps) : PowTab W := by
 obtain ⟨cs, fuel, p, hc, ht⟩ := laid_at h (d := Rows.laid_internal_strconv_powtab) (by simp [LL, Rows.fnGjValuesTextRow]) g10 t10
 obtain ⟨a, cap, rfl, hcap, hel⟩ := open_row Tryz.underlying64 (by kernel_rfl) ht
 have hall : ∀ i, i < 9 → W.cell? (a.add i) = some (.int .i64 (powtabL.getD i 0)) := by
  intro i hi
  have hd : ∀ i, i < 9 → ([1, 3, 6, 9, 13, 16, 19, 23, 26] : List Int)[i]? = some (powtabL.getD i 0) := by decide
  obtain ⟨v, n, q, hv, hr⟩ := hel i (.lit (.int .i64 (powtabL.getD i 0))) (by
   have := hd i hi
   have e : ([.lit (.int .i64 1), .lit (.int .i64 3), .lit (.int .i64 6), .lit (.int .i64 9), .lit (.int .i64 13), .lit (.int .i64 16), .lit (.int .i64 19), .lit (.int .i64 23), .lit (.int .i64 26)] : List (DataW Unit)) = ([1, 3, 6, 9, 13, 16, 19, 23, 26] : List Int).map fun z => .lit (.int .i64 z) := rfl
   rw [e, List.getElem?_map, this]; rfl)
  obtain ⟨k, e1, e2, _⟩ := DataW.trod_int Tryz.underlying3 hr
  have hk : powtabL.getD i 0 = k := by simpa using congrArg Prod.fst e2
  rw [hv, hk]
  simpa using e1
 exact ⟨a, cap, hc 0, hall, by have := hall 0 (by omega); simpa [Addr.add, powtabL] using this⟩
def p10L : List Nat := [4607182418800017408, 4621819117588971520, 4636737291354636288, 4652007308841189376, 4666723172467343360, 4681608360884174848, 4696837146684686336, 4711630319722168320, 4726483295884279808, 4741671816366391296, 4756540486875873280, 4771362005757984768, 4786511204640096256, 4801453603149578240, 4816244402031689728, 4831355200913801216, 4846369599423283200, 4861130398305394688, 4876203697187506176, 4891288408196988160, 4906019910204099648, 4921056587992461136, 4936209963552724370]
theorem laid_p10 {ps : List MemPlace} {W : World} (h : DataW.LaidVars Tryz.prog W LL ps) : P10 W := by
 obtain ⟨cs, fuel, p, hc, ht⟩ := laid_at h (d := Rows.laid_internal_strconv_float64pow10) (by simp [LL, Rows.fnGjValuesTextRow]) g11 t11
 obtain ⟨a, cap, rfl, hcap, hel⟩ := open_row Tryz.underlying293 (by kernel_rfl) ht
 refine ⟨a, cap, hc 0, fun i hi => ?_⟩
 have hall : ∀ i, i < 23 → (p10L[i]?).isSome = true := by decide
 obtain ⟨x, hx⟩ := Option.isSome_iff_exists.1 (hall i hi)
 obtain ⟨v, n, q, hv, hr⟩ := hel i (.lit (.float .f64 x)) (by
  have e : (Rows.laid_internal_strconv_float64pow10 : DataW Unit) = .slice (p10L.map fun z => .lit (.float .f64 z)) [] := rfl
  injection e with e1 _
  rw [e1, List.getElem?_map, hx]; rfl)
 obtain ⟨y, rfl⟩ := trod_f64 Tryz.underlying39 hr
 exact ⟨y, hv⟩
theorem laid_cheats {ps : List MemPlace} {W : World} (h : DataW.LaidVars Tryz.prog W LL ps) : Cheats W := by
 obtain ⟨cs, fuel, p, hc, ht⟩ := laid_at h (d := Rows.laid_internal_strconv_leftcheats) (by simp [LL, Rows.fnGjValuesTextRow]) g8 t8
 rcases DataW.trod_slice Tryz.underlying286 ht with ⟨_, hx⟩ | ⟨a, len, cap, elems, rest, n, _, rfl, hx, _, hl, _, hlen, hel, _⟩
 ·exact absurd (congrArg Prod.fst hx) (by intro e; cases e)
 ·have hfst := congrArg Prod.fst hx
  have hlst : Go.Pinned.cheatRows.map (fun x => (DataW.agg [.lit (.int .i64 x.1), .lit (.string x.2)] : DataW Unit)) = elems.map (·.1) := by
   have e : (Rows.laid_internal_strconv_leftcheats : DataW Unit) = .slice (Go.Pinned.cheatRows.map (fun x => (DataW.agg [.lit (.int .i64 x.1), .lit (.string x.2)] : DataW Unit))) [] := rfl
   rw [e] at hfst
   injection hfst
  have h61 : len = 61 := by
   have := congrArg List.length hlst
   simp only [List.length_map] at this
   rw [← hlen, ← this]; decide
  have c285 : Tryz.prog.cellsOf 285 = 2 := by kernel_rfl
  have c3 : Tryz.prog.cellsOf 3 = 1 := by kernel_rfl
  have c9 : Tryz.prog.cellsOf 9 = 1 := by kernel_rfl
  rw [c285] at hel
  subst h61
  refine ⟨a, cap, hc 0, fun k x hk => ?_⟩
  have hkl : k < 61 := by
   have := (List.getElem?_eq_some_iff.1 hk).1
   have h : Go.Pinned.cheatRows.length = 61 := by decide
   omega
  have hy : ∃ y, elems[k]? = some y ∧ y.1 = .agg [.lit (.int .i64 x.1), .lit (.string x.2)] := by
   have := congrArg (fun l => l[k]?) hlst
   simp only [List.getElem?_map, hk, Option.map_some] at this
   cases hz : elems[k]? with
   | none => rw [hz] at this; simp at this
   | some y => rw [hz] at this; exact ⟨y, rfl, by simpa using this.symm⟩
  obtain ⟨y, hy1, hy2⟩ := hy
  have he := hel k hkl
  rw [hy1] at he
  simp only [Option.bind_eq_some_iff] at he
  obtain ⟨L, hL, hT⟩ := he
  obtain ⟨y0, y1, m, hz, hl2, a0, a1⟩ := trod_struct2 Tryz.underlying285 hT
  rw [c285] at hl2
  dsimp only at a0 a1
  rw [c3] at a0
  rw [c9] at a1
  match L, hl2 with
  | [c0, c1], _ =>
   obtain ⟨n0, e0, z0, _⟩ := DataW.trod_int Tryz.underlying3 a0
   obtain ⟨s1, e1, z1, _⟩ := DataW.trod_string Tryz.underlying9 a1
   rw [hz, z0, z1] at hy2
   simp at hy2
   obtain ⟨h1, h2⟩ := hy2
   have f0 : c0 = .int .i64 n0 := by simpa using e0
   have f1 : c1 = .string s1 := by simpa using e1
   subst f0 f1
   unfold World.cells? at hL
   rw [if_pos (Nat.zero_le _)] at hL
   have e00 : (a.add (k * 2)).add 0 = a.add (k * 2) := by simp [Addr.add]
   simp only [List.range_succ, List.range_zero, List.nil_append, List.cons_append, List.mapM_cons, List.mapM_nil, e00] at hL
   cases hA : W.cell? (a.add (k * 2)) with
   | none => simp [hA] at hL
   | some u0 =>
    cases hB : W.cell? ((a.add (k * 2)).add 1) with
    | none => simp [hA, hB] at hL
    | some u1 =>
     simp [hA, hB] at hL
     obtain ⟨rfl, rfl⟩ := hL
     have hs : s1 = ⟨x.2.toArray⟩ := by
      apply ByteArray.ext
      apply Array.toList_inj.1
      simpa using h2
     refine ⟨by rw [h1], ?_⟩
     rw [← hs]
     exact hB
theorem tabs_of_laid {W : World} (h : laidMetH Tryz.prog LL W) : Tabs W ∧ VT W := by
 obtain ⟨ps, h⟩ := laid_of h
 exact ⟨⟨laid_op h, laid_fi h, laid_cheats h, laid_powtab h, laid_pow h, laid_p10 h, laid_er h⟩, laid_vt h⟩
end Go.Proofs.YtgiioglmkogpkaaGreatDoor.F
namespace Go.Proofs.YtgiioglmkogpkaaGreatDoor.fnGjValuesText
open Go.ChangeShapes Go.WideShapes Go.ChangeAt Go.RowKit
open Go.ChangeMaps (open_string shut_string)
set_option maxRecDepth 100000
theorem own : ownKnob Tryz.prog.godebug = none := by kernel_rfl
theorem lifted (os : Os) (started : os.Started) (H : Type) (enc : TypeId × Value → H) :
  ReturnsInHanded {} Tryz.checked os 3 .any (fun w args => (Rows.fnGjValuesTextSpec.pre enc Tryz.prog Tryz.f3 Rows.fnGjValuesTextRow.domain false w args ∧ laidMetH Tryz.prog F.LL w) ∧ sizedMet enc Tryz.prog Tryz.f3 (OpenSpec.ofChange Rows.fnGjValuesTextSpec) false w args)
   (Rows.fnGjValuesTextSpec.post enc Tryz.prog Tryz.f3 false true false false) := by
 refine returnsInHanded_of_change_and (C := Tryz.checked) (X := fun w _ => laidMetH Tryz.prog F.LL w) (fun _ _ _ hh h => h.of_heap hh) own started (by kernel_rfl) Tryz.func3
  (ChangeSpec.witness_shaped (enc := enc) (C := Tryz.checked) (os := os) (X := fun w _ => laidMetH Tryz.prog F.LL w) false (World.laidAll Tryz.prog os F.LL) #[.string ByteArray.empty] 8 (World.laidAll_os _ _ _)
   (World.shaped_of_ZipB (by kernel_rfl) (by kernel_rfl)) (by kernel_rfl) (by kernel_rfl) (by kernel_rfl)
   (by rw [MakeChecks.laidMetH_plain _ _ _ (by kernel_rfl)]; exact laidMet_laidAll _ (by kernel_rfl) (by kernel_rfl))) ?_
 intro W base args ds gs before hval0 hW hc _ hL _
 have hval : ∀ (j : Nat) t v, Tryz.f3.params[j]? = some t → args[j]? = some v → Value.okWide Tryz.prog W .any base t v := hval0
 have hW' := hW
 obtain ⟨p, q, hA0, hV, rfl, _, _⟩ := hW
 have hA : DataW.TrodAll enc Tryz.prog W 0 (fun _ => true) true Tryz.f3.params.toList args.toList ds p := hA0
 rw [Tryz.params3] at hA hval
 obtain ⟨v0, d0, rfl, rfl, h0⟩ := trodAll_one hA
 obtain ⟨rfl, rfl⟩ := trodVars_none hV
 obtain ⟨a0, rfl, rfl, rfl, y0⟩ := open_string Tryz.underlying9 (hval 0 9 v0 rfl rfl) h0
 obtain ⟨T, U⟩ := F.tabs_of_laid hL
 clear hA0 hval0
 refine (F.vlaw_calls a0 W T U).mono fun e W' ⟨he, bel⟩ => ?_
 subst he
 exact ⟨_, rfl, _, _, _, [], _, [], hW', trodAll_mk1 (shut_bool Tryz.underlying4 _), (trodAll_mk1 (shut_string Tryz.underlying9 y0)), rfl, bel.frame _, fun h => by cases h⟩
theorem holds : Rows.FnGjValuesTextSaid :=
 OpenClaim.holds_of_wide 3 Tryz.f3 rfl rfl rfl rfl rfl rfl rfl ⟨rfl, rfl, rfl, rfl, rfl⟩ rfl rfl rfl rfl rfl (by kernel_rfl) Tryz.func3 (by kernel_rfl)
  (of_decide_eq_true (by kernel_rfl)) (by unfold Func.isWrapper; first | (rw [if_pos (by decide +kernel)]; kernel_rfl) | (rw [if_neg (by decide +kernel)]; exact ⟨rfl, rfl⟩))
  (fun os started H enc _ => lifted os started H enc)
end Go.Proofs.YtgiioglmkogpkaaGreatDoor.fnGjValuesText

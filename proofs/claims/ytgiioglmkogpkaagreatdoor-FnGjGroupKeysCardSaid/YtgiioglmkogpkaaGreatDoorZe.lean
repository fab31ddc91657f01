/- Texts behind the law FnGjGroupKeys: part 5. -/
import Derived.Test.YtgiioglmkogpkaaGreatDoorZd
import Derived.Laws.DeepStrings4
import Derived.Test.YtgiioglmkogpkaaGreatDoorZc
import Derived.WalkMore
import Derived.Deep.LoopGhost
import Derived.Laws.BitsLemmas
import Derived.Lib.LazyBuf
import Derived.Shelf.Abstract
import Derived.LoopN
import Derived.Deep.RegionHeld3
import Derived.Test.YtgiioglmkogpkaaGreatDoorZb
import Derived.Deep.RegionWith
import Derived.Lib.AppendStr
set_option linter.unusedVariables false
set_option linter.unusedSimpArgs false
namespace Go.Proofs.YtgiioglmkogpkaaGreatDoor.F
open Go.RowKit Go.Proofs.YtgiioglmkogpkaaGreatDoorW.PrintWords Go.Proofs.YtgiioglmkogpkaaGreatDoorW.PrintLast Go.Proofs.YtgiioglmkogpkaaGreatDoorW.PrintMore
open M L V
set_option maxHeartbeats 8000000
set_option maxRecDepth 8192
def jmpQ (J : Nat → Act → World → Prop) (Q : Exit → Act → World → Prop) : Exit → Act → World → Prop
 | .goto l, a, w => J l a w
 | e, a, w => Q e a w
section
variable {P : Program} {a : Act} {w : World} {Q : Exit → Act → World → Prop}
theorem wp_scope_ghost {c : Code} (rest : Nat → Code) (J : Nat → Nat → Act → World → Prop) (hf : ∀ m l a w, J m l a w → findLabel c l = some (rest l)) (m0 : Nat)
  (first : c.wp P (jmpQ (fun l a w => ∃ m, m < m0 ∧ J m l a w) Q) a w)
  (pass : ∀ m l a w, J m l a w → (rest l).wp P (jmpQ (fun l' a' w' => ∃ m', m' < m ∧ J m' l' a' w') Q) a w) : (Code.scope c).wp P Q a w := by
 intro b k cs
 have key : ∀ m0 (x : Code) a w, x.wp P (jmpQ (fun l a w => ∃ m, m < m0 ∧ J m l a w) Q) a w → ∃ e a' w', Q e a' w' ∧ Arrives P (lone (b.at a (.code x :: .inScope c :: k)) cs w) b k cs e a' w' := by
  intro m0
  induction m0 using Nat.strongRecOn with
  | _ m0 ih =>
   intro x a w hx
   obtain ⟨e, a₁, w₁, hq, harr⟩ := hx b (.inScope c :: k) cs
   cases e with
   | normal => exact ⟨.normal, a₁, w₁, hq, Steps.trans harr (.one step_inScope)⟩
   | exit id => exact ⟨.exit id, a₁, w₁, hq, fun k' hk => harr k' (by simp [exitTo, hk])⟩
   | goto l' =>
    obtain ⟨m, hm, hJ⟩ := hq
    have hg : gotoIn l' (.inScope c :: k) = some (.code (rest l') :: .inScope c :: k) := by simp [gotoIn, hf m l' _ _ hJ]
    obtain ⟨e₂, a₂, w₂, hq₂, harr₂⟩ := ih m hm (rest l') a₁ w₁ (pass m l' a₁ w₁ hJ)
    exact ⟨e₂, a₂, w₂, hq₂, .of_steps (harr _ hg) harr₂⟩
   | ret => exact ⟨_, a₁, w₁, hq, harr⟩
   | panic ch => exact ⟨_, a₁, w₁, hq, harr⟩
   | outgrown => exact ⟨_, a₁, w₁, hq, harr⟩
 obtain ⟨e, a', w', hq, harr⟩ := key m0 c a w first
 exact ⟨e, a', w', hq, .of_steps (.one step_scope) harr⟩
end
theorem bt_nat (s : ByteArray) (i : Int) (n : Nat) (e : (n : Int) = i) (h : n < s.size) : ((s[n]'h).toNat : Int) = bt s i := by
 have := bt_at s i (by omega)
 have e2 : i.toNat = n := by omega
 simp only [e2] at this
 exact this
theorem bt_ex (s : ByteArray) (y : Int) (k : Nat) (h0 : 0 ≤ y) (h1 : y + 8 ≤ s.size) (hk : k < 8) (h : k < (s.extract y.toNat (y + 8).toNat).size) : (((s.extract y.toNat (y + 8).toNat)[k]'h).toNat : Int) = bt s (y + k) := by
 rw [bt_nat _ (k : Int) k rfl h, bt_extract s _ _ _ (by omega) (by omega) (by omega)]
 congr 1
 omega
def unlp : Code → Code
 | .loop c => c
 | c => c
def unbk : Code → Code
 | .block _ c => c
 | c => c
def thn : Code → Code
 | .cond _ c _ => c
 | c => c
noncomputable def sqA : Code := match Tryz.f88.body with
 | some c => unsc (unbk (tl (unlp (unbk (hd1 (tl (tl (tl (tl (tl c))))))))))
 | none => .skip
noncomputable def sq0 : Code := (findLabel sqA 0).getD .skip
noncomputable def sqB : Code := unsc (thn (tl (hd1 (tl sq0))))
noncomputable def sq1 : Code := (findLabel sqB 1).getD .skip
noncomputable def sq2 : Code := (findLabel sqB 2).getD .skip
noncomputable def sq3 : Code := (findLabel sqB 3).getD .skip
noncomputable def x3 : Code := tl sq3
noncomputable def x1 : Code := hd1 (tl sq1)
noncomputable def x2 : Code := hd1 (tl sq2)
noncomputable def r37 : Code := hd1 sqB
noncomputable def a2 : Code := hd1 sqA
noncomputable def r33 : Code := hd1 (tl sqA)
noncomputable def r34 : Code := hd1 (tl (tl sqA))
noncomputable def r0 : Code := tl sq0
noncomputable def r36 : Code := hd1 (hd1 r0)
noncomputable def r76 : Code := tl r0
def els : Code → Code
 | .cond _ _ c => c
 | c => c
noncomputable def rEl : Code := els (tl (hd1 r0))
noncomputable def r38 : Code := hd1 (tl sqB)
theorem sq_0 : findLabel sqA 0 = some sq0 := by
 simp only [sq1, sq2, sq3, sqB, sq0, sqA, Tryz.f88, tl, hd1, thn, unbk, unlp, unsc, findLabel, Nat.reduceBEq, Bool.false_eq_true, ↓reduceIte, Option.getD_some, beq_self_eq_true]
theorem sq_1 : findLabel sqB 1 = some sq1 := by
 simp only [sq1, sq2, sq3, sqB, sq0, sqA, Tryz.f88, tl, hd1, thn, unbk, unlp, unsc, findLabel, Nat.reduceBEq, Bool.false_eq_true, ↓reduceIte, Option.getD_some, beq_self_eq_true]
theorem sq_2 : findLabel sqB 2 = some sq2 := by
 simp only [sq1, sq2, sq3, sqB, sq0, sqA, Tryz.f88, tl, hd1, thn, unbk, unlp, unsc, findLabel, Nat.reduceBEq, Bool.false_eq_true, ↓reduceIte, Option.getD_some, beq_self_eq_true]
theorem sq_3 : findLabel sqB 3 = some sq3 := by
 simp only [sq1, sq2, sq3, sqB, sq0, sqA, Tryz.f88, tl, hd1, thn, unbk, unlp, unsc, findLabel, Nat.reduceBEq, Bool.false_eq_true, ↓reduceIte, Option.getD_some, beq_self_eq_true]
theorem sqA_eq : sqA = .seq a2 (.seq r33 (.seq r34 (.seq (.label 0) r0))) := by
 simp only [a2, r33, r34, r36, r76, els, rEl, r0, r37, r38, x1, x2, x3, sq1, sq2, sq3, sqB, sq0, sqA, Tryz.f88, tl, hd1, thn, unbk, unlp, unsc, findLabel, Nat.reduceBEq, Bool.false_eq_true, ↓reduceIte, Option.getD_some, beq_self_eq_true]
theorem sq0_eq : sq0 = .seq .skip r0 := by
 simp only [a2, r33, r34, r36, r76, els, rEl, r0, r37, r38, x1, x2, x3, sq1, sq2, sq3, sqB, sq0, sqA, Tryz.f88, tl, hd1, thn, unbk, unlp, unsc, findLabel, Nat.reduceBEq, Bool.false_eq_true, ↓reduceIte, Option.getD_some, beq_self_eq_true]
theorem r0_eq : r0 = .seq (.seq r36 (.cond (.tmp 107) (.scope sqB) rEl)) r76 := by
 simp only [a2, r33, r34, r36, r76, els, rEl, r0, r37, r38, x1, x2, x3, sq1, sq2, sq3, sqB, sq0, sqA, Tryz.f88, tl, hd1, thn, unbk, unlp, unsc, findLabel, Nat.reduceBEq, Bool.false_eq_true, ↓reduceIte, Option.getD_some, beq_self_eq_true]
theorem sqB_eq : sqB = .seq r37 (.seq r38 (.seq (.label 2) (.seq x2 (.seq (.goto 3) (.seq (.label 1) (.seq x1 (.seq (.label 3) x3))))))) := by
 simp only [a2, r33, r34, r36, r76, els, rEl, r0, r37, r38, x1, x2, x3, sq1, sq2, sq3, sqB, sq0, sqA, Tryz.f88, tl, hd1, thn, unbk, unlp, unsc, findLabel, Nat.reduceBEq, Bool.false_eq_true, ↓reduceIte, Option.getD_some, beq_self_eq_true]
theorem sq3_eq : sq3 = .seq .skip x3 := by
 simp only [a2, r33, r34, r36, r76, els, rEl, r0, r37, r38, x1, x2, x3, sq1, sq2, sq3, sqB, sq0, sqA, Tryz.f88, tl, hd1, thn, unbk, unlp, unsc, findLabel, Nat.reduceBEq, Bool.false_eq_true, ↓reduceIte, Option.getD_some, beq_self_eq_true]
theorem sq1_eq : sq1 = .seq .skip (.seq x1 (.seq (.label 3) x3)) := by
 simp only [a2, r33, r34, r36, r76, els, rEl, r0, r37, r38, x1, x2, x3, sq1, sq2, sq3, sqB, sq0, sqA, Tryz.f88, tl, hd1, thn, unbk, unlp, unsc, findLabel, Nat.reduceBEq, Bool.false_eq_true, ↓reduceIte, Option.getD_some, beq_self_eq_true]
theorem sq2_eq : sq2 = .seq .skip (.seq x2 (.seq (.goto 3) (.seq (.label 1) (.seq x1 (.seq (.label 3) x3))))) := by
 simp only [a2, r33, r34, r36, r76, els, rEl, r0, r37, r38, x1, x2, x3, sq1, sq2, sq3, sqB, sq0, sqA, Tryz.f88, tl, hd1, thn, unbk, unlp, unsc, findLabel, Nat.reduceBEq, Bool.false_eq_true, ↓reduceIte, Option.getD_some, beq_self_eq_true]
def SqF (s : ByteArray) (i p d c z m t : Value) (a : Act) : Prop := ∃ l : List Value, a = ⟨l.toArray, []⟩ ∧ l.length = 230 ∧ l[0]? = some (.string s) ∧ l[1]? = some i ∧ l[6]? = some p ∧ l[7]? = some d ∧ l[8]? = some c ∧ l[10]? = some z ∧ l[12]? = some m ∧ l[13]? = some t
theorem list_open : ∀ (n : Nat) (l : List Value), l.length = n → l = (List.range n).map (fun k => l.getD k undef) := by
 intro n l h
 apply List.ext_getElem
 ·simp [h]
 ·intro i h1 h2
  simp [List.getD_eq_getElem?_getD, List.getElem?_eq_getElem h1]
theorem SqF.open {s : ByteArray} {i p d c z m t : Value} {a : Act} (h : SqF s i p d c z m t a) : ∃ f : Nat → Value, a = ⟨List.toArray [.string s, i, f 2, f 3, f 4, f 5, p, d, c, f 9, z, f 11, m, t, f 14, f 15, f 16, f 17, f 18, f 19, f 20, f 21, f 22, f 23, f 24, f 25, f 26, f 27, f 28, f 29, f 30, f 31, f 32, f 33, f 34, f 35, f 36, f 37, f 38, f 39, f 40, f 41, f 42, f 43, f 44, f 45, f 46, f 47, f 48, f 49, f 50, f 51, f 52, f 53, f 54, f 55, f 56, f 57, f 58, f 59, f 60, f 61, f 62, f 63, f 64, f 65, f 66, f 67, f 68, f 69, f 70, f 71, f 72, f 73, f 74, f 75, f 76, f 77, f 78, f 79, f 80, f 81, f 82, f 83, f 84, f 85, f 86, f 87, f 88, f 89, f 90, f 91, f 92, f 93, f 94, f 95, f 96, f 97, f 98, f 99, f 100, f 101, f 102, f 103, f 104, f 105, f 106, f 107, f 108, f 109, f 110, f 111, f 112, f 113, f 114, f 115, f 116, f 117, f 118, f 119, f 120, f 121, f 122, f 123, f 124, f 125, f 126, f 127, f 128, f 129, f 130, f 131, f 132, f 133, f 134, f 135, f 136, f 137, f 138, f 139, f 140, f 141, f 142, f 143, f 144, f 145, f 146, f 147, f 148, f 149, f 150, f 151, f 152, f 153, f 154, f 155, f 156, f 157, f 158, f 159, f 160, f 161, f 162, f 163, f 164, f 165, f 166, f 167, f 168, f 169, f 170, f 171, f 172, f 173, f 174, f 175, f 176, f 177, f 178, f 179, f 180, f 181, f 182, f 183, f 184, f 185, f 186, f 187, f 188, f 189, f 190, f 191, f 192, f 193, f 194, f 195, f 196, f 197, f 198, f 199, f 200, f 201, f 202, f 203, f 204, f 205, f 206, f 207, f 208, f 209, f 210, f 211, f 212, f 213, f 214, f 215, f 216, f 217, f 218, f 219, f 220, f 221, f 222, f 223, f 224, f 225, f 226, f 227, f 228, f 229], []⟩ := by
 obtain ⟨l, rfl, hl, h0, h1, h6, h7, h8, h10, h12, h13⟩ := h
 have e := list_open 230 l hl
 have g : ∀ {k : Nat} {v : Value}, l[k]? = some v → v = l.getD k undef := fun h => by rw [List.getD_eq_getElem?_getD, h]; rfl
 refine ⟨fun k => l.getD k undef, ?_⟩
 rw [g h0, g h1, g h6, g h7, g h8, g h10, g h12, g h13]
 exact congrArg (fun x => (⟨List.toArray x, []⟩ : Act)) e
theorem x3_wp (s : ByteArray) (hz : s.size ≤ 274877906944) (a j : Int) (h0 : 0 ≤ a) (hj : j < s.size) (hQ : Quo s a j (a + 1)) (p d c : Value) (w : World) (Q : Exit → Act → World → Prop) (x : Int) (hx : a + 1 ≤ x) (hxj : x ≤ j) (h34 : bt s j = 34)
  (hN : ∀ b m t, SqF s (.int .i64 j) p d c (.int .i64 (a + 1)) m t b → Q .normal b w) (hG : ∀ b y m t, x < y → y ≤ j → SqF s (.int .i64 y) p d c (.int .i64 (a + 1)) m t b → Q (.goto 2) b w) : ∀ b m t, SqF s (.int .i64 x) p d c (.int .i64 (a + 1)) m t b → x3.wp Tryz.prog Q b w := by
 intro b m t hb
 obtain ⟨f, rfl⟩ := hb.open
 clear hb
 have HN := Aside0.mk hN
 have HG := Aside0.mk hG
 have HQ := Aside0.mk (And.intro hQ h34)
 clear hN hG hQ h34
 simp only [x3, sq1, sq2, sq3, sqB, sq0, sqA, Tryz.f88, tl, hd1, thn, unbk, unlp, unsc, findLabel, Nat.reduceBEq, Bool.false_eq_true, ↓reduceIte, Option.getD_some, beq_self_eq_true]
 go_wp2_with fail
 refine wp_loop_ghost_k (fun kq a' w' => ∃ (y : Int) (m t : Value), (x ≤ y ∧ y ≤ j) ∧ (kq : Int) + y = j ∧ w = w' ∧ SqF s (.int .i64 y) p d c (.int .i64 (a + 1)) m t a') (j - x).toNat ?_ ?_
 ·exact ⟨x, _, _, by omega, by omega, rfl, (by refine ⟨_, rfl, ?_⟩; exact ⟨rfl, rfl, rfl, rfl, rfl, rfl, rfl, rfl, rfl⟩)⟩
 intro gk b' w' hI J K hJ hK
 obtain ⟨y, m, t, hy, hk, rfl, hF⟩ := hI
 obtain ⟨f, rfl⟩ := hF.open
 clear hF
 have HJ := Aside0.mk hJ
 have HK := Aside0.mk hK
 clear hJ hK
 have hy0 : 0 ≤ y := by omega
 by_cases c34 : bt s y = 34
 rotate_left
 ·obtain ⟨q, hq⟩ : ∃ q, q = bt s y := ⟨_, rfl⟩
  have hb : ∀ h : y.toNat < s.size, ((s[y.toNat]'h).toNat : Int) = q := fun h => by rw [hq]; exact bt_at s y h
  have q34 : (q != 34) = true := bne_iff_ne.mpr (by rw [hq]; exact c34)
  have hyj : y < j := by
   by_cases e : y = j
   ·exact absurd (by rw [e]; exact HQ.out.2) c34
   ·omega
  clear hq c34
  by_cases q92 : 92 < q
  rotate_left
  ·have x1 : decide (92 < q) = false := decide_eq_false q92
   go_wp2_with fail
   apply HK.out; refine Handed.intro (gk - 1) (by omega) (HJ.out _ _ _ ⟨y + 1, m, t, by omega, by omega, rfl, ?_⟩); refine ⟨_, rfl, ?_⟩; exact ⟨rfl, rfl, rfl, rfl, rfl, rfl, rfl, rfl, rfl⟩
  have x1 : decide (92 < q) = true := decide_eq_true q92
  go_wp2_with fail
  apply HK.out; refine Handed.intro (gk - 1) (by omega) (HJ.out _ _ _ ⟨y + 1, m, t, by omega, by omega, rfl, ?_⟩); refine ⟨_, rfl, ?_⟩; exact ⟨rfl, rfl, rfl, rfl, rfl, rfl, rfl, rfl, rfl⟩
 obtain ⟨n, hR, hE⟩ := HQ.out.1 y (by omega) hy.2 c34
 have HR := Aside0.mk hR
 have hb : ∀ h : y.toNat < s.size, ((s[y.toNat]'h).toNat : Int) = 34 := fun h => by rw [← c34]; exact bt_at s y h
 by_cases n0 : n = 0
 ·obtain rfl : y = j := hE.1 (by omega)
  obtain ⟨q, hq⟩ : ∃ q, q = bt s (y - 1) := ⟨_, rfl⟩
  have hb1 : ∀ h : (y - 1).toNat < s.size, ((s[(y - 1).toNat]'h).toNat : Int) = q := fun h => by rw [hq]; exact bt_at s (y - 1) h
  have q92 : (q == 92) = false := beq_eq_false_iff_ne.mpr (by
   have := HR.out.2.2.2
   rw [n0, show y - 0 - 1 = y - 1 by omega] at this
   rw [hq]; exact this)
  have hb3 : ∀ h : y.toNat - 1 < s.size, ((s[y.toNat - 1]'h).toNat : Int) = q := fun h => by rw [hq]; exact bt_nat s (y - 1) _ (by omega) h
  clear hq c34 hR hE
  go_wp2_with fail
  apply HN.out; refine ⟨_, rfl, ?_⟩; exact ⟨rfl, rfl, rfl, rfl, rfl, rfl, rfl, rfl, rfl⟩
 have hR92 : bt s (y - 1) = 92 := HR.out.2.2.1 _ (by have := HR.out.1; omega) (by omega)
 have hn1 : 1 ≤ n ∧ n < y - a := ⟨by have := HR.out.1; omega, by have := HR.out.2.1; omega⟩
 have hb1 : ∀ h : (y - 1).toNat < s.size, ((s[(y - 1).toNat]'h).toNat : Int) = 92 := fun h => by rw [← hR92]; exact bt_at s (y - 1) h
 have hb3 : ∀ h : y.toNat - 1 < s.size, ((s[y.toNat - 1]'h).toNat : Int) = 92 := fun h => by rw [← hR92]; exact bt_nat s (y - 1) _ (by omega) h
 have HE := Aside0.mk hE
 clear hR92 hR hE c34
 go_wp2_with fail
 refine wp_loop_ghost_k (fun kq a' w' => ∃ (m : Int), (0 ≤ m ∧ m ≤ n - 1) ∧ (kq : Int) + m = n - 1 ∧ w = w' ∧ SqF s (.int .i64 y) p d c (.int .i64 (a + 1)) (.int .i64 m) (.int .i64 (y - 2 - m)) a') (n - 1).toNat ?_ ?_
 ·exact ⟨0, by omega, by omega, rfl, by rw [show y - 2 - 0 = y - 2 by omega]; refine ⟨_, rfl, ?_⟩; exact ⟨rfl, rfl, rfl, rfl, rfl, rfl, rfl, rfl, rfl⟩⟩
 intro gk2 b2 w2 hI2 J2 K2 hJ2 hK2
 obtain ⟨m, hm, hkm, rfl, hF⟩ := hI2
 obtain ⟨f, rfl⟩ := hF.open
 clear hF
 have HJ2 := Aside0.mk hJ2
 have HK2 := Aside0.mk hK2
 clear hJ2 hK2
 obtain ⟨q, hq⟩ : ∃ q, q = bt s (y - 2 - m) := ⟨_, rfl⟩
 have hb2 : ∀ h : (y - 2 - m).toNat < s.size, ((s[(y - 2 - m).toNat]'h).toNat : Int) = q := fun h => by rw [hq]; exact bt_at s (y - 2 - m) h
 by_cases em : m < n - 1
 ·have q92 : (q != 92) = false := bne_eq_false_iff_eq.mpr (by rw [hq]; exact HR.out.2.2.1 _ (by omega) (by omega))
  clear hq
  go_wp2_with fail
  refine HK2.out _ _ (Handed.intro (gk2 - 1) (by omega) (HJ2.out _ _ _ ⟨m + 1, by omega, by omega, rfl, ?_⟩)); rw [show y - 2 - (m + 1) = y - 2 - m - 1 by omega]; refine ⟨_, rfl, ?_⟩; exact ⟨rfl, rfl, rfl, rfl, rfl, rfl, rfl, rfl, rfl⟩
 obtain rfl : m = n - 1 := by omega
 have HX := Aside0.mk (show y - 2 - (n - 1) > a → q ≠ 92 from fun _ => by
  have := HR.out.2.2.2
  rw [show y - n - 1 = y - 2 - (n - 1) by omega] at this
  rw [hq]; exact this)
 clear hq
 by_cases pa : n % 2 = 0
 ·obtain rfl : y = j := HE.out.1 pa
  have tm : ((n - 1) % 2 == 0) = false := beq_eq_false_iff_ne.mpr (by omega)
  clear pa
  by_cases eb : y - 2 - (n - 1) > a
  rotate_left
  ·go_wp2_with fail
   apply HN.out; refine ⟨_, rfl, ?_⟩; exact ⟨rfl, rfl, rfl, rfl, rfl, rfl, rfl, rfl, rfl⟩
  have q92 : (q != 92) = true := bne_iff_ne.mpr (HX.out eb)
  go_wp2_with fail
  apply HN.out; refine ⟨_, rfl, ?_⟩; exact ⟨rfl, rfl, rfl, rfl, rfl, rfl, rfl, rfl, rfl⟩
 have hyj : y < j := by
  have := HE.out
  omega
 have tm : ((n - 1) % 2 == 0) = true := beq_iff_eq.mpr (by omega)
 clear pa
 by_cases eb : y - 2 - (n - 1) > a
 rotate_left
 ·go_wp2_with fail
  refine wp_goto ?_; change Q (.goto 2) _ _; refine HG.out _ (y + 1) (.int .i64 (n - 1)) (.int .i64 (y - 2 - (n - 1))) (by omega) (by omega) ?_; refine ⟨_, rfl, ?_⟩; exact ⟨rfl, rfl, rfl, rfl, rfl, rfl, rfl, rfl, rfl⟩
 have q92 : (q != 92) = true := bne_iff_ne.mpr (HX.out eb)
 go_wp2_with fail
 refine wp_goto ?_; change Q (.goto 2) _ _; refine HG.out _ (y + 1) (.int .i64 (n - 1)) (.int .i64 (y - 2 - (n - 1))) (by omega) (by omega) ?_; refine ⟨_, rfl, ?_⟩; exact ⟨rfl, rfl, rfl, rfl, rfl, rfl, rfl, rfl, rfl⟩
theorem x1_wp (s : ByteArray) (hz : s.size ≤ 274877906944) (a j : Int) (h0 : 0 ≤ a) (hj : j < s.size) (hQ : Quo s a j (a + 1)) (p d c : Value) (w : World) (Q : Exit → Act → World → Prop) (x : Int) (hx : a + 1 ≤ x) (hxj : x ≤ j) (h34 : bt s x = 34)
  (hN : ∀ b m t, SqF s (.int .i64 x) p d c (.int .i64 (a + 1)) m t b → Q .normal b w) (hX : ∀ b m t, SqF s (.int .i64 (j + 1)) p d c (.int .i64 (a + 1)) m t b → Q (.exit 1) b w) : ∀ b m t, SqF s (.int .i64 x) p d c (.int .i64 (a + 1)) m t b → x1.wp Tryz.prog Q b w := by
 intro b m t hb
 obtain ⟨f, rfl⟩ := hb.open
 clear hb
 have HN := Aside0.mk hN
 have HX := Aside0.mk hX
 clear hN hX
 obtain ⟨n, hR, hE⟩ := hQ x hx hxj h34
 obtain ⟨r1, r2, r3, r4⟩ := hR
 have HE := Aside0.mk hE
 clear hQ hE h34
 obtain ⟨q, hq⟩ : ∃ q, q = bt s (x - 1) := ⟨_, rfl⟩
 have hb1 : ∀ h : (x - 1).toNat < s.size, ((s[(x - 1).toNat]'h).toNat : Int) = q := fun h => by rw [hq]; exact bt_at s (x - 1) h
 have hb3 : ∀ h : x.toNat - 1 < s.size, ((s[x.toNat - 1]'h).toNat : Int) = q := fun h => by rw [hq]; exact bt_nat s (x - 1) _ (by omega) h
 by_cases n0 : n = 0
 rotate_left
 ·have q92 : (q != 92) = false := bne_eq_false_iff_eq.mpr (by rw [hq]; exact r3 _ (by omega) (by omega))
  clear hq r3 r4
  simp only [x1, sq1, sq2, sq3, sqB, sq0, sqA, Tryz.f88, tl, hd1, thn, unbk, unlp, unsc, findLabel, Nat.reduceBEq, Bool.false_eq_true, ↓reduceIte, Option.getD_some, beq_self_eq_true]
  go_wp2_with fail
  apply HN.out; refine ⟨_, rfl, ?_⟩; exact ⟨rfl, rfl, rfl, rfl, rfl, rfl, rfl, rfl, rfl⟩
 obtain rfl : x = j := HE.out.1 (by omega)
 have q92 : (q != 92) = true := bne_iff_ne.mpr (by rw [n0, show x - 0 - 1 = x - 1 by omega] at r4; rw [hq]; exact r4)
 clear hq r3 r4
 simp only [x1, sq1, sq2, sq3, sqB, sq0, sqA, Tryz.f88, tl, hd1, thn, unbk, unlp, unsc, findLabel, Nat.reduceBEq, Bool.false_eq_true, ↓reduceIte, Option.getD_some, beq_self_eq_true]
 go_wp2_with fail
 apply HX.out; refine ⟨_, rfl, ?_⟩; exact ⟨rfl, rfl, rfl, rfl, rfl, rfl, rfl, rfl, rfl⟩
set_option maxHeartbeats 8000000
set_option maxRecDepth 8192
theorem x2_wp (s : ByteArray) (hz : s.size ≤ 274877906944) (a j : Int) (h0 : 0 ≤ a) (hj : j < s.size) (hj34 : bt s j = 34) (p d c : Value) (w : World) (Q : Exit → Act → World → Prop) (x : Int) (hx : a + 1 ≤ x) (hxj : x ≤ j)
  (hN : ∀ b y m t, x ≤ y → y ≤ j → SqF s (.int .i64 y) p d c (.int .i64 (a + 1)) m t b → Q .normal b w) (hG : ∀ b y m t, x ≤ y → y ≤ j → bt s y = 34 → SqF s (.int .i64 y) p d c (.int .i64 (a + 1)) m t b → Q (.goto 1) b w) : ∀ b m t, SqF s (.int .i64 x) p d c (.int .i64 (a + 1)) m t b → x2.wp Tryz.prog Q b w := by
 intro b m t hb
 obtain ⟨f, rfl⟩ := hb.open
 clear hb
 have HN := Aside0.mk hN
 have HG := Aside0.mk hG
 have H34 := Aside0.mk hj34
 clear hN hG hj34
 simp only [x2, sq1, sq2, sq3, sqB, sq0, sqA, Tryz.f88, tl, hd1, thn, unbk, unlp, unsc, findLabel, Nat.reduceBEq, Bool.false_eq_true, ↓reduceIte, Option.getD_some, beq_self_eq_true]
 go_wp2_with fail
 refine wp_loop_ghost_k (fun kq a' w' => ∃ (y : Int) (m t : Value), (x ≤ y ∧ y ≤ j) ∧ (kq : Int) + y = j ∧ w = w' ∧ SqF s (.int .i64 y) p d c (.int .i64 (a + 1)) m t a') (j - x).toNat ?_ ?_
 ·exact ⟨x, _, _, by omega, by omega, rfl, (by refine ⟨_, rfl, ?_⟩; exact ⟨rfl, rfl, rfl, rfl, rfl, rfl, rfl, rfl, rfl⟩)⟩
 intro gk b' w' hI J K hJ hK
 obtain ⟨y, m, t, hy, hk, rfl, hF⟩ := hI
 obtain ⟨f, rfl⟩ := hF.open
 clear hF
 have HJ := Aside0.mk hJ
 have HK := Aside0.mk hK
 clear hJ hK
 have hy0 : 0 ≤ y := by omega
 by_cases e8 : y < s.size - 8
 rotate_left
 ·go_wp2_with fail
  refine HN.out _ y m t (by omega) (by omega) ?_; refine ⟨_, rfl, ?_⟩; exact ⟨rfl, rfl, rfl, rfl, rfl, rfl, rfl, rfl, rfl⟩
 have hle : y + 8 ≤ s.size := by omega
 have n0 : bt s (y + 0) ≠ 34 → j ≠ y + 0 := fun h e => h (e ▸ H34.out)
 obtain ⟨z0, hz0⟩ : ∃ z, z = bt s (y + 0) := ⟨_, rfl⟩
 have hb0 : ∀ h : 0 < (s.extract y.toNat (y + 8).toNat).size, (((s.extract y.toNat (y + 8).toNat)[0]'h).toNat : Int) = z0 := fun h => by rw [hz0]; exact bt_ex s y 0 hy0 (by omega) (by omega) h
 rw [← hz0] at n0
 have n1 : bt s (y + 1) ≠ 34 → j ≠ y + 1 := fun h e => h (e ▸ H34.out)
 obtain ⟨z1, hz1⟩ : ∃ z, z = bt s (y + 1) := ⟨_, rfl⟩
 have hb1 : ∀ h : 1 < (s.extract y.toNat (y + 8).toNat).size, (((s.extract y.toNat (y + 8).toNat)[1]'h).toNat : Int) = z1 := fun h => by rw [hz1]; exact bt_ex s y 1 hy0 (by omega) (by omega) h
 rw [← hz1] at n1
 have n2 : bt s (y + 2) ≠ 34 → j ≠ y + 2 := fun h e => h (e ▸ H34.out)
 obtain ⟨z2, hz2⟩ : ∃ z, z = bt s (y + 2) := ⟨_, rfl⟩
 have hb2 : ∀ h : 2 < (s.extract y.toNat (y + 8).toNat).size, (((s.extract y.toNat (y + 8).toNat)[2]'h).toNat : Int) = z2 := fun h => by rw [hz2]; exact bt_ex s y 2 hy0 (by omega) (by omega) h
 rw [← hz2] at n2
 have n3 : bt s (y + 3) ≠ 34 → j ≠ y + 3 := fun h e => h (e ▸ H34.out)
 obtain ⟨z3, hz3⟩ : ∃ z, z = bt s (y + 3) := ⟨_, rfl⟩
 have hb3 : ∀ h : 3 < (s.extract y.toNat (y + 8).toNat).size, (((s.extract y.toNat (y + 8).toNat)[3]'h).toNat : Int) = z3 := fun h => by rw [hz3]; exact bt_ex s y 3 hy0 (by omega) (by omega) h
 rw [← hz3] at n3
 have n4 : bt s (y + 4) ≠ 34 → j ≠ y + 4 := fun h e => h (e ▸ H34.out)
 obtain ⟨z4, hz4⟩ : ∃ z, z = bt s (y + 4) := ⟨_, rfl⟩
 have hb4 : ∀ h : 4 < (s.extract y.toNat (y + 8).toNat).size, (((s.extract y.toNat (y + 8).toNat)[4]'h).toNat : Int) = z4 := fun h => by rw [hz4]; exact bt_ex s y 4 hy0 (by omega) (by omega) h
 rw [← hz4] at n4
 have n5 : bt s (y + 5) ≠ 34 → j ≠ y + 5 := fun h e => h (e ▸ H34.out)
 obtain ⟨z5, hz5⟩ : ∃ z, z = bt s (y + 5) := ⟨_, rfl⟩
 have hb5 : ∀ h : 5 < (s.extract y.toNat (y + 8).toNat).size, (((s.extract y.toNat (y + 8).toNat)[5]'h).toNat : Int) = z5 := fun h => by rw [hz5]; exact bt_ex s y 5 hy0 (by omega) (by omega) h
 rw [← hz5] at n5
 have n6 : bt s (y + 6) ≠ 34 → j ≠ y + 6 := fun h e => h (e ▸ H34.out)
 obtain ⟨z6, hz6⟩ : ∃ z, z = bt s (y + 6) := ⟨_, rfl⟩
 have hb6 : ∀ h : 6 < (s.extract y.toNat (y + 8).toNat).size, (((s.extract y.toNat (y + 8).toNat)[6]'h).toNat : Int) = z6 := fun h => by rw [hz6]; exact bt_ex s y 6 hy0 (by omega) (by omega) h
 rw [← hz6] at n6
 have n7 : bt s (y + 7) ≠ 34 → j ≠ y + 7 := fun h e => h (e ▸ H34.out)
 obtain ⟨z7, hz7⟩ : ∃ z, z = bt s (y + 7) := ⟨_, rfl⟩
 have hb7 : ∀ h : 7 < (s.extract y.toNat (y + 8).toNat).size, (((s.extract y.toNat (y + 8).toNat)[7]'h).toNat : Int) = z7 := fun h => by rw [hz7]; exact bt_ex s y 7 hy0 (by omega) (by omega) h
 rw [← hz7] at n7
 have HZ := Aside0.mk (And.intro hz0 (And.intro hz1 (And.intro hz2 (And.intro hz3 (And.intro hz4 (And.intro hz5 (And.intro hz6 hz7)))))))
 clear hz0 hz1 hz2 hz3 hz4 hz5 hz6 hz7
 have HNE := Aside0.mk (And.intro n0 (And.intro n1 (And.intro n2 (And.intro n3 (And.intro n4 (And.intro n5 (And.intro n6 n7)))))))
 clear n0 n1 n2 n3 n4 n5 n6 n7
 by_cases c0 : z0 = 34
 ·have q0 : (z0 == 34) = true := beq_iff_eq.mpr c0
  have hjk : y + 0 ≤ j := by
   obtain ⟨n0, n1, n2, n3, n4, n5, n6, n7⟩ := HNE.out
   omega
  have hzk := HZ.out.1
  rw [c0] at hzk
  have HZK := Aside0.mk hzk
  clear hzk c0
  go_wp2_with fail
  refine wp_goto ?_; change Q (.goto 1) _ _
  refine HG.out _ (y + 0) m t (by omega) hjk HZK.out.symm ?_; rw [Int.add_zero]; refine ⟨_, rfl, ?_⟩; exact ⟨rfl, rfl, rfl, rfl, rfl, rfl, rfl, rfl, rfl⟩
 have q0 : (z0 == 34) = false := beq_eq_false_iff_ne.mpr c0
 by_cases c1 : z1 = 34
 ·have q1 : (z1 == 34) = true := beq_iff_eq.mpr c1
  have hjk : y + 1 ≤ j := by
   obtain ⟨n0, n1, n2, n3, n4, n5, n6, n7⟩ := HNE.out
   have := n0 c0
   omega
  have hzk := HZ.out.2.1
  rw [c1] at hzk
  have HZK := Aside0.mk hzk
  clear hzk c0 c1
  go_wp2_with fail
  refine wp_goto ?_; change Q (.goto 1) _ _
  refine HG.out _ (y + 1) m t (by omega) hjk HZK.out.symm ?_; refine ⟨_, rfl, ?_⟩; exact ⟨rfl, rfl, rfl, rfl, rfl, rfl, rfl, rfl, rfl⟩
 have q1 : (z1 == 34) = false := beq_eq_false_iff_ne.mpr c1
 by_cases c2 : z2 = 34
 ·have q2 : (z2 == 34) = true := beq_iff_eq.mpr c2
  have hjk : y + 2 ≤ j := by
   obtain ⟨n0, n1, n2, n3, n4, n5, n6, n7⟩ := HNE.out
   have := n0 c0
   have := n1 c1
   omega
  have hzk := HZ.out.2.2.1
  rw [c2] at hzk
  have HZK := Aside0.mk hzk
  clear hzk c0 c1 c2
  go_wp2_with fail
  refine wp_goto ?_; change Q (.goto 1) _ _
  refine HG.out _ (y + 2) m t (by omega) hjk HZK.out.symm ?_; refine ⟨_, rfl, ?_⟩; exact ⟨rfl, rfl, rfl, rfl, rfl, rfl, rfl, rfl, rfl⟩
 have q2 : (z2 == 34) = false := beq_eq_false_iff_ne.mpr c2
 by_cases c3 : z3 = 34
 ·have q3 : (z3 == 34) = true := beq_iff_eq.mpr c3
  have hjk : y + 3 ≤ j := by
   obtain ⟨n0, n1, n2, n3, n4, n5, n6, n7⟩ := HNE.out
   have := n0 c0
   have := n1 c1
   have := n2 c2
   omega
  have hzk := HZ.out.2.2.2.1
  rw [c3] at hzk
  have HZK := Aside0.mk hzk
  clear hzk c0 c1 c2 c3
  go_wp2_with fail
  refine wp_goto ?_; change Q (.goto 1) _ _
  refine HG.out _ (y + 3) m t (by omega) hjk HZK.out.symm ?_; refine ⟨_, rfl, ?_⟩; exact ⟨rfl, rfl, rfl, rfl, rfl, rfl, rfl, rfl, rfl⟩
 have q3 : (z3 == 34) = false := beq_eq_false_iff_ne.mpr c3
 by_cases c4 : z4 = 34
 ·have q4 : (z4 == 34) = true := beq_iff_eq.mpr c4
  have hjk : y + 4 ≤ j := by
   obtain ⟨n0, n1, n2, n3, n4, n5, n6, n7⟩ := HNE.out
   have := n0 c0
   have := n1 c1
   have := n2 c2
   have := n3 c3
   omega
  have hzk := HZ.out.2.2.2.2.1
  rw [c4] at hzk
  have HZK := Aside0.mk hzk
  clear hzk c0 c1 c2 c3 c4
  go_wp2_with fail
  refine wp_goto ?_; change Q (.goto 1) _ _
  refine HG.out _ (y + 4) m t (by omega) hjk HZK.out.symm ?_; refine ⟨_, rfl, ?_⟩; exact ⟨rfl, rfl, rfl, rfl, rfl, rfl, rfl, rfl, rfl⟩
 have q4 : (z4 == 34) = false := beq_eq_false_iff_ne.mpr c4
 by_cases c5 : z5 = 34
 ·have q5 : (z5 == 34) = true := beq_iff_eq.mpr c5
  have hjk : y + 5 ≤ j := by
   obtain ⟨n0, n1, n2, n3, n4, n5, n6, n7⟩ := HNE.out
   have := n0 c0
   have := n1 c1
   have := n2 c2
   have := n3 c3
   have := n4 c4
   omega
  have hzk := HZ.out.2.2.2.2.2.1
  rw [c5] at hzk
  have HZK := Aside0.mk hzk
  clear hzk c0 c1 c2 c3 c4 c5
  go_wp2_with fail
  refine wp_goto ?_; change Q (.goto 1) _ _
  refine HG.out _ (y + 5) m t (by omega) hjk HZK.out.symm ?_; refine ⟨_, rfl, ?_⟩; exact ⟨rfl, rfl, rfl, rfl, rfl, rfl, rfl, rfl, rfl⟩
 have q5 : (z5 == 34) = false := beq_eq_false_iff_ne.mpr c5
 by_cases c6 : z6 = 34
 ·have q6 : (z6 == 34) = true := beq_iff_eq.mpr c6
  have hjk : y + 6 ≤ j := by
   obtain ⟨n0, n1, n2, n3, n4, n5, n6, n7⟩ := HNE.out
   have := n0 c0
   have := n1 c1
   have := n2 c2
   have := n3 c3
   have := n4 c4
   have := n5 c5
   omega
  have hzk := HZ.out.2.2.2.2.2.2.1
  rw [c6] at hzk
  have HZK := Aside0.mk hzk
  clear hzk c0 c1 c2 c3 c4 c5 c6
  go_wp2_with fail
  refine wp_goto ?_; change Q (.goto 1) _ _
  refine HG.out _ (y + 6) m t (by omega) hjk HZK.out.symm ?_; refine ⟨_, rfl, ?_⟩; exact ⟨rfl, rfl, rfl, rfl, rfl, rfl, rfl, rfl, rfl⟩
 have q6 : (z6 == 34) = false := beq_eq_false_iff_ne.mpr c6
 by_cases c7 : z7 = 34
 ·have q7 : (z7 == 34) = true := beq_iff_eq.mpr c7
  have hjk : y + 7 ≤ j := by
   obtain ⟨n0, n1, n2, n3, n4, n5, n6, n7⟩ := HNE.out
   have := n0 c0
   have := n1 c1
   have := n2 c2
   have := n3 c3
   have := n4 c4
   have := n5 c5
   have := n6 c6
   omega
  have hzk := HZ.out.2.2.2.2.2.2.2
  rw [c7] at hzk
  have HZK := Aside0.mk hzk
  clear hzk c0 c1 c2 c3 c4 c5 c6 c7
  go_wp2_with fail
  refine wp_goto ?_; change Q (.goto 1) _ _
  refine HG.out _ (y + 7) m t (by omega) hjk HZK.out.symm ?_; refine ⟨_, rfl, ?_⟩; exact ⟨rfl, rfl, rfl, rfl, rfl, rfl, rfl, rfl, rfl⟩
 have q7 : (z7 == 34) = false := beq_eq_false_iff_ne.mpr c7
 have hjk : y + 8 ≤ j := by
  obtain ⟨n0, n1, n2, n3, n4, n5, n6, n7⟩ := HNE.out
  have := n0 c0
  have := n1 c1
  have := n2 c2
  have := n3 c3
  have := n4 c4
  have := n5 c5
  have := n6 c6
  have := n7 c7
  omega
 clear c0 c1 c2 c3 c4 c5 c6 c7
 go_wp2_with fail
 apply HK.out; refine Handed.intro (gk - 8) (by omega) (HJ.out _ _ _ ⟨y + 8, m, t, by omega, by omega, rfl, ?_⟩); refine ⟨_, rfl, ?_⟩; exact ⟨rfl, rfl, rfl, rfl, rfl, rfl, rfl, rfl, rfl⟩
theorem r37_wp (s : ByteArray) (hz : s.size ≤ 274877906944) (a : Int) (h0 : 0 ≤ a) (ha : a < s.size) (p d c z : Value) (w : World) (Q : Exit → Act → World → Prop)
  (hN : ∀ b m t, SqF s (.int .i64 (a + 1)) p d c z m t b → Q .normal b w) : ∀ b m t, SqF s (.int .i64 a) p d c z m t b → r37.wp Tryz.prog Q b w := by
 intro b m t hb
 obtain ⟨f, rfl⟩ := hb.open
 clear hb
 have HN := Aside0.mk hN
 clear hN
 simp only [r37, r38, sq1, sq2, sq3, sqB, sq0, sqA, Tryz.f88, tl, hd1, thn, unbk, unlp, unsc, findLabel, Nat.reduceBEq, Bool.false_eq_true, ↓reduceIte, Option.getD_some, beq_self_eq_true]
 go_wp2_with fail
 apply HN.out; refine ⟨_, rfl, ?_⟩; exact ⟨rfl, rfl, rfl, rfl, rfl, rfl, rfl, rfl, rfl⟩
theorem r38_wp (s : ByteArray) (hz : s.size ≤ 274877906944) (a : Int) (h0 : 0 ≤ a) (ha : a < s.size) (p d c z : Value) (w : World) (Q : Exit → Act → World → Prop)
  (hN : ∀ b m t, SqF s (.int .i64 (a + 1)) p d c (.int .i64 (a + 1)) m t b → Q .normal b w) : ∀ b m t, SqF s (.int .i64 (a + 1)) p d c z m t b → r38.wp Tryz.prog Q b w := by
 intro b m t hb
 obtain ⟨f, rfl⟩ := hb.open
 clear hb
 have HN := Aside0.mk hN
 clear hN
 simp only [r37, r38, sq1, sq2, sq3, sqB, sq0, sqA, Tryz.f88, tl, hd1, thn, unbk, unlp, unsc, findLabel, Nat.reduceBEq, Bool.false_eq_true, ↓reduceIte, Option.getD_some, beq_self_eq_true]
 go_wp2_with fail
 apply HN.out; refine ⟨_, rfl, ?_⟩; exact ⟨rfl, rfl, rfl, rfl, rfl, rfl, rfl, rfl, rfl⟩
theorem sqB_wp (s : ByteArray) (hz : s.size ≤ 274877906944) (a j : Int) (h0 : 0 ≤ a) (haj : a + 1 ≤ j) (hj : j < s.size) (hj34 : bt s j = 34) (hQ : Quo s a j (a + 1)) (p d c z : Value) (w : World) (Q : Exit → Act → World → Prop)
  (hN : ∀ b z m t, SqF s (.int .i64 j) p d c z m t b → Q .normal b w) (hX : ∀ b z m t, SqF s (.int .i64 (j + 1)) p d c z m t b → Q (.exit 1) b w) : ∀ b m t, SqF s (.int .i64 a) p d c z m t b → (Code.scope sqB).wp Tryz.prog Q b w := by
 intro b m t hb
 let J : Nat → Nat → Act → World → Prop := fun n l b w' => w = w' ∧ ∃ (y : Int) (m t : Value), (a + 1 ≤ y ∧ y ≤ j) ∧ SqF s (.int .i64 y) p d c (.int .i64 (a + 1)) m t b ∧ ((l = 1 ∧ bt s y = 34 ∧ (n : Int) = 3 * (j - y) + 1) ∨ (l = 2 ∧ (n : Int) = 3 * (j - y) + 2) ∨ (l = 3 ∧ (n : Int) = 3 * (j - y)))
 have key2 : ∀ (n : Nat) (y : Int), a + 1 ≤ y → y ≤ j → 3 * (j - y) + 1 < n → ∀ b m t, SqF s (.int .i64 y) p d c (.int .i64 (a + 1)) m t b → ∀ Z, (Code.seq x2 (.seq (.goto 3) Z)).wp Tryz.prog (jmpQ (fun l' a' w' => ∃ m', m' < n ∧ J m' l' a' w') Q) b w := by
  intro n y h1 h2 h3 b m t hb Z
  refine wp_seq_k (fun K hK => x2_wp s hz a j h0 hj hj34 p d c w _ y h1 h2 (fun b y' m t q1 q2 hF => hK _ _ (wp_seq (wp_goto ?_))) (fun b y' m t q1 q2 q3 hF => ?_) b m t hb)
  ·exact ⟨(3 * (j - y')).toNat, by omega, rfl, y', m, t, ⟨by omega, q2⟩, hF, .inr (.inr ⟨rfl, by omega⟩)⟩
  ·exact ⟨(3 * (j - y') + 1).toNat, by omega, rfl, y', m, t, ⟨by omega, q2⟩, hF, .inl ⟨rfl, q3, by omega⟩⟩
 have key3 : ∀ (n : Nat) (y : Int), a + 1 ≤ y → y ≤ j → 3 * (j - y) ≤ n → ∀ b m t, SqF s (.int .i64 y) p d c (.int .i64 (a + 1)) m t b → x3.wp Tryz.prog (jmpQ (fun l' a' w' => ∃ m', m' < n ∧ J m' l' a' w') Q) b w := by
  intro n y h1 h2 h3 b m t hb
  refine x3_wp s hz a j h0 hj hQ p d c w (jmpQ (fun l' a' w' => ∃ m', m' < n ∧ J m' l' a' w') Q) y h1 h2 hj34 (fun b m t hF => hN b _ m t hF) (fun b y' m t q1 q2 hF => ?_) b m t hb
  exact ⟨(3 * (j - y') + 2).toNat, by omega, rfl, y', m, t, ⟨by omega, q2⟩, hF, .inr (.inl ⟨rfl, by omega⟩)⟩
 refine wp_scope_ghost (fun l => if l = 1 then sq1 else if l = 2 then sq2 else sq3) J ?_ (3 * (j - a) + 3).toNat ?_ ?_
 ·rintro n l b' w' ⟨_, y, m, t, _, _, ⟨rfl, _⟩ | ⟨rfl, _⟩ | ⟨rfl, _⟩⟩
  ·exact sq_1
  ·exact sq_2
  ·exact sq_3
 ·rw [sqB_eq]
  refine wp_seq_k (fun K hK => r37_wp s hz a h0 (by omega) p d c z w _ (fun b m t hF => hK _ _ ?_) b m t hb)
  refine wp_seq_k (fun K hK => r38_wp s hz a h0 (by omega) p d c z w _ (fun b m t hF => hK _ _ ?_) b m t hF)
  exact wp_seq (wp_label (key2 _ (a + 1) (by omega) haj (by omega) b m t hF _))
 rintro n l b' w' ⟨rfl, y, m, t, ⟨h1, h2⟩, hF, ⟨rfl, h3, h4⟩ | ⟨rfl, h4⟩ | ⟨rfl, h4⟩⟩
 rotate_left
 ·show sq2.wp _ _ _ _
  rw [sq2_eq]
  exact wp_seq (wp_skip (key2 _ y h1 h2 (by omega) b' m t hF _))
 ·show sq3.wp _ _ _ _
  rw [sq3_eq]
  exact wp_seq (wp_skip (key3 _ y h1 h2 (by omega) b' m t hF))
 show sq1.wp _ _ _ _
 rw [sq1_eq]
 refine wp_seq (wp_skip (wp_seq_k (fun K hK => x1_wp s hz a j h0 hj hQ p d c w (Exit.then K (jmpQ (fun l' a' w' => ∃ m', m' < n ∧ J m' l' a' w') Q)) y h1 h2 h3 (fun b m t hF => hK _ _ (wp_seq (wp_label ?_))) (fun b m t hF => hX b _ m t hF) b' m t hF)))
 exact key3 _ y h1 h2 (by omega) b m t hF
set_option maxHeartbeats 8000000
set_option maxRecDepth 8192
def VT (w : World) : Prop := ∀ i : Nat, i < 256 → w.cell? ⟨0, i, none⟩ = some (.int .u8 (vch i))
theorem _root_.Go.Proofs.YtgiioglmkogpkaaGreatDoor.V.Rem.zero_inv {s : ByteArray} {E i d : Int} (h : Rem s E i d) (hv : vch (bt s i) = 0) : Rem s E (i + 1) d := by
 cases h with
 | zero _ _ h1 h2 => exact h2
 | str _ j _ h1 h2 => rw [h1.2.1] at hv; exact absurd hv (by decide)
 | opn _ _ h1 h2 => omega
 | cls _ _ h1 h2 h3 => omega
 | fin _ h1 h2 => omega
theorem a2_wp (s : ByteArray) (hz : s.size ≤ 274877906944) (E d x : Int) (hE : E ≤ s.size) (h0 : 0 ≤ x) (hR : Rem s E x d) (p dv z : Value) (w : World) (hV : VT w) (Q : Exit → Act → World → Prop)
  (hN : ∀ b y m t c, x ≤ y → Rem s E y d → SqF s (.int .i64 y) p dv c z m t b → Q .normal b w) (hG : ∀ b y m t v, v = vch (bt s y) → v ≠ 0 → x ≤ y → Rem s E y d → SqF s (.int .i64 y) p dv (.int .u8 v) z m t b → Q (.goto 0) b w) : ∀ b m t c, SqF s (.int .i64 x) p dv c z m t b → a2.wp Tryz.prog Q b w := by
 intro b m t c hb
 obtain ⟨f, rfl⟩ := hb.open
 clear hb
 have HN := Aside0.mk hN
 have HG := Aside0.mk hG
 have HV := Aside0.mk hV
 have hxE := hR.lt
 have HR := Aside0.mk hR
 clear hN hG hV hR
 simp only [a2, sq1, sq2, sq3, sqB, sq0, sqA, Tryz.f88, tl, hd1, thn, unbk, unlp, unsc, findLabel, Nat.reduceBEq, Bool.false_eq_true, ↓reduceIte, Option.getD_some, beq_self_eq_true]
 go_wp2_with fail
 refine wp_loop_ghost_k (fun kq a' w' => ∃ (y : Int) (m t c : Value), x ≤ y ∧ (kq : Int) + y = E ∧ Rem s E y d ∧ w = w' ∧ SqF s (.int .i64 y) p dv c z m t a') (E - x).toNat ?_ ?_
 ·exact ⟨x, _, _, _, by omega, by omega, HR.out, rfl, (by refine ⟨_, rfl, ?_⟩; exact ⟨rfl, rfl, rfl, rfl, rfl, rfl, rfl, rfl, rfl⟩)⟩
 intro gk b' w' hI J K hJ hK
 obtain ⟨y, m, t, c, hy, hk, hR, rfl, hF⟩ := hI
 obtain ⟨f, rfl⟩ := hF.open
 clear hF
 have HJ := Aside0.mk hJ
 have HK := Aside0.mk hK
 clear hJ hK HR
 have hlt := hR.lt
 have hy0 : 0 ≤ y := by omega
 have HR0 := Aside0.mk (show Rem s E (y + 0) d by rw [Int.add_zero]; exact hR)
 clear hR
 by_cases e8 : y < s.size - 8
 rotate_left
 ·go_wp2_with fail
  refine HN.out _ y m t c hy (by have := HR0.out; rwa [Int.add_zero] at this) ?_; refine ⟨_, rfl, ?_⟩; exact ⟨rfl, rfl, rfl, rfl, rfl, rfl, rfl, rfl, rfl⟩
 have hle : y + 8 ≤ s.size := by omega
 obtain ⟨z0, hz0⟩ : ∃ z, z = bt s (y + 0) := ⟨_, rfl⟩
 have hb0 : ∀ h : 0 < (s.extract y.toNat (y + 8).toNat).size, (((s.extract y.toNat (y + 8).toNat)[0]'h).toNat : Int) = z0 := fun h => by rw [hz0]; exact bt_ex s y 0 hy0 (by omega) (by omega) h
 have hr0 : 0 ≤ z0 ∧ z0 ≤ 255 := by rw [hz0]; exact bt_range s _
 obtain ⟨v0, hv0⟩ : ∃ v, v = vch z0 := ⟨_, rfl⟩
 have hc0 : w.cell? ⟨0, z0.toNat, none⟩ = some (.int .u8 v0) := by rw [hv0]; have := HV.out z0.toNat (by omega); rwa [show ((z0.toNat : Nat) : Int) = z0 by omega] at this
 have HZ0 := Aside0.mk (show v0 = vch (bt s (y + 0)) by rw [hv0, hz0])
 clear hz0 hv0
 obtain ⟨z1, hz1⟩ : ∃ z, z = bt s (y + 1) := ⟨_, rfl⟩
 have hb1 : ∀ h : 1 < (s.extract y.toNat (y + 8).toNat).size, (((s.extract y.toNat (y + 8).toNat)[1]'h).toNat : Int) = z1 := fun h => by rw [hz1]; exact bt_ex s y 1 hy0 (by omega) (by omega) h
 have hr1 : 0 ≤ z1 ∧ z1 ≤ 255 := by rw [hz1]; exact bt_range s _
 obtain ⟨v1, hv1⟩ : ∃ v, v = vch z1 := ⟨_, rfl⟩
 have hc1 : w.cell? ⟨0, z1.toNat, none⟩ = some (.int .u8 v1) := by rw [hv1]; have := HV.out z1.toNat (by omega); rwa [show ((z1.toNat : Nat) : Int) = z1 by omega] at this
 have HZ1 := Aside0.mk (show v1 = vch (bt s (y + 1)) by rw [hv1, hz1])
 clear hz1 hv1
 obtain ⟨z2, hz2⟩ : ∃ z, z = bt s (y + 2) := ⟨_, rfl⟩
 have hb2 : ∀ h : 2 < (s.extract y.toNat (y + 8).toNat).size, (((s.extract y.toNat (y + 8).toNat)[2]'h).toNat : Int) = z2 := fun h => by rw [hz2]; exact bt_ex s y 2 hy0 (by omega) (by omega) h
 have hr2 : 0 ≤ z2 ∧ z2 ≤ 255 := by rw [hz2]; exact bt_range s _
 obtain ⟨v2, hv2⟩ : ∃ v, v = vch z2 := ⟨_, rfl⟩
 have hc2 : w.cell? ⟨0, z2.toNat, none⟩ = some (.int .u8 v2) := by rw [hv2]; have := HV.out z2.toNat (by omega); rwa [show ((z2.toNat : Nat) : Int) = z2 by omega] at this
 have HZ2 := Aside0.mk (show v2 = vch (bt s (y + 2)) by rw [hv2, hz2])
 clear hz2 hv2
 obtain ⟨z3, hz3⟩ : ∃ z, z = bt s (y + 3) := ⟨_, rfl⟩
 have hb3 : ∀ h : 3 < (s.extract y.toNat (y + 8).toNat).size, (((s.extract y.toNat (y + 8).toNat)[3]'h).toNat : Int) = z3 := fun h => by rw [hz3]; exact bt_ex s y 3 hy0 (by omega) (by omega) h
 have hr3 : 0 ≤ z3 ∧ z3 ≤ 255 := by rw [hz3]; exact bt_range s _
 obtain ⟨v3, hv3⟩ : ∃ v, v = vch z3 := ⟨_, rfl⟩
 have hc3 : w.cell? ⟨0, z3.toNat, none⟩ = some (.int .u8 v3) := by rw [hv3]; have := HV.out z3.toNat (by omega); rwa [show ((z3.toNat : Nat) : Int) = z3 by omega] at this
 have HZ3 := Aside0.mk (show v3 = vch (bt s (y + 3)) by rw [hv3, hz3])
 clear hz3 hv3
 obtain ⟨z4, hz4⟩ : ∃ z, z = bt s (y + 4) := ⟨_, rfl⟩
 have hb4 : ∀ h : 4 < (s.extract y.toNat (y + 8).toNat).size, (((s.extract y.toNat (y + 8).toNat)[4]'h).toNat : Int) = z4 := fun h => by rw [hz4]; exact bt_ex s y 4 hy0 (by omega) (by omega) h
 have hr4 : 0 ≤ z4 ∧ z4 ≤ 255 := by rw [hz4]; exact bt_range s _
 obtain ⟨v4, hv4⟩ : ∃ v, v = vch z4 := ⟨_, rfl⟩
 have hc4 : w.cell? ⟨0, z4.toNat, none⟩ = some (.int .u8 v4) := by rw [hv4]; have := HV.out z4.toNat (by omega); rwa [show ((z4.toNat : Nat) : Int) = z4 by omega] at this
 have HZ4 := Aside0.mk (show v4 = vch (bt s (y + 4)) by rw [hv4, hz4])
 clear hz4 hv4
 obtain ⟨z5, hz5⟩ : ∃ z, z = bt s (y + 5) := ⟨_, rfl⟩
 have hb5 : ∀ h : 5 < (s.extract y.toNat (y + 8).toNat).size, (((s.extract y.toNat (y + 8).toNat)[5]'h).toNat : Int) = z5 := fun h => by rw [hz5]; exact bt_ex s y 5 hy0 (by omega) (by omega) h
 have hr5 : 0 ≤ z5 ∧ z5 ≤ 255 := by rw [hz5]; exact bt_range s _
 obtain ⟨v5, hv5⟩ : ∃ v, v = vch z5 := ⟨_, rfl⟩
 have hc5 : w.cell? ⟨0, z5.toNat, none⟩ = some (.int .u8 v5) := by rw [hv5]; have := HV.out z5.toNat (by omega); rwa [show ((z5.toNat : Nat) : Int) = z5 by omega] at this
 have HZ5 := Aside0.mk (show v5 = vch (bt s (y + 5)) by rw [hv5, hz5])
 clear hz5 hv5
 obtain ⟨z6, hz6⟩ : ∃ z, z = bt s (y + 6) := ⟨_, rfl⟩
 have hb6 : ∀ h : 6 < (s.extract y.toNat (y + 8).toNat).size, (((s.extract y.toNat (y + 8).toNat)[6]'h).toNat : Int) = z6 := fun h => by rw [hz6]; exact bt_ex s y 6 hy0 (by omega) (by omega) h
 have hr6 : 0 ≤ z6 ∧ z6 ≤ 255 := by rw [hz6]; exact bt_range s _
 obtain ⟨v6, hv6⟩ : ∃ v, v = vch z6 := ⟨_, rfl⟩
 have hc6 : w.cell? ⟨0, z6.toNat, none⟩ = some (.int .u8 v6) := by rw [hv6]; have := HV.out z6.toNat (by omega); rwa [show ((z6.toNat : Nat) : Int) = z6 by omega] at this
 have HZ6 := Aside0.mk (show v6 = vch (bt s (y + 6)) by rw [hv6, hz6])
 clear hz6 hv6
 obtain ⟨z7, hz7⟩ : ∃ z, z = bt s (y + 7) := ⟨_, rfl⟩
 have hb7 : ∀ h : 7 < (s.extract y.toNat (y + 8).toNat).size, (((s.extract y.toNat (y + 8).toNat)[7]'h).toNat : Int) = z7 := fun h => by rw [hz7]; exact bt_ex s y 7 hy0 (by omega) (by omega) h
 have hr7 : 0 ≤ z7 ∧ z7 ≤ 255 := by rw [hz7]; exact bt_range s _
 obtain ⟨v7, hv7⟩ : ∃ v, v = vch z7 := ⟨_, rfl⟩
 have hc7 : w.cell? ⟨0, z7.toNat, none⟩ = some (.int .u8 v7) := by rw [hv7]; have := HV.out z7.toNat (by omega); rwa [show ((z7.toNat : Nat) : Int) = z7 by omega] at this
 have HZ7 := Aside0.mk (show v7 = vch (bt s (y + 7)) by rw [hv7, hz7])
 clear hz7 hv7
 by_cases c0 : v0 = 0
 rotate_left
 ·have q0 : (v0 != 0) = true := bne_iff_ne.mpr c0
  have HC := Aside0.mk c0
  clear c0
  go_wp2_with fail
  refine wp_goto ?_; change Q (.goto 0) _ _
  refine HG.out _ (y + 0) m t v0 HZ0.out HC.out (by omega) HR0.out ?_; rw [Int.add_zero]; refine ⟨_, rfl, ?_⟩; exact ⟨rfl, rfl, rfl, rfl, rfl, rfl, rfl, rfl, rfl⟩
 have q0 : (v0 != 0) = false := bne_eq_false_iff_eq.mpr c0
 have HR1 := Aside0.mk (show Rem s E (y + 1) d by rw [show y + 1 = y + 0 + 1 by omega]; exact HR0.out.zero_inv (by rw [← HZ0.out]; exact c0))
 by_cases c1 : v1 = 0
 rotate_left
 ·have q1 : (v1 != 0) = true := bne_iff_ne.mpr c1
  have HC := Aside0.mk c1
  clear c0 c1
  go_wp2_with fail
  refine wp_goto ?_; change Q (.goto 0) _ _
  refine HG.out _ (y + 1) m t v1 HZ1.out HC.out (by omega) HR1.out ?_; refine ⟨_, rfl, ?_⟩; exact ⟨rfl, rfl, rfl, rfl, rfl, rfl, rfl, rfl, rfl⟩
 have q1 : (v1 != 0) = false := bne_eq_false_iff_eq.mpr c1
 have HR2 := Aside0.mk (show Rem s E (y + 2) d by rw [show y + 2 = y + 1 + 1 by omega]; exact HR1.out.zero_inv (by rw [← HZ1.out]; exact c1))
 by_cases c2 : v2 = 0
 rotate_left
 ·have q2 : (v2 != 0) = true := bne_iff_ne.mpr c2
  have HC := Aside0.mk c2
  clear c0 c1 c2
  go_wp2_with fail
  refine wp_goto ?_; change Q (.goto 0) _ _
  refine HG.out _ (y + 2) m t v2 HZ2.out HC.out (by omega) HR2.out ?_; refine ⟨_, rfl, ?_⟩; exact ⟨rfl, rfl, rfl, rfl, rfl, rfl, rfl, rfl, rfl⟩
 have q2 : (v2 != 0) = false := bne_eq_false_iff_eq.mpr c2
 have HR3 := Aside0.mk (show Rem s E (y + 3) d by rw [show y + 3 = y + 2 + 1 by omega]; exact HR2.out.zero_inv (by rw [← HZ2.out]; exact c2))
 by_cases c3 : v3 = 0
 rotate_left
 ·have q3 : (v3 != 0) = true := bne_iff_ne.mpr c3
  have HC := Aside0.mk c3
  clear c0 c1 c2 c3
  go_wp2_with fail
  refine wp_goto ?_; change Q (.goto 0) _ _
  refine HG.out _ (y + 3) m t v3 HZ3.out HC.out (by omega) HR3.out ?_; refine ⟨_, rfl, ?_⟩; exact ⟨rfl, rfl, rfl, rfl, rfl, rfl, rfl, rfl, rfl⟩
 have q3 : (v3 != 0) = false := bne_eq_false_iff_eq.mpr c3
 have HR4 := Aside0.mk (show Rem s E (y + 4) d by rw [show y + 4 = y + 3 + 1 by omega]; exact HR3.out.zero_inv (by rw [← HZ3.out]; exact c3))
 by_cases c4 : v4 = 0
 rotate_left
 ·have q4 : (v4 != 0) = true := bne_iff_ne.mpr c4
  have HC := Aside0.mk c4
  clear c0 c1 c2 c3 c4
  go_wp2_with fail
  refine wp_goto ?_; change Q (.goto 0) _ _
  refine HG.out _ (y + 4) m t v4 HZ4.out HC.out (by omega) HR4.out ?_; refine ⟨_, rfl, ?_⟩; exact ⟨rfl, rfl, rfl, rfl, rfl, rfl, rfl, rfl, rfl⟩
 have q4 : (v4 != 0) = false := bne_eq_false_iff_eq.mpr c4
 have HR5 := Aside0.mk (show Rem s E (y + 5) d by rw [show y + 5 = y + 4 + 1 by omega]; exact HR4.out.zero_inv (by rw [← HZ4.out]; exact c4))
 by_cases c5 : v5 = 0
 rotate_left
 ·have q5 : (v5 != 0) = true := bne_iff_ne.mpr c5
  have HC := Aside0.mk c5
  clear c0 c1 c2 c3 c4 c5
  go_wp2_with fail
  refine wp_goto ?_; change Q (.goto 0) _ _
  refine HG.out _ (y + 5) m t v5 HZ5.out HC.out (by omega) HR5.out ?_; refine ⟨_, rfl, ?_⟩; exact ⟨rfl, rfl, rfl, rfl, rfl, rfl, rfl, rfl, rfl⟩
 have q5 : (v5 != 0) = false := bne_eq_false_iff_eq.mpr c5
 have HR6 := Aside0.mk (show Rem s E (y + 6) d by rw [show y + 6 = y + 5 + 1 by omega]; exact HR5.out.zero_inv (by rw [← HZ5.out]; exact c5))
 by_cases c6 : v6 = 0
 rotate_left
 ·have q6 : (v6 != 0) = true := bne_iff_ne.mpr c6
  have HC := Aside0.mk c6
  clear c0 c1 c2 c3 c4 c5 c6
  go_wp2_with fail
  refine wp_goto ?_; change Q (.goto 0) _ _
  refine HG.out _ (y + 6) m t v6 HZ6.out HC.out (by omega) HR6.out ?_; refine ⟨_, rfl, ?_⟩; exact ⟨rfl, rfl, rfl, rfl, rfl, rfl, rfl, rfl, rfl⟩
 have q6 : (v6 != 0) = false := bne_eq_false_iff_eq.mpr c6
 have HR7 := Aside0.mk (show Rem s E (y + 7) d by rw [show y + 7 = y + 6 + 1 by omega]; exact HR6.out.zero_inv (by rw [← HZ6.out]; exact c6))
 by_cases c7 : v7 = 0
 rotate_left
 ·have q7 : (v7 != 0) = true := bne_iff_ne.mpr c7
  have HC := Aside0.mk c7
  clear c0 c1 c2 c3 c4 c5 c6 c7
  go_wp2_with fail
  refine wp_goto ?_; change Q (.goto 0) _ _
  refine HG.out _ (y + 7) m t v7 HZ7.out HC.out (by omega) HR7.out ?_; refine ⟨_, rfl, ?_⟩; exact ⟨rfl, rfl, rfl, rfl, rfl, rfl, rfl, rfl, rfl⟩
 have q7 : (v7 != 0) = false := bne_eq_false_iff_eq.mpr c7
 have HR8 := Aside0.mk (show Rem s E (y + 8) d by rw [show y + 8 = y + 7 + 1 by omega]; exact HR7.out.zero_inv (by rw [← HZ7.out]; exact c7))
 clear c0 c1 c2 c3 c4 c5 c6 c7
 go_wp2_with fail
 apply HK.out; refine Handed.intro (gk - 8) (by have := HR8.out.lt; omega) (HJ.out _ _ _ ⟨y + 8, m, t, .int .u8 v7, by omega, by have := HR8.out.lt; omega, HR8.out, rfl, ?_⟩); refine ⟨_, rfl, ?_⟩; exact ⟨rfl, rfl, rfl, rfl, rfl, rfl, rfl, rfl, rfl⟩
set_option maxHeartbeats 8000000
set_option maxRecDepth 8192
def PqPost (s : ByteArray) (p E : Int) (w : World) (e : Ending) (w' : World) : Prop := e = .returned (.tuple #[.int .i64 E, .string (s.extract p.toNat E.toNat)]) ∧ Below w.heap.size w w'
theorem r33_wp (s : ByteArray) (hz : s.size ≤ 274877906944) (x : Int) (h0 : 0 ≤ x) (hx : x < s.size) (p dv z : Value) (w : World) (hV : VT w) (Q : Exit → Act → World → Prop)
  (hN : ∀ b m t v, v = vch (bt s x) → SqF s (.int .i64 x) p dv (.int .u8 v) z m t b → Q .normal b w) : ∀ b m t c, SqF s (.int .i64 x) p dv c z m t b → r33.wp Tryz.prog Q b w := by
 intro b m t c hb
 obtain ⟨f, rfl⟩ := hb.open
 clear hb
 have HN := Aside0.mk hN
 obtain ⟨y, hy⟩ : ∃ y, y = bt s x := ⟨_, rfl⟩
 have hb0 : ∀ h : x.toNat < s.size, ((s[x.toNat]'h).toNat : Int) = y := fun h => by rw [hy]; exact bt_at s x h
 have hr : 0 ≤ y ∧ y ≤ 255 := by rw [hy]; exact bt_range s _
 obtain ⟨v, hv⟩ : ∃ v, v = vch y := ⟨_, rfl⟩
 have hc : w.cell? ⟨0, y.toNat, none⟩ = some (.int .u8 v) := by rw [hv]; have := hV y.toNat (by omega); rwa [show ((y.toNat : Nat) : Int) = y by omega] at this
 have HZ := Aside0.mk (show v = vch (bt s x) by rw [hv, hy])
 clear hN hy hv hV
 simp only [r33, sq0, sqA, Tryz.f88, tl, hd1, unbk, unlp, unsc, findLabel, Nat.reduceBEq, Bool.false_eq_true, ↓reduceIte, Option.getD_some, beq_self_eq_true]
 go_wp2_with fail
 refine HN.out _ m t v HZ.out ?_; refine ⟨_, rfl, ?_⟩; exact ⟨rfl, rfl, rfl, rfl, rfl, rfl, rfl, rfl, rfl⟩
theorem r34_wp (s : ByteArray) (hz : s.size ≤ 274877906944) (x : Int) (h0 : 0 ≤ x) (hx : x < s.size) (p dv z : Value) (v : Int) (w : World) (Q : Exit → Act → World → Prop)
  (hN : ∀ b m t, v ≠ 0 → SqF s (.int .i64 x) p dv (.int .u8 v) z m t b → Q .normal b w) (hX : ∀ b m t, v = 0 → SqF s (.int .i64 (x + 1)) p dv (.int .u8 v) z m t b → Q (.exit 1) b w) : ∀ b m t, SqF s (.int .i64 x) p dv (.int .u8 v) z m t b → r34.wp Tryz.prog Q b w := by
 intro b m t hb
 obtain ⟨f, rfl⟩ := hb.open
 clear hb
 have HN := Aside0.mk hN
 have HX := Aside0.mk hX
 clear hN hX
 by_cases v0 : v = 0
 rotate_left
 ·have q0 : (v == 0) = false := beq_eq_false_iff_ne.mpr v0
  have HV := Aside0.mk v0
  clear v0
  simp only [r34, sq0, sqA, Tryz.f88, tl, hd1, unbk, unlp, unsc, findLabel, Nat.reduceBEq, Bool.false_eq_true, ↓reduceIte, Option.getD_some, beq_self_eq_true]
  go_wp2_with fail
  refine HN.out _ m t HV.out ?_; refine ⟨_, rfl, ?_⟩; exact ⟨rfl, rfl, rfl, rfl, rfl, rfl, rfl, rfl, rfl⟩
 have q0 : (v == 0) = true := beq_iff_eq.mpr v0
 have HV := Aside0.mk v0
 clear v0
 simp only [r34, sq0, sqA, Tryz.f88, tl, hd1, unbk, unlp, unsc, findLabel, Nat.reduceBEq, Bool.false_eq_true, ↓reduceIte, Option.getD_some, beq_self_eq_true]
 go_wp2_with fail
 refine HX.out _ m t HV.out ?_; refine ⟨_, rfl, ?_⟩; exact ⟨rfl, rfl, rfl, rfl, rfl, rfl, rfl, rfl, rfl⟩
theorem r76_wp (s : ByteArray) (hz : s.size ≤ 274877906944) (x : Int) (h0 : 0 ≤ x) (hx : x < s.size) (p dv c z : Value) (w : World) (Q : Exit → Act → World → Prop)
  (hN : ∀ b m t, SqF s (.int .i64 (x + 1)) p dv c z m t b → Q .normal b w) : ∀ b m t, SqF s (.int .i64 x) p dv c z m t b → r76.wp Tryz.prog Q b w := by
 intro b m t hb
 obtain ⟨f, rfl⟩ := hb.open
 clear hb
 have HN := Aside0.mk hN
 clear hN
 simp only [r76, r0, sq0, sqA, Tryz.f88, tl, hd1, unbk, unlp, unsc, findLabel, Nat.reduceBEq, Bool.false_eq_true, ↓reduceIte, Option.getD_some, beq_self_eq_true]
 go_wp2_with fail
 apply HN.out; refine ⟨_, rfl, ?_⟩; exact ⟨rfl, rfl, rfl, rfl, rfl, rfl, rfl, rfl, rfl⟩
theorem rEl_wp (s : ByteArray) (hz : s.size ≤ 274877906944) (x p0 d : Int) (h0 : 0 ≤ p0) (hp : p0 ≤ x) (hx : x < s.size) (hd : 1 ≤ d ∧ d ≤ x) (v : Int) (hv : v = 3 ∨ v = 1) (z : Value) (w w0 : World) (hw : Below w0.heap.size w0 w) (Q : Exit → Act → World → Prop)
  (hN : ∀ b m t, ¬ d + (v - 2) = 0 → SqF s (.int .i64 x) (.int .i64 p0) (.int .i64 (d + (v - 2))) (.int .u8 v) z m t b → Q .normal b w)
  (hT : d + (v - 2) = 0 → ∀ a w', bodyPost Tryz.prog Tryz.f88 (PqPost s p0 (x + 1) w0) .ret a w' → Q .ret a w') : ∀ b m t, SqF s (.int .i64 x) (.int .i64 p0) (.int .i64 d) (.int .u8 v) z m t b → rEl.wp Tryz.prog Q b w := by
 intro b m t hb
 obtain ⟨f, rfl⟩ := hb.open
 clear hb
 have HN := Aside0.mk hN
 have HT := Aside0.mk hT
 have HW := Aside0.mk hw
 clear hN hT hw
 have w1 : wrap64 (d + (v - 2)) = d + (v - 2) := w64 (by omega) (by omega)
 have w2 : wrap64 (v - 2) = v - 2 := w64 (by omega) (by omega)
 have w3 : wrap64 v = v := w64 (by omega) (by omega)
 by_cases e0 : d + (v - 2) = 0
 rotate_left
 ·have q0 : (d + (v - 2) == 0) = false := beq_eq_false_iff_ne.mpr e0
  have HV := Aside0.mk e0
  clear e0
  simp only [rEl, els, r0, sq0, sqA, Tryz.f88, tl, hd1, unbk, unlp, unsc, findLabel, Nat.reduceBEq, Bool.false_eq_true, ↓reduceIte, Option.getD_some, beq_self_eq_true]
  go_wp2_with fail
  refine HN.out _ m t HV.out ?_; refine ⟨_, rfl, ?_⟩; exact ⟨rfl, rfl, rfl, rfl, rfl, rfl, rfl, rfl, rfl⟩
 have q0 : (d + (v - 2) == 0) = true := beq_iff_eq.mpr e0
 have HV := Aside0.mk e0
 clear e0
 have hle : x + 1 ≤ s.size := by omega
 have hp1 : 0 ≤ x + 1 := by omega
 have hp2 : p0 ≤ x + 1 := by omega
 simp only [rEl, els, r0, sq0, sqA, Tryz.f88, tl, hd1, unbk, unlp, unsc, findLabel, Nat.reduceBEq, Bool.false_eq_true, ↓reduceIte, Option.getD_some, beq_self_eq_true]
 go_wp2_with fail
 go_quiet (fail)
 go_wp2_with fail
 refine HT.out HV.out _ _ ?_
 go_ret2
 exact ⟨rfl, pw_below_drewN HW.out _⟩
set_option maxHeartbeats 8000000
set_option maxRecDepth 8192
theorem r36_wp (s : ByteArray) (x p0 d : Int) (v : Int) (hv : 0 ≤ v ∧ v ≤ 3) (z : Value) (w : World) (Q : Exit → Act → World → Prop)
  (hB : v = 2 → ∀ b m t, SqF s (.int .i64 x) (.int .i64 p0) (.int .i64 d) (.int .u8 v) z m t b → (Code.scope sqB).wp Tryz.prog Q b w)
  (hE : v ≠ 2 → ∀ b m t, SqF s (.int .i64 x) (.int .i64 p0) (.int .i64 d) (.int .u8 v) z m t b → rEl.wp Tryz.prog Q b w) : ∀ b m t, SqF s (.int .i64 x) (.int .i64 p0) (.int .i64 d) (.int .u8 v) z m t b → (Code.seq r36 (.cond (.tmp 107) (.scope sqB) rEl)).wp Tryz.prog Q b w := by
 intro b m t hb
 obtain ⟨f, rfl⟩ := hb.open
 clear hb
 have HB := Aside0.mk hB
 have HE := Aside0.mk hE
 clear hB hE
 generalize (Code.scope sqB) = B at *
 generalize rEl = E at *
 by_cases v2 : v = 2
 rotate_left
 ·have q0 : (v == 2) = false := beq_eq_false_iff_ne.mpr v2
  have HV := Aside0.mk v2
  clear v2
  simp only [r36, r0, sq0, sqA, Tryz.f88, tl, hd1, unbk, unlp, unsc, findLabel, Nat.reduceBEq, Bool.false_eq_true, ↓reduceIte, Option.getD_some, beq_self_eq_true]
  go_wp2_with fail
  refine HE.out HV.out _ m t ?_; refine ⟨_, rfl, ?_⟩; exact ⟨rfl, rfl, rfl, rfl, rfl, rfl, rfl, rfl, rfl⟩
 have q0 : (v == 2) = true := beq_iff_eq.mpr v2
 have HV := Aside0.mk v2
 clear v2
 simp only [r36, r0, sq0, sqA, Tryz.f88, tl, hd1, unbk, unlp, unsc, findLabel, Nat.reduceBEq, Bool.false_eq_true, ↓reduceIte, Option.getD_some, beq_self_eq_true]
 go_wp2_with fail
 refine HB.out HV.out _ m t ?_; refine ⟨_, rfl, ?_⟩; exact ⟨rfl, rfl, rfl, rfl, rfl, rfl, rfl, rfl, rfl⟩
def Nx (s : ByteArray) (p0 E x : Int) (b : Act) : Prop := ∃ (y d' : Int) (z c m t : Value), x < y ∧ (1 ≤ d' ∧ d' ≤ y) ∧ Rem s E y d' ∧ SqF s (.int .i64 y) (.int .i64 p0) (.int .i64 d') c z m t b
theorem r0_wp (s : ByteArray) (hz : s.size ≤ 274877906944) (p0 E d x : Int) (hE : E ≤ s.size) (h0 : 0 ≤ p0) (hpx : p0 ≤ x) (hR : Rem s E x d) (hd : 1 ≤ d ∧ d ≤ x) (v : Int) (hv : v = vch (bt s x)) (hv0 : v ≠ 0) (z : Value) (w w0 : World) (hw : Below w0.heap.size w0 w) (Q : Exit → Act → World → Prop)
  (hN : ∀ b, Nx s p0 E x b → Q .normal b w) (hX : ∀ b, Nx s p0 E x b → Q (.exit 1) b w) (hT : ∀ a w', bodyPost Tryz.prog Tryz.f88 (PqPost s p0 E w0) .ret a w' → Q .ret a w') :
  ∀ b m t, SqF s (.int .i64 x) (.int .i64 p0) (.int .i64 d) (.int .u8 v) z m t b → r0.wp Tryz.prog Q b w := by
 intro b m t hb
 have hxE := hR.lt
 rw [r0_eq]
 cases hR with
 | zero _ _ h1 h2 => omega
 | str _ j _ h1 h2 =>
  have hQ := str_quo h1
  obtain ⟨k0, k34, j', rfl, k1, k2, k3, _⟩ := h1
  rw [show j' + 1 - 1 = j' by omega] at hQ
  rw [k34] at hv
  have hv2 : v = 2 := hv
  refine wp_seq_k (fun K hK => r36_wp s x p0 d v (by omega) z w _ (fun _ b m t hF => ?_) (fun q => absurd hv2 q) b m t hb)
  refine sqB_wp s hz x j' k0 k1 (by omega) k3 hQ _ _ _ z w (Exit.then K Q) (fun b z m t hF => hK _ _ ?_) (fun b z m t hF => hX _ ⟨j' + 1, d, z, _, m, t, by omega, by omega, h2, hF⟩) b m t hF
  exact r76_wp s hz j' (by omega) (by omega) _ _ _ z w _ (fun b m t hF => hN _ ⟨j' + 1, d, z, _, m, t, by omega, by omega, h2, hF⟩) b m t hF
 | opn _ _ h1 h2 =>
  have hv3 : v = 3 := by omega
  refine wp_seq_k (fun K hK => r36_wp s x p0 d v (by omega) z w _ (fun q => by omega) (fun _ b m t hF => ?_) b m t hb)
  refine rEl_wp s hz x p0 d h0 hpx (by omega) hd v (.inl hv3) z w w0 hw _ (fun b m t _ hF => hK _ _ ?_) (fun q => by omega) b m t hF
  refine r76_wp s hz x (by omega) (by omega) _ _ _ z w _ (fun b m t hF => hN _ ⟨x + 1, d + 1, z, .int .u8 v, m, t, by omega, by omega, h2, ?_⟩) b m t hF
  rwa [show d + (v - 2) = d + 1 by omega] at hF
 | cls _ _ h1 h2 h3 =>
  have hv1 : v = 1 := by omega
  refine wp_seq_k (fun K hK => r36_wp s x p0 d v (by omega) z w _ (fun q => by omega) (fun _ b m t hF => ?_) b m t hb)
  refine rEl_wp s hz x p0 d h0 hpx (by omega) hd v (.inr hv1) z w w0 hw _ (fun b m t _ hF => hK _ _ ?_) (fun q => by omega) b m t hF
  refine r76_wp s hz x (by omega) (by omega) _ _ _ z w _ (fun b m t hF => hN _ ⟨x + 1, d - 1, z, .int .u8 v, m, t, by omega, by omega, h3, ?_⟩) b m t hF
  rwa [show d + (v - 2) = d - 1 by omega] at hF
 | fin _ h1 h2 =>
  subst h2
  have hv1 : v = 1 := by omega
  refine wp_seq_k (fun K hK => r36_wp s x p0 1 v (by omega) z w _ (fun q => by omega) (fun _ b m t hF => ?_) b m t hb)
  exact rEl_wp s hz x p0 1 h0 hpx (by omega) hd v (.inr hv1) z w w0 hw (Exit.then K Q) (fun b m t q => by omega) (fun _ => hT) b m t hF
theorem Nx.mono {s : ByteArray} {p0 E x x' : Int} {b : Act} (h : Nx s p0 E x b) (hx : x' ≤ x) : Nx s p0 E x' b := by
 obtain ⟨y, d', z, c, m, t, h1, h2⟩ := h
 exact ⟨y, d', z, c, m, t, by omega, h2⟩
theorem sqA_wp (s : ByteArray) (hz : s.size ≤ 274877906944) (p0 E d x : Int) (hE : E ≤ s.size) (h0 : 0 ≤ p0) (hpx : p0 ≤ x) (hR : Rem s E x d) (hd : 1 ≤ d ∧ d ≤ x) (z c : Value) (w w0 : World) (hV : VT w) (hw : Below w0.heap.size w0 w) (Q : Exit → Act → World → Prop)
  (hN : ∀ b, Nx s p0 E x b → Q .normal b w) (hX : ∀ b, Nx s p0 E x b → Q (.exit 1) b w) (hT : ∀ a w', bodyPost Tryz.prog Tryz.f88 (PqPost s p0 E w0) .ret a w' → Q .ret a w') :
  ∀ b m t, SqF s (.int .i64 x) (.int .i64 p0) (.int .i64 d) c z m t b → (Code.scope sqA).wp Tryz.prog Q b w := by
 intro b m t hb
 refine wp_scope_fwd (c := sqA) 1 ?_
 rw [sqA_eq]
 refine wp_seq_k (fun K hK => a2_wp s hz E d x hE (by omega) hR _ _ z w hV (Exit.then K (jumpQ Tryz.prog _ Q 1)) (fun b y m t c h1 h2 hF => hK _ _ ?_) (fun b y m t v h1 h2 h3 h4 hF => ?_) b m t c hb)
 rotate_left
 ·refine ⟨sq0, ?_, ?_⟩
  ·rw [← sqA_eq]; exact sq_0
  ·rw [sq0_eq]
   exact wp_seq (wp_skip (r0_wp s hz p0 E d y hE h0 (by omega) h4 (by omega) v h1 h2 z w w0 hw (jumpQ Tryz.prog _ Q 0) (fun b hb => hN b (hb.mono h3)) (fun b hb => hX b (hb.mono h3)) hT b m t hF))
 have hlt := h2.lt
 refine wp_seq_k (fun K hK => r33_wp s hz y (by omega) (by omega) _ _ z w hV _ (fun b m t v hv hF => hK _ _ ?_) b m t c hF)
 refine wp_seq_k (fun K hK => r34_wp s hz y (by omega) (by omega) _ _ z v w (Exit.then K (jumpQ Tryz.prog _ Q 1)) (fun b m t hv0 hF => hK _ _ (wp_seq (wp_label ?_))) (fun b m t hv0 hF => hX _ ⟨y + 1, d, z, _, m, t, by omega, by omega, h2.zero_inv (by omega), hF⟩) b m t hF)
 exact r0_wp s hz p0 E d y hE h0 (by omega) h2 (by omega) v hv hv0 z w w0 hw (jumpQ Tryz.prog _ Q 1) (fun b hb => hN b (hb.mono h1)) (fun b hb => hX b (hb.mono h1)) hT b m t hF
noncomputable def lp5 : Code := match Tryz.f88.body with
 | some c => hd1 (unlp (unbk (hd1 (tl (tl (tl (tl (tl c))))))))
 | none => .skip
theorem lp5_wp (s : ByteArray) (hz : s.size ≤ 274877906944) (x : Int) (hx : x < s.size) (p dv c z : Value) (w : World) (Q : Exit → Act → World → Prop)
  (hN : ∀ b m t, SqF s (.int .i64 x) p dv c z m t b → Q .normal b w) : ∀ b m t, SqF s (.int .i64 x) p dv c z m t b → lp5.wp Tryz.prog Q b w := by
 intro b m t hb
 obtain ⟨f, rfl⟩ := hb.open
 clear hb
 have HN := Aside0.mk hN
 clear hN
 simp only [lp5, Tryz.f88, tl, hd1, unbk, unlp]
 go_wp2_with fail
 apply HN.out; refine ⟨_, rfl, ?_⟩; exact ⟨rfl, rfl, rfl, rfl, rfl, rfl, rfl, rfl, rfl⟩
theorem squash_calls (s : ByteArray) (hz : s.size ≤ 274877906944) (p E : Int) (h0 : 0 ≤ p) (hE : E ≤ s.size) (hR : Rem s E (p + 1) 1) (w : World) (hV : VT w) :
  Calls Tryz.prog 88 #[.string s, .int .i64 p] w (PqPost s p E w) := by
 have HR := Aside0.mk hR
 have HV := Aside0.mk hV
 have hlt := hR.lt
 clear hR hV
 go_enter Tryz.func88, Tryz.ntmps88
 go_wp2_with fail
 refine wp_loop_ghost_k (c := .seq lp5 (.block 1 (.scope sqA))) (fun kq a' w' => ∃ (y d' : Int) (z c m t : Value), p < y ∧ (kq : Int) + y = E ∧ (1 ≤ d' ∧ d' ≤ y) ∧ Rem s E y d' ∧ w = w' ∧ SqF s (.int .i64 y) (.int .i64 p) (.int .i64 d') c z m t a') (E - (p + 1)).toNat ?_ ?_
 ·exact ⟨p + 1, 1, _, _, _, _, by omega, by omega, by omega, HR.out, rfl, (by refine ⟨_, rfl, ?_⟩; exact ⟨rfl, rfl, rfl, rfl, rfl, rfl, rfl, rfl, rfl⟩)⟩
 intro gk b' w' hI J K hJ hK
 obtain ⟨y, d', z, c, m, t, hy, hk, hd, hR, rfl, hF⟩ := hI
 have hlt := hR.lt
 refine wp_seq_k (fun K2 hK2 => lp5_wp s hz y (by omega) _ _ _ z w _ (fun b m t hF => hK2 _ _ (wp_block ?_)) b' m t hF)
 have hx : ∀ b, Nx s p E y b → K b w := by
  rintro b ⟨y', d2, z2, c2, m2, t2, q1, q2, q3, q4⟩
  have := q3.lt
  exact hK _ _ (Handed.intro (E - y').toNat (by omega) (hJ _ _ _ ⟨y', d2, z2, c2, m2, t2, by omega, by omega, q2, q3, rfl, q4⟩))
 refine sqA_wp s hz p E d' y hE h0 (by omega) hR hd z c w w HV.out (Below.refl _ _) _ ?_ ?_ ?_ b m t hF
 ·exact hx
 ·exact hx
 ·exact fun _ _ h => h
end Go.Proofs.YtgiioglmkogpkaaGreatDoor.F
namespace Go.Proofs.YtgiioglmkogpkaaGreatDoor.F
open Go.RowKit Go.Proofs.YtgiioglmkogpkaaGreatDoorW.PrintWords Go.Proofs.YtgiioglmkogpkaaGreatDoorW.PrintLast Go.Proofs.YtgiioglmkogpkaaGreatDoorW.PrintMore
open M L
set_option maxHeartbeats 4000000
set_option maxRecDepth 8192
def pv (t : ByteArray) : Nat → Int
 | 0 => 0
 | k + 1 => pv t k * 16 + L.hd t k
theorem pv4 (t : ByteArray) : pv t 4 = u4 t 0 := by
 simp only [pv, u4]
 simp
theorem pv_bd (t : ByteArray) (k : Nat) (h : k ≤ 4) : 0 ≤ pv t k ∧ pv t k ≤ 65535 := by
 have h0 := hd_range t 0
 have h1 := hd_range t 1
 have h2 := hd_range t 2
 have h3 := hd_range t 3
 have : k = 0 ∨ k = 1 ∨ k = 2 ∨ k = 3 ∨ k = 4 := by omega
 rcases this with rfl | rfl | rfl | rfl | rfl <;> simp only [pv] <;> simp <;> omega
theorem lower_id (x : Int) (h0 : 97 ≤ x) (h1 : x ≤ 102) : bits .or .u8 x 32 = x := by
 have : x = 97 ∨ x = 98 ∨ x = 99 ∨ x = 100 ∨ x = 101 ∨ x = 102 := by omega
 rcases this with rfl | rfl | rfl | rfl | rfl | rfl <;> rfl
theorem lower_up (x : Int) (h0 : 65 ≤ x) (h1 : x ≤ 70) : bits .or .u8 x 32 = x + 32 := by
 have : x = 65 ∨ x = 66 ∨ x = 67 ∨ x = 68 ∨ x = 69 ∨ x = 70 := by omega
 rcases this with rfl | rfl | rfl | rfl | rfl | rfl <;> rfl
theorem hexv_cases {x v : Int} (h : hexv x = some v) : (48 ≤ x ∧ x ≤ 57 ∧ v = x - 48) ∨ (97 ≤ x ∧ x ≤ 102 ∧ v = x - 87) ∨ (65 ≤ x ∧ x ≤ 70 ∧ v = x - 55) := by
 unfold hexv at h
 split at h
 ·simp at h; left; omega
 split at h
 ·simp at h; right; left; omega
 split at h
 ·simp at h; right; right; omega
 ·cases h
theorem pu16_calls (t : ByteArray) (w : World) (hs : t.size = 4) (hh : hex4 t 0) :
  Calls Tryz.prog 156 #[.string t, .int .i64 16, .int .i64 64] w fun e w' => e = .returned (.tuple #[.int .u64 (u4 t 0), .nilIface]) ∧ Below w.heap.size w w' := by
 have hne : t ≠ ByteArray.empty := by rintro rfl; simp at hs
 have HS := Aside0.mk hs
 clear hs
 have HH := Aside0.mk hh
 clear hh
 have he : t.toList.isEmpty = false := by
  have := HS.out
  rw [Bool.eq_false_iff]
  intro h
  rw [List.isEmpty_iff] at h
  have h2 := congrArg List.length h
  simp [ByteArray.toList_eq, this] at h2
 have hcv : ∀ W : World, (convert 9 103 (.string t)).run Tryz.prog W = .ok (.slice (some ⟨W.heap.size, 0, none⟩) 4 (grownCap W t.size 0 5)) (Lib.bytesWorld W 5 t) := fun W => by
  have := Lib.run_convert_string_bytes (P := Tryz.prog) W 9 103 5 t Tryz.underlying9 Tryz.underlying103 Tryz.underlying5
  rwa [HS.out] at this ⊢
 clear hne
 go_enter Tryz.func156, Tryz.ntmps156
 go_wp2_with fail
 have hB : Below w.heap.size w (Lib.bytesWorld w 5 t) := bytes_below (Below.refl _ _) (Nat.le_refl _) 5 t
 have HC : ∀ k : Nat, k < 4 → (Lib.bytesWorld w 5 t).cell? ⟨w.heap.size, k, none⟩ = some (.int .u8 (bt t k)) := fun k hk => by
  obtain ⟨ad, e1, e2⟩ := (bytes_reads w 5 t (by rw [HS.out]; omega)).2.2 (by rw [HS.out]; omega)
  obtain rfl := Option.some.inj e1
  have := e2 k (by rw [HS.out]; omega)
  rw [add_plain] at this
  rw [this]
  have h2 := rd_bytesOf t (k : Int)
  unfold rd at h2
  rw [Int.toNat_natCast] at h2
  rw [h2]
 have hM : 2000000 ≤ IntKind.u64.wrap (IntKind.u64.wrap 18446744073709551616 - 1) := by decide
 generalize IntKind.u64.wrap (IntKind.u64.wrap 18446744073709551616 - 1) = Mx at *
 generalize Lib.bytesWorld w 5 t = W at *
 have HCC := Aside0.mk HC
 have HBB := Aside0.mk hB
 clear HC hB hcv he
 go_loopg [6, 7, 12, 13, 15, 16, 17, 101] 4 (fun kq v6 v7 v12 v13 v15 v16 v17 v101 w' => ∃ k : Nat, kq + k = 4 ∧ v6 = .int .u64 0 ∧ v7 = .nilIface ∧ v12 = .bool false ∧ v13 = .int .u64 (pv t k) ∧ v101 = .int .i64 k ∧ W = w')
 case atStart => exact ⟨0, rfl, rfl, rfl, rfl, rfl, rfl, rfl⟩
 obtain ⟨k, hk, rfl, rfl, rfl, rfl, rfl, rfl⟩ := hrel
 by_cases hk4 : k < 4
 rotate_left
 ·have hk4' : ¬ (k : Int) < 4 := by omega
  have e4 := Aside0.mk (show pv t k = u4 t 0 by rw [show k = 4 by omega, pv4])
  go_wp2_with fail
  go_ret2
  exact ⟨congrArg (fun z => Ending.returned (.tuple #[.int .u64 z, .nilIface])) e4.out, HBB.out⟩
 have hx := hd_some (HH.out (k : Int) (by omega) (by omega))
 have hb := pv_bd t k (by omega)
 have hr := hd_range t (k : Int)
 have hc := HCC.out k hk4
 have hsucc : pv t (k + 1) = pv t k * 16 + L.hd t k := rfl
 have HSU := Aside0.mk hsucc
 clear hsucc
 have hx0 := bt_range t (k : Int)
 generalize L.hd t (k : Int) = v at *
 generalize bt t (k : Int) = x at *
 generalize pv t k = n at *
 have hk4' : (k : Int) < 4 := by omega
 have x95 : (x == 95) = false := beq_eq_false_iff_ne.mpr (fun q => by subst q; simp [hexv] at hx)
 rcases hexv_cases hx with ⟨h1, h2, h3⟩ | ⟨h1, h2, h3⟩ | ⟨h1, h2, h3⟩
 ·have x3 : decide (48 ≤ x) = true := decide_eq_true (by omega)
  have x4 : decide (x ≤ 57) = true := decide_eq_true (by omega)
  subst h3
  clear hx
  obtain ⟨hb0, hb1⟩ := hb
  obtain ⟨hx00, hx01⟩ := hx0
  clear hr
  go_wp2_with fail
  go_roundg (gk - 1)
  case measure => omega
  case rel => exact ⟨k + 1, by omega, rfl, rfl, rfl, by rw [HSU.out], rfl, rfl⟩
 rotate_left
 ·subst h3
  have hl : bits .or .u8 x 32 = x + 32 := lower_up x h1 h2
  have x3 : decide (48 ≤ x) = true := decide_eq_true (by omega)
  have x4 : decide (x ≤ 57) = false := decide_eq_false (by omega)
  clear hx
  obtain ⟨hb0, hb1⟩ := hb
  obtain ⟨hx00, hx01⟩ := hx0
  clear hr
  go_wp2_with (go_at_call 188; refine (Tryz.internal_strconv_lower _ _).mono ?_; rintro e w' ⟨rfl, hw2⟩; obtain rfl := hw2.symm)
  go_roundg (gk - 1)
  case measure => omega
  case rel => exact ⟨k + 1, by omega, rfl, rfl, rfl, by rw [HSU.out]; exact congrArg (Value.int .u64) (by omega), rfl, rfl⟩
 subst h3
 have hl : bits .or .u8 x 32 = x := lower_id x h1 h2
 have x3 : decide (48 ≤ x) = true := decide_eq_true (by omega)
 have x4 : decide (x ≤ 57) = false := decide_eq_false (by omega)
 clear hx
 obtain ⟨hb0, hb1⟩ := hb
 obtain ⟨hx00, hx01⟩ := hx0
 clear hr
 go_wp2_with (go_at_call 188; refine (Tryz.internal_strconv_lower _ _).mono ?_; rintro e w' ⟨rfl, hw2⟩; obtain rfl := hw2.symm)
 go_roundg (gk - 1)
 case measure => omega
 case rel => exact ⟨k + 1, by omega, rfl, rfl, rfl, by rw [HSU.out]; exact congrArg (Value.int .u64) (by omega), rfl, rfl⟩
theorem pub16_calls (t : ByteArray) (w : World) (hs : t.size = 4) (hh : hex4 t 0) :
  Calls Tryz.prog 129 #[.string t, .int .i64 16, .int .i64 64] w fun e w' => e = .returned (.tuple #[.int .u64 (u4 t 0), .nilIface]) ∧ Below w.heap.size w w' := by
 have HC := Aside0.mk (pu16_calls t w hs hh)
 clear hs hh
 go_enter Tryz.func129, Tryz.ntmps129
 go_wp2_with fail
 refine HC.out.mono ?_
 rintro e w' ⟨rfl, hb⟩
 go_wp2_with fail
 go_ret2
 exact ⟨rfl, hb⟩
theorem runeit_calls (t : ByteArray) (w : World) (hs : 4 ≤ t.size) (hz : t.size ≤ 65536) (hh : hex4 t 0) :
  Calls Tryz.prog 93 #[.string t] w fun e w' => e = .returned (.int .i32 (u4 t 0)) ∧ Below w.heap.size w w' := by
 have hs4 : (t.extract 0 4).size = 4 := by rw [ByteArray.size_extract]; omega
 have hb : ∀ i : Int, 0 ≤ i → i < 4 → bt (t.extract 0 4) i = bt t i := fun i a b => by
  have := bt_extract t 0 4 i a (by omega) (by omega)
  rwa [show ((0 : Nat) : Int) + i = i by omega] at this
 have hh' : hex4 (t.extract 0 4) 0 := fun i a b => by rw [hb i a (by omega)]; exact hh i a b
 have hu : u4 (t.extract 0 4) 0 = u4 t 0 := by
  unfold u4 L.hd
  rw [hb 0 (by omega) (by omega), hb (0 + 1) (by omega) (by omega), hb (0 + 2) (by omega) (by omega), hb (0 + 3) (by omega) (by omega)]
 have hr := u4_range t 0
 have HC := Aside0.mk (pub16_calls (t.extract 0 4) w hs4 hh')
 rw [hu] at HC
 clear hs4 hh' hu hb hh
 have h4 : 4 ≤ (t.size : Int) := by omega
 generalize u4 t 0 = n at *
 have hw32 : IntKind.i32.wrap n = n := by simp only [IntKind.wrap, IntKind.bits, IntKind.signed]; simp; omega
 go_enter Tryz.func93, Tryz.ntmps93
 go_wp2_with fail
 refine HC.out.mono ?_
 rintro e w' ⟨rfl, hb⟩
 go_wp2_with fail
 go_ret
 exact ⟨by first | rfl | rw [hw32], hb⟩
set_option maxHeartbeats 4000000
set_option maxRecDepth 8192
theorem isSurr_yes (r : Int) (w : World) (h : isHigh r ∨ isLow r) : Calls Tryz.prog 94 #[.int .i32 r] w fun e w' => e = .returned (.bool true) ∧ w = w' := by
 have h1 : 55296 ≤ r := by unfold isHigh isLow at h; omega
 have h2 : r < 57344 := by unfold isHigh isLow at h; omega
 clear h
 go_enter Tryz.func94, Tryz.ntmps94
 go_wp2_with fail
 go_ret
 exact ⟨rfl, rfl⟩
theorem isSurr_no (r : Int) (w : World) (h : ¬ isHigh r) (h' : ¬ isLow r) : Calls Tryz.prog 94 #[.int .i32 r] w fun e w' => e = .returned (.bool false) ∧ w = w' := by
 by_cases h1 : 55296 ≤ r
 rotate_left
 ·clear h h'
  go_enter Tryz.func94, Tryz.ntmps94
  go_wp2_with fail
  go_ret
  exact ⟨rfl, rfl⟩
 have h2 : ¬ r < 57344 := by unfold isHigh at h; unfold isLow at h'; omega
 clear h h'
 go_enter Tryz.func94, Tryz.ntmps94
 go_wp2_with fail
 go_ret
 exact ⟨rfl, rfl⟩
theorem i32_or10 (x y : Int) (hx₀ : 0 ≤ x) (hx : x % 1024 = 0) (hx₁ : x < 2147483648) (h₀ : 0 ≤ y) (h₁ : y < 1024) : bits .or .i32 x y = x + y :=
 bits_join .i32 31 (by decide) wraps_i32 10 x y hx₀ hx hx₁ h₀ h₁ (by omega)
theorem decRune_calls (r1 r2 : Int) (w : World) (h1 : isHigh r1) (h2 : isLow r2) : Calls Tryz.prog 95 #[.int .i32 r1, .int .i32 r2] w fun e w' => e = .returned (.int .i32 (65536 + (r1 - 55296) * 1024 + (r2 - 56320))) ∧ w = w' := by
 obtain ⟨a, b⟩ := h1
 obtain ⟨c, d⟩ := h2
 have hb : bits .or .i32 ((r1 - 55296) * 1024) (r2 - 56320) = (r1 - 55296) * 1024 + (r2 - 56320) := i32_or10 _ _ (by omega) (by omega) (by omega) (by omega) (by omega)
 go_enter Tryz.func95, Tryz.ntmps95
 go_wp2_with fail
 go_ret
 exact ⟨congrArg (fun z => Ending.returned (.int .i32 z)) (by omega), rfl⟩
def wrL (w : World) (g : Nat) : Nat → List Int → World
 | _, [] => w
 | o, b :: r => wrL (w.setCell ⟨g, o, none⟩ (.int .u8 b)) g (o + 1) r
theorem encNA_calls (r : Int) (g off len cap : Nat) (w : World) (h0 : 128 ≤ r) (h1 : r ≤ 1114111) (h2 : ¬ isHigh r ∧ ¬ isLow r) (hl : 4 ≤ len)
  (c0 : w.cell? ⟨g, off, none⟩ = some (.int .u8 0)) (c1 : w.cell? ⟨g, off + 1, none⟩ = some (.int .u8 0)) (c2 : w.cell? ⟨g, off + 2, none⟩ = some (.int .u8 0)) (c3 : w.cell? ⟨g, off + 3, none⟩ = some (.int .u8 0)) (hf : ∀ i, w.frozen? ⟨g, i, none⟩ = false) :
  Calls Tryz.prog 130 #[.slice (some ⟨g, off, none⟩) len cap, .int .i32 r] w fun e w' => e = .returned (.int .i64 (enc r).length) ∧ w' = wrL w g off (enc r) := by
 have f0 := hf off
 have f1 := hf (off + 1)
 have f2 := hf (off + 2)
 have f3 := hf (off + 3)
 clear hf
 have hl1 : (1 : Int) < len := by omega
 have hl2 : (2 : Int) < len := by omega
 have hl3 : (3 : Int) < len := by omega
 have hl0 : (0 : Int) < len := by omega
 by_cases k2 : r ≤ 2047
 ·have e : enc r = [192 + r / 64, 128 + r % 64] := by unfold enc; rw [if_neg (by omega), if_pos (by omega)]
  have E := Aside0.mk e
  clear e
  go_enter Tryz.func130, Tryz.ntmps130
  go_wp2_with fail
  go_ret
  rw [E.out]
  exact ⟨rfl, rfl⟩
 by_cases k3 : r ≤ 65535
 rotate_left
 ·have e : enc r = [240 + r / 262144, 128 + r / 4096 % 64, 128 + r / 64 % 64, 128 + r % 64] := by unfold enc; rw [if_neg (by omega), if_neg (by omega), if_neg (by intro q; exact q.elim h2.1 h2.2), if_neg (by omega)]
  have E := Aside0.mk e
  clear e h2
  go_enter Tryz.func130, Tryz.ntmps130
  go_wp2_with fail
  go_ret
  rw [E.out]
  exact ⟨rfl, rfl⟩
 have e : enc r = [224 + r / 4096, 128 + r / 64 % 64, 128 + r % 64] := by unfold enc; rw [if_neg (by omega), if_neg (by omega), if_neg (by intro q; exact q.elim h2.1 h2.2), if_pos (by omega)]
 have E := Aside0.mk e
 have hs : r < 55296 ∨ 57343 < r := by have a := h2.1; have b := h2.2; unfold isHigh at a; unfold isLow at b; omega
 clear e h2
 rcases hs with hs | hs
 rotate_left
 ·go_enter Tryz.func130, Tryz.ntmps130
  go_wp2_with fail
  go_ret
  rw [E.out]
  exact ⟨rfl, rfl⟩
 go_enter Tryz.func130, Tryz.ntmps130
 go_wp2_with fail
 go_ret
 rw [E.out]
 exact ⟨rfl, rfl⟩
theorem enc_calls (r : Int) (g off len cap : Nat) (w : World) (h0 : 0 ≤ r) (h1 : r ≤ 1114111) (h2 : ¬ isHigh r ∧ ¬ isLow r) (hl : 4 ≤ len)
  (c0 : w.cell? ⟨g, off, none⟩ = some (.int .u8 0)) (c1 : w.cell? ⟨g, off + 1, none⟩ = some (.int .u8 0)) (c2 : w.cell? ⟨g, off + 2, none⟩ = some (.int .u8 0)) (c3 : w.cell? ⟨g, off + 3, none⟩ = some (.int .u8 0)) (hf : ∀ i, w.frozen? ⟨g, i, none⟩ = false) :
  Calls Tryz.prog 96 #[.slice (some ⟨g, off, none⟩) len cap, .int .i32 r] w fun e w' => e = .returned (.int .i64 (enc r).length) ∧ w' = wrL w g off (enc r) := by
 by_cases k1 : r ≤ 127
 ·have e : enc r = [r] := by unfold enc; rw [if_pos (by omega)]
  have E := Aside0.mk e
  have f0 := hf off
  have hl0 : (0 : Int) < len := by omega
  clear e h2 hf
  go_enter Tryz.func96, Tryz.ntmps96
  go_wp2_with fail
  go_ret
  rw [E.out]
  exact ⟨rfl, rfl⟩
 have HC := Aside0.mk (encNA_calls r g off len cap w (by omega) h1 h2 hl c0 c1 c2 c3 hf)
 clear h2 hf c0 c1 c2 c3
 go_enter Tryz.func96, Tryz.ntmps96
 go_wp2_with fail
 refine HC.out.mono ?_
 rintro e w' ⟨rfl, hw⟩
 have HW := Aside0.mk hw
 clear hw
 go_wp2_with fail
 go_ret
 exact ⟨rfl, HW.out⟩
set_option maxHeartbeats 8000000
set_option maxRecDepth 8192
def putL (xs : List Int) : Nat → List Int → List Int
 | _, [] => xs
 | k, b :: r => putL (xs.set k b) (k + 1) r
theorem putL_take (l : List Int) : ∀ (xs : List Int) (k : Nat), k + l.length ≤ xs.length → (putL xs k l).take (k + l.length) = xs.take k ++ l := by
 induction l with
 | nil => intro xs k h; simp [putL]
 | cons b r ih =>
  intro xs k h
  simp only [List.length_cons] at h
  simp only [putL, List.length_cons]
  rw [show k + (r.length + 1) = k + 1 + r.length by omega, ih (xs.set k b) (k + 1) (by simp; omega)]
  rw [List.take_succ_eq_append_getElem (by simp; omega)]
  simp
  rw [List.take_set_of_le (Nat.le_refl _)]
section
variable {w : World} {base g m cap : Nat}
theorem own_wr (l : List Int) : ∀ {w : World} {xs : List Int} (k : Nat), w.ownsRow base 5 1 (.slice (some ⟨g, 0, none⟩) m cap) m (nums .u8 xs) → (wrL w g k l).ownsRow base 5 1 (.slice (some ⟨g, 0, none⟩) m cap) m (nums .u8 (putL xs k l)) := by
 induction l with
 | nil => intro w xs k h; exact h
 | cons b r ih =>
  intro w xs k h
  simp only [wrL, putL]
  refine ih (k + 1) ?_
  have := (own_store h (k : Int) b).1
  rwa [Int.toNat_natCast] at this
theorem below_wr (l : List Int) : ∀ {w0 w : World} (k : Nat), Below w0.heap.size w0 w → w0.heap.size ≤ g → Below w0.heap.size w0 (wrL w g k l) := by
 induction l with
 | nil => intro w0 w k h _; exact h
 | cons b r ih => intro w0 w k h hg; exact ih (k + 1) (below_set h hg) hg
theorem own_take {e : TypeId} {xs : List Int} {n : Nat} (h : w.ownsRow base e 1 (.slice (some ⟨g, 0, none⟩) n cap) n (nums .u8 xs)) (j : Nat) (hj : j ≤ n) : w.ownsRow base e 1 (.slice (some ⟨g, 0, none⟩) j cap) j (nums .u8 (xs.take j)) := by
 obtain ⟨h1, h2⟩ := h
 refine ⟨by simp [nums] at h1 ⊢; omega, ?_⟩
 rcases h2 with ⟨h2, _⟩ | ⟨g', cap', cur, h3, h4, h5, h6, h7, h8, h9⟩
 ·cases h2
 simp only [Value.slice.injEq, Option.some.injEq, Addr.mk.injEq, true_and, and_true] at h3
 obtain ⟨rfl, rfl⟩ := h3
 refine .inr ⟨g, cap, cur, rfl, h4, h5, by omega, h7, h8, ?_⟩
 have := congrArg (List.take j) h9
 rw [List.take_take] at this
 rw [show min j (n * 1) = j * 1 by omega] at this
 rw [this]
 simp [nums, List.map_take]
theorem own_block {e : TypeId} {xs : List Value} {n : Nat} (h : w.ownsRow base e 1 (.slice (some ⟨g, 0, none⟩) n cap) n xs) : base ≤ g ∧ n ≤ cap ∧ ∀ i, w.frozen? ⟨g, i, none⟩ = false := by
 obtain ⟨h1, h2⟩ := h
 rcases h2 with ⟨h2, _⟩ | ⟨g', cap', cur, h3, h4, h5, h6, h7, h8, h9⟩
 ·cases h2
 simp only [Value.slice.injEq, Option.some.injEq, Addr.mk.injEq, true_and, and_true] at h3
 obtain ⟨rfl, rfl⟩ := h3
 exact ⟨h4, h6, fun i => blk_frozen h5 i⟩
end
theorem zeros_cell {w : World} {base g cap : Nat} {pre : List Int} {n : Nat} (hn : pre.length = n) (h : w.ownsRow base 5 1 (.slice (some ⟨g, 0, none⟩) (n + 8) cap) (n + 8) (nums .u8 (pre ++ [0, 0, 0, 0, 0, 0, 0, 0]))) (j : Nat) (hj : j < 8) : w.cell? ⟨g, n + j, none⟩ = some (.int .u8 0) := by
 have := (own_at h ((n + j : Nat) : Int) (by omega) (by omega)).1
 rw [Int.toNat_natCast] at this
 rw [this]
 unfold rd
 rw [Int.toNat_natCast, List.getD_eq_getElem?_getD, List.getElem?_append_right (by omega)]
 have : n + j - pre.length = j := by omega
 rw [this]
 have hj' : j = 0 ∨ j = 1 ∨ j = 2 ∨ j = 3 ∨ j = 4 ∨ j = 5 ∨ j = 6 ∨ j = 7 := by omega
 rcases hj' with rfl | rfl | rfl | rfl | rfl | rfl | rfl | rfl <;> rfl
theorem runeit_at (s : ByteArray) (p q : Int) (hq : q = p + 2) (hz : s.size ≤ 65536) (h0 : 0 ≤ p) (h1 : p + 6 ≤ s.size) (h4 : hex4 s (p + 2)) :
  ∀ W, Calls Tryz.prog 93 #[.string (s.extract q.toNat s.size)] W fun e w' => e = .returned (.int .i32 (u4 s (p + 2))) ∧ Below W.heap.size W w' := by
 intro W
 subst hq
 have hb : ∀ x : Int, 0 ≤ x → x < 4 → bt (s.extract (p + 2).toNat s.size) x = bt s (p + 2 + x) := fun x a b => bt_extract' s _ _ x _ (by omega) a (by omega) (by omega)
 have e1 : u4 (s.extract (p + 2).toNat s.size) 0 = u4 s (p + 2) := by
  unfold u4 L.hd
  rw [hb 0 (by omega) (by omega), hb (0 + 1) (by omega) (by omega), hb (0 + 2) (by omega) (by omega), hb (0 + 3) (by omega) (by omega)]
  simp
 rw [← e1]
 exact runeit_calls _ W (by rw [ByteArray.size_extract]; omega) (by rw [ByteArray.size_extract]; omega) (fun x a b => by rw [hb x a (by omega)]; exact h4 _ (by omega) (by omega))
theorem own_below {w w2 : World} {base : Nat} {e : TypeId} {size : Nat} {v : Value} {n : Nat} {xs : List Value} (h : w.ownsRow base e size v n xs) (hb : Below w.heap.size w w2) : w2.ownsRow base e size v n xs := by
 obtain ⟨h1, h2⟩ := h
 refine ⟨h1, ?_⟩
 rcases h2 with h2 | ⟨g, cap, cur, h3, h4, h5, h6⟩
 ·exact .inl h2
 ·exact .inr ⟨g, cap, cur, h3, h4, (hb.block g (blk_lt h5)).trans h5, h6⟩
def z8 : List Int := [0, 0, 0, 0, 0, 0, 0, 0]
section
variable {ops : Array Oper} {rest : List Oper} {o : Oper} {a : Act} {Q : Exit → Act → World → Prop}
theorem zero_append {w0 : World} (W : World) (hgd : o.guard = none) (s x : Operand)
  (ho : o.op = .call { callee := .builtin .append, args := #[s, x], argTypes := #[103, 103] })
  (v : Value) (pre : List Int) (n : Nat) (hn : pre.length = n) (hs : a.eval s = v) (hx : a.eval x = .slice (some ⟨W.heap.size, 0, none⟩) 8 8)
  (HO : W.ownsRow w0.heap.size 5 1 v pre.length (nums .u8 pre)) (HB : Below w0.heap.size w0 W) (hl : n ≤ 100000)
  (h : ∀ g cap w1, w1.ownsRow w0.heap.size 5 1 (.slice (some ⟨g, 0, none⟩) (n + 8) cap) (n + 8) (nums .u8 (pre ++ z8)) → Below w0.heap.size w0 w1 → wpList Tryz.prog ops Q rest (a.put o.dst (.slice (some ⟨g, 0, none⟩) (n + 8) cap)) w1) :
  wpList Tryz.prog ops Q (o :: rest) a (W.alloc (.cells #[.int .u8 0, .int .u8 0, .int .u8 0, .int .u8 0, .int .u8 0, .int .u8 0, .int .u8 0, .int .u8 0] 5)) := by
 obtain ⟨i0, hi, hzz⟩ := Option.map_eq_some_iff.1 info5
 simp only [Prod.mk.injEq] at hzz
 obtain ⟨hz0, hz1, hz2⟩ := hzz
 subst hn
 refine wpList_append_own_at (W.alloc (.cells #[.int .u8 0, .int .u8 0, .int .u8 0, .int .u8 0, .int .u8 0, .int .u8 0, .int .u8 0, .int .u8 0] 5)) hgd s x 103 ho w0.heap.size 5 i0 (.int .u8 0) 1 1 Tryz.underlying103 hi hz0 hz1 hz2 rfl (by omega) v pre.length (nums .u8 pre) hs (HO.alloc _) ⟨W.heap.size, 0, none⟩ 8 8 (nums .u8 z8) hx rfl
  (World.news_of_block (cs := #[.int .u8 0, .int .u8 0, .int .u8 0, .int .u8 0, .int .u8 0, .int .u8 0, .int .u8 0, .int .u8 0]) (t := 5) (fr := (0, 0)) (heap_alloc_new W _)) (by intro u hu; simp [nums, z8] at hu; subst hu; rfl) (by simp only [maxLen]; omega) (by omega) (by have := HB.size; simp; omega) ?_
 intro v1 w1 hown hg _ hat
 have hown' : w1.ownsRow w0.heap.size 5 1 v1 (pre.length + 8) (nums .u8 (pre ++ z8)) := by
  have : nums .u8 (pre ++ z8) = nums .u8 pre ++ nums .u8 z8 := by simp [nums]
  rw [this]; exact hown
 obtain ⟨g, cap, rfl, _, _⟩ := hown'.form (by omega)
 exact h g cap w1 hown' ((HB.alloc HB.size _).grown hg (by have := HB.size; simp; omega) (own_base HO))
end
theorem size5 : (Tryz.prog.info? 5).map (·.size) = some 1 := by kernel_rfl
theorem cut8 (g n cap : Nat) (h : n + 8 ≤ cap) (W : World) : (Instr.slice 103 (.slice (some ⟨g, 0, none⟩) (n + 8) cap) (some (.int .i64 (n : Int))) none none).run Tryz.prog W = .ok (.slice (some ⟨g, n, none⟩) 8 (cap - n)) W := by
 obtain ⟨i, hi, hsz⟩ := Option.map_eq_some_iff.1 size5
 have hel : Tryz.prog.elem 103 = 5 := by simp [Program.elem, Tryz.underlying103]
 have hu : Tryz.prog.underlying 103 = some (.slice (Tryz.prog.elem 103)) := by rw [hel]; exact Tryz.underlying103
 rw [run_slice_l W 103 (some ⟨g, 0, none⟩) (n + 8) cap hu .i64 (n : Int) (Int.natCast_nonneg _) (by omega), hel]
 have hne : ¬ cap = n := by omega
 have ha : (⟨g, 0, none⟩ : Addr).add n = ⟨g, n, none⟩ := by rw [add_plain]
 simp [sizeOf, typeInfo, hi, hsz, sliced, Result.andThen, hne, ha]
theorem cutm (g n m cap : Nat) (h : n + m ≤ cap) (W : World) : (Instr.slice 103 (.slice (some ⟨g, 0, none⟩) (n + 8) cap) none (some (.int .i64 ((n : Int) + (m : Int)))) none).run Tryz.prog W = .ok (.slice (some ⟨g, 0, none⟩) (n + m) cap) W := by
 obtain ⟨i, hi, hsz⟩ := Option.map_eq_some_iff.1 size5
 have hel : Tryz.prog.elem 103 = 5 := by simp [Program.elem, Tryz.underlying103]
 have hu : Tryz.prog.underlying 103 = some (.slice (Tryz.prog.elem 103)) := by rw [hel]; exact Tryz.underlying103
 rw [run_slice_h W 103 (some ⟨g, 0, none⟩) (n + 8) cap hu .i64 ((n : Int) + m) (by omega) (by omega), hel]
 have ha : (⟨g, 0, none⟩ : Addr).add 0 = ⟨g, 0, none⟩ := rfl
 have e : ((n : Int) + (m : Int)).toNat = n + m := by omega
 simp [sizeOf, typeInfo, hi, hsz, sliced, Result.andThen, ha, e]
theorem own_enc {w1 : World} {base g n cap : Nat} {pre l : List Int} (hn : pre.length = n) (hl : l.length ≤ 8) (h : w1.ownsRow base 5 1 (.slice (some ⟨g, 0, none⟩) (n + 8) cap) (n + 8) (nums .u8 (pre ++ z8))) :
  (wrL w1 g n l).ownsRow base 5 1 (.slice (some ⟨g, 0, none⟩) (n + l.length) cap) (pre ++ l).length (nums .u8 (pre ++ l)) := by
 have h1 := own_take (own_wr l n h) (n + l.length) (by omega)
 rw [putL_take l (pre ++ z8) n (by simp [z8]; omega)] at h1
 have e : List.take n (pre ++ z8) = pre := by rw [← hn]; simp
 rw [e] at h1
 rw [List.length_append, hn]
 exact h1
def UnPost (o : List Int) (w : World) (e : Ending) (w' : World) : Prop := e = .returned (.string (strOfNums o)) ∧ Below w.heap.size w w'
theorem unescape_calls (s : ByteArray) (hz : s.size ≤ 65536) (hp : 0 < s.size) (o : List Int) (h : PDec s s.size 0 o) (hl : o.length ≤ 65536) (w : World) :
  Calls Tryz.prog 70 #[.string s] w (UnPost o w) := by
 have HP := Aside0.mk h
 have HL := Aside0.mk hl
 have hbt := bt_at s
 clear h hl
 have hown : ∀ v n (xs : List Int) W, W.ownsRow w.heap.size 5 1 v n (nums .u8 xs) → (convert 103 9 v).run Tryz.prog W = .ok (.string (strOfNums xs)) W := fun v n xs W H => own_string Tryz.underlying103 Tryz.underlying5 Tryz.underlying9 H
 obtain ⟨i0, hi0, hzz⟩ := Option.map_eq_some_iff.1 info5
 simp only [Prod.mk.injEq] at hzz
 obtain ⟨hz0, hz1, hz2⟩ := hzz
 obtain ⟨W, hmk, hO, hG⟩ := run_make_own (P := Tryz.prog) w w.heap.size 103 5 i0 (.int .u8 0) 1 Tryz.underlying103 hi0 hz0 hz1 .i64 .i64 s.size (by rw [hz2]; omega) (by simp only [maxLen]; omega) (Nat.le_refl _)
 clear hi0 hz0 hz1 hz2
 have hB : Below w.heap.size w W := (Below.refl _ _).grown hG (Nat.le_refl _) (by simp)
 have HO := Aside0.mk (show W.ownsRow w.heap.size 5 1 (.slice (some ⟨w.heap.size, 0, none⟩) 0 s.size) ([] : List Int).length (nums .u8 []) from hO)
 have HB := Aside0.mk hB
 clear hO hG hB
 go_enter Tryz.func70, Tryz.ntmps70
 go_wp2_with fail
 go_loopg [2, 3, 4, 5, 6] s.size (fun kq v2 v3 v4 v5 v6 w' => ∃ (i : Int) (pre o' : List Int), v2 = .string ⟨#[]⟩ ∧ v4 = .int .i64 i ∧ (0 ≤ i ∧ i ≤ s.size) ∧ (kq : Int) + i = s.size ∧ Aside0 (PDec s s.size i o') ∧ Aside0 (pre ++ o' = o) ∧ Aside0 (w'.ownsRow w.heap.size 5 1 v3 pre.length (nums .u8 pre)) ∧ Aside0 (Below w.heap.size w w'))
 case atStart => exact ⟨0, [], o, rfl, rfl, by omega, by omega, HP, ⟨rfl⟩, HO, HB⟩
 clear hmk HO HB HP
 obtain ⟨i, pre, o', rfl, rfl, hi, hk, HP, HE, HO, HB⟩ := hrel
 obtain ⟨x, hx⟩ : ∃ x, x = bt s i := ⟨_, rfl⟩
 have hxb : ∀ h : i.toNat < s.size, ((s[i.toNat]'h).toNat : Int) = x := fun h => by rw [hx]; exact bt_at s i h
 have hx0 : 0 ≤ x ∧ x ≤ 255 := by rw [hx]; exact bt_range s i
 have h0i : 0 ≤ i := hi.1
 clear hbt
 have HLP : pre.length ≤ 65536 := by
  have := HL.out
  rw [← HE.out, List.length_append] at this
  omega
 cases HP.out with
 | nil =>
  have hcv := hown _ _ _ _ HO.out
  have he := HE.out
  rw [List.append_nil] at he
  have HE2 := Aside0.mk he
  clear he hown hxb hx HE
  go_wp2_with fail
  go_ret
  exact ⟨by first | rfl | (rw [HE2.out]; rfl), HB.out⟩
 | plain _ o2 q1 q2 q3 q4 q5 q6 =>
  have x1 : decide (x < 32) = false := decide_eq_false (by rw [hx]; omega)
  have x2 : (x == 92) = false := beq_eq_false_iff_ne.mpr (by rw [hx]; exact q3)
  have q6' := Aside0.mk q6
  have HX := Aside0.mk hx
  clear q3 q4 q5 q6 hx hown
  go_wp2_with (at_builtin; refine print_append_num (w0 := w) w.heap.size rfl (.tmp 16) (.tmp 20) 103 5 .u8 1 rfl Tryz.underlying103 info5 (by decide) u3 pre _ rfl rfl HO.out HB.out HB.out.size (by omega) ?_; intro v1 w1 hown1 hB1 hg1 hat1; have HO1 := Aside0.mk hown1; have HB1 := Aside0.mk hB1; clear hown1 hB1 hg1 hat1)
  go_roundg (gk - 1)
  case measure => omega
  case rel => exact ⟨_, pre ++ [x], o2, rfl, rfl, by omega, by omega, q6', ⟨by rw [← HE.out, HX.out, List.append_assoc]; rfl⟩, HO1, HB1⟩
 | esc _ o2 q1 q2 q3 q4 q5 =>
  obtain ⟨y, hy⟩ : ∃ y, y = bt s (i + 1) := ⟨_, rfl⟩
  have hyb : ∀ h : (i + 1).toNat < s.size, ((s[(i + 1).toNat]'h).toNat : Int) = y := fun h => by rw [hy]; exact bt_at s (i + 1) h
  obtain rfl : x = 92 := hx.trans q3
  rw [← hy] at q4
  have HY := Aside0.mk hy
  have q5' := Aside0.mk q5
  clear q3 q5 hx hy hown
  rcases q4 with rfl | rfl | rfl | rfl | rfl | rfl | rfl | rfl
  rotate_left
  ·go_wp2_with (at_builtin; refine print_append_num (w0 := w) w.heap.size rfl (.tmp 49) (.tmp 50) 103 5 .u8 1 rfl Tryz.underlying103 info5 (by decide) u3 pre _ rfl rfl HO.out HB.out HB.out.size (by omega) ?_; intro v1 w1 hown1 hB1 hg1 hat1; have HO1 := Aside0.mk hown1; have HB1 := Aside0.mk hB1; clear hown1 hB1 hg1 hat1)
   go_roundg (gk - 2)
   case measure => omega
   case rel => exact ⟨_, pre ++ [92], o2, rfl, rfl, by omega, by omega, by first | exact q5' | exact ⟨by have := q5'.out; rwa [show i + 2 = i + 1 + 1 by omega] at this⟩, ⟨by rw [← HE.out, ← HY.out, List.append_assoc]; rfl⟩, HO1, HB1⟩
  ·go_wp2_with (at_builtin; refine print_append_num (w0 := w) w.heap.size rfl (.tmp 54) (.tmp 55) 103 5 .u8 1 rfl Tryz.underlying103 info5 (by decide) u3 pre _ rfl rfl HO.out HB.out HB.out.size (by omega) ?_; intro v1 w1 hown1 hB1 hg1 hat1; have HO1 := Aside0.mk hown1; have HB1 := Aside0.mk hB1; clear hown1 hB1 hg1 hat1)
   go_roundg (gk - 2)
   case measure => omega
   case rel => exact ⟨_, pre ++ [47], o2, rfl, rfl, by omega, by omega, by first | exact q5' | exact ⟨by have := q5'.out; rwa [show i + 2 = i + 1 + 1 by omega] at this⟩, ⟨by rw [← HE.out, ← HY.out, List.append_assoc]; rfl⟩, HO1, HB1⟩
  ·go_wp2_with (at_builtin; refine print_append_num (w0 := w) w.heap.size rfl (.tmp 59) (.tmp 60) 103 5 .u8 1 rfl Tryz.underlying103 info5 (by decide) u3 pre _ rfl rfl HO.out HB.out HB.out.size (by omega) ?_; intro v1 w1 hown1 hB1 hg1 hat1; have HO1 := Aside0.mk hown1; have HB1 := Aside0.mk hB1; clear hown1 hB1 hg1 hat1)
   go_roundg (gk - 2)
   case measure => omega
   case rel => exact ⟨_, pre ++ [8], o2, rfl, rfl, by omega, by omega, by first | exact q5' | exact ⟨by have := q5'.out; rwa [show i + 2 = i + 1 + 1 by omega] at this⟩, ⟨by rw [← HE.out, ← HY.out, List.append_assoc]; rfl⟩, HO1, HB1⟩
  ·go_wp2_with (at_builtin; refine print_append_num (w0 := w) w.heap.size rfl (.tmp 64) (.tmp 65) 103 5 .u8 1 rfl Tryz.underlying103 info5 (by decide) u3 pre _ rfl rfl HO.out HB.out HB.out.size (by omega) ?_; intro v1 w1 hown1 hB1 hg1 hat1; have HO1 := Aside0.mk hown1; have HB1 := Aside0.mk hB1; clear hown1 hB1 hg1 hat1)
   go_roundg (gk - 2)
   case measure => omega
   case rel => exact ⟨_, pre ++ [12], o2, rfl, rfl, by omega, by omega, by first | exact q5' | exact ⟨by have := q5'.out; rwa [show i + 2 = i + 1 + 1 by omega] at this⟩, ⟨by rw [← HE.out, ← HY.out, List.append_assoc]; rfl⟩, HO1, HB1⟩
  ·go_wp2_with (at_builtin; refine print_append_num (w0 := w) w.heap.size rfl (.tmp 69) (.tmp 70) 103 5 .u8 1 rfl Tryz.underlying103 info5 (by decide) u3 pre _ rfl rfl HO.out HB.out HB.out.size (by omega) ?_; intro v1 w1 hown1 hB1 hg1 hat1; have HO1 := Aside0.mk hown1; have HB1 := Aside0.mk hB1; clear hown1 hB1 hg1 hat1)
   go_roundg (gk - 2)
   case measure => omega
   case rel => exact ⟨_, pre ++ [10], o2, rfl, rfl, by omega, by omega, by first | exact q5' | exact ⟨by have := q5'.out; rwa [show i + 2 = i + 1 + 1 by omega] at this⟩, ⟨by rw [← HE.out, ← HY.out, List.append_assoc]; rfl⟩, HO1, HB1⟩
  ·go_wp2_with (at_builtin; refine print_append_num (w0 := w) w.heap.size rfl (.tmp 74) (.tmp 75) 103 5 .u8 1 rfl Tryz.underlying103 info5 (by decide) u3 pre _ rfl rfl HO.out HB.out HB.out.size (by omega) ?_; intro v1 w1 hown1 hB1 hg1 hat1; have HO1 := Aside0.mk hown1; have HB1 := Aside0.mk hB1; clear hown1 hB1 hg1 hat1)
   go_roundg (gk - 2)
   case measure => omega
   case rel => exact ⟨_, pre ++ [13], o2, rfl, rfl, by omega, by omega, by first | exact q5' | exact ⟨by have := q5'.out; rwa [show i + 2 = i + 1 + 1 by omega] at this⟩, ⟨by rw [← HE.out, ← HY.out, List.append_assoc]; rfl⟩, HO1, HB1⟩
  ·go_wp2_with (at_builtin; refine print_append_num (w0 := w) w.heap.size rfl (.tmp 79) (.tmp 80) 103 5 .u8 1 rfl Tryz.underlying103 info5 (by decide) u3 pre _ rfl rfl HO.out HB.out HB.out.size (by omega) ?_; intro v1 w1 hown1 hB1 hg1 hat1; have HO1 := Aside0.mk hown1; have HB1 := Aside0.mk hB1; clear hown1 hB1 hg1 hat1)
   go_roundg (gk - 2)
   case measure => omega
   case rel => exact ⟨_, pre ++ [9], o2, rfl, rfl, by omega, by omega, by first | exact q5' | exact ⟨by have := q5'.out; rwa [show i + 2 = i + 1 + 1 by omega] at this⟩, ⟨by rw [← HE.out, ← HY.out, List.append_assoc]; rfl⟩, HO1, HB1⟩
  go_wp2_with (at_builtin; refine print_append_num (w0 := w) w.heap.size rfl (.tmp 84) (.tmp 85) 103 5 .u8 1 rfl Tryz.underlying103 info5 (by decide) u3 pre _ rfl rfl HO.out HB.out HB.out.size (by omega) ?_; intro v1 w1 hown1 hB1 hg1 hat1; have HO1 := Aside0.mk hown1; have HB1 := Aside0.mk hB1; clear hown1 hB1 hg1 hat1)
  go_roundg (gk - 2)
  case measure => omega
  case rel => exact ⟨_, pre ++ [34], o2, rfl, rfl, by omega, by omega, by first | exact q5' | exact ⟨by have := q5'.out; rwa [show i + 2 = i + 1 + 1 by omega] at this⟩, ⟨by rw [← HE.out, ← HY.out, List.append_assoc]; rfl⟩, HO1, HB1⟩
 | uni _ o2 q1 q2 q3 q4 =>
  obtain ⟨u0, u1, u2, u3', u4'⟩ := q1
  obtain rfl : x = 92 := hx.trans u2
  have hRU := runeit_at s i (i + 1 + 1) (by omega) hz u0 u1 u4'
  have hyb : ∀ h : (i + 1).toNat < s.size, ((s[(i + 1).toNat]'h).toNat : Int) = 117 := fun h => by rw [← u3']; exact bt_at s (i + 1) h
  have hr := u4_range s (i + 2)
  have HQ4 := Aside0.mk q4
  have HRU := Aside0.mk hRU
  have HNS := Aside0.mk (And.intro q2 q3)
  clear q2 q3 q4 hRU hx u2 u3' u4'
  obtain ⟨r, hrr⟩ : ∃ r, r = u4 s (i + 2) := ⟨_, rfl⟩
  rw [← hrr] at HRU HNS hr
  have HR := Aside0.mk hrr
  clear hrr hown
  go_wp2_with fail
  refine (HRU.out _).mono ?_
  rintro e w2 ⟨rfl, hb2⟩
  go_wp2_with fail
  refine (isSurr_no _ _ HNS.out.1 HNS.out.2).mono ?_
  rintro e w3 ⟨rfl, rfl⟩
  have HO2 := Aside0.mk (own_below HO.out hb2)
  have HB2 := Aside0.mk (HB.out.trans (hb2.mono HB.out.size))
  obtain ⟨n, hn⟩ : ∃ n, n = pre.length := ⟨_, rfl⟩
  have HN := Aside0.mk hn.symm
  rw [← hn] at HLP
  clear hn hb2 HO HB
  go_wp2_with (at_builtin; refine zero_append (w0 := w) _ rfl (.tmp 132) (.tmp 133) rfl u3 pre n HN.out rfl rfl HO2.out HB2.out (by omega) ?_; intro g cap w1 hown1 hB1; have HO1 := Aside0.mk hown1; have HB1 := Aside0.mk hB1; have hcut := cut8 g n cap (own_block hown1).2.1; clear hown1 hB1)
  refine (enc_calls r g n 8 (cap - n) _ (by omega) (by omega) HNS.out (by omega) (zeros_cell HN.out HO1.out 0 (by omega)) (zeros_cell HN.out HO1.out 1 (by omega)) (zeros_cell HN.out HO1.out 2 (by omega)) (zeros_cell HN.out HO1.out 3 (by omega)) (own_block HO1.out).2.2).mono ?_
  rintro e w4 ⟨rfl, rfl⟩
  have HO3 := Aside0.mk (own_enc HN.out (show (enc r).length ≤ 8 by have := (enc_length r).2; omega) HO1.out)
  have HB3 := Aside0.mk (below_wr (enc r) n HB1.out (own_block HO1.out).1)
  have hm := enc_length r
  have hcut2 := cutm g n (enc r).length cap (by have := (own_block HO1.out).2.1; omega)
  have HEQ := Aside0.mk (show (pre ++ enc r) ++ o2 = o by rw [List.append_assoc, HR.out]; exact HE.out)
  clear HO1 HB1 hcut
  generalize enc r = l at *
  obtain ⟨W5, hW5⟩ : ∃ W5, W5 = wrL w1 g n l := ⟨_, rfl⟩
  rw [← hW5] at HO3 HB3 ⊢
  clear hW5
  go_wp2_with fail
  go_roundg (gk - 6)
  case measure => omega
  case rel => exact ⟨_, pre ++ l, o2, rfl, rfl, by omega, by omega, by first | exact HQ4 | exact ⟨by have := HQ4.out; rwa [show i + 6 = i + 1 + 5 by omega] at this⟩, HEQ, HO3, HB3⟩
 | pair _ o2 q1 q2 q3 =>
  obtain ⟨u0, u1, u2, u3', u4'⟩ := q1
  obtain ⟨⟨v0, v1, v2, v3, v4⟩, qH, qL⟩ := q2
  obtain rfl : x = 92 := hx.trans u2
  have hRU := runeit_at s i (i + 1 + 1) (by omega) hz u0 u1 u4'
  have hRV := runeit_at s (i + 6) (i + 1 + 5 + 2) (by omega) hz v0 v1 v4
  rw [show i + 6 + 2 = i + 8 by omega] at hRV
  have hyb : ∀ h : (i + 1).toNat < s.size, ((s[(i + 1).toNat]'h).toNat : Int) = 117 := fun h => by rw [← u3']; exact bt_at s (i + 1) h
  have hyc : ∀ h : (i + 1 + 5).toNat < s.size, ((s[(i + 1 + 5).toNat]'h).toNat : Int) = 92 := fun h => by rw [← v2, show i + 6 = i + 1 + 5 by omega]; exact bt_at s (i + 1 + 5) h
  have hyd : ∀ h : (i + 1 + 5 + 1).toNat < s.size, ((s[(i + 1 + 5 + 1).toNat]'h).toNat : Int) = 117 := fun h => by rw [← v3, show i + 6 + 1 = i + 1 + 5 + 1 by omega]; exact bt_at s (i + 1 + 5 + 1) h
  have hr := u4_range s (i + 2)
  have hr2 := u4_range s (i + 8)
  have HQ4 := Aside0.mk q3
  have HRU := Aside0.mk hRU
  have HRV := Aside0.mk hRV
  have HNS := Aside0.mk (And.intro qH qL)
  clear q3 qH qL hRU hRV hx u2 u3' u4' v0 v2 v3 v4
  obtain ⟨r1, hrr⟩ : ∃ r, r = u4 s (i + 2) := ⟨_, rfl⟩
  obtain ⟨r2, hrr2⟩ : ∃ r, r = u4 s (i + 8) := ⟨_, rfl⟩
  have HE' := HE.out
  rw [← hrr, ← hrr2] at HE'
  rw [← hrr] at HRU HNS hr
  rw [← hrr2] at HRV HNS hr2
  have HR := Aside0.mk HE'
  clear hrr hrr2 hown HE HE'
  go_wp2_with fail
  refine (HRU.out _).mono ?_
  rintro e w2 ⟨rfl, hb2⟩
  go_wp2_with fail
  refine (isSurr_yes _ _ (.inl HNS.out.1)).mono ?_
  rintro e w3 ⟨rfl, rfl⟩
  go_wp2_with fail
  refine (HRV.out _).mono ?_
  rintro e w3 ⟨rfl, hb3⟩
  go_wp2_with fail
  refine (decRune_calls _ _ _ HNS.out.1 HNS.out.2).mono ?_
  rintro e w4 ⟨rfl, rfl⟩
  obtain ⟨r, hr⟩ : ∃ r, r = 65536 + (r1 - 55296) * 1024 + (r2 - 56320) := ⟨_, rfl⟩
  rw [← hr] at HR ⊢
  have hrb : 65536 ≤ r ∧ r ≤ 1114111 := by
   have a := HNS.out.1
   have b := HNS.out.2
   unfold isHigh at a
   unfold isLow at b
   omega
  have hrn : ¬ isHigh r ∧ ¬ isLow r := by unfold isHigh isLow; omega
  have HRN := Aside0.mk hrn
  clear hr hrn
  have HO2 := Aside0.mk (own_below (own_below HO.out hb2) hb3)
  have HB2 := Aside0.mk ((HB.out.trans (hb2.mono HB.out.size)).trans (hb3.mono (Nat.le_trans HB.out.size hb2.size)))
  obtain ⟨n, hn⟩ : ∃ n, n = pre.length := ⟨_, rfl⟩
  have HN := Aside0.mk hn.symm
  rw [← hn] at HLP
  clear hn hb2 hb3 HO HB
  go_wp2_with (at_builtin; refine zero_append (w0 := w) _ rfl (.tmp 132) (.tmp 133) rfl u3 pre n HN.out rfl rfl HO2.out HB2.out (by omega) ?_; intro g cap w1 hown1 hB1; have HO1 := Aside0.mk hown1; have HB1 := Aside0.mk hB1; have hcut := cut8 g n cap (own_block hown1).2.1; clear hown1 hB1)
  refine (enc_calls r g n 8 (cap - n) _ (by omega) (by omega) HRN.out (by omega) (zeros_cell HN.out HO1.out 0 (by omega)) (zeros_cell HN.out HO1.out 1 (by omega)) (zeros_cell HN.out HO1.out 2 (by omega)) (zeros_cell HN.out HO1.out 3 (by omega)) (own_block HO1.out).2.2).mono ?_
  rintro e w4 ⟨rfl, rfl⟩
  have HO3 := Aside0.mk (own_enc HN.out (show (enc r).length ≤ 8 by have := (enc_length r).2; omega) HO1.out)
  have HB3 := Aside0.mk (below_wr (enc r) n HB1.out (own_block HO1.out).1)
  have hm := enc_length r
  have hcut2 := cutm g n (enc r).length cap (by have := (own_block HO1.out).2.1; omega)
  have HEQ := Aside0.mk (show (pre ++ enc r) ++ o2 = o by rw [List.append_assoc]; exact HR.out)
  clear HO1 HB1 hcut HR
  generalize enc r = l at *
  obtain ⟨W5, hW5⟩ : ∃ W5, W5 = wrL w1 g n l := ⟨_, rfl⟩
  rw [← hW5] at HO3 HB3 ⊢
  clear hW5
  go_wp2_with fail
  go_roundg (gk - 12)
  case measure => omega
  case rel => exact ⟨_, pre ++ l, o2, rfl, rfl, by omega, by omega, by first | exact HQ4 | exact ⟨by have := HQ4.out; rwa [show i + 12 = i + 1 + 5 + 6 by omega] at this⟩, HEQ, HO3, HB3⟩
abbrev bO (s : ByteArray) : List Int := Go.Proofs.YtgiioglmkogpkaaGreatDoorW.PrintWords.bytesOf s
theorem str_bytes (s : ByteArray) : strOfNums (bO s) = s := by
 unfold bO Go.Proofs.YtgiioglmkogpkaaGreatDoorW.PrintWords.bytesOf
 exact Go.Lib.Lz.strOfNums_map _
theorem pdec_plain {t : ByteArray} {i : Int} {o : List Int} (h : PDec t t.size i o) : (∀ k, i ≤ k → k < t.size → bt t k ≠ 92) → 0 ≤ i → o = (bO t).drop i.toNat := by
 induction h with
 | nil =>
  intro _ _
  have e : (t.size : Int).toNat = (bO t).length := by rw [bytesOf_length]; omega
  rw [e, List.drop_length]
 | plain i o a b c d e f ih =>
  intro hn h0
  have hi := ih (fun k q1 q2 => hn k (by omega) q2) (by omega)
  have hlt : i.toNat < (bO t).length := by rw [bytesOf_length]; omega
  rw [List.drop_eq_getElem_cons hlt, hi, show (i + 1).toNat = i.toNat + 1 by omega]
  congr 1
  have := rd_bytesOf t i
  unfold rd at this
  rw [List.getD_eq_getElem?_getD, List.getElem?_eq_getElem hlt] at this
  exact this.symm
 | esc i o a b c d e f => intro hn h0; exact absurd c (hn i (by omega) (by omega))
 | uni i o a b c d e => intro hn h0; exact absurd a.2.2.1 (hn i (by omega) (by have := a.2.1; omega))
 | pair i o a b c d => intro hn h0; exact absurd a.2.2.1 (hn i (by omega) (by have := a.2.1; omega))
theorem exists_calls (T : Int) (raw str : ByteArray) (x : Nat) (w : World) (h : T ≠ 0 ∨ 0 < raw.size) :
  Calls Tryz.prog 63 #[.agg #[.int .i64 T, .string raw, .string str, .float .f64 x, .int .i64 0, .slice none 0 0]] w fun e w' => e = .returned (.bool true) ∧ Below w.heap.size w w' := by
 by_cases hT : T = 0
 rotate_left
 ·have hT0 : (T != 0) = true := bne_iff_ne.mpr hT
  clear hT h
  go_enter Tryz.func63, Tryz.ntmps63
  go_wp2_with fail
  go_ret
  exact ⟨rfl, below_alloc (Below.refl _ _) _⟩
 have hr : 0 < raw.size := h.resolve_left (fun q => q hT)
 have hT0 : (T != 0) = false := bne_eq_false_iff_eq.mpr hT
 have hr0 : ((raw.size : Int) != 0) = true := bne_iff_ne.mpr (by omega)
 clear hT h hr
 go_enter Tryz.func63, Tryz.ntmps63
 go_wp2_with fail
 go_ret
 exact ⟨rfl, below_alloc (Below.refl _ _) _⟩
set_option maxHeartbeats 8000000
set_option maxRecDepth 8192
theorem run_store_float (P : Program) (w : World) (a : Addr) (m : Mode) (k : FloatKind) (x : Nat) : (store a (.float k x) m).run P w = stored P w a (.float k x) m := run_store P w a _ m rfl
attribute [local go_sem] run_store_float
abbrev res (T : Int) (raw str : ByteArray) (x : Nat) : Value := .agg #[.int .i64 T, .string raw, .string str, .float .f64 x, .int .i64 0, .slice none 0 0]
def PaPost (T : Int) (s str : ByteArray) (w : World) (e : Ending) (w' : World) : Prop := ∃ x : Nat, e = .returned (res T s str x) ∧ Below w.heap.size w w'
noncomputable def paTail : Code := match Tryz.f43.body with
 | some c => tl (tl (tl (tl c)))
 | none => .skip
noncomputable def paLoop : Code := match Tryz.f43.body with
 | some c => (match hd1 (tl (tl (tl c))) with
  | .block _ c => c
  | c => c)
 | none => .skip
structure Two (w W : World) (g v : Nat) (T : Int) (raw str : ByteArray) (x : Nat) : Prop where
 hg : W.heap[g]? = some (.cells #[.int .i64 0, .string ⟨#[]⟩, .string ⟨#[]⟩, .float .f64 0, .int .i64 0, .slice none 0 0] 66 (0, 0))
 hv : W.heap[v]? = some (.cells #[.int .i64 T, .string raw, .string str, .float .f64 x, .int .i64 0, .slice none 0 0] 66 (0, 0))
 ne : g ≠ v
 gb : w.heap.size ≤ g
 vb : w.heap.size ≤ v
 be : Below w.heap.size w W
theorem Two.below {w W w2 : World} {g v : Nat} {T : Int} {raw str : ByteArray} {x : Nat} (h : Two w W g v T raw str x) (hb : Below W.heap.size W w2) : Two w w2 g v T raw str x :=
 ⟨(hb.block g (blk_lt h.hg)).trans h.hg, (hb.block v (blk_lt h.hv)).trans h.hv, h.ne, h.gb, h.vb, h.be.trans (hb.mono h.be.size)⟩
theorem Two.set {w W : World} {g v : Nat} {T : Int} {raw str : ByteArray} {x : Nat} (h : Two w W g v T raw str x) (j : Nat) (u : Value) {T' : Int} {raw' str' : ByteArray} {x' : Nat}
  (hc : (#[.int .i64 T, .string raw, .string str, .float .f64 x, .int .i64 0, .slice none 0 0] : Array Value).setIfInBounds j u = #[.int .i64 T', .string raw', .string str', .float .f64 x', .int .i64 0, .slice none 0 0]) :
  Two w (W.setCell ⟨v, j, none⟩ u) g v T' raw' str' x' :=
 ⟨(Below.heap_setCell W ⟨v, j, none⟩ u g h.ne).trans h.hg, by rw [← hc]; exact blk_set h.hv j u, h.ne, h.gb, h.vb, below_set h.be h.vb⟩
theorem paEnd (s str : ByteArray) (T : Int) (x : Nat) (w W : World) (g : Nat) (tm : Array Value) (h2 : tm.getD 2 undef = .pointer (some ⟨g, 0, none⟩)) (hg : W.heap[g]? = some (.cells #[.int .i64 T, .string s, .string str, .float .f64 x, .int .i64 0, .slice none 0 0] 66 (0, 0))) (hb : Below w.heap.size w W) :
  bodyPost Tryz.prog Tryz.f43 (PaPost T s str w) .ret ⟨tm, []⟩ W := by
 have n0 := blk_cell hg 0
 have n1 := blk_cell hg 1
 have n2 := blk_cell hg 2
 have n3 := blk_cell hg 3
 have n4 := blk_cell hg 4
 have n5 := blk_cell hg 5
 refine bodyPost_ret (v := res T s str x) ?_ rfl ⟨x, rfl, hb⟩
 simp only [results, Tryz.results43]
 have h2' := h2
 simp only [Array.getD_eq_getD_getElem?] at h2'
 simp [go_sem, h2, h2', n0, n1, n2, n3, n4, n5]
theorem paTail_wp (s str : ByteArray) (T : Int) (x : Nat) (w W : World) (g v : Nat) (H : Two w W g v T s str x) (hT : T ≠ 0 ∨ 0 < s.size) (Q : Exit → Act → World → Prop) (hQ : ∀ a w', bodyPost Tryz.prog Tryz.f43 (PaPost T s str w) .ret a w' → Q .ret a w') (u1 u5 u6 u7 u8 u9 u10 u11 u12 u13 u14 u15 u16 u17 u18 u19 u20 u21 u22 u23 u24 u25 u26 u27 u28 u29 u30 u31 u32 u33 u34 u35 u36 u37 u38 u39 u40 u41 u42 u43 u44 u45 u46 u47 u48 u49 u50 u51 u52 u53 u54 u55 u56 u57 u58 u59 u60 u61 u62 u63 u64 u65 u66 u67 u68 u69 u70 u71 u72 u73 u74 u75 u76 u77 u78 u79 u80 u81 u82 u83 u84 u85 u86 u87 u88 u89 u90 u91 u92 u93 u94 u95 u96 u97 u98 u99 u100 u101 u102 u103 u104 u105 u106 u107 u108 u109 u110 u111 u112 u113 u114 u115 u116 u117 u118 u119 u120 u121 u122 : Value) :
  paTail.wp Tryz.prog Q ⟨List.toArray [.string s, u1, .pointer (some ⟨g, 0, none⟩), .pointer (some ⟨v, 0, none⟩), .int .i64 0, u5, u6, u7, u8, u9, u10, u11, u12, u13, u14, u15, u16, u17, u18, u19, u20, u21, u22, u23, u24, u25, u26, u27, u28, u29, u30, u31, u32, u33, u34, u35, u36, u37, u38, u39, u40, u41, u42, u43, u44, u45, u46, u47, u48, u49, u50, u51, u52, u53, u54, u55, u56, u57, u58, u59, u60, u61, u62, u63, u64, u65, u66, u67, u68, u69, u70, u71, u72, u73, u74, u75, u76, u77, u78, u79, u80, u81, u82, u83, u84, u85, u86, u87, u88, u89, u90, u91, u92, u93, u94, u95, u96, u97, u98, u99, u100, u101, u102, u103, u104, u105, u106, u107, u108, u109, u110, u111, u112, u113, u114, u115, u116, u117, u118, u119, u120, u121, u122], []⟩ W := by
 have HQ := Aside0.mk hQ
 clear hQ
 have HH := Aside0.mk H
 have k0 := blk_cell H.hv 0
 have k1 := blk_cell H.hv 1
 have k2 := blk_cell H.hv 2
 have k3 := blk_cell H.hv 3
 have k4 := blk_cell H.hv 4
 have k5 := blk_cell H.hv 5
 clear H
 simp only [paTail, Tryz.f43, tl]
 go_wp2_with fail
 refine (exists_calls T s str x _ hT).mono ?_
 rintro e w2 ⟨rfl, hb⟩
 have H2 := HH.out.below hb
 have HH2 := Aside0.mk H2
 have m0 := blk_cell H2.hv 0
 have m1 := blk_cell H2.hv 1
 have m2 := blk_cell H2.hv 2
 have m3 := blk_cell H2.hv 3
 have m4 := blk_cell H2.hv 4
 have m5 := blk_cell H2.hv 5
 have n0 := blk_cell H2.hg 0
 have n1 := blk_cell H2.hg 1
 have n2 := blk_cell H2.hg 2
 have n3 := blk_cell H2.hg 3
 have n4 := blk_cell H2.hg 4
 have n5 := blk_cell H2.hg 5
 have f0 := blk_frozen H2.hv
 have f1 := blk_frozen H2.hg
 have hne := H2.ne
 have hne' := H2.ne.symm
 clear H2 hb k0 k1 k2 k3 k4 k5
 go_wp2_with fail
 refine HQ.out _ _ (paEnd s str T x w _ g _ rfl ?_ ?_)
 ·exact blk_set (blk_set (blk_set (blk_set (blk_set (blk_set ((Below.heap_setCell w2 ⟨v, 4, none⟩ _ g hne).trans HH2.out.hg) 0 _) 1 _) 2 _) 3 _) 4 _) 5 _
 ·exact below_set (below_set (below_set (below_set (below_set (below_set (below_set HH2.out.be HH2.out.vb) HH2.out.gb) HH2.out.gb) HH2.out.gb) HH2.out.gb) HH2.out.gb) HH2.out.gb
theorem paLoop_json (s : ByteArray) (w W : World) (g v : Nat) (K : Act → World → Prop) (Q : Exit → Act → World → Prop) (hK : ∀ a w', paTail.wp Tryz.prog Q a w' → K a w') (H : Two w W g v 0 ⟨#[]⟩ ⟨#[]⟩ 0) (hz : s.size ≤ 274877906944) (hs : 0 < s.size) (h : bt s 0 = 123 ∨ bt s 0 = 91) (hQ : ∀ a w', bodyPost Tryz.prog Tryz.f43 (PaPost 5 s ⟨#[]⟩ w) .ret a w' → Q .ret a w') (u1 u5 u6 u7 u8 u9 u10 u11 u12 u13 u14 u15 u16 u17 u18 u19 u20 u21 u22 u23 u24 u25 u26 u27 u28 u29 u30 u31 u32 u33 u34 u35 u36 u37 u38 u39 u40 u41 u42 u43 u44 u45 u46 u47 u48 u49 u50 u51 u52 u53 u54 u55 u56 u57 u58 u59 u60 u61 u62 u63 u64 u65 u66 u67 u68 u69 u70 u71 u72 u73 u74 u75 u76 u77 u78 u79 u80 u81 u82 u83 u84 u85 u86 u87 u88 u89 u90 u91 u92 u93 u94 u95 u96 u97 u98 u99 u100 u101 u102 u103 u104 u105 u106 u107 u108 u109 u110 u111 u112 u113 u114 u115 u116 u117 u118 u119 u120 u121 u122 : Value) :
  paLoop.wp Tryz.prog (Exit.inBlock 0 (Exit.then K Q)) ⟨List.toArray [.string s, u1, .pointer (some ⟨g, 0, none⟩), .pointer (some ⟨v, 0, none⟩), .int .i64 0, u5, u6, u7, u8, u9, u10, u11, u12, u13, u14, u15, u16, u17, u18, u19, u20, u21, u22, u23, u24, u25, u26, u27, u28, u29, u30, u31, u32, u33, u34, u35, u36, u37, u38, u39, u40, u41, u42, u43, u44, u45, u46, u47, u48, u49, u50, u51, u52, u53, u54, u55, u56, u57, u58, u59, u60, u61, u62, u63, u64, u65, u66, u67, u68, u69, u70, u71, u72, u73, u74, u75, u76, u77, u78, u79, u80, u81, u82, u83, u84, u85, u86, u87, u88, u89, u90, u91, u92, u93, u94, u95, u96, u97, u98, u99, u100, u101, u102, u103, u104, u105, u106, u107, u108, u109, u110, u111, u112, u113, u114, u115, u116, u117, u118, u119, u120, u121, u122], []⟩ W := by
 have hb0 : ∀ h : 0 < s.size, ((s[0]'h).toNat : Int) = bt s 0 := bt_at s 0
 have hex : s.extract 0 s.size = s := ByteArray.extract_zero_size
 have HK := Aside0.mk hK
 have HQ := Aside0.mk hQ
 have HH := Aside0.mk H
 have k0 := blk_cell H.hv 0
 have k1 := blk_cell H.hv 1
 have k2 := blk_cell H.hv 2
 have k3 := blk_cell H.hv 3
 have f0 := blk_frozen H.hv
 clear hK hQ H
 simp only [paLoop, Tryz.f43, tl, hd1]
 go_loopg [4] 0 (fun kq v4 w' => v4 = .int .i64 0 ∧ W = w')
 case atStart => exact ⟨rfl, rfl⟩
 obtain ⟨rfl, rfl⟩ := hrel
 rcases h with h | h
 ·have x1 : (bt s 0 == 123) = true := beq_iff_eq.mpr h
  clear h
  go_wp2_with fail
  exact HK.out _ _ (paTail_wp s ⟨#[]⟩ 5 0 w _ g v ((HH.out.set 0 _ rfl).set 1 _ rfl) (.inl (by omega)) Q HQ.out _ _ _ _ _ _ _ _ _ _ _ _ _ _ _ _ _ _ _ _ _ _ _ _ _ _ _ _ _ _ _ _ _ _ _ _ _ _ _ _ _ _ _ _ _ _ _ _ _ _ _ _ _ _ _ _ _ _ _ _ _ _ _ _ _ _ _ _ _ _ _ _ _ _ _ _ _ _ _ _ _ _ _ _ _ _ _ _ _ _ _ _ _ _ _ _ _ _ _ _ _ _ _ _ _ _ _ _ _ _ _ _ _ _ _ _ _ _ _)
 have x1 : (bt s 0 == 123) = false := beq_eq_false_iff_ne.mpr (by omega)
 have x2 : (bt s 0 == 91) = true := beq_iff_eq.mpr h
 clear h
 go_wp2_with fail
 exact HK.out _ _ (paTail_wp s ⟨#[]⟩ 5 0 w _ g v ((HH.out.set 0 _ rfl).set 1 _ rfl) (.inl (by omega)) Q HQ.out _ _ _ _ _ _ _ _ _ _ _ _ _ _ _ _ _ _ _ _ _ _ _ _ _ _ _ _ _ _ _ _ _ _ _ _ _ _ _ _ _ _ _ _ _ _ _ _ _ _ _ _ _ _ _ _ _ _ _ _ _ _ _ _ _ _ _ _ _ _ _ _ _ _ _ _ _ _ _ _ _ _ _ _ _ _ _ _ _ _ _ _ _ _ _ _ _ _ _ _ _ _ _ _ _ _ _ _ _ _ _ _ _ _ _ _ _ _ _)
end Go.Proofs.YtgiioglmkogpkaaGreatDoor.F
namespace Go.Proofs.YtgiioglmkogpkaaGreatDoor.F
open Go.RowKit Go.Proofs.YtgiioglmkogpkaaGreatDoorW.PrintWords Go.Proofs.YtgiioglmkogpkaaGreatDoorW.PrintLast Go.Proofs.YtgiioglmkogpkaaGreatDoorW.PrintMore
open M L
set_option maxHeartbeats 4000000
set_option maxRecDepth 8192
theorem two_new (w : World) : Two w ((w.alloc (.cells #[.int .i64 0, .string ⟨#[]⟩, .string ⟨#[]⟩, .float .f64 0, .int .i64 0, .slice none 0 0] 66)).alloc (.cells #[.int .i64 0, .string ⟨#[]⟩, .string ⟨#[]⟩, .float .f64 0, .int .i64 0, .slice none 0 0] 66)) w.heap.size (w.heap.size + 1) 0 ⟨#[]⟩ ⟨#[]⟩ 0 := by
 have e : (w.alloc (.cells #[.int .i64 0, .string ⟨#[]⟩, .string ⟨#[]⟩, .float .f64 0, .int .i64 0, .slice none 0 0] 66)).heap.size = w.heap.size + 1 := by simp
 refine ⟨(Below.heap_alloc _ _ _ (by omega)).trans (heap_alloc_new w _), ?_, by omega, by omega, by omega, below_alloc (below_alloc (Below.refl _ _) _) _⟩
 have := heap_alloc_new (w.alloc (.cells #[.int .i64 0, .string ⟨#[]⟩, .string ⟨#[]⟩, .float .f64 0, .int .i64 0, .slice none 0 0] 66)) (.cells #[.int .i64 0, .string ⟨#[]⟩, .string ⟨#[]⟩, .float .f64 0, .int .i64 0, .slice none 0 0] 66)
 rwa [e] at this
def PaL (T : Int) (s str : ByteArray) (w : World) : Prop := ∀ (W : World) (g v : Nat) (K : Act → World → Prop) (hK : ∀ a w', paTail.wp Tryz.prog (bodyPost Tryz.prog Tryz.f43 (PaPost T s str w)) a w' → K a w') (H : Two w W g v 0 ⟨#[]⟩ ⟨#[]⟩ 0) (u1 u5 u6 u7 u8 u9 u10 u11 u12 u13 u14 u15 u16 u17 u18 u19 u20 u21 u22 u23 u24 u25 u26 u27 u28 u29 u30 u31 u32 u33 u34 u35 u36 u37 u38 u39 u40 u41 u42 u43 u44 u45 u46 u47 u48 u49 u50 u51 u52 u53 u54 u55 u56 u57 u58 u59 u60 u61 u62 u63 u64 u65 u66 u67 u68 u69 u70 u71 u72 u73 u74 u75 u76 u77 u78 u79 u80 u81 u82 u83 u84 u85 u86 u87 u88 u89 u90 u91 u92 u93 u94 u95 u96 u97 u98 u99 u100 u101 u102 u103 u104 u105 u106 u107 u108 u109 u110 u111 u112 u113 u114 u115 u116 u117 u118 u119 u120 u121 u122 : Value),
  paLoop.wp Tryz.prog (Exit.inBlock 0 (Exit.then K (bodyPost Tryz.prog Tryz.f43 (PaPost T s str w)))) ⟨List.toArray [.string s, u1, .pointer (some ⟨g, 0, none⟩), .pointer (some ⟨v, 0, none⟩), .int .i64 0, u5, u6, u7, u8, u9, u10, u11, u12, u13, u14, u15, u16, u17, u18, u19, u20, u21, u22, u23, u24, u25, u26, u27, u28, u29, u30, u31, u32, u33, u34, u35, u36, u37, u38, u39, u40, u41, u42, u43, u44, u45, u46, u47, u48, u49, u50, u51, u52, u53, u54, u55, u56, u57, u58, u59, u60, u61, u62, u63, u64, u65, u66, u67, u68, u69, u70, u71, u72, u73, u74, u75, u76, u77, u78, u79, u80, u81, u82, u83, u84, u85, u86, u87, u88, u89, u90, u91, u92, u93, u94, u95, u96, u97, u98, u99, u100, u101, u102, u103, u104, u105, u106, u107, u108, u109, u110, u111, u112, u113, u114, u115, u116, u117, u118, u119, u120, u121, u122], []⟩ W
theorem parse_of {T : Int} {s str : ByteArray} {w : World} (h : PaL T s str w) : Calls Tryz.prog 43 #[.string s] w (PaPost T s str w) := by
 have HL := Aside0.mk h
 clear h
 go_enter Tryz.func43, Tryz.ntmps43
 go_wp2_with fail
 exact HL.out _ _ _ _ (by assumption) (two_new w) _ _ _ _ _ _ _ _ _ _ _ _ _ _ _ _ _ _ _ _ _ _ _ _ _ _ _ _ _ _ _ _ _ _ _ _ _ _ _ _ _ _ _ _ _ _ _ _ _ _ _ _ _ _ _ _ _ _ _ _ _ _ _ _ _ _ _ _ _ _ _ _ _ _ _ _ _ _ _ _ _ _ _ _ _ _ _ _ _ _ _ _ _ _ _ _ _ _ _ _ _ _ _ _ _ _ _ _ _ _ _ _ _ _ _ _ _ _ _
theorem parse_json (s : ByteArray) (w : World) (hz : s.size ≤ 274877906944) (hs : 0 < s.size) (h : bt s 0 = 123 ∨ bt s 0 = 91) : Calls Tryz.prog 43 #[.string s] w (PaPost 5 s ⟨#[]⟩ w) :=
 parse_of fun W g v K hK H => paLoop_json s w W g v K _ hK H hz hs h (fun _ _ q => q)
end Go.Proofs.YtgiioglmkogpkaaGreatDoor.F
namespace Go.Proofs.YtgiioglmkogpkaaGreatDoor.F
open Go.RowKit Go.Proofs.YtgiioglmkogpkaaGreatDoorW.PrintWords Go.Proofs.YtgiioglmkogpkaaGreatDoorW.PrintLast Go.Proofs.YtgiioglmkogpkaaGreatDoorW.PrintMore
open M L V
attribute [local go_sem] run_store_float
section
variable {P : Program} {a : Act} {w : World} {Q : Exit → Act → World → Prop}
theorem wp_loop_once {c : Code} (h : c.wp P (Exit.then (fun _ _ => False) Q) a w) : (Code.loop c).wp P Q a w := by
 refine wp_loop_ghost (fun _ a' w' => a' = a ∧ w' = w) 0 ⟨rfl, rfl⟩ ?_
 rintro n a' w' ⟨rfl, rfl⟩
 refine wp_mono h ?_
 intro e a2 w2 hq
 cases e with
 | normal => exact hq.elim
 | exit id => exact hq
 | goto l => exact hq
 | ret => exact hq
 | panic ch => exact hq
 | outgrown => exact hq
end
abbrev resI (T : Int) (raw str : ByteArray) (x : Nat) (ix : Int) : Value := .agg #[.int .i64 T, .string raw, .string str, .float .f64 x, .int .i64 ix, .slice none 0 0]
def PnPost (s : ByteArray) (p e T : Int) (str : ByteArray) (w : World) (en : Ending) (w' : World) : Prop := ∃ (x : Nat) (ix : Int), en = .returned (.tuple #[.int .i64 e, resI T (s.extract p.toNat e.toNat) str x ix, .bool true]) ∧ Below w.heap.size w w'
abbrev cl66 (T : Int) (raw str : ByteArray) (x : Nat) (ix : Int) : Array Value := #[.int .i64 T, .string raw, .string str, .float .f64 x, .int .i64 ix, .slice none 0 0]
structure Tw (w W : World) (g v : Nat) (T : Int) (raw str : ByteArray) (x : Nat) (ix : Int) : Prop where
 hg : W.heap[g]? = some (.cells (cl66 0 ⟨#[]⟩ ⟨#[]⟩ 0 0) 66 (0, 0))
 hv : W.heap[v]? = some (.cells (cl66 T raw str x ix) 66 (0, 0))
 ne : g ≠ v
 gb : w.heap.size ≤ g
 vb : w.heap.size ≤ v
 be : Below w.heap.size w W
theorem Tw.new (w : World) : Tw w ((w.alloc (.cells (cl66 0 ⟨#[]⟩ ⟨#[]⟩ 0 0) 66)).alloc (.cells (cl66 0 ⟨#[]⟩ ⟨#[]⟩ 0 0) 66)) w.heap.size (w.heap.size + 1) 0 ⟨#[]⟩ ⟨#[]⟩ 0 0 := by
 have e : (w.alloc (.cells (cl66 0 ⟨#[]⟩ ⟨#[]⟩ 0 0) 66)).heap.size = w.heap.size + 1 := by simp
 have hn := heap_alloc_new (w.alloc (.cells (cl66 0 ⟨#[]⟩ ⟨#[]⟩ 0 0) 66)) (.cells (cl66 0 ⟨#[]⟩ ⟨#[]⟩ 0 0) 66)
 rw [e] at hn
 exact ⟨(Below.heap_alloc _ _ _ (by omega)).trans (heap_alloc_new w _), hn, by omega, by omega, by omega, below_alloc (below_alloc (Below.refl _ _) _) _⟩
theorem Tw.below {w W w2 : World} {g v : Nat} {T : Int} {raw str : ByteArray} {x : Nat} {ix : Int} (h : Tw w W g v T raw str x ix) (hb : Below W.heap.size W w2) : Tw w w2 g v T raw str x ix :=
 ⟨(hb.block g (blk_lt h.hg)).trans h.hg, (hb.block v (blk_lt h.hv)).trans h.hv, h.ne, h.gb, h.vb, h.be.trans (hb.mono h.be.size)⟩
theorem Tw.set {w W : World} {g v : Nat} {T : Int} {raw str : ByteArray} {x : Nat} {ix : Int} (h : Tw w W g v T raw str x ix) (j : Nat) (u : Value) {T' : Int} {raw' str' : ByteArray} {x' : Nat} {ix' : Int}
  (hc : (cl66 T raw str x ix).setIfInBounds j u = cl66 T' raw' str' x' ix') : Tw w (W.setCell ⟨v, j, none⟩ u) g v T' raw' str' x' ix' :=
 ⟨(Below.heap_setCell W ⟨v, j, none⟩ u g h.ne).trans h.hg, by rw [← hc]; exact blk_set h.hv j u, h.ne, h.gb, h.vb, below_set h.be h.vb⟩
theorem Tw.cells {w W : World} {g v : Nat} {T : Int} {raw str : ByteArray} {x : Nat} {ix : Int} (h : Tw w W g v T raw str x ix) :
  W.cell? ⟨v, 0, none⟩ = some (.int .i64 T) ∧ W.cell? ⟨v, 1, none⟩ = some (.string raw) ∧ W.cell? ⟨v, 2, none⟩ = some (.string str) ∧ W.cell? ⟨v, 3, none⟩ = some (.float .f64 x) ∧ W.cell? ⟨v, 4, none⟩ = some (.int .i64 ix) ∧ W.cell? ⟨v, 5, none⟩ = some (.slice none 0 0) ∧ (∀ i, W.frozen? ⟨v, i, none⟩ = false) ∧ (∀ i, W.frozen? ⟨g, i, none⟩ = false) :=
 ⟨blk_cell h.hv 0, blk_cell h.hv 1, blk_cell h.hv 2, blk_cell h.hv 3, blk_cell h.hv 4, blk_cell h.hv 5, blk_frozen h.hv, blk_frozen h.hg⟩
theorem Tw.gcells {w W : World} {g v : Nat} {T : Int} {raw str : ByteArray} {x : Nat} {ix : Int} (h : Tw w W g v T raw str x ix) :
  W.cell? ⟨g, 0, none⟩ = some (.int .i64 0) ∧ W.cell? ⟨g, 1, none⟩ = some (.string ⟨#[]⟩) ∧ W.cell? ⟨g, 2, none⟩ = some (.string ⟨#[]⟩) ∧ W.cell? ⟨g, 3, none⟩ = some (.float .f64 0) ∧ W.cell? ⟨g, 4, none⟩ = some (.int .i64 0) ∧ W.cell? ⟨g, 5, none⟩ = some (.slice none 0 0) :=
 ⟨blk_cell h.hg 0, blk_cell h.hg 1, blk_cell h.hg 2, blk_cell h.hg 3, blk_cell h.hg 4, blk_cell h.hg 5⟩
def fin66 (W : World) (g : Nat) (a b c d e f : Value) : World := ((((((W.setCell ⟨g, 0, none⟩ a).setCell ⟨g, 1, none⟩ b).setCell ⟨g, 2, none⟩ c).setCell ⟨g, 3, none⟩ d).setCell ⟨g, 4, none⟩ e).setCell ⟨g, 5, none⟩ f).drew
theorem Tw.fin {w W : World} {g v : Nat} {T : Int} {raw str : ByteArray} {x : Nat} {ix : Int} (h : Tw w W g v T raw str x ix) (a b c d e f : Value) :
  (fin66 W g a b c d e f).heap[g]? = some (.cells #[a, b, c, d, e, f] 66 (0, 0)) ∧ Below w.heap.size w (fin66 W g a b c d e f) :=
 ⟨by unfold fin66; exact blk_drew (blk_set (blk_set (blk_set (blk_set (blk_set (blk_set h.hg 0 _) 1 _) 2 _) 3 _) 4 _) 5 _), by unfold fin66; exact below_drew1 (below_set (below_set (below_set (below_set (below_set (below_set h.be h.gb) h.gb) h.gb) h.gb) h.gb) h.gb)⟩
theorem pnEnd (s : ByteArray) (p e T : Int) (raw str : ByteArray) (x : Nat) (ix : Int) (hr : raw = s.extract p.toNat e.toNat) (w W : World) (g : Nat) (tm : Array Value) (h6 : tm.getD 6 undef = .int .i64 e) (h7 : tm.getD 7 undef = .pointer (some ⟨g, 0, none⟩)) (h8 : tm.getD 8 undef = .bool true)
  (hg : W.heap[g]? = some (.cells (cl66 T raw str x ix) 66 (0, 0))) (hb : Below w.heap.size w W) :
  bodyPost Tryz.prog Tryz.f62 (PnPost s p e T str w) .ret ⟨tm, []⟩ W := by
 subst hr
 have n0 := blk_cell hg 0
 have n1 := blk_cell hg 1
 have n2 := blk_cell hg 2
 have n3 := blk_cell hg 3
 have n4 := blk_cell hg 4
 have n5 := blk_cell hg 5
 refine bodyPost_ret (v := .tuple #[.int .i64 e, resI T (s.extract p.toNat e.toNat) str x ix, .bool true]) ?_ rfl ⟨x, ix, rfl, hb⟩
 simp only [results, Tryz.results62]
 have h6' := h6
 have h7' := h7
 have h8' := h8
 simp only [Array.getD_eq_getD_getElem?] at h6' h7' h8'
 simp [go_sem, h6, h6', h7, h7', h8, h8', n0, n1, n2, n3, n4, n5, resI]
set_option maxHeartbeats 8000000 in
set_option maxRecDepth 8192 in
theorem pany_json (s : ByteArray) (hz : s.size ≤ 274877906944) (p e : Int) (h0 : 0 ≤ p) (hpe : p < e) (he : e ≤ s.size) (hb : bt s p = 123 ∨ bt s p = 91) (hR : Rem s e (p + 1) 1) (w : World) (hV : ∀ W, Below w.heap.size w W → VT W) :
  Calls Tryz.prog 62 #[.string s, .int .i64 p, .bool true] w (PnPost s p e 5 ⟨#[]⟩ w) := by
 have HR := Aside0.mk hR
 have HV := Aside0.mk hV
 clear hR hV
 have hex : ((s.extract p.toNat e.toNat).size : Int) = e - p := by rw [ByteArray.size_extract]; omega
 obtain ⟨y, hy⟩ : ∃ y, y = bt s p := ⟨_, rfl⟩
 have hby : ∀ h : p.toNat < s.size, ((s[p.toNat]'h).toNat : Int) = y := fun h => by rw [hy]; exact bt_at s p h
 have HT := Aside0.mk (Tw.new w)
 rw [← hy] at hb
 clear hy
 rcases hb with hb | hb
 ·have x1 : (y == 123) = true := beq_iff_eq.mpr hb
  clear hb
  go_enter Tryz.func62, Tryz.ntmps62
  go_wp2_with fail
  refine wp_loop_once ?_
  go_wp2_with (go_at_call 88; refine (squash_calls s hz p e h0 he HR.out _ (HV.out _ HT.out.be)).mono ?_; rintro e' w2 ⟨rfl, hb⟩; have H2 := Aside0.mk (HT.out.below hb); clear hb; obtain ⟨n0, n1, n2, n3, n4, n5, f0, f1⟩ := H2.out.cells)
  have H3 := Aside0.mk (((H2.out.set 1 (.string (s.extract p.toNat e.toNat)) rfl).set 0 (.int .i64 5) rfl).set 4 (.int .i64 (min e s.size - ((e.toNat - p.toNat : Nat) : Int))) rfl)
  clear n0 n1 n2 n3 n4 n5 f0 f1 H2
  generalize (((w2.setCell ⟨w.heap.size + 1, 1, none⟩ (.string (s.extract p.toNat e.toNat))).setCell ⟨w.heap.size + 1, 0, none⟩ (.int .i64 5)).setCell ⟨w.heap.size + 1, 4, none⟩ (.int .i64 (min e s.size - ((e.toNat - p.toNat : Nat) : Int)))) = W at *
  obtain ⟨n0, n1, n2, n3, n4, n5, f0, f1⟩ := H3.out.cells
  obtain ⟨g0, g1, g2, g3, g4, g5⟩ := H3.out.gcells
  go_region
  have HF := Aside0.mk (H3.out.fin (.int .i64 5) (.string (s.extract p.toNat e.toNat)) (.string ⟨#[]⟩) (.float .f64 0) (.int .i64 (min e s.size - ((e.toNat - p.toNat : Nat) : Int))) (.slice none 0 0))
  generalize hW : fin66 W w.heap.size _ _ _ _ _ _ = W2 at HF
  unfold fin66 at hW
  rw [hW]
  clear hW
  go_wp2_with fail
  exact pnEnd s p e 5 _ _ _ _ rfl w _ _ _ rfl rfl rfl HF.out.1 HF.out.2
 have x1 : (y == 123) = false := beq_eq_false_iff_ne.mpr (by omega)
 have x2 : (y == 91) = true := beq_iff_eq.mpr hb
 clear hb
 go_enter Tryz.func62, Tryz.ntmps62
 go_wp2_with fail
 refine wp_loop_once ?_
 go_wp2_with (go_at_call 88; refine (squash_calls s hz p e h0 he HR.out _ (HV.out _ HT.out.be)).mono ?_; rintro e' w2 ⟨rfl, hb⟩; have H2 := Aside0.mk (HT.out.below hb); clear hb; obtain ⟨n0, n1, n2, n3, n4, n5, f0, f1⟩ := H2.out.cells)
 have H3 := Aside0.mk (((H2.out.set 1 (.string (s.extract p.toNat e.toNat)) rfl).set 0 (.int .i64 5) rfl).set 4 (.int .i64 (min e s.size - ((e.toNat - p.toNat : Nat) : Int))) rfl)
 clear n0 n1 n2 n3 n4 n5 f0 f1 H2
 generalize (((w2.setCell ⟨w.heap.size + 1, 1, none⟩ (.string (s.extract p.toNat e.toNat))).setCell ⟨w.heap.size + 1, 0, none⟩ (.int .i64 5)).setCell ⟨w.heap.size + 1, 4, none⟩ (.int .i64 (min e s.size - ((e.toNat - p.toNat : Nat) : Int)))) = W at *
 obtain ⟨n0, n1, n2, n3, n4, n5, f0, f1⟩ := H3.out.cells
 obtain ⟨g0, g1, g2, g3, g4, g5⟩ := H3.out.gcells
 go_region
 have HF := Aside0.mk (H3.out.fin (.int .i64 5) (.string (s.extract p.toNat e.toNat)) (.string ⟨#[]⟩) (.float .f64 0) (.int .i64 (min e s.size - ((e.toNat - p.toNat : Nat) : Int))) (.slice none 0 0))
 generalize hW : fin66 W w.heap.size _ _ _ _ _ _ = W2 at HF
 unfold fin66 at hW
 rw [hW]
 clear hW
 go_wp2_with fail
 exact pnEnd s p e 5 _ _ _ _ rfl w _ _ _ rfl rfl rfl HF.out.1 HF.out.2
set_option maxHeartbeats 8000000 in
set_option maxRecDepth 8192 in
theorem pany_word (s : ByteArray) (hz : s.size ≤ 65536) (p e T : Int) (h0 : 0 ≤ p) (hpe : p < e) (he : e ≤ s.size) (hk : (T = 0 ∧ bt s p = 110 ∧ bt s (p + 1) = 117 ∧ p + 1 < e) ∨ (T = 4 ∧ bt s p = 116) ∨ (T = 1 ∧ bt s p = 102)) (hl : ∀ i, p ≤ i → i < e → 97 ≤ bt s i ∧ bt s i ≤ 122) (ht : Tv s e) (w : World) :
  Calls Tryz.prog 62 #[.string s, .int .i64 p, .bool true] w (PnPost s p e T ⟨#[]⟩ w) := by
 obtain ⟨k, hk1⟩ := plit_ev s hz p e h0 hpe he hl ht
 have HE := Aside0.mk (hk1 k (Nat.le_refl _))
 clear hk1 hl ht
 obtain ⟨y, hy⟩ : ∃ y, y = bt s p := ⟨_, rfl⟩
 have hby : ∀ h : p.toNat < s.size, ((s[p.toNat]'h).toNat : Int) = y := fun h => by rw [hy]; exact bt_at s p h
 have HT := Aside0.mk (Tw.new w)
 rw [← hy] at hk
 clear hy
 rcases hk with ⟨rfl, rfl, hb, h1⟩ | ⟨rfl, rfl⟩ | ⟨rfl, rfl⟩
 rotate_left
 ·go_enter Tryz.func62, Tryz.ntmps62
  go_wp2_with fail
  refine wp_loop_once ?_
  go_wp2_with (go_at_call 89; refine (gjson_parseLiteral.calls k s p e (s.extract p.toNat e.toNat) _ HE.out).mono ?_; rintro e' w2 ⟨rfl, hb⟩; have H2 := Aside0.mk (HT.out.below (Drawn0.below hb)); clear hb; obtain ⟨n0, n1, n2, n3, n4, n5, f0, f1⟩ := H2.out.cells)
  have H3 := Aside0.mk ((H2.out.set 1 (.string (s.extract p.toNat e.toNat)) rfl).set 0 (.int .i64 4) rfl)
  clear n0 n1 n2 n3 n4 n5 f0 f1 H2
  generalize ((w2.setCell ⟨w.heap.size + 1, 1, none⟩ (.string (s.extract p.toNat e.toNat))).setCell ⟨w.heap.size + 1, 0, none⟩ (.int .i64 4)) = W at *
  obtain ⟨n0, n1, n2, n3, n4, n5, f0, f1⟩ := H3.out.cells
  obtain ⟨g0, g1, g2, g3, g4, g5⟩ := H3.out.gcells
  go_region
  have HF := Aside0.mk (H3.out.fin (.int .i64 4) (.string (s.extract p.toNat e.toNat)) (.string ⟨#[]⟩) (.float .f64 0) (.int .i64 0) (.slice none 0 0))
  generalize hW : fin66 W w.heap.size _ _ _ _ _ _ = W2 at HF
  unfold fin66 at hW
  rw [hW]
  clear hW
  go_wp2_with fail
  exact pnEnd s p e 4 _ _ _ _ rfl w _ _ _ rfl rfl rfl HF.out.1 HF.out.2
 ·go_enter Tryz.func62, Tryz.ntmps62
  go_wp2_with fail
  refine wp_loop_once ?_
  go_wp2_with (go_at_call 89; refine (gjson_parseLiteral.calls k s p e (s.extract p.toNat e.toNat) _ HE.out).mono ?_; rintro e' w2 ⟨rfl, hb⟩; have H2 := Aside0.mk (HT.out.below (Drawn0.below hb)); clear hb; obtain ⟨n0, n1, n2, n3, n4, n5, f0, f1⟩ := H2.out.cells)
  have H3 := Aside0.mk ((H2.out.set 1 (.string (s.extract p.toNat e.toNat)) rfl).set 0 (.int .i64 1) rfl)
  clear n0 n1 n2 n3 n4 n5 f0 f1 H2
  generalize ((w2.setCell ⟨w.heap.size + 1, 1, none⟩ (.string (s.extract p.toNat e.toNat))).setCell ⟨w.heap.size + 1, 0, none⟩ (.int .i64 1)) = W at *
  obtain ⟨n0, n1, n2, n3, n4, n5, f0, f1⟩ := H3.out.cells
  obtain ⟨g0, g1, g2, g3, g4, g5⟩ := H3.out.gcells
  go_region
  have HF := Aside0.mk (H3.out.fin (.int .i64 1) (.string (s.extract p.toNat e.toNat)) (.string ⟨#[]⟩) (.float .f64 0) (.int .i64 0) (.slice none 0 0))
  generalize hW : fin66 W w.heap.size _ _ _ _ _ _ = W2 at HF
  unfold fin66 at hW
  rw [hW]
  clear hW
  go_wp2_with fail
  exact pnEnd s p e 1 _ _ _ _ rfl w _ _ _ rfl rfl rfl HF.out.1 HF.out.2
 have hb1 : ∀ h : (p + 1).toNat < s.size, ((s[(p + 1).toNat]'h).toNat : Int) = 117 := fun h => by rw [← hb]; exact bt_at s (p + 1) h
 have hb3 : ∀ h : p.toNat + 1 < s.size, ((s[p.toNat + 1]'h).toNat : Int) = 117 := fun h => by rw [← hb]; exact bt_nat s (p + 1) _ (by omega) h
 clear hb
 go_enter Tryz.func62, Tryz.ntmps62
 go_wp2_with fail
 refine wp_loop_once ?_
 go_wp2_with (go_at_call 89; refine (gjson_parseLiteral.calls k s p e (s.extract p.toNat e.toNat) _ HE.out).mono ?_; rintro e' w2 ⟨rfl, hb⟩; have H2 := Aside0.mk (HT.out.below (Drawn0.below hb)); clear hb; obtain ⟨n0, n1, n2, n3, n4, n5, f0, f1⟩ := H2.out.cells)
 have H3 := Aside0.mk (H2.out.set 1 (.string (s.extract p.toNat e.toNat)) rfl)
 clear n0 n1 n2 n3 n4 n5 f0 f1 H2
 generalize (w2.setCell ⟨w.heap.size + 1, 1, none⟩ (.string (s.extract p.toNat e.toNat))) = W at *
 obtain ⟨n0, n1, n2, n3, n4, n5, f0, f1⟩ := H3.out.cells
 obtain ⟨g0, g1, g2, g3, g4, g5⟩ := H3.out.gcells
 go_region
 have HF := Aside0.mk (H3.out.fin (.int .i64 0) (.string (s.extract p.toNat e.toNat)) (.string ⟨#[]⟩) (.float .f64 0) (.int .i64 0) (.slice none 0 0))
 generalize hW : fin66 W w.heap.size _ _ _ _ _ _ = W2 at HF
 unfold fin66 at hW
 rw [hW]
 clear hW
 go_wp2_with fail
 exact pnEnd s p e 0 _ _ _ _ rfl w _ _ _ rfl rfl rfl HF.out.1 HF.out.2
theorem numG_at {s : ByteArray} {p e : Int} (h0 : 0 ≤ p) (h : NumG s p e) : ∃ a b c, NumAt (s.extract p.toNat e.toNat) a b c := by
 obtain ⟨_, k1, k2, _⟩ := (G.num p e h0 h).ok
 dsimp only at k1 k2
 have hs : ((s.extract p.toNat e.toNat).size : Int) = e - p := by rw [ByteArray.size_extract]; omega
 have g : Ag s (s.extract p.toNat e.toNat) (-p) p e := ⟨h0, by omega, k2, by omega, fun i x y => by
  have := bt_extract s p.toNat e.toNat (i + -p) (by omega) (by omega) (by omega)
  rw [this]; congr 1; omega⟩
 have h2 := h.sh g
 rw [show p + -p = 0 by omega] at h2
 obtain ⟨a, b, c, ha, hab, hbc, hce, h3, h48, hg, hf, hx⟩ := h2
 rw [show e + -p = ((s.extract p.toNat e.toNat).size : Int) by omega] at hce hx
 exact ⟨a, b, c, ⟨by rcases ha with ⟨h, _⟩ | ⟨h, h'⟩; exact .inl h; exact .inr ⟨by omega, h'⟩, hab, hbc, hce, hg, hf, by rcases hx with h | h; exact .inl h; exact .inr h⟩⟩
set_option maxHeartbeats 8000000 in
set_option maxRecDepth 8192 in
theorem pany_num (s : ByteArray) (hz : s.size ≤ 65536) (p e : Int) (h0 : 0 ≤ p) (h : NumG s p e) (ht : Tv s e) (w : World) (hV : ∀ W, Below w.heap.size w W → Tabs W) :
  Calls Tryz.prog 62 #[.string s, .int .i64 p, .bool true] w (PnPost s p e 2 ⟨#[]⟩ w) := by
 obtain ⟨_, hpe, he, _⟩ := (G.num p e h0 h).ok
 dsimp only at hpe he
 obtain ⟨k, hk1⟩ := pn_ev s hz p e h0 h ht
 have HE := Aside0.mk (hk1 k (Nat.le_refl _))
 obtain ⟨a, b, c, hN⟩ := numG_at h0 h
 have HN := Aside0.mk hN
 have HV := Aside0.mk hV
 have hd : bt s p = 45 ∨ L.dig (bt s p) := by
  obtain ⟨a, b, c, ha, hab, _, _, _, _, hg, _⟩ := h
  rcases ha with ⟨rfl, _⟩ | ⟨rfl, hm⟩
  ·exact .inr (hg a (by omega) hab)
  ·exact .inl hm
 have hsz : (s.extract p.toNat e.toNat).size < 1000000000 := by rw [ByteArray.size_extract]; omega
 clear hk1 ht h hN hV
 obtain ⟨y, hy⟩ : ∃ y, y = bt s p := ⟨_, rfl⟩
 have hby : ∀ h : p.toNat < s.size, ((s[p.toNat]'h).toNat : Int) = y := fun h => by rw [hy]; exact bt_at s p h
 have HT := Aside0.mk (Tw.new w)
 rw [← hy] at hd
 clear hy
 have hy11 : y = 45 ∨ y = 48 ∨ y = 49 ∨ y = 50 ∨ y = 51 ∨ y = 52 ∨ y = 53 ∨ y = 54 ∨ y = 55 ∨ y = 56 ∨ y = 57 := by unfold L.dig at hd; omega
 clear hd
 go_enter Tryz.func62, Tryz.ntmps62
 go_wp2_with fail
 refine wp_loop_once ?_
 rcases hy11 with rfl | rfl | rfl | rfl | rfl | rfl | rfl | rfl | rfl | rfl | rfl
 all_goals go_wp2_with (first
  | (go_at_call 90; refine (gjson_parseNumber.calls k s p e (s.extract p.toNat e.toNat) _ HE.out).mono ?_; rintro e' w2 ⟨rfl, hb⟩; have H0 := Aside0.mk (HT.out.below (Drawn0.below hb)); clear hb; obtain ⟨n0, n1, n2, n3, n4, n5, f0, f1⟩ := H0.out.cells)
  | (go_at_call 91; have H1 := Aside0.mk ((H0.out.set 1 (.string (s.extract p.toNat e.toNat)) rfl).set 0 (.int .i64 2) rfl); refine (pf_calls _ a b c _ hsz HN.out (HV.out _ H1.out.be)).mono ?_; rintro e' w3 ⟨x, ev, rfl, hb⟩; have H2 := Aside0.mk (H1.out.below hb); clear hb n0 n1 n2 n3 n4 n5 f0 f1; obtain ⟨n0, n1, n2, n3, n4, n5, f0, f1⟩ := H2.out.cells))
 all_goals (
  have H3 := Aside0.mk (H2.out.set 3 (.float .f64 x) rfl)
  clear n0 n1 n2 n3 n4 n5 f0 f1 H2
  generalize (w3.setCell ⟨w.heap.size + 1, 3, none⟩ (.float .f64 x)) = W at *
  obtain ⟨n0, n1, n2, n3, n4, n5, f0, f1⟩ := H3.out.cells
  obtain ⟨g0, g1, g2, g3, g4, g5⟩ := H3.out.gcells
  go_region
  have HF := Aside0.mk (H3.out.fin (.int .i64 2) (.string (s.extract p.toNat e.toNat)) (.string ⟨#[]⟩) (.float .f64 x) (.int .i64 0) (.slice none 0 0))
  generalize hW : fin66 W w.heap.size _ _ _ _ _ _ = W2 at HF
  unfold fin66 at hW
  rw [hW]
  clear hW
  go_wp2_with fail
  exact pnEnd s p e 2 _ _ _ _ rfl w _ _ _ rfl rfl rfl HF.out.1 HF.out.2)
set_option maxHeartbeats 8000000 in
set_option maxRecDepth 8192 in
theorem pany_str (s : ByteArray) (hz : s.size ≤ 65536) (p e : Int) (h : Str s p e) (hP : SD s p e) (w : World) : ∃ o,
  Calls Tryz.prog 62 #[.string s, .int .i64 p, .bool true] w (PnPost s p e 3 (strOfNums o) w) := by
 obtain ⟨o, ho, hol⟩ := hP
 refine ⟨o, ?_⟩
 obtain ⟨v, hk1, hv0, hv1⟩ := pst_calls s hz p e h
 have HE := Aside0.mk hk1
 obtain ⟨hlt, he⟩ := Str.lt h
 obtain ⟨h0, h34, _⟩ := h
 have hby : ∀ h : p.toNat < s.size, ((s[p.toNat]'h).toNat : Int) = 34 := fun h => by rw [← h34]; exact bt_at s p h
 have HT := Aside0.mk (Tw.new w)
 have hex : ((s.extract p.toNat e.toNat).size : Int) = e - p := by rw [ByteArray.size_extract]; omega
 obtain ⟨r, hr⟩ : ∃ r, r = s.extract p.toNat e.toNat := ⟨_, rfl⟩
 obtain ⟨q, hq⟩ : ∃ q, q = r.extract 1 ((e - p).toNat - 1) := ⟨_, rfl⟩
 have hq2 : q = s.extract (p + 1).toNat (e - 1).toNat := by
  rw [hq, hr, ByteArray.extract_extract]
  congr 1 <;> omega
 have hqs : (q.size : Int) = e - p - 2 := by rw [hq2, ByteArray.size_extract]; omega
 have ho2 := ho
 rw [← hq2] at ho2
 have hrs : (r.size : Int) = e - p := by rw [hr]; exact hex
 have HO := Aside0.mk ho2
 have HQ := Aside0.mk (And.intro hq hq2)
 have HR := Aside0.mk hr
 rw [← hr] at HE
 have HV := Aside0.mk (And.intro hv0 hv1)
 clear hk1 ho ho2 hq2 hr h34 hv0 hv1 hex
 cases v
 rotate_left
 ·have HUN := Aside0.mk (fun W => unescape_calls q (by omega) (by have := HV.out.2 rfl; omega) o HO.out (by omega) W)
  rw [hq] at HUN
  go_enter Tryz.func62, Tryz.ntmps62
  go_wp2_with fail
  refine wp_loop_once ?_
  go_wp2_with (first
   | (go_at_call 69; refine (HE.out _).mono ?_; rintro e' w2 ⟨rfl, hb⟩; have H0 := Aside0.mk (HT.out.below (Drawn0.below hb)); clear hb; obtain ⟨n0, n1, n2, n3, n4, n5, f0, f1⟩ := H0.out.cells)
   | (go_at_call 70; have H1 := Aside0.mk ((H0.out.set 0 (.int .i64 3) rfl).set 1 (.string r) rfl); refine (HUN.out _).mono ?_; rintro e' w3 ⟨rfl, hb⟩; have H2 := Aside0.mk (H1.out.below hb); clear hb n0 n1 n2 n3 n4 n5 f0 f1; obtain ⟨n0, n1, n2, n3, n4, n5, f0, f1⟩ := H2.out.cells))
  have H3 := Aside0.mk (H2.out.set 2 (.string (strOfNums o)) rfl)
  clear n0 n1 n2 n3 n4 n5 f0 f1 H2
  generalize (w3.setCell ⟨w.heap.size + 1, 2, none⟩ (.string (strOfNums o))) = W at *
  obtain ⟨n0, n1, n2, n3, n4, n5, f0, f1⟩ := H3.out.cells
  obtain ⟨g0, g1, g2, g3, g4, g5⟩ := H3.out.gcells
  go_region
  have HF := Aside0.mk (H3.out.fin (.int .i64 3) (.string r) (.string (strOfNums o)) (.float .f64 0) (.int .i64 0) (.slice none 0 0))
  generalize hW : fin66 W w.heap.size _ _ _ _ _ _ = W2 at HF
  unfold fin66 at hW
  rw [hW]
  clear hW
  go_wp2_with fail
  exact pnEnd s p e 3 _ _ _ _ HR.out w _ _ _ rfl rfl rfl HF.out.1 HF.out.2
 have HS := Aside0.mk (show q = strOfNums o by
  have := pdec_plain HO.out (fun i x y => by
   have hb := HV.out.1 rfl (i + (p + 1)) (by omega) (by omega)
   rw [HQ.out.2, bt_extract s _ _ _ x (by omega) (by omega)]
   rwa [show ((p + 1).toNat : Int) + i = i + (p + 1) by omega]) (Int.le_refl _)
  rw [this]; simp [str_bytes])
 rw [hq] at HS
 go_enter Tryz.func62, Tryz.ntmps62
 go_wp2_with fail
 refine wp_loop_once ?_
 go_wp2_with (go_at_call 69; refine (HE.out _).mono ?_; rintro e' w2 ⟨rfl, hb⟩; have H2 := Aside0.mk (HT.out.below (Drawn0.below hb)); clear hb; obtain ⟨n0, n1, n2, n3, n4, n5, f0, f1⟩ := H2.out.cells)
 have H3 := Aside0.mk (((H2.out.set 0 (.int .i64 3) rfl).set 1 (.string r) rfl).set 2 (.string (r.extract 1 ((e - p).toNat - 1))) rfl)
 have HS2 := HS.out
 clear n0 n1 n2 n3 n4 n5 f0 f1 H2
 generalize (((w2.setCell ⟨w.heap.size + 1, 0, none⟩ (.int .i64 3)).setCell ⟨w.heap.size + 1, 1, none⟩ (.string r)).setCell ⟨w.heap.size + 1, 2, none⟩ (.string (r.extract 1 ((e - p).toNat - 1)))) = W at *
 obtain ⟨n0, n1, n2, n3, n4, n5, f0, f1⟩ := H3.out.cells
 obtain ⟨g0, g1, g2, g3, g4, g5⟩ := H3.out.gcells
 rw [HS2] at H3 n2
 clear HS2
 go_region
 have HF := Aside0.mk (H3.out.fin (.int .i64 3) (.string r) (.string (strOfNums o)) (.float .f64 0) (.int .i64 0) (.slice none 0 0))
 generalize hW : fin66 W w.heap.size _ _ _ _ _ _ = W2 at HF
 unfold fin66 at hW
 rw [hW]
 clear hW
 go_wp2_with fail
 exact pnEnd s p e 3 _ _ _ _ HR.out w _ _ _ rfl rfl rfl HF.out.1 HF.out.2
def FeF (it pA : Value) (s : ByteArray) (ob : Bool) (i pg pv : Value) (ix : Int) (a : Act) : Prop := ∃ l : List Value, a = ⟨l.toArray, []⟩ ∧ l.length = 158 ∧ l[1]? = some it ∧ l[2]? = some pA ∧ l[4]? = some (.string s) ∧ l[5]? = some (.bool ob) ∧ l[6]? = some i ∧ l[7]? = some pg ∧ l[8]? = some pv ∧ l[12]? = some (.int .i64 ix)
set_option maxRecDepth 8192 in
theorem FeF.open {it pA : Value} {s : ByteArray} {ob : Bool} {i pg pv : Value} {ix : Int} {a : Act} (h : FeF it pA s ob i pg pv ix a) : ∃ f : Nat → Value, a = ⟨List.toArray [f 0, it, pA, f 3, .string s, .bool ob, i, pg, pv, f 9, f 10, f 11, .int .i64 ix, f 13, f 14, f 15, f 16, f 17, f 18, f 19, f 20, f 21, f 22, f 23, f 24, f 25, f 26, f 27, f 28, f 29, f 30, f 31, f 32, f 33, f 34, f 35, f 36, f 37, f 38, f 39, f 40, f 41, f 42, f 43, f 44, f 45, f 46, f 47, f 48, f 49, f 50, f 51, f 52, f 53, f 54, f 55, f 56, f 57, f 58, f 59, f 60, f 61, f 62, f 63, f 64, f 65, f 66, f 67, f 68, f 69, f 70, f 71, f 72, f 73, f 74, f 75, f 76, f 77, f 78, f 79, f 80, f 81, f 82, f 83, f 84, f 85, f 86, f 87, f 88, f 89, f 90, f 91, f 92, f 93, f 94, f 95, f 96, f 97, f 98, f 99, f 100, f 101, f 102, f 103, f 104, f 105, f 106, f 107, f 108, f 109, f 110, f 111, f 112, f 113, f 114, f 115, f 116, f 117, f 118, f 119, f 120, f 121, f 122, f 123, f 124, f 125, f 126, f 127, f 128, f 129, f 130, f 131, f 132, f 133, f 134, f 135, f 136, f 137, f 138, f 139, f 140, f 141, f 142, f 143, f 144, f 145, f 146, f 147, f 148, f 149, f 150, f 151, f 152, f 153, f 154, f 155, f 156, f 157], []⟩ := by
 obtain ⟨l, rfl, hl, h1, h2, h4, h5, h6, h7, h8, h12⟩ := h
 have e := list_open 158 l hl
 have g : ∀ {k : Nat} {v : Value}, l[k]? = some v → v = l.getD k undef := fun h => by rw [List.getD_eq_getElem?_getD, h]; rfl
 refine ⟨fun k => l.getD k undef, ?_⟩
 rw [g h1, g h2, g h4, g h5, g h6, g h7, g h8, g h12]
 exact congrArg (fun x => (⟨List.toArray x, []⟩ : Act)) e
def Keep66 (W W' : World) : Prop := ∀ (g : Nat) (c : Array Value) (fr : Nat × Nat), W.heap[g]? = some (Obj.cells c 66 fr) → W'.heap[g]? = some (Obj.cells c 66 fr)
def KeepN (b : Nat) (W W' : World) : Prop := W.heap.size ≤ W'.heap.size ∧ (∀ g, g < b → W'.heap[g]? = W.heap[g]?) ∧ ∀ (g : Nat) (c : Array Value) (T : TypeId) (fr : Nat × Nat), T ≠ 66 → W.heap[g]? = some (Obj.cells c T fr) → W'.heap[g]? = some (Obj.cells c T fr)
theorem KeepN.of_below {b : Nat} {W W' : World} (h : Below W.heap.size W W') (hb : b ≤ W.heap.size) : KeepN b W W' := ⟨h.size, fun g hg => h.block g (by omega), fun g c T fr _ hg => (h.block g (blk_lt hg)).trans hg⟩
theorem Keep66.of_below {W W' : World} (h : Below W.heap.size W W') : Keep66 W W' := fun g c fr hg => (h.block g (blk_lt hg)).trans hg
theorem KeepN.of_set {W : World} {g : Nat} {c : Array Value} {fr : Nat × Nat} (hg : W.heap[g]? = some (.cells c 66 fr)) {b : Nat} (hb : b ≤ g) (j : Nat) (u : Value) : KeepN b W (W.setCell ⟨g, j, none⟩ u) := by
 refine ⟨by simp [World.setCell], fun k hk => Below.heap_setCell W ⟨g, j, none⟩ u k (show k ≠ g by omega), fun k c' T fr' hT hk => ?_⟩
 have hne : k ≠ g := by
  intro e
  subst e
  rw [hg] at hk
  simp only [Option.some.injEq, Obj.cells.injEq] at hk
  exact hT hk.2.1.symm
 exact (Below.heap_setCell W ⟨g, j, none⟩ u k hne).trans hk
section
variable {B : Nat} {Inv : Nat → World → Prop}
structure Fe (B : Nat) (Inv : Nat → World → Prop) (w W : World) (n A g v : Nat) (s : ByteArray) (x0 : Nat) (k u : Array Value) : Prop where
 hA : ∃ (st0 : ByteArray) (ix0 : Int), W.heap[A]? = some (.cells (cl66 5 s st0 x0 ix0) 66 (0, 0))
 hg : W.heap[g]? = some (.cells k 66 (0, 0))
 hv : W.heap[v]? = some (.cells u 66 (0, 0))
 ag : A ≠ g
 av : A ≠ v
 gv : g ≠ v
 wg : w.heap.size ≤ g
 wv : w.heap.size ≤ v
 bw : B ≤ w.heap.size
 be : Below B w W
 inv : Inv n W
 kp : Keep66 w W
variable {w W W2 : World} {n A g v : Nat} {s : ByteArray} {x0 : Nat} {k u : Array Value}
theorem Fe.bg (h : Fe B Inv w W n A g v s x0 k u) : B ≤ g := Nat.le_trans h.bw h.wg
theorem Fe.bv (h : Fe B Inv w W n A g v s x0 k u) : B ≤ v := Nat.le_trans h.bw h.wv
theorem Fe.below (hS : ∀ n W W', Inv n W → KeepN w.heap.size W W' → Inv n W') (h : Fe B Inv w W n A g v s x0 k u) (hb : Below W.heap.size W W2) : Fe B Inv w W2 n A g v s x0 k u :=
 ⟨h.hA.imp fun st => Exists.imp fun ix e => (hb.block A (blk_lt e)).trans e, (hb.block g (blk_lt h.hg)).trans h.hg, (hb.block v (blk_lt h.hv)).trans h.hv, h.ag, h.av, h.gv, h.wg, h.wv, h.bw, h.be.trans (hb.mono (Nat.le_trans h.bw h.be.size)), hS _ _ _ h.inv (.of_below hb h.be.size), fun k c fr hk => (hb.block k (blk_lt (h.kp k c fr hk))).trans (h.kp k c fr hk)⟩
theorem Fe.setg (hS : ∀ n W W', Inv n W → KeepN w.heap.size W W' → Inv n W') (h : Fe B Inv w W n A g v s x0 k u) (j : Nat) (q : Value) : Fe B Inv w (W.setCell ⟨g, j, none⟩ q) n A g v s x0 (k.setIfInBounds j q) u :=
 ⟨h.hA.imp fun st => Exists.imp fun ix e => (Below.heap_setCell W ⟨g, j, none⟩ q A h.ag).trans e, blk_set h.hg j q, (Below.heap_setCell W ⟨g, j, none⟩ q v h.gv.symm).trans h.hv, h.ag, h.av, h.gv, h.wg, h.wv, h.bw, h.be.setCell (p := ⟨g, j, none⟩) h.bg _, hS _ _ _ h.inv (.of_set h.hg h.wg j q), fun k c fr hk => (Below.heap_setCell W ⟨g, j, none⟩ q k (show k ≠ g by have := blk_lt hk; have := h.wg; omega)).trans (h.kp k c fr hk)⟩
theorem Fe.setv (hS : ∀ n W W', Inv n W → KeepN w.heap.size W W' → Inv n W') (h : Fe B Inv w W n A g v s x0 k u) (j : Nat) (q : Value) : Fe B Inv w (W.setCell ⟨v, j, none⟩ q) n A g v s x0 k (u.setIfInBounds j q) :=
 ⟨h.hA.imp fun st => Exists.imp fun ix e => (Below.heap_setCell W ⟨v, j, none⟩ q A h.av).trans e, (Below.heap_setCell W ⟨v, j, none⟩ q g h.gv).trans h.hg, blk_set h.hv j q, h.ag, h.av, h.gv, h.wg, h.wv, h.bw, h.be.setCell (p := ⟨v, j, none⟩) h.bv _, hS _ _ _ h.inv (.of_set h.hv h.wv j q), fun k c fr hk => (Below.heap_setCell W ⟨v, j, none⟩ q k (show k ≠ v by have := blk_lt hk; have := h.wv; omega)).trans (h.kp k c fr hk)⟩
theorem Fe.iter (h : Fe B Inv w W n A g v s x0 k u) {m : Nat} (hk : Keep66 W W2) (hb : Below B W W2) (hi : Inv m W2) : Fe B Inv w W2 m A g v s x0 k u :=
 ⟨h.hA.imp fun st => Exists.imp fun ix e => hk _ _ _ e, hk _ _ _ h.hg, hk _ _ _ h.hv, h.ag, h.av, h.gv, h.wg, h.wv, h.bw, h.be.trans hb, hi, fun g c fr hg => hk g c fr (h.kp g c fr hg)⟩
theorem Fe.acells (h : Fe B Inv w W n A g v s x0 k u) : ∃ (st0 : ByteArray) (ix0 : Int), W.cell? ⟨A, 0, none⟩ = some (.int .i64 5) ∧ W.cell? ⟨A, 1, none⟩ = some (.string s) ∧ W.cell? ⟨A, 2, none⟩ = some (.string st0) ∧ W.cell? ⟨A, 3, none⟩ = some (.float .f64 x0) ∧ W.cell? ⟨A, 4, none⟩ = some (.int .i64 ix0) ∧ W.cell? ⟨A, 5, none⟩ = some (.slice none 0 0) ∧ (∀ i, W.frozen? ⟨g, i, none⟩ = false) ∧ (∀ i, W.frozen? ⟨v, i, none⟩ = false) := by
 obtain ⟨st, ix, e⟩ := h.hA
 exact ⟨st, ix, blk_cell e 0, blk_cell e 1, blk_cell e 2, blk_cell e 3, blk_cell e 4, blk_cell e 5, blk_frozen h.hg, blk_frozen h.hv⟩
theorem cells6 {W : World} {b : Nat} {T : Int} {raw str : ByteArray} {x : Nat} {ix : Int} (h : W.heap[b]? = some (.cells (cl66 T raw str x ix) 66 (0, 0))) : W.cell? ⟨b, 0, none⟩ = some (.int .i64 T) ∧ W.cell? ⟨b, 1, none⟩ = some (.string raw) ∧ W.cell? ⟨b, 2, none⟩ = some (.string str) ∧ W.cell? ⟨b, 3, none⟩ = some (.float .f64 x) ∧ W.cell? ⟨b, 4, none⟩ = some (.int .i64 ix) ∧ W.cell? ⟨b, 5, none⟩ = some (.slice none 0 0) :=
 ⟨blk_cell h 0, blk_cell h 1, blk_cell h 2, blk_cell h 3, blk_cell h 4, blk_cell h 5⟩
end
def kT (K : Int) : Int := if K = 6 ∨ K = 5 then 5 else if K = 4 then 3 else if K = 3 then 2 else if K = 2 then 4 else K
def Sz (s : ByteArray) (c : S78) : Prop := s.size ≤ 65536 ∨ ((c.f0 = 5 ∨ c.f0 = 6) ∧ s.size ≤ 274877906944)
theorem Sz.big {s : ByteArray} {c : S78} (h : Sz s c) : s.size ≤ 274877906944 := by rcases h with h | h <;> omega
theorem Sz.small {s : ByteArray} {c : S78} (h : Sz s c) (h5 : c.f0 ≠ 5) (h6 : c.f0 ≠ 6) : s.size ≤ 65536 := by rcases h with h | h <;> omega
theorem pany_val (s : ByteArray) (c : S78) (hz : Sz s c) (h : G s (.val c)) (hT : Tv s c.f2) (hP : VD s c) (w : World) (hV : ∀ W, Below w.heap.size w W → VT W ∧ Tabs W) :
  ∃ str, Calls Tryz.prog 62 #[.string s, .int .i64 c.f1, .bool true] w (PnPost s c.f1 c.f2 (kT c.f0) str w) := by
 have hR := h.rem
 obtain ⟨k0, k1, k2, _⟩ := h.ok
 have hV1 := fun W hb => (hV W hb).1
 have hV2 := fun W hb => (hV W hb).2
 cases h with
 | num p e h0 h => exact ⟨_, pany_num s (hz.small (by dsimp only; omega) (by dsimp only; omega)) p e h0 h hT w hV2⟩
 | str p e h =>
  obtain ⟨o, hc⟩ := pany_str s (hz.small (by dsimp only; omega) (by dsimp only; omega)) p e h (hP rfl) w
  exact ⟨_, hc⟩
 | null p e h0 h =>
  have hl := Wd.byte (P := fun x => 97 ≤ x ∧ x ≤ 122) h0 h wNull_low
  have hs : wNull.size = 4 := rfl
  have e0 := wd_bt h0 h 0 (by omega) (by omega)
  have e1 := wd_bt h0 h 1 (by omega) (by omega)
  rw [Int.add_zero] at e0
  have h1 := h.1
  exact ⟨_, pany_word s (hz.small (by dsimp only; omega) (by dsimp only; omega)) p e 0 h0 k1 k2 (.inl ⟨rfl, by rw [e0]; rfl, by rw [e1]; rfl, by omega⟩) hl hT w⟩
 | fals p e h0 h =>
  have hl := Wd.byte (P := fun x => 97 ≤ x ∧ x ≤ 122) h0 h wFalse_low
  have e0 := wd_bt h0 h 0 (by omega) (by decide)
  rw [Int.add_zero] at e0
  exact ⟨_, pany_word s (hz.small (by dsimp only; omega) (by dsimp only; omega)) p e 1 h0 k1 k2 (.inr (.inr ⟨rfl, by rw [e0]; rfl⟩)) hl hT w⟩
 | tru p e h0 h =>
  have hl := Wd.byte (P := fun x => 97 ≤ x ∧ x ≤ 122) h0 h wTrue_low
  have e0 := wd_bt h0 h 0 (by omega) (by decide)
  rw [Int.add_zero] at e0
  exact ⟨_, pany_word s (hz.small (by dsimp only; omega) (by dsimp only; omega)) p e 4 h0 k1 k2 (.inr (.inl ⟨rfl, by rw [e0]; rfl⟩)) hl hT w⟩
 | arr0 p b h0 h1 h2 h3 h4 => exact ⟨_, pany_json s hz.big p (b + 1) h0 k1 k2 (.inr h1) (hR.2 (.inl rfl)) w hV1⟩
 | arr p b e C h0 h1 h2 h3 => exact ⟨_, pany_json s hz.big p e h0 k1 k2 (.inr h1) (hR.2 (.inl rfl)) w hV1⟩
 | obj0 p b h0 h1 h2 h3 h4 => exact ⟨_, pany_json s hz.big p (b + 1) h0 k1 k2 (.inl h1) (hR.2 (.inr rfl)) w hV1⟩
 | obj p b e N C h0 h1 h2 h3 => exact ⟨_, pany_json s hz.big p e h0 k1 k2 (.inl h1) (hR.2 (.inr rfl)) w hV1⟩
theorem inner_facts (s : ByteArray) (p e : Int) (h : Str s p e) : ∃ r q : ByteArray, r = s.extract p.toNat e.toNat ∧ q = r.extract 1 ((e - p).toNat - 1) ∧ q = s.extract (p + 1).toNat (e - 1).toNat ∧ (r.size : Int) = e - p ∧ (q.size : Int) = e - p - 2 := by
 obtain ⟨hlt, he⟩ := Str.lt h
 have h0 := h.1
 refine ⟨_, _, rfl, rfl, ?_, by rw [ByteArray.size_extract]; omega, ?_⟩
 ·rw [ByteArray.extract_extract]
  congr 1 <;> omega
 ·rw [ByteArray.size_extract, ByteArray.size_extract]; omega
theorem unesc_at (s : ByteArray) (hz : s.size ≤ 65536) (p e : Int) (h : Str s p e) (hP : SD s p e) (q : ByteArray) (hq : q = s.extract (p + 1).toNat (e - 1).toNat) (hqs : 0 < q.size) : ∃ o, ∀ W, Calls Tryz.prog 70 #[.string q] W (UnPost o W) := by
 obtain ⟨o, ho2, hol⟩ := hP
 obtain ⟨hlt, he⟩ := Str.lt h
 have h0 := h.1
 rw [← hq] at ho2
 have hsz : q.size ≤ 65536 := by rw [hq, ByteArray.size_extract]; omega
 exact ⟨o, fun W => unescape_calls q hsz hqs o ho2 hol W⟩
section
variable {B : Nat} {Inv : Nat → World → Prop}
def Asks (B : Nat) (Inv : Nat → World → Prop) (it : Nat) (caps : Array Value) (s : ByteArray) (w : World) (Lall : List (S115 × S78)) : Prop :=
 ∀ (k : Nat) (nm : S115) (c : S78), Lall[k]? = some (nm, c) → ∀ W, Below B w W → Inv k W → ∀ (kst str : ByteArray) (kx x : Nat) (kix ix : Int),
  Calls Tryz.prog it (#[resI 3 (s.extract nm.f0.toNat nm.f1.toNat) kst kx kix, resI (kT c.f0) (s.extract c.f1.toNat c.f2.toNat) str x ix] ++ caps) W fun e W' => e = .returned (.bool true) ∧ Inv (k + 1) W' ∧ Keep66 W W' ∧ Below B W W'
noncomputable def fe2 : Code := match Tryz.f44.body with
 | some c => unlp (unbk (tl (tl (tl (tl (tl (tl (tl (tl (tl (tl (tl (tl c)))))))))))))
 | none => .skip
noncomputable def fe23 : Code := hd1 fe2
noncomputable def fe24 : Code := tl (tl fe2)
noncomputable def feX : Code := unbk (hd1 (tl fe2))
noncomputable def feH : Code := hd1 feX
noncomputable def feT : Code := tl feX
theorem fe2_eq : fe2 = .seq fe23 (.seq (.block 3 (.seq feH feT)) fe24) := by
 simp only [fe23, fe24, feX, feH, feT, fe2, Tryz.f44, tl, hd1, unbk, unlp]
set_option maxHeartbeats 8000000 in
set_option maxRecDepth 8192 in
theorem feT_wp (s : ByteArray) (ob : Bool) (A g v x0 it : Nat) (caps : Array Value) (c : S78) (hsz : Sz s c) (hc : G s (.val c)) (hTv : Tv s c.f2) (hPA : VD s c) (i0 : Int) (hi0 : 0 ≤ i0) (hsk : Sk s i0 c.f1) (n : Nat) (kt : Int) (kr ks : ByteArray) (kx : Nat) (ki : Int) (T : Int) (r st : ByteArray) (x : Nat) (vi : Int)
  (w W : World) (hFe : Fe B Inv w W n A g v s x0 (cl66 kt kr ks kx ki) (cl66 T r st x vi)) (hS : ∀ n W W', Inv n W → KeepN w.heap.size W W' → Inv n W') (hV : ∀ W, Below B w W → VT W ∧ Tabs W)
  (eit : ∀ args w, (callFunc it args).run Tryz.prog w = .ok (.enter it args) w)
  (hC : ∀ W, Below B w W → Inv n W → ∀ str x ix, Calls Tryz.prog it (#[resI kt kr ks kx ki, resI (kT c.f0) (s.extract c.f1.toNat c.f2.toNat) str x ix] ++ caps) W fun e W' => e = .returned (.bool true) ∧ Inv (n + 1) W' ∧ Keep66 W W' ∧ Below B W W')
  (Q : Exit → Act → World → Prop) (hN : ∀ b W' ix T r st x vi, Fe B Inv w W' (n + 1) A g v s x0 (cl66 kt kr ks kx ki) (cl66 T r st x vi) → FeF (.func (.func it) #[] caps) (.pointer (some ⟨A, 0, none⟩)) s ob (.int .i64 c.f2) (.pointer (some ⟨g, 0, none⟩)) (.pointer (some ⟨v, 0, none⟩)) ix b → Q .normal b W') :
  ∀ b ix, FeF (.func (.func it) #[] caps) (.pointer (some ⟨A, 0, none⟩)) s ob (.int .i64 i0) (.pointer (some ⟨g, 0, none⟩)) (.pointer (some ⟨v, 0, none⟩)) ix b → feT.wp Tryz.prog Q b W := by
 intro b ix hb
 obtain ⟨f, rfl⟩ := hb.open
 clear hb
 have hz := hsz.big
 obtain ⟨str, hP⟩ := pany_val s c hsz hc hTv hPA W (fun W' hb => hV W' (hFe.be.trans (hb.mono (Nat.le_trans hFe.bw hFe.be.size))))
 have HP := Aside0.mk hP
 have HN := Aside0.mk hN
 have HS := Aside0.mk hS
 have HC := Aside0.mk hC
 have HE := Aside0.mk hFe
 obtain ⟨c0, c1, c2, _⟩ := hc.ok
 have hV0 := V0.nb hc.hd
 have hV1 : ¬ bt s c.f1 ≤ 32 ∧ bt s c.f1 ≠ 44 ∧ bt s c.f1 ≠ 58 := by
  have := hc.hd
  unfold It.hd V0 L.dig at this
  omega
 have HSK := Aside0.mk (And.intro hsk.2 hV1)
 have hsk1 := hsk.1
 clear hN hS hV hP hC hc hTv hsz hPA hFe hV0 hV1 hsk
 simp only [feT, feX, fe2, Tryz.f44, tl, hd1, unbk, unlp]
 go_wp2_with fail
 refine wp_loop_ghost_k (fun kq a' w' => ∃ y : Int, (i0 ≤ y ∧ y ≤ c.f1) ∧ (kq : Int) + y = c.f1 ∧ W = w' ∧ FeF (.func (.func it) #[] caps) (.pointer (some ⟨A, 0, none⟩)) s ob (.int .i64 y) (.pointer (some ⟨g, 0, none⟩)) (.pointer (some ⟨v, 0, none⟩)) ix a') (c.f1 - i0).toNat ?_ ?_
 ·exact ⟨i0, by omega, by omega, rfl, by refine ⟨_, rfl, ?_⟩; exact ⟨rfl, rfl, rfl, rfl, rfl, rfl, rfl, rfl, rfl⟩⟩
 intro gk b' w' hI J K hJ hK
 obtain ⟨y, hy, hk, rfl, hF⟩ := hI
 obtain ⟨f, rfl⟩ := hF.open
 clear hF
 have HJ := Aside0.mk hJ
 have HK := Aside0.mk hK
 clear hJ hK
 have hy0 : 0 ≤ y := by omega
 obtain ⟨z, hz1⟩ : ∃ z, z = bt s y := ⟨_, rfl⟩
 have hby : ∀ h : y.toNat < s.size, ((s[y.toNat]'h).toNat : Int) = z := fun h => by rw [hz1]; exact bt_at s y h
 by_cases e : y < c.f1
 rotate_left
 ·obtain rfl : y = c.f1 := by omega
  have hzz := HSK.out.2
  rw [← hz1] at hzz
  have x1 : decide (z ≤ 32) = false := decide_eq_false (by omega)
  have x2 : (z == 44) = false := beq_eq_false_iff_ne.mpr hzz.2.1
  have x3 : (z == 58) = false := beq_eq_false_iff_ne.mpr hzz.2.2
  clear hz1 hzz
  go_upto_region 46 with (first | (go_at_call 62; refine HP.out.mono ?_; rintro e' w5 ⟨x5, ix5, rfl, hb⟩; (try simp only [resI]); have HE5 := Aside0.mk (HE.out.below HS.out hb); clear hb; obtain ⟨st0, ix0, n0, n1, n2, n3, n4, n5, f0, f1⟩ := HE5.out.acells; obtain ⟨k0, k1, k2, k3, k4, k5⟩ := cells6 HE5.out.hg; obtain ⟨v0, v1, v2, v3, v4, v5⟩ := cells6 HE5.out.hv; have av := HE5.out.av; have va := HE5.out.av.symm; have gv := HE5.out.gv; have vg := HE5.out.gv.symm))
  have H6 := Aside0.mk (((((((HE5.out.setv HS.out 0 (.int .i64 (kT c.f0))).setv HS.out 1 (.string (s.extract c.f1.toNat c.f2.toNat))).setv HS.out 2 (.string str)).setv HS.out 3 (.float .f64 x5)).setv HS.out 4 (.int .i64 ix5)).setv HS.out 5 (.slice none 0 0)).setv HS.out 4 (.int .i64 (Go.RowKit.wrap64 (c.f1 + ix0))))
  generalize (((((((w5.setCell ⟨v, 0, none⟩ (.int .i64 (kT c.f0))).setCell ⟨v, 1, none⟩ (.string (s.extract c.f1.toNat c.f2.toNat))).setCell ⟨v, 2, none⟩ (.string str)).setCell ⟨v, 3, none⟩ (.float .f64 x5)).setCell ⟨v, 4, none⟩ (.int .i64 ix5)).setCell ⟨v, 5, none⟩ (.slice none 0 0)).setCell ⟨v, 4, none⟩ (.int .i64 (Go.RowKit.wrap64 (c.f1 + ix0)))) = W7 at *
  have H7 := Aside0.mk (show Fe B Inv w W7 n A g v s x0 (cl66 kt kr ks kx ki) (cl66 (kT c.f0) (s.extract c.f1.toNat c.f2.toNat) str x5 (Go.RowKit.wrap64 (c.f1 + ix0))) from H6.out)
  clear n0 n1 n2 n3 n4 n5 f0 f1 k0 k1 k2 k3 k4 k5 v0 v1 v2 v3 v4 v5 av va gv vg H6 HE5 HE
  obtain ⟨k0, k1, k2, k3, k4, k5⟩ := cells6 H7.out.hg
  obtain ⟨v0, v1, v2, v3, v4, v5⟩ := cells6 H7.out.hv
  have HIT := Aside0.mk (HC.out W7 H7.out.be H7.out.inv str x5 (Go.RowKit.wrap64 (c.f1 + ix0)))
  go_wp2_with (go_at_fn it; refine HIT.out.mono ?_; rintro e' w8 ⟨rfl, hi, hk6, hb⟩; have H8 := Aside0.mk (H7.out.iter hk6 hb hi); clear hi hk6 hb k0 k1 k2 k3 k4 k5 v0 v1 v2 v3 v4 v5)
  refine HN.out _ w8 (Go.RowKit.wrap64 (ix + 1)) _ _ _ _ _ H8.out ?_; refine ⟨_, rfl, ?_⟩; exact ⟨rfl, rfl, rfl, rfl, rfl, rfl, rfl, rfl, rfl⟩
 have hzz := HSK.out.1 y hy.1 e
 rw [← hz1] at hzz
 clear hz1
 by_cases z32 : z ≤ 32
 ·have x1 : decide (z ≤ 32) = true := decide_eq_true z32
  clear hzz
  go_wp2_with fail
  refine HK.out _ _ (Handed.intro (gk - 1) (by omega) (HJ.out _ _ _ ⟨y + 1, by omega, by omega, rfl, ?_⟩)); refine ⟨_, rfl, ?_⟩; exact ⟨rfl, rfl, rfl, rfl, rfl, rfl, rfl, rfl, rfl⟩
 have x1 : decide (z ≤ 32) = false := decide_eq_false z32
 by_cases z44 : z = 44
 rotate_left
 ·obtain rfl : z = 58 := by omega
  clear hzz
  go_wp2_with fail
  refine HK.out _ _ (Handed.intro (gk - 1) (by omega) (HJ.out _ _ _ ⟨y + 1, by omega, by omega, rfl, ?_⟩)); refine ⟨_, rfl, ?_⟩; exact ⟨rfl, rfl, rfl, rfl, rfl, rfl, rfl, rfl, rfl⟩
 subst z44
 clear hzz
 go_wp2_with fail
 refine HK.out _ _ (Handed.intro (gk - 1) (by omega) (HJ.out _ _ _ ⟨y + 1, by omega, by omega, rfl, ?_⟩)); refine ⟨_, rfl, ?_⟩; exact ⟨rfl, rfl, rfl, rfl, rfl, rfl, rfl, rfl, rfl⟩
end
section
variable {B : Nat} {Inv : Nat → World → Prop}
set_option maxHeartbeats 8000000 in
set_option maxRecDepth 8192 in
theorem fe23_go (s : ByteArray) (hz : s.size ≤ 274877906944) (ob : Bool) (A g v : Nat) (it : Value) (i : Int) (hi : i < s.size) (W : World) (Q : Exit → Act → World → Prop) (ix : Int) (hN : ∀ b, FeF it (.pointer (some ⟨A, 0, none⟩)) s ob (.int .i64 i) (.pointer (some ⟨g, 0, none⟩)) (.pointer (some ⟨v, 0, none⟩)) ix b → Q .normal b W) : ∀ b, FeF it (.pointer (some ⟨A, 0, none⟩)) s ob (.int .i64 i) (.pointer (some ⟨g, 0, none⟩)) (.pointer (some ⟨v, 0, none⟩)) ix b → fe23.wp Tryz.prog Q b W := by
 intro b hb
 obtain ⟨f, rfl⟩ := hb.open
 clear hb
 have HN := Aside0.mk hN
 clear hN
 simp only [fe23, fe2, Tryz.f44, tl, hd1, unbk, unlp]
 go_wp2_with fail
 apply HN.out; refine ⟨_, rfl, ?_⟩; exact ⟨rfl, rfl, rfl, rfl, rfl, rfl, rfl, rfl, rfl⟩
set_option maxHeartbeats 8000000 in
set_option maxRecDepth 8192 in
theorem fe23_end (s : ByteArray) (hz : s.size ≤ 274877906944) (ob : Bool) (A g v : Nat) (it : Value) (W : World) (Q : Exit → Act → World → Prop) (ix : Int) (hN : ∀ b, FeF it (.pointer (some ⟨A, 0, none⟩)) s ob (.int .i64 s.size) (.pointer (some ⟨g, 0, none⟩)) (.pointer (some ⟨v, 0, none⟩)) ix b → Q (.exit 2) b W) : ∀ b, FeF it (.pointer (some ⟨A, 0, none⟩)) s ob (.int .i64 s.size) (.pointer (some ⟨g, 0, none⟩)) (.pointer (some ⟨v, 0, none⟩)) ix b → fe23.wp Tryz.prog Q b W := by
 intro b hb
 obtain ⟨f, rfl⟩ := hb.open
 clear hb
 have HN := Aside0.mk hN
 clear hN
 simp only [fe23, fe2, Tryz.f44, tl, hd1, unbk, unlp]
 go_wp2_with fail
 apply HN.out; refine ⟨_, rfl, ?_⟩; exact ⟨rfl, rfl, rfl, rfl, rfl, rfl, rfl, rfl, rfl⟩
set_option maxHeartbeats 8000000 in
set_option maxRecDepth 8192 in
theorem fe24_wp (s : ByteArray) (hz : s.size ≤ 274877906944) (ob : Bool) (A g v : Nat) (it : Value) (i : Int) (hi0 : 0 ≤ i) (hi : i ≤ s.size) (W : World) (Q : Exit → Act → World → Prop) (ix : Int) (hN : ∀ b, FeF it (.pointer (some ⟨A, 0, none⟩)) s ob (.int .i64 (i + 1)) (.pointer (some ⟨g, 0, none⟩)) (.pointer (some ⟨v, 0, none⟩)) ix b → Q .normal b W) : ∀ b, FeF it (.pointer (some ⟨A, 0, none⟩)) s ob (.int .i64 i) (.pointer (some ⟨g, 0, none⟩)) (.pointer (some ⟨v, 0, none⟩)) ix b → fe24.wp Tryz.prog Q b W := by
 intro b hb
 obtain ⟨f, rfl⟩ := hb.open
 clear hb
 have HN := Aside0.mk hN
 clear hN
 simp only [fe24, fe2, Tryz.f44, tl, hd1, unbk, unlp]
 go_wp2_with fail
 apply HN.out; refine ⟨_, rfl, ?_⟩; exact ⟨rfl, rfl, rfl, rfl, rfl, rfl, rfl, rfl, rfl⟩
set_option maxHeartbeats 8000000 in
set_option maxRecDepth 8192 in
theorem feH_skip (s : ByteArray) (hz : s.size ≤ 274877906944) (A g v : Nat) (it : Value) (i : Int) (hi0 : 0 ≤ i) (hi : i < s.size) (h34 : bt s i ≠ 34) (W : World) (Q : Exit → Act → World → Prop) (ix : Int) (hX : ∀ b, FeF it (.pointer (some ⟨A, 0, none⟩)) s true (.int .i64 i) (.pointer (some ⟨g, 0, none⟩)) (.pointer (some ⟨v, 0, none⟩)) ix b → Q (.exit 3) b W) : ∀ b, FeF it (.pointer (some ⟨A, 0, none⟩)) s true (.int .i64 i) (.pointer (some ⟨g, 0, none⟩)) (.pointer (some ⟨v, 0, none⟩)) ix b → feH.wp Tryz.prog Q b W := by
 intro b hb
 obtain ⟨f, rfl⟩ := hb.open
 clear hb
 have HX := Aside0.mk hX
 clear hX
 obtain ⟨y, hy⟩ : ∃ y, y = bt s i := ⟨_, rfl⟩
 have hby2 : ∀ h : i.toNat < s.size, ((s[i.toNat]'h).toNat : Int) = y := fun h => by rw [hy]; exact bt_at s i h
 have y34 : (y != 34) = true := bne_iff_ne.mpr (by rw [hy]; exact h34)
 clear hy h34
 simp only [feH, feX, fe2, Tryz.f44, tl, hd1, unbk, unlp]
 go_wp2_with fail
 apply HX.out; refine ⟨_, rfl, ?_⟩; exact ⟨rfl, rfl, rfl, rfl, rfl, rfl, rfl, rfl, rfl⟩
set_option maxHeartbeats 8000000 in
set_option maxRecDepth 8192 in
theorem feH_item (s : ByteArray) (hz : s.size ≤ 65536) (A g v x0 : Nat) (it : Value) (nm : S115) (h1 : Str s nm.f0 nm.f1) (h2 : SD s nm.f0 nm.f1) (n : Nat) (kr ks : ByteArray) (ki : Int) (u : Array Value) (w W : World) (hFe : Fe B Inv w W n A g v s x0 (cl66 3 kr ks 0 ki) u) (hS : ∀ n W W', Inv n W → KeepN w.heap.size W W' → Inv n W') (Q : Exit → Act → World → Prop) (ix : Int)
  (hN : ∀ b W' ks' ki', Fe B Inv w W' n A g v s x0 (cl66 3 (s.extract nm.f0.toNat nm.f1.toNat) ks' 0 ki') u → FeF it (.pointer (some ⟨A, 0, none⟩)) s true (.int .i64 nm.f1) (.pointer (some ⟨g, 0, none⟩)) (.pointer (some ⟨v, 0, none⟩)) ix b → Q .normal b W') : ∀ b, FeF it (.pointer (some ⟨A, 0, none⟩)) s true (.int .i64 nm.f0) (.pointer (some ⟨g, 0, none⟩)) (.pointer (some ⟨v, 0, none⟩)) ix b → feH.wp Tryz.prog Q b W := by
 intro b hb
 obtain ⟨f, rfl⟩ := hb.open
 clear hb
 have HN := Aside0.mk hN
 have HS := Aside0.mk hS
 have HE := Aside0.mk hFe
 obtain ⟨rr, q, hrr, hq, hq2, hrs, hqs⟩ := inner_facts s nm.f0 nm.f1 h1
 obtain ⟨vv, hk1, hv0, hv1⟩ := pst_calls s hz nm.f0 nm.f1 h1
 have HPS := Aside0.mk hk1
 rw [← hrr] at HPS HN
 obtain ⟨hlt, hle⟩ := Str.lt h1
 have hn0 := h1.1
 have h34 := h1.2.1
 have hby2 : ∀ h : nm.f0.toNat < s.size, ((s[nm.f0.toNat]'h).toNat : Int) = 34 := fun h => by rw [← h34]; exact bt_at s nm.f0 h
 have HU := Aside0.mk (show vv = true → ∃ o, ∀ W, Calls Tryz.prog 70 #[.string (rr.extract 1 ((nm.f1 - nm.f0).toNat - 1))] W (UnPost o W) from fun e => by
  rw [← hq]
  exact unesc_at s hz nm.f0 nm.f1 h1 h2 q hq2 (by have := hv1 e; omega))
 obtain ⟨st0, ix0, n0, n1, n2, n3, n4, n5, f0, f1⟩ := HE.out.acells
 clear hk1 hv0 hv1 h1 h2 hq hq2 hqs h34 hrr hN hS hFe
 simp only [feH, feX, fe2, Tryz.f44, tl, hd1, unbk, unlp]
 cases vv
 ·go_wp2_with (go_at_call 69; refine (HPS.out _).mono ?_; rintro e w3 ⟨rfl, hb⟩; have HE2 := Aside0.mk (HE.out.below HS.out (Drawn0.below hb)); clear hb n0 n1 n2 n3 n4 n5 f0 f1; obtain ⟨st0, ix0, n0, n1, n2, n3, n4, n5, f0, f1⟩ := HE2.out.acells; obtain ⟨k0, k1', k2, k3, k4, k5⟩ := cells6 HE2.out.hg; have ag := HE2.out.ag; have ga := HE2.out.ag.symm)
  refine HN.out _ _ _ _ (((HE2.out.setg HS.out 2 (.string (rr.extract 1 ((nm.f1 - nm.f0).toNat - 1)))).setg HS.out 1 (.string rr)).setg HS.out 4 (.int .i64 (Go.RowKit.wrap64 (nm.f0 + ix0)))) ?_; refine ⟨_, rfl, ?_⟩; exact ⟨rfl, rfl, rfl, rfl, rfl, rfl, rfl, rfl, rfl⟩
 obtain ⟨o, HO⟩ := HU.out rfl
 have HO := Aside0.mk HO
 go_wp2_with (first
  | (go_at_call 69; refine (HPS.out _).mono ?_; rintro e w3 ⟨rfl, hb⟩; have HE2 := Aside0.mk (HE.out.below HS.out (Drawn0.below hb)); clear hb)
  | (go_at_call 70; refine (HO.out _).mono ?_; rintro e w4 ⟨rfl, hb⟩; have HE3 := Aside0.mk (HE2.out.below HS.out hb); clear hb n0 n1 n2 n3 n4 n5 f0 f1; obtain ⟨st0, ix0, n0, n1, n2, n3, n4, n5, f0, f1⟩ := HE3.out.acells; obtain ⟨k0, k1', k2, k3, k4, k5⟩ := cells6 HE3.out.hg; have ag := HE3.out.ag; have ga := HE3.out.ag.symm))
 refine HN.out _ _ _ _ (((HE3.out.setg HS.out 2 (.string (strOfNums o))).setg HS.out 1 (.string rr)).setg HS.out 4 (.int .i64 (Go.RowKit.wrap64 (nm.f0 + ix0)))) ?_; refine ⟨_, rfl, ?_⟩; exact ⟨rfl, rfl, rfl, rfl, rfl, rfl, rfl, rfl, rfl⟩
structure Fa (B : Nat) (Inv : Nat → World → Prop) (w W : World) (s : ByteArray) (x0 : Nat) : Prop where
 hA : ∃ (st0 : ByteArray) (ix0 : Int), W.heap[w.heap.size]? = some (.cells (cl66 5 s st0 x0 ix0) 66 (0, 0))
 bw : B ≤ w.heap.size
 be : Below B w W
 inv : Inv 0 W
 kp : Keep66 w W
theorem Fa.new {w W : World} {s st0 : ByteArray} {x0 : Nat} {ix0 : Int} (hS : ∀ n W W', Inv n W → KeepN w.heap.size W W' → Inv n W') (hB : B ≤ w.heap.size) (h0 : Inv 0 w) (hb : Below (w.alloc (.cells (cl66 5 s st0 x0 ix0) 66)).heap.size (w.alloc (.cells (cl66 5 s st0 x0 ix0) 66)) W) : Fa B Inv w W s x0 := by
 have h1 : Below w.heap.size w (w.alloc (.cells (cl66 5 s st0 x0 ix0) 66)) := below_alloc (Below.refl _ _) _
 exact ⟨⟨st0, ix0, (hb.block _ (blk_lt (heap_alloc_new w _))).trans (heap_alloc_new w _)⟩, hB, (h1.mono hB).trans (hb.mono (by have := h1.size; omega)), hS _ _ _ (hS _ _ _ h0 (.of_below h1 (Nat.le_refl _))) (.of_below hb (by have := h1.size; omega)), fun k c fr hk => (hb.block k (by have := blk_lt hk; have := h1.size; omega)).trans ((h1.block k (blk_lt hk)).trans hk)⟩
theorem Fa.fe {w W : World} {s : ByteArray} {x0 : Nat} (hS : ∀ n W W', Inv n W → KeepN w.heap.size W W' → Inv n W') (h : Fa B Inv w W s x0) (T0 : Int) (y0 : Nat) : Fe B Inv w ((W.alloc (.cells (cl66 T0 ⟨#[]⟩ ⟨#[]⟩ y0 0) 66)).alloc (.cells (cl66 0 ⟨#[]⟩ ⟨#[]⟩ 0 0) 66)) 0 w.heap.size W.heap.size (W.heap.size + 1) s x0 (cl66 T0 ⟨#[]⟩ ⟨#[]⟩ y0 0) (cl66 0 ⟨#[]⟩ ⟨#[]⟩ 0 0) := by
 have e : (W.alloc (.cells (cl66 T0 ⟨#[]⟩ ⟨#[]⟩ y0 0) 66)).heap.size = W.heap.size + 1 := by simp
 have hn := heap_alloc_new (W.alloc (.cells (cl66 T0 ⟨#[]⟩ ⟨#[]⟩ y0 0) 66)) (.cells (cl66 0 ⟨#[]⟩ ⟨#[]⟩ 0 0) 66)
 rw [e] at hn
 obtain ⟨st0, ix0, hA⟩ := h.hA
 have hlt := blk_lt hA
 have hb : Below W.heap.size W ((W.alloc (.cells (cl66 T0 ⟨#[]⟩ ⟨#[]⟩ y0 0) 66)).alloc (.cells (cl66 0 ⟨#[]⟩ ⟨#[]⟩ 0 0) 66)) := below_alloc (below_alloc (Below.refl _ _) _) _
 have hbw := h.bw
 have hws := h.be.size
 exact ⟨⟨st0, ix0, (hb.block _ hlt).trans hA⟩, (Below.heap_alloc _ _ _ (by omega)).trans (heap_alloc_new W _), hn, by omega, by omega, by omega, by omega, by omega, hbw, h.be.trans (hb.mono (by omega)), hS _ _ _ h.inv (.of_below hb hws), fun k c fr hk => (hb.block k (by have := blk_lt hk; omega)).trans (h.kp k c fr hk)⟩
set_option maxHeartbeats 8000000 in
set_option maxRecDepth 8192 in
theorem foreach_obj (s : ByteArray) (hz : s.size ≤ 65536) (hs : 0 < s.size) (h123 : bt s 0 = 123) (Lall : List (S115 × S78)) (hL : Fl s 1 Lall) (it : Nat) (caps : Array Value) (x0 : Nat) (w : World) (hB : B ≤ w.heap.size) (h0 : Inv 0 w)
  (hS : ∀ n W W', Inv n W → KeepN w.heap.size W W' → Inv n W') (hI : Asks B Inv it caps s w Lall) (hV : ∀ W, Below B w W → VT W ∧ Tabs W)
  (eit : ∀ args w, (callFunc it args).run Tryz.prog w = .ok (.enter it args) w) :
  Calls Tryz.prog 44 #[res 5 s ⟨#[]⟩ x0, .func (.func it) #[] caps] w fun e w' => e = .returned (.tuple #[]) ∧ Inv Lall.length w' ∧ Below B w w' := by
 have HS := Aside0.mk hS
 have HI := Aside0.mk hI
 have HV := Aside0.mk hV
 have H0 := Aside0.mk h0
 have HL := Aside0.mk hL
 have hby : ∀ h : 0 < s.size, ((s[0]'h).toNat : Int) = 123 := fun h => by rw [← h123]; exact bt_at s 0 h
 clear hS hI hV h0 hL h123
 simp only [res]
 go_enter Tryz.func44, Tryz.ntmps44
 go_wp2_with (go_at_call 63; refine (exists_calls 5 s ⟨#[]⟩ x0 _ (.inl (by decide))).mono ?_; rintro e w2 ⟨rfl, hb⟩; have HA := Aside0.mk (Fa.new (x0 := x0) (s := s) HS.out hB H0.out hb); clear hb; obtain ⟨st0, ix0, hA0⟩ := HA.out.hA; obtain ⟨n0, n1, n2, n3, n4, n5⟩ := cells6 hA0; clear hA0)
 refine wp_loop_once ?_
 clear n0 n1 n2 n3 n4 n5
 obtain ⟨st1, ix1, n0, n1, n2, n3, n4, n5, f0, f1⟩ := (HA.out.fe HS.out 0 0).acells
 go_wp2_with fail
 have HF := Aside0.mk (HA.out.fe HS.out 3 0)
 clear n0 n1 n2 n3 n4 n5 f0 f1
 generalize w2.heap.size + 1 = v at *
 generalize w2.heap.size = g at *
 generalize hA : w.heap.size = A at HF ⊢
 clear hA HA
 refine wp_loop_ghost_k (c := fe2) (fun kq a' w' => ∃ (i ix ki : Int) (n : Nat) (L : List (S115 × S78)) (kr ks : ByteArray) (T : Int) (r st : ByteArray) (x : Nat) (vi : Int), Fl s i L ∧ (kq : Int) + i = s.size ∧ (n + L.length = Lall.length ∧ Lall.drop n = L) ∧ Fe B Inv w w' n A g v s x0 (cl66 3 kr ks 0 ki) (cl66 T r st x vi) ∧ FeF (.func (.func it) #[] caps) (.pointer (some ⟨A, 0, none⟩)) s true (.int .i64 i) (.pointer (some ⟨g, 0, none⟩)) (.pointer (some ⟨v, 0, none⟩)) ix a') (s.size - 1) ?_ ?_
 ·exact ⟨1, 0, 0, 0, Lall, _, _, _, _, _, _, _, HL.out, by omega, ⟨by simp, rfl⟩, HF.out, by refine ⟨_, rfl, ?_⟩; exact ⟨rfl, rfl, rfl, rfl, rfl, rfl, rfl, rfl, rfl⟩⟩
 intro gk b' w' hI J K hJ hK
 obtain ⟨i, ix, ki, n, L, kr, ks, T, r, st, x, vi, hL, hk, hD, hFe, hF⟩ := hI
 rw [fe2_eq]
 obtain ⟨hi0, hi1⟩ := hL.range
 have hnext : ∀ (j ix ki : Int) (n : Nat) (L : List (S115 × S78)) (kr ks : ByteArray) (T : Int) (r st : ByteArray) (x : Nat) (vi : Int) (W : World), i < j → Fl s j L → (n + L.length = Lall.length ∧ Lall.drop n = L) → Fe B Inv w W n A g v s x0 (cl66 3 kr ks 0 ki) (cl66 T r st x vi) → ∀ b, FeF (.func (.func it) #[] caps) (.pointer (some ⟨A, 0, none⟩)) s true (.int .i64 j) (.pointer (some ⟨g, 0, none⟩)) (.pointer (some ⟨v, 0, none⟩)) ix b → K b W := by
  intro j ix ki n L kr ks T r st x vi W h1 h2 h3 h4 b h5
  have := h2.range
  exact hK _ _ (Handed.intro (s.size - j.toNat) (by omega) (hJ _ _ _ ⟨j, ix, ki, n, L, kr, ks, T, r, st, x, vi, h2, by omega, h3, h4, h5⟩))
 cases hL with
 | done =>
  refine wp_seq_k (fun K2 hK2 => fe23_end s (by omega) true A g v _ w' _ ix (fun b hb => ?_) b' hF)
  obtain ⟨f, rfl⟩ := hb.open
  simp only [Exit.then, Exit.inBlock, ↓reduceIte]
  go_wp2_with fail
  go_end0
  have hn := hD.1
  simp only [List.length_nil, Nat.add_zero] at hn
  subst hn
  exact ⟨rfl, hFe.inv, hFe.be⟩
 | skip _ _ i0 i1 i2 hL =>
  refine wp_seq_k (fun K2 hK2 => fe23_go s (by omega) true A g v _ i i1 w' _ ix (fun b hb => hK2 _ _ ?_) b' hF)
  refine wp_seq_k (fun K3 hK3 => wp_block (wp_seq_k (fun K4 hK4 => feH_skip s (by omega) A g v _ i i0 i1 i2 w' _ ix (fun b hb => ?_) b hb)))
  refine hK3 _ _ ?_
  exact fe24_wp s (by omega) true A g v _ i i0 (by omega) w' _ ix (fun b hb => hnext (i + 1) ix ki n L kr ks T r st x vi w' (by omega) hL hD hFe b hb) b hb
 | item nm c L' h1 h2 h3 h4 h5 h6 h7 h8 =>
  obtain ⟨c0, c1, c2, _⟩ := h4.ok
  have hlt := Str.lt h1
  have hsk := h3.1
  have hget : Lall[n]? = some (nm, c) := by
   have := congrArg (fun l => l[0]?) hD.2
   simpa using this
  have hD2 : n + 1 + L'.length = Lall.length ∧ Lall.drop (n + 1) = L' := by
   refine ⟨by have := hD.1; simp at this; omega, ?_⟩
   have := congrArg List.tail hD.2
   rwa [List.tail_drop, List.tail_cons] at this
  refine wp_seq_k (fun K2 hK2 => fe23_go s (by omega) true A g v _ nm.f0 (by omega) w' _ ix (fun b hb => hK2 _ _ ?_) b' hF)
  refine wp_seq_k (fun K3 hK3 => wp_block (wp_seq_k (fun K4 hK4 => feH_item s hz A g v x0 _ nm h1 h2 n kr ks ki _ w w' hFe HS.out _ ix (fun b W' ks' ki' hFe hb => hK4 _ _ ?_) b hb)))
  refine feT_wp s true A g v x0 it caps c (.inl hz) h4 h5 h6 nm.f1 (by omega) h3 n 3 _ ks' 0 ki' T r st x vi w W' hFe HS.out HV.out eit (fun W hb hi str x ix => HI.out n nm c hget W hb hi ks' str 0 x ki' ix) _ (fun b W2 ix T r st x vi hFe hb => ?_) b ix hb
  refine hK3 _ _ ?_
  exact fe24_wp s (by omega) true A g v _ c.f2 (by omega) (by omega) W2 _ ix (fun b hb => hnext (c.f2 + 1) ix _ (n + 1) L' _ _ T r st x vi W2 (by omega) h8 hD2 hFe b hb) b hb
end
theorem add_ex (x y : Nat) (w : World) : ∃ r n : Nat, (binOp .add 39 (.float .f64 x) (.float .f64 y)).run Tryz.prog w = .ok (.float .f64 r) (w.drewN n) := by
 cases h : floatBits .add .f64 x y with
 | some r => exact ⟨r, 0, run_float_arith (P := Tryz.prog) w .add 39 .f64 x y r h⟩
 | none =>
  have h' : FloatKind.f64.format.add x y = none := h
  by_cases hf : (Question.nanBits .f64 x y).forced = true
  ·exact ⟨0, 0, by simp [binOp, Op.floatArith, h', run_choose_drew, hf]; rfl⟩
  ·exact ⟨_, 1, by simp [binOp, Op.floatArith, h', run_choose_drew, hf]; exact ⟨rfl, rfl⟩⟩
noncomputable def addV (x y : Nat) (w : World) : Nat := Classical.choose (add_ex x y w)
noncomputable def addN (x y : Nat) (w : World) : Nat := Classical.choose (Classical.choose_spec (add_ex x y w))
theorem run_add (x y : Nat) (w : World) : (binOp .add 39 (.float .f64 x) (.float .f64 y)).run Tryz.prog w = .ok (.float .f64 (addV x y w)) (w.drewN (addN x y w)) := Classical.choose_spec (Classical.choose_spec (add_ex x y w))
theorem exi_calls (T : Int) (raw str : ByteArray) (x : Nat) (ix : Int) (w : World) (h : T ≠ 0 ∨ 0 < raw.size) :
  Calls Tryz.prog 63 #[.agg #[.int .i64 T, .string raw, .string str, .float .f64 x, .int .i64 ix, .slice none 0 0]] w fun e w' => e = .returned (.bool true) ∧ Below w.heap.size w w' := by
 by_cases hT : T = 0
 rotate_left
 ·have hT0 : (T != 0) = true := bne_iff_ne.mpr hT
  clear hT h
  go_enter Tryz.func63, Tryz.ntmps63
  go_wp2_with fail
  go_ret
  exact ⟨rfl, below_alloc (Below.refl _ _) _⟩
 have hr : 0 < raw.size := h.resolve_left (fun q => q hT)
 have hT0 : (T != 0) = false := bne_eq_false_iff_eq.mpr hT
 have hr0 : ((raw.size : Int) != 0) = true := bne_iff_ne.mpr (by omega)
 clear hT h hr
 go_enter Tryz.func63, Tryz.ntmps63
 go_wp2_with fail
 go_ret
 exact ⟨rfl, below_alloc (Below.refl _ _) _⟩
inductive Fla (s : ByteArray) : Int → List S78 → Prop
 | done : Fla s s.size []
 | last (i : Int) : 0 ≤ i → Sk s i (s.size - 1) → bt s (s.size - 1) = 93 → Fla s i []
 | item (i : Int) (c : S78) (L : List S78) : 0 ≤ i → Sk s i c.f1 → Sz s c → V.G s (.val c) → Tv s c.f2 → VD s c → c.f2 < s.size → Fla s (c.f2 + 1) L → Fla s i (c :: L)
theorem sk_comma {s : ByteArray} {a b c : Int} (h1 : Bl s a b) (h2 : bt s b = 44) (h3 : Bl s (b + 1) c) : Sk s a c := by
 refine ⟨by have := h1.1; have := h3.1; omega, fun i x y => ?_⟩
 by_cases q : i < b
 ·exact (Sk.of_bl h1).2 i x q
 by_cases e : i = b
 ·rw [e]; exact .inr (.inl h2)
 ·exact (Sk.of_bl h3).2 i (by omega) y
theorem sk_from {s : ByteArray} {a b c : Int} (h : Sk s a c) (hab : a ≤ b) (hbc : b ≤ c) : Sk s b c := ⟨hbc, fun i x y => h.2 i (by omega) y⟩
set_option maxHeartbeats 8000000
set_option maxRecDepth 8192
theorem pnEndF (e T : Int) (raw str : ByteArray) (x : Nat) (ix : Int) (P : Ending → World → Prop) (W : World) (g : Nat) (tm : Array Value) (h6 : tm.getD 6 undef = .int .i64 e) (h7 : tm.getD 7 undef = .pointer (some ⟨g, 0, none⟩)) (h8 : tm.getD 8 undef = .bool false)
  (hg : W.heap[g]? = some (.cells (cl66 T raw str x ix) 66 (0, 0))) (hb : P (.returned (.tuple #[.int .i64 e, resI T raw str x ix, .bool false])) W) :
  bodyPost Tryz.prog Tryz.f62 P .ret ⟨tm, []⟩ W := by
 have n0 := blk_cell hg 0
 have n1 := blk_cell hg 1
 have n2 := blk_cell hg 2
 have n3 := blk_cell hg 3
 have n4 := blk_cell hg 4
 have n5 := blk_cell hg 5
 refine bodyPost_ret (v := .tuple #[.int .i64 e, resI T raw str x ix, .bool false]) ?_ rfl hb
 simp only [results, Tryz.results62]
 have h6' := h6
 have h7' := h7
 have h8' := h8
 simp only [Array.getD_eq_getD_getElem?] at h6' h7' h8'
 simp [go_sem, h6, h6', h7, h7', h8, h8', n0, n1, n2, n3, n4, n5, resI]
theorem pany_end (s : ByteArray) (hz : s.size ≤ 274877906944) (x : Int) (h0 : 0 ≤ x) (hx : x + 1 = s.size) (hb : bt s x = 93) (w : World) :
  Calls Tryz.prog 62 #[.string s, .int .i64 x, .bool true] w fun e w' => e = .returned (.tuple #[.int .i64 s.size, resI 0 ⟨#[]⟩ ⟨#[]⟩ 0 0, .bool false]) ∧ Below w.heap.size w w' := by
 have hby : ∀ h : x.toNat < s.size, ((s[x.toNat]'h).toNat : Int) = 93 := fun h => by rw [← hb]; exact bt_at s x h
 have HT := Aside0.mk (Tw.new w)
 clear hb
 go_enter Tryz.func62, Tryz.ntmps62
 go_wp2_with fail
 refine wp_loop_rounds 2 ?_
 rw [rounds_succ]
 go_wp2_with fail
 rw [rounds_succ]
 go_wp2_with fail
 obtain ⟨n0, n1, n2, n3, n4, n5, f0, f1⟩ := HT.out.cells
 obtain ⟨g0, g1, g2, g3, g4, g5⟩ := HT.out.gcells
 go_region
 go_wp2_with fail
 exact pnEndF s.size 0 _ _ _ _ _ _ _ _ rfl rfl rfl (blk_drew HT.out.hg) ⟨rfl, below_drew1 HT.out.be⟩
set_option maxHeartbeats 8000000
set_option maxRecDepth 8192
section
variable {B : Nat} {Inv : Nat → World → Prop}
theorem feH_num (s : ByteArray) (A g v x0 : Nat) (it : Value) (i : Int) (n : Nat) (kt : Int) (kr ks : ByteArray) (kx : Nat) (ki : Int) (u : Array Value) (w W : World) (hFe : Fe B Inv w W n A g v s x0 (cl66 kt kr ks kx ki) u) (hS : ∀ n W W', Inv n W → KeepN w.heap.size W W' → Inv n W') (Q : Exit → Act → World → Prop) (ix : Int)
  (hN : ∀ b W' kx', Fe B Inv w W' n A g v s x0 (cl66 kt kr ks kx' ki) u → FeF it (.pointer (some ⟨A, 0, none⟩)) s false (.int .i64 i) (.pointer (some ⟨g, 0, none⟩)) (.pointer (some ⟨v, 0, none⟩)) ix b → Q .normal b W') : ∀ b, FeF it (.pointer (some ⟨A, 0, none⟩)) s false (.int .i64 i) (.pointer (some ⟨g, 0, none⟩)) (.pointer (some ⟨v, 0, none⟩)) ix b → feH.wp Tryz.prog Q b W := by
 intro b hb
 obtain ⟨f, rfl⟩ := hb.open
 clear hb
 have HN := Aside0.mk hN
 have HS := Aside0.mk hS
 have HE := Aside0.mk hFe
 have hadd := run_add
 have k3 := blk_cell hFe.hg 3
 have f0 := blk_frozen hFe.hg
 clear hN hS hFe
 simp only [feH, feX, fe2, Tryz.f44, tl, hd1, unbk, unlp]
 go_wp2_with fail
 refine HN.out _ _ _ ((HE.out.below HS.out (pw_below_drewN (Below.refl _ _) _)).setg HS.out 3 (.float .f64 (addV kx 4607182418800017408 W))) ?_; refine ⟨_, rfl, ?_⟩; exact ⟨rfl, rfl, rfl, rfl, rfl, rfl, rfl, rfl, rfl⟩
theorem feT_end (s : ByteArray) (hz : s.size ≤ 274877906944) (ob : Bool) (A g v x0 : Nat) (it : Value) (i0 : Int) (hi0 : 0 ≤ i0) (hsk : Sk s i0 (s.size - 1)) (h93 : bt s (s.size - 1) = 93) (n : Nat) (k : Array Value) (T : Int) (r st : ByteArray) (x : Nat) (vi : Int)
  (w W : World) (hFe : Fe B Inv w W n A g v s x0 k (cl66 T r st x vi)) (hS : ∀ n W W', Inv n W → KeepN w.heap.size W W' → Inv n W')
  (Q : Exit → Act → World → Prop) (ix : Int) (hR : ∀ b W' u' i', Fe B Inv w W' n A g v s x0 k u' → FeF it (.pointer (some ⟨A, 0, none⟩)) s ob i' (.pointer (some ⟨g, 0, none⟩)) (.pointer (some ⟨v, 0, none⟩)) ix b → Q .ret b W') :
  ∀ b, FeF it (.pointer (some ⟨A, 0, none⟩)) s ob (.int .i64 i0) (.pointer (some ⟨g, 0, none⟩)) (.pointer (some ⟨v, 0, none⟩)) ix b → feT.wp Tryz.prog Q b W := by
 intro b hb
 obtain ⟨f, rfl⟩ := hb.open
 clear hb
 obtain ⟨e, he⟩ : ∃ e : Int, e = s.size - 1 := ⟨_, rfl⟩
 rw [← he] at hsk h93
 have hsk0 := hsk.1
 have HP := Aside0.mk (pany_end s hz e (by omega) (by omega) h93)
 have HR := Aside0.mk hR
 have HS := Aside0.mk hS
 have HE := Aside0.mk hFe
 have HSK := Aside0.mk hsk.2
 have H93 := Aside0.mk h93
 have hel : e < s.size := by omega
 clear hR hS hFe hsk h93 he
 simp only [feT, feX, fe2, Tryz.f44, tl, hd1, unbk, unlp]
 go_wp2_with fail
 refine wp_loop_ghost_k (fun kq a' w' => ∃ y : Int, (i0 ≤ y ∧ y ≤ e) ∧ (kq : Int) + y = e ∧ W = w' ∧ FeF it (.pointer (some ⟨A, 0, none⟩)) s ob (.int .i64 y) (.pointer (some ⟨g, 0, none⟩)) (.pointer (some ⟨v, 0, none⟩)) ix a') (e - i0).toNat ?_ ?_
 ·exact ⟨i0, by omega, by omega, rfl, by refine ⟨_, rfl, ?_⟩; exact ⟨rfl, rfl, rfl, rfl, rfl, rfl, rfl, rfl, rfl⟩⟩
 intro gk b' w' hI J K hJ hK
 obtain ⟨y, hy, hk, rfl, hF⟩ := hI
 obtain ⟨f, rfl⟩ := hF.open
 clear hF
 have HJ := Aside0.mk hJ
 have HK := Aside0.mk hK
 clear hJ hK
 have hy0 : 0 ≤ y := by omega
 obtain ⟨z, hz1⟩ : ∃ z, z = bt s y := ⟨_, rfl⟩
 have hby : ∀ h : y.toNat < s.size, ((s[y.toNat]'h).toNat : Int) = z := fun h => by rw [hz1]; exact bt_at s y h
 by_cases ey : y < e
 rotate_left
 ·obtain rfl : y = e := by omega
  obtain rfl : z = 93 := hz1.trans H93.out
  clear hz1
  go_wp2_with (first | (go_at_call 62; refine (HP.out _).mono ?_; rintro e' w5 ⟨rfl, hb⟩; (try simp only [resI]); have HE5 := Aside0.mk (HE.out.below HS.out hb); clear hb; have f1 := blk_frozen HE5.out.hv; obtain ⟨v0, v1, v2, v3, v4, v5⟩ := cells6 HE5.out.hv))
  have H6 := Aside0.mk ((((((HE5.out.setv HS.out 0 (.int .i64 0)).setv HS.out 1 (.string ⟨#[]⟩)).setv HS.out 2 (.string ⟨#[]⟩)).setv HS.out 3 (.float .f64 0)).setv HS.out 4 (.int .i64 0)).setv HS.out 5 (.slice none 0 0))
  refine HR.out _ _ _ (.int .i64 s.size) H6.out ?_; refine ⟨_, rfl, ?_⟩; exact ⟨rfl, rfl, rfl, rfl, rfl, rfl, rfl, rfl, rfl⟩
 have hzz := HSK.out y hy.1 ey
 rw [← hz1] at hzz
 clear hz1
 by_cases z32 : z ≤ 32
 ·have x1 : decide (z ≤ 32) = true := decide_eq_true z32
  clear hzz
  go_wp2_with fail
  refine HK.out _ _ (Handed.intro (gk - 1) (by omega) (HJ.out _ _ _ ⟨y + 1, by omega, by omega, rfl, ?_⟩)); refine ⟨_, rfl, ?_⟩; exact ⟨rfl, rfl, rfl, rfl, rfl, rfl, rfl, rfl, rfl⟩
 have x1 : decide (z ≤ 32) = false := decide_eq_false z32
 by_cases z44 : z = 44
 rotate_left
 ·obtain rfl : z = 58 := by omega
  clear hzz
  go_wp2_with fail
  refine HK.out _ _ (Handed.intro (gk - 1) (by omega) (HJ.out _ _ _ ⟨y + 1, by omega, by omega, rfl, ?_⟩)); refine ⟨_, rfl, ?_⟩; exact ⟨rfl, rfl, rfl, rfl, rfl, rfl, rfl, rfl, rfl⟩
 subst z44
 clear hzz
 go_wp2_with fail
 refine HK.out _ _ (Handed.intro (gk - 1) (by omega) (HJ.out _ _ _ ⟨y + 1, by omega, by omega, rfl, ?_⟩)); refine ⟨_, rfl, ?_⟩; exact ⟨rfl, rfl, rfl, rfl, rfl, rfl, rfl, rfl, rfl⟩
end
set_option maxHeartbeats 8000000
set_option maxRecDepth 8192
section
variable {B : Nat} {Inv : Nat → World → Prop}
def AsksA (B : Nat) (Inv : Nat → World → Prop) (it : Nat) (caps : Array Value) (s : ByteArray) (w : World) (Lall : List S78) : Prop :=
 ∀ (k : Nat) (c : S78), Lall[k]? = some c → ∀ W, Below B w W → Inv k W → ∀ (kx : Nat) (str : ByteArray) (x : Nat) (ix : Int),
  Calls Tryz.prog it (#[resI 2 ⟨#[]⟩ ⟨#[]⟩ kx 0, resI (kT c.f0) (s.extract c.f1.toNat c.f2.toNat) str x ix] ++ caps) W fun e W' => e = .returned (.bool true) ∧ Inv (k + 1) W' ∧ Keep66 W W' ∧ Below B W W'
theorem feRet {P : Ending → World → Prop} {b : Act} {W : World} {l : List Value} (hb : b = ⟨l.toArray, []⟩) (h : P (.returned (.tuple #[])) W) : bodyPost Tryz.prog Tryz.f44 P .ret b W := by
 subst hb
 refine bodyPost_ret (v := .tuple #[]) ?_ rfl h
 simp only [results, Tryz.results44]
 simp [go_sem]
theorem foreach_arr (s : ByteArray) (hz : s.size ≤ 274877906944) (hs : 0 < s.size) (h91 : bt s 0 = 91) (Lall : List S78) (hL : Fla s 1 Lall) (it : Nat) (caps : Array Value) (sv : ByteArray) (x0 : Nat) (iv : Int) (w : World) (hB : B ≤ w.heap.size) (h0 : Inv 0 w)
  (hS : ∀ n W W', Inv n W → KeepN w.heap.size W W' → Inv n W') (hI : AsksA B Inv it caps s w Lall) (hV : ∀ W, Below B w W → VT W ∧ Tabs W)
  (eit : ∀ args w, (callFunc it args).run Tryz.prog w = .ok (.enter it args) w) :
  Calls Tryz.prog 44 #[resI 5 s sv x0 iv, .func (.func it) #[] caps] w fun e w' => e = .returned (.tuple #[]) ∧ Inv Lall.length w' ∧ Below B w w' ∧ Keep66 w w' := by
 have HS := Aside0.mk hS
 have HI := Aside0.mk hI
 have HV := Aside0.mk hV
 have H0 := Aside0.mk h0
 have HL := Aside0.mk hL
 have hby : ∀ h : 0 < s.size, ((s[0]'h).toNat : Int) = 91 := fun h => by rw [← h91]; exact bt_at s 0 h
 clear hS hI hV h0 hL h91
 simp only [resI]
 go_enter Tryz.func44, Tryz.ntmps44
 go_wp2_with (go_at_call 63; refine (exi_calls 5 s sv x0 iv _ (.inl (by decide))).mono ?_; rintro e w2 ⟨rfl, hb⟩; have HA := Aside0.mk (Fa.new (x0 := x0) (s := s) HS.out hB H0.out hb); clear hb; obtain ⟨st0, ix0, hA0⟩ := HA.out.hA; obtain ⟨n0, n1, n2, n3, n4, n5⟩ := cells6 hA0; clear hA0)
 refine wp_loop_once ?_
 clear n0 n1 n2 n3 n4 n5
 obtain ⟨st1, ix1, n0, n1, n2, n3, n4, n5, f0, f1⟩ := (HA.out.fe HS.out 0 0).acells
 go_wp2_with fail
 have HF := Aside0.mk (HA.out.fe HS.out 2 13830554455654793216)
 clear n0 n1 n2 n3 n4 n5 f0 f1
 generalize w2.heap.size + 1 = v at *
 generalize w2.heap.size = g at *
 generalize hA : w.heap.size = A at HF ⊢
 clear hA HA
 refine wp_loop_ghost_k (c := fe2) (fun kq a' w' => ∃ (i ix : Int) (n : Nat) (L : List S78) (kx : Nat) (T : Int) (r st : ByteArray) (x : Nat) (vi : Int), Fla s i L ∧ (0 ≤ i ∧ i ≤ s.size) ∧ (kq : Int) + i = s.size ∧ (n + L.length = Lall.length ∧ Lall.drop n = L) ∧ Fe B Inv w w' n A g v s x0 (cl66 2 ⟨#[]⟩ ⟨#[]⟩ kx 0) (cl66 T r st x vi) ∧ FeF (.func (.func it) #[] caps) (.pointer (some ⟨A, 0, none⟩)) s false (.int .i64 i) (.pointer (some ⟨g, 0, none⟩)) (.pointer (some ⟨v, 0, none⟩)) ix a') (s.size - 1) ?_ ?_
 ·exact ⟨1, 0, 0, Lall, _, _, _, _, _, _, HL.out, by omega, by omega, ⟨by simp, rfl⟩, HF.out, by refine ⟨_, rfl, ?_⟩; exact ⟨rfl, rfl, rfl, rfl, rfl, rfl, rfl, rfl, rfl⟩⟩
 intro gk b' w' hI J K hJ hK
 obtain ⟨i, ix, n, L, kx, T, r, st, x, vi, hL, hr, hk, hD, hFe, hF⟩ := hI
 rw [fe2_eq]
 have hnext : ∀ (j ix : Int) (n : Nat) (L : List S78) (kx : Nat) (T : Int) (r st : ByteArray) (x : Nat) (vi : Int) (W : World), i < j → j ≤ s.size → Fla s j L → (n + L.length = Lall.length ∧ Lall.drop n = L) → Fe B Inv w W n A g v s x0 (cl66 2 ⟨#[]⟩ ⟨#[]⟩ kx 0) (cl66 T r st x vi) → ∀ b, FeF (.func (.func it) #[] caps) (.pointer (some ⟨A, 0, none⟩)) s false (.int .i64 j) (.pointer (some ⟨g, 0, none⟩)) (.pointer (some ⟨v, 0, none⟩)) ix b → K b W := by
  intro j ix n L kx T r st x vi W h1 h1' h2 h3 h4 b h5
  exact hK _ _ (Handed.intro (s.size - j.toNat) (by omega) (hJ _ _ _ ⟨j, ix, n, L, kx, T, r, st, x, vi, h2, ⟨by omega, h1'⟩, by omega, h3, h4, h5⟩))
 cases hL with
 | done =>
  refine wp_seq_k (fun K2 hK2 => fe23_end s hz false A g v _ w' _ ix (fun b hb => ?_) b' hF)
  obtain ⟨f, rfl⟩ := hb.open
  simp only [Exit.then, Exit.inBlock, ↓reduceIte]
  go_wp2_with fail
  go_end0
  have hn := hD.1
  simp only [List.length_nil, Nat.add_zero] at hn
  subst hn
  exact ⟨rfl, hFe.inv, hFe.be, hFe.kp⟩
 | last _ i0 hsk h93 =>
  have hsk0 := hsk.1
  refine wp_seq_k (fun K2 hK2 => fe23_go s hz false A g v _ i (by omega) w' _ ix (fun b hb => hK2 _ _ ?_) b' hF)
  refine wp_seq_k (fun K3 hK3 => wp_block (wp_seq_k (fun K4 hK4 => feH_num s A g v x0 _ i n 2 _ _ kx 0 _ w w' hFe HS.out _ ix (fun b W' kx' hFe hb => hK4 _ _ ?_) b hb)))
  refine feT_end s hz false A g v x0 _ i i0 hsk h93 n _ T r st x vi w W' hFe HS.out _ ix (fun b W2 u' i' hFe hb => ?_) b hb
  obtain ⟨l, hl, _⟩ := hb
  have hn := hD.1
  simp only [List.length_nil, Nat.add_zero] at hn
  subst hn
  exact feRet (P := fun e w' => e = .returned (.tuple #[]) ∧ Inv Lall.length w' ∧ Below B w w' ∧ Keep66 w w') hl ⟨rfl, hFe.inv, hFe.be, hFe.kp⟩
 | item _ c L' i0 hsk hsz h4 h5 h6 h7 h8 =>
  obtain ⟨c0, c1, c2, _⟩ := h4.ok
  have hsk0 := hsk.1
  have hget : Lall[n]? = some c := by
   have := congrArg (fun l => l[0]?) hD.2
   simpa using this
  have hD2 : n + 1 + L'.length = Lall.length ∧ Lall.drop (n + 1) = L' := by
   refine ⟨by have := hD.1; simp at this; omega, ?_⟩
   have := congrArg List.tail hD.2
   rwa [List.tail_drop, List.tail_cons] at this
  refine wp_seq_k (fun K2 hK2 => fe23_go s hz false A g v _ i (by omega) w' _ ix (fun b hb => hK2 _ _ ?_) b' hF)
  refine wp_seq_k (fun K3 hK3 => wp_block (wp_seq_k (fun K4 hK4 => feH_num s A g v x0 _ i n 2 _ _ kx 0 _ w w' hFe HS.out _ ix (fun b W' kx' hFe hb => hK4 _ _ ?_) b hb)))
  refine feT_wp s false A g v x0 it caps c hsz h4 h5 h6 i i0 hsk n 2 _ _ kx' 0 T r st x vi w W' hFe HS.out HV.out eit (fun W hb hi str x ix => HI.out n c hget W hb hi kx' str x ix) _ (fun b W2 ix T r st x vi hFe hb => ?_) b ix hb
  refine hK3 _ _ ?_
  exact fe24_wp s hz false A g v _ c.f2 (by omega) (by omega) W2 _ ix (fun b hb => hnext (c.f2 + 1) ix (n + 1) L' _ _ _ _ _ _ W2 (by omega) (by omega) h8 hD2 hFe b hb) b hb
end
end Go.Proofs.YtgiioglmkogpkaaGreatDoor.F
namespace Go.Proofs.YtgiioglmkogpkaaGreatDoor.F
open Go.RowKit Go.Proofs.YtgiioglmkogpkaaGreatDoorW.PrintWords Go.Proofs.YtgiioglmkogpkaaGreatDoorW.PrintLast Go.Proofs.YtgiioglmkogpkaaGreatDoorW.PrintMore
open M L
attribute [local go_sem] run_store_float
def r41 (T : Int) (s str : ByteArray) (x : Nat) : Value := .agg #[.int .i64 T, .string s, .string str, .float .f64 x, .bool true]
def cellv (w : World) (r i : Nat) : Value := (w.cell? ⟨r, i, none⟩).getD undef
theorem cellv_of {w : World} {r i : Nat} {v : Value} (h : w.cell? ⟨r, i, none⟩ = some v) : w.cell? ⟨r, i, none⟩ = some (cellv w r i) := by simp [cellv, h]
theorem r41End (P : Ending → World → Prop) (s str : ByteArray) (T : Int) (x : Nat) (W : World) (r : Nat) (tm : Array Value) (h2 : tm.getD 2 undef = .pointer (some ⟨r, 0, none⟩)) (hg : W.heap[r]? = some (.cells #[.int .i64 T, .string s, .string str, .float .f64 x, .bool true] 41 (0, 0))) (hb : P (.returned (r41 T s str x)) W) :
  bodyPost Tryz.prog Tryz.f39 P .ret ⟨tm, []⟩ W := by
 have n0 := blk_cell hg 0
 have n1 := blk_cell hg 1
 have n2 := blk_cell hg 2
 have n3 := blk_cell hg 3
 have n4 := blk_cell hg 4
 refine bodyPost_ret (v := r41 T s str x) ?_ rfl hb
 simp only [results, Tryz.results39]
 have h2' := h2
 simp only [Array.getD_eq_getD_getElem?] at h2'
 simp [go_sem, h2, h2', n0, n1, n2, n3, n4, r41]
end Go.Proofs.YtgiioglmkogpkaaGreatDoor.F
namespace Go.Proofs.YtgiioglmkogpkaaGreatDoor.F
open Go.RowKit Go.Proofs.YtgiioglmkogpkaaGreatDoorW.PrintWords Go.Proofs.YtgiioglmkogpkaaGreatDoorW.PrintLast Go.Proofs.YtgiioglmkogpkaaGreatDoorW.PrintMore
open M L V
set_option maxHeartbeats 4000000
set_option maxRecDepth 8192
attribute [local go_sem] run_store_float
structure Gq (w W : World) (g r : Nat) (T : Int) (s str : ByteArray) (x : Nat) (ix : Int) : Prop where
 hg : W.heap[g]? = some (.cells #[.int .i64 T, .string s, .string str, .float .f64 x, .int .i64 ix, .slice none 0 0] 66 (0, 0))
 hr : W.heap[r]? = some (.cells #[.int .i64 0, .string ⟨#[]⟩, .string ⟨#[]⟩, .float .f64 0, .bool false] 41 (0, 0)) ∨ W.heap[r]? = some (.cells #[.int .i64 T, .string s, .string str, .float .f64 x, .bool true] 41 (0, 0))
 ne : g ≠ r
 gb : w.heap.size ≤ g
 rb : w.heap.size ≤ r
 be : Below w.heap.size w W
theorem Gq.all {w W : World} {g r : Nat} {T : Int} {s str : ByteArray} {x : Nat} {ix : Int} (h : Gq w W g r T s str x ix) :
  Gq w W g r T s str x ix ∧ W.cell? ⟨g, 0, none⟩ = some (.int .i64 T) ∧ W.cell? ⟨g, 1, none⟩ = some (.string s) ∧ W.cell? ⟨g, 2, none⟩ = some (.string str) ∧ W.cell? ⟨g, 3, none⟩ = some (.float .f64 x) ∧ W.cell? ⟨g, 4, none⟩ = some (.int .i64 ix) ∧ W.cell? ⟨g, 5, none⟩ = some (.slice none 0 0) ∧
   (∀ i, W.frozen? ⟨r, i, none⟩ = false) ∧ W.cell? ⟨r, 0, none⟩ = some (cellv W r 0) ∧ W.cell? ⟨r, 1, none⟩ = some (cellv W r 1) ∧ W.cell? ⟨r, 2, none⟩ = some (cellv W r 2) ∧ W.cell? ⟨r, 3, none⟩ = some (cellv W r 3) ∧ W.cell? ⟨r, 4, none⟩ = some (cellv W r 4) :=
 ⟨h, blk_cell h.hg 0, blk_cell h.hg 1, blk_cell h.hg 2, blk_cell h.hg 3, blk_cell h.hg 4, blk_cell h.hg 5, by rcases h.hr with h | h <;> exact blk_frozen h, by rcases h.hr with h | h <;> exact cellv_of (blk_cell h 0), by rcases h.hr with h | h <;> exact cellv_of (blk_cell h 1), by rcases h.hr with h | h <;> exact cellv_of (blk_cell h 2), by rcases h.hr with h | h <;> exact cellv_of (blk_cell h 3), by rcases h.hr with h | h <;> exact cellv_of (blk_cell h 4)⟩
theorem Gq.drew {w W : World} {g r : Nat} {T : Int} {s str : ByteArray} {x : Nat} {ix : Int} (h : Gq w W g r T s str x ix) : Gq w W.drew g r T s str x ix :=
 ⟨h.hg, h.hr, h.ne, h.gb, h.rb, below_drew h.be⟩
theorem Gq.below {w W W2 : World} {g r : Nat} {T : Int} {s str : ByteArray} {x : Nat} {ix : Int} (h : Gq w W g r T s str x ix) (hb : Below W.heap.size W W2) : Gq w W2 g r T s str x ix := by
 refine ⟨(hb.block g (blk_lt h.hg)).trans h.hg, ?_, h.ne, h.gb, h.rb, below_then h.be h.be.size hb⟩
 rcases h.hr with h | h
 ·exact .inl ((hb.block r (blk_lt h)).trans h)
 ·exact .inr ((hb.block r (blk_lt h)).trans h)
theorem Gq.store {w W : World} {g r : Nat} {T : Int} {s str : ByteArray} {x : Nat} {ix : Int} (h : Gq w W g r T s str x ix) :
  Gq w (((((W.setCell ⟨r, 0, none⟩ (.int .i64 T)).setCell ⟨r, 1, none⟩ (.string s)).setCell ⟨r, 2, none⟩ (.string str)).setCell ⟨r, 3, none⟩ (.float .f64 x)).setCell ⟨r, 4, none⟩ (.bool true)) g r T s str x ix :=
 ⟨blk_far (blk_far (blk_far (blk_far (blk_far h.hg h.ne _) h.ne _) h.ne _) h.ne _) h.ne _, .inr (by rcases h.hr with h | h <;> exact blk_set (blk_set (blk_set (blk_set (blk_set h 0 _) 1 _) 2 _) 3 _) 4 _), h.ne, h.gb, h.rb, below_set (below_set (below_set (below_set (below_set h.be h.rb) h.rb) h.rb) h.rb) h.rb⟩
theorem Gq.fin {w X : World} {g r : Nat} {T : Int} {s str : ByteArray} {x : Nat} {ix : Int} (h : Gq w (X.setCell ⟨r, 4, none⟩ (.bool true)) g r T s str x ix) :
  (X.setCell ⟨r, 4, none⟩ (.bool true)).heap[r]? = some (.cells #[.int .i64 T, .string s, .string str, .float .f64 x, .bool true] 41 (0, 0)) := by
 rcases h.hr with h1 | h1
 rotate_left
 ·exact h1
 exfalso
 simp only [World.setCell, Array.getElem?_modify, if_true] at h1
 cases hq : X.heap[r]? with
 | none => rw [hq] at h1; simp at h1
 | some o =>
  rw [hq] at h1
  cases o <;> simp at h1
  rename_i cs t f
  obtain ⟨q, _⟩ := h1
  have := congrArg (fun a => a[4]?) q
  simp [Array.getElem?_setIfInBounds] at this
theorem gji_calls (T : Int) (s str : ByteArray) (x : Nat) (ix : Int) (w : World) (hT : T ≠ 0 ∨ 0 < s.size) :
  Calls Tryz.prog 39 #[resI T s str x ix] w fun e w' => e = .returned (r41 T s str x) ∧ Below w.heap.size w w' := by
 have HT := Aside0.mk hT
 clear hT
 simp only [resI, r41]
 go_enter Tryz.func39, Tryz.ntmps39
 go_wp2_with fail
 have G0 : Gq w ((w.alloc (.cells #[.int .i64 T, .string s, .string str, .float .f64 x, .int .i64 ix, .slice none 0 0] 66)).alloc (.cells #[.int .i64 0, .string ⟨#[]⟩, .string ⟨#[]⟩, .float .f64 0, .bool false] 41)) w.heap.size (w.heap.size + 1) T s str x ix := by
  have e : (w.alloc (.cells #[.int .i64 T, .string s, .string str, .float .f64 x, .int .i64 ix, .slice none 0 0] 66)).heap.size = w.heap.size + 1 := by simp
  have := heap_alloc_new (w.alloc (.cells #[.int .i64 T, .string s, .string str, .float .f64 x, .int .i64 ix, .slice none 0 0] 66)) (.cells #[.int .i64 0, .string ⟨#[]⟩, .string ⟨#[]⟩, .float .f64 0, .bool false] 41)
  rw [e] at this
  exact ⟨(Below.heap_alloc _ _ _ (by omega)).trans (heap_alloc_new w _), .inl this, by omega, by omega, by omega, below_alloc (below_alloc (Below.refl _ _) _) _⟩
 generalize (w.alloc (.cells #[.int .i64 T, .string s, .string str, .float .f64 x, .int .i64 ix, .slice none 0 0] 66)).alloc (.cells #[.int .i64 0, .string ⟨#[]⟩, .string ⟨#[]⟩, .float .f64 0, .bool false] 41) = W at *
 generalize w.heap.size = g at *
 generalize g + 1 = r at *
 have G1 := G0.drew
 go_region_held3 (fun w' => Gq w w' g r T s str x ix ∧ w'.cell? ⟨g, 0, none⟩ = some (.int .i64 T) ∧ w'.cell? ⟨g, 1, none⟩ = some (.string s) ∧ w'.cell? ⟨g, 2, none⟩ = some (.string str) ∧ w'.cell? ⟨g, 3, none⟩ = some (.float .f64 x) ∧ w'.cell? ⟨g, 4, none⟩ = some (.int .i64 ix) ∧ w'.cell? ⟨g, 5, none⟩ = some (.slice none 0 0) ∧
   (∀ i, w'.frozen? ⟨r, i, none⟩ = false) ∧ w'.cell? ⟨r, 0, none⟩ = some (cellv w' r 0) ∧ w'.cell? ⟨r, 1, none⟩ = some (cellv w' r 1) ∧ w'.cell? ⟨r, 2, none⟩ = some (cellv w' r 2) ∧ w'.cell? ⟨r, 3, none⟩ = some (cellv w' r 3) ∧ w'.cell? ⟨r, 4, none⟩ = some (cellv w' r 4))
  ((go_split_ands; first | exact Gq.all (by assumption) | exact Gq.all (Gq.below (by assumption) (by assumption)) | exact Gq.all (Gq.store (by assumption))))
  (first | (go_at_call 63; refine (exi_calls T s str x ix _ HT.out).mono ?_; rintro e w2 ⟨rfl, hb⟩))
 go_split_ands
 have Gf : Gq w (((((w2.setCell ⟨r, 0, none⟩ (.int .i64 T)).setCell ⟨r, 1, none⟩ (.string s)).setCell ⟨r, 2, none⟩ (.string str)).setCell ⟨r, 3, none⟩ (.float .f64 x)).setCell ⟨r, 4, none⟩ (.bool true)) g r T s str x ix := by assumption
 have hf := Gf.fin
 have hbe := Gf.be
 have HE := Aside0.mk (And.intro hf hbe)
 go_wp2_with fail
 exact r41End _ s str T x _ r _ rfl HE.out.1 ⟨rfl, HE.out.2⟩
set_option maxHeartbeats 8000000
set_option maxRecDepth 8192
def pz : Value := .agg #[.int .i64 0, .string ⟨#[]⟩, .string ⟨#[]⟩, .float .f64 0, .bool false, .int .i64 0, .string ⟨#[]⟩, .string ⟨#[]⟩, .float .f64 0, .bool false]
theorem info50 : (Tryz.prog.info? 50).map (fun i => (i.zero, i.size, i.bytes)) = some (some pz, 10, 112) := by kernel_rfl
abbrev pc (T : Int) (s str : ByteArray) (x : Nat) (T2 : Int) (s2 str2 : ByteArray) (x2 : Nat) : List Value := [.int .i64 T, .string s, .string str, .float .f64 x, .bool true, .int .i64 T2, .string s2, .string str2, .float .f64 x2, .bool true]
structure It (B po : Nat) (raws : List ByteArray) (n : Nat) (W : World) : Prop where
 ex : ∃ (v : Value) (rows : List (List Value)), W.heap[po]? = some (.cells #[v] 47 (0, 0)) ∧ Kd.R (Kd.raw 10) 50 W B (fun _ => True) v rows ∧ rows.length = n ∧ ∀ k, k < n → ∃ c, rows[k]? = some c ∧ c[6]? = some (.string (raws.getD k ⟨#[]⟩))
 bp : B ≤ po
 bw : B ≤ W.heap.size
structure Iw (B : Nat) (W w' : World) (kb vb po : Nat) (v : Value) (rows : List (List Value)) (kt : Int) (kr ks : ByteArray) (kx : Nat) (ki : Int) (T : Int) (r str : ByteArray) (x : Nat) (ix : Int) : Prop where
 hk : w'.heap[kb]? = some (.cells (cl66 kt kr ks kx ki) 66 (0, 0))
 hv : w'.heap[vb]? = some (.cells (cl66 T r str x ix) 66 (0, 0))
 ho : w'.heap[po]? = some (.cells #[v] 47 (0, 0))
 hr : Kd.R (Kd.raw 10) 50 w' B (fun _ => True) v rows
 kp : Keep66 W w'
 be : Below B W w'
 bp : B ≤ po
 bw : B ≤ W.heap.size
structure Iz (B : Nat) (W w' : World) (kb vb po : Nat) (v v1 : Value) (rows : List (List Value)) (p : List Value) (kt : Int) (kr ks : ByteArray) (kx : Nat) (ki : Int) (T : Int) (r str : ByteArray) (x : Nat) (ix : Int) : Prop where
 hk : w'.heap[kb]? = some (.cells (cl66 kt kr ks kx ki) 66 (0, 0))
 hv : w'.heap[vb]? = some (.cells (cl66 T r str x ix) 66 (0, 0))
 ho : w'.heap[po]? = some (.cells #[v] 47 (0, 0))
 hr : Kd.R (Kd.raw 10) 50 w' B (fun _ => True) v1 (rows ++ [p])
 kp : Keep66 W w'
 be : Below B W w'
 bp : B ≤ po
 bw : B ≤ W.heap.size
section
variable {B : Nat} {W w' w2 : World} {kb vb po : Nat} {v : Value} {rows : List (List Value)} {kt : Int} {kr ks : ByteArray} {kx : Nat} {ki T : Int} {r str : ByteArray} {x : Nat} {ix : Int}
theorem Iw.below (h : Iw B W w' kb vb po v rows kt kr ks kx ki T r str x ix) (hb : Below w'.heap.size w' w2) : Iw B W w2 kb vb po v rows kt kr ks kx ki T r str x ix :=
 ⟨(hb.block _ (blk_lt h.hk)).trans h.hk, (hb.block _ (blk_lt h.hv)).trans h.hv, (hb.block _ (blk_lt h.ho)).trans h.ho, Kd.R_step h.hr (fun k _ hlt => hb.block k hlt), fun g c fr hg => (hb.block _ (blk_lt (h.kp g c fr hg))).trans (h.kp g c fr hg), h.be.trans (hb.mono (Nat.le_trans h.bw h.be.size)), h.bp, h.bw⟩
theorem Iw.drew (h : Iw B W w' kb vb po v rows kt kr ks kx ki T r str x ix) : Iw B W w'.drew kb vb po v rows kt kr ks kx ki T r str x ix := h.below (below_drew (Below.refl _ _))
theorem Iw.cells (h : Iw B W w' kb vb po v rows kt kr ks kx ki T r str x ix) : w'.cell? ⟨po, 0, none⟩ = some v ∧ ∀ i, w'.frozen? ⟨po, i, none⟩ = false := ⟨blk_cell h.ho 0, blk_frozen h.ho⟩
theorem Iw.appended {p : List Value} {v1 : Value} (h : Iw B W w' kb vb po v rows kt kr ks kx ki T r str x ix) (ho : Kd.R (Kd.raw 10) 50 w2 B (fun _ => True) v1 (rows ++ [p])) (hbl : Below B w' w2) (hg : w'.grownBy w2 v.ownBlock) : Iz B W w2 kb vb po v v1 rows p kt kr ks kx ki T r str x ix := by
 have own : ∀ (k : Nat) (c : Array Value) (T : TypeId) (fr : Nat × Nat), T ≠ 50 → w'.heap[k]? = some (.cells c T fr) → w2.heap[k]? = some (.cells c T fr) := fun k c T fr hT hk => by
  refine (hg.block k (blk_lt hk) (fun e => ?_)).trans hk
  obtain ⟨_, _, hlt, q, hq, cs, hc⟩ := (Kd.R_bound h.hr).1 k e.symm
  rw [hk] at hc
  simp only [Option.some.injEq, Obj.cells.injEq] at hc
  have : q = 50 := by simpa [Kd.raw] using hq
  exact hT (hc.2.1.trans this)
 exact ⟨own _ _ _ _ (by decide) h.hk, own _ _ _ _ (by decide) h.hv, own _ _ _ _ (by decide) h.ho, ho, fun g c fr hg => own _ _ _ _ (by decide) (h.kp g c fr hg), h.be.trans hbl, h.bp, h.bw⟩
theorem Iz.cells {p : List Value} {v1 : Value} (h : Iz B W w' kb vb po v v1 rows p kt kr ks kx ki T r str x ix) : w'.cell? ⟨po, 0, none⟩ = some v ∧ ∀ i, w'.frozen? ⟨po, i, none⟩ = false := ⟨blk_cell h.ho 0, blk_frozen h.ho⟩
theorem Iz.far {p : List Value} {v1 : Value} (h : Iz B W w' kb vb po v v1 rows p kt kr ks kx ki T r str x ix) (u : Value) (g : Nat) (c : Array Value) (T' : TypeId) (fr : Nat × Nat) (hT : T' ≠ 47) (hg : w'.heap[g]? = some (.cells c T' fr)) : (w'.setCell ⟨po, 0, none⟩ u).heap[g]? = some (.cells c T' fr) := by
 refine (Below.heap_setCell w' ⟨po, 0, none⟩ u g (fun e => ?_)).trans hg
 subst e
 have := h.ho
 rw [hg] at this
 simp only [Option.some.injEq, Obj.cells.injEq] at this
 exact hT this.2.1
theorem Iz.stored {p : List Value} {v1 : Value} (h : Iz B W w' kb vb po v v1 rows p kt kr ks kx ki T r str x ix) (u : Value) : (w'.setCell ⟨po, 0, none⟩ u).heap[kb]? = some (.cells (cl66 kt kr ks kx ki) 66 (0, 0)) ∧ (w'.setCell ⟨po, 0, none⟩ u).heap[vb]? = some (.cells (cl66 T r str x ix) 66 (0, 0)) ∧ Keep66 W (w'.setCell ⟨po, 0, none⟩ u) ∧ Below B W (w'.setCell ⟨po, 0, none⟩ u) :=
 ⟨h.far u _ _ _ _ (by decide) h.hk, h.far u _ _ _ _ (by decide) h.hv, fun g c fr hg => h.far u _ _ _ _ (by decide) (h.kp g c fr hg), h.be.setCell (p := ⟨po, 0, none⟩) h.bp _⟩
theorem Iz.done {p : List Value} {v1 : Value} (h : Iz B W w' kb vb po v v1 rows p kt kr ks kx ki T r str x ix) (raws : List ByteArray) (k : Nat) (hk : k < raws.length) (hn : rows.length = k ∧ ∀ j, j < k → ∃ c, rows[j]? = some c ∧ c[6]? = some (.string (raws.getD j ⟨#[]⟩))) (hp : p[6]? = some (.string (raws.getD k ⟨#[]⟩))) : It B po raws (k + 1) (w'.setCell ⟨po, 0, none⟩ v1) := by
 refine ⟨⟨v1, rows ++ [p], blk_set h.ho 0 v1, Kd.R_step (Kd.R_bound h.hr) (fun j hj hlt => ?_) |> (Kd.R_mono · (fun _ _ => trivial)), by simp [hn.1], fun j hj => ?_⟩, h.bp, by have := h.be.size; have := h.bw; simp [World.setCell]; omega⟩
 rotate_left
 ·by_cases e : j < k
  ·obtain ⟨c, h1, h2⟩ := hn.2 j e
   exact ⟨c, by rw [List.getElem?_append_left (by omega)]; exact h1, h2⟩
  obtain rfl : j = k := by omega
  refine ⟨p, ?_, hp⟩
  rw [List.getElem?_append_right (by omega), hn.1]
  simp
 refine Below.heap_setCell w' ⟨po, 0, none⟩ v1 j (fun e => ?_)
 obtain ⟨_, _, _, q, hq, cs, hc⟩ := hj
 subst e
 rw [h.ho] at hc
 simp only [Option.some.injEq, Obj.cells.injEq] at hc
 have : q = 50 := by simpa [Kd.raw] using hq
 exact absurd (hc.2.1.trans this) (by decide)
end
theorem cl45_calls (B po : Nat) (raws : List ByteArray) (hrl : raws.length ≤ 1000000) (k : Nat) (raw : ByteArray) (hraw : raws[k]? = some raw) (W : World) (hI : It B po raws k W) (kt : Int) (kr ks : ByteArray) (kx : Nat) (ki T : Int) (str : ByteArray) (x : Nat) (ix : Int) (hkt : kt ≠ 0) (hT : T ≠ 0) :
  Calls Tryz.prog 45 #[resI kt kr ks kx ki, resI T raw str x ix, .pointer (some ⟨po, 0, none⟩)] W fun e W' => e = .returned (.bool true) ∧ It B po raws (k + 1) W' ∧ Keep66 W W' ∧ Below B W W' := by
 have hkl : k < raws.length := by
  by_cases c : k < raws.length
  ·exact c
  ·rw [List.getElem?_eq_none (by omega)] at hraw; cases hraw
 obtain ⟨⟨v, rows, ho, hr, hrn, hrk⟩, hbp, hbw⟩ := hI
 have h1 : Below W.heap.size W ((W.alloc (.cells (cl66 kt kr ks kx ki) 66)).alloc (.cells (cl66 T raw str x ix) 66)) := below_alloc (below_alloc (Below.refl _ _) _) _
 have hk : ((W.alloc (.cells (cl66 kt kr ks kx ki) 66)).alloc (.cells (cl66 T raw str x ix) 66)).heap[W.heap.size]? = some (.cells (cl66 kt kr ks kx ki) 66 (0, 0)) :=
  (Below.heap_alloc _ _ _ (by simp)).trans (heap_alloc_new W _)
 have hv : ((W.alloc (.cells (cl66 kt kr ks kx ki) 66)).alloc (.cells (cl66 T raw str x ix) 66)).heap[W.heap.size + 1]? = some (.cells (cl66 T raw str x ix) 66 (0, 0)) := by
  have e : (W.alloc (.cells (cl66 kt kr ks kx ki) 66)).heap.size = W.heap.size + 1 := by simp
  have := heap_alloc_new (W.alloc (.cells (cl66 kt kr ks kx ki) 66)) (.cells (cl66 T raw str x ix) 66)
  rwa [e] at this
 have H0 := Aside0.mk (show Iw B W _ W.heap.size (W.heap.size + 1) po v rows kt kr ks kx ki T raw str x ix from ⟨hk, hv, (h1.block _ (blk_lt ho)).trans ho, Kd.R_step hr (fun k _ hlt => h1.block k hlt), .of_below h1, h1.mono hbw, hbp, hbw⟩)
 have HX := Aside0.mk (And.intro hkt (And.intro hT (And.intro hrn hrk)))
 clear ho hr hrn hrk h1 hk hv hkt hT
 simp only [resI]
 go_enter Tryz.func45, Tryz.ntmps45
 go_upto_region 1 with fail
 generalize hW1 : ((W.alloc (.cells (cl66 kt kr ks kx ki) 66)).alloc (.cells (cl66 T raw str x ix) 66)) = W1 at *
 have hW1' := hW1
 simp only [cl66] at hW1'
 try rw [hW1']
 clear hW1 hW1'
 generalize W.heap.size + 1 = vb at *
 generalize W.heap.size = kb at *
 have HY := Aside0.mk H0.out.drew
 clear H0
 refine wp_region_held_drew (S := (fun w' => w'.heap[kb]? = some (.cells (cl66 kt kr ks kx ki) 66 (0, 0)) ∧ w'.heap[vb]? = some (.cells (cl66 T raw str x ix) 66 (0, 0)))) (by kernel_rfl) (show _ ∧ _ from ⟨HY.out.hk, HY.out.hv⟩) (fun hHeld => ?_)
 refine tkH (i := 1) (by simp only [gT, gS, gZ]; rfl) (by kernel_rfl) (by exact fun _ _ _ h => h) (.inl ⟨by rfl, fun w hSw => by obtain ⟨c0, c1, c2, c3, c4, c5⟩ := cells6 hSw.1; go_simp <;> with_reducible rfl⟩) hHeld ?_
 (try simp only [aP, aN, sT, sZ, sS])
 refine tkH (i := 3) (by simp only [gT, gS, gZ]; rfl) (by kernel_rfl) (by exact fun _ _ _ h => h) (.inl ⟨by rfl, fun w hSw => by obtain ⟨c0, c1, c2, c3, c4, c5⟩ := cells6 hSw.2; go_simp <;> with_reducible rfl⟩) hHeld ?_
 (try simp only [aP, aN, sT, sZ, sS])
 refine wpAnyH_ready (rs := [0, 2]) (by kernel_rfl) (by simp) ?_
 refine AllReadyH.cons (o := ?_) ?_ (fun K hK => ?_) ?_
 rotate_left 1
 ·(simp only [gT, gS, gZ]; rfl)
 ·obtain ⟨o0, o1⟩ := HY.out.cells
  go_simp
  clear o0 o1
  refine hK.out _ _ (show _ ∧ _ from ⟨HY.out.hk, HY.out.hv⟩) (fun hHeld2 => ?_)
  clear hK K hHeld
  have hHeld := hHeld2
  clear hHeld2
  (try simp only [aP, aN, sT, sZ, sS])
  refine wpAnyH_ready (rs := [2]) (by kernel_rfl) (by simp) ?_
  refine AllReadyH.cons (o := ?_) ?_ (fun K hK => ?_) ?_
  rotate_left 1
  ·(simp only [gT, gS, gZ]; rfl)
  ·go_simp
   (go_at_call 39; refine (gji_calls kt kr ks kx ki _ (.inl HX.out.1)).mono ?_; rintro e w5 ⟨rfl, hb⟩; simp only [r41]; have HY := Aside0.mk (HY.out.below hb); clear hb)
   refine hK.out _ _ (show _ ∧ _ from ⟨HY.out.hk, HY.out.hv⟩) (fun hHeld2 => ?_)
   clear hK K hHeld
   have hHeld := hHeld2
   clear hHeld2
   (try simp only [aP, aN, sT, sZ, sS])
   refine wpAnyH_ready (rs := [4]) (by kernel_rfl) (by simp) ?_
   refine AllReadyH.cons (o := ?_) ?_ (fun K hK => ?_) ?_
   rotate_left 1
   ·(simp only [gT, gS, gZ]; rfl)
   ·go_simp
    (go_at_call 39; refine (gji_calls T raw str x ix _ (.inl HX.out.2.1)).mono ?_; rintro e w6 ⟨rfl, hb⟩; simp only [r41]; have HY := Aside0.mk (HY.out.below hb); clear hb)
    refine hK.out _ _ (show _ ∧ _ from ⟨HY.out.hk, HY.out.hv⟩) (fun hHeld2 => ?_)
    clear hK K hHeld
    have hHeld := hHeld2
    clear hHeld2
    (try simp only [aP, aN, sT, sZ, sS])
    refine tkH (i := 5) (by simp only [gT, gS, gZ]; rfl) (by kernel_rfl) (by exact fun _ _ _ h => h) (.inl ⟨by rfl, fun w hSw => by go_simp <;> with_reducible rfl⟩) hHeld ?_
    (try simp only [aP, aN, sT, sZ, sS])
    refine wpAnyH_ready (rs := [6]) (by kernel_rfl) (by simp) ?_
    refine AllReadyH.cons (o := ?_) ?_ (fun K hK => ?_) ?_
    rotate_left 1
    ·(simp only [gT, gS, gZ]; rfl)
    ·go_simp
     refine hK.out _ _ (show _ ∧ _ from ⟨(Below.heap_alloc _ _ _ (blk_lt HY.out.hk)).trans HY.out.hk, (Below.heap_alloc _ _ _ (blk_lt HY.out.hv)).trans HY.out.hv⟩) (fun hHeld2 => ?_)
     clear hK K hHeld
     have hHeld := hHeld2
     clear hHeld2
     (try simp only [aP, aN, sT, sZ, sS])
     refine wpAnyH_ready (rs := [7]) (by kernel_rfl) (by simp) ?_
     refine AllReadyH.cons (o := ?_) ?_ (fun K hK => ?_) ?_
     rotate_left 1
     ·(simp only [gT, gS, gZ]; rfl)
     ·refine Kd.R_append_step (Kd.raw 10) B (by rfl) (.tmp 6) (.tmp 12) 47 50 pz 112 rfl Tryz.underlying47 info50 rfl (by decide) (by decide) v rows (pc kt kr ks kx T raw str x) (pc kt kr ks kx T raw str x) (fun _ => True) (fun _ => False) rfl rfl ⟨rfl, rfl, by simp [Value.oneCell']⟩ (fun _ h => h.elim) (fun _ _ => trivial) HY.out.hr (Below.refl _ _) (Nat.le_trans HY.out.bw HY.out.be.size) (by have := HX.out.2.2.1; show (rows.length + 1) * 112 ≤ 140737488355328; omega) ?_
      intro v1 w7 ho hbl hg hat
      obtain ⟨A1, m1, cc1, rfl⟩ : ∃ A m c, v1 = .slice A m c := by obtain ⟨A, c, e⟩ := Kd.R_slice ho; exact ⟨_, _, _, e⟩
      have H7 := Aside0.mk (HY.out.appended ho hbl hg)
      clear ho hbl hg hat
      refine hK.out _ _ (show _ ∧ _ from ⟨H7.out.hk, H7.out.hv⟩) (fun hHeld2 => ?_)
      clear hK K hHeld
      have hHeld := hHeld2
      clear hHeld2
      (try simp only [aP, aN, sT, sZ, sS])
      refine wpAnyH_ready (rs := [8]) (by kernel_rfl) (by simp) ?_
      refine AllReadyH.cons (o := ?_) ?_ (fun K hK => ?_) ?_
      rotate_left 1
      ·(simp only [gT, gS, gZ]; rfl)
      ·obtain ⟨o0, o1⟩ := H7.out.cells
       go_simp
       clear o0 o1
       refine hK.out _ _ (show _ ∧ _ from ⟨(H7.out.stored _).1, (H7.out.stored _).2.1⟩) (fun hHeld2 => ?_)
       clear hK K hHeld
       have hHeld := hHeld2
       clear hHeld2
       (try simp only [aP, aN, sT, sZ, sS])
       refine wpAnyH_done (by kernel_rfl) ?_ _
       go_wp2_with fail
       go_ret
       exact ⟨rfl, H7.out.done raws k hkl HX.out.2.2 (by rw [List.getD_eq_getElem?_getD, hraw]; rfl), (H7.out.stored _).2.2.1, (H7.out.stored _).2.2.2⟩
      exact AllReadyH.nil
     exact AllReadyH.nil
    exact AllReadyH.nil
   exact AllReadyH.nil
  exact AllReadyH.nil
 refine AllReadyH.cons (o := ?_) ?_ (fun K hK => ?_) ?_
 rotate_left 1
 ·(simp only [gT, gS, gZ]; rfl)
 ·go_simp
  (go_at_call 39; refine (gji_calls kt kr ks kx ki _ (.inl HX.out.1)).mono ?_; rintro e w5 ⟨rfl, hb⟩; simp only [r41]; have HY := Aside0.mk (HY.out.below hb); clear hb)
  refine hK.out _ _ (show _ ∧ _ from ⟨HY.out.hk, HY.out.hv⟩) (fun hHeld2 => ?_)
  clear hK K hHeld
  have hHeld := hHeld2
  clear hHeld2
  (try simp only [aP, aN, sT, sZ, sS])
  refine wpAnyH_ready (rs := [0, 4]) (by kernel_rfl) (by simp) ?_
  refine AllReadyH.cons (o := ?_) ?_ (fun K hK => ?_) ?_
  rotate_left 1
  ·(simp only [gT, gS, gZ]; rfl)
  ·obtain ⟨o0, o1⟩ := HY.out.cells
   go_simp
   clear o0 o1
   refine hK.out _ _ (show _ ∧ _ from ⟨HY.out.hk, HY.out.hv⟩) (fun hHeld2 => ?_)
   clear hK K hHeld
   have hHeld := hHeld2
   clear hHeld2
   (try simp only [aP, aN, sT, sZ, sS])
   refine wpAnyH_ready (rs := [4]) (by kernel_rfl) (by simp) ?_
   refine AllReadyH.cons (o := ?_) ?_ (fun K hK => ?_) ?_
   rotate_left 1
   ·(simp only [gT, gS, gZ]; rfl)
   ·go_simp
    (go_at_call 39; refine (gji_calls T raw str x ix _ (.inl HX.out.2.1)).mono ?_; rintro e w6 ⟨rfl, hb⟩; simp only [r41]; have HY := Aside0.mk (HY.out.below hb); clear hb)
    refine hK.out _ _ (show _ ∧ _ from ⟨HY.out.hk, HY.out.hv⟩) (fun hHeld2 => ?_)
    clear hK K hHeld
    have hHeld := hHeld2
    clear hHeld2
    (try simp only [aP, aN, sT, sZ, sS])
    refine tkH (i := 5) (by simp only [gT, gS, gZ]; rfl) (by kernel_rfl) (by exact fun _ _ _ h => h) (.inl ⟨by rfl, fun w hSw => by go_simp <;> with_reducible rfl⟩) hHeld ?_
    (try simp only [aP, aN, sT, sZ, sS])
    refine wpAnyH_ready (rs := [6]) (by kernel_rfl) (by simp) ?_
    refine AllReadyH.cons (o := ?_) ?_ (fun K hK => ?_) ?_
    rotate_left 1
    ·(simp only [gT, gS, gZ]; rfl)
    ·go_simp
     refine hK.out _ _ (show _ ∧ _ from ⟨(Below.heap_alloc _ _ _ (blk_lt HY.out.hk)).trans HY.out.hk, (Below.heap_alloc _ _ _ (blk_lt HY.out.hv)).trans HY.out.hv⟩) (fun hHeld2 => ?_)
     clear hK K hHeld
     have hHeld := hHeld2
     clear hHeld2
     (try simp only [aP, aN, sT, sZ, sS])
     refine wpAnyH_ready (rs := [7]) (by kernel_rfl) (by simp) ?_
     refine AllReadyH.cons (o := ?_) ?_ (fun K hK => ?_) ?_
     rotate_left 1
     ·(simp only [gT, gS, gZ]; rfl)
     ·refine Kd.R_append_step (Kd.raw 10) B (by rfl) (.tmp 6) (.tmp 12) 47 50 pz 112 rfl Tryz.underlying47 info50 rfl (by decide) (by decide) v rows (pc kt kr ks kx T raw str x) (pc kt kr ks kx T raw str x) (fun _ => True) (fun _ => False) rfl rfl ⟨rfl, rfl, by simp [Value.oneCell']⟩ (fun _ h => h.elim) (fun _ _ => trivial) HY.out.hr (Below.refl _ _) (Nat.le_trans HY.out.bw HY.out.be.size) (by have := HX.out.2.2.1; show (rows.length + 1) * 112 ≤ 140737488355328; omega) ?_
      intro v1 w7 ho hbl hg hat
      obtain ⟨A1, m1, cc1, rfl⟩ : ∃ A m c, v1 = .slice A m c := by obtain ⟨A, c, e⟩ := Kd.R_slice ho; exact ⟨_, _, _, e⟩
      have H7 := Aside0.mk (HY.out.appended ho hbl hg)
      clear ho hbl hg hat
      refine hK.out _ _ (show _ ∧ _ from ⟨H7.out.hk, H7.out.hv⟩) (fun hHeld2 => ?_)
      clear hK K hHeld
      have hHeld := hHeld2
      clear hHeld2
      (try simp only [aP, aN, sT, sZ, sS])
      refine wpAnyH_ready (rs := [8]) (by kernel_rfl) (by simp) ?_
      refine AllReadyH.cons (o := ?_) ?_ (fun K hK => ?_) ?_
      rotate_left 1
      ·(simp only [gT, gS, gZ]; rfl)
      ·obtain ⟨o0, o1⟩ := H7.out.cells
       go_simp
       clear o0 o1
       refine hK.out _ _ (show _ ∧ _ from ⟨(H7.out.stored _).1, (H7.out.stored _).2.1⟩) (fun hHeld2 => ?_)
       clear hK K hHeld
       have hHeld := hHeld2
       clear hHeld2
       (try simp only [aP, aN, sT, sZ, sS])
       refine wpAnyH_done (by kernel_rfl) ?_ _
       go_wp2_with fail
       go_ret
       exact ⟨rfl, H7.out.done raws k hkl HX.out.2.2 (by rw [List.getD_eq_getElem?_getD, hraw]; rfl), (H7.out.stored _).2.2.1, (H7.out.stored _).2.2.2⟩
      exact AllReadyH.nil
     exact AllReadyH.nil
    exact AllReadyH.nil
   exact AllReadyH.nil
  refine AllReadyH.cons (o := ?_) ?_ (fun K hK => ?_) ?_
  rotate_left 1
  ·(simp only [gT, gS, gZ]; rfl)
  ·go_simp
   (go_at_call 39; refine (gji_calls T raw str x ix _ (.inl HX.out.2.1)).mono ?_; rintro e w6 ⟨rfl, hb⟩; simp only [r41]; have HY := Aside0.mk (HY.out.below hb); clear hb)
   refine hK.out _ _ (show _ ∧ _ from ⟨HY.out.hk, HY.out.hv⟩) (fun hHeld2 => ?_)
   clear hK K hHeld
   have hHeld := hHeld2
   clear hHeld2
   (try simp only [aP, aN, sT, sZ, sS])
   refine tkH (i := 5) (by simp only [gT, gS, gZ]; rfl) (by kernel_rfl) (by exact fun _ _ _ h => h) (.inl ⟨by rfl, fun w hSw => by go_simp <;> with_reducible rfl⟩) hHeld ?_
   (try simp only [aP, aN, sT, sZ, sS])
   refine wpAnyH_ready (rs := [0, 6]) (by kernel_rfl) (by simp) ?_
   refine AllReadyH.cons (o := ?_) ?_ (fun K hK => ?_) ?_
   rotate_left 1
   ·(simp only [gT, gS, gZ]; rfl)
   ·obtain ⟨o0, o1⟩ := HY.out.cells
    go_simp
    clear o0 o1
    refine hK.out _ _ (show _ ∧ _ from ⟨HY.out.hk, HY.out.hv⟩) (fun hHeld2 => ?_)
    clear hK K hHeld
    have hHeld := hHeld2
    clear hHeld2
    (try simp only [aP, aN, sT, sZ, sS])
    refine wpAnyH_ready (rs := [6]) (by kernel_rfl) (by simp) ?_
    refine AllReadyH.cons (o := ?_) ?_ (fun K hK => ?_) ?_
    rotate_left 1
    ·(simp only [gT, gS, gZ]; rfl)
    ·go_simp
     refine hK.out _ _ (show _ ∧ _ from ⟨(Below.heap_alloc _ _ _ (blk_lt HY.out.hk)).trans HY.out.hk, (Below.heap_alloc _ _ _ (blk_lt HY.out.hv)).trans HY.out.hv⟩) (fun hHeld2 => ?_)
     clear hK K hHeld
     have hHeld := hHeld2
     clear hHeld2
     (try simp only [aP, aN, sT, sZ, sS])
     refine wpAnyH_ready (rs := [7]) (by kernel_rfl) (by simp) ?_
     refine AllReadyH.cons (o := ?_) ?_ (fun K hK => ?_) ?_
     rotate_left 1
     ·(simp only [gT, gS, gZ]; rfl)
     ·refine Kd.R_append_step (Kd.raw 10) B (by rfl) (.tmp 6) (.tmp 12) 47 50 pz 112 rfl Tryz.underlying47 info50 rfl (by decide) (by decide) v rows (pc kt kr ks kx T raw str x) (pc kt kr ks kx T raw str x) (fun _ => True) (fun _ => False) rfl rfl ⟨rfl, rfl, by simp [Value.oneCell']⟩ (fun _ h => h.elim) (fun _ _ => trivial) HY.out.hr (Below.refl _ _) (Nat.le_trans HY.out.bw HY.out.be.size) (by have := HX.out.2.2.1; show (rows.length + 1) * 112 ≤ 140737488355328; omega) ?_
      intro v1 w7 ho hbl hg hat
      obtain ⟨A1, m1, cc1, rfl⟩ : ∃ A m c, v1 = .slice A m c := by obtain ⟨A, c, e⟩ := Kd.R_slice ho; exact ⟨_, _, _, e⟩
      have H7 := Aside0.mk (HY.out.appended ho hbl hg)
      clear ho hbl hg hat
      refine hK.out _ _ (show _ ∧ _ from ⟨H7.out.hk, H7.out.hv⟩) (fun hHeld2 => ?_)
      clear hK K hHeld
      have hHeld := hHeld2
      clear hHeld2
      (try simp only [aP, aN, sT, sZ, sS])
      refine wpAnyH_ready (rs := [8]) (by kernel_rfl) (by simp) ?_
      refine AllReadyH.cons (o := ?_) ?_ (fun K hK => ?_) ?_
      rotate_left 1
      ·(simp only [gT, gS, gZ]; rfl)
      ·obtain ⟨o0, o1⟩ := H7.out.cells
       go_simp
       clear o0 o1
       refine hK.out _ _ (show _ ∧ _ from ⟨(H7.out.stored _).1, (H7.out.stored _).2.1⟩) (fun hHeld2 => ?_)
       clear hK K hHeld
       have hHeld := hHeld2
       clear hHeld2
       (try simp only [aP, aN, sT, sZ, sS])
       refine wpAnyH_done (by kernel_rfl) ?_ _
       go_wp2_with fail
       go_ret
       exact ⟨rfl, H7.out.done raws k hkl HX.out.2.2 (by rw [List.getD_eq_getElem?_getD, hraw]; rfl), (H7.out.stored _).2.2.1, (H7.out.stored _).2.2.2⟩
      exact AllReadyH.nil
     exact AllReadyH.nil
    exact AllReadyH.nil
   refine AllReadyH.cons (o := ?_) ?_ (fun K hK => ?_) ?_
   rotate_left 1
   ·(simp only [gT, gS, gZ]; rfl)
   ·go_simp
    refine hK.out _ _ (show _ ∧ _ from ⟨(Below.heap_alloc _ _ _ (blk_lt HY.out.hk)).trans HY.out.hk, (Below.heap_alloc _ _ _ (blk_lt HY.out.hv)).trans HY.out.hv⟩) (fun hHeld2 => ?_)
    clear hK K hHeld
    have hHeld := hHeld2
    clear hHeld2
    (try simp only [aP, aN, sT, sZ, sS])
    refine wpAnyH_ready (rs := [0]) (by kernel_rfl) (by simp) ?_
    refine AllReadyH.cons (o := ?_) ?_ (fun K hK => ?_) ?_
    rotate_left 1
    ·(simp only [gT, gS, gZ]; rfl)
    ·obtain ⟨o0, o1⟩ := (HY.out.below (below_alloc (Below.refl _ _) (.cells (pc kt kr ks kx T raw str x).toArray 50))).cells
     go_simp
     clear o0 o1
     refine hK.out _ _ (show _ ∧ _ from ⟨(Below.heap_alloc _ _ _ (blk_lt HY.out.hk)).trans HY.out.hk, (Below.heap_alloc _ _ _ (blk_lt HY.out.hv)).trans HY.out.hv⟩) (fun hHeld2 => ?_)
     clear hK K hHeld
     have hHeld := hHeld2
     clear hHeld2
     (try simp only [aP, aN, sT, sZ, sS])
     refine wpAnyH_ready (rs := [7]) (by kernel_rfl) (by simp) ?_
     refine AllReadyH.cons (o := ?_) ?_ (fun K hK => ?_) ?_
     rotate_left 1
     ·(simp only [gT, gS, gZ]; rfl)
     ·refine Kd.R_append_step (Kd.raw 10) B (by rfl) (.tmp 6) (.tmp 12) 47 50 pz 112 rfl Tryz.underlying47 info50 rfl (by decide) (by decide) v rows (pc kt kr ks kx T raw str x) (pc kt kr ks kx T raw str x) (fun _ => True) (fun _ => False) rfl rfl ⟨rfl, rfl, by simp [Value.oneCell']⟩ (fun _ h => h.elim) (fun _ _ => trivial) HY.out.hr (Below.refl _ _) (Nat.le_trans HY.out.bw HY.out.be.size) (by have := HX.out.2.2.1; show (rows.length + 1) * 112 ≤ 140737488355328; omega) ?_
      intro v1 w7 ho hbl hg hat
      obtain ⟨A1, m1, cc1, rfl⟩ : ∃ A m c, v1 = .slice A m c := by obtain ⟨A, c, e⟩ := Kd.R_slice ho; exact ⟨_, _, _, e⟩
      have H7 := Aside0.mk (HY.out.appended ho hbl hg)
      clear ho hbl hg hat
      refine hK.out _ _ (show _ ∧ _ from ⟨H7.out.hk, H7.out.hv⟩) (fun hHeld2 => ?_)
      clear hK K hHeld
      have hHeld := hHeld2
      clear hHeld2
      (try simp only [aP, aN, sT, sZ, sS])
      refine wpAnyH_ready (rs := [8]) (by kernel_rfl) (by simp) ?_
      refine AllReadyH.cons (o := ?_) ?_ (fun K hK => ?_) ?_
      rotate_left 1
      ·(simp only [gT, gS, gZ]; rfl)
      ·obtain ⟨o0, o1⟩ := H7.out.cells
       go_simp
       clear o0 o1
       refine hK.out _ _ (show _ ∧ _ from ⟨(H7.out.stored _).1, (H7.out.stored _).2.1⟩) (fun hHeld2 => ?_)
       clear hK K hHeld
       have hHeld := hHeld2
       clear hHeld2
       (try simp only [aP, aN, sT, sZ, sS])
       refine wpAnyH_done (by kernel_rfl) ?_ _
       go_wp2_with fail
       go_ret
       exact ⟨rfl, H7.out.done raws k hkl HX.out.2.2 (by rw [List.getD_eq_getElem?_getD, hraw]; rfl), (H7.out.stored _).2.2.1, (H7.out.stored _).2.2.2⟩
      exact AllReadyH.nil
     exact AllReadyH.nil
    exact AllReadyH.nil
   exact AllReadyH.nil
  exact AllReadyH.nil
 exact AllReadyH.nil
end Go.Proofs.YtgiioglmkogpkaaGreatDoor.F
namespace Go.Proofs.YtgiioglmkogpkaaGreatDoor.F
open Go.RowKit Go.Proofs.YtgiioglmkogpkaaGreatDoorW.PrintWords Go.Proofs.YtgiioglmkogpkaaGreatDoorW.PrintLast Go.Proofs.YtgiioglmkogpkaaGreatDoorW.PrintMore
open M L
set_option maxHeartbeats 2000000
set_option maxRecDepth 100000
theorem cc_used (b : Nat) (w : World) (h0 : w.cell? ⟨b, 0, none⟩ = some (.pointer (some ⟨b, 0, none⟩))) :
  Calls Tryz.prog 111 #[.pointer (some ⟨b, 0, none⟩)] w fun e w' => e = .returned (.tuple #[]) ∧ w' = w := by
 obtain ⟨j, hj, _⟩ := Option.map_eq_some_iff.1 Tryz.Builder_Extra_169.sizeBuilder
 go_enter Tryz.func111, Tryz.ntmps111
 go_wp2
 rw [Lib.run_neq_ptr_same w _ Tryz.underlying119 hj]
 go_wp2
 go_end0
 exact ⟨rfl, rfl⟩
theorem cc_fresh (b : Nat) (w : World) (h0 : w.cell? ⟨b, 0, none⟩ = some (.pointer none)) (hsh : w.shape? b = some (121, 2)) (hfz : w.frozen? ⟨b, 0, none⟩ = false) :
  Calls Tryz.prog 111 #[.pointer (some ⟨b, 0, none⟩)] w fun e w' => e = .returned (.tuple #[]) ∧ w' = w.setCell ⟨b, 0, none⟩ (.pointer (some ⟨b, 0, none⟩)) := by
 obtain ⟨j, hj, hjs⟩ := Option.map_eq_some_iff.1 Tryz.Builder_Extra_169.sizeBuilder
 go_enter Tryz.func111, Tryz.ntmps111
 go_wp2
 rw [Lib.run_to_unsafe w ⟨b, 0, none⟩ Tryz.underlying119 Tryz.underlying167 hj (by rw [hjs]; decide) hsh (Nat.zero_lt_succ 1)]
 simp only [Result.andThen]
 rw [Oper.upon_value]
 go_wp2
 rw [run_callFunc_extern Tryz.func134 (by kernel_rfl) (by kernel_rfl) (by kernel_rfl) (e := Extern.AbiNoEscape.same) (by kernel_rfl)]
 rw [Lib.run_noEscape]
 simp only [Result.andThen]
 rw [Oper.upon_value]
 go_wp2
 rw [Lib.run_from_unsafe w ⟨b, 0, none⟩ Tryz.underlying167 Tryz.underlying119 hj hsh Tryz.Builder_Extra_169.liesBuilder]
 simp only [Result.andThen]
 rw [Oper.upon_value]
 go_wp2
 go_end0
 exact ⟨rfl, rfl⟩
def KeepO (W W' : World) : Prop := ∀ (g : Nat) (c : Array Value) (T : TypeId) (fr : Nat × Nat), T ≠ 121 → T ≠ 5 → W.heap[g]? = some (Obj.cells c T fr) → W'.heap[g]? = some (Obj.cells c T fr)
theorem KeepO.refl (W : World) : KeepO W W := fun _ _ _ _ _ _ h => h
theorem KeepO.trans {W W1 W2 : World} (h : KeepO W W1) (h2 : KeepO W1 W2) : KeepO W W2 := fun g c T fr a b h0 => h2 g c T fr a b (h g c T fr a b h0)
theorem KeepO.set {W W1 : World} (h : KeepO W W1) {b : Nat} {cs : Array Value} {fr : Nat × Nat} (hb : W1.heap[b]? = some (.cells cs 121 fr)) (j : Nat) (u : Value) : KeepO W (W1.setCell ⟨b, j, none⟩ u) := by
 intro g c T fr' h1 h2 h0
 have h3 := h g c T fr' h1 h2 h0
 have hne : g ≠ b := by
  intro e
  subst e
  rw [hb] at h3
  simp only [Option.some.injEq, Obj.cells.injEq] at h3
  exact h1 h3.2.1.symm
 exact (Below.heap_setCell W1 ⟨b, j, none⟩ u g hne).trans h3
abbrev Bld (B b : Nat) (bs : List Value) (w : World) : Prop := Lib.BuilderAt 121 5 B b (.pointer (some ⟨b, 0, none⟩)) bs w
theorem cc_calls (B b : Nat) (bs : List Value) (w : World) (h : Lib.IsBuilder 121 5 B b bs w) :
  Calls Tryz.prog 111 #[.pointer (some ⟨b, 0, none⟩)] w fun e w' => e = .returned (.tuple #[]) ∧ Bld B b bs w' ∧ Below B w w' ∧ KeepO w w' := by
 rcases h with h | h
 rotate_left
 ·refine (cc_used b w h.cell0).mono ?_
  rintro e w' ⟨rfl, rfl⟩
  exact ⟨rfl, h, Below.refl B _, KeepO.refl _⟩
 refine (cc_fresh b w h.cell0 h.shape h.frozen0).mono ?_
 rintro e w' ⟨rfl, rfl⟩
 obtain ⟨h1, v, hv, h2⟩ := h
 exact ⟨rfl, Lib.BuilderAt.used ⟨h1, v, hv, h2⟩ _, (Below.refl B w).setCell (p := ⟨b, 0, none⟩) h1 _, (KeepO.refl w).set hv 0 _⟩
theorem wb_calls (B b : Nat) (bs : List Value) (c : Int) (w : World) (h : Lib.IsBuilder 121 5 B b bs w) (hlen : bs.length + 1 ≤ 140737488355328) (hBw : B ≤ w.heap.size) :
  Calls Tryz.prog 80 #[.pointer (some ⟨b, 0, none⟩), .int .u8 c] w fun e w' => e = .returned .nilIface ∧ Bld B b (bs ++ [.int .u8 c]) w' ∧ Below B w w' ∧ KeepO w w' := by
 obtain ⟨i0, hi, hzz⟩ := Option.map_eq_some_iff.1 info5
 simp only [Prod.mk.injEq] at hzz
 obtain ⟨hz0, hz1, hz2⟩ := hzz
 go_enter Tryz.func80, Tryz.ntmps80
 go_wp2_with (go_at_call 111; refine (cc_calls B b bs _ h).mono ?_)
 rintro e w1 ⟨rfl, h1, hb1, hk1⟩
 obtain ⟨hB, v, hbk, hown, hne⟩ := h1
 have c0 : w1.cell? ⟨b, 0, none⟩ = some (.pointer (some ⟨b, 0, none⟩)) := by rw [Lib.cell_of_heap hbk]; rfl
 have c1 : w1.cell? ⟨b, 1, none⟩ = some v := by rw [Lib.cell_of_heap hbk]; rfl
 go_wp2_with (at_builtin; refine wpList_append_own _ rfl _ _ 103 rfl B 5 i0 (.int .u8 0) 1 1 Tryz.underlying103 hi hz0 hz1 hz2 rfl (by decide) _ _ _ rfl (hown.alloc _) ⟨w1.heap.size, 0, none⟩ 1 1 [.int .u8 c] rfl rfl ?c1 ?c2 ?c3 ?c4 ?c5 ?_)
 case c1 =>
  intro j u hj
  match j, hj with
  | 0, hj => simp at hj; subst hj; simp [Addr.add]
 case c2 => intro u hu; simp at hu; subst hu; rfl
 case c3 => unfold maxLen; omega
 case c4 => omega
 case c5 => have := hb1.size; simp; omega
 intro v' w2 hown' hgrow _
 have hlt : b < w1.heap.size := blk_lt hbk
 have hb2 : w2.heap[b]? = some (.cells #[.pointer (some ⟨b, 0, none⟩), v] 121 (0, 0)) := by
  rw [hgrow.block b (by simp; omega) (fun e => hne e.symm), Lib.alloc_old w1 _ b hlt]
  exact hbk
 have d0 : w2.cell? ⟨b, 0, none⟩ = some (.pointer (some ⟨b, 0, none⟩)) := by rw [Lib.cell_of_heap hb2]; rfl
 have d1 : w2.cell? ⟨b, 1, none⟩ = some v := by rw [Lib.cell_of_heap hb2]; rfl
 have f1 : w2.frozen? ⟨b, 1, none⟩ = false := Lib.frozen_of_heap hb2 1
 obtain ⟨g, cap, rfl⟩ : ∃ g cap, v' = .slice (some ⟨g, 0, none⟩) (bs.length + 1) cap := by
  rcases hown'.2 with ⟨_, h0⟩ | ⟨g, cap, cur, hv, _⟩
  ·omega
  ·exact ⟨g, cap, hv⟩
 go_wp2
 go_ret
 refine ⟨rfl, ?_, ?_, ?_⟩
 rotate_left 2
 rotate_left
 ·exact Lib.BuilderAt.put (T := 121) (e := 5) hB hb2 (bs' := bs ++ [.int .u8 c]) (by simpa using hown') (by decide)
 ·exact ((hb1.alloc (by have := hb1.size; omega) _).grown hgrow (by have := hb1.size; simp; omega) (fun k hk => (hown.lt k hk).1)).setCell (p := ⟨b, 1, none⟩) hB _
 refine KeepO.set (fun g' c' T fr a1 a2 h0 => ?_) hb2 1 _
 have h3 := hk1 g' c' T fr a1 a2 h0
 have hlt2 := blk_lt h3
 have h4 : (w1.alloc (.cells #[.int .u8 c] 5)).heap[g']? = some (.cells c' T fr) := (Lib.alloc_old w1 _ g' hlt2).trans h3
 exact (hgrow.block g' (by simp; omega) (fun e => Lib.ownBlock_ne (hown.alloc _) h4 a2 e.symm)).trans h4
theorem ws_calls (B b : Nat) (bs : List Value) (s : ByteArray) (w : World) (h : Lib.IsBuilder 121 5 B b bs w) (hlen : bs.length + s.size ≤ 140737488355328) (hBw : B ≤ w.heap.size) :
  Calls Tryz.prog 82 #[.pointer (some ⟨b, 0, none⟩), .string s] w fun e w' => e = .returned (.tuple #[.int .i64 s.size, .nilIface]) ∧ Bld B b (bs ++ Lib.strCells s) w' ∧ Below B w w' ∧ KeepO w w' := by
 obtain ⟨i0, hi, hzz⟩ := Option.map_eq_some_iff.1 info5
 simp only [Prod.mk.injEq] at hzz
 obtain ⟨hz0, hz1, hz2⟩ := hzz
 go_enter Tryz.func82, Tryz.ntmps82
 go_wp2_with (go_at_call 111; refine (cc_calls B b bs _ h).mono ?_)
 rintro e w1 ⟨rfl, h1, hb1, hk1⟩
 obtain ⟨hB, v, hbk, hown, hne⟩ := h1
 have c0 : w1.cell? ⟨b, 0, none⟩ = some (.pointer (some ⟨b, 0, none⟩)) := by rw [Lib.cell_of_heap hbk]; rfl
 have c1 : w1.cell? ⟨b, 1, none⟩ = some v := by rw [Lib.cell_of_heap hbk]; rfl
 go_wp2_with (at_builtin; refine Lib.wpList_append_own_string _ rfl _ _ 103 9 rfl B 5 i0 Tryz.underlying103 Tryz.underlying9 hi hz0 hz1 hz2 _ _ _ rfl hown s rfl ?c3 ?c4 ?c5 ?_)
 case c3 => unfold maxLen; omega
 case c4 => omega
 case c5 => have := hb1.size; omega
 intro v' w2 hown' hgrow _
 have hlt : b < w1.heap.size := blk_lt hbk
 have hb2 : w2.heap[b]? = some (.cells #[.pointer (some ⟨b, 0, none⟩), v] 121 (0, 0)) := by
  rw [hgrow.block b hlt (fun e => hne e.symm)]
  exact hbk
 have d0 : w2.cell? ⟨b, 0, none⟩ = some (.pointer (some ⟨b, 0, none⟩)) := by rw [Lib.cell_of_heap hb2]; rfl
 have d1 : w2.cell? ⟨b, 1, none⟩ = some v := by rw [Lib.cell_of_heap hb2]; rfl
 have f1 : w2.frozen? ⟨b, 1, none⟩ = false := Lib.frozen_of_heap hb2 1
 obtain ⟨ao, n', cap, rfl⟩ : ∃ ao n' cap, v' = .slice ao n' cap := by
  rcases hown'.2 with ⟨hv, _⟩ | ⟨g, cap, cur, hv, _⟩
  ·exact ⟨_, _, _, hv⟩
  ·exact ⟨_, _, _, hv⟩
 go_wp2
 go_ret2
 refine ⟨rfl, ?_, ?_, ?_⟩
 rotate_left 2
 rotate_left
 ·exact Lib.BuilderAt.put (T := 121) (e := 5) hB hb2 (bs' := bs ++ Lib.strCells s) (by simpa [Lib.strCells_length] using hown') (by decide)
 ·exact (hb1.grown hgrow (by have := hb1.size; omega) (fun k hk => (hown.lt k hk).1)).setCell (p := ⟨b, 1, none⟩) hB _
 refine KeepO.set (fun g' c' T fr a1 a2 h0 => ?_) hb2 1 _
 have h3 := hk1 g' c' T fr a1 a2 h0
 exact (hgrow.block g' (blk_lt h3) (fun e => Lib.ownBlock_ne hown h3 a2 e.symm)).trans h3
end Go.Proofs.YtgiioglmkogpkaaGreatDoor.F
namespace Go.Proofs.YtgiioglmkogpkaaGreatDoor.F
open Go.RowKit Go.Proofs.YtgiioglmkogpkaaGreatDoorW.PrintWords Go.Proofs.YtgiioglmkogpkaaGreatDoorW.PrintLast Go.Proofs.YtgiioglmkogpkaaGreatDoorW.PrintMore
open M L V
attribute [local go_sem] run_store_float
def outL (raws : List ByteArray) : Nat → List UInt8
 | 0 => [91]
 | n + 1 => outL raws n ++ (if n = 0 then [] else [44]) ++ (raws.getD n ⟨#[]⟩).data.toList
theorem isb_below {B b : Nat} {bs : List Value} {w w' : World} (h : Lib.IsBuilder 121 5 B b bs w) (hb : Below w.heap.size w w') : Lib.IsBuilder 121 5 B b bs w' := by
 have key : ∀ p, Lib.BuilderAt 121 5 B b p bs w → Lib.BuilderAt 121 5 B b p bs w' := fun p ⟨h1, v, h2, h3, h4⟩ => ⟨h1, v, (hb.block b (blk_lt h2)).trans h2, own_below h3 hb, h4⟩
 rcases h with h | h
 ·exact .inl (key _ h)
 ·exact .inr (key _ h)
theorem isb_keep {B b : Nat} {bs : List Value} {w w' : World} (h : Lib.IsBuilder 121 5 B b bs w) {bb : Nat} (hb : KeepN bb w w') : Lib.IsBuilder 121 5 B b bs w' := by
 have key : ∀ p, Lib.BuilderAt 121 5 B b p bs w → Lib.BuilderAt 121 5 B b p bs w' := fun p ⟨h1, v, h2, h3, h4⟩ => by
  refine ⟨h1, v, hb.2.2 _ _ _ _ (by decide) h2, ?_, h4⟩
  obtain ⟨q1, q2⟩ := h3
  refine ⟨q1, ?_⟩
  rcases q2 with q2 | ⟨g, cap, cur, q3, q4, q5, q6⟩
  ·exact .inl q2
  ·exact .inr ⟨g, cap, cur, q3, q4, hb.2.2 _ _ _ _ (by decide) q5, q6⟩
 rcases h with h | h
 ·exact .inl (key _ h)
 ·exact .inr (key _ h)
theorem isb_set {B b : Nat} {bs : List Value} {w : World} (h : Lib.IsBuilder 121 5 B b bs w) {g : Nat} {c : Array Value} {fr : Nat × Nat} {T : TypeId} (hg : w.heap[g]? = some (.cells c T fr)) (h1 : T ≠ 121) (h2 : T ≠ 5) (j : Nat) (u : Value) : Lib.IsBuilder 121 5 B b bs (w.setCell ⟨g, j, none⟩ u) := by
 have hk : ∀ (k : Nat) (c' : Array Value) (T' : TypeId) (fr' : Nat × Nat), T' ≠ T → w.heap[k]? = some (Obj.cells c' T' fr') → (w.setCell ⟨g, j, none⟩ u).heap[k]? = some (Obj.cells c' T' fr') := by
  intro k c' T' fr' hT hk
  have hne : k ≠ g := by
   intro e
   subst e
   rw [hg] at hk
   simp only [Option.some.injEq, Obj.cells.injEq] at hk
   exact hT hk.2.1.symm
  exact (Below.heap_setCell w ⟨g, j, none⟩ u k hne).trans hk
 have key : ∀ p, Lib.BuilderAt 121 5 B b p bs w → Lib.BuilderAt 121 5 B b p bs (w.setCell ⟨g, j, none⟩ u) := fun p ⟨h1', v, h2', h3, h4⟩ => by
  refine ⟨h1', v, hk _ _ _ _ (fun e => h1 e.symm) h2', ?_, h4⟩
  obtain ⟨q1, q2⟩ := h3
  refine ⟨q1, ?_⟩
  rcases q2 with q2 | ⟨g', cap, cur, q3, q4, q5, q6⟩
  ·exact .inl q2
  ·exact .inr ⟨g', cap, cur, q3, q4, hk _ _ _ _ (fun e => h2 e.symm) q5, q6⟩
 rcases h with h | h
 ·exact .inl (key _ h)
 ·exact .inr (key _ h)
structure Iv (B bb bi : Nat) (raws : List ByteArray) (n : Nat) (W : World) : Prop where
 hc : W.heap[bi]? = some (.cells #[.int .i64 (n : Int)] 3 (0, 0))
 hb : Lib.IsBuilder 121 5 B bb (Lib.byteCells (outL raws n)) W
 bi : B ≤ bi
 bw : B ≤ W.heap.size
theorem Iv.keep {B bb bi : Nat} {raws : List ByteArray} {n : Nat} {W W' : World} (h : Iv B bb bi raws n W) {b0 : Nat} (hk : KeepN b0 W W') : Iv B bb bi raws n W' :=
 ⟨hk.2.2 _ _ _ _ (by decide) h.hc, isb_keep h.hb hk, h.bi, Nat.le_trans h.bw hk.1⟩
theorem bld_isb {B b : Nat} {bs : List Value} {w : World} (h : Bld B b bs w) : Lib.IsBuilder 121 5 B b bs w := .inr h
theorem iv_next {B bb bi : Nat} {raws : List ByteArray} {k : Nat} {W W1 w2 : World} (hI : Iv B bb bi raws k W1) (hK : Keep66 W W1 ∧ Below B W W1) (hb : Bld B bb (Lib.byteCells (outL raws (k + 1))) w2) (hbel : Below B W1 w2) (hko : KeepO W1 w2) :
  Iv B bb bi raws (k + 1) (w2.setCell ⟨bi, 0, none⟩ (.int .i64 ((k : Int) + 1))) ∧ Keep66 W (w2.setCell ⟨bi, 0, none⟩ (.int .i64 ((k : Int) + 1))) ∧ Below B W (w2.setCell ⟨bi, 0, none⟩ (.int .i64 ((k : Int) + 1))) := by
 have hc2 := hko _ _ _ _ (by decide) (by decide) hI.hc
 refine ⟨⟨?_, isb_set (bld_isb hb) hc2 (by decide) (by decide) 0 _, hI.bi, ?_⟩, ?_, ?_⟩
 ·have := blk_set hc2 0 (.int .i64 ((k : Int) + 1))
  simpa using this
 ·have h1 := hI.bw
  have h2 := hbel.size
  simp [World.setCell]
  omega
 rotate_left
 ·exact (hK.2.trans hbel).setCell (p := ⟨bi, 0, none⟩) hI.bi _
 intro g c fr hg
 have h2 := hko _ _ _ _ (by decide) (by decide) (hK.1 g c fr hg)
 have hne : g ≠ bi := by
  intro e
  subst e
  rw [hc2] at h2
  simp at h2
 exact (Below.heap_setCell w2 ⟨bi, 0, none⟩ _ g hne).trans h2
theorem outL_zero (raws : List ByteArray) (raw : ByteArray) (h : raws.getD 0 ⟨#[]⟩ = raw) : Lib.byteCells (outL raws 0) ++ Lib.strCells raw = Lib.byteCells (outL raws (0 + 1)) := by
 simp only [outL, h, Lib.strCells_eq, if_true, List.append_nil]
 simp [Lib.byteCells]
theorem outL_succ (raws : List ByteArray) (k : Nat) (hk : k ≠ 0) (raw : ByteArray) (h : raws.getD k ⟨#[]⟩ = raw) : Lib.byteCells (outL raws k) ++ [.int .u8 44] ++ Lib.strCells raw = Lib.byteCells (outL raws (k + 1)) := by
 simp only [outL, h, Lib.strCells_eq, if_neg hk]
 simp [Lib.byteCells]
theorem outL_len (raws : List ByteArray) (k : Nat) (raw : ByteArray) (h : raws.getD k ⟨#[]⟩ = raw) : (outL raws k).length + raw.size ≤ (outL raws (k + 1)).length := by
 simp only [outL, h, List.length_append]
 have : raw.data.toList.length = raw.size := by simp
 omega
end Go.Proofs.YtgiioglmkogpkaaGreatDoor.F
namespace Go.Proofs.YtgiioglmkogpkaaGreatDoor.F
open Go.RowKit Go.Proofs.YtgiioglmkogpkaaGreatDoorW.PrintWords Go.Proofs.YtgiioglmkogpkaaGreatDoorW.PrintLast Go.Proofs.YtgiioglmkogpkaaGreatDoorW.PrintMore
open M L
attribute [local go_sem] run_store_float
end Go.Proofs.YtgiioglmkogpkaaGreatDoor.F
namespace Go.Proofs.YtgiioglmkogpkaaGreatDoor.F
open Go.RowKit Go.Proofs.YtgiioglmkogpkaaGreatDoorW.PrintWords Go.Proofs.YtgiioglmkogpkaaGreatDoorW.PrintLast Go.Proofs.YtgiioglmkogpkaaGreatDoorW.PrintMore
open M L V
attribute [local go_sem] run_store_float
theorem outL_total (raws : List ByteArray) : ∀ k, k ≤ raws.length → (outL raws k).length ≤ 1 + ((raws.take k).map (fun r => r.size + 1)).sum := by
 intro k
 induction k with
 | zero => intro _; simp [outL]
 | succ k ih =>
  intro hk
  have h1 := ih (by omega)
  have hg : raws.getD k ⟨#[]⟩ = raws[k] := by rw [List.getD_eq_getElem?_getD, List.getElem?_eq_getElem (by omega)]; rfl
  have ht : raws.take (k + 1) = raws.take k ++ [raws[k]] := by rw [List.take_succ_eq_append_getElem (by omega)]
  simp only [outL, hg, List.length_append, ht, List.map_append, List.sum_append, List.map_cons, List.map_nil, List.sum_cons, List.sum_nil]
  have : raws[k].data.toList.length = raws[k].size := by simp
  have h44 : (if k = 0 then ([] : List UInt8) else [44]).length ≤ 1 := by split <;> simp
  omega
theorem sum_take (l : List Nat) : ∀ k, (l.take k).sum ≤ l.sum := by
 induction l with
 | nil => intro k; simp
 | cons a l ih =>
  intro k
  cases k with
  | zero => simp
  | succ k => simp only [List.take_succ_cons, List.sum_cons]; have := ih k; omega
theorem len_sum (l : List ByteArray) : l.length ≤ (l.map (fun r => r.size + 1)).sum := by
 induction l with
 | nil => simp
 | cons a l ih => simp only [List.length_cons, List.map_cons, List.sum_cons]; omega
theorem VT.below {w W : World} (h : VT w) (hb : Below w.heap.size w W) : VT W := fun i hi => pw_cell_below hb (h i hi)
structure Ax (w W : World) (A : Nat) (s : ByteArray) (x : Nat) : Prop where
 hA : W.heap[A]? = some (.cells (cl66 5 s ⟨#[]⟩ x 0) 66 (0, 0))
 ba : w.heap.size ≤ A
 be : Below w.heap.size w W
theorem Ax.new {w W : World} (h : Below w.heap.size w W) (s : ByteArray) (x : Nat) : Ax w (W.alloc (.cells (cl66 5 s ⟨#[]⟩ x 0) 66)) W.heap.size s x := ⟨heap_alloc_new W _, h.size, below_alloc h _⟩
theorem Ax.below {w W W2 : World} {A : Nat} {s : ByteArray} {x : Nat} (h : Ax w W A s x) (hb : Below W.heap.size W W2) : Ax w W2 A s x := ⟨(hb.block A (blk_lt h.hA)).trans h.hA, h.ba, below_then h.be h.be.size hb⟩
theorem Ax.later {w W W1 W2 : World} {A : Nat} {s : ByteArray} {x : Nat} (h : Ax w W A s x) (h1 : Below W.heap.size W W1) (hb : Below W.heap.size W1 W2) : Ax w W2 A s x := h.below (h1.trans hb)
theorem Tabs2.below {w W : World} (h : Tabs w ∧ VT w) (hb : Below w.heap.size w W) : VT W ∧ Tabs W := ⟨h.2.below hb, h.1.below hb⟩
theorem alloc_heap_size (w : World) (o : Obj) : (w.alloc o).heap.size = w.heap.size + 1 := by simp
set_option maxHeartbeats 8000000
set_option maxRecDepth 8192
theorem It.keep {B po : Nat} {raws : List ByteArray} {n : Nat} {W W' : World} (h : It B po raws n W) {b0 : Nat} (hk : KeepN b0 W W') : It B po raws n W' := by
 obtain ⟨⟨v, rows, h1, h2, h3, h4⟩, h5, h6⟩ := h
 refine ⟨⟨v, rows, hk.2.2 _ _ _ _ (by decide) h1, Kd.R_mono (Kd.R_step (Kd.R_bound h2) (fun k hj hlt => ?_)) (fun _ _ => trivial), h3, h4⟩, h5, Nat.le_trans h6 hk.1⟩
 obtain ⟨_, _, _, q, hq, cs, hc⟩ := hj
 have hq : q = 50 := by simpa [Kd.raw] using hq
 exact (hk.2.2 _ _ _ _ (by rw [hq]; decide) hc).trans hc.symm
def rawsA (s : ByteArray) (E : List S78) : List ByteArray := E.map (fun c => s.extract c.f1.toNat c.f2.toNat)
def ItP (raws : List ByteArray) (w : World) (e : Ending) (w' : World) : Prop := ∃ (A : Option Addr) (n c : Nat) (rows : List (List Value)), e = .returned (.slice A n c) ∧ Below w.heap.size w w' ∧ Kd.R (Kd.raw 10) 50 w' w.heap.size (fun _ => True) (.slice A n c) rows ∧ rows.length = raws.length ∧ n = raws.length ∧ ∀ k, k < raws.length → ∃ c, rows[k]? = some c ∧ c[6]? = some (.string (raws.getD k ⟨#[]⟩))
theorem gjitems_calls (s : ByteArray) (hz : s.size ≤ 274877906944) (hs : 0 < s.size) (h91 : bt s 0 = 91) (E : List S78) (hE : Fla s 1 E) (hl : E.length ≤ 1000000) (h6 : ∀ c ∈ E, c.f0 = 6) (w : World) (hT : Tabs w) (hV : VT w) :
  Calls Tryz.prog 19 #[.string s] w (ItP (rawsA s E) w) := by
 have HP := Aside0.mk (fun W => parse_json s W hz hs (.inr h91))
 have HT := Aside0.mk (And.intro hT hV)
 have HE := Aside0.mk hE
 have H91 := Aside0.mk h91
 have H6 := Aside0.mk h6
 have hn := heap_alloc_new w (.cells #[.slice none 0 0] 47)
 have HI0 := Aside0.mk (show It w.heap.size w.heap.size (rawsA s E) 0 (w.alloc (.cells #[.slice none 0 0] 47)) from ⟨⟨_, [], hn, Kd.R_nil _ _ _ _ _, rfl, fun k hk => by omega⟩, Nat.le_refl _, by simp⟩)
 have HB0 := Aside0.mk (below_alloc (Below.refl w.heap.size w) (.cells #[.slice none 0 0] 47))
 clear hT hV hE h91 h6 hn
 go_enter Tryz.func19, Tryz.ntmps19
 go_upto_region 2 with fail
 generalize w.alloc (.cells #[.slice none 0 0] 47) = W1 at *
 have hmf : ∀ (fn : Fn) (first cap : Array Value) (w : World), (Instr.makeFunc fn first cap).run Tryz.prog w = .ok (.func fn first cap) w := fun _ _ _ _ => rfl
 have hll : (rawsA s E).length = E.length := by simp [rawsA]
 have hlr : (rawsA s E).length ≤ 1000000 := by omega
 have HLR := Aside0.mk hlr
 clear hlr
 go_upto_region 3 with (first
  | (go_at_call 43; refine (HP.out _).mono ?_; rintro e w2 ⟨x, rfl, hb⟩; simp only [res]; have H2 := Aside0.mk (And.intro (HI0.out.keep (b0 := 0) (.of_below hb (Nat.zero_le _))) (below_then HB0.out HB0.out.size hb)); clear hb)
  | (go_at_call 44; refine (foreach_arr (B := w.heap.size) (Inv := It w.heap.size w.heap.size (rawsA s E)) s hz hs H91.out E HE.out 45 #[.pointer (some ⟨w.heap.size, 0, none⟩)] ⟨#[]⟩ x 0 w2 H2.out.2.size H2.out.1 (fun n W W' h hk => h.keep hk)
    (fun k c hget W hb hI kx str x ix => cl45_calls w.heap.size w.heap.size (rawsA s E) HLR.out k _ (by simp [rawsA, hget]) W hI 2 _ _ kx 0 (kT c.f0) str x ix (by decide) (by rw [H6.out c (List.mem_of_getElem? hget)]; decide))
    (fun W hb => Tabs2.below HT.out (H2.out.2.trans hb)) (enters_of Tryz.func45 (by kernel_rfl) rfl)).mono ?_; rintro e w3 ⟨rfl, hi, hb, _⟩; have H3 := Aside0.mk (And.intro hi (H2.out.2.trans hb)); clear hi hb))
 obtain ⟨⟨v, rows, q1, q2, q3, q4⟩, _, _⟩ := H3.out.1
 obtain ⟨A, n, c, rfl⟩ : ∃ A n c, v = .slice A n c := by obtain ⟨A, c, e⟩ := Kd.R_slice q2; exact ⟨_, _, _, e⟩
 have o0 := blk_cell q1 0
 have HQ := Aside0.mk (And.intro q2 (And.intro q3 q4))
 clear q1 q2 q3 q4
 go_wp2_with fail
 go_ret
 obtain ⟨r1, r2, r3⟩ := HQ.out
 obtain ⟨e1, _, _⟩ := Kd.R_reads' r1
 exact ⟨A, n, c, rows, rfl, H3.out.2, r1, by rw [r2, hll], by rw [e1, r2, hll], fun k hk => r3 k (by omega)⟩
end Go.Proofs.YtgiioglmkogpkaaGreatDoor.F
namespace Go.Proofs.YtgiioglmkogpkaaGreatDoor.F
open Go.RowKit Go.Proofs.YtgiioglmkogpkaaGreatDoorW.PrintWords Go.Proofs.YtgiioglmkogpkaaGreatDoorW.PrintLast Go.Proofs.YtgiioglmkogpkaaGreatDoorW.PrintMore
open M L V
theorem append_str_at {P : Program} {w : World} (base : Nat) (t u ty e : TypeId) (i : TypeInfo) (ht : P.underlying t = some (.slice e)) (hu : P.underlying u = some .string) (hi : P.info? e = some i) (hz : i.zero = some (.int .u8 0))
  (hsize : i.size = 1) (hby : i.bytes = 1) (g n cap : Nat) (xs : List Value) (hown : w.ownsRow base e 1 (.slice (some ⟨g, 0, none⟩) n cap) n xs) (s : ByteArray)
  (h63 : n + s.size ≤ maxLen) (hbytes : n + s.size ≤ 140737488355328) (hbase : base ≤ w.heap.size) :
  ∃ b c w', (Builtin.append_ #[t, u] ty #[.slice (some ⟨g, 0, none⟩) n cap, .string s]).run P w = .ok (.slice (some ⟨b, 0, none⟩) (n + s.size) c) w' ∧ w'.ownsRow base e 1 (.slice (some ⟨b, 0, none⟩) (n + s.size) c) (n + s.size) (xs ++ Lib.strCells s) ∧ w.grownBy w' (some g) ∧ (b = g ∨ w.heap.size ≤ b) := by
 obtain ⟨v', w', h1, h2, h3, h4⟩ := Lib.run_append_own_string (P := P) w base t u ty e i ht hu hi hz hsize hby _ n xs hown s h63 hbytes hbase
 have hv : ∃ b c, v' = .slice (some ⟨b, 0, none⟩) (n + s.size) c ∧ (b = g ∨ w.heap.size ≤ b) := by
  have hown' := hown
  rcases hown'.2 with ⟨q, _⟩ | ⟨g', cap', cur, hv, hbg, hg, hnc, hcm, hcs, htake⟩
  ·cases q
  injection hv with ha _ hc
  injection ha with ha
  injection ha with hgg
  subst hgg; subst hc
  by_cases hr : n + s.size ≤ cap
  ·have := Lib.run_append_room_string (P := P) w t u ty e i ht hu hi hsize g n cap cur hg s hr (by omega)
   rw [h1] at this
   injection this with this
   exact ⟨g, cap, this, .inl rfl⟩
  have hxl : xs.length = n := by simpa using hown.1
  have holds : ∀ j u, xs[j]? = some u → w.cell? ((⟨g, 0, none⟩ : Addr).add j) = some u := hown.cells (g := g) rfl
  have := Lib.run_append_grow_string (P := P) w t u ty e i (.int .u8 0) ht hu hi hz ⟨g, 0, none⟩ n cap xs (by rw [hsize]; simpa using hxl) holds s (by omega) (by simp only [maxLen] at h63; omega) (by rw [hby]; exact growslice_fits (by omega) (by omega))
  rw [h1] at this
  injection this with this
  exact ⟨_, _, this, .inr (Nat.le_refl _)⟩
 obtain ⟨b, c, rfl, hb⟩ := hv
 exact ⟨b, c, w', h1, h2, h3, hb⟩
section
variable {P : Program} {ops : Array Oper} {o : Oper} {a : Act} {Q : Exit → Act → World → Prop} {K : Act → World → Prop} {W w0 : World}
theorem step_append_str_at (base : Nat) (hw : Region.wanted o (yielded ops a.tmps) = true) (s x : Operand) (t u e : TypeId)
  (ho : o.op = .call { callee := .builtin .append, args := #[s, x], argTypes := #[t, u] })
  (ht : P.underlying t = some (.slice e)) (hu : P.underlying u = some .string) (hinfo : (P.info? e).map (fun i => (i.zero, i.size, i.bytes)) = some (some (.int .u8 0), 1, 1))
  (g n cap : Nat) (xs : List Value) (y : ByteArray) (hs : a.eval s = .slice (some ⟨g, 0, none⟩) n cap) (hx : a.eval x = .string y)
  (HO : W.ownsRow base e 1 (.slice (some ⟨g, 0, none⟩) n cap) n xs) (hbase : base ≤ W.heap.size) (hl : n + y.size ≤ 140737488355328)
  (h : ∀ b c w1, w1.ownsRow base e 1 (.slice (some ⟨b, 0, none⟩) (n + y.size) c) (n + y.size) (xs ++ Lib.strCells y) → W.grownBy w1 (some g) → (b = g ∨ W.heap.size ≤ b) → K (a.put o.dst (.slice (some ⟨b, 0, none⟩) (n + y.size) c)) w1) :
  if Region.wanted o (yielded ops a.tmps) = true then Oper.wp P o a W K Q else K (a.put o.dst undef) W := by
 obtain ⟨i0, hi, hzz⟩ := Option.map_eq_some_iff.1 hinfo
 simp only [Prod.mk.injEq] at hzz
 obtain ⟨hz0, hz1, hz2⟩ := hzz
 rw [if_pos hw]
 obtain ⟨b, c, w', hr, h2, h3, h4⟩ := append_str_at (P := P) (w := W) base t u o.type e i0 ht hu hi hz0 hz1 hz2 g n cap xs HO y (by simp only [maxLen]; omega) hl hbase
 unfold Oper.wp execOp
 simp only [ho, resolve, invoke, builtin, Sem.run_bind, Sem.run_pure, Result.andThen_ok, List.map_toArray, List.map_cons, List.map_nil, hs, hx, hr]
 exact h b c w' h2 h3 h4
end
structure Al (B : Nat) (W : World) (v : Value) (rows : List (List UInt8)) : Prop where
 ex : ∃ sp : List Value, W.ownsRow B 103 1 v rows.length sp ∧ ∀ i r, rows[i]? = some r → ∃ (b n c : Nat), sp[i]? = some (Value.slice (some ⟨b, 0, none⟩) n c) ∧ W.ownsRow B 5 1 (.slice (some ⟨b, 0, none⟩) n c) r.length (Lib.byteCells r) ∧ ∀ (j b' n' c' : Nat), j ≠ i → sp[j]? = some (Value.slice (some ⟨b', 0, none⟩) n' c') → b' ≠ b
theorem own_cell {w : World} {base : Nat} {e : TypeId} {g n c : Nat} {k : Nat} {xs : List Value} (h : w.ownsRow base e 1 (.slice (some ⟨g, 0, none⟩) n c) k xs) : n = k ∧ (∀ j u, xs[j]? = some u → w.cell? ⟨g, j, none⟩ = some u) ∧ base ≤ g ∧ ∃ cs, w.heap[g]? = some (.cells cs e (0, 0)) := by
 have hc : ∀ j u, xs[j]? = some u → w.cell? ((⟨g, 0, none⟩ : Addr).add j) = some u := h.cells (g := g) rfl
 refine ⟨?_, fun j u hj => by simpa [Addr.add_lit] using hc j u hj, ?_⟩
 ·rcases h.2 with ⟨q, _⟩ | ⟨g', cap, cur, hv, _⟩
  ·cases q
  ·injection hv
 rcases h.2 with ⟨q, _⟩ | ⟨g', cap, cur, hv, hb, hg, _⟩
 ·cases q
 injection hv with ha
 injection ha with ha
 injection ha with ha
 subst ha
 exact ⟨hb, cur, hg⟩
section
variable {B : Nat} {W W' w1 : World} {v v1 : Value} {rows : List (List UInt8)}
theorem Al.nil (B : Nat) (W : World) : Al B W (.slice none 0 0) [] := ⟨[], World.ownsRow_nil W B 103 1, fun i r h => by simp at h⟩
theorem Al.move (h : Al B W v rows) (hm : ∀ (g : Nat) (c : Array Value) (T : TypeId), T = 103 ∨ T = 5 → W.heap[g]? = some (.cells c T (0, 0)) → W'.heap[g]? = some (.cells c T (0, 0))) : Al B W' v rows := by
 obtain ⟨sp, h1, h2⟩ := h
 have mv : ∀ {e : TypeId} {u : Value} {n : Nat} {xs : List Value}, (e = 103 ∨ e = 5) → W.ownsRow B e 1 u n xs → W'.ownsRow B e 1 u n xs := fun he ho => own_move ho (fun k hk => by
  obtain ⟨cs, hc⟩ := own_typed ho k hk
  rw [hc, hm k cs _ he hc])
 exact ⟨sp, mv (.inl rfl) h1, fun i r hr => by
  obtain ⟨b, n, c, q1, q2, q3⟩ := h2 i r hr
  exact ⟨b, n, c, q1, mv (.inr rfl) q2, q3⟩⟩
theorem Al.push (sp : List Value) (h1 : W.ownsRow B 103 1 v rows.length sp) (h2 : ∀ i r, rows[i]? = some r → ∃ (b n c : Nat), sp[i]? = some (Value.slice (some ⟨b, 0, none⟩) n c) ∧ W.ownsRow B 5 1 (.slice (some ⟨b, 0, none⟩) n c) r.length (Lib.byteCells r) ∧ ∀ (j b' n' c' : Nat), j ≠ i → sp[j]? = some (Value.slice (some ⟨b', 0, none⟩) n' c') → b' ≠ b) (b c : Nat) (hnew : ∃ cs, w1.heap[b]? = some (.cells cs 5 (0, 0))) (hb : W.heap.size ≤ b) (hrow : w1.ownsRow B 5 1 (.slice (some ⟨b, 0, none⟩) 0 c) 0 [])
  (hv : w1.ownsRow B 103 1 v1 (rows.length + 1) (sp ++ [.slice (some ⟨b, 0, none⟩) 0 c]))
  (hm : ∀ (g : Nat) (cs : Array Value), W.heap[g]? = some (.cells cs 5 (0, 0)) → w1.heap[g]? = some (.cells cs 5 (0, 0))) : Al B w1 v1 (rows ++ [[]]) := by
 have hl : sp.length = rows.length := by have := h1.1; omega
 have hlt : ∀ (i b' n' c' : Nat), sp[i]? = some (Value.slice (some ⟨b', 0, none⟩) n' c') → b' < W.heap.size := by
  intro i b' n' c' hi
  have hil : i < rows.length := by
   rw [← hl]
   by_cases q : i < sp.length
   ·exact q
   ·rw [List.getElem?_eq_none (by omega)] at hi; cases hi
  obtain ⟨b2, n2, c2, q1, q2, _⟩ := h2 i _ (List.getElem?_eq_getElem hil)
  rw [hi] at q1
  injection q1 with q1
  injection q1 with q1
  injection q1 with q1
  injection q1 with q1
  subst q1
  obtain ⟨_, _, _, cs, hc⟩ := own_cell q2
  exact blk_lt hc
 refine ⟨sp ++ [.slice (some ⟨b, 0, none⟩) 0 c], by rw [List.length_append]; exact hv, fun i r hr => ?_⟩
 by_cases hi : i < rows.length
 rotate_left
 ·rw [List.getElem?_append_right (by omega)] at hr
  have hi0 : i - rows.length = 0 := by
   by_cases q : i - rows.length = 0
   ·exact q
   ·rw [List.getElem?_eq_none (by simp; omega)] at hr; cases hr
  rw [hi0] at hr
  simp at hr
  subst hr
  have hie : i = sp.length := by omega
  refine ⟨b, 0, c, by rw [hie, List.getElem?_append_right (Nat.le_refl _)]; simp, by simpa [Lib.byteCells] using hrow, fun j b' n' c' hj hs => ?_⟩
  by_cases hjl : j < sp.length
  rotate_left
  ·rw [List.getElem?_append_right (by omega), List.getElem?_eq_none (by simp; omega)] at hs
   cases hs
  rw [List.getElem?_append_left hjl] at hs
  have := hlt j b' n' c' hs
  omega
 rw [List.getElem?_append_left hi] at hr
 obtain ⟨b2, n2, c2, q1, q2, q3⟩ := h2 i r hr
 refine ⟨b2, n2, c2, by rw [List.getElem?_append_left (by omega)]; exact q1, own_move q2 (fun k hk => ?_), fun j b' n' c' hj hs => ?_⟩
 ·obtain ⟨cs, hc⟩ := own_typed q2 k hk
  rw [hc, hm k cs hc]
 by_cases hjl : j < sp.length
 ·rw [List.getElem?_append_left hjl] at hs
  exact q3 j b' n' c' hj hs
 rw [List.getElem?_append_right (by omega)] at hs
 have hj0 : j - sp.length = 0 := by
  by_cases q : j - sp.length = 0
  ·exact q
  ·rw [List.getElem?_eq_none (by simp; omega)] at hs; cases hs
 rw [hj0] at hs
 simp at hs
 obtain ⟨rfl, _⟩ := hs
 have := hlt i b2 n2 c2 q1
 omega
theorem Al.grow {g m cap : Nat} (h : Al B W (.slice (some ⟨g, 0, none⟩) m cap) rows) (i : Nat) (r : List UInt8) (hr : rows[i]? = some r) (b n c : Nat) (hcell : W.cell? ⟨g, i, none⟩ = some (.slice (some ⟨b, 0, none⟩) n c)) (bs : List UInt8) (b2 n2 c2 : Nat)
  (ho : w1.ownsRow B 5 1 (.slice (some ⟨b2, 0, none⟩) n2 c2) (r ++ bs).length (Lib.byteCells (r ++ bs))) (hg : W.grownBy w1 (some b)) (hb2 : b2 = b ∨ W.heap.size ≤ b2) :
  Al B (w1.setCell ⟨g, i, none⟩ (.slice (some ⟨b2, 0, none⟩) n2 c2)) (.slice (some ⟨g, 0, none⟩) m cap) (rows.set i (r ++ bs)) := by
 obtain ⟨sp, h1, h2⟩ := h
 have hl : sp.length = rows.length := by have := h1.1; omega
 have hil : i < rows.length := by
  by_cases q : i < rows.length
  ·exact q
  ·rw [List.getElem?_eq_none (by omega)] at hr; cases hr
 obtain ⟨hmr, hsp, hBg, csg, hgb⟩ := own_cell h1
 obtain ⟨bi, ni, ci, q1, q2, q3⟩ := h2 i r hr
 have e1 := hsp i _ q1
 rw [hcell] at e1
 injection e1 with e1
 injection e1 with ea en ec
 injection ea with ea
 injection ea with ea
 subst ea en ec
 obtain ⟨_, _, _, csb, hbb⟩ := own_cell q2
 have hne : g ≠ b := by
  intro e
  subst e
  rw [hgb] at hbb
  simp at hbb
 have hg1 : w1.heap[g]? = W.heap[g]? := hg.block g (blk_lt hgb) (by simpa using hne)
 have hg2 : g ≠ b2 := by
  intro e
  subst e
  rcases hb2 with q | q
  ·exact hne q
  ·have := blk_lt hgb; omega
 have far : ∀ k, k ≠ g → (w1.setCell ⟨g, i, none⟩ (.slice (some ⟨b2, 0, none⟩) n2 c2)).heap[k]? = w1.heap[k]? := fun k hk => Below.heap_setCell w1 ⟨g, i, none⟩ _ k hk
 have hspine : (w1.setCell ⟨g, i, none⟩ (.slice (some ⟨b2, 0, none⟩) n2 c2)).ownsRow B 103 1 (.slice (some ⟨g, 0, none⟩) m cap) rows.length (sp.set i (.slice (some ⟨b2, 0, none⟩) n2 c2)) := by
  obtain ⟨p1, p2⟩ := h1
  refine ⟨by rw [List.length_set]; exact p1, ?_⟩
  rcases p2 with ⟨q, _⟩ | ⟨g', cap', cur, hv, hb', hh, hn', hcm, hcs, ht⟩
  ·cases q
  injection hv with ha _ hc
  injection ha with ha
  injection ha with ha
  subst ha; subst hc
  refine .inr ⟨g, cap, cur.setIfInBounds i (.slice (some ⟨b2, 0, none⟩) n2 c2), by rw [hmr], hb', ?_, hn', hcm, by rw [Array.size_setIfInBounds]; exact hcs, ?_⟩
  ·exact blk_set (hg1.trans hh) i _
  ·rw [Array.toList_setIfInBounds, List.take_set, ht]
 refine ⟨_, by rw [List.length_set]; exact hspine, fun j r' hr' => ?_⟩
 by_cases hji : j = i
 ·subst hji
  rw [List.getElem?_set_self hil] at hr'
  injection hr' with hr'
  subst hr'
  refine ⟨b2, n2, c2, List.getElem?_set_self (by omega), own_move ho (fun k hk => far k (fun e => ?_)), fun j2 b' n' c' hj2 hs => ?_⟩
  ·subst e
   have : b2 = k := by simpa [Value.ownBlock] using hk
   exact hg2 this.symm
  rw [List.getElem?_set_ne (Ne.symm hj2)] at hs
  rcases hb2 with q | q
  ·rw [q]; exact q3 j2 b' n' c' hj2 hs
  have hj2l : j2 < rows.length := by
   by_cases qq : j2 < sp.length
   ·omega
   ·rw [List.getElem?_eq_none (by omega)] at hs; cases hs
  obtain ⟨b3, n3, c3, z1, z2, _⟩ := h2 j2 _ (List.getElem?_eq_getElem hj2l)
  rw [hs] at z1
  injection z1 with z1
  injection z1 with z1
  injection z1 with z1
  injection z1 with z1
  subst z1
  obtain ⟨_, _, _, cs, hc⟩ := own_cell z2
  have := blk_lt hc
  omega
 rw [List.getElem?_set_ne (Ne.symm hji)] at hr'
 obtain ⟨bj, nj, cj, z1, z2, z3⟩ := h2 j r' hr'
 have hbj : bj ≠ b := q3 j bj nj cj hji z1
 obtain ⟨_, _, _, csj, hcj⟩ := own_cell z2
 have hgj : bj ≠ g := by
  intro e
  subst e
  rw [hgb] at hcj
  simp at hcj
 refine ⟨bj, nj, cj, by rw [List.getElem?_set_ne (Ne.symm hji)]; exact z1, own_move z2 (fun k hk => ?_), fun j2 b' n' c' hj2 hs => ?_⟩
 ·have : bj = k := by simpa [Value.ownBlock] using hk
  subst this
  rw [far bj hgj, hg.block bj (blk_lt hcj) (by simpa using hbj)]
 by_cases hj2i : j2 = i
 rotate_left
 ·rw [List.getElem?_set_ne (Ne.symm hj2i)] at hs
  exact z3 j2 b' n' c' hj2 hs
 subst hj2i
 rw [List.getElem?_set_self (by omega)] at hs
 injection hs with hs
 injection hs with hs
 injection hs with hs
 injection hs with hs
 subst hs
 rcases hb2 with q | q
 ·rw [q]; exact fun e => hbj e.symm
 ·have := blk_lt hcj; omega
end
end Go.Proofs.YtgiioglmkogpkaaGreatDoor.F

/- Texts behind the law FnGjValuesText: part 4. -/
import Derived.Test.YtgiioglmkogpkaaGreatDoorZb
import Derived.Test.YtgiioglmkogpkaaGreatDoorZc
import Derived.Test.YtgiioglmkogpkaaGreatDoorZa
set_option linter.unusedVariables false
set_option linter.unusedSimpArgs false
namespace Go.Proofs.YtgiioglmkogpkaaGreatDoor.V
open Go.RowKit Go.Proofs.YtgiioglmkogpkaaGreatDoorW.PrintWords Go.Proofs.YtgiioglmkogpkaaGreatDoorW.PrintLast Go.Proofs.YtgiioglmkogpkaaGreatDoorW.PrintMore
open M L
def NumG (s : ByteArray) (st e : Int) : Prop := ∃ a b c, ((a = st ∧ bt s st ≠ 45) ∨ (a = st + 1 ∧ bt s st = 45)) ∧ a < b ∧ b ≤ c ∧ c ≤ e ∧ e ≤ s.size ∧ (bt s a = 48 → b = a + 1) ∧
 (∀ i, a ≤ i → i < b → dig (bt s i)) ∧ FracTo s b c ∧ ExpTo s c e
theorem num_int' (s : ByteArray) (hz : s.size ≤ 65536) (a : Int) (h0 : 0 ≤ a) (h1 : a ≤ s.size) :
  RdTo s (fun k => (spec_reader_take.f s a 48).bind fun t => (if t.1 = true then (spec_reader_number.j0 k false t.2.1 t.2.2) else ((spec_reader_digits.f k t.2.1 t.2.2).bind fun u => (spec_reader_number.j0 k (!u.1) u.2.1 u.2.2)))) a
   (fun e => ∃ b c, a < b ∧ b ≤ c ∧ c ≤ e ∧ (bt s a = 48 → b = a + 1) ∧ (∀ i, a ≤ i → i < b → dig (bt s i)) ∧ FracTo s b c ∧ ExpTo s c e) := by
 by_cases h48 : a < (s.size : Int) ∧ bt s a = 48
 ·refine RdTo.congr (f := fun k => spec_reader_number.j0 k false s (a + 1)) (fun k => ?_) ((num_j0 s hz (a + 1) false (by omega) (by omega)).mono (by omega) (fun e q0 q1 h => ?_))
  ·rw [take_yes s _ _ h0 hz h48.1 h48.2]; simp only [Option.bind_some, if_true]
  ·obtain ⟨_, c, c0, c1, hf, he⟩ := h
   refine ⟨a + 1, c, by omega, c0, c1, fun _ => rfl, fun i x y => ?_, hf, he⟩
   obtain rfl : i = a := by omega
   rw [h48.2]; exact ⟨by omega, by omega⟩
 ·obtain ⟨b, he, e0, e1, e2, e3⟩ := digits_ev s hz a h0 h1
  refine RdTo.congr (f := fun k => (spec_reader_digits.f k s a).bind fun u => (spec_reader_number.j0 k (!u.1) u.2.1 u.2.2)) (fun k => ?_) (RdTo.bind he ?_)
  ·rw [take_no s _ _ h0 h1 hz h48]; simp only [Option.bind_some, Bool.false_eq_true, if_false]
  ·refine (num_j0 s hz b (!decide (b > a)) (by omega) e1).mono (by omega) (fun e q0 q1 h => ?_)
   obtain ⟨hb, c, c0, c1, hf, he⟩ := h
   simp at hb
   exact ⟨b, c, hb, c0, c1, fun q => absurd ⟨by omega, q⟩ h48, e2, hf, he⟩
theorem numberG_ev (s : ByteArray) (hz : s.size ≤ 65536) (st : Int) (h0 : 0 ≤ st) (h1 : st ≤ s.size) : RdTo s (fun k => spec_reader_number.f k s st) st (NumG s st) := by
 by_cases h45 : st < (s.size : Int) ∧ bt s st = 45
 ·refine RdTo.congr (fun k => ?_) ((num_int' s hz (st + 1) (by omega) (by omega)).mono (by omega) (fun e q0 q1 h => ?_))
  ·simp only [spec_reader_number.f]; rw [take_yes s _ _ h0 hz h45.1 h45.2]; simp only [Option.bind_some]
  ·obtain ⟨b, c, x1, x2, x3, x4, x5, x6⟩ := h
   exact ⟨st + 1, b, c, .inr ⟨rfl, h45.2⟩, x1, x2, x3, q1, x4, x5, x6⟩
 ·refine RdTo.congr (fun k => ?_) ((num_int' s hz st h0 h1).mono (by omega) (fun e q0 q1 h => ?_))
  ·simp only [spec_reader_number.f]; rw [take_no s _ _ h0 h1 hz h45]; simp only [Option.bind_some]
  ·obtain ⟨b, c, x1, x2, x3, x4, x5, x6⟩ := h
   exact ⟨st, b, c, .inl ⟨rfl, fun q => h45 ⟨by omega, q⟩⟩, x1, x2, x3, q1, x4, x5, x6⟩
def Bl (s : ByteArray) (a b : Int) : Prop := a ≤ b ∧ ∀ i, a ≤ i → i < b → isB (bt s i)
inductive It
 | val (q : S78)
 | els (p : Int) (C : List S78) (e : Int)
 | mems (p : Int) (N : List S115) (C : List S78) (e : Int)
inductive G (s : ByteArray) : It → Prop
 | num (p e : Int) : 0 ≤ p → NumG s p e → G s (.val ⟨3, p, e, [], []⟩)
 | str (p e : Int) : Str s p e → G s (.val ⟨4, p, e, [], []⟩)
 | null (p e : Int) : 0 ≤ p → Wd s p e wNull → G s (.val ⟨0, p, e, [], []⟩)
 | fals (p e : Int) : 0 ≤ p → Wd s p e wFalse → G s (.val ⟨1, p, e, [], []⟩)
 | tru (p e : Int) : 0 ≤ p → Wd s p e wTrue → G s (.val ⟨2, p, e, [], []⟩)
 | arr0 (p b : Int) : 0 ≤ p → bt s p = 91 → Bl s (p + 1) b → b < s.size → bt s b = 93 → G s (.val ⟨5, p, b + 1, [], []⟩)
 | arr (p b e : Int) (C : List S78) : 0 ≤ p → bt s p = 91 → Bl s (p + 1) b → G s (.els b C e) → G s (.val ⟨5, p, e, [], C⟩)
 | obj0 (p b : Int) : 0 ≤ p → bt s p = 123 → Bl s (p + 1) b → b < s.size → bt s b = 125 → G s (.val ⟨6, p, b + 1, [], []⟩)
 | obj (p b e : Int) (N : List S115) (C : List S78) : 0 ≤ p → bt s p = 123 → Bl s (p + 1) b → G s (.mems b N C e) → G s (.val ⟨6, p, e, N, C⟩)
 | els1 (c : S78) (b : Int) : G s (.val c) → Bl s c.f2 b → b < s.size → bt s b = 93 → G s (.els c.f1 [c] (b + 1))
 | elsn (c : S78) (b p e : Int) (C : List S78) : G s (.val c) → Bl s c.f2 b → b < s.size → bt s b = 44 → Bl s (b + 1) p → G s (.els p C e) → G s (.els c.f1 (c :: C) e)
 | mem1 (n : S115) (c : S78) (b x : Int) : Str s n.f0 n.f1 → Bl s n.f1 b → bt s b = 58 → Bl s (b + 1) c.f1 → G s (.val c) → Bl s c.f2 x → x < s.size → bt s x = 125 → G s (.mems n.f0 [n] [c] (x + 1))
 | memn (n : S115) (c : S78) (b x p e : Int) (N : List S115) (C : List S78) : Str s n.f0 n.f1 → Bl s n.f1 b → bt s b = 58 → Bl s (b + 1) c.f1 → G s (.val c) → Bl s c.f2 x → x < s.size → bt s x = 44 → Bl s (x + 1) p → G s (.mems p N C e) → G s (.mems n.f0 (n :: N) (c :: C) e)
def It.ok (s : ByteArray) : It → Prop
 | .val q => 0 ≤ q.f1 ∧ q.f1 < q.f2 ∧ q.f2 ≤ s.size ∧ (q.f3.length : Int) ≤ q.f2 ∧ (q.f4.length : Int) ≤ q.f2
 | .els p C e => 0 ≤ p ∧ p < e ∧ e ≤ s.size ∧ p + C.length ≤ e
 | .mems p N C e => 0 ≤ p ∧ p < e ∧ e ≤ s.size ∧ p + N.length ≤ e ∧ p + C.length ≤ e
theorem G.ok {s : ByteArray} {it : It} (h : G s it) : it.ok s := by
 induction h with
 | num p e h0 h =>
  obtain ⟨a, b, c, n1, n2, n3, n4, n5, _⟩ := h
  refine ⟨h0, ?_, n5, ?_, ?_⟩ <;> (try dsimp only [List.length_nil]) <;> rcases n1 with ⟨rfl, _⟩ | ⟨rfl, _⟩ <;> omega
 | str p e h =>
  obtain ⟨h0, _, j, h1, h2, h3, _⟩ := h
  refine ⟨h0, ?_, h3, ?_, ?_⟩ <;> (try dsimp only [List.length_nil]) <;> omega
 | null p e h0 h => obtain ⟨h1, h2, _⟩ := h; have : wNull.size = 4 := rfl; refine ⟨h0, ?_, h2, ?_, ?_⟩ <;> (try dsimp only [List.length_nil]) <;> omega
 | fals p e h0 h => obtain ⟨h1, h2, _⟩ := h; have : wFalse.size = 5 := rfl; refine ⟨h0, ?_, h2, ?_, ?_⟩ <;> (try dsimp only [List.length_nil]) <;> omega
 | tru p e h0 h => obtain ⟨h1, h2, _⟩ := h; have : wTrue.size = 4 := rfl; refine ⟨h0, ?_, h2, ?_, ?_⟩ <;> (try dsimp only [List.length_nil]) <;> omega
 | arr0 p b h0 h1 h2 h3 h4 => have := h2.1; refine ⟨h0, ?_, ?_, ?_, ?_⟩ <;> (try dsimp only [List.length_nil]) <;> omega
 | arr p b e C h0 h1 h2 h3 ih => have := h2.1; obtain ⟨i0, i1, i2, i3⟩ := ih; refine ⟨h0, ?_, ?_, ?_, ?_⟩ <;> (try dsimp only [List.length_nil]) <;> omega
 | obj0 p b h0 h1 h2 h3 h4 => have := h2.1; refine ⟨h0, ?_, ?_, ?_, ?_⟩ <;> (try dsimp only [List.length_nil]) <;> omega
 | obj p b e N C h0 h1 h2 h3 ih => have := h2.1; obtain ⟨i0, i1, i2, i3, i4⟩ := ih; refine ⟨h0, ?_, ?_, ?_, ?_⟩ <;> (try dsimp only) <;> omega
 | els1 c b h0 h1 h2 h3 ih => have := h1.1; obtain ⟨i0, i1, i2, i3⟩ := ih; refine ⟨i0, ?_, ?_, ?_⟩ <;> (try dsimp only [List.length_nil, List.length_cons]) <;> omega
 | elsn c b p e C h0 h1 h2 h3 h4 h5 ih ih2 => have := h1.1; have := h4.1; obtain ⟨i0, i1, i2, i3⟩ := ih; obtain ⟨j0, j1, j2, j3⟩ := ih2; refine ⟨i0, ?_, ?_, ?_⟩ <;> (try dsimp only [List.length_cons]) <;> omega
 | mem1 n c b x h0 h1 h2 h3 h4 h5 h6 h7 ih =>
  have := h1.1; have := h3.1; have := h5.1; obtain ⟨k0, _, j, k1, k2, k3, _⟩ := h0; obtain ⟨i0, i1, i2, i3⟩ := ih; refine ⟨k0, ?_, ?_, ?_, ?_⟩ <;> (try dsimp only [List.length_nil, List.length_cons]) <;> omega
 | memn n c b x p e N C h0 h1 h2 h3 h4 h5 h6 h7 h8 h9 ih ih2 =>
  have := h1.1; have := h3.1; have := h5.1; have := h8.1; obtain ⟨k0, _, j, k1, k2, k3, _⟩ := h0; obtain ⟨i0, i1, i2, i3⟩ := ih; obtain ⟨j0, j1, j2, j3, j4⟩ := ih2; refine ⟨k0, ?_, ?_, ?_, ?_⟩ <;> (try dsimp only [List.length_nil, List.length_cons]) <;> omega
def ValTo (s : ByteArray) (p : Int) : Prop := ∃ K e N C ok, Ev (fun k => spec_reader_value.f k s p) (K, p, e, N, C, ok, s, e) ∧ p ≤ e ∧ e ≤ s.size ∧ (ok = true → G s (.val ⟨K, p, e, N, C⟩))
def ElTo (s : ByteArray) (g : Nat → Option ((List S78) × Bool × ByteArray × Int)) (C : List S78) (p : Int) (P : List S78 → Int → Prop) : Prop := ∃ D ok e, Ev g (D, ok, s, e) ∧ p ≤ e ∧ e ≤ s.size ∧ (ok = true → ∃ C', D = C ++ C' ∧ P C' e)
theorem ElTo.mono {s : ByteArray} {g : Nat → Option ((List S78) × Bool × ByteArray × Int)} {C C' : List S78} {p p' : Int} {P P' : List S78 → Int → Prop} (h : ElTo s g C p P) (hp : p' ≤ p) (hC : ∀ D e, P D e → ∃ D', C ++ D = C' ++ D' ∧ P' D' e) : ElTo s g C' p' P' := by
 obtain ⟨D, ok, e, h1, h2, h3, h4⟩ := h
 refine ⟨D, ok, e, h1, by omega, h3, fun q => ?_⟩
 obtain ⟨E, rfl, hE⟩ := h4 q
 exact hC E e hE
theorem ElTo.step {s : ByteArray} {g f : Nat → Option ((List S78) × Bool × ByteArray × Int)} {C : List S78} {p : Int} {P : List S78 → Int → Prop} (hs : ∀ k, g (k + 1) = f k) (h : ElTo s f C p P) : ElTo s g C p P := by
 obtain ⟨D, ok, e, h1, h2⟩ := h
 exact ⟨D, ok, e, Ev.step hs h1, h2⟩
theorem ElTo.congr {s : ByteArray} {g f : Nat → Option ((List S78) × Bool × ByteArray × Int)} {C : List S78} {p : Int} {P : List S78 → Int → Prop} (hs : ∀ k, g k = f k) (h : ElTo s f C p P) : ElTo s g C p P := by
 obtain ⟨D, ok, e, h1, h2⟩ := h
 exact ⟨D, ok, e, Ev.congr hs h1, h2⟩
theorem ElTo.bind {α : Type} {s : ByteArray} {g : Nat → Option α} {f : Nat → α → Option ((List S78) × Bool × ByteArray × Int)} {a : α} {C : List S78} {p : Int} {P : List S78 → Int → Prop} (hg : Ev g a) (h : ElTo s (fun k => f k a) C p P) : ElTo s (fun k => (g k).bind (f k)) C p P := by
 obtain ⟨D, ok, e, h1, h2⟩ := h
 exact ⟨D, ok, e, Ev.bind hg h1, h2⟩
theorem ElTo.no {s : ByteArray} {g : Nat → Option ((List S78) × Bool × ByteArray × Int)} {p e : Int} {C D : List S78} {P : List S78 → Int → Prop} (hs : Ev g (D, false, s, e)) (h0 : p ≤ e) (h1 : e ≤ s.size) : ElTo s g C p P := ⟨D, false, e, hs, h0, h1, fun q => by cases q⟩
theorem el_l0 (s : ByteArray) (hz : s.size ≤ 65536) (p0 : Int) (IH : ∀ p, p0 < p → p ≤ s.size → ValTo s p) (h00 : 0 ≤ p0) : ∀ (n : Nat) (C : List S78) (p : Int), p0 < p → p ≤ s.size → (s.size : Int) - p < n → (C.length : Int) ≤ p →
  ElTo s (fun k => spec_reader_elements.l0 k C s p) C p (fun D e => G s (.els p D e)) := by
 intro n
 induction n with
 | zero => intro C p h0 h1 h2 hC; omega
 | succ n ih =>
  intro C p h0 h1 h2 hC
  obtain ⟨K, e, N, D, ok, hv, e0, e1, hok⟩ := IH p h0 h1
  refine ElTo.step (f := fun k => (spec_reader_value.f k s p).bind fun t => (if t.2.2.2.2.2.1 = true then (if C.length < 1954687338268 then ((some (C ++ [(⟨t.1, t.2.1, t.2.2.1, t.2.2.2.1, t.2.2.2.2.1⟩ : S78)] : List (S78))).bind fun y => ((spec_reader_blanks.f k t.2.2.2.2.2.2.1 t.2.2.2.2.2.2.2).bind fun b => ((spec_reader_take.f b.1 b.2 93).bind fun u => (if u.1 = true then (some (y, true, u.2.1, u.2.2)) else ((spec_reader_take.f u.2.1 u.2.2 44).bind fun v => (if v.1 = true then ((spec_reader_blanks.f k v.2.1 v.2.2).bind fun z => (spec_reader_elements.l0 k y z.1 z.2)) else (some (([] : List (S78)), false, v.2.1, v.2.2)))))))) else (none)) else (some (([] : List (S78)), false, t.2.2.2.2.2.2.1, t.2.2.2.2.2.2.2)))) (fun k => ?_) (ElTo.bind hv ?_)
  ·simp only [spec_reader_elements.l0]
  cases ok with
  | false => exact ElTo.congr (f := fun _ => some ([], false, s, e)) (fun k => by simp) (ElTo.no (Ev.now _) e0 e1)
  | true =>
   have g := hok rfl
   obtain ⟨b, hb, b0, b1, b2, b3⟩ := blanksf_ev s hz e (by omega) e1
   obtain ⟨_, g0, _⟩ := g.ok
   dsimp only at g0
   refine ElTo.congr (f := fun k => (spec_reader_blanks.f k s e).bind fun b => ((spec_reader_take.f b.1 b.2 93).bind fun u => (if u.1 = true then (some (C ++ [⟨K, p, e, N, D⟩], true, u.2.1, u.2.2)) else ((spec_reader_take.f u.2.1 u.2.2 44).bind fun v => (if v.1 = true then ((spec_reader_blanks.f k v.2.1 v.2.2).bind fun z => (spec_reader_elements.l0 k (C ++ [⟨K, p, e, N, D⟩]) z.1 z.2)) else (some (([] : List (S78)), false, v.2.1, v.2.2))))))) (fun k => ?_) (ElTo.bind hb ?_)
   ·simp only [if_true]; rw [if_pos (by omega)]; simp only [Option.bind_some]
   ·by_cases c93 : b < (s.size : Int) ∧ bt s b = 93
    ·refine ElTo.congr (f := fun k => some (C ++ [⟨K, p, e, N, D⟩], true, s, b + 1)) (fun k => ?_) ⟨_, true, b + 1, Ev.now _, by omega, by omega, fun _ => ⟨_, rfl, .els1 ⟨K, p, e, N, D⟩ b g ⟨b0, b2⟩ c93.1 c93.2⟩⟩
     rw [take_yes s b 93 (by omega) hz c93.1 c93.2]; simp only [Option.bind_some, if_true]
    ·by_cases c44 : b < (s.size : Int) ∧ bt s b = 44
     ·obtain ⟨z, hzz, z0, z1, z2, z3⟩ := blanksf_ev s hz (b + 1) (by omega) (by omega)
      refine ElTo.congr (f := fun k => (spec_reader_blanks.f k s (b + 1)).bind fun z => (spec_reader_elements.l0 k (C ++ [⟨K, p, e, N, D⟩]) z.1 z.2)) (fun k => ?_) (ElTo.bind hzz ((ih _ z (by omega) z1 (by omega) (by simp; omega)).mono (by omega) (fun D' e' hD => ⟨⟨K, p, e, N, D⟩ :: D', by simp, .elsn ⟨K, p, e, N, D⟩ b z e' D' g ⟨b0, b2⟩ c44.1 c44.2 ⟨z0, z2⟩ hD⟩)))
      rw [take_no s b 93 (by omega) b1 hz c93]; simp only [Option.bind_some, Bool.false_eq_true, if_false]; rw [take_yes s b 44 (by omega) hz c44.1 c44.2]; simp only [Option.bind_some, if_true]
     ·refine ElTo.congr (f := fun k => some ([], false, s, b)) (fun k => ?_) (ElTo.no (Ev.now _) (by omega) b1)
      rw [take_no s b 93 (by omega) b1 hz c93]; simp only [Option.bind_some, Bool.false_eq_true, if_false]; rw [take_no s b 44 (by omega) b1 hz c44]; simp only [Option.bind_some, Bool.false_eq_true, if_false]
theorem el_f (s : ByteArray) (hz : s.size ≤ 65536) (p : Int) (h0 : 0 ≤ p) (h1 : p < s.size) (h91 : bt s p = 91) (IH : ∀ q, p < q → q ≤ s.size → ValTo s q) : ElTo s (fun k => spec_reader_elements.f k s p) [] p (fun C e => G s (.val ⟨5, p, e, [], C⟩)) := by
 obtain ⟨b, hb, b0, b1, b2, b3⟩ := blanksf_ev s hz (p + 1) (by omega) (by omega)
 refine ElTo.step (f := fun k => (spec_reader_blanks.f k s (p + 1)).bind fun b => ((spec_reader_take.f b.1 b.2 93).bind fun t => (if t.1 = true then (some (([] : List (S78)), true, t.2.1, t.2.2)) else (spec_reader_elements.l0 k ([] : List (S78)) t.2.1 t.2.2)))) (fun k => ?_) (ElTo.bind hb ?_)
 ·simp only [spec_reader_elements.f]; rw [w64 (by omega) (by omega)]
 ·by_cases c93 : b < (s.size : Int) ∧ bt s b = 93
  ·refine ElTo.congr (f := fun k => some ([], true, s, b + 1)) (fun k => ?_) ⟨_, true, b + 1, Ev.now _, by omega, by omega, fun _ => ⟨[], rfl, .arr0 p b h0 h91 ⟨b0, b2⟩ c93.1 c93.2⟩⟩
   rw [take_yes s b 93 (by omega) hz c93.1 c93.2]; simp only [Option.bind_some, if_true]
  ·refine ElTo.congr (f := fun k => spec_reader_elements.l0 k ([] : List (S78)) s b) (fun k => ?_) ((el_l0 s hz p IH h0 ((s.size : Int) - b + 1).toNat [] b (by omega) b1 (by omega) (by simp; omega)).mono (by omega) (fun D e hD => ⟨D, rfl, .arr p b e D h0 h91 ⟨b0, b2⟩ hD⟩))
   rw [take_no s b 93 (by omega) b1 hz c93]; simp only [Option.bind_some, Bool.false_eq_true, if_false]
def MeTo (s : ByteArray) (g : Nat → Option ((List S115) × (List S78) × Bool × ByteArray × Int)) (N : List S115) (C : List S78) (p : Int) (P : List S115 → List S78 → Int → Prop) : Prop := ∃ M D ok e, Ev g (M, D, ok, s, e) ∧ p ≤ e ∧ e ≤ s.size ∧ (ok = true → ∃ N' C', M = N ++ N' ∧ D = C ++ C' ∧ P N' C' e)
theorem MeTo.mono {s : ByteArray} {g : Nat → Option ((List S115) × (List S78) × Bool × ByteArray × Int)} {N N' : List S115} {C C' : List S78} {p p' : Int} {P P' : List S115 → List S78 → Int → Prop} (h : MeTo s g N C p P) (hp : p' ≤ p) (hC : ∀ M D e, P M D e → ∃ M' D', N ++ M = N' ++ M' ∧ C ++ D = C' ++ D' ∧ P' M' D' e) : MeTo s g N' C' p' P' := by
 obtain ⟨M, D, ok, e, h1, h2, h3, h4⟩ := h
 refine ⟨M, D, ok, e, h1, by omega, h3, fun q => ?_⟩
 obtain ⟨E, F, rfl, rfl, hE⟩ := h4 q
 exact hC E F e hE
theorem MeTo.step {s : ByteArray} {g f : Nat → Option ((List S115) × (List S78) × Bool × ByteArray × Int)} {N : List S115} {C : List S78} {p : Int} {P : List S115 → List S78 → Int → Prop} (hs : ∀ k, g (k + 1) = f k) (h : MeTo s f N C p P) : MeTo s g N C p P := by
 obtain ⟨M, D, ok, e, h1, h2⟩ := h
 exact ⟨M, D, ok, e, Ev.step hs h1, h2⟩
theorem MeTo.congr {s : ByteArray} {g f : Nat → Option ((List S115) × (List S78) × Bool × ByteArray × Int)} {N : List S115} {C : List S78} {p : Int} {P : List S115 → List S78 → Int → Prop} (hs : ∀ k, g k = f k) (h : MeTo s f N C p P) : MeTo s g N C p P := by
 obtain ⟨M, D, ok, e, h1, h2⟩ := h
 exact ⟨M, D, ok, e, Ev.congr hs h1, h2⟩
theorem MeTo.bind {α : Type} {s : ByteArray} {g : Nat → Option α} {f : Nat → α → Option ((List S115) × (List S78) × Bool × ByteArray × Int)} {a : α} {N : List S115} {C : List S78} {p : Int} {P : List S115 → List S78 → Int → Prop} (hg : Ev g a) (h : MeTo s (fun k => f k a) N C p P) : MeTo s (fun k => (g k).bind (f k)) N C p P := by
 obtain ⟨M, D, ok, e, h1, h2⟩ := h
 exact ⟨M, D, ok, e, Ev.bind hg h1, h2⟩
theorem MeTo.no {s : ByteArray} {g : Nat → Option ((List S115) × (List S78) × Bool × ByteArray × Int)} {p e : Int} {N M : List S115} {C D : List S78} {P : List S115 → List S78 → Int → Prop} (hs : Ev g (M, D, false, s, e)) (h0 : p ≤ e) (h1 : e ≤ s.size) : MeTo s g N C p P := ⟨M, D, false, e, hs, h0, h1, fun q => by cases q⟩
theorem me_l0 (s : ByteArray) (hz : s.size ≤ 65536) (p0 : Int) (IH : ∀ p, p0 < p → p ≤ s.size → ValTo s p) (h00 : 0 ≤ p0) : ∀ (n : Nat) (N : List S115) (C : List S78) (p : Int), p0 < p → p ≤ s.size → (s.size : Int) - p < n → (N.length : Int) ≤ p → (C.length : Int) ≤ p →
  MeTo s (fun k => spec_reader_members.l0 k N C s p) N C p (fun M D e => G s (.mems p M D e)) := by
 intro n
 induction n with
 | zero => intro N C p h0 h1 h2 hN hC; omega
 | succ n ih =>
  intro N C p h0 h1 h2 hN hC
  by_cases h34 : p < (s.size : Int) ∧ bt s p = 34
  ·obtain ⟨ok, q, hq, q0, q1, hS⟩ := quoted_ev s hz p (by omega) h34.1 h34.2
   refine MeTo.step (f := fun k => (spec_reader_quoted.f k s p).bind fun t => (spec_reader_members.j1 k N C p (!t.1) t.2.1 t.2.2)) (fun k => ?_) (MeTo.bind hq ?_)
   ·simp only [spec_reader_members.l0]; rw [here_f s p (by omega)]; simp only [Option.bind_some]; rw [if_pos (by rw [hr, if_pos h34.1]; exact h34.2)]
   cases ok with
   | false => exact MeTo.step (f := fun _ => some ([], [], false, s, q)) (fun k => by simp only [spec_reader_members.j1]; rw [if_pos (by rfl)]) (MeTo.no (Ev.now _) (by omega) q1)
   | true =>
    have hStr := hS rfl
    obtain ⟨b, hb, b0, b1, b2, b3⟩ := blanksf_ev s hz q (by omega) q1
    refine MeTo.step (f := fun k => (spec_reader_blanks.f k s q).bind fun b => ((spec_reader_take.f b.1 b.2 58).bind fun t => (if t.1 = true then ((spec_reader_blanks.f k t.2.1 t.2.2).bind fun y => ((spec_reader_value.f k y.1 y.2).bind fun v => (if v.2.2.2.2.2.1 = true then (if C.length < 1954687338268 then ((some (C ++ [(⟨v.1, v.2.1, v.2.2.1, v.2.2.2.1, v.2.2.2.2.1⟩ : S78)] : List (S78))).bind fun y186 => ((spec_reader_blanks.f k v.2.2.2.2.2.2.1 v.2.2.2.2.2.2.2).bind fun bt189 => ((spec_reader_take.f bt189.1 bt189.2 125).bind fun bt191 => (if bt191.1 = true then (some (N ++ [⟨p, q⟩], y186, true, bt191.2.1, bt191.2.2)) else ((spec_reader_take.f bt191.2.1 bt191.2.2 44).bind fun bt194 => (if bt194.1 = true then ((spec_reader_blanks.f k bt194.2.1 bt194.2.2).bind fun bt197 => (spec_reader_members.l0 k (N ++ [⟨p, q⟩]) y186 bt197.1 bt197.2)) else (some (([] : List (S115)), ([] : List (S78)), false, bt194.2.1, bt194.2.2)))))))) else (none)) else (some (([] : List (S115)), ([] : List (S78)), false, v.2.2.2.2.2.2.1, v.2.2.2.2.2.2.2))))) else (some (([] : List (S115)), ([] : List (S78)), false, t.2.1, t.2.2))))) (fun k => ?_) (MeTo.bind hb ?_)
    ·simp only [spec_reader_members.j1, Bool.not_true, Bool.false_eq_true, if_false]; rw [if_pos (by omega)]; simp only [Option.bind_some]
    by_cases c58 : b < (s.size : Int) ∧ bt s b = 58
    ·obtain ⟨y, hy, y0, y1, y2, y3⟩ := blanksf_ev s hz (b + 1) (by omega) (by omega)
     obtain ⟨K, e, N', D, ok, hv, e0, e1, hok⟩ := IH y (by omega) y1
     refine MeTo.congr (f := fun k => (spec_reader_blanks.f k s (b + 1)).bind fun y => ((spec_reader_value.f k y.1 y.2).bind fun v => (if v.2.2.2.2.2.1 = true then (if C.length < 1954687338268 then ((some (C ++ [(⟨v.1, v.2.1, v.2.2.1, v.2.2.2.1, v.2.2.2.2.1⟩ : S78)] : List (S78))).bind fun y186 => ((spec_reader_blanks.f k v.2.2.2.2.2.2.1 v.2.2.2.2.2.2.2).bind fun bt189 => ((spec_reader_take.f bt189.1 bt189.2 125).bind fun bt191 => (if bt191.1 = true then (some (N ++ [⟨p, q⟩], y186, true, bt191.2.1, bt191.2.2)) else ((spec_reader_take.f bt191.2.1 bt191.2.2 44).bind fun bt194 => (if bt194.1 = true then ((spec_reader_blanks.f k bt194.2.1 bt194.2.2).bind fun bt197 => (spec_reader_members.l0 k (N ++ [⟨p, q⟩]) y186 bt197.1 bt197.2)) else (some (([] : List (S115)), ([] : List (S78)), false, bt194.2.1, bt194.2.2)))))))) else (none)) else (some (([] : List (S115)), ([] : List (S78)), false, v.2.2.2.2.2.2.1, v.2.2.2.2.2.2.2))))) (fun k => ?_) (MeTo.bind hy (MeTo.bind hv ?_))
     ·rw [take_yes s b 58 (by omega) hz c58.1 c58.2]; simp only [Option.bind_some, if_true]
     cases ok with
     | false => exact MeTo.congr (f := fun _ => some ([], [], false, s, e)) (fun k => by simp) (MeTo.no (Ev.now _) (by omega) e1)
     | true =>
      have g := hok rfl
      obtain ⟨_, g0, _⟩ := g.ok
      dsimp only at g0
      obtain ⟨x, hx, x0, x1, x2, x3⟩ := blanksf_ev s hz e (by omega) e1
      refine MeTo.congr (f := fun k => (spec_reader_blanks.f k s e).bind fun bt189 => ((spec_reader_take.f bt189.1 bt189.2 125).bind fun bt191 => (if bt191.1 = true then (some (N ++ [⟨p, q⟩], C ++ [⟨K, y, e, N', D⟩], true, bt191.2.1, bt191.2.2)) else ((spec_reader_take.f bt191.2.1 bt191.2.2 44).bind fun bt194 => (if bt194.1 = true then ((spec_reader_blanks.f k bt194.2.1 bt194.2.2).bind fun bt197 => (spec_reader_members.l0 k (N ++ [⟨p, q⟩]) (C ++ [⟨K, y, e, N', D⟩]) bt197.1 bt197.2)) else (some (([] : List (S115)), ([] : List (S78)), false, bt194.2.1, bt194.2.2))))))) (fun k => ?_) (MeTo.bind hx ?_)
      ·simp only [if_true]; rw [if_pos (by omega)]; simp only [Option.bind_some]
      by_cases c125 : x < (s.size : Int) ∧ bt s x = 125
      ·refine MeTo.congr (f := fun k => some (N ++ [⟨p, q⟩], C ++ [⟨K, y, e, N', D⟩], true, s, x + 1)) (fun k => ?_) ⟨_, _, true, x + 1, Ev.now _, by omega, by omega, fun _ => ⟨_, _, rfl, rfl, .mem1 ⟨p, q⟩ ⟨K, y, e, N', D⟩ b x hStr ⟨b0, b2⟩ c58.2 ⟨y0, y2⟩ g ⟨x0, x2⟩ c125.1 c125.2⟩⟩
       rw [take_yes s x 125 (by omega) hz c125.1 c125.2]; simp only [Option.bind_some, if_true]
      ·by_cases c44 : x < (s.size : Int) ∧ bt s x = 44
       ·obtain ⟨z, hzz, z0, z1, z2, z3⟩ := blanksf_ev s hz (x + 1) (by omega) (by omega)
        refine MeTo.congr (f := fun k => (spec_reader_blanks.f k s (x + 1)).bind fun z => (spec_reader_members.l0 k (N ++ [⟨p, q⟩]) (C ++ [⟨K, y, e, N', D⟩]) z.1 z.2)) (fun k => ?_) (MeTo.bind hzz ((ih _ _ z (by omega) z1 (by omega) (by simp; omega) (by simp; omega)).mono (by omega) (fun M' D' e' hD => ⟨⟨p, q⟩ :: M', ⟨K, y, e, N', D⟩ :: D', by simp, by simp, .memn ⟨p, q⟩ ⟨K, y, e, N', D⟩ b x z e' M' D' hStr ⟨b0, b2⟩ c58.2 ⟨y0, y2⟩ g ⟨x0, x2⟩ c44.1 c44.2 ⟨z0, z2⟩ hD⟩)))
        rw [take_no s x 125 (by omega) x1 hz c125]; simp only [Option.bind_some, Bool.false_eq_true, if_false]; rw [take_yes s x 44 (by omega) hz c44.1 c44.2]; simp only [Option.bind_some, if_true]
       ·refine MeTo.congr (f := fun k => some ([], [], false, s, x)) (fun k => ?_) (MeTo.no (Ev.now _) (by omega) x1)
        rw [take_no s x 125 (by omega) x1 hz c125]; simp only [Option.bind_some, Bool.false_eq_true, if_false]; rw [take_no s x 44 (by omega) x1 hz c44]; simp only [Option.bind_some, Bool.false_eq_true, if_false]
    ·refine MeTo.congr (f := fun k => some ([], [], false, s, b)) (fun k => ?_) (MeTo.no (Ev.now _) (by omega) b1)
     rw [take_no s b 58 (by omega) b1 hz c58]; simp only [Option.bind_some, Bool.false_eq_true, if_false]
  ·refine MeTo.step (f := fun k => spec_reader_members.j1 k N C p true s p) (fun k => ?_) (MeTo.step (f := fun _ => some ([], [], false, s, p)) (fun k => by simp only [spec_reader_members.j1, if_true]) (MeTo.no (Ev.now _) (by omega) h1))
   simp only [spec_reader_members.l0]; rw [here_f s p (by omega)]; simp only [Option.bind_some]; rw [if_neg]
   rw [hr]
   by_cases q : p < (s.size : Int)
   ·rw [if_pos q]; exact fun r => h34 ⟨q, r⟩
   ·rw [if_neg q]; omega
theorem me_f (s : ByteArray) (hz : s.size ≤ 65536) (p : Int) (h0 : 0 ≤ p) (h1 : p < s.size) (h123 : bt s p = 123) (IH : ∀ q, p < q → q ≤ s.size → ValTo s q) : MeTo s (fun k => spec_reader_members.f k s p) [] [] p (fun N C e => G s (.val ⟨6, p, e, N, C⟩)) := by
 obtain ⟨b, hb, b0, b1, b2, b3⟩ := blanksf_ev s hz (p + 1) (by omega) (by omega)
 refine MeTo.step (f := fun k => (spec_reader_blanks.f k s (p + 1)).bind fun b => ((spec_reader_take.f b.1 b.2 125).bind fun t => (if t.1 = true then (some (([] : List (S115)), ([] : List (S78)), true, t.2.1, t.2.2)) else (spec_reader_members.l0 k ([] : List (S115)) ([] : List (S78)) t.2.1 t.2.2)))) (fun k => ?_) (MeTo.bind hb ?_)
 ·simp only [spec_reader_members.f]; rw [w64 (by omega) (by omega)]
 ·by_cases c93 : b < (s.size : Int) ∧ bt s b = 125
  ·refine MeTo.congr (f := fun k => some ([], [], true, s, b + 1)) (fun k => ?_) ⟨_, _, true, b + 1, Ev.now _, by omega, by omega, fun _ => ⟨[], [], rfl, rfl, .obj0 p b h0 h123 ⟨b0, b2⟩ c93.1 c93.2⟩⟩
   rw [take_yes s b 125 (by omega) hz c93.1 c93.2]; simp only [Option.bind_some, if_true]
  ·refine MeTo.congr (f := fun k => spec_reader_members.l0 k [] [] s b) (fun k => ?_) ((me_l0 s hz p IH h0 ((s.size : Int) - b + 1).toNat [] [] b (by omega) b1 (by omega) (by simp; omega) (by simp; omega)).mono (by omega) (fun M D e hD => ⟨M, D, rfl, rfl, .obj p b e M D h0 h123 ⟨b0, b2⟩ hD⟩))
   rw [take_no s b 125 (by omega) b1 hz c93]; simp only [Option.bind_some, Bool.false_eq_true, if_false]
theorem val_j0 (s : ByteArray) (hz : s.size ≤ 65536) (p : Int) (h0 : 0 ≤ p) (h1 : p ≤ s.size) (x : Bool) : ∃ K e N C ok, Ev (fun k => spec_reader_value.j0 k true x s p 0 p 0) (K, p, e, N, C, ok, s, e) ∧ p ≤ e ∧ e ≤ s.size ∧ (ok = true → G s (.val ⟨K, p, e, N, C⟩)) := by
 cases x with
 | true =>
  obtain ⟨ok, e, he, e0, e1, hG⟩ := numberG_ev s hz p h0 h1
  refine ⟨3, e, [], [], ok, Ev.step (f := fun k => (spec_reader_number.f k s p).bind fun t => some (3, p, t.2.2, [], [], t.1, t.2.1, t.2.2)) (fun k => by simp only [spec_reader_value.j0, if_true]) (Ev.bind he (Ev.now _)), e0, e1, fun hk => ?_⟩
  exact .num p e h0 (hG hk)
 | false =>
  rcases word_ev s hz p wNull h0 h1 (by decide) with ⟨hw, hW⟩ | hw
  ·refine ⟨0, _, [], [], true, Ev.step (f := fun k => some (0, p, p + wNull.size, [], [], true, s, p + wNull.size)) (fun k => ?_) (Ev.now _), by omega, hW.2.1, fun _ => .null p _ h0 hW⟩
   simp only [spec_reader_value.j0, Bool.false_eq_true, if_false]
   rw [show (⟨#[110, 117, 108, 108]⟩ : ByteArray) = wNull from rfl, hw]; simp only [Option.bind_some, if_true]
  ·rcases word_ev s hz p wFalse h0 h1 (by decide) with ⟨hw2, hW⟩ | hw2
   ·refine ⟨1, _, [], [], true, Ev.step (f := fun k => some (1, p, p + wFalse.size, [], [], true, s, p + wFalse.size)) (fun k => ?_) (Ev.now _), by omega, hW.2.1, fun _ => .fals p _ h0 hW⟩
    simp only [spec_reader_value.j0, Bool.false_eq_true, if_false]
    rw [show (⟨#[110, 117, 108, 108]⟩ : ByteArray) = wNull from rfl, hw]; simp only [Option.bind_some, Bool.false_eq_true, if_false]
    rw [show (⟨#[102, 97, 108, 115, 101]⟩ : ByteArray) = wFalse from rfl, hw2]; simp only [Option.bind_some, if_true]
   ·rcases word_ev s hz p wTrue h0 h1 (by decide) with ⟨hw3, hW⟩ | hw3
    ·refine ⟨2, _, [], [], true, Ev.step (f := fun k => some (2, p, p + wTrue.size, [], [], true, s, p + wTrue.size)) (fun k => ?_) (Ev.now _), by omega, hW.2.1, fun _ => .tru p _ h0 hW⟩
     simp only [spec_reader_value.j0, Bool.false_eq_true, if_false]
     rw [show (⟨#[110, 117, 108, 108]⟩ : ByteArray) = wNull from rfl, hw]; simp only [Option.bind_some, Bool.false_eq_true, if_false]
     rw [show (⟨#[102, 97, 108, 115, 101]⟩ : ByteArray) = wFalse from rfl, hw2]; simp only [Option.bind_some, Bool.false_eq_true, if_false]
     rw [show (⟨#[116, 114, 117, 101]⟩ : ByteArray) = wTrue from rfl, hw3]; simp only [Option.bind_some, if_true]
    ·refine ⟨0, p, [], [], false, Ev.step (f := fun k => some (0, p, p, [], [], false, s, p)) (fun k => ?_) (Ev.now _), by omega, h1, fun h => by cases h⟩
     simp only [spec_reader_value.j0, Bool.false_eq_true, if_false]
     rw [show (⟨#[110, 117, 108, 108]⟩ : ByteArray) = wNull from rfl, hw]; simp only [Option.bind_some, Bool.false_eq_true, if_false]
     rw [show (⟨#[102, 97, 108, 115, 101]⟩ : ByteArray) = wFalse from rfl, hw2]; simp only [Option.bind_some, Bool.false_eq_true, if_false]
     rw [show (⟨#[116, 114, 117, 101]⟩ : ByteArray) = wTrue from rfl, hw3]; simp only [Option.bind_some, Bool.false_eq_true, if_false]
theorem value_ev (s : ByteArray) (hz : s.size ≤ 65536) : ∀ (n : Nat) (p : Int), 0 ≤ p → p ≤ s.size → (s.size : Int) - p < n → ValTo s p := by
 intro n
 induction n with
 | zero => intro p h0 h1 h2; omega
 | succ n ih =>
  intro p h0 h1 h2
  have IH : ∀ q, p < q → q ≤ s.size → ValTo s q := fun q a b => ih q (by omega) b (by omega)
  have hh : ∀ c, c ≠ 0 → (hr s p = c ↔ p < (s.size : Int) ∧ bt s p = c) := by
   intro c hc
   unfold hr
   by_cases q : p < (s.size : Int)
   ·rw [if_pos q]; exact ⟨fun r => ⟨q, r⟩, fun r => r.2⟩
   ·rw [if_neg q]; exact ⟨fun r => absurd r.symm hc, fun r => absurd r.1 q⟩
  by_cases c1 : hr s p = 123
  ·obtain ⟨q0, q1⟩ := (hh 123 (by omega)).mp c1
   obtain ⟨N, C, ok, e, he, e0, e1, hG⟩ := me_f s hz p h0 q0 q1 IH
   refine ⟨6, e, N, C, ok, Ev.step (f := fun k => (spec_reader_members.f k s p).bind fun t => some (6, p, t.2.2.2.2, t.1, t.2.1, t.2.2.1, t.2.2.2.1, t.2.2.2.2)) (fun k => ?_) (Ev.bind he (Ev.now _)), e0, e1, fun hk => ?_⟩
   ·simp only [spec_reader_value.f]; rw [here_f s p h0]; simp only [Option.bind_some]; rw [if_pos c1]
   ·obtain ⟨N', C', rfl, rfl, g⟩ := hG hk
    exact g
  by_cases c2 : hr s p = 91
  ·obtain ⟨q0, q1⟩ := (hh 91 (by omega)).mp c2
   obtain ⟨C, ok, e, he, e0, e1, hG⟩ := el_f s hz p h0 q0 q1 IH
   refine ⟨5, e, [], C, ok, Ev.step (f := fun k => (spec_reader_elements.f k s p).bind fun t => some (5, p, t.2.2.2, [], t.1, t.2.1, t.2.2.1, t.2.2.2)) (fun k => ?_) (Ev.bind he (Ev.now _)), e0, e1, fun hk => ?_⟩
   ·simp only [spec_reader_value.f]; rw [here_f s p h0]; simp only [Option.bind_some]; rw [if_neg c1, if_pos c2]
   ·obtain ⟨C', rfl, g⟩ := hG hk
    exact g
  by_cases c3 : hr s p = 34
  ·obtain ⟨q0, q1⟩ := (hh 34 (by omega)).mp c3
   obtain ⟨ok, e, he, e0, e1, hG⟩ := quoted_ev s hz p h0 q0 q1
   refine ⟨4, e, [], [], ok, Ev.step (f := fun k => (spec_reader_quoted.f k s p).bind fun t => some (4, p, t.2.2, [], [], t.1, t.2.1, t.2.2)) (fun k => ?_) (Ev.bind he (Ev.now _)), by omega, e1, fun hk => ?_⟩
   ·simp only [spec_reader_value.f]; rw [here_f s p h0]; simp only [Option.bind_some]; rw [if_neg c1, if_neg c2, if_pos c3]
   ·exact .str p e (hG hk)
  have key : ∃ x, ∀ k, spec_reader_value.f (k + 1) s p = spec_reader_value.j0 k true x s p 0 p 0 := by
   by_cases c4 : hr s p = 45
   ·exact ⟨true, fun k => by simp only [spec_reader_value.f]; rw [here_f s p h0]; simp only [Option.bind_some]; rw [if_neg c1, if_neg c2, if_neg c3, if_pos c4]⟩
   ·by_cases c5 : 48 ≤ hr s p
    ·exact ⟨decide (hr s p ≤ 57), fun k => by simp only [spec_reader_value.f]; rw [here_f s p h0]; simp only [Option.bind_some]; rw [if_neg c1, if_neg c2, if_neg c3, if_neg c4, if_pos c5]⟩
    ·exact ⟨false, fun k => by simp only [spec_reader_value.f]; rw [here_f s p h0]; simp only [Option.bind_some]; rw [if_neg c1, if_neg c2, if_neg c3, if_neg c4, if_neg c5]⟩
  obtain ⟨x, hx⟩ := key
  obtain ⟨K, e, N, C, ok, he, r⟩ := val_j0 s hz p h0 h1 x
  exact ⟨K, e, N, C, ok, Ev.step hx he, r⟩
end Go.Proofs.YtgiioglmkogpkaaGreatDoor.V
namespace Go.Proofs.YtgiioglmkogpkaaGreatDoor.V
open Go.RowKit Go.Proofs.YtgiioglmkogpkaaGreatDoorW.PrintWords Go.Proofs.YtgiioglmkogpkaaGreatDoorW.PrintLast Go.Proofs.YtgiioglmkogpkaaGreatDoorW.PrintMore
open M L
def Tm (s : ByteArray) (e : Int) : Prop := e < s.size → ¬ dig (bt s e) ∧ bt s e ≠ 46 ∧ bt s e ≠ 101 ∧ bt s e ≠ 69
theorem digits_yes (s : ByteArray) (hz : s.size ≤ 65536) (p e : Int) (h0 : 0 ≤ p) (h1 : p ≤ e) (h2 : e ≤ s.size) (hd : ∀ i, p ≤ i → i < e → dig (bt s i)) (hn : e < s.size → ¬ dig (bt s e)) : Ev (fun k => spec_reader_digits.f k s p) (decide (e > p), s, e) := by
 obtain ⟨e', he, a, b, c, d⟩ := digits_ev s hz p h0 (by omega)
 have : e' = e := by
  by_cases x : e' < e
  ·exact absurd (hd e' a x) (d (by omega))
  ·by_cases y : e < e'
   ·exact absurd (c e h1 y) (hn (by omega))
   ·omega
 subst this; exact he
theorem digits_yes' (s : ByteArray) (hz : s.size ≤ 65536) (p e : Int) (h0 : 0 ≤ p) (h1 : p < e) (h2 : e ≤ s.size) (hd : ∀ i, p ≤ i → i < e → dig (bt s i)) (hn : e < s.size → ¬ dig (bt s e)) : Ev (fun k => spec_reader_digits.f k s p) (true, s, e) := by
 have := digits_yes s hz p e h0 (by omega) h2 hd hn
 rwa [decide_eq_true (show e > p by omega)] at this
theorem j2t_yes (s : ByteArray) (hz : s.size ≤ 65536) (c d e : Int) (h0 : 0 ≤ c) (hd : d = c + 1 ∨ (d = c + 2 ∧ (bt s (c + 1) = 43 ∨ bt s (c + 1) = 45))) (hde : d < e) (h2 : e ≤ s.size) (hg : ∀ i, d ≤ i → i < e → dig (bt s i)) (ht : Tm s e) : Ev (fun k => spec_reader_number.j2 k true s (c + 1)) (true, s, e) := by
 have hD := digits_yes' s hz d e (by omega) hde h2 hg (fun q => (ht q).1)
 have h1 : c + 1 < s.size := by omega
 have hdd : bt s (c + 1) = 43 ∨ bt s (c + 1) = 45 → d = c + 1 + 1 := by
  intro q
  rcases hd with rfl | ⟨rfl, _⟩
  ·have := hg (c + 1) (by omega) hde
   unfold dig at this
   omega
  ·omega
 by_cases h43 : bt s (c + 1) = 43
 ·obtain rfl := hdd (.inl h43)
  refine Ev.step (f := fun k => (spec_reader_digits.f k s (c + 1 + 1)).bind fun t => some (t.1, t.2.1, t.2.2)) (fun k => ?_) (Ev.bind hD (Ev.now _))
  simp only [spec_reader_number.j2]; rw [if_pos trivial, take_yes s _ _ (by omega) hz h1 h43]; simp only [Option.bind_some, if_true]
 ·by_cases h45 : bt s (c + 1) = 45
  ·obtain rfl := hdd (.inr h45)
   refine Ev.step (f := fun k => (spec_reader_digits.f k s (c + 1 + 1)).bind fun t => some (t.1, t.2.1, t.2.2)) (fun k => ?_) (Ev.bind hD (Ev.now _))
   simp only [spec_reader_number.j2]; rw [if_pos trivial, take_no s _ _ (by omega) (by omega) hz (fun q => h43 q.2)]; simp only [Option.bind_some, if_true, Bool.false_eq_true, if_false]; rw [take_yes s _ _ (by omega) hz h1 h45]; simp only [Option.bind_some]
  ·obtain rfl : d = c + 1 := by
    rcases hd with rfl | ⟨rfl, q⟩
    ·rfl
    ·omega
   refine Ev.step (f := fun k => (spec_reader_digits.f k s (c + 1)).bind fun t => some (t.1, t.2.1, t.2.2)) (fun k => ?_) (Ev.bind hD (Ev.now _))
   simp only [spec_reader_number.j2]; rw [if_pos trivial, take_no s _ _ (by omega) (by omega) hz (fun q => h43 q.2)]; simp only [Option.bind_some, if_true, Bool.false_eq_true, if_false]; rw [take_no s _ _ (by omega) (by omega) hz (fun q => h45 q.2)]; simp only [Option.bind_some]
theorem j1_yes (s : ByteArray) (hz : s.size ≤ 65536) (c e : Int) (h0 : 0 ≤ c) (hce : c ≤ e) (h2 : e ≤ s.size) (h : ExpTo s c e) (ht : Tm s e) : Ev (fun k => spec_reader_number.j1 k false s c) (true, s, e) := by
 by_cases hx : c = e
 ·subst hx
  have n1 : ¬ (c < (s.size : Int) ∧ bt s c = 101) := fun q => (ht q.1).2.2.1 q.2
  have n2 : ¬ (c < (s.size : Int) ∧ bt s c = 69) := fun q => (ht q.1).2.2.2 q.2
  refine Ev.step (f := fun k => spec_reader_number.j2 k false s c) (fun k => ?_) (Ev.step (f := fun _ => some (true, s, c)) (fun k => by simp only [spec_reader_number.j2]; rw [if_neg (by simp)]) (Ev.now _))
  simp only [spec_reader_number.j1]; rw [if_neg (by simp), take_no s _ _ h0 h2 hz n1]; simp only [Option.bind_some, Bool.false_eq_true, if_false]; rw [take_no s _ _ h0 h2 hz n2]; simp only [Option.bind_some]
 ·obtain ⟨hc, d, hd, hde, hg⟩ := h.resolve_left hx
  have hk := j2t_yes s hz c d e h0 hd hde h2 hg ht
  by_cases h101 : bt s c = 101
  ·refine Ev.step (f := fun k => spec_reader_number.j2 k true s (c + 1)) (fun k => ?_) hk
   simp only [spec_reader_number.j1]; rw [if_neg (by simp), take_yes s _ _ h0 hz (by omega) h101]; simp only [Option.bind_some, if_true]
  ·have h69 := hc.resolve_left h101
   refine Ev.step (f := fun k => spec_reader_number.j2 k true s (c + 1)) (fun k => ?_) hk
   simp only [spec_reader_number.j1]; rw [if_neg (by simp), take_no s _ _ h0 (by omega) hz (fun q => h101 q.2)]; simp only [Option.bind_some, Bool.false_eq_true, if_false]; rw [take_yes s _ _ h0 hz (by omega) h69]; simp only [Option.bind_some]
theorem exp_nd {s : ByteArray} {c e : Int} (h : ExpTo s c e) (ht : Tm s e) : c < s.size → ¬ dig (bt s c) ∧ bt s c ≠ 46 := by
 intro hc
 by_cases hx : c = e
 ·subst hx; exact ⟨(ht hc).1, (ht hc).2.1⟩
 ·obtain ⟨h1, _⟩ := h.resolve_left hx
  unfold dig
  omega
theorem j0_yes (s : ByteArray) (hz : s.size ≤ 65536) (b c e : Int) (h0 : 0 ≤ b) (hbc : b ≤ c) (hce : c ≤ e) (h2 : e ≤ s.size) (hf : FracTo s b c) (h : ExpTo s c e) (ht : Tm s e) : Ev (fun k => spec_reader_number.j0 k false s b) (true, s, e) := by
 have hk := j1_yes s hz c e (by omega) hce h2 h ht
 by_cases hx : c = b
 ·subst hx
  have n1 : ¬ (c < (s.size : Int) ∧ bt s c = 46) := fun q => (exp_nd h ht q.1).2 q.2
  refine Ev.step (f := fun k => spec_reader_number.j1 k false s c) (fun k => ?_) hk
  simp only [spec_reader_number.j0]; rw [if_neg (by simp), take_no s _ _ h0 (by omega) hz n1]; simp only [Option.bind_some, Bool.false_eq_true, if_false]
 ·obtain ⟨h46, hlt, hg⟩ := hf.resolve_left hx
  have hD := digits_yes' s hz (b + 1) c (by omega) hlt (by omega) hg (fun q => (exp_nd h ht q).1)
  refine Ev.step (f := fun k => (spec_reader_digits.f k s (b + 1)).bind fun t => spec_reader_number.j1 k (!t.1) t.2.1 t.2.2) (fun k => ?_) (Ev.bind hD hk)
  simp only [spec_reader_number.j0]; rw [if_neg (by simp), take_yes s _ _ h0 hz (by omega) h46]; simp only [Option.bind_some, if_true]
theorem number_yes (s : ByteArray) (hz : s.size ≤ 65536) (st e : Int) (h0 : 0 ≤ st) (h : NumG s st e) (ht : Tm s e) : Ev (fun k => spec_reader_number.f k s st) (true, s, e) := by
 obtain ⟨a, b, c, ha, hab, hbc, hce, h2, h48, hg, hf, hx⟩ := h
 have ha0 : 0 ≤ a := by rcases ha with ⟨rfl, _⟩ | ⟨rfl, _⟩ <;> omega
 have hk := j0_yes s hz b c e (by omega) hbc hce h2 hf hx ht
 have hnd : b < s.size → ¬ dig (bt s b) := fun q => by
  by_cases y : c = b
  ·subst y; exact (exp_nd hx ht q).1
  ·have := (hf.resolve_left y).1
   unfold dig; omega
 have hint : Ev (fun k => (spec_reader_take.f s a 48).bind fun t => (if t.1 = true then (spec_reader_number.j0 k false t.2.1 t.2.2) else ((spec_reader_digits.f k t.2.1 t.2.2).bind fun u => (spec_reader_number.j0 k (!u.1) u.2.1 u.2.2)))) (true, s, e) := by
  by_cases q : bt s a = 48
  ·obtain rfl := h48 q
   refine Ev.congr (f := fun k => spec_reader_number.j0 k false s (a + 1)) (fun k => ?_) hk
   rw [take_yes s _ _ ha0 hz (by omega) q]; simp only [Option.bind_some, if_true]
  ·refine Ev.congr (f := fun k => (spec_reader_digits.f k s a).bind fun u => (spec_reader_number.j0 k (!u.1) u.2.1 u.2.2)) (fun k => ?_) (Ev.bind (digits_yes' s hz a b ha0 hab (by omega) hg hnd) hk)
   rw [take_no s _ _ ha0 (by omega) hz (fun r => q r.2)]; simp only [Option.bind_some, Bool.false_eq_true, if_false]
 rcases ha with ⟨rfl, hm⟩ | ⟨rfl, hm⟩
 ·refine Ev.congr (fun k => ?_) hint
  simp only [spec_reader_number.f]; rw [take_no s _ _ h0 (by omega) hz (fun q => hm q.2)]; simp only [Option.bind_some]
 ·refine Ev.congr (fun k => ?_) hint
  simp only [spec_reader_number.f]; rw [take_yes s _ _ h0 hz (by omega) hm]; simp only [Option.bind_some]
theorem esc_l0_yes (s : ByteArray) (hz : s.size ≤ 65536) : ∀ (d : Nat) (x p : Int), 0 ≤ x → x + d = 4 → 0 ≤ p → p + d ≤ s.size → (∀ i, p ≤ i → i < p + d → (hexv (bt s i)).isSome = true) → Ev (fun k => spec_reader_escape.l0 k x s p) (true, s, p + d) := by
 intro d
 induction d with
 | zero =>
  intro x p hx hd h0 h1 h
  refine Ev.step (f := fun _ => some (true, s, p)) (fun k => ?_) (Ev.congr (fun k => ?_) (Ev.now _))
  ·simp only [spec_reader_escape.l0]; rw [if_neg (by omega)]
  ·simp
 | succ d ih =>
  intro x p hx hd h0 h1 h
  have hv := hd_some (h p (by omega) (by omega))
  have hb : hr s p = bt s p := by rw [hr, if_pos (by omega)]
  refine Ev.step (f := fun k => (spec_hexDigit.f k (hr s p)).bind fun t => (if t.2 = true then (spec_reader_escape.l0 k (wrap64 (x + 1)) s (wrap64 (p + 1))) else (some (false, s, p)))) (fun k => ?_) (Ev.bind (by rw [hb]; exact hex_yes hv) (Ev.congr (f := fun k => spec_reader_escape.l0 k (x + 1) s (p + 1)) (fun k => ?_) ?_))
  ·simp only [spec_reader_escape.l0]; rw [if_pos (by omega), here_f s p h0]; simp only [Option.bind_some]
  ·simp only [if_true]; rw [w64 (by omega) (by omega), w64 (by omega) (by omega)]
  ·have := ih (x + 1) (p + 1) (by omega) (by omega) (by omega) (by omega) (fun i a b => h i (by omega) (by omega))
   rwa [show p + 1 + (d : Int) = p + ((d + 1 : Nat) : Int) by omega] at this
theorem esc_yes (s : ByteArray) (hz : s.size ≤ 65536) (p : Int) (h0 : 0 ≤ p) (h1 : p < s.size) (h : isEsc (bt s p)) : Ev (fun k => spec_reader_escape.f k s p) (true, s, p + 1) := by
 have hb : hr s p = bt s p := by rw [hr, if_pos h1]
 refine Ev.congr (f := fun k => spec_reader_escape.j0 k (bt s p) true s p) (fun k => ?_) (Ev.step (f := fun _ => some (true, s, p + 1)) (fun k => ?_) (Ev.now _))
 ·simp only [spec_reader_escape.f]; rw [here_f s p h0, hb]; simp only [Option.bind_some]
  rcases h with h | h | h | h | h | h | h | h <;> simp [h]
 ·simp only [spec_reader_escape.j0, if_true]; rw [w64 (by omega) (by omega)]
theorem uni_yes (s : ByteArray) (hz : s.size ≤ 65536) (p : Int) (h0 : 0 ≤ p) (h1 : p + 5 ≤ s.size) (h : bt s p = 117) (h4 : hex4 s (p + 1)) : Ev (fun k => spec_reader_escape.f k s p) (true, s, p + 5) := by
 have hb : hr s p = 117 := by rw [hr, if_pos (by omega), h]
 refine Ev.congr (f := fun k => spec_reader_escape.j0 k 117 false s p) (fun k => ?_) (Ev.step (f := fun k => spec_reader_escape.l0 k 0 s (p + 1)) (fun k => ?_) ?_)
 ·simp only [spec_reader_escape.f]; rw [here_f s p h0, hb]; simp only [Option.bind_some]; simp
 ·simp only [spec_reader_escape.j0, Bool.false_eq_true, if_false, if_true]; rw [w64 (by omega) (by omega)]
 ·have := esc_l0_yes s hz 4 0 (p + 1) (by omega) (by omega) (by omega) (by omega) (fun i a b => h4 i a (by omega))
  rwa [show p + 1 + ((4 : Nat) : Int) = p + 5 by omega] at this
theorem quo_yes (s : ByteArray) (hz : s.size ≤ 65536) (j : Int) (hj : bt s j = 34) (hjs : j < s.size) {i : Int} (h : Bod s j i) : 0 ≤ i → Ev (fun k => spec_reader_quoted.l0 k s i) (true, s, j + 1) := by
 induction h with
 | nil =>
  intro h0
  refine Ev.step (f := fun _ => some (true, s, j + 1)) (fun k => ?_) (Ev.now _)
  simp only [spec_reader_quoted.l0]; rw [if_pos hjs, if_pos h0, if_pos hj, w64 (by omega) (by omega)]
 | plain i a b c d e ih =>
  intro h0
  refine Ev.step (f := fun k => spec_reader_quoted.l0 k s (i + 1)) (fun k => ?_) (ih (by omega))
  simp only [spec_reader_quoted.l0]; rw [if_pos (by omega), if_pos h0, if_neg b, if_neg (by omega), if_neg c, w64 (by omega) (by omega)]
 | esc i a b c d ih =>
  intro h0
  refine Ev.step (f := fun k => (spec_reader_escape.f k s (i + 1)).bind fun t => (if t.1 = true then (spec_reader_quoted.l0 k t.2.1 t.2.2) else (some (false, t.2.1, t.2.2)))) (fun k => ?_) (Ev.bind (esc_yes s hz (i + 1) (by omega) (by omega) c) (Ev.congr (fun k => ?_) (ih (by omega))))
  ·simp only [spec_reader_quoted.l0]; rw [if_pos (by omega), if_pos h0, if_neg (by omega), if_neg (by omega), if_pos b, w64 (by omega) (by omega)]
  ·(try dsimp only); rw [if_pos rfl, show i + 1 + 1 = i + 2 by omega]
 | uni i a b c d e ih =>
  intro h0
  refine Ev.step (f := fun k => (spec_reader_escape.f k s (i + 1)).bind fun t => (if t.1 = true then (spec_reader_quoted.l0 k t.2.1 t.2.2) else (some (false, t.2.1, t.2.2)))) (fun k => ?_) (Ev.bind (uni_yes s hz (i + 1) (by omega) (by omega) c (by rw [show i + 1 + 1 = i + 2 by omega]; exact d)) (Ev.congr (fun k => ?_) (ih (by omega))))
  ·simp only [spec_reader_quoted.l0]; rw [if_pos (by omega), if_pos h0, if_neg (by omega), if_neg (by omega), if_pos b, w64 (by omega) (by omega)]
  ·(try dsimp only); rw [if_pos rfl, show i + 1 + 5 = i + 6 by omega]
theorem quoted_yes (s : ByteArray) (hz : s.size ≤ 65536) (p e : Int) (h : Str s p e) : Ev (fun k => spec_reader_quoted.f k s p) (true, s, e) := by
 obtain ⟨h0, _, j, rfl, h1, h2, h3, h4⟩ := h
 refine Ev.congr (fun k => ?_) (quo_yes s hz j h3 (by omega) h4 (by omega))
 simp only [spec_reader_quoted.f]; rw [w64 (by omega) (by omega)]
theorem word_yes (s : ByteArray) (hz : s.size ≤ 65536) (p e : Int) (l : ByteArray) (h0 : 0 ≤ p) (hl : l.size ≤ 10) (h : Wd s p e l) : spec_reader_word.f s p l = some (true, s, e) := by
 obtain ⟨rfl, h2, h3⟩ := h
 unfold spec_reader_word.f
 rw [w64 (x := (s.size : Int) - p) (by omega) (by omega), if_neg (by omega), if_pos h0, w64 (by omega) (by omega), if_pos (by omega), if_pos h2, if_pos h3]
theorem blanks_yes (s : ByteArray) (hz : s.size ≤ 65536) (a b : Int) (h0 : 0 ≤ a) (h : Bl s a b) (hb : b ≤ s.size) (hn : b < s.size → ¬ isB (bt s b)) : Ev (fun k => spec_reader_blanks.f k s a) (s, b) := by
 obtain ⟨e, he, x, y, z, t⟩ := blanksf_ev s hz a h0 (by have := h.1; omega)
 have : e = b := by
  by_cases c : e < b
  ·exact absurd (h.2 e x c) (t (by omega))
  ·by_cases d : b < e
   ·exact absurd (z b h.1 d) (hn (by omega))
   ·omega
 subst this; exact he
theorem wd_ext {s l : ByteArray} {p e : Int} (h : Wd s p e l) : s.extract p.toNat e.toNat = l := by
 obtain ⟨_, _, h⟩ := h
 rw [ByteArray.toList_eq, ByteArray.toList_eq] at h
 exact ByteArray.ext (Array.toList_inj.1 h)
theorem wd_bt {s l : ByteArray} {p e : Int} (h0 : 0 ≤ p) (h : Wd s p e l) (i : Int) (hi : 0 ≤ i) (hi2 : i < l.size) : bt s (p + i) = bt l i := by
 have e1 := wd_ext h
 obtain ⟨rfl, h2, _⟩ := h
 have := bt_extract s p.toNat (p + (l.size : Int)).toNat i hi (by omega) (by omega)
 rw [e1] at this
 rw [this]
 congr 1
 omega
def V0 (x : Int) : Prop := x = 123 ∨ x = 91 ∨ x = 34 ∨ x = 45 ∨ dig x ∨ x = 110 ∨ x = 102 ∨ x = 116
def It.hd (s : ByteArray) : It → Prop
 | .val q => V0 (bt s q.f1)
 | .els p C e => V0 (bt s p)
 | .mems p N C e => bt s p = 34
theorem G.hd {s : ByteArray} {it : It} (h : G s it) : it.hd s := by
 induction h with
 | num p e h0 h =>
  obtain ⟨a, b, c, ha, hab, hbc, hce, h2, h48, hg, _⟩ := h
  rcases ha with ⟨rfl, _⟩ | ⟨rfl, hm⟩
  ·exact .inr (.inr (.inr (.inr (.inl (hg a (by omega) hab)))))
  ·exact .inr (.inr (.inr (.inl hm)))
 | str p e h => exact .inr (.inr (.inl h.2.1))
 | null p e h0 h =>
  have := wd_bt h0 h 0 (by omega) (by decide)
  rw [Int.add_zero] at this
  exact .inr (.inr (.inr (.inr (.inr (.inl (by show bt s p = 110; rw [this]; rfl))))))
 | fals p e h0 h =>
  have := wd_bt h0 h 0 (by omega) (by decide)
  rw [Int.add_zero] at this
  exact .inr (.inr (.inr (.inr (.inr (.inr (.inl (by show bt s p = 102; rw [this]; rfl)))))))
 | tru p e h0 h =>
  have := wd_bt h0 h 0 (by omega) (by decide)
  rw [Int.add_zero] at this
  exact .inr (.inr (.inr (.inr (.inr (.inr (.inr (by show bt s p = 116; rw [this]; rfl)))))))
 | arr0 p b h0 h1 => exact .inr (.inl h1)
 | arr p b e C h0 h1 => exact .inr (.inl h1)
 | obj0 p b h0 h1 => exact .inl h1
 | obj p b e N C h0 h1 => exact .inl h1
 | els1 c b h0 h1 h2 h3 ih => exact ih
 | elsn c b p e C h0 h1 h2 h3 h4 h5 ih ih2 => exact ih
 | mem1 n c b x h0 => exact h0.2.1
 | memn n c b x p e N C h0 => exact h0.2.1
theorem V0.nb {x : Int} (h : V0 x) : ¬ isB x ∧ x ≠ 93 ∧ x ≠ 125 ∧ x ≠ 44 := by
 unfold V0 dig at h
 unfold isB
 omega
theorem Tm_of_Bl {s : ByteArray} {a b : Int} (h : Bl s a b) (hb : bt s b = 93 ∨ bt s b = 44 ∨ bt s b = 125) : Tm s a := by
 intro ha
 by_cases e : a = b
 ·subst e; unfold dig; omega
 ·have := h.2 a (by omega) (by have := h.1; omega)
  unfold isB at this
  unfold dig; omega
def It.goes (s : ByteArray) : It → Prop
 | .val q => (q.f0 = 3 → Tm s q.f2) → Ev (fun k => spec_reader_value.f k s q.f1) (q.f0, q.f1, q.f2, q.f3, q.f4, true, s, q.f2)
 | .els p C e => ∀ D : List S78, D.length + C.length ≤ 1000000 → Ev (fun k => spec_reader_elements.l0 k D s p) (D ++ C, true, s, e)
 | .mems p N C e => ∀ (M : List S115) (D : List S78), M.length + N.length ≤ 1000000 → D.length + C.length ≤ 1000000 → Ev (fun k => spec_reader_members.l0 k M D s p) (M ++ N, D ++ C, true, s, e)
theorem hr_at {s : ByteArray} {p : Int} (h : p < s.size) : hr s p = bt s p := by rw [hr, if_pos h]
theorem num_val (s : ByteArray) (hz : s.size ≤ 65536) (p e : Int) (h0 : 0 ≤ p) (h : NumG s p e) (ht : Tm s e) : Ev (fun k => spec_reader_value.f k s p) (3, p, e, [], [], true, s, e) := by
 have hp : p < s.size := by
  obtain ⟨a, b, c, ha, hab, hbc, hce, h2, _⟩ := h
  rcases ha with ⟨rfl, _⟩ | ⟨rfl, _⟩ <;> omega
 have hd : bt s p = 45 ∨ dig (bt s p) := by
  obtain ⟨a, b, c, ha, hab, hbc, hce, h2, h48, hg, _⟩ := h
  rcases ha with ⟨rfl, _⟩ | ⟨rfl, hm⟩
  ·exact .inr (hg a (by omega) hab)
  ·exact .inl hm
 have hN := number_yes s hz p e h0 h ht
 refine Ev.step (f := fun k => spec_reader_value.j0 k true true s p 0 p 0) (fun k => ?_) (Ev.step (f := fun k => (spec_reader_number.f k s p).bind fun t => some (3, p, t.2.2, [], [], t.1, t.2.1, t.2.2)) (fun k => by simp only [spec_reader_value.j0, if_true]) (Ev.bind hN (Ev.now _)))
 have hb := hr_at hp
 simp only [spec_reader_value.f]; rw [here_f s p h0, hb]; simp only [Option.bind_some]
 unfold dig at hd
 rw [if_neg (by omega), if_neg (by omega), if_neg (by omega)]
 by_cases c4 : bt s p = 45
 ·rw [if_pos c4]
 ·rw [if_neg c4, if_pos (by omega), decide_eq_true (by omega)]
theorem word_val (s : ByteArray) (hz : s.size ≤ 65536) (p : Int) (h0 : 0 ≤ p) (hp : p < s.size) (h : bt s p = 110 ∨ bt s p = 102 ∨ bt s p = 116) {r : Int × Int × Int × List S115 × List S78 × Bool × ByteArray × Int} (hk : Ev (fun k => spec_reader_value.j0 k true false s p 0 p 0) r) : Ev (fun k => spec_reader_value.f k s p) r := by
 refine Ev.step (fun k => ?_) hk
 simp only [spec_reader_value.f]; rw [here_f s p h0, hr_at hp]; simp only [Option.bind_some]
 rw [if_neg (by omega), if_neg (by omega), if_neg (by omega), if_neg (by omega), if_pos (by omega), decide_eq_false (by omega)]
theorem word_no (s : ByteArray) (hz : s.size ≤ 65536) (p : Int) (l : ByteArray) (h0 : 0 ≤ p) (h1 : p ≤ s.size) (hl : l.size ≤ 10) (hl0 : 0 < l.size) (h : bt s p ≠ bt l 0) : spec_reader_word.f s p l = some (false, s, p) := by
 rcases word_ev s hz p l h0 h1 hl with ⟨_, hW⟩ | hw
 ·have := wd_bt h0 hW 0 (by omega) (by omega)
  rw [Int.add_zero] at this
  exact absurd this h
 ·exact hw
theorem s78_eta (c : S78) : (⟨c.f0, c.f1, c.f2, c.f3, c.f4⟩ : S78) = c := by cases c; rfl
theorem el_step (s : ByteArray) (hz : s.size ≤ 65536) (c : S78) (b : Int) (D : List S78) (hD : D.length ≤ 1000000) (h0 : 0 ≤ c.f2) (hv : Ev (fun k => spec_reader_value.f k s c.f1) (c.f0, c.f1, c.f2, c.f3, c.f4, true, s, c.f2)) (hb : Bl s c.f2 b) (hb1 : b < s.size) (hn : ¬ isB (bt s b)) {r : List S78 × Bool × ByteArray × Int}
  (hk : Ev (fun k => (spec_reader_take.f s b 93).bind fun u => (if u.1 = true then (some (D ++ [c], true, u.2.1, u.2.2)) else ((spec_reader_take.f u.2.1 u.2.2 44).bind fun v => (if v.1 = true then ((spec_reader_blanks.f k v.2.1 v.2.2).bind fun z => (spec_reader_elements.l0 k (D ++ [c]) z.1 z.2)) else (some (([] : List (S78)), false, v.2.1, v.2.2)))))) r) :
  Ev (fun k => spec_reader_elements.l0 k D s c.f1) r := by
 refine Ev.step (f := fun k => (spec_reader_value.f k s c.f1).bind fun t => (if t.2.2.2.2.2.1 = true then (if D.length < 1954687338268 then ((some (D ++ [(⟨t.1, t.2.1, t.2.2.1, t.2.2.2.1, t.2.2.2.2.1⟩ : S78)] : List (S78))).bind fun y => ((spec_reader_blanks.f k t.2.2.2.2.2.2.1 t.2.2.2.2.2.2.2).bind fun b => ((spec_reader_take.f b.1 b.2 93).bind fun u => (if u.1 = true then (some (y, true, u.2.1, u.2.2)) else ((spec_reader_take.f u.2.1 u.2.2 44).bind fun v => (if v.1 = true then ((spec_reader_blanks.f k v.2.1 v.2.2).bind fun z => (spec_reader_elements.l0 k y z.1 z.2)) else (some (([] : List (S78)), false, v.2.1, v.2.2)))))))) else (none)) else (some (([] : List (S78)), false, t.2.2.2.2.2.2.1, t.2.2.2.2.2.2.2)))) (fun k => ?_) (Ev.bind hv ?_)
 ·simp only [spec_reader_elements.l0]
 refine Ev.congr (f := fun k => (spec_reader_blanks.f k s c.f2).bind fun b => ((spec_reader_take.f b.1 b.2 93).bind fun u => (if u.1 = true then (some (D ++ [c], true, u.2.1, u.2.2)) else ((spec_reader_take.f u.2.1 u.2.2 44).bind fun v => (if v.1 = true then ((spec_reader_blanks.f k v.2.1 v.2.2).bind fun z => (spec_reader_elements.l0 k (D ++ [c]) z.1 z.2)) else (some (([] : List (S78)), false, v.2.1, v.2.2))))))) (fun k => ?_) (Ev.bind (blanks_yes s hz _ b h0 hb (by omega) (fun _ => hn)) hk)
 simp only [if_true]; rw [if_pos (by omega)]; simp only [Option.bind_some]; rw [s78_eta]
theorem me_step (s : ByteArray) (hz : s.size ≤ 65536) (n : S115) (c : S78) (b x : Int) (M : List S115) (D : List S78) (hM : M.length ≤ 1000000) (hD : D.length ≤ 1000000) (hs : Str s n.f0 n.f1) (hb : Bl s n.f1 b) (h58 : bt s b = 58) (hy : Bl s (b + 1) c.f1) (hV : V0 (bt s c.f1)) (h0 : c.f1 < c.f2) (hc2 : c.f2 ≤ s.size)
  (hv : Ev (fun k => spec_reader_value.f k s c.f1) (c.f0, c.f1, c.f2, c.f3, c.f4, true, s, c.f2)) (hx : Bl s c.f2 x) (hx1 : x < s.size) (hn : ¬ isB (bt s x)) {r : List S115 × List S78 × Bool × ByteArray × Int}
  (hk : Ev (fun k => (spec_reader_take.f s x 125).bind fun u => (if u.1 = true then (some (M ++ [n], D ++ [c], true, u.2.1, u.2.2)) else ((spec_reader_take.f u.2.1 u.2.2 44).bind fun v => (if v.1 = true then ((spec_reader_blanks.f k v.2.1 v.2.2).bind fun z => (spec_reader_members.l0 k (M ++ [n]) (D ++ [c]) z.1 z.2)) else (some (([] : List (S115)), ([] : List (S78)), false, v.2.1, v.2.2)))))) r) :
  Ev (fun k => spec_reader_members.l0 k M D s n.f0) r := by
 have q1 := hb.1
 have q2 := hy.1
 have q3 := hx.1
 have hq := quoted_yes s hz n.f0 n.f1 hs
 obtain ⟨h00, h34, j, r1, r2, r3, _⟩ := hs
 refine Ev.step (f := fun k => (spec_reader_quoted.f k s n.f0).bind fun t => (spec_reader_members.j1 k M D n.f0 (!t.1) t.2.1 t.2.2)) (fun k => ?_) (Ev.bind hq ?_)
 ·simp only [spec_reader_members.l0]; rw [here_f s _ h00]; simp only [Option.bind_some]; rw [if_pos (by rw [hr_at (by omega)]; exact h34)]
 refine Ev.step (f := fun k => (spec_reader_blanks.f k s n.f1).bind fun b => ((spec_reader_take.f b.1 b.2 58).bind fun t => (if t.1 = true then ((spec_reader_blanks.f k t.2.1 t.2.2).bind fun y => ((spec_reader_value.f k y.1 y.2).bind fun v => (if v.2.2.2.2.2.1 = true then (if D.length < 1954687338268 then ((some (D ++ [(⟨v.1, v.2.1, v.2.2.1, v.2.2.2.1, v.2.2.2.2.1⟩ : S78)] : List (S78))).bind fun y186 => ((spec_reader_blanks.f k v.2.2.2.2.2.2.1 v.2.2.2.2.2.2.2).bind fun bt189 => ((spec_reader_take.f bt189.1 bt189.2 125).bind fun bt191 => (if bt191.1 = true then (some (M ++ [n], y186, true, bt191.2.1, bt191.2.2)) else ((spec_reader_take.f bt191.2.1 bt191.2.2 44).bind fun bt194 => (if bt194.1 = true then ((spec_reader_blanks.f k bt194.2.1 bt194.2.2).bind fun bt197 => (spec_reader_members.l0 k (M ++ [n]) y186 bt197.1 bt197.2)) else (some (([] : List (S115)), ([] : List (S78)), false, bt194.2.1, bt194.2.2)))))))) else (none)) else (some (([] : List (S115)), ([] : List (S78)), false, v.2.2.2.2.2.2.1, v.2.2.2.2.2.2.2))))) else (some (([] : List (S115)), ([] : List (S78)), false, t.2.1, t.2.2))))) (fun k => ?_) (Ev.bind (blanks_yes s hz _ b (by omega) hb (by omega) (fun _ => by unfold isB; omega)) ?_)
 ·simp only [spec_reader_members.j1, Bool.not_true, Bool.false_eq_true, if_false]; rw [if_pos (by omega)]; simp only [Option.bind_some]
 refine Ev.congr (f := fun k => (spec_reader_blanks.f k s (b + 1)).bind fun y => ((spec_reader_value.f k y.1 y.2).bind fun v => (if v.2.2.2.2.2.1 = true then (if D.length < 1954687338268 then ((some (D ++ [(⟨v.1, v.2.1, v.2.2.1, v.2.2.2.1, v.2.2.2.2.1⟩ : S78)] : List (S78))).bind fun y186 => ((spec_reader_blanks.f k v.2.2.2.2.2.2.1 v.2.2.2.2.2.2.2).bind fun bt189 => ((spec_reader_take.f bt189.1 bt189.2 125).bind fun bt191 => (if bt191.1 = true then (some (M ++ [n], y186, true, bt191.2.1, bt191.2.2)) else ((spec_reader_take.f bt191.2.1 bt191.2.2 44).bind fun bt194 => (if bt194.1 = true then ((spec_reader_blanks.f k bt194.2.1 bt194.2.2).bind fun bt197 => (spec_reader_members.l0 k (M ++ [n]) y186 bt197.1 bt197.2)) else (some (([] : List (S115)), ([] : List (S78)), false, bt194.2.1, bt194.2.2)))))))) else (none)) else (some (([] : List (S115)), ([] : List (S78)), false, v.2.2.2.2.2.2.1, v.2.2.2.2.2.2.2))))) (fun k => ?_) (Ev.bind (blanks_yes s hz _ c.f1 (by omega) hy (by omega) (fun _ => (V0.nb hV).1)) (Ev.bind hv ?_))
 ·rw [take_yes s b 58 (by omega) hz (by omega) h58]; simp only [Option.bind_some, if_true]
 refine Ev.congr (f := fun k => (spec_reader_blanks.f k s c.f2).bind fun bt189 => ((spec_reader_take.f bt189.1 bt189.2 125).bind fun u => (if u.1 = true then (some (M ++ [n], D ++ [c], true, u.2.1, u.2.2)) else ((spec_reader_take.f u.2.1 u.2.2 44).bind fun v => (if v.1 = true then ((spec_reader_blanks.f k v.2.1 v.2.2).bind fun z => (spec_reader_members.l0 k (M ++ [n]) (D ++ [c]) z.1 z.2)) else (some (([] : List (S115)), ([] : List (S78)), false, v.2.1, v.2.2))))))) (fun k => ?_) (Ev.bind (blanks_yes s hz _ x (by omega) hx (by omega) (fun _ => hn)) hk)
 simp only [if_true]; rw [if_pos (by omega)]; simp only [Option.bind_some]; rw [s78_eta]
theorem G.goes {s : ByteArray} (hz : s.size ≤ 65536) {it : It} (h : G s it) : it.goes s := by
 induction h with
 | num p e h0 h => exact fun ht => num_val s hz p e h0 h (ht rfl)
 | str p e h =>
  intro _
  have h' := h
  obtain ⟨h0, h34, j, h1, h2, h3, _⟩ := h
  refine Ev.step (f := fun k => (spec_reader_quoted.f k s p).bind fun t => some (4, p, t.2.2, [], [], t.1, t.2.1, t.2.2)) (fun k => ?_) (Ev.bind (quoted_yes s hz p e h') (Ev.now _))
  simp only [spec_reader_value.f]; rw [here_f s p h0, hr_at (by omega), h34]; simp only [Option.bind_some]; simp
 | null p e h0 h =>
  intro _
  have e0 := wd_bt h0 h 0 (by omega) (by decide)
  rw [Int.add_zero] at e0
  have hz4 : wNull.size = 4 := rfl
  refine word_val s hz p h0 (by have := h.1; have := h.2.1; omega) (.inl (by rw [e0]; rfl)) (Ev.step (f := fun k => some (0, p, e, [], [], true, s, e)) (fun k => ?_) (Ev.now _))
  simp only [spec_reader_value.j0, Bool.false_eq_true, if_false]
  rw [show (⟨#[110, 117, 108, 108]⟩ : ByteArray) = wNull from rfl, word_yes s hz p e wNull h0 (by decide) h]; simp only [Option.bind_some, if_true]
 | fals p e h0 h =>
  intro _
  have e0 := wd_bt h0 h 0 (by omega) (by decide)
  rw [Int.add_zero] at e0
  have e1 : bt s p = 102 := by rw [e0]; rfl
  have hz4 : wFalse.size = 5 := rfl
  have hps : p ≤ s.size := by have := h.1; have := h.2.1; omega
  refine word_val s hz p h0 (by have := h.1; have := h.2.1; omega) (.inr (.inl e1)) (Ev.step (f := fun k => some (1, p, e, [], [], true, s, e)) (fun k => ?_) (Ev.now _))
  simp only [spec_reader_value.j0, Bool.false_eq_true, if_false]
  rw [show (⟨#[110, 117, 108, 108]⟩ : ByteArray) = wNull from rfl, word_no s hz p wNull h0 hps (by decide) (by decide) (by rw [e1]; decide)]; simp only [Option.bind_some, Bool.false_eq_true, if_false]
  rw [show (⟨#[102, 97, 108, 115, 101]⟩ : ByteArray) = wFalse from rfl, word_yes s hz p e wFalse h0 (by decide) h]; simp only [Option.bind_some, if_true]
 | tru p e h0 h =>
  intro _
  have e0 := wd_bt h0 h 0 (by omega) (by decide)
  rw [Int.add_zero] at e0
  have e1 : bt s p = 116 := by rw [e0]; rfl
  have hz4 : wTrue.size = 4 := rfl
  have hps : p ≤ s.size := by have := h.1; have := h.2.1; omega
  refine word_val s hz p h0 (by have := h.1; have := h.2.1; omega) (.inr (.inr e1)) (Ev.step (f := fun k => some (2, p, e, [], [], true, s, e)) (fun k => ?_) (Ev.now _))
  simp only [spec_reader_value.j0, Bool.false_eq_true, if_false]
  rw [show (⟨#[110, 117, 108, 108]⟩ : ByteArray) = wNull from rfl, word_no s hz p wNull h0 hps (by decide) (by decide) (by rw [e1]; decide)]; simp only [Option.bind_some, Bool.false_eq_true, if_false]
  rw [show (⟨#[102, 97, 108, 115, 101]⟩ : ByteArray) = wFalse from rfl, word_no s hz p wFalse h0 hps (by decide) (by decide) (by rw [e1]; decide)]; simp only [Option.bind_some, Bool.false_eq_true, if_false]
  rw [show (⟨#[116, 114, 117, 101]⟩ : ByteArray) = wTrue from rfl, word_yes s hz p e wTrue h0 (by decide) h]; simp only [Option.bind_some, if_true]
 | arr0 p b h0 h1 h2 h3 h4 =>
  intro _
  have := h2.1
  have hE : Ev (fun k => spec_reader_elements.f k s p) ([], true, s, b + 1) := by
   refine Ev.step (f := fun k => (spec_reader_blanks.f k s (p + 1)).bind fun b => ((spec_reader_take.f b.1 b.2 93).bind fun t => (if t.1 = true then (some (([] : List (S78)), true, t.2.1, t.2.2)) else (spec_reader_elements.l0 k ([] : List (S78)) t.2.1 t.2.2)))) (fun k => ?_) (Ev.bind (blanks_yes s hz (p + 1) b (by omega) h2 (by omega) (fun _ => by unfold isB; omega)) (Ev.congr (fun k => ?_) (Ev.now _)))
   ·simp only [spec_reader_elements.f]; rw [w64 (by omega) (by omega)]
   ·rw [take_yes s b 93 (by omega) hz h3 h4]; simp only [Option.bind_some, if_true]
  refine Ev.step (f := fun k => (spec_reader_elements.f k s p).bind fun t => some (5, p, t.2.2.2, [], t.1, t.2.1, t.2.2.1, t.2.2.2)) (fun k => ?_) (Ev.bind hE (Ev.now _))
  simp only [spec_reader_value.f]; rw [here_f s p h0, hr_at (by omega), h1]; simp only [Option.bind_some]; simp
 | arr p b e C h0 h1 h2 h3 ih =>
  intro _
  have := h2.1
  have hok := h3.ok
  obtain ⟨hn, hn2, _⟩ := V0.nb h3.hd
  obtain ⟨k0, k1, k2, k3⟩ := hok
  have hE : Ev (fun k => spec_reader_elements.f k s p) (C, true, s, e) := by
   refine Ev.step (f := fun k => (spec_reader_blanks.f k s (p + 1)).bind fun b => ((spec_reader_take.f b.1 b.2 93).bind fun t => (if t.1 = true then (some (([] : List (S78)), true, t.2.1, t.2.2)) else (spec_reader_elements.l0 k ([] : List (S78)) t.2.1 t.2.2)))) (fun k => ?_) (Ev.bind (blanks_yes s hz (p + 1) b (by omega) h2 (by omega) (fun _ => hn)) (Ev.congr (fun k => ?_) (ih [] (by simp; omega))))
   ·simp only [spec_reader_elements.f]; rw [w64 (by omega) (by omega)]
   ·rw [take_no s b 93 (by omega) (by omega) hz (fun q => hn2 q.2)]; simp only [Option.bind_some, Bool.false_eq_true, if_false]
  refine Ev.step (f := fun k => (spec_reader_elements.f k s p).bind fun t => some (5, p, t.2.2.2, [], t.1, t.2.1, t.2.2.1, t.2.2.2)) (fun k => ?_) (Ev.bind hE (Ev.now _))
  simp only [spec_reader_value.f]; rw [here_f s p h0, hr_at (by omega), h1]; simp only [Option.bind_some]; simp
 | obj0 p b h0 h1 h2 h3 h4 =>
  intro _
  have := h2.1
  have hE : Ev (fun k => spec_reader_members.f k s p) ([], [], true, s, b + 1) := by
   refine Ev.step (f := fun k => (spec_reader_blanks.f k s (p + 1)).bind fun b => ((spec_reader_take.f b.1 b.2 125).bind fun t => (if t.1 = true then (some (([] : List (S115)), ([] : List (S78)), true, t.2.1, t.2.2)) else (spec_reader_members.l0 k ([] : List (S115)) ([] : List (S78)) t.2.1 t.2.2)))) (fun k => ?_) (Ev.bind (blanks_yes s hz (p + 1) b (by omega) h2 (by omega) (fun _ => by unfold isB; omega)) (Ev.congr (fun k => ?_) (Ev.now _)))
   ·simp only [spec_reader_members.f]; rw [w64 (by omega) (by omega)]
   ·rw [take_yes s b 125 (by omega) hz h3 h4]; simp only [Option.bind_some, if_true]
  refine Ev.step (f := fun k => (spec_reader_members.f k s p).bind fun t => some (6, p, t.2.2.2.2, t.1, t.2.1, t.2.2.1, t.2.2.2.1, t.2.2.2.2)) (fun k => ?_) (Ev.bind hE (Ev.now _))
  simp only [spec_reader_value.f]; rw [here_f s p h0, hr_at (by omega), h1]; simp only [Option.bind_some]; simp
 | obj p b e N C h0 h1 h2 h3 ih =>
  intro _
  have := h2.1
  have hh : bt s b = 34 := h3.hd
  obtain ⟨k0, k1, k2, k3, k4⟩ := h3.ok
  have hE : Ev (fun k => spec_reader_members.f k s p) (N, C, true, s, e) := by
   refine Ev.step (f := fun k => (spec_reader_blanks.f k s (p + 1)).bind fun b => ((spec_reader_take.f b.1 b.2 125).bind fun t => (if t.1 = true then (some (([] : List (S115)), ([] : List (S78)), true, t.2.1, t.2.2)) else (spec_reader_members.l0 k ([] : List (S115)) ([] : List (S78)) t.2.1 t.2.2)))) (fun k => ?_) (Ev.bind (blanks_yes s hz (p + 1) b (by omega) h2 (by omega) (fun _ => by unfold isB; omega)) (Ev.congr (fun k => ?_) (ih [] [] (by simp; omega) (by simp; omega))))
   ·simp only [spec_reader_members.f]; rw [w64 (by omega) (by omega)]
   ·rw [take_no s b 125 (by omega) (by omega) hz (fun q => by omega)]; simp only [Option.bind_some, Bool.false_eq_true, if_false]
  refine Ev.step (f := fun k => (spec_reader_members.f k s p).bind fun t => some (6, p, t.2.2.2.2, t.1, t.2.1, t.2.2.1, t.2.2.2.1, t.2.2.2.2)) (fun k => ?_) (Ev.bind hE (Ev.now _))
  simp only [spec_reader_value.f]; rw [here_f s p h0, hr_at (by omega), h1]; simp only [Option.bind_some]; simp
 | els1 c b h0 h1 h2 h3 ih =>
  intro D hD
  simp only [List.length_cons, List.length_nil] at hD
  have := h1.1
  obtain ⟨i0, i1, i2, i3⟩ := h0.ok
  refine el_step s hz c b D (by omega) (by omega) (ih (fun _ => Tm_of_Bl h1 (.inl h3))) h1 h2 (by unfold isB; omega) (Ev.congr (fun k => ?_) (Ev.now _))
  rw [take_yes s b 93 (by omega) hz h2 h3]; simp only [Option.bind_some, if_true]
 | elsn c b p e C h0 h1 h2 h3 h4 h5 ih ih2 =>
  intro D hD
  simp only [List.length_cons] at hD
  have := h1.1
  have := h4.1
  obtain ⟨i0, i1, i2, i3⟩ := h0.ok
  obtain ⟨j0, j1, j2, j3⟩ := h5.ok
  have hk := ih2 (D ++ [c]) (by simp; omega)
  rw [List.append_assoc, List.singleton_append] at hk
  refine el_step s hz c b D (by omega) (by omega) (ih (fun _ => Tm_of_Bl h1 (.inr (.inl h3)))) h1 h2 (by unfold isB; omega) (Ev.congr (f := fun k => (spec_reader_blanks.f k s (b + 1)).bind fun z => (spec_reader_elements.l0 k (D ++ [c]) z.1 z.2)) (fun k => ?_) (Ev.bind (blanks_yes s hz _ p (by omega) h4 (by omega) (fun _ => (V0.nb h5.hd).1)) hk))
  rw [take_no s b 93 (by omega) (by omega) hz (fun q => by omega)]; simp only [Option.bind_some, Bool.false_eq_true, if_false]; rw [take_yes s b 44 (by omega) hz h2 h3]; simp only [Option.bind_some, if_true]
 | mem1 n c b x h0 h1 h2 h3 h4 h5 h6 h7 ih =>
  intro M D hM hD
  simp only [List.length_cons, List.length_nil] at hD hM
  have := h5.1
  obtain ⟨i0, i1, i2, i3⟩ := h4.ok
  refine me_step s hz n c b x M D (by omega) (by omega) h0 h1 h2 h3 h4.hd i1 i2 (ih (fun _ => Tm_of_Bl h5 (.inr (.inr h7)))) h5 h6 (by unfold isB; omega) (Ev.congr (fun k => ?_) (Ev.now _))
  rw [take_yes s x 125 (by omega) hz h6 h7]; simp only [Option.bind_some, if_true]
 | memn n c b x p e N C h0 h1 h2 h3 h4 h5 h6 h7 h8 h9 ih ih2 =>
  intro M D hM hD
  simp only [List.length_cons] at hD hM
  have := h5.1
  have := h8.1
  obtain ⟨i0, i1, i2, i3⟩ := h4.ok
  obtain ⟨j0, j1, j2, j3, j4⟩ := h9.ok
  have hh : bt s p = 34 := h9.hd
  have hk := ih2 (M ++ [n]) (D ++ [c]) (by simp; omega) (by simp; omega)
  rw [List.append_assoc, List.singleton_append, List.append_assoc, List.singleton_append] at hk
  refine me_step s hz n c b x M D (by omega) (by omega) h0 h1 h2 h3 h4.hd i1 i2 (ih (fun _ => Tm_of_Bl h5 (.inr (.inl h7)))) h5 h6 (by unfold isB; omega) (Ev.congr (f := fun k => (spec_reader_blanks.f k s (x + 1)).bind fun z => (spec_reader_members.l0 k (M ++ [n]) (D ++ [c]) z.1 z.2)) (fun k => ?_) (Ev.bind (blanks_yes s hz _ p (by omega) h8 (by omega) (fun _ => by unfold isB; omega)) hk))
  rw [take_no s x 125 (by omega) (by omega) hz (fun q => by omega)]; simp only [Option.bind_some, Bool.false_eq_true, if_false]; rw [take_yes s x 44 (by omega) hz h6 h7]; simp only [Option.bind_some, if_true]
end Go.Proofs.YtgiioglmkogpkaaGreatDoor.V
namespace Go.Proofs.YtgiioglmkogpkaaGreatDoor.V
open Go.RowKit Go.Proofs.YtgiioglmkogpkaaGreatDoorW.PrintWords Go.Proofs.YtgiioglmkogpkaaGreatDoorW.PrintLast Go.Proofs.YtgiioglmkogpkaaGreatDoorW.PrintMore
open M L
def Ag (s s' : ByteArray) (d a e : Int) : Prop := 0 ≤ a ∧ 0 ≤ a + d ∧ e ≤ s.size ∧ e + d ≤ s'.size ∧ ∀ i, a ≤ i → i < e → bt s' (i + d) = bt s i
theorem Ag.sub {s s' : ByteArray} {d a e a' e' : Int} (h : Ag s s' d a e) (h0 : a ≤ a') (h1 : e' ≤ e) : Ag s s' d a' e' := by
 obtain ⟨x, y, z, t, u⟩ := h
 exact ⟨by omega, by omega, by omega, by omega, fun i p q => u i (by omega) (by omega)⟩
theorem Ag.ext {s s' : ByteArray} {d a e : Int} (h : Ag s s' d a e) (hae : a ≤ e) : s'.extract (a + d).toNat (e + d).toNat = s.extract a.toNat e.toNat := by
 obtain ⟨x, y, z, t, u⟩ := h
 apply ByteArray.ext
 apply Array.ext
 ·show (s'.extract (a + d).toNat (e + d).toNat).size = (s.extract a.toNat e.toNat).size
  rw [ByteArray.size_extract, ByteArray.size_extract]; omega
 ·intro i h1 h2
  have q1 : i < (s'.extract (a + d).toNat (e + d).toNat).size := h1
  have q2 : i < (s.extract a.toNat e.toNat).size := h2
  have q2' := q2
  rw [ByteArray.size_extract] at q2'
  have b1 := bt_at (s'.extract (a + d).toNat (e + d).toNat) (i : Int) (by rw [Int.toNat_natCast]; exact q1)
  have b2 := bt_at (s.extract a.toNat e.toNat) (i : Int) (by rw [Int.toNat_natCast]; exact q2)
  rw [bt_extract _ _ _ _ (by omega) (by omega) (by omega)] at b1 b2
  have k := u (a + i) (by omega) (by omega)
  have e1 : ((a + d).toNat : Int) + (i : Int) = a + i + d := by omega
  have e2 : (a.toNat : Int) + (i : Int) = a + i := by omega
  rw [e1, k] at b1
  rw [e2] at b2
  have b3 := b1.trans b2.symm
  have b4 := Int.ofNat.inj b3
  simp only [Int.toNat_natCast] at b4
  exact UInt8.toNat_inj.1 b4
theorem Bl.sh {s s' : ByteArray} {d a b : Int} (h : Bl s a b) (g : Ag s s' d a b) : Bl s' (a + d) (b + d) := by
 refine ⟨by have := h.1; omega, fun i x y => ?_⟩
 have := g.2.2.2.2 (i - d) (by omega) (by omega)
 rw [show i - d + d = i by omega] at this
 rw [this]; exact h.2 _ (by omega) (by omega)
theorem Ag.dig {s s' : ByteArray} {d a b : Int} (g : Ag s s' d a b) (h : ∀ i, a ≤ i → i < b → dig (bt s i)) : ∀ i, a + d ≤ i → i < b + d → dig (bt s' i) := by
 intro i x y
 have := g.2.2.2.2 (i - d) (by omega) (by omega)
 rw [show i - d + d = i by omega] at this
 rw [this]; exact h _ (by omega) (by omega)
theorem Ag.at {s s' : ByteArray} {d a b : Int} (g : Ag s s' d a b) (i j : Int) (hj : j = i + d) (h0 : a ≤ i) (h1 : i < b) : bt s' j = bt s i := by
 subst hj; exact g.2.2.2.2 i h0 h1
theorem NumG.sh {s s' : ByteArray} {d p e : Int} (h : NumG s p e) (g : Ag s s' d p e) : NumG s' (p + d) (e + d) := by
 obtain ⟨a, b, c, ha, hab, hbc, hce, h2, h48, hg, hf, hx⟩ := h
 have hpa : p ≤ a := by rcases ha with ⟨rfl, _⟩ | ⟨rfl, _⟩ <;> omega
 refine ⟨a + d, b + d, c + d, ?_, by omega, by omega, by omega, by have := g.2.2.2.1; omega, fun q => ?_, (g.sub hpa (by omega)).dig hg, ?_, ?_⟩
 ·rcases ha with ⟨rfl, h⟩ | ⟨rfl, h⟩
  ·exact .inl ⟨rfl, by rw [g.at a (a + d) rfl (by omega) (by omega)]; exact h⟩
  ·exact .inr ⟨by omega, by rw [g.at p (p + d) rfl (by omega) (by omega)]; exact h⟩
 ·rw [g.at a (a + d) rfl hpa (by omega)] at q
  have := h48 q
  omega
 ·rcases hf with rfl | ⟨h1, h2, h3⟩
  ·exact .inl rfl
  ·refine .inr ⟨by rw [g.at b (b + d) rfl (by omega) (by omega)]; exact h1, by omega, fun i x y => ?_⟩
   exact (g.sub (a' := b + 1) (e' := c) (by omega) (by omega)).dig h3 i (by omega) y
 ·rcases hx with rfl | ⟨h1, f, h3, h4, h5⟩
  ·exact .inl rfl
  ·have hcf : c + 1 ≤ f := by rcases h3 with rfl | ⟨rfl, _⟩ <;> omega
   refine .inr ⟨by rw [g.at c (c + d) rfl (by omega) (by omega)]; exact h1, f + d, ?_, by omega, (g.sub (by omega) (by omega)).dig h5⟩
   rcases h3 with rfl | ⟨rfl, h6⟩
   ·exact .inl (by omega)
   ·exact .inr ⟨by omega, by rw [g.at (c + 1) (c + d + 1) (by omega) (by omega) (by omega)]; exact h6⟩
theorem hex4_sh {s s' : ByteArray} {d p : Int} (h : hex4 s p) (g : Ag s s' d p (p + 4)) : hex4 s' (p + d) := by
 intro i x y
 rw [g.at (i - d) i (by omega) (by omega) (by omega)]
 exact h _ (by omega) (by omega)
theorem Bod_sh {s s' : ByteArray} {j i d : Int} (h : Bod s j i) : Ag s s' d i j → Bod s' (j + d) (i + d) := by
 induction h with
 | nil => intro g; exact .nil
 | plain i a b c e f ih =>
  intro g
  have := g.at i (i + d) rfl (by omega) a
  have k := ih (g.sub (by omega) (by omega))
  rw [show i + 1 + d = i + d + 1 by omega] at k
  exact .plain _ (by omega) (by rw [this]; exact b) (by rw [this]; exact c) (by rw [this]; exact e) k
 | esc i a b c e ih =>
  intro g
  have k := ih (g.sub (by omega) (by omega))
  rw [show i + 2 + d = i + d + 2 by omega] at k
  exact .esc _ (by omega) (by rw [g.at i (i + d) rfl (by omega) (by omega)]; exact b) (by rw [g.at (i + 1) (i + d + 1) (by omega) (by omega) (by omega)]; exact c) k
 | uni i a b c e f ih =>
  intro g
  have k := ih (g.sub (by omega) (by omega))
  rw [show i + 6 + d = i + d + 6 by omega] at k
  refine .uni _ (by omega) (by rw [g.at i (i + d) rfl (by omega) (by omega)]; exact b) (by rw [g.at (i + 1) (i + d + 1) (by omega) (by omega) (by omega)]; exact c) ?_ k
  have := hex4_sh e (g.sub (a' := i + 2) (e' := i + 2 + 4) (by omega) (by omega))
  rwa [show i + 2 + d = i + d + 2 by omega] at this
theorem Str_sh {s s' : ByteArray} {d p e : Int} (h : Str s p e) (g : Ag s s' d p e) : Str s' (p + d) (e + d) := by
 obtain ⟨h0, h34, j, rfl, h1, h2, h3, h4⟩ := h
 have k := Bod_sh h4 (g.sub (a' := p + 1) (e' := j) (by omega) (by omega))
 rw [show p + 1 + d = p + d + 1 by omega] at k
 exact ⟨by have := g.2.1; omega, by rw [g.at p (p + d) rfl (by omega) (by omega)]; exact h34, j + d, by omega, by omega, by have := g.2.2.2.1; omega, by rw [g.at j (j + d) rfl (by omega) (by omega)]; exact h3, k⟩
theorem Wd_sh {s s' l : ByteArray} {d p e : Int} (h : Wd s p e l) (g : Ag s s' d p e) : Wd s' (p + d) (e + d) l := by
 obtain ⟨h1, h2, h3⟩ := h
 exact ⟨by omega, g.2.2.2.1, by rw [g.ext (by omega)]; exact h3⟩
mutual
def shP (d : Int) : S78 → S78
 | ⟨k, b, e, N, C⟩ => ⟨k, b + d, e + d, N.map (fun n => ⟨n.f0 + d, n.f1 + d⟩), shL d C⟩
def shL (d : Int) : List S78 → List S78
 | [] => []
 | c :: C => shP d c :: shL d C
end
theorem shP_f0 (d : Int) (q : S78) : (shP d q).f0 = q.f0 := by cases q; simp [shP]
theorem shP_f1 (d : Int) (q : S78) : (shP d q).f1 = q.f1 + d := by cases q; simp [shP]
theorem shP_f2 (d : Int) (q : S78) : (shP d q).f2 = q.f2 + d := by cases q; simp [shP]
theorem shP_f3 (d : Int) (q : S78) : (shP d q).f3 = q.f3.map (fun n => ⟨n.f0 + d, n.f1 + d⟩) := by cases q; simp [shP]
theorem shP_f4 (d : Int) (q : S78) : (shP d q).f4 = shL d q.f4 := by cases q; simp [shP]
def shN (d : Int) (N : List S115) : List S115 := N.map (fun n => ⟨n.f0 + d, n.f1 + d⟩)
def It.sh (d : Int) : It → It
 | .val q => .val (shP d q)
 | .els p C e => .els (p + d) (shL d C) (e + d)
 | .mems p N C e => .mems (p + d) (shN d N) (shL d C) (e + d)
def It.b : It → Int
 | .val q => q.f1
 | .els p _ _ => p
 | .mems p _ _ _ => p
def It.e : It → Int
 | .val q => q.f2
 | .els _ _ e => e
 | .mems _ _ _ e => e
theorem G.sh {s s' : ByteArray} {d : Int} {it : It} (h : G s it) : Ag s s' d it.b it.e → G s' (it.sh d) := by
 induction h with
 | num p e h0 h => intro g; simp only [It.sh, shP, shL, List.map_nil]; exact .num _ _ g.2.1 (h.sh g)
 | str p e h => intro g; simp only [It.sh, shP, shL, List.map_nil]; exact .str _ _ (Str_sh h g)
 | null p e h0 h => intro g; simp only [It.sh, shP, shL, List.map_nil]; exact .null _ _ g.2.1 (Wd_sh h g)
 | fals p e h0 h => intro g; simp only [It.sh, shP, shL, List.map_nil]; exact .fals _ _ g.2.1 (Wd_sh h g)
 | tru p e h0 h => intro g; simp only [It.sh, shP, shL, List.map_nil]; exact .tru _ _ g.2.1 (Wd_sh h g)
 | arr0 p b h0 h1 h2 h3 h4 =>
  intro g
  dsimp only [It.b, It.e] at g
  have q := h2.1
  have k := h2.sh (g.sub (a' := p + 1) (e' := b) (by omega) (by omega))
  simp only [It.sh, shP, shL, List.map_nil]
  rw [show b + 1 + d = b + d + 1 by omega]
  rw [show p + 1 + d = p + d + 1 by omega] at k
  exact .arr0 _ _ g.2.1 (by rw [g.at p (p + d) rfl (by omega) (by omega)]; exact h1) k (by have := g.2.2.2.1; omega) (by rw [g.at b (b + d) rfl (by omega) (by omega)]; exact h4)
 | arr p b e C h0 h1 h2 h3 ih =>
  intro g
  dsimp only [It.b, It.e] at g
  have q := h2.1
  obtain ⟨k0, k1, k2, k3⟩ := h3.ok
  have k := h2.sh (g.sub (a' := p + 1) (e' := b) (by omega) (by omega))
  simp only [It.sh, shP, shL, List.map_nil]
  rw [show p + 1 + d = p + d + 1 by omega] at k
  exact .arr _ _ _ _ g.2.1 (by rw [g.at p (p + d) rfl (by omega) (by omega)]; exact h1) k (ih (g.sub (by dsimp only [It.b]; omega) (by dsimp only [It.e]; omega)))
 | obj0 p b h0 h1 h2 h3 h4 =>
  intro g
  dsimp only [It.b, It.e] at g
  have q := h2.1
  have k := h2.sh (g.sub (a' := p + 1) (e' := b) (by omega) (by omega))
  simp only [It.sh, shP, shL, List.map_nil]
  rw [show b + 1 + d = b + d + 1 by omega]
  rw [show p + 1 + d = p + d + 1 by omega] at k
  exact .obj0 _ _ g.2.1 (by rw [g.at p (p + d) rfl (by omega) (by omega)]; exact h1) k (by have := g.2.2.2.1; omega) (by rw [g.at b (b + d) rfl (by omega) (by omega)]; exact h4)
 | obj p b e N C h0 h1 h2 h3 ih =>
  intro g
  dsimp only [It.b, It.e] at g
  have q := h2.1
  obtain ⟨k0, k1, k2, k3, k4⟩ := h3.ok
  have k := h2.sh (g.sub (a' := p + 1) (e' := b) (by omega) (by omega))
  simp only [It.sh, shP]
  rw [show p + 1 + d = p + d + 1 by omega] at k
  exact .obj _ _ _ _ _ g.2.1 (by rw [g.at p (p + d) rfl (by omega) (by omega)]; exact h1) k (ih (g.sub (by dsimp only [It.b]; omega) (by dsimp only [It.e]; omega)))
 | els1 c b h0 h1 h2 h3 ih =>
  intro g
  dsimp only [It.b, It.e] at g
  have q := h1.1
  obtain ⟨i0, i1, i2, i3⟩ := h0.ok
  have k := h1.sh (g.sub (a' := c.f2) (e' := b) (by omega) (by omega))
  simp only [It.sh, shL]
  rw [show b + 1 + d = b + d + 1 by omega, ← shP_f1]
  rw [← shP_f2] at k
  exact .els1 _ _ (ih (g.sub (by dsimp only [It.b]; omega) (by dsimp only [It.e]; omega))) k (by have := g.2.2.2.1; omega) (by rw [g.at b (b + d) rfl (by omega) (by omega)]; exact h3)
 | elsn c b p e C h0 h1 h2 h3 h4 h5 ih ih2 =>
  intro g
  dsimp only [It.b, It.e] at g
  have q := h1.1
  have q2 := h4.1
  obtain ⟨i0, i1, i2, i3⟩ := h0.ok
  obtain ⟨j0, j1, j2, j3⟩ := h5.ok
  have k := h1.sh (g.sub (a' := c.f2) (e' := b) (by omega) (by omega))
  have k2 := h4.sh (g.sub (a' := b + 1) (e' := p) (by omega) (by omega))
  simp only [It.sh, shL]
  rw [← shP_f1]
  rw [← shP_f2] at k
  rw [show b + 1 + d = b + d + 1 by omega] at k2
  exact .elsn _ _ _ _ _ (ih (g.sub (by dsimp only [It.b]; omega) (by dsimp only [It.e]; omega))) k (by have := g.2.2.2.1; omega) (by rw [g.at b (b + d) rfl (by omega) (by omega)]; exact h3) k2 (ih2 (g.sub (by dsimp only [It.b]; omega) (by dsimp only [It.e]; omega)))
 | mem1 n c b x h0 h1 h2 h3 h4 h5 h6 h7 ih =>
  intro g
  dsimp only [It.b, It.e] at g
  have q := h1.1
  have q2 := h3.1
  have q3 := h5.1
  obtain ⟨i0, i1, i2, i3⟩ := h4.ok
  have hs := Str_sh h0 (g.sub (a' := n.f0) (e' := n.f1) (by omega) (by omega))
  obtain ⟨r0, _, j, r1, r2, r3, _⟩ := h0
  have k := h1.sh (g.sub (a' := n.f1) (e' := b) (by omega) (by omega))
  have k2 := h3.sh (g.sub (a' := b + 1) (e' := c.f1) (by omega) (by omega))
  have k3 := h5.sh (g.sub (a' := c.f2) (e' := x) (by omega) (by omega))
  simp only [It.sh, shL, shN, List.map_cons, List.map_nil]
  rw [show x + 1 + d = x + d + 1 by omega]
  rw [← shP_f2] at k3
  rw [← shP_f1, show b + 1 + d = b + d + 1 by omega] at k2
  exact .mem1 ⟨n.f0 + d, n.f1 + d⟩ _ (b + d) _ hs k (by rw [g.at b (b + d) rfl (by omega) (by omega)]; exact h2) k2 (ih (g.sub (by dsimp only [It.b]; omega) (by dsimp only [It.e]; omega))) k3 (by have := g.2.2.2.1; omega) (by rw [g.at x (x + d) rfl (by omega) (by omega)]; exact h7)
 | memn n c b x p e N C h0 h1 h2 h3 h4 h5 h6 h7 h8 h9 ih ih2 =>
  intro g
  dsimp only [It.b, It.e] at g
  have q := h1.1
  have q2 := h3.1
  have q3 := h5.1
  have q4 := h8.1
  obtain ⟨i0, i1, i2, i3⟩ := h4.ok
  obtain ⟨j0, j1, j2, j3, j4⟩ := h9.ok
  have hs := Str_sh h0 (g.sub (a' := n.f0) (e' := n.f1) (by omega) (by omega))
  obtain ⟨r0, _, j, r1, r2, r3, _⟩ := h0
  have k := h1.sh (g.sub (a' := n.f1) (e' := b) (by omega) (by omega))
  have k2 := h3.sh (g.sub (a' := b + 1) (e' := c.f1) (by omega) (by omega))
  have k3 := h5.sh (g.sub (a' := c.f2) (e' := x) (by omega) (by omega))
  have k4 := h8.sh (g.sub (a' := x + 1) (e' := p) (by omega) (by omega))
  simp only [It.sh, shL, shN, List.map_cons]
  rw [← shP_f2] at k3
  rw [← shP_f1, show b + 1 + d = b + d + 1 by omega] at k2
  rw [show x + 1 + d = x + d + 1 by omega] at k4
  exact .memn ⟨n.f0 + d, n.f1 + d⟩ _ (b + d) _ _ _ _ _ hs k (by rw [g.at b (b + d) rfl (by omega) (by omega)]; exact h2) k2 (ih (g.sub (by dsimp only [It.b]; omega) (by dsimp only [It.e]; omega))) k3 (by have := g.2.2.2.1; omega) (by rw [g.at x (x + d) rfl (by omega) (by omega)]; exact h7) k4 (ih2 (g.sub (by dsimp only [It.b]; omega) (by dsimp only [It.e]; omega)))
end Go.Proofs.YtgiioglmkogpkaaGreatDoor.V
namespace Go.Proofs.YtgiioglmkogpkaaGreatDoor.V
open Go.RowKit Go.Proofs.YtgiioglmkogpkaaGreatDoorW.PrintWords Go.Proofs.YtgiioglmkogpkaaGreatDoorW.PrintLast Go.Proofs.YtgiioglmkogpkaaGreatDoorW.PrintMore
open M L
def TrOf (s : ByteArray) (q : S78) (t : S25) : Prop := Ev (fun k => spec_Tree.f k s q.f0 q.f1 q.f2 q.f3 q.f4) (t.f0, t.f1, t.f2, t.f3)
def TLs (s : ByteArray) : List S78 → List S25 → Prop
 | [], [] => True
 | c :: C, t :: ts => TrOf s c t ∧ TLs s C ts
 | _, _ => False
def NmOf (s : ByteArray) (n : S115) (r : ByteArray) : Prop := (0 ≤ n.f0 ∧ n.f0 ≤ n.f1 ∧ n.f1 ≤ s.size) ∧ Ev (fun k => spec_Unquote.f k (s.extract n.f0.toNat n.f1.toNat)) r
def NLs (s : ByteArray) : List S115 → List ByteArray → Prop
 | [], [] => True
 | n :: N, r :: R => NmOf s n r ∧ NLs s N R
 | _, _ => False
def TxOf (s : ByteArray) (q : S78) (T : ByteArray) : Prop := (q.f0 = 3 ∧ T = s.extract q.f1.toNat q.f2.toNat) ∨ (q.f0 = 4 ∧ Ev (fun k => spec_Unquote.f k (s.extract q.f1.toNat q.f2.toNat)) T) ∨ (q.f0 ≠ 3 ∧ q.f0 ≠ 4 ∧ T = ⟨#[]⟩)
theorem TLs.length {s : ByteArray} : ∀ {C : List S78} {ts : List S25}, TLs s C ts → ts.length = C.length
 | [], [], _ => rfl
 | [], _ :: _, h => h.elim
 | _ :: _, [], h => h.elim
 | c :: C, t :: ts, h => by simp [TLs.length h.2]
theorem NLs.length {s : ByteArray} : ∀ {N : List S115} {R : List ByteArray}, NLs s N R → R.length = N.length
 | [], [], _ => rfl
 | [], _ :: _, h => h.elim
 | _ :: _, [], h => h.elim
 | c :: C, t :: ts, h => by simp [NLs.length h.2]
theorem rd78_at (A : List S78) (c : S78) (B : List S78) : rd_T78 (A ++ c :: B) (A.length : Int) = c := by
 unfold rd_T78
 rw [Int.toNat_natCast, List.getD_eq_getElem?_getD, List.getElem?_append_right (Nat.le_refl _)]
 simp
theorem rd115_at (A : List S115) (c : S115) (B : List S115) : rd_T115 (A ++ c :: B) (A.length : Int) = c := by
 unfold rd_T115
 rw [Int.toNat_natCast, List.getD_eq_getElem?_getD, List.getElem?_append_right (Nat.le_refl _)]
 simp
theorem s25_eta (t : S25) : (⟨t.f0, t.f1, t.f2, t.f3⟩ : S25) = t := by cases t; rfl
theorem tr_l1 (s : ByteArray) (hz : s.size ≤ 65536) (C : List S78) (hC : C.length ≤ 65536) (a b c : Int) (N : List S115) (K : Int) (T : ByteArray) (ks : List ByteArray) :
  ∀ (B : List S78) (ts : List S25), TLs s B ts → ∀ (A : List S78) (acc : List S25), C = A ++ B → acc.length = A.length → Ev (fun k => spec_Tree.l1 k s (A.length : Int) a b c N C K T ks acc) (K, T, ks, acc ++ ts)
 | [], [], _, A, acc, hA, hl => by
  refine Ev.step (f := fun k => some (K, T, ks, acc)) (fun k => ?_) (Ev.congr (fun k => ?_) (Ev.now _))
  ·simp only [spec_Tree.l1]; rw [if_neg (by rw [hA]; simp)]
  ·rw [List.append_nil]
 | [], _ :: _, h, _, _, _, _ => h.elim
 | _ :: _, [], h, _, _, _, _ => h.elim
 | q :: B, t :: ts, h, A, acc, hA, hl => by
  have hAl : A.length < C.length := by rw [hA]; simp
  have ih := tr_l1 s hz C hC a b c N K T ks B ts h.2 (A ++ [q]) (acc ++ [t]) (by rw [hA]; simp) (by simp [hl])
  rw [List.append_assoc, List.singleton_append] at ih
  refine Ev.step (f := fun k => (spec_Tree.f k s q.f0 q.f1 q.f2 q.f3 q.f4).bind fun u => (if acc.length < 1954687338268 then (spec_Tree.l1 k s (wrap64 ((A.length : Int) + 1)) a b c N C K T ks (acc ++ [(⟨u.1, u.2.1, u.2.2.1, u.2.2.2⟩ : S25)])) else (none))) (fun k => ?_) (Ev.bind h.1 (Ev.congr (fun k => ?_) ih))
  ·simp only [spec_Tree.l1]; rw [if_pos (by omega), if_pos (by omega), hA, rd78_at]
  ·(try dsimp only); rw [if_pos (by omega), w64 (by omega) (by omega), List.length_append]; simp; rw [s25_eta]
theorem tr_l0 (s : ByteArray) (hz : s.size ≤ 65536) (C : List S78) (hC : C.length ≤ 65536) (ts : List S25) (hT : TLs s C ts) (a b c : Int) (N : List S115) (hN : N.length ≤ 65536) (K : Int) (T : ByteArray) :
  ∀ (B : List S115) (R : List ByteArray), NLs s B R → ∀ (A : List S115) (acc : List ByteArray), N = A ++ B → acc.length = A.length → Ev (fun k => spec_Tree.l0 k s (A.length : Int) a b c N C K T acc) (K, T, acc ++ R, ts)
 | [], [], _, A, acc, hA, hl => by
  have h1 := tr_l1 s hz C hC a b c N K T acc C ts hT [] [] rfl rfl
  rw [List.nil_append] at h1
  refine Ev.step (f := fun k => spec_Tree.l1 k s 0 a b c N C K T acc []) (fun k => ?_) (by rw [List.append_nil]; exact h1)
  simp only [spec_Tree.l0]; rw [if_neg (by rw [hA]; simp)]
 | [], _ :: _, h, _, _, _, _ => h.elim
 | _ :: _, [], h, _, _, _, _ => h.elim
 | n :: B, r :: R, h, A, acc, hA, hl => by
  have hAl : A.length < N.length := by rw [hA]; simp
  have ih := tr_l0 s hz C hC ts hT a b c N hN K T B R h.2 (A ++ [n]) (acc ++ [r]) (by rw [hA]; simp) (by simp [hl])
  rw [List.append_assoc, List.singleton_append] at ih
  obtain ⟨⟨p0, p1, p2⟩, hr⟩ := h.1
  refine Ev.step (f := fun k => (spec_Unquote.f k (s.extract n.f0.toNat n.f1.toNat)).bind fun t => (if acc.length < 8796093022208 then (spec_Tree.l0 k s (wrap64 ((A.length : Int) + 1)) a b c N C K T (acc ++ [t])) else (none))) (fun k => ?_) (Ev.bind hr (Ev.congr (fun k => ?_) ih))
  ·simp only [spec_Tree.l0]; rw [if_pos (by omega), if_pos (by omega), hA, rd115_at, if_pos p0, if_pos p1, if_pos p2]
  ·(try dsimp only); rw [if_pos (by omega), w64 (by omega) (by omega), List.length_append]; simp
theorem tr_val (s : ByteArray) (hz : s.size ≤ 65536) (q : S78) (h0 : 0 ≤ q.f1) (h1 : q.f1 ≤ q.f2) (h2 : q.f2 ≤ s.size) (hN : q.f3.length ≤ 65536) (hC : q.f4.length ≤ 65536) (T : ByteArray) (R : List ByteArray) (ts : List S25) (hX : TxOf s q T) (hR : NLs s q.f3 R) (hT : TLs s q.f4 ts) : TrOf s q ⟨q.f0, T, R, ts⟩ := by
 have hj : Ev (fun k => spec_Tree.j0 k s q.f0 q.f1 q.f2 q.f3 q.f4 q.f0 T) (q.f0, T, R, ts) := by
  have h := tr_l0 s hz q.f4 hC ts hT q.f0 q.f1 q.f2 q.f3 hN q.f0 T q.f3 R hR [] [] rfl rfl
  rw [List.nil_append] at h
  exact Ev.step (f := fun k => spec_Tree.l0 k s 0 q.f0 q.f1 q.f2 q.f3 q.f4 q.f0 T []) (fun k => by simp only [spec_Tree.j0]) h
 unfold TrOf
 rcases hX with ⟨c3, rfl⟩ | ⟨c4, hr⟩ | ⟨c3, c4, rfl⟩
 ·refine Ev.step (fun k => ?_) hj
  simp only [spec_Tree.f]; rw [if_pos c3, if_pos h0, if_pos h1, if_pos h2]
 ·refine Ev.step (f := fun k => (spec_Unquote.f k (s.extract q.f1.toNat q.f2.toNat)).bind fun t => spec_Tree.j0 k s q.f0 q.f1 q.f2 q.f3 q.f4 q.f0 t) (fun k => ?_) (Ev.bind hr hj)
  simp only [spec_Tree.f]; rw [if_neg (by omega), if_pos c4, if_pos h0, if_pos h1, if_pos h2]
 ·refine Ev.step (fun k => ?_) hj
  simp only [spec_Tree.f]; rw [if_neg c3, if_neg c4]
theorem TxOf.sh {s s' : ByteArray} {d : Int} {q : S78} {T : ByteArray} (h : TxOf s q T) (h1 : q.f1 ≤ q.f2) (g : Ag s s' d q.f1 q.f2) : TxOf s' (shP d q) T := by
 unfold TxOf
 rw [shP_f0, shP_f1, shP_f2, g.ext h1]
 exact h
inductive SB : S25 → Prop
 | mk (t : S25) : t.f2.length ≤ 65536 → t.f3.length ≤ 65536 → (∀ c ∈ t.f3, SB c) → SB t
def It.tr (s : ByteArray) : It → Prop
 | .val q => ∃ T R ts, NLs s q.f3 R ∧ TLs s q.f4 ts ∧ TrOf s q ⟨q.f0, T, R, ts⟩ ∧ TxOf s q T ∧ SB ⟨q.f0, T, R, ts⟩ ∧ ∀ (s' : ByteArray) (d : Int), s'.size ≤ 65536 → Ag s s' d q.f1 q.f2 → TrOf s' (shP d q) ⟨q.f0, T, R, ts⟩
 | .els p C e => ∃ ts, TLs s C ts ∧ (∀ t ∈ ts, SB t) ∧ ∀ (s' : ByteArray) (d : Int), s'.size ≤ 65536 → Ag s s' d p e → TLs s' (shL d C) ts
 | .mems p N C e => ∃ R ts, NLs s N R ∧ TLs s C ts ∧ (∀ t ∈ ts, SB t) ∧ ∀ (s' : ByteArray) (d : Int), s'.size ≤ 65536 → Ag s s' d p e → NLs s' (shN d N) R ∧ TLs s' (shL d C) ts
theorem tr_leaf (s : ByteArray) (hz : s.size ≤ 65536) (K p e : Int) (h0 : 0 ≤ p) (h1 : p ≤ e) (h2 : e ≤ s.size) (T : ByteArray) (hX : TxOf s ⟨K, p, e, [], []⟩ T) : It.tr s (.val ⟨K, p, e, [], []⟩) := by
 refine ⟨T, [], [], trivial, trivial, tr_val s hz ⟨K, p, e, [], []⟩ h0 h1 h2 (by simp) (by simp) T [] [] hX trivial trivial, hX, .mk _ (by simp) (by simp) (by simp), fun s' d hz' g => ?_⟩
 have k := tr_val s' hz' (shP d ⟨K, p, e, [], []⟩) (by rw [shP_f1]; exact g.2.1) (by rw [shP_f1, shP_f2]; dsimp only; omega) (by rw [shP_f2]; exact g.2.2.2.1) (by rw [shP_f3]; simp) (by rw [shP_f4]; simp [shL]) T [] [] (hX.sh h1 g) (by rw [shP_f3]; exact trivial) (by rw [shP_f4]; simp [shL, TLs])
 rwa [shP_f0] at k
theorem shL_length (d : Int) : ∀ C : List S78, (shL d C).length = C.length
 | [] => by simp [shL]
 | c :: C => by simp [shL, shL_length d C]
theorem nm_of (s : ByteArray) (hz : s.size ≤ 65536) (n : S115) (h : Str s n.f0 n.f1) : ∃ r, NmOf s n r ∧ ∀ (s' : ByteArray) (d : Int), s'.size ≤ 65536 → Ag s s' d n.f0 n.f1 → NmOf s' ⟨n.f0 + d, n.f1 + d⟩ r := by
 obtain ⟨r, hr, _⟩ := unqf_ev s hz _ _ h
 obtain ⟨p0, p1, j, p2, p3, p4, _⟩ := h
 refine ⟨r, ⟨⟨p0, by omega, p4⟩, hr⟩, fun s' d hz' g => ⟨⟨g.2.1, by dsimp only; omega, g.2.2.2.1⟩, ?_⟩⟩
 dsimp only
 rw [g.ext (by omega)]
 exact hr
theorem G.tr {s : ByteArray} (hz : s.size ≤ 65536) {it : It} (h : G s it) : it.tr s := by
 induction h with
 | num p e h0 h =>
  obtain ⟨k0, k1, k2, _⟩ := (G.num p e h0 h).ok
  exact tr_leaf s hz 3 p e h0 (by dsimp only at k1; omega) k2 _ (.inl ⟨rfl, rfl⟩)
 | str p e h =>
  obtain ⟨k0, k1, k2, _⟩ := (G.str p e h).ok
  obtain ⟨r, hr, _⟩ := unqf_ev s hz _ _ h
  exact tr_leaf s hz 4 p e k0 (by dsimp only at k1; omega) k2 r (.inr (.inl ⟨rfl, hr⟩))
 | null p e h0 h =>
  obtain ⟨k0, k1, k2, _⟩ := (G.null p e h0 h).ok
  exact tr_leaf s hz 0 p e h0 (by dsimp only at k1; omega) k2 _ (.inr (.inr ⟨by dsimp only; decide, by dsimp only; decide, rfl⟩))
 | fals p e h0 h =>
  obtain ⟨k0, k1, k2, _⟩ := (G.fals p e h0 h).ok
  exact tr_leaf s hz 1 p e h0 (by dsimp only at k1; omega) k2 _ (.inr (.inr ⟨by dsimp only; decide, by dsimp only; decide, rfl⟩))
 | tru p e h0 h =>
  obtain ⟨k0, k1, k2, _⟩ := (G.tru p e h0 h).ok
  exact tr_leaf s hz 2 p e h0 (by dsimp only at k1; omega) k2 _ (.inr (.inr ⟨by dsimp only; decide, by dsimp only; decide, rfl⟩))
 | arr0 p b h0 h1 h2 h3 h4 =>
  obtain ⟨k0, k1, k2, _⟩ := (G.arr0 p b h0 h1 h2 h3 h4).ok
  exact tr_leaf s hz 5 p _ h0 (by dsimp only at k1; omega) k2 _ (.inr (.inr ⟨by dsimp only; decide, by dsimp only; decide, rfl⟩))
 | obj0 p b h0 h1 h2 h3 h4 =>
  obtain ⟨k0, k1, k2, _⟩ := (G.obj0 p b h0 h1 h2 h3 h4).ok
  exact tr_leaf s hz 6 p _ h0 (by dsimp only at k1; omega) k2 _ (.inr (.inr ⟨by dsimp only; decide, by dsimp only; decide, rfl⟩))
 | arr p b e C h0 h1 h2 h3 ih =>
  obtain ⟨k0, k1, k2, k3, k4⟩ := (G.arr p b e C h0 h1 h2 h3).ok
  dsimp only at k0 k1 k2 k3 k4
  have q := h2.1
  obtain ⟨ts, hT, hB, hS⟩ := ih
  have hX : TxOf s ⟨5, p, e, [], C⟩ ⟨#[]⟩ := .inr (.inr ⟨by dsimp only; decide, by dsimp only; decide, rfl⟩)
  refine ⟨⟨#[]⟩, [], ts, trivial, hT, tr_val s hz ⟨5, p, e, [], C⟩ h0 (by dsimp only; omega) k2 (by simp) (by dsimp only; omega) _ [] ts hX trivial hT, hX, .mk _ (by simp) (by rw [hT.length]; omega) hB, fun s' d hz' g => ?_⟩
  have k := tr_val s' hz' (shP d ⟨5, p, e, [], C⟩) (by rw [shP_f1]; exact g.2.1) (by rw [shP_f1, shP_f2]; dsimp only; omega) (by rw [shP_f2]; exact g.2.2.2.1) (by rw [shP_f3]; simp) (by rw [shP_f4, shL_length]; dsimp only; omega) _ [] ts (hX.sh (by dsimp only; omega) g) (by rw [shP_f3]; exact trivial) (by rw [shP_f4]; exact hS s' d hz' (g.sub (by dsimp only; omega) (by dsimp only; omega)))
  rwa [shP_f0] at k
 | obj p b e N C h0 h1 h2 h3 ih =>
  obtain ⟨k0, k1, k2, k3, k4⟩ := (G.obj p b e N C h0 h1 h2 h3).ok
  dsimp only at k0 k1 k2 k3 k4
  have q := h2.1
  obtain ⟨R, ts, hR, hT, hB, hS⟩ := ih
  have hX : TxOf s ⟨6, p, e, N, C⟩ ⟨#[]⟩ := .inr (.inr ⟨by dsimp only; decide, by dsimp only; decide, rfl⟩)
  refine ⟨⟨#[]⟩, R, ts, hR, hT, tr_val s hz ⟨6, p, e, N, C⟩ h0 (by dsimp only; omega) k2 (by dsimp only; omega) (by dsimp only; omega) _ R ts hX hR hT, hX, .mk _ (by rw [hR.length]; omega) (by rw [hT.length]; omega) hB, fun s' d hz' g => ?_⟩
  obtain ⟨g1, g2⟩ := hS s' d hz' (g.sub (by dsimp only; omega) (by dsimp only; omega))
  have k := tr_val s' hz' (shP d ⟨6, p, e, N, C⟩) (by rw [shP_f1]; exact g.2.1) (by rw [shP_f1, shP_f2]; dsimp only; omega) (by rw [shP_f2]; exact g.2.2.2.1) (by rw [shP_f3, List.length_map]; dsimp only; omega) (by rw [shP_f4, shL_length]; dsimp only; omega) _ R ts (hX.sh (by dsimp only; omega) g) (by rw [shP_f3]; exact g1) (by rw [shP_f4]; exact g2)
  rwa [shP_f0] at k
 | els1 c b h0 h1 h2 h3 ih =>
  have q := h1.1
  obtain ⟨T, R, ts, _, _, ht, _, hB, hS⟩ := ih
  refine ⟨[_], ⟨ht, trivial⟩, fun t h => by rw [List.mem_singleton.mp h]; exact hB, fun s' d hz' g => ?_⟩
  simp only [shL]
  exact ⟨hS s' d hz' (g.sub (by omega) (by omega)), trivial⟩
 | elsn c b p e C h0 h1 h2 h3 h4 h5 ih ih2 =>
  have q := h1.1
  have q2 := h4.1
  obtain ⟨i0, i1, i2, i3⟩ := h0.ok
  obtain ⟨j0, j1, j2, j3⟩ := h5.ok
  obtain ⟨T, R, ts, _, _, ht, _, hB, hS⟩ := ih
  obtain ⟨us, hu, hB2, hS2⟩ := ih2
  refine ⟨_ :: us, ⟨ht, hu⟩, (List.forall_mem_cons.2 ⟨hB, hB2⟩), fun s' d hz' g => ?_⟩
  simp only [shL]
  exact ⟨hS s' d hz' (g.sub (by omega) (by omega)), hS2 s' d hz' (g.sub (by omega) (by omega))⟩
 | mem1 n c b x h0 h1 h2 h3 h4 h5 h6 h7 ih =>
  have q := h1.1
  have q2 := h3.1
  have q3 := h5.1
  obtain ⟨i0, i1, i2, i3⟩ := h4.ok
  obtain ⟨r, hr, hrS⟩ := nm_of s hz n h0
  obtain ⟨p0, p1, j, p2, p3, p4, _⟩ := h0
  obtain ⟨T, R, ts, _, _, ht, _, hB, hS⟩ := ih
  refine ⟨[r], [_], ⟨hr, trivial⟩, ⟨ht, trivial⟩, fun t h => by rw [List.mem_singleton.mp h]; exact hB, fun s' d hz' g => ?_⟩
  simp only [shL, shN, List.map_cons, List.map_nil]
  exact ⟨⟨hrS s' d hz' (g.sub (by omega) (by omega)), trivial⟩, hS s' d hz' (g.sub (by omega) (by omega)), trivial⟩
 | memn n c b x p e N C h0 h1 h2 h3 h4 h5 h6 h7 h8 h9 ih ih2 =>
  have q := h1.1
  have q2 := h3.1
  have q3 := h5.1
  have q4 := h8.1
  obtain ⟨i0, i1, i2, i3⟩ := h4.ok
  obtain ⟨j0, j1, j2, j3, j4⟩ := h9.ok
  obtain ⟨r, hr, hrS⟩ := nm_of s hz n h0
  obtain ⟨p0, p1, j, p2, p3, p4, _⟩ := h0
  obtain ⟨T, R, ts, _, _, ht, _, hB, hS⟩ := ih
  obtain ⟨us, vs, hu, hv, hB2, hS2⟩ := ih2
  refine ⟨r :: us, _ :: vs, ⟨hr, hu⟩, ⟨ht, hv⟩, (List.forall_mem_cons.2 ⟨hB, hB2⟩), fun s' d hz' g => ?_⟩
  simp only [shL, shN, List.map_cons]
  obtain ⟨g1, g2⟩ := hS2 s' d hz' (g.sub (by omega) (by omega))
  exact ⟨⟨hrS s' d hz' (g.sub (by omega) (by omega)), g1⟩, hS s' d hz' (g.sub (by omega) (by omega)), g2⟩
end Go.Proofs.YtgiioglmkogpkaaGreatDoor.V
namespace Go.Proofs.YtgiioglmkogpkaaGreatDoor.V
open Go.RowKit Go.Proofs.YtgiioglmkogpkaaGreatDoorW.PrintWords Go.Proofs.YtgiioglmkogpkaaGreatDoorW.PrintLast Go.Proofs.YtgiioglmkogpkaaGreatDoorW.PrintMore
open M L
def PA (s : ByteArray) (p : Int) : Prop := Ev (fun k => spec_Paired.l0 k s p) true
theorem paB (s : ByteArray) (hz : s.size ≤ 65536) (j : Int) (hj : j < s.size) (h34 : bt s j = 34) : ∀ (n : Nat) (i : Int), 0 ≤ i → j - i < n → Bod s j i → Ev (fun k => spec_Paired.l0 k s i) true → ∃ o, PDec s j i o ∧ (o.length : Int) ≤ j - i ∧ PA s j := by
 intro n
 induction n with
 | zero => intro i h0 h1 h; have := h.le; omega
 | succ n ih =>
  intro i h0 h1 h he
  cases h with
  | nil => exact ⟨[], .nil, by simp, he⟩
  | plain _ a b c d e =>
   obtain ⟨o, ho, hl, hp⟩ := ih (i + 1) (by omega) (by omega) e (Ev.back (pair_plain s hz i h0 (by omega) c) he)
   exact ⟨_, .plain i o h0 a c b d ho, by simp; omega, hp⟩
  | esc _ a b c d =>
   have h2 := Ev.unbind (unit_no s hz i (by omega) (esc_not_U c)) (Ev.back (pair_back s i h0 (by omega) b) he)
   have h3 : Ev (fun k => spec_Paired.l0 k s (i + 2)) true := by
    refine Ev.congr (fun k => ?_) h2
    dsimp only [pairStep]; rw [if_neg (by simp), w64 (by omega) (by omega)]
   obtain ⟨o, ho, hl, hp⟩ := ih (i + 2) (by omega) (by omega) d h3
   exact ⟨_, .esc i o h0 a b c ho, by simp; omega, hp⟩
  | uni _ a b c d e =>
   have hU : isU s s.size i := ⟨h0, by omega, b, c, d⟩
   have hUj : isU s j i := ⟨h0, by omega, b, c, d⟩
   have h2 := Ev.unbind (unit_yes s hz i hU) (Ev.back (pair_back s i h0 (by omega) b) he)
   by_cases cH : isHigh (u4 s (i + 2))
   ·have h3 : Ev (fun k => (spec_unit.f k s (i + 6)).bind fun b => (if b.2 = true then ((spec_low.f b.1).bind fun t368 => (if t368 = true then (spec_Paired.l0 k s (wrap64 (i + 12))) else (some false))) else (some false))) true := by
     refine Ev.congr (fun k => ?_) h2
     dsimp only [pairStep]; rw [if_pos rfl, high_f]; simp only [Option.bind_some]; rw [if_pos (decide_eq_true cH), w64 (x := i + 6) (by omega) (by omega)]
    by_cases cU2 : isU s s.size (i + 6)
    ·have h4 := Ev.unbind (unit_yes s hz _ cU2) h3
     by_cases cL : isLow (u4 s (i + 6 + 2))
     ·obtain ⟨p1, p2, p3, p4, p5⟩ := cU2
      have key : i + 12 ≤ j ∧ Bod s j (i + 12) := by
       cases e with
       | nil => omega
       | plain _ q1 q2 q3 q4 q5 => exact absurd p3 q3
       | esc _ q1 q2 q3 q4 => unfold isEsc at q3; omega
       | uni _ q1 q2 q3 q4 q5 => exact ⟨by omega, by rwa [show i + 6 + 6 = i + 12 by omega] at q5⟩
      have h5 : Ev (fun k => spec_Paired.l0 k s (i + 12)) true := by
       refine Ev.congr (fun k => ?_) h4
       (try dsimp only); rw [if_pos rfl, low_f]; simp only [Option.bind_some]; rw [if_pos (decide_eq_true cL), w64 (by omega) (by omega)]
      obtain ⟨o, ho, hl, hp⟩ := ih (i + 12) (by omega) (by omega) key.2 h5
      have := enc_length (65536 + (u4 s (i + 2) - 55296) * 1024 + (u4 s (i + 8) - 56320))
      refine ⟨_, .pair i o hUj ⟨⟨p1, by omega, p3, p4, p5⟩, cH, ?_⟩ ho, by simp; omega, hp⟩
      rwa [show i + 6 + 2 = i + 8 by omega] at cL
     ·exfalso
      have h5 : Ev (fun _ => some false) true := by
       refine Ev.congr (fun k => ?_) h4
       (try dsimp only); rw [if_pos rfl, low_f]; simp only [Option.bind_some]; rw [if_neg (by simpa using cL)]
      exact absurd (Ev.one h5 (Ev.now false)) (by simp)
    ·exfalso
     have h4 := Ev.unbind (unit_no s hz _ (by omega) cU2) h3
     have h5 : Ev (fun _ => some false) true := by
      refine Ev.congr (fun k => ?_) h4
      (try dsimp only); rw [if_neg (by simp)]
     exact absurd (Ev.one h5 (Ev.now false)) (by simp)
   ·by_cases cL : isLow (u4 s (i + 2))
    ·exfalso
     have h5 : Ev (fun _ => some false) true := by
      refine Ev.congr (fun k => ?_) h2
      dsimp only [pairStep]; rw [if_pos rfl, high_f]; simp only [Option.bind_some]; rw [if_neg (by simpa using cH), low_f]; simp only [Option.bind_some]; rw [if_pos (decide_eq_true cL)]
     exact absurd (Ev.one h5 (Ev.now false)) (by simp)
    ·have h3 : Ev (fun k => spec_Paired.l0 k s (i + 6)) true := by
      refine Ev.congr (fun k => ?_) h2
      dsimp only [pairStep]; rw [if_pos rfl, high_f]; simp only [Option.bind_some]; rw [if_neg (by simpa using cH), low_f]; simp only [Option.bind_some]; rw [if_neg (by simpa using cL), w64 (by omega) (by omega)]
     obtain ⟨o, ho, hl, hp⟩ := ih (i + 6) (by omega) (by omega) e h3
     have := enc_length (u4 s (i + 2))
     exact ⟨_, .uni i o hUj cH cL ho, by simp; omega, hp⟩
theorem pa_run (s : ByteArray) (hz : s.size ≤ 65536) (b : Int) (hb : b ≤ s.size) : ∀ (d : Nat) (a : Int), 0 ≤ a → a + d = b → (∀ i, a ≤ i → i < b → bt s i ≠ 92) → PA s a → PA s b := by
 intro d
 induction d with
 | zero => intro a h0 h1 h2 h; rwa [show b = a by omega]
 | succ d ih =>
  intro a h0 h1 h2 h
  exact ih (a + 1) (by omega) (by omega) (fun i x y => h2 i (by omega) y) (Ev.back (pair_plain s hz a h0 (by omega) (h2 a (by omega) (by omega))) h)
theorem pa_go {s : ByteArray} (hz : s.size ≤ 65536) {a b : Int} (h0 : 0 ≤ a) (hab : a ≤ b) (hb : b ≤ s.size) (h : ∀ i, a ≤ i → i < b → bt s i ≠ 92) (p : PA s a) : PA s b := pa_run s hz b hb (b - a).toNat a h0 (by omega) h p
theorem pa_bl {s : ByteArray} (hz : s.size ≤ 65536) {a b : Int} (h0 : 0 ≤ a) (hb : b ≤ s.size) (h : Bl s a b) (p : PA s a) : PA s b := pa_go hz h0 h.1 hb (fun i x y => by have := h.2 i x y; unfold isB at this; omega) p
theorem pa_one {s : ByteArray} (hz : s.size ≤ 65536) {a : Int} (h0 : 0 ≤ a) (ha : a < s.size) (h : bt s a ≠ 92) (p : PA s a) : PA s (a + 1) := pa_go hz h0 (by omega) (by omega) (fun i x y => by rw [show i = a by omega]; exact h) p
def NC (x : Int) : Prop := dig x ∨ x = 45 ∨ x = 46 ∨ x = 101 ∨ x = 69 ∨ x = 43
theorem NumG.nc {s : ByteArray} {p e : Int} (h : NumG s p e) : ∀ i, p ≤ i → i < e → NC (bt s i) := by
 obtain ⟨a, b, c, ha, hab, hbc, hce, h2, h48, hg, hf, hx⟩ := h
 intro i x y
 by_cases q1 : i < a
 ·rcases ha with ⟨rfl, _⟩ | ⟨rfl, h⟩
  ·omega
  ·rw [show i = p by omega]; exact .inr (.inl h)
 by_cases q2 : i < b
 ·exact .inl (hg i (by omega) q2)
 by_cases q3 : i < c
 ·rcases hf with rfl | ⟨h1, h3, h4⟩
  ·omega
  ·by_cases q4 : i = b
   ·subst q4; exact .inr (.inr (.inl h1))
   ·exact .inl (h4 i (by omega) q3)
 ·rcases hx with rfl | ⟨h1, f, h3, h4, h5⟩
  ·omega
  ·by_cases q4 : i = c
   ·subst q4; rcases h1 with h1 | h1
    ·exact .inr (.inr (.inr (.inl h1)))
    ·exact .inr (.inr (.inr (.inr (.inl h1))))
   ·by_cases q5 : i < f
    ·rcases h3 with rfl | ⟨rfl, h6⟩
     ·omega
     ·rw [show i = c + 1 by omega]
      rcases h6 with h6 | h6
      ·exact .inr (.inr (.inr (.inr (.inr h6))))
      ·exact .inr (.inl h6)
    ·exact .inl (h5 i (by omega) y)
theorem Wd.byte {s l : ByteArray} {p e : Int} (h0 : 0 ≤ p) (h : Wd s p e l) {P : Int → Prop} (hP : ∀ i : Nat, i < l.size → P (bt l i)) : ∀ i, p ≤ i → i < e → P (bt s i) := by
 intro i x y
 have h1 := h.1
 have := wd_bt h0 h (i - p) (by omega) (by omega)
 rw [show p + (i - p) = i by omega] at this
 have k := hP (i - p).toNat (by omega)
 rw [show (((i - p).toNat : Nat) : Int) = i - p by omega] at k
 rw [this]; exact k
theorem wNull_low : ∀ i : Nat, i < wNull.size → 97 ≤ bt wNull i ∧ bt wNull i ≤ 122 := by
 intro i h
 have : wNull.size = 4 := rfl
 have q : i = 0 ∨ i = 1 ∨ i = 2 ∨ i = 3 := by omega
 rcases q with rfl | rfl | rfl | rfl <;> decide
theorem wFalse_low : ∀ i : Nat, i < wFalse.size → 97 ≤ bt wFalse i ∧ bt wFalse i ≤ 122 := by
 intro i h
 have : wFalse.size = 5 := rfl
 have q : i = 0 ∨ i = 1 ∨ i = 2 ∨ i = 3 ∨ i = 4 := by omega
 rcases q with rfl | rfl | rfl | rfl | rfl <;> decide
theorem wTrue_low : ∀ i : Nat, i < wTrue.size → 97 ≤ bt wTrue i ∧ bt wTrue i ≤ 122 := by
 intro i h
 have : wTrue.size = 4 := rfl
 have q : i = 0 ∨ i = 1 ∨ i = 2 ∨ i = 3 := by omega
 rcases q with rfl | rfl | rfl | rfl <;> decide
theorem str_pa {s : ByteArray} (hz : s.size ≤ 65536) {p e : Int} (h : Str s p e) (hp : PA s p) : (∃ o, PDec s (e - 1) (p + 1) o ∧ (o.length : Int) ≤ e - 1 - (p + 1)) ∧ PA s e := by
 obtain ⟨h0, h34, j, rfl, h1, h2, h3, h4⟩ := h
 obtain ⟨o, ho, hl, hj⟩ := paB s hz j (by omega) h3 (s.size + 1) (p + 1) (by omega) (by omega) h4 (pa_one hz h0 (by omega) (by omega) hp)
 rw [show j + 1 - 1 = j by omega]
 exact ⟨⟨o, ho, hl⟩, pa_one hz (by omega) (by omega) (by omega) hj⟩
theorem G.pa {s : ByteArray} (hz : s.size ≤ 65536) {it : It} (h : G s it) : PA s it.b → PA s it.e := by
 induction h with
 | num p e h0 h =>
  intro hp
  obtain ⟨k0, k1, k2, _⟩ := (G.num p e h0 h).ok
  exact pa_go hz h0 (by dsimp only [It.e]; dsimp only at k1; omega) k2 (fun i x y => by have := h.nc i x y; unfold NC dig at this; omega) hp
 | str p e h => intro hp; exact (str_pa hz h hp).2
 | null p e h0 h =>
  intro hp
  obtain ⟨k0, k1, k2, _⟩ := (G.null p e h0 h).ok
  exact pa_go hz h0 (by dsimp only [It.e]; dsimp only at k1; omega) k2 (Wd.byte (P := fun x => x ≠ 92) h0 h (fun i hi => by have := wNull_low i hi; omega)) hp
 | fals p e h0 h =>
  intro hp
  obtain ⟨k0, k1, k2, _⟩ := (G.fals p e h0 h).ok
  exact pa_go hz h0 (by dsimp only [It.e]; dsimp only at k1; omega) k2 (Wd.byte (P := fun x => x ≠ 92) h0 h (fun i hi => by have := wFalse_low i hi; omega)) hp
 | tru p e h0 h =>
  intro hp
  obtain ⟨k0, k1, k2, _⟩ := (G.tru p e h0 h).ok
  exact pa_go hz h0 (by dsimp only [It.e]; dsimp only at k1; omega) k2 (Wd.byte (P := fun x => x ≠ 92) h0 h (fun i hi => by have := wTrue_low i hi; omega)) hp
 | arr0 p b h0 h1 h2 h3 h4 =>
  intro hp
  have := h2.1
  exact pa_one hz (by omega) h3 (by omega) (pa_bl hz (by omega) (by omega) h2 (pa_one hz h0 (by omega) (by omega) hp))
 | arr p b e C h0 h1 h2 h3 ih =>
  intro hp
  have := h2.1
  obtain ⟨k0, k1, k2, _⟩ := h3.ok
  exact ih (pa_bl hz (by omega) (by dsimp only [It.b]; omega) h2 (pa_one hz h0 (by omega) (by omega) hp))
 | obj0 p b h0 h1 h2 h3 h4 =>
  intro hp
  have := h2.1
  exact pa_one hz (by omega) h3 (by omega) (pa_bl hz (by omega) (by omega) h2 (pa_one hz h0 (by omega) (by omega) hp))
 | obj p b e N C h0 h1 h2 h3 ih =>
  intro hp
  have := h2.1
  obtain ⟨k0, k1, k2, _⟩ := h3.ok
  exact ih (pa_bl hz (by omega) (by dsimp only [It.b]; omega) h2 (pa_one hz h0 (by omega) (by omega) hp))
 | els1 c b h0 h1 h2 h3 ih =>
  intro hp
  have := h1.1
  obtain ⟨k0, k1, k2, _⟩ := h0.ok
  exact pa_one hz (by omega) h2 (by omega) (pa_bl hz (by omega) (by omega) h1 (ih hp))
 | elsn c b p e C h0 h1 h2 h3 h4 h5 ih ih2 =>
  intro hp
  have := h1.1
  have := h4.1
  obtain ⟨k0, k1, k2, _⟩ := h0.ok
  obtain ⟨j0, j1, j2, _⟩ := h5.ok
  exact ih2 (pa_bl hz (by omega) (by dsimp only [It.b]; omega) h4 (pa_one hz (by omega) h2 (by omega) (pa_bl hz (by omega) (by omega) h1 (ih hp))))
 | mem1 n c b x h0 h1 h2 h3 h4 h5 h6 h7 ih =>
  intro hp
  have := h1.1
  have := h3.1
  have := h5.1
  obtain ⟨k0, k1, k2, _⟩ := h4.ok
  have hs := (str_pa hz h0 hp).2
  obtain ⟨p0, p1, j, p2, p3, p4, _⟩ := h0
  exact pa_one hz (by omega) h6 (by omega) (pa_bl hz (by omega) (by omega) h5 (ih (pa_bl hz (by omega) (by dsimp only [It.b]; omega) h3 (pa_one hz (by omega) (by omega) (by omega) (pa_bl hz (by omega) (by omega) h1 hs)))))
 | memn n c b x p e N C h0 h1 h2 h3 h4 h5 h6 h7 h8 h9 ih ih2 =>
  intro hp
  have := h1.1
  have := h3.1
  have := h5.1
  have := h8.1
  obtain ⟨k0, k1, k2, _⟩ := h4.ok
  obtain ⟨j0, j1, j2, _⟩ := h9.ok
  have hs := (str_pa hz h0 hp).2
  obtain ⟨p0, p1, j, p2, p3, p4, _⟩ := h0
  exact ih2 (pa_bl hz (by omega) (by dsimp only [It.b]; omega) h8 (pa_one hz (by omega) h6 (by omega) (pa_bl hz (by omega) (by omega) h5 (ih (pa_bl hz (by omega) (by dsimp only [It.b]; omega) h3 (pa_one hz (by omega) (by omega) (by omega) (pa_bl hz (by omega) (by omega) h1 hs)))))))
end Go.Proofs.YtgiioglmkogpkaaGreatDoor.V
namespace Go.Proofs.YtgiioglmkogpkaaGreatDoor.M
open Go.RowKit Go.Proofs.YtgiioglmkogpkaaGreatDoorW.PrintWords Go.Proofs.YtgiioglmkogpkaaGreatDoorW.PrintLast Go.Proofs.YtgiioglmkogpkaaGreatDoorW.PrintMore
set_option maxHeartbeats 8000000
set_option maxRecDepth 100000
attribute [local go_sem] max2_int min2_int max_two min_two max_three min_three max_four min_four
mutual
def gjson_parseString.l0 : Nat → ByteArray → Int → Int → Option (Int × ByteArray × Bool × Bool)
 | 0, _, _, _ => none
 | k + 1, x0, x1, x8 => if x1 < (x0.size : Int) then (if 0 ≤ x1 then (if (bt x0 x1) > 92 then (gjson_parseString.l0 k x0 (wrap64 (x1 + 1)) x8) else (if (bt x0 x1) = 34 then (if 0 ≤ (wrap64 (x8 - 1)) then (if (wrap64 (x8 - 1)) ≤ (wrap64 (x1 + 1)) then (if (wrap64 (x1 + 1)) ≤ (x0.size : Int) then (some (wrap64 (x1 + 1), x0.extract ((wrap64 (x8 - 1)) : Int).toNat ((wrap64 (x1 + 1)) : Int).toNat, false, true)) else (none)) else (none)) else (none)) else (if (bt x0 x1) = 92 then (gjson_parseString.l1 k x0 (wrap64 (x1 + 1)) x8) else (gjson_parseString.l0 k x0 (wrap64 (x1 + 1)) x8)))) else (none)) else (if 0 ≤ (wrap64 (x8 - 1)) then (if (wrap64 (x8 - 1)) ≤ (x0.size : Int) then (some (x1, x0.extract ((wrap64 (x8 - 1)) : Int).toNat x0.size, false, false)) else (none)) else (none))
def gjson_parseString.l1 : Nat → ByteArray → Int → Int → Option (Int × ByteArray × Bool × Bool)
 | 0, _, _, _ => none
 | k + 1, x0, x1, x8 => if x1 < (x0.size : Int) then (if 0 ≤ x1 then (if (bt x0 x1) > 92 then (gjson_parseString.l1 k x0 (wrap64 (x1 + 1)) x8) else (if (bt x0 x1) = 34 then (if 0 ≤ (wrap64 (x1 - 1)) then (if (wrap64 (x1 - 1)) < (x0.size : Int) then (if (bt x0 (wrap64 (x1 - 1))) = 92 then (gjson_parseString.l2 k x0 x1 x8 0 (wrap64 (x1 - 2))) else (if 0 ≤ (wrap64 (x8 - 1)) then (if (wrap64 (x8 - 1)) ≤ (wrap64 (x1 + 1)) then (if (wrap64 (x1 + 1)) ≤ (x0.size : Int) then (some (wrap64 (x1 + 1), x0.extract ((wrap64 (x8 - 1)) : Int).toNat ((wrap64 (x1 + 1)) : Int).toNat, true, true)) else (none)) else (none)) else (none))) else (none)) else (none)) else (gjson_parseString.l1 k x0 (wrap64 (x1 + 1)) x8))) else (none)) else (if 0 ≤ (wrap64 (x8 - 1)) then (if (wrap64 (x8 - 1)) ≤ (x0.size : Int) then (some (x1, x0.extract ((wrap64 (x8 - 1)) : Int).toNat x0.size, false, false)) else (none)) else (none))
def gjson_parseString.l2 : Nat → ByteArray → Int → Int → Int → Int → Option (Int × ByteArray × Bool × Bool)
 | 0, _, _, _, _, _ => none
 | k + 1, x0, x1, x8, x9, x10 => if x10 > 0 then (if 0 ≤ x10 then (if x10 < (x0.size : Int) then (if (bt x0 x10) = 92 then (gjson_parseString.l2 k x0 x1 x8 (wrap64 (x9 + 1)) (wrap64 (x10 - 1))) else (if (Int.tmod x9 2) = 0 then (gjson_parseString.l1 k x0 (wrap64 (x1 + 1)) x8) else (if 0 ≤ (wrap64 (x8 - 1)) then (if (wrap64 (x8 - 1)) ≤ (wrap64 (x1 + 1)) then (if (wrap64 (x1 + 1)) ≤ (x0.size : Int) then (some (wrap64 (x1 + 1), x0.extract ((wrap64 (x8 - 1)) : Int).toNat ((wrap64 (x1 + 1)) : Int).toNat, true, true)) else (none)) else (none)) else (none)))) else (none)) else (none)) else (if (Int.tmod x9 2) = 0 then (gjson_parseString.l1 k x0 (wrap64 (x1 + 1)) x8) else (if 0 ≤ (wrap64 (x8 - 1)) then (if (wrap64 (x8 - 1)) ≤ (wrap64 (x1 + 1)) then (if (wrap64 (x1 + 1)) ≤ (x0.size : Int) then (some (wrap64 (x1 + 1), x0.extract ((wrap64 (x8 - 1)) : Int).toNat ((wrap64 (x1 + 1)) : Int).toNat, true, true)) else (none)) else (none)) else (none)))
end
def gjson_parseString.f (k : Nat) (a0 : ByteArray) (a1 : Int) : Option (Int × ByteArray × Bool × Bool) := gjson_parseString.l0 k a0 a1 a1
theorem gjson_parseString.calls (k : Nat) (a0 : ByteArray) (a1 : Int) (r1 : Int) (r2 : ByteArray) (r3 : Bool) (r4 : Bool) (w : World) (h : gjson_parseString.f k a0 a1 = some (r1, r2, r3, r4)) :
  Calls Tryz.prog 69 #[.string a0, .int .i64 a1] w fun e w' => e = .returned (.tuple #[.int .i64 r1, .string r2, .bool r3, .bool r4]) ∧ Drawn0 w w' := by
 have H : (gjson_parseString.l0 k a0 a1 a1) = some (r1, r2, r3, r4) := h
 clear h
 have H' := Aside0.mk H
 clear H
 go_enter Tryz.func69, Tryz.ntmps69
 go_wp2
 repeat (go_quiet (fail); try go_wp2)
 go_loopg [1] k (fun kq v1 w' => ∃ (x1_1 : Int), v1 = .int .i64 x1_1 ∧ Aside0 (gjson_parseString.l0 kq a0 x1_1 a1 = some (r1, r2, r3, r4)) ∧ Aside0 (kq ≤ k) ∧ Drawn0 w w')
 case atStart => exact ⟨(a1), (by first | rfl | (simp; done) | (simp [*]; done)), H', ⟨Nat.le_refl _⟩, by repeat (first | exact Drawn0.refl _ | apply Drawn0.step)⟩
 case round =>
  clear H'
  try clear p2
  obtain ⟨x1_1, rfl, HA, HK1, ⟨m1, rfl⟩⟩ := hrel
  cases gk with
  | zero => exact absurd HA.out (by simp [gjson_parseString.l0])
  | succ k1 =>
   have H := HA.out
   clear HA
   simp only [gjson_parseString.l0] at H
   by_cases c3 : x1_1 < (a0.size : Int)
   ·rw [if_pos c3] at H
    have c3b0 : decide (x1_1 < (a0.size : Int)) = true := decide_eq_true c3
    clear c3
    by_cases c4 : 0 ≤ x1_1
    ·rw [if_pos c4] at H
     have c4b0 : decide (0 ≤ x1_1) = true := decide_eq_true c4
     clear c4
     by_cases c6 : (bt a0 x1_1) > 92
     ·rw [if_pos c6] at H
      have c6b0 : decide (92 < (bt a0 x1_1)) = true := decide_eq_true c6
      clear c6
      have H' := Aside0.mk H
      clear H
      have p5 : 0 ≤ (x1_1 : Int) := of_decide_eq_true (by first | (with_reducible assumption) | assumption)
      have q5 : x1_1 < (a0.size : Int) := of_decide_eq_true (by first | (with_reducible assumption) | assumption)
      have hx5 := bt_at a0 x1_1
      replace p5 := eq_true p5
      replace q5 := eq_true q5
      go_wp2
      repeat (go_quiet (fail); try go_wp2)
      go_roundg k1
      case measure => have := HK1.out; omega
      case rel => exact ⟨(wrap64 (x1_1 + 1)), (by first | rfl | (simp; done) | (simp [*]; done)), H', ⟨by have := HK1.out; omega⟩, by repeat (first | exact Drawn0.refl _ | apply Drawn0.step)⟩
     ·rw [if_neg c6] at H
      have c6b0 : decide (92 < (bt a0 x1_1)) = false := decide_eq_false c6
      clear c6
      by_cases c8 : (bt a0 x1_1) = 34
      ·rw [if_pos c8] at H
       have c8b0 : ((bt a0 x1_1) == 34) = true := beq_iff_eq.mpr c8
       have c8b1 : ((bt a0 x1_1) != 34) = false := bne_eq_false_iff_eq.mpr c8
       clear c8
       obtain ⟨ji9, hji9⟩ : ∃ j_ : Int, (wrap64 (a1 - 1)) = j_ := ⟨_, rfl⟩
       replace H : (if 0 ≤ (ji9) then (if (ji9) ≤ (wrap64 (x1_1 + 1)) then (if (wrap64 (x1_1 + 1)) ≤ (a0.size : Int) then (some (wrap64 (x1_1 + 1), a0.extract ((ji9) : Int).toNat ((wrap64 (x1_1 + 1)) : Int).toNat, false, true)) else (none)) else (none)) else (none)) = some (r1, r2, r3, r4) := by first | (rw [hji9] at H; exact H) | (simp only [hji9] at H ⊢; exact H)
       have hji9w : (IntKind.i64.wrap (a1 - 1)) = ji9 := (i64_w _).trans hji9
       by_cases c10 : 0 ≤ (ji9)
       ·rw [if_pos c10] at H
        have c10b0 := eq_true c10
        have c10b1 : decide (0 ≤ (ji9)) = true := decide_eq_true c10
        clear c10
        by_cases c11 : (ji9) ≤ (wrap64 (x1_1 + 1))
        ·rw [if_pos c11] at H
         have c11b0 := eq_true c11
         have c11b1 : decide ((ji9) ≤ (wrap64 (x1_1 + 1))) = true := decide_eq_true c11
         by_cases c12 : (wrap64 (x1_1 + 1)) ≤ (a0.size : Int)
         ·rw [if_pos c12] at H
          have c12b0 := eq_true c12
          have c12b1 : decide ((wrap64 (x1_1 + 1)) ≤ (a0.size : Int)) = true := decide_eq_true c12
          simp only [Option.some.injEq, Prod.mk.injEq] at H
          obtain ⟨rfl, rfl, rfl, rfl⟩ := H
          have p5 : 0 ≤ (x1_1 : Int) := of_decide_eq_true (by first | (with_reducible assumption) | assumption)
          have q5 : x1_1 < (a0.size : Int) := of_decide_eq_true (by first | (with_reducible assumption) | assumption)
          have hx5 := bt_at a0 x1_1
          replace p5 := eq_true p5
          replace q5 := eq_true q5
          have p7 : 0 ≤ (x1_1 : Int) := of_decide_eq_true (by first | (with_reducible assumption) | assumption)
          have q7 : x1_1 < (a0.size : Int) := of_decide_eq_true (by first | (with_reducible assumption) | assumption)
          have hx7 := bt_at a0 x1_1
          replace p7 := eq_true p7
          replace q7 := eq_true q7
          go_wp2
          repeat (go_quiet (fail); try go_wp2)
          refine bodyPost_ret (results_list (rs := [.tmp 4, .tmp 5, .tmp 6, .tmp 7]) rfl (by simp) (.tmp (.tmp (.tmp (.tmp .nil))))) rfl ?_
          exact ⟨by first | rfl | (simp; done) | (simp only [← hji9] <;> (first | rfl | simp)) | (simp [*]; done), by repeat (first | exact Drawn0.refl _ | apply Drawn0.step)⟩
         ·rw [if_neg c12] at H
          exact absurd H (by simp)
        ·rw [if_neg c11] at H
         exact absurd H (by simp)
       ·rw [if_neg c10] at H
        exact absurd H (by simp)
      ·rw [if_neg c8] at H
       have c8b0 : ((bt a0 x1_1) == 34) = false := beq_eq_false_iff_ne.mpr c8
       have c8b1 : ((bt a0 x1_1) != 34) = true := bne_iff_ne.mpr c8
       by_cases c14 : (bt a0 x1_1) = 92
       ·rw [if_pos c14] at H
        have c14b0 : ((bt a0 x1_1) == 92) = true := beq_iff_eq.mpr c14
        have c14b1 : ((bt a0 x1_1) != 92) = false := bne_eq_false_iff_eq.mpr c14
        clear c14
        have H' := Aside0.mk H
        clear H
        have p5 : 0 ≤ (x1_1 : Int) := of_decide_eq_true (by first | (with_reducible assumption) | assumption)
        have q5 : x1_1 < (a0.size : Int) := of_decide_eq_true (by first | (with_reducible assumption) | assumption)
        have hx5 := bt_at a0 x1_1
        replace p5 := eq_true p5
        replace q5 := eq_true q5
        have p7 : 0 ≤ (x1_1 : Int) := of_decide_eq_true (by first | (with_reducible assumption) | assumption)
        have q7 : x1_1 < (a0.size : Int) := of_decide_eq_true (by first | (with_reducible assumption) | assumption)
        have hx7 := bt_at a0 x1_1
        replace p7 := eq_true p7
        replace q7 := eq_true q7
        have p13 : 0 ≤ (x1_1 : Int) := of_decide_eq_true (by first | (with_reducible assumption) | assumption)
        have q13 : x1_1 < (a0.size : Int) := of_decide_eq_true (by first | (with_reducible assumption) | assumption)
        have hx13 := bt_at a0 x1_1
        replace p13 := eq_true p13
        replace q13 := eq_true q13
        go_wp2
        repeat (go_quiet (fail); try go_wp2)
        go_loopg [1] k1 (fun kq v1 w' => ∃ (x1_2 : Int), v1 = .int .i64 x1_2 ∧ Aside0 (gjson_parseString.l1 kq a0 x1_2 a1 = some (r1, r2, r3, r4)) ∧ Aside0 (kq ≤ k1) ∧ Drawn0 w w')
        case atStart => exact ⟨(wrap64 (x1_1 + 1)), (by first | rfl | (simp; done) | (simp [*]; done)), H', ⟨Nat.le_refl _⟩, by repeat (first | exact Drawn0.refl _ | apply Drawn0.step)⟩
        case round =>
         clear H'
         try clear c1
         try clear p1
         try clear q1
         try clear hx1
         try clear p2
         try clear c3
         try clear c3b0
         try clear c4
         try clear c4b0
         try clear p5
         try clear q5
         try clear hx5
         try clear c6
         try clear c6b0
         try clear p6
         try clear p7
         try clear q7
         try clear hx7
         try clear c8
         try clear c8b0
         try clear c8b1
         try clear c10
         try clear c10b0
         try clear c10b1
         try clear c11
         try clear c11b0
         try clear c11b1
         try clear c12
         try clear c12b0
         try clear c12b1
         try clear p13
         try clear q13
         try clear hx13
         try clear c14
         try clear c14b0
         try clear c14b1
         try clear p13
         try clear p2
         try clear p5
         try clear p7
         try clear q13
         try clear q5
         try clear q7
         obtain ⟨x1_2, rfl, HA, HK2, ⟨m2, rfl⟩⟩ := hrel
         cases gk with
         | zero => exact absurd HA.out (by simp [gjson_parseString.l1])
         | succ k2 =>
          have H := HA.out
          clear HA
          simp only [gjson_parseString.l1] at H
          by_cases c15 : x1_2 < (a0.size : Int)
          ·rw [if_pos c15] at H
           have c15b0 : decide (x1_2 < (a0.size : Int)) = true := decide_eq_true c15
           clear c15
           by_cases c16 : 0 ≤ x1_2
           ·rw [if_pos c16] at H
            have c16b0 : decide (0 ≤ x1_2) = true := decide_eq_true c16
            clear c16
            by_cases c18 : (bt a0 x1_2) > 92
            ·rw [if_pos c18] at H
             have c18b0 : decide (92 < (bt a0 x1_2)) = true := decide_eq_true c18
             clear c18
             have H' := Aside0.mk H
             clear H
             have p17 : 0 ≤ (x1_2 : Int) := of_decide_eq_true (by first | (with_reducible assumption) | assumption)
             have q17 : x1_2 < (a0.size : Int) := of_decide_eq_true (by first | (with_reducible assumption) | assumption)
             have hx17 := bt_at a0 x1_2
             replace p17 := eq_true p17
             replace q17 := eq_true q17
             go_wp2
             repeat (go_quiet (fail); try go_wp2)
             go_roundg k2
             case measure => have := HK1.out; have := HK2.out; omega
             case rel => exact ⟨(wrap64 (x1_2 + 1)), (by first | rfl | (simp; done) | (simp [*]; done)), H', ⟨by have := HK1.out; have := HK2.out; omega⟩, by repeat (first | exact Drawn0.refl _ | apply Drawn0.step)⟩
            ·rw [if_neg c18] at H
             have c18b0 : decide (92 < (bt a0 x1_2)) = false := decide_eq_false c18
             clear c18
             by_cases c20 : (bt a0 x1_2) = 34
             ·rw [if_pos c20] at H
              have c20b0 : ((bt a0 x1_2) == 34) = true := beq_iff_eq.mpr c20
              have c20b1 : ((bt a0 x1_2) != 34) = false := bne_eq_false_iff_eq.mpr c20
              clear c20
              obtain ⟨ji21, hji21⟩ : ∃ j_ : Int, (wrap64 (x1_2 - 1)) = j_ := ⟨_, rfl⟩
              replace H : (if 0 ≤ (ji21) then (if (ji21) < (a0.size : Int) then (if (bt a0 (ji21)) = 92 then (gjson_parseString.l2 k2 a0 x1_2 a1 0 (wrap64 (x1_2 - 2))) else (if 0 ≤ (wrap64 (a1 - 1)) then (if (wrap64 (a1 - 1)) ≤ (wrap64 (x1_2 + 1)) then (if (wrap64 (x1_2 + 1)) ≤ (a0.size : Int) then (some (wrap64 (x1_2 + 1), a0.extract ((wrap64 (a1 - 1)) : Int).toNat ((wrap64 (x1_2 + 1)) : Int).toNat, true, true)) else (none)) else (none)) else (none))) else (none)) else (none)) = some (r1, r2, r3, r4) := by first | (rw [hji21] at H; exact H) | (simp only [hji21] at H ⊢; exact H)
              have hji21w : (IntKind.i64.wrap (x1_2 - 1)) = ji21 := (i64_w _).trans hji21
              by_cases c22 : 0 ≤ (ji21)
              ·rw [if_pos c22] at H
               have c22b0 : decide (0 ≤ (ji21)) = true := decide_eq_true c22
               clear c22
               by_cases c23 : (ji21) < (a0.size : Int)
               ·rw [if_pos c23] at H
                have c23b0 : decide ((ji21) < (a0.size : Int)) = true := decide_eq_true c23
                clear c23
                by_cases c25 : (bt a0 (ji21)) = 92
                ·rw [if_pos c25] at H
                 have c25b0 : ((bt a0 (ji21)) == 92) = true := beq_iff_eq.mpr c25
                 have c25b1 : ((bt a0 (ji21)) != 92) = false := bne_eq_false_iff_eq.mpr c25
                 clear c25
                 have H' := Aside0.mk H
                 clear H
                 have p17 : 0 ≤ (x1_2 : Int) := of_decide_eq_true (by first | (with_reducible assumption) | assumption)
                 have q17 : x1_2 < (a0.size : Int) := of_decide_eq_true (by first | (with_reducible assumption) | assumption)
                 have hx17 := bt_at a0 x1_2
                 replace p17 := eq_true p17
                 replace q17 := eq_true q17
                 have p19 : 0 ≤ (x1_2 : Int) := of_decide_eq_true (by first | (with_reducible assumption) | assumption)
                 have q19 : x1_2 < (a0.size : Int) := of_decide_eq_true (by first | (with_reducible assumption) | assumption)
                 have hx19 := bt_at a0 x1_2
                 replace p19 := eq_true p19
                 replace q19 := eq_true q19
                 have p24 : 0 ≤ ((ji21) : Int) := of_decide_eq_true (by first | (with_reducible assumption) | assumption)
                 have q24 : (ji21) < (a0.size : Int) := of_decide_eq_true (by first | (with_reducible assumption) | assumption)
                 have hx24 := bt_at a0 (ji21)
                 replace p24 := eq_true p24
                 replace q24 := eq_true q24
                 go_wp2
                 repeat (go_quiet (fail); try go_wp2)
                 go_loopg [9, 10] k2 (fun kq v9 v10 w' => ∃ (x9_3 : Int) (x10_3 : Int), v9 = .int .i64 x9_3 ∧ v10 = .int .i64 x10_3 ∧ Aside0 (gjson_parseString.l2 kq a0 x1_2 a1 x9_3 x10_3 = some (r1, r2, r3, r4)) ∧ Aside0 (kq ≤ k2) ∧ Drawn0 w w')
                 case atStart => exact ⟨(0), (wrap64 (x1_2 - 2)), (by first | rfl | (simp; done) | (simp [*]; done)), (by first | rfl | (simp; done) | (simp [*]; done)), H', ⟨Nat.le_refl _⟩, by repeat (first | exact Drawn0.refl _ | apply Drawn0.step)⟩
                 case round =>
                  clear H'
                  try clear c1
                  try clear p1
                  try clear q1
                  try clear hx1
                  try clear c2
                  try clear p2
                  try clear q2
                  try clear hx2
                  try clear c3
                  try clear c3b0
                  try clear c4
                  try clear c4b0
                  try clear p5
                  try clear q5
                  try clear hx5
                  try clear c6
                  try clear c6b0
                  try clear p6
                  try clear p7
                  try clear q7
                  try clear hx7
                  try clear c8
                  try clear c8b0
                  try clear c8b1
                  try clear c10
                  try clear c10b0
                  try clear c10b1
                  try clear c11
                  try clear c11b0
                  try clear c11b1
                  try clear c12
                  try clear c12b0
                  try clear c12b1
                  try clear p13
                  try clear q13
                  try clear hx13
                  try clear c14
                  try clear c14b0
                  try clear c14b1
                  try clear c15
                  try clear c15b0
                  try clear c16
                  try clear c16b0
                  try clear p17
                  try clear q17
                  try clear hx17
                  try clear c18
                  try clear c18b0
                  try clear p19
                  try clear q19
                  try clear hx19
                  try clear c20
                  try clear c20b0
                  try clear c20b1
                  try clear c22
                  try clear c22b0
                  try clear c23
                  try clear c23b0
                  try clear p24
                  try clear q24
                  try clear hx24
                  try clear c25
                  try clear c25b0
                  try clear c25b1
                  try clear p1
                  try clear p13
                  try clear p17
                  try clear p19
                  try clear p2
                  try clear p24
                  try clear p5
                  try clear p6
                  try clear p7
                  try clear q1
                  try clear q13
                  try clear q17
                  try clear q19
                  try clear q24
                  try clear q5
                  try clear q7
                  obtain ⟨x9_3, x10_3, rfl, rfl, HA, HK3, ⟨m3, rfl⟩⟩ := hrel
                  cases gk with
                  | zero => exact absurd HA.out (by simp [gjson_parseString.l2])
                  | succ k3 =>
                   have H := HA.out
                   clear HA
                   simp only [gjson_parseString.l2] at H
                   by_cases c26 : x10_3 > 0
                   ·rw [if_pos c26] at H
                    have c26b0 : decide (0 < x10_3) = true := decide_eq_true c26
                    clear c26
                    by_cases c27 : 0 ≤ x10_3
                    ·rw [if_pos c27] at H
                     have c27b0 : decide (0 ≤ x10_3) = true := decide_eq_true c27
                     clear c27
                     by_cases c28 : x10_3 < (a0.size : Int)
                     ·rw [if_pos c28] at H
                      have c28b0 : decide (x10_3 < (a0.size : Int)) = true := decide_eq_true c28
                      clear c28
                      by_cases c30 : (bt a0 x10_3) = 92
                      ·rw [if_pos c30] at H
                       have c30b0 : ((bt a0 x10_3) == 92) = true := beq_iff_eq.mpr c30
                       have c30b1 : ((bt a0 x10_3) != 92) = false := bne_eq_false_iff_eq.mpr c30
                       clear c30
                       have H' := Aside0.mk H
                       clear H
                       have p29 : 0 ≤ (x10_3 : Int) := of_decide_eq_true (by first | (with_reducible assumption) | assumption)
                       have q29 : x10_3 < (a0.size : Int) := of_decide_eq_true (by first | (with_reducible assumption) | assumption)
                       have hx29 := bt_at a0 x10_3
                       replace p29 := eq_true p29
                       replace q29 := eq_true q29
                       go_wp2
                       repeat (go_quiet (fail); try go_wp2)
                       go_roundg k3
                       case measure => have := HK1.out; have := HK2.out; have := HK3.out; omega
                       case rel => exact ⟨(wrap64 (x9_3 + 1)), (wrap64 (x10_3 - 1)), (by first | rfl | (simp; done) | (simp [*]; done)), (by first | rfl | (simp; done) | (simp [*]; done)), H', ⟨by have := HK1.out; have := HK2.out; have := HK3.out; omega⟩, by repeat (first | exact Drawn0.refl _ | apply Drawn0.step)⟩
                      ·rw [if_neg c30] at H
                       have c30b0 : ((bt a0 x10_3) == 92) = false := beq_eq_false_iff_ne.mpr c30
                       have c30b1 : ((bt a0 x10_3) != 92) = true := bne_iff_ne.mpr c30
                       by_cases c31 : (Int.tmod x9_3 2) = 0
                       ·rw [if_pos c31] at H
                        have c31b0 : ((Int.tmod x9_3 2) == 0) = true := beq_iff_eq.mpr c31
                        have c31b1 : ((Int.tmod x9_3 2) != 0) = false := bne_eq_false_iff_eq.mpr c31
                        clear c31
                        have H' := Aside0.mk H
                        clear H
                        have p29 : 0 ≤ (x10_3 : Int) := of_decide_eq_true (by first | (with_reducible assumption) | assumption)
                        have q29 : x10_3 < (a0.size : Int) := of_decide_eq_true (by first | (with_reducible assumption) | assumption)
                        have hx29 := bt_at a0 x10_3
                        replace p29 := eq_true p29
                        replace q29 := eq_true q29
                        go_wp2
                        repeat (go_quiet (fail); try go_wp2)
                        go_roundg k3
                        case measure => have := HK1.out; have := HK2.out; have := HK3.out; omega
                        case rel => exact ⟨(wrap64 (x1_2 + 1)), (by first | rfl | (simp; done) | (simp [*]; done)), H', ⟨by have := HK1.out; have := HK2.out; have := HK3.out; omega⟩, by repeat (first | exact Drawn0.refl _ | apply Drawn0.step)⟩
                       ·rw [if_neg c31] at H
                        have c31b0 : ((Int.tmod x9_3 2) == 0) = false := beq_eq_false_iff_ne.mpr c31
                        have c31b1 : ((Int.tmod x9_3 2) != 0) = true := bne_iff_ne.mpr c31
                        obtain ⟨ji32, hji32⟩ : ∃ j_ : Int, (wrap64 (a1 - 1)) = j_ := ⟨_, rfl⟩
                        replace H : (if 0 ≤ (ji32) then (if (ji32) ≤ (wrap64 (x1_2 + 1)) then (if (wrap64 (x1_2 + 1)) ≤ (a0.size : Int) then (some (wrap64 (x1_2 + 1), a0.extract ((ji32) : Int).toNat ((wrap64 (x1_2 + 1)) : Int).toNat, true, true)) else (none)) else (none)) else (none)) = some (r1, r2, r3, r4) := by first | (rw [hji32] at H; exact H) | (simp only [hji32] at H ⊢; exact H)
                        have hji32w : (IntKind.i64.wrap (a1 - 1)) = ji32 := (i64_w _).trans hji32
                        by_cases c33 : 0 ≤ (ji32)
                        ·rw [if_pos c33] at H
                         have c33b0 := eq_true c33
                         have c33b1 : decide (0 ≤ (ji32)) = true := decide_eq_true c33
                         clear c33
                         by_cases c34 : (ji32) ≤ (wrap64 (x1_2 + 1))
                         ·rw [if_pos c34] at H
                          have c34b0 := eq_true c34
                          have c34b1 : decide ((ji32) ≤ (wrap64 (x1_2 + 1))) = true := decide_eq_true c34
                          by_cases c35 : (wrap64 (x1_2 + 1)) ≤ (a0.size : Int)
                          ·rw [if_pos c35] at H
                           have c35b0 := eq_true c35
                           have c35b1 : decide ((wrap64 (x1_2 + 1)) ≤ (a0.size : Int)) = true := decide_eq_true c35
                           simp only [Option.some.injEq, Prod.mk.injEq] at H
                           obtain ⟨rfl, rfl, rfl, rfl⟩ := H
                           have p29 : 0 ≤ (x10_3 : Int) := of_decide_eq_true (by first | (with_reducible assumption) | assumption)
                           have q29 : x10_3 < (a0.size : Int) := of_decide_eq_true (by first | (with_reducible assumption) | assumption)
                           have hx29 := bt_at a0 x10_3
                           replace p29 := eq_true p29
                           replace q29 := eq_true q29
                           go_wp2
                           repeat (go_quiet (fail); try go_wp2)
                           refine bodyPost_ret (results_list (rs := [.tmp 4, .tmp 5, .tmp 6, .tmp 7]) rfl (by simp) (.tmp (.tmp (.tmp (.tmp .nil))))) rfl ?_
                           exact ⟨by first | rfl | (simp; done) | (simp only [← hji21, ← hji32] <;> (first | rfl | simp)) | (simp [*]; done), by repeat (first | exact Drawn0.refl _ | apply Drawn0.step)⟩
                          ·rw [if_neg c35] at H
                           exact absurd H (by simp)
                         ·rw [if_neg c34] at H
                          exact absurd H (by simp)
                        ·rw [if_neg c33] at H
                         exact absurd H (by simp)
                     ·rw [if_neg c28] at H
                      exact absurd H (by simp)
                    ·rw [if_neg c27] at H
                     exact absurd H (by simp)
                   ·rw [if_neg c26] at H
                    have c26b0 : decide (0 < x10_3) = false := decide_eq_false c26
                    clear c26
                    by_cases c36 : (Int.tmod x9_3 2) = 0
                    ·rw [if_pos c36] at H
                     have c36b0 : ((Int.tmod x9_3 2) == 0) = true := beq_iff_eq.mpr c36
                     have c36b1 : ((Int.tmod x9_3 2) != 0) = false := bne_eq_false_iff_eq.mpr c36
                     clear c36
                     have H' := Aside0.mk H
                     clear H
                     go_wp2
                     repeat (go_quiet (fail); try go_wp2)
                     go_roundg k3
                     case measure => have := HK1.out; have := HK2.out; have := HK3.out; omega
                     case rel => exact ⟨(wrap64 (x1_2 + 1)), (by first | rfl | (simp; done) | (simp [*]; done)), H', ⟨by have := HK1.out; have := HK2.out; have := HK3.out; omega⟩, by repeat (first | exact Drawn0.refl _ | apply Drawn0.step)⟩
                    ·rw [if_neg c36] at H
                     have c36b0 : ((Int.tmod x9_3 2) == 0) = false := beq_eq_false_iff_ne.mpr c36
                     have c36b1 : ((Int.tmod x9_3 2) != 0) = true := bne_iff_ne.mpr c36
                     obtain ⟨ji37, hji37⟩ : ∃ j_ : Int, (wrap64 (a1 - 1)) = j_ := ⟨_, rfl⟩
                     replace H : (if 0 ≤ (ji37) then (if (ji37) ≤ (wrap64 (x1_2 + 1)) then (if (wrap64 (x1_2 + 1)) ≤ (a0.size : Int) then (some (wrap64 (x1_2 + 1), a0.extract ((ji37) : Int).toNat ((wrap64 (x1_2 + 1)) : Int).toNat, true, true)) else (none)) else (none)) else (none)) = some (r1, r2, r3, r4) := by first | (rw [hji37] at H; exact H) | (simp only [hji37] at H ⊢; exact H)
                     have hji37w : (IntKind.i64.wrap (a1 - 1)) = ji37 := (i64_w _).trans hji37
                     by_cases c38 : 0 ≤ (ji37)
                     ·rw [if_pos c38] at H
                      have c38b0 := eq_true c38
                      have c38b1 : decide (0 ≤ (ji37)) = true := decide_eq_true c38
                      clear c38
                      by_cases c39 : (ji37) ≤ (wrap64 (x1_2 + 1))
                      ·rw [if_pos c39] at H
                       have c39b0 := eq_true c39
                       have c39b1 : decide ((ji37) ≤ (wrap64 (x1_2 + 1))) = true := decide_eq_true c39
                       by_cases c40 : (wrap64 (x1_2 + 1)) ≤ (a0.size : Int)
                       ·rw [if_pos c40] at H
                        have c40b0 := eq_true c40
                        have c40b1 : decide ((wrap64 (x1_2 + 1)) ≤ (a0.size : Int)) = true := decide_eq_true c40
                        simp only [Option.some.injEq, Prod.mk.injEq] at H
                        obtain ⟨rfl, rfl, rfl, rfl⟩ := H
                        go_wp2
                        repeat (go_quiet (fail); try go_wp2)
                        refine bodyPost_ret (results_list (rs := [.tmp 4, .tmp 5, .tmp 6, .tmp 7]) rfl (by simp) (.tmp (.tmp (.tmp (.tmp .nil))))) rfl ?_
                        exact ⟨by first | rfl | (simp; done) | (simp only [← hji21, ← hji37] <;> (first | rfl | simp)) | (simp [*]; done), by repeat (first | exact Drawn0.refl _ | apply Drawn0.step)⟩
                       ·rw [if_neg c40] at H
                        exact absurd H (by simp)
                      ·rw [if_neg c39] at H
                       exact absurd H (by simp)
                     ·rw [if_neg c38] at H
                      exact absurd H (by simp)
                ·rw [if_neg c25] at H
                 have c25b0 : ((bt a0 (ji21)) == 92) = false := beq_eq_false_iff_ne.mpr c25
                 have c25b1 : ((bt a0 (ji21)) != 92) = true := bne_iff_ne.mpr c25
                 obtain ⟨ji41, hji41⟩ : ∃ j_ : Int, (wrap64 (a1 - 1)) = j_ := ⟨_, rfl⟩
                 replace H : (if 0 ≤ (ji41) then (if (ji41) ≤ (wrap64 (x1_2 + 1)) then (if (wrap64 (x1_2 + 1)) ≤ (a0.size : Int) then (some (wrap64 (x1_2 + 1), a0.extract ((ji41) : Int).toNat ((wrap64 (x1_2 + 1)) : Int).toNat, true, true)) else (none)) else (none)) else (none)) = some (r1, r2, r3, r4) := by first | (rw [hji41] at H; exact H) | (simp only [hji41] at H ⊢; exact H)
                 have hji41w : (IntKind.i64.wrap (a1 - 1)) = ji41 := (i64_w _).trans hji41
                 by_cases c42 : 0 ≤ (ji41)
                 ·rw [if_pos c42] at H
                  have c42b0 := eq_true c42
                  have c42b1 : decide (0 ≤ (ji41)) = true := decide_eq_true c42
                  clear c42
                  by_cases c43 : (ji41) ≤ (wrap64 (x1_2 + 1))
                  ·rw [if_pos c43] at H
                   have c43b0 := eq_true c43
                   have c43b1 : decide ((ji41) ≤ (wrap64 (x1_2 + 1))) = true := decide_eq_true c43
                   by_cases c44 : (wrap64 (x1_2 + 1)) ≤ (a0.size : Int)
                   ·rw [if_pos c44] at H
                    have c44b0 := eq_true c44
                    have c44b1 : decide ((wrap64 (x1_2 + 1)) ≤ (a0.size : Int)) = true := decide_eq_true c44
                    simp only [Option.some.injEq, Prod.mk.injEq] at H
                    obtain ⟨rfl, rfl, rfl, rfl⟩ := H
                    have p17 : 0 ≤ (x1_2 : Int) := of_decide_eq_true (by first | (with_reducible assumption) | assumption)
                    have q17 : x1_2 < (a0.size : Int) := of_decide_eq_true (by first | (with_reducible assumption) | assumption)
                    have hx17 := bt_at a0 x1_2
                    replace p17 := eq_true p17
                    replace q17 := eq_true q17
                    have p19 : 0 ≤ (x1_2 : Int) := of_decide_eq_true (by first | (with_reducible assumption) | assumption)
                    have q19 : x1_2 < (a0.size : Int) := of_decide_eq_true (by first | (with_reducible assumption) | assumption)
                    have hx19 := bt_at a0 x1_2
                    replace p19 := eq_true p19
                    replace q19 := eq_true q19
                    have p24 : 0 ≤ ((ji21) : Int) := of_decide_eq_true (by first | (with_reducible assumption) | assumption)
                    have q24 : (ji21) < (a0.size : Int) := of_decide_eq_true (by first | (with_reducible assumption) | assumption)
                    have hx24 := bt_at a0 (ji21)
                    replace p24 := eq_true p24
                    replace q24 := eq_true q24
                    go_wp2
                    repeat (go_quiet (fail); try go_wp2)
                    refine bodyPost_ret (results_list (rs := [.tmp 4, .tmp 5, .tmp 6, .tmp 7]) rfl (by simp) (.tmp (.tmp (.tmp (.tmp .nil))))) rfl ?_
                    exact ⟨by first | rfl | (simp; done) | (simp only [← hji21, ← hji41] <;> (first | rfl | simp)) | (simp [*]; done), by repeat (first | exact Drawn0.refl _ | apply Drawn0.step)⟩
                   ·rw [if_neg c44] at H
                    exact absurd H (by simp)
                  ·rw [if_neg c43] at H
                   exact absurd H (by simp)
                 ·rw [if_neg c42] at H
                  exact absurd H (by simp)
               ·rw [if_neg c23] at H
                exact absurd H (by simp)
              ·rw [if_neg c22] at H
               exact absurd H (by simp)
             ·rw [if_neg c20] at H
              have c20b0 : ((bt a0 x1_2) == 34) = false := beq_eq_false_iff_ne.mpr c20
              have c20b1 : ((bt a0 x1_2) != 34) = true := bne_iff_ne.mpr c20
              have H' := Aside0.mk H
              clear H
              have p17 : 0 ≤ (x1_2 : Int) := of_decide_eq_true (by first | (with_reducible assumption) | assumption)
              have q17 : x1_2 < (a0.size : Int) := of_decide_eq_true (by first | (with_reducible assumption) | assumption)
              have hx17 := bt_at a0 x1_2
              replace p17 := eq_true p17
              replace q17 := eq_true q17
              have p19 : 0 ≤ (x1_2 : Int) := of_decide_eq_true (by first | (with_reducible assumption) | assumption)
              have q19 : x1_2 < (a0.size : Int) := of_decide_eq_true (by first | (with_reducible assumption) | assumption)
              have hx19 := bt_at a0 x1_2
              replace p19 := eq_true p19
              replace q19 := eq_true q19
              go_wp2
              repeat (go_quiet (fail); try go_wp2)
              go_roundg k2
              case measure => have := HK1.out; have := HK2.out; omega
              case rel => exact ⟨(wrap64 (x1_2 + 1)), (by first | rfl | (simp; done) | (simp [*]; done)), H', ⟨by have := HK1.out; have := HK2.out; omega⟩, by repeat (first | exact Drawn0.refl _ | apply Drawn0.step)⟩
           ·rw [if_neg c16] at H
            exact absurd H (by simp)
          ·rw [if_neg c15] at H
           have c15b0 : decide (x1_2 < (a0.size : Int)) = false := decide_eq_false c15
           clear c15
           obtain ⟨ji45, hji45⟩ : ∃ j_ : Int, (wrap64 (a1 - 1)) = j_ := ⟨_, rfl⟩
           replace H : (if 0 ≤ (ji45) then (if (ji45) ≤ (a0.size : Int) then (some (x1_2, a0.extract ((ji45) : Int).toNat a0.size, false, false)) else (none)) else (none)) = some (r1, r2, r3, r4) := by first | (rw [hji45] at H; exact H) | (simp only [hji45] at H ⊢; exact H)
           have hji45w : (IntKind.i64.wrap (a1 - 1)) = ji45 := (i64_w _).trans hji45
           by_cases c46 : 0 ≤ (ji45)
           ·rw [if_pos c46] at H
            have c46b0 := eq_true c46
            have c46b1 : decide (0 ≤ (ji45)) = true := decide_eq_true c46
            clear c46
            by_cases c47 : (ji45) ≤ (a0.size : Int)
            ·rw [if_pos c47] at H
             have c47b0 := eq_true c47
             have c47b1 : decide ((ji45) ≤ (a0.size : Int)) = true := decide_eq_true c47
             clear c47
             simp only [Option.some.injEq, Prod.mk.injEq] at H
             obtain ⟨rfl, rfl, rfl, rfl⟩ := H
             go_wp2
             repeat (go_quiet (fail); try go_wp2)
             refine bodyPost_ret (results_list (rs := [.tmp 4, .tmp 5, .tmp 6, .tmp 7]) rfl (by simp) (.tmp (.tmp (.tmp (.tmp .nil))))) rfl ?_
             exact ⟨by first | rfl | (simp; done) | (simp only [← hji45] <;> (first | rfl | simp)) | (simp [*]; done), by repeat (first | exact Drawn0.refl _ | apply Drawn0.step)⟩
            ·rw [if_neg c47] at H
             exact absurd H (by simp)
           ·rw [if_neg c46] at H
            exact absurd H (by simp)
       ·rw [if_neg c14] at H
        have c14b0 : ((bt a0 x1_1) == 92) = false := beq_eq_false_iff_ne.mpr c14
        have c14b1 : ((bt a0 x1_1) != 92) = true := bne_iff_ne.mpr c14
        have H' := Aside0.mk H
        clear H
        have p5 : 0 ≤ (x1_1 : Int) := of_decide_eq_true (by first | (with_reducible assumption) | assumption)
        have q5 : x1_1 < (a0.size : Int) := of_decide_eq_true (by first | (with_reducible assumption) | assumption)
        have hx5 := bt_at a0 x1_1
        replace p5 := eq_true p5
        replace q5 := eq_true q5
        have p7 : 0 ≤ (x1_1 : Int) := of_decide_eq_true (by first | (with_reducible assumption) | assumption)
        have q7 : x1_1 < (a0.size : Int) := of_decide_eq_true (by first | (with_reducible assumption) | assumption)
        have hx7 := bt_at a0 x1_1
        replace p7 := eq_true p7
        replace q7 := eq_true q7
        have p13 : 0 ≤ (x1_1 : Int) := of_decide_eq_true (by first | (with_reducible assumption) | assumption)
        have q13 : x1_1 < (a0.size : Int) := of_decide_eq_true (by first | (with_reducible assumption) | assumption)
        have hx13 := bt_at a0 x1_1
        replace p13 := eq_true p13
        replace q13 := eq_true q13
        go_wp2
        repeat (go_quiet (fail); try go_wp2)
        go_roundg k1
        case measure => have := HK1.out; omega
        case rel => exact ⟨(wrap64 (x1_1 + 1)), (by first | rfl | (simp; done) | (simp [*]; done)), H', ⟨by have := HK1.out; omega⟩, by repeat (first | exact Drawn0.refl _ | apply Drawn0.step)⟩
    ·rw [if_neg c4] at H
     exact absurd H (by simp)
   ·rw [if_neg c3] at H
    have c3b0 : decide (x1_1 < (a0.size : Int)) = false := decide_eq_false c3
    clear c3
    obtain ⟨ji48, hji48⟩ : ∃ j_ : Int, (wrap64 (a1 - 1)) = j_ := ⟨_, rfl⟩
    replace H : (if 0 ≤ (ji48) then (if (ji48) ≤ (a0.size : Int) then (some (x1_1, a0.extract ((ji48) : Int).toNat a0.size, false, false)) else (none)) else (none)) = some (r1, r2, r3, r4) := by first | (rw [hji48] at H; exact H) | (simp only [hji48] at H ⊢; exact H)
    have hji48w : (IntKind.i64.wrap (a1 - 1)) = ji48 := (i64_w _).trans hji48
    by_cases c49 : 0 ≤ (ji48)
    ·rw [if_pos c49] at H
     have c49b0 := eq_true c49
     have c49b1 : decide (0 ≤ (ji48)) = true := decide_eq_true c49
     clear c49
     by_cases c50 : (ji48) ≤ (a0.size : Int)
     ·rw [if_pos c50] at H
      have c50b0 := eq_true c50
      have c50b1 : decide ((ji48) ≤ (a0.size : Int)) = true := decide_eq_true c50
      clear c50
      simp only [Option.some.injEq, Prod.mk.injEq] at H
      obtain ⟨rfl, rfl, rfl, rfl⟩ := H
      go_wp2
      repeat (go_quiet (fail); try go_wp2)
      refine bodyPost_ret (results_list (rs := [.tmp 4, .tmp 5, .tmp 6, .tmp 7]) rfl (by simp) (.tmp (.tmp (.tmp (.tmp .nil))))) rfl ?_
      exact ⟨by first | rfl | (simp; done) | (simp only [← hji48] <;> (first | rfl | simp)) | (simp [*]; done), by repeat (first | exact Drawn0.refl _ | apply Drawn0.step)⟩
     ·rw [if_neg c50] at H
      exact absurd H (by simp)
    ·rw [if_neg c49] at H
     exact absurd H (by simp)
def gjson_parseLiteral.l0 : Nat → ByteArray → Int → Int → Option (Int × ByteArray)
 | 0, _, _, _ => none
 | k + 1, x0, x1, x6 => if x1 < (x0.size : Int) then (if 0 ≤ x1 then (if (bt x0 x1) < 97 then (if 0 ≤ x6 then (if x6 ≤ x1 then (if x1 ≤ (x0.size : Int) then (some (x1, x0.extract (x6 : Int).toNat (x1 : Int).toNat)) else (none)) else (none)) else (none)) else (if (bt x0 x1) > 122 then (if 0 ≤ x6 then (if x6 ≤ x1 then (if x1 ≤ (x0.size : Int) then (some (x1, x0.extract (x6 : Int).toNat (x1 : Int).toNat)) else (none)) else (none)) else (none)) else (gjson_parseLiteral.l0 k x0 (wrap64 (x1 + 1)) x6))) else (none)) else (if 0 ≤ x6 then (if x6 ≤ (x0.size : Int) then (some (x1, x0.extract (x6 : Int).toNat x0.size)) else (none)) else (none))
def gjson_parseLiteral.f (k : Nat) (a0 : ByteArray) (a1 : Int) : Option (Int × ByteArray) := gjson_parseLiteral.l0 k a0 (wrap64 (a1 + 1)) a1
theorem gjson_parseLiteral.calls (k : Nat) (a0 : ByteArray) (a1 : Int) (r1 : Int) (r2 : ByteArray) (w : World) (h : gjson_parseLiteral.f k a0 a1 = some (r1, r2)) :
  Calls Tryz.prog 89 #[.string a0, .int .i64 a1] w fun e w' => e = .returned (.tuple #[.int .i64 r1, .string r2]) ∧ Drawn0 w w' := by
 have H : (gjson_parseLiteral.l0 k a0 (wrap64 (a1 + 1)) a1) = some (r1, r2) := h
 clear h
 have H' := Aside0.mk H
 clear H
 go_enter Tryz.func89, Tryz.ntmps89
 go_wp2
 repeat (go_quiet (fail); try go_wp2)
 go_loopg [1] k (fun kq v1 w' => ∃ (x1_1 : Int), v1 = .int .i64 x1_1 ∧ Aside0 (gjson_parseLiteral.l0 kq a0 x1_1 a1 = some (r1, r2)) ∧ Aside0 (kq ≤ k) ∧ Drawn0 w w')
 case atStart => exact ⟨(wrap64 (a1 + 1)), (by first | rfl | (simp; done) | (simp [*]; done)), H', ⟨Nat.le_refl _⟩, by repeat (first | exact Drawn0.refl _ | apply Drawn0.step)⟩
 case round =>
  clear H'
  try clear p2
  obtain ⟨x1_1, rfl, HA, HK1, ⟨m1, rfl⟩⟩ := hrel
  cases gk with
  | zero => exact absurd HA.out (by simp [gjson_parseLiteral.l0])
  | succ k1 =>
   have H := HA.out
   clear HA
   simp only [gjson_parseLiteral.l0] at H
   by_cases c3 : x1_1 < (a0.size : Int)
   ·rw [if_pos c3] at H
    have c3b0 : decide (x1_1 < (a0.size : Int)) = true := decide_eq_true c3
    clear c3
    by_cases c4 : 0 ≤ x1_1
    ·rw [if_pos c4] at H
     have c4b0 : decide (0 ≤ x1_1) = true := decide_eq_true c4
     clear c4
     by_cases c6 : (bt a0 x1_1) < 97
     ·rw [if_pos c6] at H
      have c6b0 : decide ((bt a0 x1_1) < 97) = true := decide_eq_true c6
      clear c6
      by_cases c7 : 0 ≤ a1
      ·rw [if_pos c7] at H
       have c7b0 := eq_true c7
       have c7b1 : decide (0 ≤ a1) = true := decide_eq_true c7
       clear c7
       by_cases c8 : a1 ≤ x1_1
       ·rw [if_pos c8] at H
        have c8b0 := eq_true c8
        have c8b1 : decide (a1 ≤ x1_1) = true := decide_eq_true c8
        clear c8
        by_cases c9 : x1_1 ≤ (a0.size : Int)
        ·rw [if_pos c9] at H
         have c9b0 := eq_true c9
         have c9b1 : decide (x1_1 ≤ (a0.size : Int)) = true := decide_eq_true c9
         clear c9
         simp only [Option.some.injEq, Prod.mk.injEq] at H
         obtain ⟨rfl, rfl⟩ := H
         have p5 : 0 ≤ (x1_1 : Int) := of_decide_eq_true (by first | (with_reducible assumption) | assumption)
         have q5 : x1_1 < (a0.size : Int) := of_decide_eq_true (by first | (with_reducible assumption) | assumption)
         have hx5 := bt_at a0 x1_1
         replace p5 := eq_true p5
         replace q5 := eq_true q5
         go_wp2
         repeat (go_quiet (fail); try go_wp2)
         go_ret2
         exact ⟨by first | rfl | (simp; done) | (simp [*]; done), by repeat (first | exact Drawn0.refl _ | apply Drawn0.step)⟩
        ·rw [if_neg c9] at H
         exact absurd H (by simp)
       ·rw [if_neg c8] at H
        exact absurd H (by simp)
      ·rw [if_neg c7] at H
       exact absurd H (by simp)
     ·rw [if_neg c6] at H
      have c6b0 : decide ((bt a0 x1_1) < 97) = false := decide_eq_false c6
      clear c6
      by_cases c11 : (bt a0 x1_1) > 122
      ·rw [if_pos c11] at H
       have c11b0 : decide (122 < (bt a0 x1_1)) = true := decide_eq_true c11
       clear c11
       by_cases c12 : 0 ≤ a1
       ·rw [if_pos c12] at H
        have c12b0 := eq_true c12
        have c12b1 : decide (0 ≤ a1) = true := decide_eq_true c12
        clear c12
        by_cases c13 : a1 ≤ x1_1
        ·rw [if_pos c13] at H
         have c13b0 := eq_true c13
         have c13b1 : decide (a1 ≤ x1_1) = true := decide_eq_true c13
         clear c13
         by_cases c14 : x1_1 ≤ (a0.size : Int)
         ·rw [if_pos c14] at H
          have c14b0 := eq_true c14
          have c14b1 : decide (x1_1 ≤ (a0.size : Int)) = true := decide_eq_true c14
          clear c14
          simp only [Option.some.injEq, Prod.mk.injEq] at H
          obtain ⟨rfl, rfl⟩ := H
          have p5 : 0 ≤ (x1_1 : Int) := of_decide_eq_true (by first | (with_reducible assumption) | assumption)
          have q5 : x1_1 < (a0.size : Int) := of_decide_eq_true (by first | (with_reducible assumption) | assumption)
          have hx5 := bt_at a0 x1_1
          replace p5 := eq_true p5
          replace q5 := eq_true q5
          have p10 : 0 ≤ (x1_1 : Int) := of_decide_eq_true (by first | (with_reducible assumption) | assumption)
          have q10 : x1_1 < (a0.size : Int) := of_decide_eq_true (by first | (with_reducible assumption) | assumption)
          have hx10 := bt_at a0 x1_1
          replace p10 := eq_true p10
          replace q10 := eq_true q10
          go_wp2
          repeat (go_quiet (fail); try go_wp2)
          go_ret2
          exact ⟨by first | rfl | (simp; done) | (simp [*]; done), by repeat (first | exact Drawn0.refl _ | apply Drawn0.step)⟩
         ·rw [if_neg c14] at H
          exact absurd H (by simp)
        ·rw [if_neg c13] at H
         exact absurd H (by simp)
       ·rw [if_neg c12] at H
        exact absurd H (by simp)
      ·rw [if_neg c11] at H
       have c11b0 : decide (122 < (bt a0 x1_1)) = false := decide_eq_false c11
       clear c11
       have H' := Aside0.mk H
       clear H
       have p5 : 0 ≤ (x1_1 : Int) := of_decide_eq_true (by first | (with_reducible assumption) | assumption)
       have q5 : x1_1 < (a0.size : Int) := of_decide_eq_true (by first | (with_reducible assumption) | assumption)
       have hx5 := bt_at a0 x1_1
       replace p5 := eq_true p5
       replace q5 := eq_true q5
       have p10 : 0 ≤ (x1_1 : Int) := of_decide_eq_true (by first | (with_reducible assumption) | assumption)
       have q10 : x1_1 < (a0.size : Int) := of_decide_eq_true (by first | (with_reducible assumption) | assumption)
       have hx10 := bt_at a0 x1_1
       replace p10 := eq_true p10
       replace q10 := eq_true q10
       go_wp2
       repeat (go_quiet (fail); try go_wp2)
       go_roundg k1
       case measure => have := HK1.out; omega
       case rel => exact ⟨(wrap64 (x1_1 + 1)), (by first | rfl | (simp; done) | (simp [*]; done)), H', ⟨by have := HK1.out; omega⟩, by repeat (first | exact Drawn0.refl _ | apply Drawn0.step)⟩
    ·rw [if_neg c4] at H
     exact absurd H (by simp)
   ·rw [if_neg c3] at H
    have c3b0 : decide (x1_1 < (a0.size : Int)) = false := decide_eq_false c3
    clear c3
    by_cases c15 : 0 ≤ a1
    ·rw [if_pos c15] at H
     have c15b0 := eq_true c15
     have c15b1 : decide (0 ≤ a1) = true := decide_eq_true c15
     clear c15
     by_cases c16 : a1 ≤ (a0.size : Int)
     ·rw [if_pos c16] at H
      have c16b0 := eq_true c16
      have c16b1 : decide (a1 ≤ (a0.size : Int)) = true := decide_eq_true c16
      clear c16
      simp only [Option.some.injEq, Prod.mk.injEq] at H
      obtain ⟨rfl, rfl⟩ := H
      go_wp2
      repeat (go_quiet (fail); try go_wp2)
      go_ret2
      exact ⟨by first | rfl | (simp; done) | (simp [*]; done), by repeat (first | exact Drawn0.refl _ | apply Drawn0.step)⟩
     ·rw [if_neg c16] at H
      exact absurd H (by simp)
    ·rw [if_neg c15] at H
     exact absurd H (by simp)
end Go.Proofs.YtgiioglmkogpkaaGreatDoor.M
namespace Go.Proofs.YtgiioglmkogpkaaGreatDoor.M
open Go.RowKit Go.Proofs.YtgiioglmkogpkaaGreatDoorW.PrintWords Go.Proofs.YtgiioglmkogpkaaGreatDoorW.PrintLast Go.Proofs.YtgiioglmkogpkaaGreatDoorW.PrintMore
set_option maxHeartbeats 8000000
set_option maxRecDepth 100000
attribute [local go_sem] max2_int min2_int max_two min_two max_three min_three max_four min_four
def gjson_parseNumber.l0 : Nat → ByteArray → Int → Int → Option (Int × ByteArray)
 | 0, _, _, _ => none
 | k + 1, x0, x1, x6 => if x1 < (x0.size : Int) then (if 0 ≤ x1 then (if (bt x0 x1) ≤ 32 then (if 0 ≤ x6 then (if x6 ≤ x1 then (if x1 ≤ (x0.size : Int) then (some (x1, x0.extract (x6 : Int).toNat (x1 : Int).toNat)) else (none)) else (none)) else (none)) else (if (bt x0 x1) = 44 then (if 0 ≤ x6 then (if x6 ≤ x1 then (if x1 ≤ (x0.size : Int) then (some (x1, x0.extract (x6 : Int).toNat (x1 : Int).toNat)) else (none)) else (none)) else (none)) else (if (bt x0 x1) = 93 then (if 0 ≤ x6 then (if x6 ≤ x1 then (if x1 ≤ (x0.size : Int) then (some (x1, x0.extract (x6 : Int).toNat (x1 : Int).toNat)) else (none)) else (none)) else (none)) else (if (bt x0 x1) = 125 then (if 0 ≤ x6 then (if x6 ≤ x1 then (if x1 ≤ (x0.size : Int) then (some (x1, x0.extract (x6 : Int).toNat (x1 : Int).toNat)) else (none)) else (none)) else (none)) else (gjson_parseNumber.l0 k x0 (wrap64 (x1 + 1)) x6))))) else (none)) else (if 0 ≤ x6 then (if x6 ≤ (x0.size : Int) then (some (x1, x0.extract (x6 : Int).toNat x0.size)) else (none)) else (none))
def gjson_parseNumber.f (k : Nat) (a0 : ByteArray) (a1 : Int) : Option (Int × ByteArray) := gjson_parseNumber.l0 k a0 (wrap64 (a1 + 1)) a1
theorem gjson_parseNumber.calls (k : Nat) (a0 : ByteArray) (a1 : Int) (r1 : Int) (r2 : ByteArray) (w : World) (h : gjson_parseNumber.f k a0 a1 = some (r1, r2)) :
  Calls Tryz.prog 90 #[.string a0, .int .i64 a1] w fun e w' => e = .returned (.tuple #[.int .i64 r1, .string r2]) ∧ Drawn0 w w' := by
 have H : (gjson_parseNumber.l0 k a0 (wrap64 (a1 + 1)) a1) = some (r1, r2) := h
 clear h
 have H' := Aside0.mk H
 clear H
 go_enter Tryz.func90, Tryz.ntmps90
 go_wp2
 repeat (go_quiet (fail); try go_wp2)
 go_loopg [1] k (fun kq v1 w' => ∃ (x1_1 : Int), v1 = .int .i64 x1_1 ∧ Aside0 (gjson_parseNumber.l0 kq a0 x1_1 a1 = some (r1, r2)) ∧ Aside0 (kq ≤ k) ∧ Drawn0 w w')
 case atStart => exact ⟨(wrap64 (a1 + 1)), (by first | rfl | (simp; done) | (simp [*]; done)), H', ⟨Nat.le_refl _⟩, by repeat (first | exact Drawn0.refl _ | apply Drawn0.step)⟩
 case round =>
  clear H'
  try clear p2
  obtain ⟨x1_1, rfl, HA, HK1, ⟨m1, rfl⟩⟩ := hrel
  cases gk with
  | zero => exact absurd HA.out (by simp [gjson_parseNumber.l0])
  | succ k1 =>
   have H := HA.out
   clear HA
   simp only [gjson_parseNumber.l0] at H
   by_cases c3 : x1_1 < (a0.size : Int)
   ·rw [if_pos c3] at H
    have c3b0 : decide (x1_1 < (a0.size : Int)) = true := decide_eq_true c3
    clear c3
    by_cases c4 : 0 ≤ x1_1
    ·rw [if_pos c4] at H
     have c4b0 : decide (0 ≤ x1_1) = true := decide_eq_true c4
     clear c4
     by_cases c6 : (bt a0 x1_1) ≤ 32
     ·rw [if_pos c6] at H
      have c6b0 : decide ((bt a0 x1_1) ≤ 32) = true := decide_eq_true c6
      clear c6
      by_cases c7 : 0 ≤ a1
      ·rw [if_pos c7] at H
       have c7b0 := eq_true c7
       have c7b1 : decide (0 ≤ a1) = true := decide_eq_true c7
       clear c7
       by_cases c8 : a1 ≤ x1_1
       ·rw [if_pos c8] at H
        have c8b0 := eq_true c8
        have c8b1 : decide (a1 ≤ x1_1) = true := decide_eq_true c8
        clear c8
        by_cases c9 : x1_1 ≤ (a0.size : Int)
        ·rw [if_pos c9] at H
         have c9b0 := eq_true c9
         have c9b1 : decide (x1_1 ≤ (a0.size : Int)) = true := decide_eq_true c9
         clear c9
         simp only [Option.some.injEq, Prod.mk.injEq] at H
         obtain ⟨rfl, rfl⟩ := H
         have p5 : 0 ≤ (x1_1 : Int) := of_decide_eq_true (by first | (with_reducible assumption) | assumption)
         have q5 : x1_1 < (a0.size : Int) := of_decide_eq_true (by first | (with_reducible assumption) | assumption)
         have hx5 := bt_at a0 x1_1
         replace p5 := eq_true p5
         replace q5 := eq_true q5
         go_wp2
         repeat (go_quiet (fail); try go_wp2)
         go_ret2
         exact ⟨by first | rfl | (simp; done) | (simp [*]; done), by repeat (first | exact Drawn0.refl _ | apply Drawn0.step)⟩
        ·rw [if_neg c9] at H
         exact absurd H (by simp)
       ·rw [if_neg c8] at H
        exact absurd H (by simp)
      ·rw [if_neg c7] at H
       exact absurd H (by simp)
     ·rw [if_neg c6] at H
      have c6b0 : decide ((bt a0 x1_1) ≤ 32) = false := decide_eq_false c6
      clear c6
      by_cases c11 : (bt a0 x1_1) = 44
      ·rw [if_pos c11] at H
       have c11b0 : ((bt a0 x1_1) == 44) = true := beq_iff_eq.mpr c11
       have c11b1 : ((bt a0 x1_1) != 44) = false := bne_eq_false_iff_eq.mpr c11
       clear c11
       by_cases c12 : 0 ≤ a1
       ·rw [if_pos c12] at H
        have c12b0 := eq_true c12
        have c12b1 : decide (0 ≤ a1) = true := decide_eq_true c12
        clear c12
        by_cases c13 : a1 ≤ x1_1
        ·rw [if_pos c13] at H
         have c13b0 := eq_true c13
         have c13b1 : decide (a1 ≤ x1_1) = true := decide_eq_true c13
         clear c13
         by_cases c14 : x1_1 ≤ (a0.size : Int)
         ·rw [if_pos c14] at H
          have c14b0 := eq_true c14
          have c14b1 : decide (x1_1 ≤ (a0.size : Int)) = true := decide_eq_true c14
          clear c14
          simp only [Option.some.injEq, Prod.mk.injEq] at H
          obtain ⟨rfl, rfl⟩ := H
          have p5 : 0 ≤ (x1_1 : Int) := of_decide_eq_true (by first | (with_reducible assumption) | assumption)
          have q5 : x1_1 < (a0.size : Int) := of_decide_eq_true (by first | (with_reducible assumption) | assumption)
          have hx5 := bt_at a0 x1_1
          replace p5 := eq_true p5
          replace q5 := eq_true q5
          have p10 : 0 ≤ (x1_1 : Int) := of_decide_eq_true (by first | (with_reducible assumption) | assumption)
          have q10 : x1_1 < (a0.size : Int) := of_decide_eq_true (by first | (with_reducible assumption) | assumption)
          have hx10 := bt_at a0 x1_1
          replace p10 := eq_true p10
          replace q10 := eq_true q10
          go_wp2
          repeat (go_quiet (fail); try go_wp2)
          go_ret2
          exact ⟨by first | rfl | (simp; done) | (simp [*]; done), by repeat (first | exact Drawn0.refl _ | apply Drawn0.step)⟩
         ·rw [if_neg c14] at H
          exact absurd H (by simp)
        ·rw [if_neg c13] at H
         exact absurd H (by simp)
       ·rw [if_neg c12] at H
        exact absurd H (by simp)
      ·rw [if_neg c11] at H
       have c11b0 : ((bt a0 x1_1) == 44) = false := beq_eq_false_iff_ne.mpr c11
       have c11b1 : ((bt a0 x1_1) != 44) = true := bne_iff_ne.mpr c11
       by_cases c16 : (bt a0 x1_1) = 93
       ·rw [if_pos c16] at H
        have c16b0 : ((bt a0 x1_1) == 93) = true := beq_iff_eq.mpr c16
        have c16b1 : ((bt a0 x1_1) != 93) = false := bne_eq_false_iff_eq.mpr c16
        clear c16
        by_cases c17 : 0 ≤ a1
        ·rw [if_pos c17] at H
         have c17b0 := eq_true c17
         have c17b1 : decide (0 ≤ a1) = true := decide_eq_true c17
         clear c17
         by_cases c18 : a1 ≤ x1_1
         ·rw [if_pos c18] at H
          have c18b0 := eq_true c18
          have c18b1 : decide (a1 ≤ x1_1) = true := decide_eq_true c18
          clear c18
          by_cases c19 : x1_1 ≤ (a0.size : Int)
          ·rw [if_pos c19] at H
           have c19b0 := eq_true c19
           have c19b1 : decide (x1_1 ≤ (a0.size : Int)) = true := decide_eq_true c19
           clear c19
           simp only [Option.some.injEq, Prod.mk.injEq] at H
           obtain ⟨rfl, rfl⟩ := H
           have p5 : 0 ≤ (x1_1 : Int) := of_decide_eq_true (by first | (with_reducible assumption) | assumption)
           have q5 : x1_1 < (a0.size : Int) := of_decide_eq_true (by first | (with_reducible assumption) | assumption)
           have hx5 := bt_at a0 x1_1
           replace p5 := eq_true p5
           replace q5 := eq_true q5
           have p10 : 0 ≤ (x1_1 : Int) := of_decide_eq_true (by first | (with_reducible assumption) | assumption)
           have q10 : x1_1 < (a0.size : Int) := of_decide_eq_true (by first | (with_reducible assumption) | assumption)
           have hx10 := bt_at a0 x1_1
           replace p10 := eq_true p10
           replace q10 := eq_true q10
           have p15 : 0 ≤ (x1_1 : Int) := of_decide_eq_true (by first | (with_reducible assumption) | assumption)
           have q15 : x1_1 < (a0.size : Int) := of_decide_eq_true (by first | (with_reducible assumption) | assumption)
           have hx15 := bt_at a0 x1_1
           replace p15 := eq_true p15
           replace q15 := eq_true q15
           go_wp2
           repeat (go_quiet (fail); try go_wp2)
           go_ret2
           exact ⟨by first | rfl | (simp; done) | (simp [*]; done), by repeat (first | exact Drawn0.refl _ | apply Drawn0.step)⟩
          ·rw [if_neg c19] at H
           exact absurd H (by simp)
         ·rw [if_neg c18] at H
          exact absurd H (by simp)
        ·rw [if_neg c17] at H
         exact absurd H (by simp)
       ·rw [if_neg c16] at H
        have c16b0 : ((bt a0 x1_1) == 93) = false := beq_eq_false_iff_ne.mpr c16
        have c16b1 : ((bt a0 x1_1) != 93) = true := bne_iff_ne.mpr c16
        by_cases c21 : (bt a0 x1_1) = 125
        ·rw [if_pos c21] at H
         have c21b0 : ((bt a0 x1_1) == 125) = true := beq_iff_eq.mpr c21
         have c21b1 : ((bt a0 x1_1) != 125) = false := bne_eq_false_iff_eq.mpr c21
         clear c21
         by_cases c22 : 0 ≤ a1
         ·rw [if_pos c22] at H
          have c22b0 := eq_true c22
          have c22b1 : decide (0 ≤ a1) = true := decide_eq_true c22
          clear c22
          by_cases c23 : a1 ≤ x1_1
          ·rw [if_pos c23] at H
           have c23b0 := eq_true c23
           have c23b1 : decide (a1 ≤ x1_1) = true := decide_eq_true c23
           clear c23
           by_cases c24 : x1_1 ≤ (a0.size : Int)
           ·rw [if_pos c24] at H
            have c24b0 := eq_true c24
            have c24b1 : decide (x1_1 ≤ (a0.size : Int)) = true := decide_eq_true c24
            clear c24
            simp only [Option.some.injEq, Prod.mk.injEq] at H
            obtain ⟨rfl, rfl⟩ := H
            have p5 : 0 ≤ (x1_1 : Int) := of_decide_eq_true (by first | (with_reducible assumption) | assumption)
            have q5 : x1_1 < (a0.size : Int) := of_decide_eq_true (by first | (with_reducible assumption) | assumption)
            have hx5 := bt_at a0 x1_1
            replace p5 := eq_true p5
            replace q5 := eq_true q5
            have p10 : 0 ≤ (x1_1 : Int) := of_decide_eq_true (by first | (with_reducible assumption) | assumption)
            have q10 : x1_1 < (a0.size : Int) := of_decide_eq_true (by first | (with_reducible assumption) | assumption)
            have hx10 := bt_at a0 x1_1
            replace p10 := eq_true p10
            replace q10 := eq_true q10
            have p15 : 0 ≤ (x1_1 : Int) := of_decide_eq_true (by first | (with_reducible assumption) | assumption)
            have q15 : x1_1 < (a0.size : Int) := of_decide_eq_true (by first | (with_reducible assumption) | assumption)
            have hx15 := bt_at a0 x1_1
            replace p15 := eq_true p15
            replace q15 := eq_true q15
            have p20 : 0 ≤ (x1_1 : Int) := of_decide_eq_true (by first | (with_reducible assumption) | assumption)
            have q20 : x1_1 < (a0.size : Int) := of_decide_eq_true (by first | (with_reducible assumption) | assumption)
            have hx20 := bt_at a0 x1_1
            replace p20 := eq_true p20
            replace q20 := eq_true q20
            go_wp2
            repeat (go_quiet (fail); try go_wp2)
            go_ret2
            exact ⟨by first | rfl | (simp; done) | (simp [*]; done), by repeat (first | exact Drawn0.refl _ | apply Drawn0.step)⟩
           ·rw [if_neg c24] at H
            exact absurd H (by simp)
          ·rw [if_neg c23] at H
           exact absurd H (by simp)
         ·rw [if_neg c22] at H
          exact absurd H (by simp)
        ·rw [if_neg c21] at H
         have c21b0 : ((bt a0 x1_1) == 125) = false := beq_eq_false_iff_ne.mpr c21
         have c21b1 : ((bt a0 x1_1) != 125) = true := bne_iff_ne.mpr c21
         have H' := Aside0.mk H
         clear H
         have p5 : 0 ≤ (x1_1 : Int) := of_decide_eq_true (by first | (with_reducible assumption) | assumption)
         have q5 : x1_1 < (a0.size : Int) := of_decide_eq_true (by first | (with_reducible assumption) | assumption)
         have hx5 := bt_at a0 x1_1
         replace p5 := eq_true p5
         replace q5 := eq_true q5
         have p10 : 0 ≤ (x1_1 : Int) := of_decide_eq_true (by first | (with_reducible assumption) | assumption)
         have q10 : x1_1 < (a0.size : Int) := of_decide_eq_true (by first | (with_reducible assumption) | assumption)
         have hx10 := bt_at a0 x1_1
         replace p10 := eq_true p10
         replace q10 := eq_true q10
         have p15 : 0 ≤ (x1_1 : Int) := of_decide_eq_true (by first | (with_reducible assumption) | assumption)
         have q15 : x1_1 < (a0.size : Int) := of_decide_eq_true (by first | (with_reducible assumption) | assumption)
         have hx15 := bt_at a0 x1_1
         replace p15 := eq_true p15
         replace q15 := eq_true q15
         have p20 : 0 ≤ (x1_1 : Int) := of_decide_eq_true (by first | (with_reducible assumption) | assumption)
         have q20 : x1_1 < (a0.size : Int) := of_decide_eq_true (by first | (with_reducible assumption) | assumption)
         have hx20 := bt_at a0 x1_1
         replace p20 := eq_true p20
         replace q20 := eq_true q20
         go_wp2
         repeat (go_quiet (fail); try go_wp2)
         go_roundg k1
         case measure => have := HK1.out; omega
         case rel => exact ⟨(wrap64 (x1_1 + 1)), (by first | rfl | (simp; done) | (simp [*]; done)), H', ⟨by have := HK1.out; omega⟩, by repeat (first | exact Drawn0.refl _ | apply Drawn0.step)⟩
    ·rw [if_neg c4] at H
     exact absurd H (by simp)
   ·rw [if_neg c3] at H
    have c3b0 : decide (x1_1 < (a0.size : Int)) = false := decide_eq_false c3
    clear c3
    by_cases c25 : 0 ≤ a1
    ·rw [if_pos c25] at H
     have c25b0 := eq_true c25
     have c25b1 : decide (0 ≤ a1) = true := decide_eq_true c25
     clear c25
     by_cases c26 : a1 ≤ (a0.size : Int)
     ·rw [if_pos c26] at H
      have c26b0 := eq_true c26
      have c26b1 : decide (a1 ≤ (a0.size : Int)) = true := decide_eq_true c26
      clear c26
      simp only [Option.some.injEq, Prod.mk.injEq] at H
      obtain ⟨rfl, rfl⟩ := H
      go_wp2
      repeat (go_quiet (fail); try go_wp2)
      go_ret2
      exact ⟨by first | rfl | (simp; done) | (simp [*]; done), by repeat (first | exact Drawn0.refl _ | apply Drawn0.step)⟩
     ·rw [if_neg c26] at H
      exact absurd H (by simp)
    ·rw [if_neg c25] at H
     exact absurd H (by simp)
end Go.Proofs.YtgiioglmkogpkaaGreatDoor.M
namespace Go.Proofs.YtgiioglmkogpkaaGreatDoor.V
open Go.RowKit Go.Proofs.YtgiioglmkogpkaaGreatDoorW.PrintWords Go.Proofs.YtgiioglmkogpkaaGreatDoorW.PrintLast Go.Proofs.YtgiioglmkogpkaaGreatDoorW.PrintMore
open M L
def Tv (s : ByteArray) (e : Int) : Prop := e < s.size → bt s e ≤ 32 ∨ bt s e = 44 ∨ bt s e = 93 ∨ bt s e = 125
theorem Tv_of_Bl {s : ByteArray} {a b : Int} (h : Bl s a b) (hb : bt s b = 93 ∨ bt s b = 44 ∨ bt s b = 125) : Tv s a := by
 intro ha
 by_cases e : a = b
 ·subst e; omega
 ·have := h.2 a (by omega) (by have := h.1; omega)
  unfold isB at this
  omega
theorem pn_l0 (s : ByteArray) (hz : s.size ≤ 65536) (p e : Int) (h0 : 0 ≤ p) (he : e ≤ s.size) (ht : Tv s e) : ∀ (d : Nat) (x : Int), p ≤ x → x + d = e → (∀ i, x ≤ i → i < e → NC (bt s i)) → Ev (fun k => gjson_parseNumber.l0 k s x p) (e, s.extract p.toNat e.toNat) := by
 intro d
 induction d with
 | zero =>
  intro x hx hd _
  obtain rfl : x = e := by omega
  by_cases hs : x < s.size
  ·refine Ev.step (f := fun _ => some (x, s.extract p.toNat x.toNat)) (fun k => ?_) (Ev.now _)
   simp only [gjson_parseNumber.l0]; rw [if_pos hs, if_pos (by omega)]
   by_cases c1 : bt s x ≤ 32
   ·rw [if_pos c1, if_pos h0, if_pos hx, if_pos he]
   rw [if_neg c1]
   by_cases c2 : bt s x = 44
   ·rw [if_pos c2, if_pos h0, if_pos hx, if_pos he]
   rw [if_neg c2]
   by_cases c3 : bt s x = 93
   ·rw [if_pos c3, if_pos h0, if_pos hx, if_pos he]
   rw [if_neg c3, if_pos (by have := ht hs; omega), if_pos h0, if_pos hx, if_pos he]
  ·obtain rfl : x = s.size := by omega
   refine Ev.step (f := fun _ => some ((s.size : Int), s.extract p.toNat ((s.size : Int)).toNat)) (fun k => ?_) (Ev.now _)
   simp only [gjson_parseNumber.l0]; rw [if_neg hs, if_pos h0, if_pos hx, Int.toNat_natCast]
 | succ d ih =>
  intro x hx hd h
  have hc := h x (by omega) (by omega)
  unfold NC dig at hc
  refine Ev.step (f := fun k => gjson_parseNumber.l0 k s (x + 1) p) (fun k => ?_) (ih (x + 1) (by omega) (by omega) (fun i a b => h i (by omega) b))
  simp only [gjson_parseNumber.l0]; rw [if_pos (by omega), if_pos (by omega), if_neg (by omega), if_neg (by omega), if_neg (by omega), if_neg (by omega), w64 (by omega) (by omega)]
theorem pn_ev (s : ByteArray) (hz : s.size ≤ 65536) (p e : Int) (h0 : 0 ≤ p) (h : NumG s p e) (ht : Tv s e) : Ev (fun k => gjson_parseNumber.f k s p) (e, s.extract p.toNat e.toNat) := by
 obtain ⟨_, k1, k2, _⟩ := (G.num p e h0 h).ok
 dsimp only at k1 k2
 refine Ev.congr (fun k => ?_) (pn_l0 s hz p e h0 k2 ht (e - (p + 1)).toNat (p + 1) (by omega) (by omega) (fun i a b => h.nc i (by omega) b))
 simp only [gjson_parseNumber.f]; rw [w64 (by omega) (by omega)]
theorem pl_l0 (s : ByteArray) (hz : s.size ≤ 65536) (p e : Int) (h0 : 0 ≤ p) (he : e ≤ s.size) (ht : Tv s e) : ∀ (d : Nat) (x : Int), p ≤ x → x + d = e → (∀ i, x ≤ i → i < e → 97 ≤ bt s i ∧ bt s i ≤ 122) → Ev (fun k => gjson_parseLiteral.l0 k s x p) (e, s.extract p.toNat e.toNat) := by
 intro d
 induction d with
 | zero =>
  intro x hx hd _
  obtain rfl : x = e := by omega
  by_cases hs : x < s.size
  ·refine Ev.step (f := fun _ => some (x, s.extract p.toNat x.toNat)) (fun k => ?_) (Ev.now _)
   simp only [gjson_parseLiteral.l0]; rw [if_pos hs, if_pos (by omega)]
   by_cases c1 : bt s x < 97
   ·rw [if_pos c1, if_pos h0, if_pos hx, if_pos he]
   rw [if_neg c1, if_pos (by have := ht hs; omega), if_pos h0, if_pos hx, if_pos he]
  ·obtain rfl : x = s.size := by omega
   refine Ev.step (f := fun _ => some ((s.size : Int), s.extract p.toNat ((s.size : Int)).toNat)) (fun k => ?_) (Ev.now _)
   simp only [gjson_parseLiteral.l0]; rw [if_neg hs, if_pos h0, if_pos hx, Int.toNat_natCast]
 | succ d ih =>
  intro x hx hd h
  have hc := h x (by omega) (by omega)
  refine Ev.step (f := fun k => gjson_parseLiteral.l0 k s (x + 1) p) (fun k => ?_) (ih (x + 1) (by omega) (by omega) (fun i a b => h i (by omega) b))
  simp only [gjson_parseLiteral.l0]; rw [if_pos (by omega), if_pos (by omega), if_neg (by omega), if_neg (by omega), w64 (by omega) (by omega)]
theorem plit_ev (s : ByteArray) (hz : s.size ≤ 65536) (p e : Int) (h0 : 0 ≤ p) (hpe : p < e) (he : e ≤ s.size) (h : ∀ i, p ≤ i → i < e → 97 ≤ bt s i ∧ bt s i ≤ 122) (ht : Tv s e) : Ev (fun k => gjson_parseLiteral.f k s p) (e, s.extract p.toNat e.toNat) := by
 refine Ev.congr (fun k => ?_) (pl_l0 s hz p e h0 he ht (e - (p + 1)).toNat (p + 1) (by omega) (by omega) (fun i a b => h i (by omega) b))
 simp only [gjson_parseLiteral.f]; rw [w64 (by omega) (by omega)]
def Run (s : ByteArray) (p x N : Int) : Prop := 0 ≤ N ∧ p < x - N ∧ (∀ t, x - N ≤ t → t < x → bt s t = 92) ∧ bt s (x - N - 1) ≠ 92
theorem Run.zero {s : ByteArray} {p x : Int} (hp : p < x) (h : bt s (x - 1) ≠ 92) : Run s p x 0 := ⟨by omega, by omega, fun t a b => by omega, by rw [show x - 0 - 1 = x - 1 by omega]; exact h⟩
theorem Run.succ {s : ByteArray} {p x N : Int} (h : Run s p x N) (hx : bt s x = 92) : Run s p (x + 1) (N + 1) := by
 obtain ⟨a, b, c, d⟩ := h
 refine ⟨by omega, by omega, fun t y z => ?_, by rw [show x + 1 - (N + 1) - 1 = x - N - 1 by omega]; exact d⟩
 by_cases q : t = x
 ·rw [q]; exact hx
 ·exact c t (by omega) (by omega)
theorem hex_ne {s : ByteArray} {i : Int} (h : (hexv (bt s i)).isSome = true) : bt s i ≠ 34 ∧ bt s i ≠ 92 := by
 constructor
 ·intro q; rw [q] at h; simp [hexv] at h
 ·intro q; rw [q] at h; simp [hexv] at h
def Quo (s : ByteArray) (p j i : Int) : Prop := ∀ x, i ≤ x → x ≤ j → bt s x = 34 → ∃ N, Run s p x N ∧ (N % 2 = 0 ↔ x = j)
theorem bod_quo {s : ByteArray} {p j i : Int} (h : Bod s j i) : ∀ N, Run s p i N → N % 2 = 0 → Quo s p j i := by
 induction h with
 | nil => intro N hN h2 x h3 h4 h5; exact ⟨N, by rwa [show x = j by omega], by constructor <;> omega⟩
 | plain i a b c d e ih =>
  intro N hN h2 x h3 h4 h5
  by_cases q : x = i
  ·subst q; exact absurd h5 b
  ·exact ih 0 (Run.zero (by have := hN.1; have := hN.2.1; omega) (by rw [show i + 1 - 1 = i by omega]; exact c)) (by omega) x (by omega) h4 h5
 | esc i a b c d ih =>
  intro N hN h2 x h3 h4 h5
  have r1 := hN.succ b
  by_cases q : x = i
  ·subst q; omega
  by_cases q2 : x = i + 1
  ·subst q2; exact ⟨N + 1, r1, by constructor <;> omega⟩
  by_cases q3 : bt s (i + 1) = 92
  ·have r2 := r1.succ q3
   rw [show i + 1 + 1 = i + 2 by omega] at r2
   exact ih _ r2 (by omega) x (by omega) h4 h5
  ·exact ih 0 (Run.zero (by have := hN.1; have := hN.2.1; omega) (by rw [show i + 2 - 1 = i + 1 by omega]; exact q3)) (by omega) x (by omega) h4 h5
 | uni i a b c d e ih =>
  intro N hN h2 x h3 h4 h5
  by_cases q : x = i
  ·subst q; omega
  by_cases q2 : x = i + 1
  ·subst q2; omega
  by_cases q3 : x < i + 6
  ·exact absurd h5 (hex_ne (d x (by omega) (by omega))).1
  ·exact ih 0 (Run.zero (by have := hN.1; have := hN.2.1; omega) (by rw [show i + 6 - 1 = i + 5 by omega]; exact (hex_ne (d (i + 5) (by omega) (by omega))).2)) (by omega) x (by omega) h4 h5
theorem str_quo {s : ByteArray} {p e : Int} (h : Str s p e) : Quo s p (e - 1) (p + 1) := by
 obtain ⟨h0, h34, j, rfl, h1, h2, h3, h4⟩ := h
 rw [show j + 1 - 1 = j by omega]
 exact bod_quo h4 0 (Run.zero (by omega) (by rw [show p + 1 - 1 = p by omega]; omega)) (by omega)
theorem ps_l2 (s : ByteArray) (hz : s.size ≤ 65536) (p x N : Int) (h0 : 0 ≤ p) (hx : x < s.size) (h34 : bt s p = 34) (hR : Run s p x N) (hN : 1 ≤ N) {r : Int × ByteArray × Bool × Bool}
  (hk : Ev (fun k => if Int.tmod (N - 1) 2 = 0 then (gjson_parseString.l1 k s (wrap64 (x + 1)) (p + 1)) else (if 0 ≤ (wrap64 (p + 1 - 1)) then (if (wrap64 (p + 1 - 1)) ≤ (wrap64 (x + 1)) then (if (wrap64 (x + 1)) ≤ (s.size : Int) then (some (wrap64 (x + 1), s.extract ((wrap64 (p + 1 - 1)) : Int).toNat ((wrap64 (x + 1)) : Int).toNat, true, true)) else (none)) else (none)) else (none))) r) :
  ∀ (d : Nat) (c : Int), 0 ≤ c → c + d = N - 1 → Ev (fun k => gjson_parseString.l2 k s x (p + 1) c (x - 2 - c)) r := by
 obtain ⟨r1, r2, r3, r4⟩ := hR
 intro d
 induction d with
 | zero =>
  intro c hc hd
  obtain rfl : c = N - 1 := by omega
  by_cases q : x - 2 - (N - 1) > 0
  ·refine Ev.step (fun k => ?_) hk
   simp only [gjson_parseString.l2]; rw [if_pos q, if_pos (by omega), if_pos (by omega), if_neg (by rw [show x - 2 - (N - 1) = x - N - 1 by omega]; exact r4)]
  ·refine Ev.step (fun k => ?_) hk
   simp only [gjson_parseString.l2]; rw [if_neg q]
 | succ d ih =>
  intro c hc hd
  refine Ev.step (f := fun k => gjson_parseString.l2 k s x (p + 1) (c + 1) (x - 2 - (c + 1))) (fun k => ?_) (ih (c + 1) (by omega) (by omega))
  simp only [gjson_parseString.l2]; rw [if_pos (by omega), if_pos (by omega), if_pos (by omega), if_pos (r3 _ (by omega) (by omega)), w64 (by omega) (by omega), w64 (by omega) (by omega), show x - 2 - c - 1 = x - 2 - (c + 1) by omega]
theorem ps_l1 (s : ByteArray) (hz : s.size ≤ 65536) (p j : Int) (h0 : 0 ≤ p) (h34 : bt s p = 34) (hj : j < s.size) (hj34 : bt s j = 34) (hQ : Quo s p j (p + 1)) : ∀ (d : Nat) (x : Int), p + 1 ≤ x → x + d = j → Ev (fun k => gjson_parseString.l1 k s x (p + 1)) (j + 1, s.extract p.toNat (j + 1).toNat, true, true) := by
 have hend : ∀ x, p + 1 ≤ x → x < s.size → ∀ (N : Int), Run s p x N → bt s x = 34 → ∀ {r : Int × ByteArray × Bool × Bool},
   Ev (fun k => if N = 0 ∨ ¬ Int.tmod (N - 1) 2 = 0 then some (x + 1, s.extract p.toNat (x + 1).toNat, true, true) else gjson_parseString.l1 k s (x + 1) (p + 1)) r → Ev (fun k => gjson_parseString.l1 k s x (p + 1)) r := by
  intro x hx hs N hR h3 r hk
  have hR' := hR
  obtain ⟨r1, r2, r3, r4⟩ := hR
  by_cases q : N = 0
  ·subst q
   refine Ev.step (fun k => ?_) hk
   rw [show x - 0 - 1 = x - 1 by omega] at r4
   simp only [gjson_parseString.l1]; rw [if_pos hs, if_pos (by omega), if_neg (by omega), if_pos h3, w64 (x := x - 1) (by omega) (by omega), if_pos (by omega), if_pos (by omega), if_neg r4, w64 (x := p + 1 - 1) (by omega) (by omega), w64 (x := x + 1) (by omega) (by omega), if_pos (by omega), if_pos (by omega), if_pos (by omega), show p + 1 - 1 = p by omega, if_pos (by simp)]
  ·have k2 := ps_l2 s hz p x N h0 hs h34 hR' (by omega) (r := r) (Ev.congr (fun k => ?_) hk) (N - 1).toNat 0 (by omega) (by omega)
   ·refine Ev.step (fun k => ?_) k2
    simp only [gjson_parseString.l1]; rw [if_pos hs, if_pos (by omega), if_neg (by omega), if_pos h3, w64 (x := x - 1) (by omega) (by omega), if_pos (by omega), if_pos (by omega), if_pos (r3 _ (by omega) (by omega)), w64 (x := x - 2) (by omega) (by omega), show x - 2 - 0 = x - 2 by omega]
   ·by_cases q2 : Int.tmod (N - 1) 2 = 0
    ·rw [if_pos q2, if_neg (by omega), w64 (by omega) (by omega)]
    ·rw [if_neg q2, w64 (x := p + 1 - 1) (by omega) (by omega), w64 (x := x + 1) (by omega) (by omega), if_pos (by omega), if_pos (by omega), if_pos (by omega), show p + 1 - 1 = p by omega, if_pos (.inr q2)]
 have td : ∀ N : Int, 1 ≤ N → Int.tmod (N - 1) 2 = (N - 1) % 2 := fun N h => Int.tmod_eq_emod_of_nonneg (by omega)
 intro d
 induction d with
 | zero =>
  intro x hx hd
  obtain rfl : x = j := by omega
  obtain ⟨N, hR, hN⟩ := hQ x hx (by omega) hj34
  refine hend x hx hj N hR hj34 (Ev.congr (fun k => ?_) (Ev.now _))
  have := hN.2 rfl
  rw [if_pos]
  by_cases q : N = 0
  ·exact .inl q
  ·exact .inr (by rw [td N (by have := hR.1; omega)]; omega)
 | succ d ih =>
  intro x hx hd
  by_cases c34 : bt s x = 34
  ·obtain ⟨N, hR, hN⟩ := hQ x hx (by omega) c34
   refine hend x hx (by omega) N hR c34 (Ev.congr (fun k => ?_) (ih (x + 1) (by omega) (by omega)))
   have h1 : N % 2 ≠ 0 := fun q => by have := hN.1 q; omega
   rw [if_neg]
   have hN0 : N ≠ 0 := by omega
   rw [td N (by have := hR.1; omega)]
   omega
  ·refine Ev.step (f := fun k => gjson_parseString.l1 k s (x + 1) (p + 1)) (fun k => ?_) (ih (x + 1) (by omega) (by omega))
   simp only [gjson_parseString.l1]; rw [if_pos (by omega), if_pos (by omega), w64 (by omega) (by omega)]
   by_cases c : bt s x > 92
   ·rw [if_pos c]
   ·rw [if_neg c, if_neg c34]
theorem ps_ev (s : ByteArray) (hz : s.size ≤ 65536) (p e : Int) (h : Str s p e) : ∃ v, Ev (fun k => gjson_parseString.f k s (p + 1)) (e, s.extract p.toNat e.toNat, v, true) ∧ (v = false → ∀ i, p + 1 ≤ i → i < e - 1 → bt s i ≠ 92) ∧ (v = true → p + 2 < e) := by
 have hQ := str_quo h
 obtain ⟨h0, h34, j, rfl, h1, h2, h3, h4⟩ := h
 rw [show j + 1 - 1 = j by omega] at hQ ⊢
 have key : ∀ {i : Int}, Bod s j i → p + 1 ≤ i → (∀ t, p + 1 ≤ t → t < i → bt s t ≠ 92) → ∃ v, Ev (fun k => gjson_parseString.l0 k s i (p + 1)) (j + 1, s.extract p.toNat (j + 1).toNat, v, true) ∧ (v = false → ∀ t, p + 1 ≤ t → t < j → bt s t ≠ 92) ∧ (v = true → p + 1 < j) := by
  intro i hb
  have esc : ∀ i, i < j → bt s i = 92 → p + 1 ≤ i → ∃ v, Ev (fun k => gjson_parseString.l0 k s i (p + 1)) (j + 1, s.extract p.toNat (j + 1).toNat, v, true) ∧ (v = false → ∀ t, p + 1 ≤ t → t < j → bt s t ≠ 92) ∧ (v = true → p + 1 < j) := by
   intro i a b hi
   refine ⟨true, Ev.step (f := fun k => gjson_parseString.l1 k s (i + 1) (p + 1)) (fun k => ?_) (ps_l1 s hz p j h0 h34 (by omega) h3 hQ (j - (i + 1)).toNat (i + 1) (by omega) (by omega)), fun q => by (cases q), fun _ => by omega⟩
   simp only [gjson_parseString.l0]; rw [if_pos (by omega), if_pos (by omega), if_neg (by omega), if_neg (by omega), if_pos b, w64 (by omega) (by omega)]
  induction hb with
  | nil =>
   intro hi hn
   refine ⟨false, Ev.step (f := fun _ => some (j + 1, s.extract p.toNat (j + 1).toNat, false, true)) (fun k => ?_) (Ev.now _), fun _ => hn, fun q => by cases q⟩
   simp only [gjson_parseString.l0]; rw [if_pos (by omega), if_pos (by omega), if_neg (by omega), if_pos h3, w64 (x := p + 1 - 1) (by omega) (by omega), w64 (x := j + 1) (by omega) (by omega), if_pos (by omega), if_pos (by omega), if_pos (by omega), show p + 1 - 1 = p by omega]
  | plain i a b c d e ih =>
   intro hi hn
   obtain ⟨v, hv, hv2⟩ := ih (by omega) (fun t x y => by
    by_cases q : t = i
    ·rw [q]; exact c
    ·exact hn t x (by omega))
   refine ⟨v, Ev.step (fun k => ?_) hv, hv2⟩
   simp only [gjson_parseString.l0]; rw [if_pos (by omega), if_pos (by omega), w64 (by omega) (by omega)]
   by_cases q : bt s i > 92
   ·rw [if_pos q]
   ·rw [if_neg q, if_neg b, if_neg c]
  | esc i a b c d ih => intro hi hn; exact esc i (by omega) b hi
  | uni i a b c d e ih => intro hi hn; exact esc i (by omega) b hi
 obtain ⟨v, hv, hv2⟩ := key h4 (by omega) (fun t x y => by omega)
 exact ⟨v, hv, hv2.1, fun q => by have := hv2.2 q; omega⟩
end Go.Proofs.YtgiioglmkogpkaaGreatDoor.V
namespace Go.Proofs.YtgiioglmkogpkaaGreatDoor.V
open Go.RowKit Go.Proofs.YtgiioglmkogpkaaGreatDoorW.PrintWords Go.Proofs.YtgiioglmkogpkaaGreatDoorW.PrintLast Go.Proofs.YtgiioglmkogpkaaGreatDoorW.PrintMore
open M L
def vch (x : Int) : Int := if x = 34 then 2 else if x = 123 ∨ x = 91 ∨ x = 40 then 3 else if x = 125 ∨ x = 93 ∨ x = 41 then 1 else 0
theorem vch_zero {x : Int} (h : x ≠ 34) (h1 : x ≠ 123) (h2 : x ≠ 91) (h3 : x ≠ 40) (h4 : x ≠ 125) (h5 : x ≠ 93) (h6 : x ≠ 41) : vch x = 0 := by
 unfold vch; rw [if_neg h, if_neg (by omega), if_neg (by omega)]
inductive Rem (s : ByteArray) (E : Int) : Int → Int → Prop
 | zero (i d : Int) : vch (bt s i) = 0 → Rem s E (i + 1) d → Rem s E i d
 | str (i j d : Int) : Str s i j → Rem s E j d → Rem s E i d
 | opn (i d : Int) : vch (bt s i) = 3 → Rem s E (i + 1) (d + 1) → Rem s E i d
 | cls (i d : Int) : vch (bt s i) = 1 → 1 < d → Rem s E (i + 1) (d - 1) → Rem s E i d
 | fin (i : Int) : vch (bt s i) = 1 → i + 1 = E → Rem s E i 1
theorem Str.lt {s : ByteArray} {p e : Int} (h : Str s p e) : p + 1 < e ∧ e ≤ s.size := by
 obtain ⟨h0, _, j, rfl, h1, h2, _⟩ := h
 exact ⟨by omega, h2⟩
theorem Rem.lt {s : ByteArray} {E i d : Int} (h : Rem s E i d) : i < E := by
 induction h with
 | zero => omega
 | str i j d h1 h2 ih => have := Str.lt h1; omega
 | opn => omega
 | cls => omega
 | fin => omega
theorem rem_run {s : ByteArray} {E d : Int} : ∀ (n : Nat) (a b : Int), a + n = b → (∀ x, a ≤ x → x < b → vch (bt s x) = 0) → Rem s E b d → Rem s E a d := by
 intro n
 induction n with
 | zero => intro a b h _ r; rwa [show a = b by omega]
 | succ n ih => intro a b h h2 r; exact .zero a d (h2 a (by omega) (by omega)) (ih (a + 1) b (by omega) (fun x p q => h2 x (by omega) q) r)
theorem rem_go {s : ByteArray} {E d a b : Int} (hab : a ≤ b) (h : ∀ x, a ≤ x → x < b → vch (bt s x) = 0) (r : Rem s E b d) : Rem s E a d := rem_run (b - a).toNat a b (by omega) h r
theorem rem_bl {s : ByteArray} {E d a b : Int} (h : Bl s a b) (r : Rem s E b d) : Rem s E a d := rem_go h.1 (fun x p q => by
 have := h.2 x p q
 unfold isB at this
 exact vch_zero (by omega) (by omega) (by omega) (by omega) (by omega) (by omega) (by omega)) r
def Kc (s : ByteArray) (E i d : Int) : Prop := (d = 0 ∧ i = E) ∨ (1 ≤ d ∧ Rem s E i d)
theorem Kc.close {s : ByteArray} {E i d : Int} (h : Kc s E (i + 1) d) (hv : vch (bt s i) = 1) : Rem s E i (d + 1) := by
 rcases h with ⟨rfl, h⟩ | ⟨h1, h2⟩
 ·exact .fin i hv h
 ·exact .cls i (d + 1) hv (by omega) (by rwa [show d + 1 - 1 = d by omega])
def It.rem (s : ByteArray) : It → Prop
 | .val q => (∀ d E, Rem s E q.f2 d → 1 ≤ d → Rem s E q.f1 d) ∧ (q.f0 = 5 ∨ q.f0 = 6 → Rem s q.f2 (q.f1 + 1) 1)
 | .els p C e => ∀ d E, Kc s E e d → Rem s E p (d + 1)
 | .mems p N C e => ∀ d E, Kc s E e d → Rem s E p (d + 1)
theorem comma_zero {s : ByteArray} {E d b : Int} (h : bt s b = 44) (r : Rem s E (b + 1) d) : Rem s E b d := .zero b d (by rw [h]; rfl) r
theorem colon_zero {s : ByteArray} {E d b : Int} (h : bt s b = 58) (r : Rem s E (b + 1) d) : Rem s E b d := .zero b d (by rw [h]; rfl) r
theorem kc_dpos {s : ByteArray} {E e d : Int} (h : Kc s E e d) : 1 ≤ d + 1 := by rcases h with ⟨h, _⟩ | ⟨h, _⟩ <;> omega
theorem G.rem {s : ByteArray} {it : It} (h : G s it) : it.rem s := by
 induction h with
 | num p e h0 h =>
  refine ⟨fun d E r _ => ?_, fun q => by dsimp only at q; omega⟩
  obtain ⟨_, k1, _⟩ := (G.num p e h0 h).ok
  exact rem_go (by dsimp only at k1 ⊢; omega) (fun x a b => by have := h.nc x a b; unfold NC dig at this; exact vch_zero (by omega) (by omega) (by omega) (by omega) (by omega) (by omega) (by omega)) r
 | str p e h => exact ⟨fun d E r _ => .str p e d h r, fun q => by dsimp only at q; omega⟩
 | null p e h0 h =>
  refine ⟨fun d E r _ => ?_, fun q => by dsimp only at q; omega⟩
  obtain ⟨_, k1, _⟩ := (G.null p e h0 h).ok
  exact rem_go (by dsimp only at k1 ⊢; omega) (Wd.byte (P := fun x => vch x = 0) h0 h (fun i hi => by have := wNull_low i hi; exact vch_zero (by omega) (by omega) (by omega) (by omega) (by omega) (by omega) (by omega))) r
 | fals p e h0 h =>
  refine ⟨fun d E r _ => ?_, fun q => by dsimp only at q; omega⟩
  obtain ⟨_, k1, _⟩ := (G.fals p e h0 h).ok
  exact rem_go (by dsimp only at k1 ⊢; omega) (Wd.byte (P := fun x => vch x = 0) h0 h (fun i hi => by have := wFalse_low i hi; exact vch_zero (by omega) (by omega) (by omega) (by omega) (by omega) (by omega) (by omega))) r
 | tru p e h0 h =>
  refine ⟨fun d E r _ => ?_, fun q => by dsimp only at q; omega⟩
  obtain ⟨_, k1, _⟩ := (G.tru p e h0 h).ok
  exact rem_go (by dsimp only at k1 ⊢; omega) (Wd.byte (P := fun x => vch x = 0) h0 h (fun i hi => by have := wTrue_low i hi; exact vch_zero (by omega) (by omega) (by omega) (by omega) (by omega) (by omega) (by omega))) r
 | arr0 p b h0 h1 h2 h3 h4 =>
  have hc : ∀ d E, Kc s E (b + 1) d → Rem s E (p + 1) (d + 1) := fun d E k => rem_bl h2 (k.close (by rw [h4]; rfl))
  exact ⟨fun d E r hd => .opn p d (by rw [h1]; rfl) (hc d E (.inr ⟨hd, r⟩)), fun _ => hc 0 _ (.inl ⟨rfl, rfl⟩)⟩
 | arr p b e C h0 h1 h2 h3 ih =>
  have hc : ∀ d E, Kc s E e d → Rem s E (p + 1) (d + 1) := fun d E k => rem_bl h2 (ih d E k)
  exact ⟨fun d E r hd => .opn p d (by rw [h1]; rfl) (hc d E (.inr ⟨hd, r⟩)), fun _ => hc 0 _ (.inl ⟨rfl, rfl⟩)⟩
 | obj0 p b h0 h1 h2 h3 h4 =>
  have hc : ∀ d E, Kc s E (b + 1) d → Rem s E (p + 1) (d + 1) := fun d E k => rem_bl h2 (k.close (by rw [h4]; rfl))
  exact ⟨fun d E r hd => .opn p d (by rw [h1]; rfl) (hc d E (.inr ⟨hd, r⟩)), fun _ => hc 0 _ (.inl ⟨rfl, rfl⟩)⟩
 | obj p b e N C h0 h1 h2 h3 ih =>
  have hc : ∀ d E, Kc s E e d → Rem s E (p + 1) (d + 1) := fun d E k => rem_bl h2 (ih d E k)
  exact ⟨fun d E r hd => .opn p d (by rw [h1]; rfl) (hc d E (.inr ⟨hd, r⟩)), fun _ => hc 0 _ (.inl ⟨rfl, rfl⟩)⟩
 | els1 c b h0 h1 h2 h3 ih => exact fun d E k => ih.1 _ _ (rem_bl h1 (k.close (by rw [h3]; rfl))) (kc_dpos k)
 | elsn c b p e C h0 h1 h2 h3 h4 h5 ih ih2 => exact fun d E k => ih.1 _ _ (rem_bl h1 (comma_zero h3 (rem_bl h4 (ih2 d E k)))) (kc_dpos k)
 | mem1 n c b x h0 h1 h2 h3 h4 h5 h6 h7 ih => exact fun d E k => .str n.f0 n.f1 _ h0 (rem_bl h1 (colon_zero h2 (rem_bl h3 (ih.1 _ _ (rem_bl h5 (k.close (by rw [h7]; rfl))) (kc_dpos k)))))
 | memn n c b x p e N C h0 h1 h2 h3 h4 h5 h6 h7 h8 h9 ih ih2 => exact fun d E k => .str n.f0 n.f1 _ h0 (rem_bl h1 (colon_zero h2 (rem_bl h3 (ih.1 _ _ (rem_bl h5 (comma_zero h7 (rem_bl h8 (ih2 d E k)))) (kc_dpos k)))))
end Go.Proofs.YtgiioglmkogpkaaGreatDoor.V
namespace Go.Proofs.YtgiioglmkogpkaaGreatDoor.V
open Go.RowKit Go.Proofs.YtgiioglmkogpkaaGreatDoorW.PrintWords Go.Proofs.YtgiioglmkogpkaaGreatDoorW.PrintLast Go.Proofs.YtgiioglmkogpkaaGreatDoorW.PrintMore
open M L
def Sk (s : ByteArray) (a b : Int) : Prop := a ≤ b ∧ ∀ i, a ≤ i → i < b → bt s i ≤ 32 ∨ bt s i = 44 ∨ bt s i = 58
theorem Sk.of_bl {s : ByteArray} {a b : Int} (h : Bl s a b) : Sk s a b := ⟨h.1, fun i x y => by have := h.2 i x y; unfold isB at this; omega⟩
inductive Fl (s : ByteArray) : Int → List (S115 × S78) → Prop
 | done : Fl s s.size []
 | skip (i : Int) (L : List (S115 × S78)) : 0 ≤ i → i < s.size → bt s i ≠ 34 → Fl s (i + 1) L → Fl s i L
 | item (n : S115) (c : S78) (L : List (S115 × S78)) : Str s n.f0 n.f1 → PA s n.f0 → Sk s n.f1 c.f1 → G s (.val c) → Tv s c.f2 → PA s c.f1 → c.f2 < s.size → Fl s (c.f2 + 1) L → Fl s n.f0 ((n, c) :: L)
theorem Fl.range {s : ByteArray} {i : Int} {L : List (S115 × S78)} (h : Fl s i L) : 0 ≤ i ∧ i ≤ s.size := by
 cases h with
 | done => omega
 | skip _ _ h0 h1 => omega
 | item n c L h1 h2 h3 h4 h5 h6 h7 h8 =>
  have := Str.lt h1
  have := h1.1
  omega
theorem fl_run {s : ByteArray} {L : List (S115 × S78)} : ∀ (d : Nat) (a b : Int), a + d = b → 0 ≤ a → b ≤ s.size → (∀ i, a ≤ i → i < b → bt s i ≠ 34) → Fl s b L → Fl s a L := by
 intro d
 induction d with
 | zero => intro a b h _ _ _ r; rwa [show a = b by omega]
 | succ d ih => intro a b h h0 hb h2 r; exact .skip a L h0 (by omega) (h2 a (by omega) (by omega)) (ih (a + 1) b (by omega) (by omega) hb (fun i p q => h2 i (by omega) q) r)
theorem fl_go {s : ByteArray} {L : List (S115 × S78)} {a b : Int} (h0 : 0 ≤ a) (hab : a ≤ b) (hb : b ≤ s.size) (h : ∀ i, a ≤ i → i < b → bt s i ≠ 34) (r : Fl s b L) : Fl s a L := fl_run (b - a).toNat a b (by omega) h0 hb h r
theorem fl_bl {s : ByteArray} {L : List (S115 × S78)} {a b : Int} (h0 : 0 ≤ a) (hb : b ≤ s.size) (h : Bl s a b) (r : Fl s b L) : Fl s a L := fl_go h0 h.1 hb (fun i x y => by have := h.2 i x y; unfold isB at this; omega) r
theorem fl_behind {s : ByteArray} {L : List (S115 × S78)} {a x : Int} (h0 : 0 ≤ a) (hx : x < s.size) (h : Bl s a x) (hn : bt s x ≠ 34) (r : Fl s (x + 1) L) : Fl s (a + 1) L := by
 by_cases e : a = x
 ·subst e; exact r
 ·have := h.1
  exact fl_go (by omega) (by omega) (by omega) (fun i p q => by
   by_cases c : i = x
   ·rw [c]; exact hn
   ·have := h.2 i (by omega) (by omega); unfold isB at this; omega) r
theorem sk_colon {s : ByteArray} {a b c : Int} (h1 : Bl s a b) (h2 : bt s b = 58) (h3 : Bl s (b + 1) c) : Sk s a c := by
 refine ⟨by have := h1.1; have := h3.1; omega, fun i x y => ?_⟩
 by_cases q : i < b
 ·exact (Sk.of_bl h1).2 i x q
 ·by_cases e : i = b
  ·rw [e]; exact .inr (.inr h2)
  ·exact (Sk.of_bl h3).2 i (by omega) y
def It.fl (s : ByteArray) : It → Prop
 | .val q => q.f0 = 6 → q.f1 = 0 → q.f2 = s.size → PA s 0 → Fl s 1 (q.f3.zip q.f4)
 | .els _ _ _ => True
 | .mems p N C e => e = s.size → PA s p → Fl s p (N.zip C)
theorem G.fl {s : ByteArray} (hz : s.size ≤ 65536) {it : It} (h : G s it) : it.fl s := by
 induction h with
 | num p e h0 h => exact fun q => by dsimp only at q; omega
 | str p e h => exact fun q => by dsimp only at q; omega
 | null p e h0 h => exact fun q => by dsimp only at q; omega
 | fals p e h0 h => exact fun q => by dsimp only at q; omega
 | tru p e h0 h => exact fun q => by dsimp only at q; omega
 | arr0 p b h0 h1 h2 h3 h4 => exact fun q => by dsimp only at q; omega
 | arr p b e C h0 h1 h2 h3 ih => exact fun q => by dsimp only at q; omega
 | obj0 p b h0 h1 h2 h3 h4 =>
  intro _ hp he _
  dsimp only at hp he
  subst hp
  have q := h2.1
  have hd : Fl s (b + 1) [] := by rw [he]; exact .done
  exact fl_bl (by omega) (by omega) h2 (.skip b [] (by omega) h3 (by omega) hd)
 | obj p b e N C h0 h1 h2 h3 ih =>
  intro _ hp he hP
  dsimp only at hp he
  subst hp
  have q := h2.1
  obtain ⟨k0, k1, k2, _⟩ := h3.ok
  exact fl_bl (by omega) (by omega) h2 (ih he (pa_bl hz (by omega) (by omega) h2 (pa_one hz h0 (by omega) (by omega) hP)))
 | els1 c b h0 h1 h2 h3 ih => trivial
 | elsn c b p e C h0 h1 h2 h3 h4 h5 ih ih2 => trivial
 | mem1 n c b x h0 h1 h2 h3 h4 h5 h6 h7 ih =>
  intro he hP
  have q := h1.1
  have q2 := h3.1
  have q3 := h5.1
  obtain ⟨i0, i1, i2, _⟩ := h4.ok
  have hlt := Str.lt h0
  have hn0 := h0.1
  have hd : Fl s (x + 1) [] := by rw [he]; exact .done
  have p1 := (str_pa hz h0 hP).2
  have p2 : PA s c.f1 := pa_bl hz (by omega) (by omega) h3 (pa_one hz (by omega) (by omega) (by omega) (pa_bl hz (by omega) (by omega) h1 p1))
  exact .item n c [] h0 hP (sk_colon h1 h2 h3) h4 (Tv_of_Bl h5 (.inr (.inr h7))) p2 (by omega) (fl_behind (by omega) h6 h5 (by omega) hd)
 | memn n c b x p e N C h0 h1 h2 h3 h4 h5 h6 h7 h8 h9 ih ih2 =>
  intro he hP
  have q := h1.1
  have q2 := h3.1
  have q3 := h5.1
  have q4 := h8.1
  obtain ⟨i0, i1, i2, _⟩ := h4.ok
  obtain ⟨j0, j1, j2, _⟩ := h9.ok
  have hlt := Str.lt h0
  have hn0 := h0.1
  have p1 := (str_pa hz h0 hP).2
  have p2 : PA s c.f1 := pa_bl hz (by omega) (by omega) h3 (pa_one hz (by omega) (by omega) (by omega) (pa_bl hz (by omega) (by omega) h1 p1))
  have p3 : PA s c.f2 := h4.pa hz p2
  have p4 : PA s p := pa_bl hz (by omega) (by omega) h8 (pa_one hz (by omega) (by omega) (by omega) (pa_bl hz (by omega) (by omega) h5 p3))
  exact .item n c (N.zip C) h0 hP (sk_colon h1 h2 h3) h4 (Tv_of_Bl h5 (.inr (.inl h7))) p2 (by omega) (fl_behind (by omega) h6 h5 (by omega) (fl_bl (by omega) (by omega) h8 (ih2 he p4)))
end Go.Proofs.YtgiioglmkogpkaaGreatDoor.V

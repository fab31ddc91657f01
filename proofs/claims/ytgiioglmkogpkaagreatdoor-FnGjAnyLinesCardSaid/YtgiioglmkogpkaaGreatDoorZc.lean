/- Texts behind the law FnGjAnyLines: part 3. -/
import Derived.Test.YtgiioglmkogpkaaGreatDoorZb
import Derived.Test.YtgiioglmkogpkaaGreatDoorZa
set_option linter.unusedVariables false
set_option linter.unusedSimpArgs false
namespace Go.Proofs.YtgiioglmkogpkaaGreatDoor.L
open Go.RowKit Go.Proofs.YtgiioglmkogpkaaGreatDoorW.PrintWords Go.Proofs.YtgiioglmkogpkaaGreatDoorW.PrintLast Go.Proofs.YtgiioglmkogpkaaGreatDoorW.PrintMore
open M
def hd (s : ByteArray) (i : Int) : Int := (hexv (bt s i)).getD 0
def u4 (s : ByteArray) (p : Int) : Int := ((hd s p * 16 + hd s (p + 1)) * 16 + hd s (p + 2)) * 16 + hd s (p + 3)
theorem hd_range (s : ByteArray) (i : Int) : 0 ≤ hd s i ∧ hd s i ≤ 15 := by
 unfold hd
 cases h : hexv (bt s i) with
 | none => simp
 | some v => exact hexv_range h
theorem hd_some {s : ByteArray} {i : Int} (h : (hexv (bt s i)).isSome = true) : hexv (bt s i) = some (hd s i) := by
 unfold hd
 cases e : hexv (bt s i) with
 | none => rw [e] at h; cases h
 | some v => rfl
theorem u4_range (s : ByteArray) (p : Int) : 0 ≤ u4 s p ∧ u4 s p ≤ 65535 := by
 have h0 := hd_range s p
 have h1 := hd_range s (p + 1)
 have h2 := hd_range s (p + 2)
 have h3 := hd_range s (p + 3)
 unfold u4
 omega
def isU (s : ByteArray) (j i : Int) : Prop := 0 ≤ i ∧ i + 6 ≤ j ∧ bt s i = 92 ∧ bt s (i + 1) = 117 ∧ hex4 s (i + 2)
theorem unit_yes1 (s : ByteArray) (hz : s.size ≤ 65536) (p x i v : Int) (r : Int × Bool) (h0 : 0 ≤ i) (h1 : i < p + 6) (h2 : i < s.size) (hp : 0 ≤ p ∧ p ≤ s.size) (hx : 0 ≤ x ∧ x ≤ 100000) (hv : hexv (bt s i) = some v) (h : Ev (fun k => spec_unit.l0 k s p (x * 16 + v) (i + 1)) r) :
  Ev (fun k => spec_unit.l0 k s p x i) r := by
 have hr := hexv_range hv
 refine Ev.step (f := fun k => (spec_hexDigit.f k (bt s i)).bind fun t => (if t.2 = true then (spec_unit.l0 k s p (wrap64 ((wrap64 (x * 16)) + t.1)) (wrap64 (i + 1))) else (some (0, false)))) (fun k => ?_) (Ev.bind (hex_yes hv) (Ev.congr (fun k => ?_) h))
 ·simp only [spec_unit.l0]; rw [w64 (x := p + 6) (by omega) (by omega), if_pos h1, if_pos h0, if_pos h2]
 ·simp only [if_true]; rw [w64 (x := x * 16) (by omega) (by omega), w64 (by omega) (by omega), w64 (by omega) (by omega)]
theorem unit_no1 (s : ByteArray) (hz : s.size ≤ 65536) (p x i : Int) (h0 : 0 ≤ i) (h1 : i < p + 6) (h2 : i < s.size) (hp : 0 ≤ p ∧ p ≤ s.size) (hv : ¬ (hexv (bt s i)).isSome = true) :
  Ev (fun k => spec_unit.l0 k s p x i) (0, false) := by
 have hn : hexv (bt s i) = none := by
  cases e : hexv (bt s i) with
  | none => rfl
  | some v => rw [e] at hv; simp at hv
 refine Ev.step (f := fun k => (spec_hexDigit.f k (bt s i)).bind fun t => (if t.2 = true then (spec_unit.l0 k s p (wrap64 ((wrap64 (x * 16)) + t.1)) (wrap64 (i + 1))) else (some (0, false)))) (fun k => ?_) (Ev.bind (hex_no hn) (Ev.congr (fun k => ?_) (Ev.now _)))
 ·simp only [spec_unit.l0]; rw [w64 (x := p + 6) (by omega) (by omega), if_pos h1, if_pos h0, if_pos h2]
 ·simp
theorem unit_end (s : ByteArray) (hz : s.size ≤ 65536) (p x i : Int) (h : i = p + 6) (hp : 0 ≤ p ∧ p ≤ s.size) : Ev (fun k => spec_unit.l0 k s p x i) (x, true) := by
 refine Ev.step (f := fun _ => some (x, true)) (fun k => ?_) (Ev.now _)
 simp only [spec_unit.l0]; rw [w64 (x := p + 6) (by omega) (by omega), if_neg (by omega)]
theorem unit_yes (s : ByteArray) (hz : s.size ≤ 65536) (p : Int) (h : isU s s.size p) : Ev (fun k => spec_unit.f k s p) (u4 s (p + 2), true) := by
 obtain ⟨h0, h1, h2, h3, h4⟩ := h
 have a0 := hd_some (h4 (p + 2) (by omega) (by omega))
 have a1 := hd_some (h4 (p + 3) (by omega) (by omega))
 have a2 := hd_some (h4 (p + 4) (by omega) (by omega))
 have a3 := hd_some (h4 (p + 5) (by omega) (by omega))
 have r0 := hd_range s (p + 2)
 have r1 := hd_range s (p + 3)
 have r2 := hd_range s (p + 4)
 have r3 := hd_range s (p + 5)
 refine Ev.congr (f := fun k => spec_unit.j0 k s p false) (fun k => ?_) (Ev.step (f := fun k => spec_unit.l0 k s p 0 (p + 2)) (fun k => ?_) ?_)
 ·simp only [spec_unit.f]; rw [w64 (x := (s.size : Int) - p) (by omega) (by omega), if_neg (by omega), if_pos h0, if_pos (by omega), if_pos h2, w64 (x := p + 1) (by omega) (by omega), if_pos (by omega), if_pos (by omega), bne_eq_false_iff_eq.mpr h3]
 ·simp only [spec_unit.j0, Bool.false_eq_true, if_false]; rw [w64 (by omega) (by omega)]
 refine unit_yes1 s hz p 0 (p + 2) _ _ (by omega) (by omega) (by omega) (by omega) (by omega) a0 ?_
 rw [show p + 2 + 1 = p + 3 by omega]
 refine unit_yes1 s hz p _ (p + 3) _ _ (by omega) (by omega) (by omega) (by omega) (by omega) a1 ?_
 rw [show p + 3 + 1 = p + 4 by omega]
 refine unit_yes1 s hz p _ (p + 4) _ _ (by omega) (by omega) (by omega) (by omega) (by omega) a2 ?_
 rw [show p + 4 + 1 = p + 5 by omega]
 refine unit_yes1 s hz p _ (p + 5) _ _ (by omega) (by omega) (by omega) (by omega) (by omega) a3 ?_
 have e : u4 s (p + 2) = (((0 * 16 + hd s (p + 2)) * 16 + hd s (p + 3)) * 16 + hd s (p + 4)) * 16 + hd s (p + 5) := by
  unfold u4
  rw [show p + 2 + 1 = p + 3 by omega, show p + 2 + 2 = p + 4 by omega, show p + 2 + 3 = p + 5 by omega]
  omega
 rw [e]
 exact unit_end s hz p _ _ (by omega) (by omega)
theorem unit_j0t (s : ByteArray) (p : Int) : Ev (fun k => spec_unit.j0 k s p true) (0, false) := Ev.step (f := fun _ => some (0, false)) (fun k => by simp only [spec_unit.j0, if_true]) (Ev.now _)
theorem unit_no (s : ByteArray) (hz : s.size ≤ 65536) (p : Int) (hp : 0 ≤ p ∧ p ≤ 1000000) (h : ¬ isU s s.size p) : Ev (fun k => spec_unit.f k s p) (0, false) := by
 by_cases c6 : (s.size : Int) - p < 6
 ·refine Ev.congr (fun k => ?_) (unit_j0t s p)
  simp only [spec_unit.f]; rw [w64 (x := (s.size : Int) - p) (by omega) (by omega), if_pos c6]
 by_cases c92 : bt s p = 92
 rotate_left
 ·refine Ev.congr (fun k => ?_) (unit_j0t s p)
  simp only [spec_unit.f]; rw [w64 (x := (s.size : Int) - p) (by omega) (by omega), if_neg c6, if_pos hp.1, if_pos (by omega), if_neg c92]
 by_cases c117 : bt s (p + 1) = 117
 rotate_left
 ·refine Ev.congr (fun k => ?_) (unit_j0t s p)
  simp only [spec_unit.f]; rw [w64 (x := (s.size : Int) - p) (by omega) (by omega), if_neg c6, if_pos hp.1, if_pos (by omega), if_pos c92, w64 (x := p + 1) (by omega) (by omega), if_pos (by omega), if_pos (by omega), bne_iff_ne.mpr c117]
 refine Ev.congr (f := fun k => spec_unit.j0 k s p false) (fun k => ?_) (Ev.step (f := fun k => spec_unit.l0 k s p 0 (p + 2)) (fun k => ?_) ?_)
 ·simp only [spec_unit.f]; rw [w64 (x := (s.size : Int) - p) (by omega) (by omega), if_neg (by omega), if_pos hp.1, if_pos (by omega), if_pos c92, w64 (x := p + 1) (by omega) (by omega), if_pos (by omega), if_pos (by omega), bne_eq_false_iff_eq.mpr c117]
 ·simp only [spec_unit.j0, Bool.false_eq_true, if_false]; rw [w64 (by omega) (by omega)]
 by_cases b0 : (hexv (bt s (p + 2))).isSome = true
 rotate_left
 ·exact unit_no1 s hz p _ _ (by omega) (by omega) (by omega) (by omega) b0
 have r0 := hd_range s (p + 2)
 refine unit_yes1 s hz p 0 (p + 2) _ _ (by omega) (by omega) (by omega) (by omega) (by omega) (hd_some b0) ?_
 rw [show p + 2 + 1 = p + 3 by omega]
 by_cases b1 : (hexv (bt s (p + 3))).isSome = true
 rotate_left
 ·exact unit_no1 s hz p _ _ (by omega) (by omega) (by omega) (by omega) b1
 have r1 := hd_range s (p + 3)
 refine unit_yes1 s hz p _ (p + 3) _ _ (by omega) (by omega) (by omega) (by omega) (by omega) (hd_some b1) ?_
 rw [show p + 3 + 1 = p + 4 by omega]
 by_cases b2 : (hexv (bt s (p + 4))).isSome = true
 rotate_left
 ·exact unit_no1 s hz p _ _ (by omega) (by omega) (by omega) (by omega) b2
 have r2 := hd_range s (p + 4)
 refine unit_yes1 s hz p _ (p + 4) _ _ (by omega) (by omega) (by omega) (by omega) (by omega) (hd_some b2) ?_
 rw [show p + 4 + 1 = p + 5 by omega]
 by_cases b3 : (hexv (bt s (p + 5))).isSome = true
 rotate_left
 ·exact unit_no1 s hz p _ _ (by omega) (by omega) (by omega) (by omega) b3
 refine absurd ⟨hp.1, by omega, c92, c117, fun i x y => ?_⟩ h
 by_cases e0 : i = p + 2
 ·rw [e0]; exact b0
 by_cases e1 : i = p + 3
 ·rw [e1]; exact b1
 by_cases e2 : i = p + 4
 ·rw [e2]; exact b2
 ·rw [show i = p + 5 by omega]; exact b3
def isHigh (n : Int) : Prop := 55296 ≤ n ∧ n ≤ 56319
def isLow (n : Int) : Prop := 56320 ≤ n ∧ n ≤ 57343
instance (x : Int) : Decidable (isHigh x) := by unfold isHigh; infer_instance
instance (x : Int) : Decidable (isLow x) := by unfold isLow; infer_instance
theorem high_f (n : Int) : spec_high.f n = some (decide (isHigh n)) := by
 unfold spec_high.f isHigh
 by_cases h : 55296 ≤ n <;> simp [h]
theorem low_f (n : Int) : spec_low.f n = some (decide (isLow n)) := by
 unfold spec_low.f isLow
 by_cases h : 56320 ≤ n <;> simp [h]
def shortv (a : Int) : Int := if a = 98 then 8 else if a = 102 then 12 else if a = 110 then 10 else if a = 114 then 13 else if a = 116 then 9 else a
theorem short_f (a : Int) : spec_short.f a = some (shortv a) := by
 unfold spec_short.f shortv
 repeat (split; rfl)
 rfl
def enc (c : Int) : List Int := if c < 128 then [c] else if c < 2048 then [192 + c / 64, 128 + c % 64] else if isHigh c ∨ isLow c then [239, 191, 189] else if c < 65536 then [224 + c / 4096, 128 + c / 64 % 64, 128 + c % 64] else [240 + c / 262144, 128 + c / 4096 % 64, 128 + c / 64 % 64, 128 + c % 64]
theorem enc_length (c : Int) : 1 ≤ (enc c).length ∧ (enc c).length ≤ 4 := by
 unfold enc
 repeat (split; · simp)
 simp
theorem app_ev (l : List Int) (c : Int) (hl : l.length ≤ 1000000) (h0 : 0 ≤ c) (h1 : c ≤ 1114111) : Ev (fun k => spec_appendUTF8.f k l c) (l ++ enc c) := by
 have td : ∀ b : Int, Int.tdiv c b = c / b := fun b => Int.tdiv_eq_ediv_of_nonneg h0
 have tm : ∀ b : Int, Int.tmod c b = c % b := fun b => Int.tmod_eq_emod_of_nonneg h0
 have tm2 : ∀ a b : Int, 0 ≤ a → Int.tmod a b = a % b := fun a b h => Int.tmod_eq_emod_of_nonneg h
 by_cases c1 : c < 128
 ·refine Ev.congr (fun k => ?_) (Ev.now _)
  simp only [spec_appendUTF8.f, enc]; rw [if_pos c1, if_pos (by omega), if_pos c1, Int.emod_eq_of_lt h0 (by omega)]
 by_cases c2 : c < 2048
 ·refine Ev.congr (fun k => ?_) (Ev.now _)
  simp only [spec_appendUTF8.f, enc]; rw [if_neg c1, if_pos c2, if_neg c1, if_pos c2]; simp only [Option.bind_some]; rw [if_pos (by simp; omega), td, tm, w64 (x := c / 64) (by omega) (by omega), w64 (by omega) (by omega), w64 (by omega) (by omega), Int.emod_eq_of_lt (by omega) (by omega), Int.emod_eq_of_lt (by omega) (by omega)]
 by_cases cH : isHigh c ∨ isLow c
 ·refine Ev.congr (f := fun k => spec_appendUTF8.j0 k l c true) (fun k => ?_) (Ev.step (f := fun _ => some (l ++ [239, 191, 189])) (fun k => ?_) (Ev.congr (fun k => ?_) (Ev.now _)))
  rotate_left
  ·simp only [spec_appendUTF8.j0, if_true, Option.bind_some]; rw [if_pos (by simp; omega)]
  ·rw [enc, if_neg c1, if_neg c2, if_pos cH]
  simp only [spec_appendUTF8.f]; rw [if_neg c1, if_neg c2, high_f]; simp only [Option.bind_some]
  by_cases ch : isHigh c
  ·rw [if_pos (decide_eq_true ch)]
  ·rw [if_neg (by simp [ch]), low_f]; simp only [Option.bind_some]; rw [decide_eq_true (cH.resolve_left ch)]
 have hf : ∀ k, spec_appendUTF8.f k l c = spec_appendUTF8.j0 k l c false := fun k => by
  simp only [spec_appendUTF8.f]; rw [if_neg c1, if_neg c2, high_f]; simp only [Option.bind_some]
  rw [if_neg (by simp; exact fun q => cH (.inl q)), low_f]; simp only [Option.bind_some]; rw [decide_eq_false (fun q => cH (.inr q))]
 have q64 : 0 ≤ c / 64 := by omega
 have q4096 : 0 ≤ c / 4096 := by omega
 refine Ev.congr (f := fun k => spec_appendUTF8.j0 k l c false) hf ?_
 by_cases c3 : c < 65536
 rotate_left
 ·refine Ev.step (f := fun _ => some (l ++ enc c)) (fun k => ?_) (Ev.now _)
  simp only [spec_appendUTF8.j0, Bool.false_eq_true, if_false]; rw [if_neg c3]; simp only [Option.bind_some]
  rw [if_pos (by simp; omega), enc, if_neg c1, if_neg c2, if_neg cH, if_neg c3, td, td, td, tm, w64 (x := c / 262144) (by omega) (by omega), w64 (x := c / 4096) (by omega) (by omega), w64 (x := c / 64) (by omega) (by omega), tm2 _ _ q64, tm2 _ _ q4096, w64 (by omega) (by omega), w64 (by omega) (by omega), w64 (by omega) (by omega), w64 (by omega) (by omega), Int.emod_eq_of_lt (a := 240 + c / 262144) (by omega) (by omega), Int.emod_eq_of_lt (a := 128 + c / 4096 % 64) (by omega) (by omega), Int.emod_eq_of_lt (a := 128 + c / 64 % 64) (by omega) (by omega), Int.emod_eq_of_lt (a := 128 + c % 64) (by omega) (by omega)]
 refine Ev.step (f := fun _ => some (l ++ enc c)) (fun k => ?_) (Ev.now _)
 simp only [spec_appendUTF8.j0, Bool.false_eq_true, if_false]; rw [if_pos c3]; simp only [Option.bind_some]
 rw [if_pos (by simp; omega), enc, if_neg c1, if_neg c2, if_neg cH, if_pos c3, td, td, tm, w64 (x := c / 4096) (by omega) (by omega), w64 (x := c / 64) (by omega) (by omega), tm2 _ _ q64, w64 (by omega) (by omega), w64 (by omega) (by omega), w64 (by omega) (by omega), Int.emod_eq_of_lt (a := 224 + c / 4096) (by omega) (by omega), Int.emod_eq_of_lt (a := 128 + c / 64 % 64) (by omega) (by omega), Int.emod_eq_of_lt (a := 128 + c % 64) (by omega) (by omega)]
def isPair (s : ByteArray) (j i : Int) : Prop := isU s j (i + 6) ∧ isHigh (u4 s (i + 2)) ∧ isLow (u4 s (i + 8))
inductive Dec (s : ByteArray) (j : Int) : Int → List Int → Prop
 | nil : Dec s j j []
 | plain (i : Int) (o : List Int) : 0 ≤ i → i < j → bt s i ≠ 92 → Dec s j (i + 1) o → Dec s j i (bt s i :: o)
 | esc (i : Int) (o : List Int) : 0 ≤ i → i + 1 < j → bt s i = 92 → isEsc (bt s (i + 1)) → Dec s j (i + 2) o → Dec s j i (shortv (bt s (i + 1)) :: o)
 | uni (i : Int) (o : List Int) : isU s j i → ¬ isPair s j i → Dec s j (i + 6) o → Dec s j i (enc (u4 s (i + 2)) ++ o)
 | pair (i : Int) (o : List Int) : isU s j i → isPair s j i → Dec s j (i + 12) o → Dec s j i (enc (65536 + (u4 s (i + 2) - 55296) * 1024 + (u4 s (i + 8) - 56320)) ++ o)
theorem esc_not_U {s : ByteArray} {j i : Int} (h : isEsc (bt s (i + 1))) : ¬ isU s j i := by
 intro q
 have := q.2.2.2.1
 unfold isEsc at h
 omega
theorem unq_ev (t : ByteArray) (hz : t.size ≤ 65536) {i : Int} {o : List Int} (h : Dec t t.size i o) : ∀ x : List Int, x.length + o.length ≤ 1000000 → Ev (fun k => spec_Unquote.l0 k x t i) (strOfNums (x ++ o)) := by
 induction h with
 | nil =>
  intro x hx
  refine Ev.step (f := fun _ => some (strOfNums x)) (fun k => ?_) (Ev.congr (fun k => ?_) (Ev.now _))
  ·simp only [spec_Unquote.l0]; rw [if_neg (by omega)]
  ·rw [List.append_nil]
 | plain i o h0 h1 h2 h3 ih =>
  intro x hx
  simp only [List.length_cons] at hx
  refine Ev.step (f := fun k => spec_Unquote.l0 k (x ++ [bt t i]) t (i + 1)) (fun k => ?_) ?_
  ·simp only [spec_Unquote.l0]; rw [if_pos h1, if_pos h0, if_neg h2, if_pos (by omega), w64 (by omega) (by omega)]
  ·have := ih (x ++ [bt t i]) (by simp; omega)
   rwa [List.append_assoc, List.singleton_append] at this
 | esc i o h0 h1 h2 h3 h4 ih =>
  intro x hx
  simp only [List.length_cons] at hx
  obtain ⟨K1, hn⟩ := unit_no t hz i (by omega) (esc_not_U h3)
  have h5 := ih (x ++ [shortv (bt t (i + 1))]) (by simp; omega)
  rw [List.append_assoc, List.singleton_append] at h5
  obtain ⟨K2, h5⟩ := h5
  refine ⟨K1 + K2 + 1, fun k hk => ?_⟩
  obtain ⟨m, rfl⟩ : ∃ m, k = m + 1 := ⟨k - 1, by omega⟩
  dsimp only at *
  simp only [spec_Unquote.l0]
  rw [if_pos (by omega), if_pos h0, if_pos h2, hn m (by omega)]
  simp only [Option.bind_some, Bool.false_eq_true, if_false]
  rw [w64 (x := i + 1) (by omega) (by omega), if_pos (by omega), if_pos h1, short_f]
  simp only [Option.bind_some]
  rw [if_pos (by omega), w64 (x := i + 2) (by omega) (by omega), h5 m (by omega)]
 | uni i o h0 h1 h2 ih =>
  intro x hx
  simp only [List.length_append] at hx
  have hi := h0.1
  have hi2 := h0.2.1
  obtain ⟨K1, hy⟩ := unit_yes t hz i h0
  have hu := u4_range t (i + 2)
  obtain ⟨K2, ha⟩ := app_ev x (u4 t (i + 2)) (by omega) (by omega) (by omega)
  have hI := ih (x ++ enc (u4 t (i + 2))) (by simp; omega)
  rw [List.append_assoc] at hI
  obtain ⟨K3, hI⟩ := hI
  have key : ∀ b : Int × Bool, Ev (fun k => spec_unit.f k t (i + 6)) b → (b.2 = true → ¬ (isHigh (u4 t (i + 2)) ∧ isLow b.1)) → Ev (fun k => spec_Unquote.l0 k x t i) (strOfNums (x ++ (enc (u4 t (i + 2)) ++ o))) := by
   intro b hb hbn
   obtain ⟨K4, hb⟩ := hb
   refine ⟨K1 + K2 + K3 + K4 + 1, fun k hk => ?_⟩
   obtain ⟨m, rfl⟩ : ∃ m, k = m + 1 := ⟨k - 1, by omega⟩
   dsimp only at *
   simp only [spec_Unquote.l0]
   rw [if_pos (by omega), if_pos h0.1, if_pos h0.2.2.1, hy m (by omega)]
   simp only [Option.bind_some, if_true]
   rw [w64 (x := i + 6) (by omega) (by omega), hb m (by omega)]
   simp only [Option.bind_some, ha m (by omega), hI m (by omega)]
   by_cases c1 : b.2 = true
   rotate_left
   ·rw [if_neg c1]
   rw [if_pos c1, high_f]; simp only [Option.bind_some]
   by_cases c2 : isHigh (u4 t (i + 2))
   ·rw [if_pos (decide_eq_true c2), low_f]; simp only [Option.bind_some]
    rw [if_neg (by simp; exact fun q => hbn c1 ⟨c2, q⟩)]
   ·rw [if_neg (by simp [c2])]
  by_cases cU : isU t t.size (i + 6)
  ·exact key _ (unit_yes t hz (i + 6) cU) (fun _ q => h1 ⟨cU, q.1, by have := q.2; rwa [show i + 6 + 2 = i + 8 by omega] at this⟩)
  ·exact key _ (unit_no t hz (i + 6) (by omega) cU) (fun q => by cases q)
 | pair i o h0 h1 h2 ih =>
  intro x hx
  simp only [List.length_append] at hx
  have hi := h0.1
  have hi2 := h0.2.1
  obtain ⟨hU, hH, hL⟩ := h1
  have hi3 := hU.2.1
  obtain ⟨K1, hy⟩ := unit_yes t hz i h0
  obtain ⟨K2, hy2⟩ := unit_yes t hz (i + 6) hU
  rw [show i + 6 + 2 = i + 8 by omega] at hy2
  have hH' := hH
  have hL' := hL
  unfold isHigh at hH'
  unfold isLow at hL'
  obtain ⟨K3, ha⟩ := app_ev x (65536 + (u4 t (i + 2) - 55296) * 1024 + (u4 t (i + 8) - 56320)) (by omega) (by omega) (by omega)
  have hI := ih (x ++ enc (65536 + (u4 t (i + 2) - 55296) * 1024 + (u4 t (i + 8) - 56320))) (by simp; omega)
  rw [List.append_assoc] at hI
  obtain ⟨K4, hI⟩ := hI
  refine ⟨K1 + K2 + K3 + K4 + 1, fun k hk => ?_⟩
  obtain ⟨m, rfl⟩ : ∃ m, k = m + 1 := ⟨k - 1, by omega⟩
  dsimp only at *
  simp only [spec_Unquote.l0]
  rw [if_pos (by omega), if_pos h0.1, if_pos h0.2.2.1, hy m (by omega)]
  simp only [Option.bind_some, if_true]
  rw [w64 (x := i + 6) (by omega) (by omega), hy2 m (by omega)]
  simp only [Option.bind_some, if_true]
  rw [high_f]; simp only [Option.bind_some]
  rw [if_pos (decide_eq_true hH), low_f]; simp only [Option.bind_some]
  rw [if_pos (decide_eq_true hL), w64 (x := u4 t (i + 2) - 55296) (by omega) (by omega), w64 (x := (u4 t (i + 2) - 55296) * 1024) (by omega) (by omega), w64 (x := 65536 + (u4 t (i + 2) - 55296) * 1024) (by omega) (by omega), w64 (x := u4 t (i + 8) - 56320) (by omega) (by omega), w64 (x := 65536 + (u4 t (i + 2) - 55296) * 1024 + (u4 t (i + 8) - 56320)) (by omega) (by omega), ha m (by omega)]
  simp only [Option.bind_some]
  rw [w64 (x := i + 6 + 6) (by omega) (by omega), show i + 6 + 6 = i + 12 by omega, hI m (by omega)]
theorem Bod.dec {s : ByteArray} {j : Int} : ∀ (n : Nat) (i : Int), 0 ≤ i → j - i < n → Bod s j i → ∃ o, Dec s j i o ∧ (o.length : Int) ≤ j - i := by
 intro n
 induction n with
 | zero => intro i h0 h1 h; have := h.le; omega
 | succ n ih =>
  intro i h0 h1 h
  cases h with
  | nil => exact ⟨[], .nil, by simp⟩
  | plain _ a b c d e =>
   obtain ⟨o, ho, hl⟩ := ih (i + 1) (by omega) (by omega) e
   exact ⟨_, .plain i o h0 a c ho, by simp; omega⟩
  | esc _ a b c d =>
   obtain ⟨o, ho, hl⟩ := ih (i + 2) (by omega) (by omega) d
   exact ⟨_, .esc i o h0 a b c ho, by simp; omega⟩
  | uni _ a b c d e =>
   have hU : isU s j i := ⟨h0, by omega, b, c, d⟩
   by_cases hp : isPair s j i
   rotate_left
   ·obtain ⟨o, ho, hl⟩ := ih (i + 6) (by omega) (by omega) e
    have := enc_length (u4 s (i + 2))
    exact ⟨_, .uni i o hU hp ho, by simp; omega⟩
   obtain ⟨p1, p2, p3, p4, p5⟩ := hp.1
   have h12 : Bod s j (i + 12) := by
    cases e with
    | nil => omega
    | plain _ q1 q2 q3 q4 q5 => exact absurd p3 q3
    | esc _ q1 q2 q3 q4 => unfold isEsc at q3; omega
    | uni _ q1 q2 q3 q4 q5 => rwa [show i + 6 + 6 = i + 12 by omega] at q5
   obtain ⟨o, ho, hl⟩ := ih (i + 12) (by omega) (by omega) h12
   have := enc_length (65536 + (u4 s (i + 2) - 55296) * 1024 + (u4 s (i + 8) - 56320))
   exact ⟨_, .pair i o hU hp ho, by simp; omega⟩
theorem bt_extract (s : ByteArray) (a b : Nat) (i : Int) (h0 : 0 ≤ i) (h1 : a + i < b) (h2 : b ≤ s.size) : bt (s.extract a b) i = bt s (a + i) := by
 unfold bt
 rw [dif_pos (by rw [ByteArray.size_extract]; omega), dif_pos (by omega)]
 rw [ByteArray.getElem_extract]
 have e : a + i.toNat = ((a : Int) + i).toNat := by omega
 simp only [e]
theorem Bod.shift {s : ByteArray} {j : Int} {a : Nat} (hj : j ≤ s.size) {i : Int} (h : Bod s j i) : (a : Int) ≤ i → Bod (s.extract a j.toNat) ((s.extract a j.toNat).size : Int) (i - a) := by
 induction h with
 | nil =>
  intro h0
  have e : ((s.extract a j.toNat).size : Int) = j - a := by rw [ByteArray.size_extract]; omega
  rw [e]
  exact .nil
 | plain i h1 h2 h3 h4 h5 ih =>
  intro h0
  have e : ((s.extract a j.toNat).size : Int) = j - a := by rw [ByteArray.size_extract]; omega
  have b0 := bt_extract s a j.toNat (i - a) (by omega) (by omega) (by omega)
  rw [show (a : Int) + (i - a) = i by omega] at b0
  refine .plain _ (by omega) (by rw [b0]; exact h2) (by rw [b0]; exact h3) (by rw [b0]; exact h4) ?_
  have := ih (by omega)
  rwa [show i + 1 - a = i - a + 1 by omega] at this
 | esc i h1 h2 h3 h4 ih =>
  intro h0
  have e : ((s.extract a j.toNat).size : Int) = j - a := by rw [ByteArray.size_extract]; omega
  have b0 := bt_extract s a j.toNat (i - a) (by omega) (by omega) (by omega)
  rw [show (a : Int) + (i - a) = i by omega] at b0
  have b1 := bt_extract s a j.toNat (i - a + 1) (by omega) (by omega) (by omega)
  rw [show (a : Int) + (i - a + 1) = i + 1 by omega] at b1
  refine .esc _ (by omega) (by rw [b0]; exact h2) (by rw [b1]; exact h3) ?_
  have := ih (by omega)
  rwa [show i + 2 - a = i - a + 2 by omega] at this
 | uni i h1 h2 h3 h4 h5 ih =>
  intro h0
  have e : ((s.extract a j.toNat).size : Int) = j - a := by rw [ByteArray.size_extract]; omega
  have b0 := bt_extract s a j.toNat (i - a) (by omega) (by omega) (by omega)
  rw [show (a : Int) + (i - a) = i by omega] at b0
  have b1 := bt_extract s a j.toNat (i - a + 1) (by omega) (by omega) (by omega)
  rw [show (a : Int) + (i - a + 1) = i + 1 by omega] at b1
  refine .uni _ (by omega) (by rw [b0]; exact h2) (by rw [b1]; exact h3) (fun x y z => ?_) ?_
  ·rw [bt_extract s a j.toNat x (by omega) (by omega) (by omega)]
   exact h4 _ (by omega) (by omega)
  ·have := ih (by omega)
   rwa [show i + 6 - a = i - a + 6 by omega] at this
theorem unqf_ev (s : ByteArray) (hz : s.size ≤ 65536) (p e : Int) (h : Str s p e) : ∃ r, Ev (fun k => spec_Unquote.f k (s.extract p.toNat e.toNat)) r ∧ ∀ o, Dec (s.extract (p.toNat + 1) (e.toNat - 1)) (s.extract (p.toNat + 1) (e.toNat - 1)).size 0 o → o.length ≤ 65536 → r = strOfNums o := by
 obtain ⟨h0, h34, j, rfl, h1, h2, h3, h4⟩ := h
 have e1 : ((s.extract p.toNat (j + 1).toNat).size : Int) = j + 1 - p := by rw [ByteArray.size_extract]; omega
 have e2 : (s.extract p.toNat (j + 1).toNat).extract 1 ((s.extract p.toNat (j + 1).toNat).size - 1 : Int).toNat = s.extract (p.toNat + 1) ((j + 1).toNat - 1) := by
  rw [ByteArray.extract_extract]
  congr 1
  omega
 have hB := Bod.shift (a := p.toNat + 1) (by omega) h4 (by omega)
 rw [show ((p + 1 : Int) - (p.toNat + 1 : Nat)) = 0 by omega] at hB
 have e3 : j.toNat = (j + 1).toNat - 1 := by omega
 rw [e3] at hB
 generalize ht : s.extract (p.toNat + 1) ((j + 1).toNat - 1) = t at *
 have hts : t.size ≤ 65536 := by rw [← ht, ByteArray.size_extract]; omega
 obtain ⟨o, ho, hl⟩ := Bod.dec (t.size + 1) 0 (by omega) (by omega) hB
 have hu := unq_ev t hts ho [] (by simp; omega)
 have hf : Ev (fun k => spec_Unquote.f k (s.extract p.toNat (j + 1).toNat)) (strOfNums ([] ++ o)) := by
  refine Ev.congr (fun k => ?_) hu
  simp only [spec_Unquote.f]
  rw [w64 (by omega) (by omega), if_pos (by omega), if_pos (by omega), e2]
 refine ⟨_, hf, fun o' ho' hl' => ?_⟩
 have hu' := unq_ev t hts ho' [] (by simp; omega)
 obtain ⟨K, a⟩ := hu
 obtain ⟨K', b⟩ := hu'
 have x := a (K + K') (by omega)
 have y := b (K + K') (by omega)
 simp only [List.nil_append] at x y ⊢
 exact Option.some.inj (x.symm.trans y)
end Go.Proofs.YtgiioglmkogpkaaGreatDoor.L
namespace Go.Proofs.YtgiioglmkogpkaaGreatDoor.V
open Go.RowKit Go.Proofs.YtgiioglmkogpkaaGreatDoorW.PrintWords Go.Proofs.YtgiioglmkogpkaaGreatDoorW.PrintLast Go.Proofs.YtgiioglmkogpkaaGreatDoorW.PrintMore
open M L
def Tm (s : ByteArray) (e : Int) : Prop := e < s.size → ¬ dig (bt s e) ∧ bt s e ≠ 46 ∧ bt s e ≠ 101 ∧ bt s e ≠ 69
theorem digits_yes (s : ByteArray) (hz : s.size ≤ 65536) (p e : Int) (h0 : 0 ≤ p) (h1 : p ≤ e) (h2 : e ≤ s.size) (hd : ∀ i, p ≤ i → i < e → dig (bt s i)) (hn : e < s.size → ¬ dig (bt s e)) : Ev (fun k => spec_reader_digits.f k s p) (decide (e > p), s, e) := by
 obtain ⟨e', he, a, b, c, d⟩ := digits_ev s hz p h0 (by omega)
 have : e' = e := by
  by_cases x : e' < e
  ·exact absurd (hd e' a x) (d (by omega))
  by_cases y : e < e'
  ·exact absurd (c e h1 y) (hn (by omega))
  ·omega
 subst this; exact he
theorem digits_yes' (s : ByteArray) (hz : s.size ≤ 65536) (p e : Int) (h0 : 0 ≤ p) (h1 : p < e) (h2 : e ≤ s.size) (hd : ∀ i, p ≤ i → i < e → dig (bt s i)) (hn : e < s.size → ¬ dig (bt s e)) : Ev (fun k => spec_reader_digits.f k s p) (true, s, e) := by
 have := digits_yes s hz p e h0 (by omega) h2 hd hn
 rwa [decide_eq_true (show e > p by omega)] at this
theorem j2t_yes (s : ByteArray) (hz : s.size ≤ 65536) (c d e : Int) (h0 : 0 ≤ c) (hd : d = c + 1 ∨ (d = c + 2 ∧ (bt s (c + 1) = 43 ∨ bt s (c + 1) = 45))) (hde : d < e) (h2 : e ≤ s.size) (hg : ∀ i, d ≤ i → i < e → dig (bt s i)) (ht : Tm s e) : Ev (fun k => spec_reader_number.j2 k true s (c + 1)) (true, s, e) := by
 have hD := digits_yes' s hz d e (by omega) hde h2 hg (fun q => (ht q).1)
 have h1 : c + 1 < s.size := by omega
 have hdd : bt s (c + 1) = 43 ∨ bt s (c + 1) = 45 → d = c + 1 + 1 := by
  intro q
  rcases hd with rfl | ⟨rfl, _⟩
  rotate_left
  ·omega
  have := hg (c + 1) (by omega) hde
  unfold dig at this
  omega
 by_cases h43 : bt s (c + 1) = 43
 ·obtain rfl := hdd (.inl h43)
  refine Ev.step (f := fun k => (spec_reader_digits.f k s (c + 1 + 1)).bind fun t => some (t.1, t.2.1, t.2.2)) (fun k => ?_) (Ev.bind hD (Ev.now _))
  simp only [spec_reader_number.j2]; rw [if_pos trivial, take_yes s _ _ (by omega) hz h1 h43]; simp only [Option.bind_some, if_true]
 by_cases h45 : bt s (c + 1) = 45
 ·obtain rfl := hdd (.inr h45)
  refine Ev.step (f := fun k => (spec_reader_digits.f k s (c + 1 + 1)).bind fun t => some (t.1, t.2.1, t.2.2)) (fun k => ?_) (Ev.bind hD (Ev.now _))
  simp only [spec_reader_number.j2]; rw [if_pos trivial, take_no s _ _ (by omega) (by omega) hz (fun q => h43 q.2)]; simp only [Option.bind_some, if_true, Bool.false_eq_true, if_false]; rw [take_yes s _ _ (by omega) hz h1 h45]; simp only [Option.bind_some]
 obtain rfl : d = c + 1 := by
  rcases hd with rfl | ⟨rfl, q⟩
  ·rfl
  ·omega
 refine Ev.step (f := fun k => (spec_reader_digits.f k s (c + 1)).bind fun t => some (t.1, t.2.1, t.2.2)) (fun k => ?_) (Ev.bind hD (Ev.now _))
 simp only [spec_reader_number.j2]; rw [if_pos trivial, take_no s _ _ (by omega) (by omega) hz (fun q => h43 q.2)]; simp only [Option.bind_some, if_true, Bool.false_eq_true, if_false]; rw [take_no s _ _ (by omega) (by omega) hz (fun q => h45 q.2)]; simp only [Option.bind_some]
theorem j1_yes (s : ByteArray) (hz : s.size ≤ 65536) (c e : Int) (h0 : 0 ≤ c) (hce : c ≤ e) (h2 : e ≤ s.size) (h : ExpTo s c e) (ht : Tm s e) : Ev (fun k => spec_reader_number.j1 k false s c) (true, s, e) := by
 by_cases hx : c = e
 ·subst hx
  have n1 : ¬ (c < (s.size : Int) ∧ bt s c = 101) := fun q => (ht q.1).2.2.1 q.2
  have n2 : ¬ (c < (s.size : Int) ∧ bt s c = 69) := fun q => (ht q.1).2.2.2 q.2
  refine Ev.step (f := fun k => spec_reader_number.j2 k false s c) (fun k => ?_) (Ev.step (f := fun _ => some (true, s, c)) (fun k => by simp only [spec_reader_number.j2]; rw [if_neg (by simp)]) (Ev.now _))
  simp only [spec_reader_number.j1]; rw [if_neg (by simp), take_no s _ _ h0 h2 hz n1]; simp only [Option.bind_some, Bool.false_eq_true, if_false]; rw [take_no s _ _ h0 h2 hz n2]; simp only [Option.bind_some]
 obtain ⟨hc, d, hd, hde, hg⟩ := h.resolve_left hx
 have hk := j2t_yes s hz c d e h0 hd hde h2 hg ht
 by_cases h101 : bt s c = 101
 ·refine Ev.step (f := fun k => spec_reader_number.j2 k true s (c + 1)) (fun k => ?_) hk
  simp only [spec_reader_number.j1]; rw [if_neg (by simp), take_yes s _ _ h0 hz (by omega) h101]; simp only [Option.bind_some, if_true]
 have h69 := hc.resolve_left h101
 refine Ev.step (f := fun k => spec_reader_number.j2 k true s (c + 1)) (fun k => ?_) hk
 simp only [spec_reader_number.j1]; rw [if_neg (by simp), take_no s _ _ h0 (by omega) hz (fun q => h101 q.2)]; simp only [Option.bind_some, Bool.false_eq_true, if_false]; rw [take_yes s _ _ h0 hz (by omega) h69]; simp only [Option.bind_some]
theorem exp_nd {s : ByteArray} {c e : Int} (h : ExpTo s c e) (ht : Tm s e) : c < s.size → ¬ dig (bt s c) ∧ bt s c ≠ 46 := by
 intro hc
 by_cases hx : c = e
 ·subst hx; exact ⟨(ht hc).1, (ht hc).2.1⟩
 obtain ⟨h1, _⟩ := h.resolve_left hx
 unfold dig
 omega
theorem j0_yes (s : ByteArray) (hz : s.size ≤ 65536) (b c e : Int) (h0 : 0 ≤ b) (hbc : b ≤ c) (hce : c ≤ e) (h2 : e ≤ s.size) (hf : FracTo s b c) (h : ExpTo s c e) (ht : Tm s e) : Ev (fun k => spec_reader_number.j0 k false s b) (true, s, e) := by
 have hk := j1_yes s hz c e (by omega) hce h2 h ht
 by_cases hx : c = b
 rotate_left
 ·obtain ⟨h46, hlt, hg⟩ := hf.resolve_left hx
  have hD := digits_yes' s hz (b + 1) c (by omega) hlt (by omega) hg (fun q => (exp_nd h ht q).1)
  refine Ev.step (f := fun k => (spec_reader_digits.f k s (b + 1)).bind fun t => spec_reader_number.j1 k (!t.1) t.2.1 t.2.2) (fun k => ?_) (Ev.bind hD hk)
  simp only [spec_reader_number.j0]; rw [if_neg (by simp), take_yes s _ _ h0 hz (by omega) h46]; simp only [Option.bind_some, if_true]
 subst hx
 have n1 : ¬ (c < (s.size : Int) ∧ bt s c = 46) := fun q => (exp_nd h ht q.1).2 q.2
 refine Ev.step (f := fun k => spec_reader_number.j1 k false s c) (fun k => ?_) hk
 simp only [spec_reader_number.j0]; rw [if_neg (by simp), take_no s _ _ h0 (by omega) hz n1]; simp only [Option.bind_some, Bool.false_eq_true, if_false]
theorem number_yes (s : ByteArray) (hz : s.size ≤ 65536) (st e : Int) (h0 : 0 ≤ st) (h : NumG s st e) (ht : Tm s e) : Ev (fun k => spec_reader_number.f k s st) (true, s, e) := by
 obtain ⟨a, b, c, ha, hab, hbc, hce, h2, h48, hg, hf, hx⟩ := h
 have ha0 : 0 ≤ a := by rcases ha with ⟨rfl, _⟩ | ⟨rfl, _⟩ <;> omega
 have hk := j0_yes s hz b c e (by omega) hbc hce h2 hf hx ht
 have hnd : b < s.size → ¬ dig (bt s b) := fun q => by
  by_cases y : c = b
  ·subst y; exact (exp_nd hx ht q).1
  ·have := (hf.resolve_left y).1
   unfold dig; omega
 have hint : Ev (fun k => (spec_reader_take.f s a 48).bind fun t => (if t.1 = true then (spec_reader_number.j0 k false t.2.1 t.2.2) else ((spec_reader_digits.f k t.2.1 t.2.2).bind fun u => (spec_reader_number.j0 k (!u.1) u.2.1 u.2.2)))) (true, s, e) := by
  by_cases q : bt s a = 48
  rotate_left
  ·refine Ev.congr (f := fun k => (spec_reader_digits.f k s a).bind fun u => (spec_reader_number.j0 k (!u.1) u.2.1 u.2.2)) (fun k => ?_) (Ev.bind (digits_yes' s hz a b ha0 hab (by omega) hg hnd) hk)
   rw [take_no s _ _ ha0 (by omega) hz (fun r => q r.2)]; simp only [Option.bind_some, Bool.false_eq_true, if_false]
  obtain rfl := h48 q
  refine Ev.congr (f := fun k => spec_reader_number.j0 k false s (a + 1)) (fun k => ?_) hk
  rw [take_yes s _ _ ha0 hz (by omega) q]; simp only [Option.bind_some, if_true]
 rcases ha with ⟨rfl, hm⟩ | ⟨rfl, hm⟩
 ·refine Ev.congr (fun k => ?_) hint
  simp only [spec_reader_number.f]; rw [take_no s _ _ h0 (by omega) hz (fun q => hm q.2)]; simp only [Option.bind_some]
 ·refine Ev.congr (fun k => ?_) hint
  simp only [spec_reader_number.f]; rw [take_yes s _ _ h0 hz (by omega) hm]; simp only [Option.bind_some]
theorem esc_l0_yes (s : ByteArray) (hz : s.size ≤ 65536) : ∀ (d : Nat) (x p : Int), 0 ≤ x → x + d = 4 → 0 ≤ p → p + d ≤ s.size → (∀ i, p ≤ i → i < p + d → (hexv (bt s i)).isSome = true) → Ev (fun k => spec_reader_escape.l0 k x s p) (true, s, p + d) := by
 intro d
 induction d with
 | zero =>
  intro x p hx hd h0 h1 h
  refine Ev.step (f := fun _ => some (true, s, p)) (fun k => ?_) (Ev.congr (fun k => ?_) (Ev.now _))
  ·simp only [spec_reader_escape.l0]; rw [if_neg (by omega)]
  ·simp
 | succ d ih =>
  intro x p hx hd h0 h1 h
  have hv := hd_some (h p (by omega) (by omega))
  have hb : hr s p = bt s p := by rw [hr, if_pos (by omega)]
  refine Ev.step (f := fun k => (spec_hexDigit.f k (hr s p)).bind fun t => (if t.2 = true then (spec_reader_escape.l0 k (wrap64 (x + 1)) s (wrap64 (p + 1))) else (some (false, s, p)))) (fun k => ?_) (Ev.bind (by rw [hb]; exact hex_yes hv) (Ev.congr (f := fun k => spec_reader_escape.l0 k (x + 1) s (p + 1)) (fun k => ?_) ?_))
  ·simp only [spec_reader_escape.l0]; rw [if_pos (by omega), here_f s p h0]; simp only [Option.bind_some]
  ·simp only [if_true]; rw [w64 (by omega) (by omega), w64 (by omega) (by omega)]
  ·have := ih (x + 1) (p + 1) (by omega) (by omega) (by omega) (by omega) (fun i a b => h i (by omega) (by omega))
   rwa [show p + 1 + (d : Int) = p + ((d + 1 : Nat) : Int) by omega] at this
theorem esc_yes (s : ByteArray) (hz : s.size ≤ 65536) (p : Int) (h0 : 0 ≤ p) (h1 : p < s.size) (h : isEsc (bt s p)) : Ev (fun k => spec_reader_escape.f k s p) (true, s, p + 1) := by
 have hb : hr s p = bt s p := by rw [hr, if_pos h1]
 refine Ev.congr (f := fun k => spec_reader_escape.j0 k (bt s p) true s p) (fun k => ?_) (Ev.step (f := fun _ => some (true, s, p + 1)) (fun k => ?_) (Ev.now _))
 ·simp only [spec_reader_escape.f]; rw [here_f s p h0, hb]; simp only [Option.bind_some]
  rcases h with h | h | h | h | h | h | h | h <;> simp [h]
 ·simp only [spec_reader_escape.j0, if_true]; rw [w64 (by omega) (by omega)]
theorem uni_yes (s : ByteArray) (hz : s.size ≤ 65536) (p : Int) (h0 : 0 ≤ p) (h1 : p + 5 ≤ s.size) (h : bt s p = 117) (h4 : hex4 s (p + 1)) : Ev (fun k => spec_reader_escape.f k s p) (true, s, p + 5) := by
 have hb : hr s p = 117 := by rw [hr, if_pos (by omega), h]
 refine Ev.congr (f := fun k => spec_reader_escape.j0 k 117 false s p) (fun k => ?_) (Ev.step (f := fun k => spec_reader_escape.l0 k 0 s (p + 1)) (fun k => ?_) ?_)
 ·simp only [spec_reader_escape.f]; rw [here_f s p h0, hb]; simp only [Option.bind_some]; simp
 ·simp only [spec_reader_escape.j0, Bool.false_eq_true, if_false, if_true]; rw [w64 (by omega) (by omega)]
 ·have := esc_l0_yes s hz 4 0 (p + 1) (by omega) (by omega) (by omega) (by omega) (fun i a b => h4 i a (by omega))
  rwa [show p + 1 + ((4 : Nat) : Int) = p + 5 by omega] at this
theorem quo_yes (s : ByteArray) (hz : s.size ≤ 65536) (j : Int) (hj : bt s j = 34) (hjs : j < s.size) {i : Int} (h : Bod s j i) : 0 ≤ i → Ev (fun k => spec_reader_quoted.l0 k s i) (true, s, j + 1) := by
 induction h with
 | nil =>
  intro h0
  refine Ev.step (f := fun _ => some (true, s, j + 1)) (fun k => ?_) (Ev.now _)
  simp only [spec_reader_quoted.l0]; rw [if_pos hjs, if_pos h0, if_pos hj, w64 (by omega) (by omega)]
 | plain i a b c d e ih =>
  intro h0
  refine Ev.step (f := fun k => spec_reader_quoted.l0 k s (i + 1)) (fun k => ?_) (ih (by omega))
  simp only [spec_reader_quoted.l0]; rw [if_pos (by omega), if_pos h0, if_neg b, if_neg (by omega), if_neg c, w64 (by omega) (by omega)]
 | esc i a b c d ih =>
  intro h0
  refine Ev.step (f := fun k => (spec_reader_escape.f k s (i + 1)).bind fun t => (if t.1 = true then (spec_reader_quoted.l0 k t.2.1 t.2.2) else (some (false, t.2.1, t.2.2)))) (fun k => ?_) (Ev.bind (esc_yes s hz (i + 1) (by omega) (by omega) c) (Ev.congr (fun k => ?_) (ih (by omega))))
  ·simp only [spec_reader_quoted.l0]; rw [if_pos (by omega), if_pos h0, if_neg (by omega), if_neg (by omega), if_pos b, w64 (by omega) (by omega)]
  ·(try dsimp only); rw [if_pos rfl, show i + 1 + 1 = i + 2 by omega]
 | uni i a b c d e ih =>
  intro h0
  refine Ev.step (f := fun k => (spec_reader_escape.f k s (i + 1)).bind fun t => (if t.1 = true then (spec_reader_quoted.l0 k t.2.1 t.2.2) else (some (false, t.2.1, t.2.2)))) (fun k => ?_) (Ev.bind (uni_yes s hz (i + 1) (by omega) (by omega) c (by rw [show i + 1 + 1 = i + 2 by omega]; exact d)) (Ev.congr (fun k => ?_) (ih (by omega))))
  ·simp only [spec_reader_quoted.l0]; rw [if_pos (by omega), if_pos h0, if_neg (by omega), if_neg (by omega), if_pos b, w64 (by omega) (by omega)]
  ·(try dsimp only); rw [if_pos rfl, show i + 1 + 5 = i + 6 by omega]
theorem quoted_yes (s : ByteArray) (hz : s.size ≤ 65536) (p e : Int) (h : Str s p e) : Ev (fun k => spec_reader_quoted.f k s p) (true, s, e) := by
 obtain ⟨h0, _, j, rfl, h1, h2, h3, h4⟩ := h
 refine Ev.congr (fun k => ?_) (quo_yes s hz j h3 (by omega) h4 (by omega))
 simp only [spec_reader_quoted.f]; rw [w64 (by omega) (by omega)]
theorem word_yes (s : ByteArray) (hz : s.size ≤ 65536) (p e : Int) (l : ByteArray) (h0 : 0 ≤ p) (hl : l.size ≤ 10) (h : Wd s p e l) : spec_reader_word.f s p l = some (true, s, e) := by
 obtain ⟨rfl, h2, h3⟩ := h
 unfold spec_reader_word.f
 rw [w64 (x := (s.size : Int) - p) (by omega) (by omega), if_neg (by omega), if_pos h0, w64 (by omega) (by omega), if_pos (by omega), if_pos h2, if_pos h3]
theorem blanks_yes (s : ByteArray) (hz : s.size ≤ 65536) (a b : Int) (h0 : 0 ≤ a) (h : Bl s a b) (hb : b ≤ s.size) (hn : b < s.size → ¬ isB (bt s b)) : Ev (fun k => spec_reader_blanks.f k s a) (s, b) := by
 obtain ⟨e, he, x, y, z, t⟩ := blanksf_ev s hz a h0 (by have := h.1; omega)
 have : e = b := by
  by_cases c : e < b
  ·exact absurd (h.2 e x c) (t (by omega))
  by_cases d : b < e
  ·exact absurd (z b h.1 d) (hn (by omega))
  ·omega
 subst this; exact he
theorem wd_ext {s l : ByteArray} {p e : Int} (h : Wd s p e l) : s.extract p.toNat e.toNat = l := by
 obtain ⟨_, _, h⟩ := h
 rw [ByteArray.toList_eq, ByteArray.toList_eq] at h
 exact ByteArray.ext (Array.toList_inj.1 h)
theorem wd_bt {s l : ByteArray} {p e : Int} (h0 : 0 ≤ p) (h : Wd s p e l) (i : Int) (hi : 0 ≤ i) (hi2 : i < l.size) : bt s (p + i) = bt l i := by
 have e1 := wd_ext h
 obtain ⟨rfl, h2, _⟩ := h
 have := bt_extract s p.toNat (p + (l.size : Int)).toNat i hi (by omega) (by omega)
 rw [e1] at this
 rw [this]
 congr 1
 omega
def V0 (x : Int) : Prop := x = 123 ∨ x = 91 ∨ x = 34 ∨ x = 45 ∨ dig x ∨ x = 110 ∨ x = 102 ∨ x = 116
def It.hd (s : ByteArray) : It → Prop
 | .val q => V0 (bt s q.f1)
 | .els p C e => V0 (bt s p)
 | .mems p N C e => bt s p = 34
theorem G.hd {s : ByteArray} {it : It} (h : G s it) : it.hd s := by
 induction h with
 | num p e h0 h =>
  obtain ⟨a, b, c, ha, hab, hbc, hce, h2, h48, hg, _⟩ := h
  rcases ha with ⟨rfl, _⟩ | ⟨rfl, hm⟩
  ·exact .inr (.inr (.inr (.inr (.inl (hg a (by omega) hab)))))
  ·exact .inr (.inr (.inr (.inl hm)))
 | str p e h => exact .inr (.inr (.inl h.2.1))
 | null p e h0 h =>
  have := wd_bt h0 h 0 (by omega) (by decide)
  rw [Int.add_zero] at this
  exact .inr (.inr (.inr (.inr (.inr (.inl (by show bt s p = 110; rw [this]; rfl))))))
 | fals p e h0 h =>
  have := wd_bt h0 h 0 (by omega) (by decide)
  rw [Int.add_zero] at this
  exact .inr (.inr (.inr (.inr (.inr (.inr (.inl (by show bt s p = 102; rw [this]; rfl)))))))
 | tru p e h0 h =>
  have := wd_bt h0 h 0 (by omega) (by decide)
  rw [Int.add_zero] at this
  exact .inr (.inr (.inr (.inr (.inr (.inr (.inr (by show bt s p = 116; rw [this]; rfl)))))))
 | arr0 p b h0 h1 => exact .inr (.inl h1)
 | arr p b e C h0 h1 => exact .inr (.inl h1)
 | obj0 p b h0 h1 => exact .inl h1
 | obj p b e N C h0 h1 => exact .inl h1
 | els1 c b h0 h1 h2 h3 ih => exact ih
 | elsn c b p e C h0 h1 h2 h3 h4 h5 ih ih2 => exact ih
 | mem1 n c b x h0 => exact h0.2.1
 | memn n c b x p e N C h0 => exact h0.2.1
theorem V0.nb {x : Int} (h : V0 x) : ¬ isB x ∧ x ≠ 93 ∧ x ≠ 125 ∧ x ≠ 44 := by
 unfold V0 dig at h
 unfold isB
 omega
theorem Tm_of_Bl {s : ByteArray} {a b : Int} (h : Bl s a b) (hb : bt s b = 93 ∨ bt s b = 44 ∨ bt s b = 125) : Tm s a := by
 intro ha
 by_cases e : a = b
 ·subst e; unfold dig; omega
 have := h.2 a (by omega) (by have := h.1; omega)
 unfold isB at this
 unfold dig; omega
def It.goes (s : ByteArray) : It → Prop
 | .val q => (q.f0 = 3 → Tm s q.f2) → Ev (fun k => spec_reader_value.f k s q.f1) (q.f0, q.f1, q.f2, q.f3, q.f4, true, s, q.f2)
 | .els p C e => ∀ D : List S78, D.length + C.length ≤ 1000000 → Ev (fun k => spec_reader_elements.l0 k D s p) (D ++ C, true, s, e)
 | .mems p N C e => ∀ (M : List S115) (D : List S78), M.length + N.length ≤ 1000000 → D.length + C.length ≤ 1000000 → Ev (fun k => spec_reader_members.l0 k M D s p) (M ++ N, D ++ C, true, s, e)
theorem hr_at {s : ByteArray} {p : Int} (h : p < s.size) : hr s p = bt s p := by rw [hr, if_pos h]
theorem num_val (s : ByteArray) (hz : s.size ≤ 65536) (p e : Int) (h0 : 0 ≤ p) (h : NumG s p e) (ht : Tm s e) : Ev (fun k => spec_reader_value.f k s p) (3, p, e, [], [], true, s, e) := by
 have hp : p < s.size := by
  obtain ⟨a, b, c, ha, hab, hbc, hce, h2, _⟩ := h
  rcases ha with ⟨rfl, _⟩ | ⟨rfl, _⟩ <;> omega
 have hd : bt s p = 45 ∨ dig (bt s p) := by
  obtain ⟨a, b, c, ha, hab, hbc, hce, h2, h48, hg, _⟩ := h
  rcases ha with ⟨rfl, _⟩ | ⟨rfl, hm⟩
  ·exact .inr (hg a (by omega) hab)
  ·exact .inl hm
 have hN := number_yes s hz p e h0 h ht
 refine Ev.step (f := fun k => spec_reader_value.j0 k true true s p 0 p 0) (fun k => ?_) (Ev.step (f := fun k => (spec_reader_number.f k s p).bind fun t => some (3, p, t.2.2, [], [], t.1, t.2.1, t.2.2)) (fun k => by simp only [spec_reader_value.j0, if_true]) (Ev.bind hN (Ev.now _)))
 have hb := hr_at hp
 simp only [spec_reader_value.f]; rw [here_f s p h0, hb]; simp only [Option.bind_some]
 unfold dig at hd
 rw [if_neg (by omega), if_neg (by omega), if_neg (by omega)]
 by_cases c4 : bt s p = 45
 ·rw [if_pos c4]
 ·rw [if_neg c4, if_pos (by omega), decide_eq_true (by omega)]
theorem word_val (s : ByteArray) (hz : s.size ≤ 65536) (p : Int) (h0 : 0 ≤ p) (hp : p < s.size) (h : bt s p = 110 ∨ bt s p = 102 ∨ bt s p = 116) {r : Int × Int × Int × List S115 × List S78 × Bool × ByteArray × Int} (hk : Ev (fun k => spec_reader_value.j0 k true false s p 0 p 0) r) : Ev (fun k => spec_reader_value.f k s p) r := by
 refine Ev.step (fun k => ?_) hk
 simp only [spec_reader_value.f]; rw [here_f s p h0, hr_at hp]; simp only [Option.bind_some]
 rw [if_neg (by omega), if_neg (by omega), if_neg (by omega), if_neg (by omega), if_pos (by omega), decide_eq_false (by omega)]
theorem word_no (s : ByteArray) (hz : s.size ≤ 65536) (p : Int) (l : ByteArray) (h0 : 0 ≤ p) (h1 : p ≤ s.size) (hl : l.size ≤ 10) (hl0 : 0 < l.size) (h : bt s p ≠ bt l 0) : spec_reader_word.f s p l = some (false, s, p) := by
 rcases word_ev s hz p l h0 h1 hl with ⟨_, hW⟩ | hw
 rotate_left
 ·exact hw
 have := wd_bt h0 hW 0 (by omega) (by omega)
 rw [Int.add_zero] at this
 exact absurd this h
theorem s78_eta (c : S78) : (⟨c.f0, c.f1, c.f2, c.f3, c.f4⟩ : S78) = c := by cases c; rfl
theorem el_step (s : ByteArray) (hz : s.size ≤ 65536) (c : S78) (b : Int) (D : List S78) (hD : D.length ≤ 1000000) (h0 : 0 ≤ c.f2) (hv : Ev (fun k => spec_reader_value.f k s c.f1) (c.f0, c.f1, c.f2, c.f3, c.f4, true, s, c.f2)) (hb : Bl s c.f2 b) (hb1 : b < s.size) (hn : ¬ isB (bt s b)) {r : List S78 × Bool × ByteArray × Int}
  (hk : Ev (fun k => (spec_reader_take.f s b 93).bind fun u => (if u.1 = true then (some (D ++ [c], true, u.2.1, u.2.2)) else ((spec_reader_take.f u.2.1 u.2.2 44).bind fun v => (if v.1 = true then ((spec_reader_blanks.f k v.2.1 v.2.2).bind fun z => (spec_reader_elements.l0 k (D ++ [c]) z.1 z.2)) else (some (([] : List (S78)), false, v.2.1, v.2.2)))))) r) :
  Ev (fun k => spec_reader_elements.l0 k D s c.f1) r := by
 refine Ev.step (f := fun k => (spec_reader_value.f k s c.f1).bind fun t => (if t.2.2.2.2.2.1 = true then (if D.length < 1954687338268 then ((some (D ++ [(⟨t.1, t.2.1, t.2.2.1, t.2.2.2.1, t.2.2.2.2.1⟩ : S78)] : List (S78))).bind fun y => ((spec_reader_blanks.f k t.2.2.2.2.2.2.1 t.2.2.2.2.2.2.2).bind fun b => ((spec_reader_take.f b.1 b.2 93).bind fun u => (if u.1 = true then (some (y, true, u.2.1, u.2.2)) else ((spec_reader_take.f u.2.1 u.2.2 44).bind fun v => (if v.1 = true then ((spec_reader_blanks.f k v.2.1 v.2.2).bind fun z => (spec_reader_elements.l0 k y z.1 z.2)) else (some (([] : List (S78)), false, v.2.1, v.2.2)))))))) else (none)) else (some (([] : List (S78)), false, t.2.2.2.2.2.2.1, t.2.2.2.2.2.2.2)))) (fun k => ?_) (Ev.bind hv ?_)
 ·simp only [spec_reader_elements.l0]
 refine Ev.congr (f := fun k => (spec_reader_blanks.f k s c.f2).bind fun b => ((spec_reader_take.f b.1 b.2 93).bind fun u => (if u.1 = true then (some (D ++ [c], true, u.2.1, u.2.2)) else ((spec_reader_take.f u.2.1 u.2.2 44).bind fun v => (if v.1 = true then ((spec_reader_blanks.f k v.2.1 v.2.2).bind fun z => (spec_reader_elements.l0 k (D ++ [c]) z.1 z.2)) else (some (([] : List (S78)), false, v.2.1, v.2.2))))))) (fun k => ?_) (Ev.bind (blanks_yes s hz _ b h0 hb (by omega) (fun _ => hn)) hk)
 simp only [if_true]; rw [if_pos (by omega)]; simp only [Option.bind_some]; rw [s78_eta]
theorem me_step (s : ByteArray) (hz : s.size ≤ 65536) (n : S115) (c : S78) (b x : Int) (M : List S115) (D : List S78) (hM : M.length ≤ 1000000) (hD : D.length ≤ 1000000) (hs : Str s n.f0 n.f1) (hb : Bl s n.f1 b) (h58 : bt s b = 58) (hy : Bl s (b + 1) c.f1) (hV : V0 (bt s c.f1)) (h0 : c.f1 < c.f2) (hc2 : c.f2 ≤ s.size)
  (hv : Ev (fun k => spec_reader_value.f k s c.f1) (c.f0, c.f1, c.f2, c.f3, c.f4, true, s, c.f2)) (hx : Bl s c.f2 x) (hx1 : x < s.size) (hn : ¬ isB (bt s x)) {r : List S115 × List S78 × Bool × ByteArray × Int}
  (hk : Ev (fun k => (spec_reader_take.f s x 125).bind fun u => (if u.1 = true then (some (M ++ [n], D ++ [c], true, u.2.1, u.2.2)) else ((spec_reader_take.f u.2.1 u.2.2 44).bind fun v => (if v.1 = true then ((spec_reader_blanks.f k v.2.1 v.2.2).bind fun z => (spec_reader_members.l0 k (M ++ [n]) (D ++ [c]) z.1 z.2)) else (some (([] : List (S115)), ([] : List (S78)), false, v.2.1, v.2.2)))))) r) :
  Ev (fun k => spec_reader_members.l0 k M D s n.f0) r := by
 have q1 := hb.1
 have q2 := hy.1
 have q3 := hx.1
 have hq := quoted_yes s hz n.f0 n.f1 hs
 obtain ⟨h00, h34, j, r1, r2, r3, _⟩ := hs
 refine Ev.step (f := fun k => (spec_reader_quoted.f k s n.f0).bind fun t => (spec_reader_members.j1 k M D n.f0 (!t.1) t.2.1 t.2.2)) (fun k => ?_) (Ev.bind hq ?_)
 ·simp only [spec_reader_members.l0]; rw [here_f s _ h00]; simp only [Option.bind_some]; rw [if_pos (by rw [hr_at (by omega)]; exact h34)]
 refine Ev.step (f := fun k => (spec_reader_blanks.f k s n.f1).bind fun b => ((spec_reader_take.f b.1 b.2 58).bind fun t => (if t.1 = true then ((spec_reader_blanks.f k t.2.1 t.2.2).bind fun y => ((spec_reader_value.f k y.1 y.2).bind fun v => (if v.2.2.2.2.2.1 = true then (if D.length < 1954687338268 then ((some (D ++ [(⟨v.1, v.2.1, v.2.2.1, v.2.2.2.1, v.2.2.2.2.1⟩ : S78)] : List (S78))).bind fun y186 => ((spec_reader_blanks.f k v.2.2.2.2.2.2.1 v.2.2.2.2.2.2.2).bind fun bt189 => ((spec_reader_take.f bt189.1 bt189.2 125).bind fun bt191 => (if bt191.1 = true then (some (M ++ [n], y186, true, bt191.2.1, bt191.2.2)) else ((spec_reader_take.f bt191.2.1 bt191.2.2 44).bind fun bt194 => (if bt194.1 = true then ((spec_reader_blanks.f k bt194.2.1 bt194.2.2).bind fun bt197 => (spec_reader_members.l0 k (M ++ [n]) y186 bt197.1 bt197.2)) else (some (([] : List (S115)), ([] : List (S78)), false, bt194.2.1, bt194.2.2)))))))) else (none)) else (some (([] : List (S115)), ([] : List (S78)), false, v.2.2.2.2.2.2.1, v.2.2.2.2.2.2.2))))) else (some (([] : List (S115)), ([] : List (S78)), false, t.2.1, t.2.2))))) (fun k => ?_) (Ev.bind (blanks_yes s hz _ b (by omega) hb (by omega) (fun _ => by unfold isB; omega)) ?_)
 ·simp only [spec_reader_members.j1, Bool.not_true, Bool.false_eq_true, if_false]; rw [if_pos (by omega)]; simp only [Option.bind_some]
 refine Ev.congr (f := fun k => (spec_reader_blanks.f k s (b + 1)).bind fun y => ((spec_reader_value.f k y.1 y.2).bind fun v => (if v.2.2.2.2.2.1 = true then (if D.length < 1954687338268 then ((some (D ++ [(⟨v.1, v.2.1, v.2.2.1, v.2.2.2.1, v.2.2.2.2.1⟩ : S78)] : List (S78))).bind fun y186 => ((spec_reader_blanks.f k v.2.2.2.2.2.2.1 v.2.2.2.2.2.2.2).bind fun bt189 => ((spec_reader_take.f bt189.1 bt189.2 125).bind fun bt191 => (if bt191.1 = true then (some (M ++ [n], y186, true, bt191.2.1, bt191.2.2)) else ((spec_reader_take.f bt191.2.1 bt191.2.2 44).bind fun bt194 => (if bt194.1 = true then ((spec_reader_blanks.f k bt194.2.1 bt194.2.2).bind fun bt197 => (spec_reader_members.l0 k (M ++ [n]) y186 bt197.1 bt197.2)) else (some (([] : List (S115)), ([] : List (S78)), false, bt194.2.1, bt194.2.2)))))))) else (none)) else (some (([] : List (S115)), ([] : List (S78)), false, v.2.2.2.2.2.2.1, v.2.2.2.2.2.2.2))))) (fun k => ?_) (Ev.bind (blanks_yes s hz _ c.f1 (by omega) hy (by omega) (fun _ => (V0.nb hV).1)) (Ev.bind hv ?_))
 ·rw [take_yes s b 58 (by omega) hz (by omega) h58]; simp only [Option.bind_some, if_true]
 refine Ev.congr (f := fun k => (spec_reader_blanks.f k s c.f2).bind fun bt189 => ((spec_reader_take.f bt189.1 bt189.2 125).bind fun u => (if u.1 = true then (some (M ++ [n], D ++ [c], true, u.2.1, u.2.2)) else ((spec_reader_take.f u.2.1 u.2.2 44).bind fun v => (if v.1 = true then ((spec_reader_blanks.f k v.2.1 v.2.2).bind fun z => (spec_reader_members.l0 k (M ++ [n]) (D ++ [c]) z.1 z.2)) else (some (([] : List (S115)), ([] : List (S78)), false, v.2.1, v.2.2))))))) (fun k => ?_) (Ev.bind (blanks_yes s hz _ x (by omega) hx (by omega) (fun _ => hn)) hk)
 simp only [if_true]; rw [if_pos (by omega)]; simp only [Option.bind_some]; rw [s78_eta]
theorem G.goes {s : ByteArray} (hz : s.size ≤ 65536) {it : It} (h : G s it) : it.goes s := by
 induction h with
 | num p e h0 h => exact fun ht => num_val s hz p e h0 h (ht rfl)
 | str p e h =>
  intro _
  have h' := h
  obtain ⟨h0, h34, j, h1, h2, h3, _⟩ := h
  refine Ev.step (f := fun k => (spec_reader_quoted.f k s p).bind fun t => some (4, p, t.2.2, [], [], t.1, t.2.1, t.2.2)) (fun k => ?_) (Ev.bind (quoted_yes s hz p e h') (Ev.now _))
  simp only [spec_reader_value.f]; rw [here_f s p h0, hr_at (by omega), h34]; simp only [Option.bind_some]; simp
 | null p e h0 h =>
  intro _
  have e0 := wd_bt h0 h 0 (by omega) (by decide)
  rw [Int.add_zero] at e0
  have hz4 : wNull.size = 4 := rfl
  refine word_val s hz p h0 (by have := h.1; have := h.2.1; omega) (.inl (by rw [e0]; rfl)) (Ev.step (f := fun k => some (0, p, e, [], [], true, s, e)) (fun k => ?_) (Ev.now _))
  simp only [spec_reader_value.j0, Bool.false_eq_true, if_false]
  rw [show (⟨#[110, 117, 108, 108]⟩ : ByteArray) = wNull from rfl, word_yes s hz p e wNull h0 (by decide) h]; simp only [Option.bind_some, if_true]
 | fals p e h0 h =>
  intro _
  have e0 := wd_bt h0 h 0 (by omega) (by decide)
  rw [Int.add_zero] at e0
  have e1 : bt s p = 102 := by rw [e0]; rfl
  have hz4 : wFalse.size = 5 := rfl
  have hps : p ≤ s.size := by have := h.1; have := h.2.1; omega
  refine word_val s hz p h0 (by have := h.1; have := h.2.1; omega) (.inr (.inl e1)) (Ev.step (f := fun k => some (1, p, e, [], [], true, s, e)) (fun k => ?_) (Ev.now _))
  simp only [spec_reader_value.j0, Bool.false_eq_true, if_false]
  rw [show (⟨#[110, 117, 108, 108]⟩ : ByteArray) = wNull from rfl, word_no s hz p wNull h0 hps (by decide) (by decide) (by rw [e1]; decide)]; simp only [Option.bind_some, Bool.false_eq_true, if_false]
  rw [show (⟨#[102, 97, 108, 115, 101]⟩ : ByteArray) = wFalse from rfl, word_yes s hz p e wFalse h0 (by decide) h]; simp only [Option.bind_some, if_true]
 | tru p e h0 h =>
  intro _
  have e0 := wd_bt h0 h 0 (by omega) (by decide)
  rw [Int.add_zero] at e0
  have e1 : bt s p = 116 := by rw [e0]; rfl
  have hz4 : wTrue.size = 4 := rfl
  have hps : p ≤ s.size := by have := h.1; have := h.2.1; omega
  refine word_val s hz p h0 (by have := h.1; have := h.2.1; omega) (.inr (.inr e1)) (Ev.step (f := fun k => some (2, p, e, [], [], true, s, e)) (fun k => ?_) (Ev.now _))
  simp only [spec_reader_value.j0, Bool.false_eq_true, if_false]
  rw [show (⟨#[110, 117, 108, 108]⟩ : ByteArray) = wNull from rfl, word_no s hz p wNull h0 hps (by decide) (by decide) (by rw [e1]; decide)]; simp only [Option.bind_some, Bool.false_eq_true, if_false]
  rw [show (⟨#[102, 97, 108, 115, 101]⟩ : ByteArray) = wFalse from rfl, word_no s hz p wFalse h0 hps (by decide) (by decide) (by rw [e1]; decide)]; simp only [Option.bind_some, Bool.false_eq_true, if_false]
  rw [show (⟨#[116, 114, 117, 101]⟩ : ByteArray) = wTrue from rfl, word_yes s hz p e wTrue h0 (by decide) h]; simp only [Option.bind_some, if_true]
 | arr0 p b h0 h1 h2 h3 h4 =>
  intro _
  have := h2.1
  have hE : Ev (fun k => spec_reader_elements.f k s p) ([], true, s, b + 1) := by
   refine Ev.step (f := fun k => (spec_reader_blanks.f k s (p + 1)).bind fun b => ((spec_reader_take.f b.1 b.2 93).bind fun t => (if t.1 = true then (some (([] : List (S78)), true, t.2.1, t.2.2)) else (spec_reader_elements.l0 k ([] : List (S78)) t.2.1 t.2.2)))) (fun k => ?_) (Ev.bind (blanks_yes s hz (p + 1) b (by omega) h2 (by omega) (fun _ => by unfold isB; omega)) (Ev.congr (fun k => ?_) (Ev.now _)))
   ·simp only [spec_reader_elements.f]; rw [w64 (by omega) (by omega)]
   ·rw [take_yes s b 93 (by omega) hz h3 h4]; simp only [Option.bind_some, if_true]
  refine Ev.step (f := fun k => (spec_reader_elements.f k s p).bind fun t => some (5, p, t.2.2.2, [], t.1, t.2.1, t.2.2.1, t.2.2.2)) (fun k => ?_) (Ev.bind hE (Ev.now _))
  simp only [spec_reader_value.f]; rw [here_f s p h0, hr_at (by omega), h1]; simp only [Option.bind_some]; simp
 | arr p b e C h0 h1 h2 h3 ih =>
  intro _
  have := h2.1
  have hok := h3.ok
  obtain ⟨hn, hn2, _⟩ := V0.nb h3.hd
  obtain ⟨k0, k1, k2, k3⟩ := hok
  have hE : Ev (fun k => spec_reader_elements.f k s p) (C, true, s, e) := by
   refine Ev.step (f := fun k => (spec_reader_blanks.f k s (p + 1)).bind fun b => ((spec_reader_take.f b.1 b.2 93).bind fun t => (if t.1 = true then (some (([] : List (S78)), true, t.2.1, t.2.2)) else (spec_reader_elements.l0 k ([] : List (S78)) t.2.1 t.2.2)))) (fun k => ?_) (Ev.bind (blanks_yes s hz (p + 1) b (by omega) h2 (by omega) (fun _ => hn)) (Ev.congr (fun k => ?_) (ih [] (by simp; omega))))
   ·simp only [spec_reader_elements.f]; rw [w64 (by omega) (by omega)]
   ·rw [take_no s b 93 (by omega) (by omega) hz (fun q => hn2 q.2)]; simp only [Option.bind_some, Bool.false_eq_true, if_false]
  refine Ev.step (f := fun k => (spec_reader_elements.f k s p).bind fun t => some (5, p, t.2.2.2, [], t.1, t.2.1, t.2.2.1, t.2.2.2)) (fun k => ?_) (Ev.bind hE (Ev.now _))
  simp only [spec_reader_value.f]; rw [here_f s p h0, hr_at (by omega), h1]; simp only [Option.bind_some]; simp
 | obj0 p b h0 h1 h2 h3 h4 =>
  intro _
  have := h2.1
  have hE : Ev (fun k => spec_reader_members.f k s p) ([], [], true, s, b + 1) := by
   refine Ev.step (f := fun k => (spec_reader_blanks.f k s (p + 1)).bind fun b => ((spec_reader_take.f b.1 b.2 125).bind fun t => (if t.1 = true then (some (([] : List (S115)), ([] : List (S78)), true, t.2.1, t.2.2)) else (spec_reader_members.l0 k ([] : List (S115)) ([] : List (S78)) t.2.1 t.2.2)))) (fun k => ?_) (Ev.bind (blanks_yes s hz (p + 1) b (by omega) h2 (by omega) (fun _ => by unfold isB; omega)) (Ev.congr (fun k => ?_) (Ev.now _)))
   ·simp only [spec_reader_members.f]; rw [w64 (by omega) (by omega)]
   ·rw [take_yes s b 125 (by omega) hz h3 h4]; simp only [Option.bind_some, if_true]
  refine Ev.step (f := fun k => (spec_reader_members.f k s p).bind fun t => some (6, p, t.2.2.2.2, t.1, t.2.1, t.2.2.1, t.2.2.2.1, t.2.2.2.2)) (fun k => ?_) (Ev.bind hE (Ev.now _))
  simp only [spec_reader_value.f]; rw [here_f s p h0, hr_at (by omega), h1]; simp only [Option.bind_some]; simp
 | obj p b e N C h0 h1 h2 h3 ih =>
  intro _
  have := h2.1
  have hh : bt s b = 34 := h3.hd
  obtain ⟨k0, k1, k2, k3, k4⟩ := h3.ok
  have hE : Ev (fun k => spec_reader_members.f k s p) (N, C, true, s, e) := by
   refine Ev.step (f := fun k => (spec_reader_blanks.f k s (p + 1)).bind fun b => ((spec_reader_take.f b.1 b.2 125).bind fun t => (if t.1 = true then (some (([] : List (S115)), ([] : List (S78)), true, t.2.1, t.2.2)) else (spec_reader_members.l0 k ([] : List (S115)) ([] : List (S78)) t.2.1 t.2.2)))) (fun k => ?_) (Ev.bind (blanks_yes s hz (p + 1) b (by omega) h2 (by omega) (fun _ => by unfold isB; omega)) (Ev.congr (fun k => ?_) (ih [] [] (by simp; omega) (by simp; omega))))
   ·simp only [spec_reader_members.f]; rw [w64 (by omega) (by omega)]
   ·rw [take_no s b 125 (by omega) (by omega) hz (fun q => by omega)]; simp only [Option.bind_some, Bool.false_eq_true, if_false]
  refine Ev.step (f := fun k => (spec_reader_members.f k s p).bind fun t => some (6, p, t.2.2.2.2, t.1, t.2.1, t.2.2.1, t.2.2.2.1, t.2.2.2.2)) (fun k => ?_) (Ev.bind hE (Ev.now _))
  simp only [spec_reader_value.f]; rw [here_f s p h0, hr_at (by omega), h1]; simp only [Option.bind_some]; simp
 | els1 c b h0 h1 h2 h3 ih =>
  intro D hD
  simp only [List.length_cons, List.length_nil] at hD
  have := h1.1
  obtain ⟨i0, i1, i2, i3⟩ := h0.ok
  refine el_step s hz c b D (by omega) (by omega) (ih (fun _ => Tm_of_Bl h1 (.inl h3))) h1 h2 (by unfold isB; omega) (Ev.congr (fun k => ?_) (Ev.now _))
  rw [take_yes s b 93 (by omega) hz h2 h3]; simp only [Option.bind_some, if_true]
 | elsn c b p e C h0 h1 h2 h3 h4 h5 ih ih2 =>
  intro D hD
  simp only [List.length_cons] at hD
  have := h1.1
  have := h4.1
  obtain ⟨i0, i1, i2, i3⟩ := h0.ok
  obtain ⟨j0, j1, j2, j3⟩ := h5.ok
  have hk := ih2 (D ++ [c]) (by simp; omega)
  rw [List.append_assoc, List.singleton_append] at hk
  refine el_step s hz c b D (by omega) (by omega) (ih (fun _ => Tm_of_Bl h1 (.inr (.inl h3)))) h1 h2 (by unfold isB; omega) (Ev.congr (f := fun k => (spec_reader_blanks.f k s (b + 1)).bind fun z => (spec_reader_elements.l0 k (D ++ [c]) z.1 z.2)) (fun k => ?_) (Ev.bind (blanks_yes s hz _ p (by omega) h4 (by omega) (fun _ => (V0.nb h5.hd).1)) hk))
  rw [take_no s b 93 (by omega) (by omega) hz (fun q => by omega)]; simp only [Option.bind_some, Bool.false_eq_true, if_false]; rw [take_yes s b 44 (by omega) hz h2 h3]; simp only [Option.bind_some, if_true]
 | mem1 n c b x h0 h1 h2 h3 h4 h5 h6 h7 ih =>
  intro M D hM hD
  simp only [List.length_cons, List.length_nil] at hD hM
  have := h5.1
  obtain ⟨i0, i1, i2, i3⟩ := h4.ok
  refine me_step s hz n c b x M D (by omega) (by omega) h0 h1 h2 h3 h4.hd i1 i2 (ih (fun _ => Tm_of_Bl h5 (.inr (.inr h7)))) h5 h6 (by unfold isB; omega) (Ev.congr (fun k => ?_) (Ev.now _))
  rw [take_yes s x 125 (by omega) hz h6 h7]; simp only [Option.bind_some, if_true]
 | memn n c b x p e N C h0 h1 h2 h3 h4 h5 h6 h7 h8 h9 ih ih2 =>
  intro M D hM hD
  simp only [List.length_cons] at hD hM
  have := h5.1
  have := h8.1
  obtain ⟨i0, i1, i2, i3⟩ := h4.ok
  obtain ⟨j0, j1, j2, j3, j4⟩ := h9.ok
  have hh : bt s p = 34 := h9.hd
  have hk := ih2 (M ++ [n]) (D ++ [c]) (by simp; omega) (by simp; omega)
  rw [List.append_assoc, List.singleton_append, List.append_assoc, List.singleton_append] at hk
  refine me_step s hz n c b x M D (by omega) (by omega) h0 h1 h2 h3 h4.hd i1 i2 (ih (fun _ => Tm_of_Bl h5 (.inr (.inl h7)))) h5 h6 (by unfold isB; omega) (Ev.congr (f := fun k => (spec_reader_blanks.f k s (x + 1)).bind fun z => (spec_reader_members.l0 k (M ++ [n]) (D ++ [c]) z.1 z.2)) (fun k => ?_) (Ev.bind (blanks_yes s hz _ p (by omega) h8 (by omega) (fun _ => by unfold isB; omega)) hk))
  rw [take_no s x 125 (by omega) (by omega) hz (fun q => by omega)]; simp only [Option.bind_some, Bool.false_eq_true, if_false]; rw [take_yes s x 44 (by omega) hz h6 h7]; simp only [Option.bind_some, if_true]
end Go.Proofs.YtgiioglmkogpkaaGreatDoor.V
namespace Go.Proofs.YtgiioglmkogpkaaGreatDoor.M
open Go.RowKit Go.Proofs.YtgiioglmkogpkaaGreatDoorW.PrintWords Go.Proofs.YtgiioglmkogpkaaGreatDoorW.PrintLast Go.Proofs.YtgiioglmkogpkaaGreatDoorW.PrintMore
attribute [local go_sem] max2_int min2_int max_two min_two max_three min_three max_four min_four
mutual
def spec_Tree.j0 : Nat → ByteArray → Int → Int → Int → List (S115) → List (S78) → Int → ByteArray → Option (Int × ByteArray × List ByteArray × (List (S25)))
 | 0, _, _, _, _, _, _, _, _ => none
 | k + 1, x0, x341000, x341001, x341002, x341003, x341004, x343000, x343001 => spec_Tree.l0 k x0 0 x341000 x341001 x341002 x341003 x341004 x343000 x343001 ([] : List ByteArray)
def spec_Tree.l0 : Nat → ByteArray → Int → Int → Int → Int → List (S115) → List (S78) → Int → ByteArray → List ByteArray → Option (Int × ByteArray × List ByteArray × (List (S25)))
 | 0, _, _, _, _, _, _, _, _, _, _ => none
 | k + 1, x0, x6, x341000, x341001, x341002, x341003, x341004, x343000, x343001, x343002 => if x6 < (x341003.length : Int) then (if 0 ≤ x6 then (if 0 ≤ ((rd_T115 x341003 x6).f0) then (if ((rd_T115 x341003 x6).f0) ≤ ((rd_T115 x341003 x6).f1) then (if ((rd_T115 x341003 x6).f1) ≤ (x0.size : Int) then ((spec_Unquote.f k (x0.extract (((rd_T115 x341003 x6).f0) : Int).toNat (((rd_T115 x341003 x6).f1) : Int).toNat)).bind fun t346 => (if x343002.length < 8796093022208 then (spec_Tree.l0 k x0 (wrap64 (x6 + 1)) x341000 x341001 x341002 x341003 x341004 x343000 x343001 (x343002 ++ [t346])) else (none))) else (none)) else (none)) else (none)) else (none)) else (spec_Tree.l1 k x0 0 x341000 x341001 x341002 x341003 x341004 x343000 x343001 x343002 ([] : List (S25)))
def spec_Tree.l1 : Nat → ByteArray → Int → Int → Int → Int → List (S115) → List (S78) → Int → ByteArray → List ByteArray → List (S25) → Option (Int × ByteArray × List ByteArray × (List (S25)))
 | 0, _, _, _, _, _, _, _, _, _, _, _ => none
 | k + 1, x0, x7, x341000, x341001, x341002, x341003, x341004, x343000, x343001, x343002, x343003 => if x7 < (x341004.length : Int) then (if 0 ≤ x7 then ((spec_Tree.f k x0 ((rd_T78 x341004 x7).f0) ((rd_T78 x341004 x7).f1) ((rd_T78 x341004 x7).f2) ((rd_T78 x341004 x7).f3) ((rd_T78 x341004 x7).f4)).bind fun bt351 => (if x343003.length < 1954687338268 then (spec_Tree.l1 k x0 (wrap64 (x7 + 1)) x341000 x341001 x341002 x341003 x341004 x343000 x343001 x343002 (x343003 ++ [(⟨bt351.1, bt351.2.1, bt351.2.2.1, bt351.2.2.2⟩ : S25)])) else (none))) else (none)) else (some (x343000, x343001, x343002, x343003))
def spec_Tree.f : Nat → ByteArray → Int → Int → Int → List (S115) → List (S78) → Option (Int × ByteArray × List ByteArray × (List (S25)))
 | 0, _, _, _, _, _, _ => none
 | k + 1, a0, a1_0, a1_1, a1_2, l1_3, l1_4 => if a1_0 = 3 then (if 0 ≤ a1_1 then (if a1_1 ≤ a1_2 then (if a1_2 ≤ (a0.size : Int) then (spec_Tree.j0 k a0 a1_0 a1_1 a1_2 l1_3 l1_4 a1_0 (a0.extract (a1_1 : Int).toNat (a1_2 : Int).toNat)) else (none)) else (none)) else (none)) else (if a1_0 = 4 then (if 0 ≤ a1_1 then (if a1_1 ≤ a1_2 then (if a1_2 ≤ (a0.size : Int) then ((spec_Unquote.f k (a0.extract (a1_1 : Int).toNat (a1_2 : Int).toNat)).bind fun t343 => (spec_Tree.j0 k a0 a1_0 a1_1 a1_2 l1_3 l1_4 a1_0 t343)) else (none)) else (none)) else (none)) else (spec_Tree.j0 k a0 a1_0 a1_1 a1_2 l1_3 l1_4 a1_0 (⟨#[]⟩ : ByteArray)))
end
set_option maxHeartbeats 8000000
set_option maxRecDepth 100000
def spec_Paired.l0 : Nat → ByteArray → Int → Option (Bool)
 | 0, _, _ => none
 | k + 1, x0, x3 => if x3 < (x0.size : Int) then (if 0 ≤ x3 then (if (bt x0 x3) = 92 then ((spec_unit.f k x0 x3).bind fun bt363 => (if bt363.2 = true then ((spec_high.f bt363.1).bind fun t365 => (if t365 = true then ((spec_unit.f k x0 (wrap64 (x3 + 6))).bind fun bt366 => (if bt366.2 = true then ((spec_low.f bt366.1).bind fun t368 => (if t368 = true then (spec_Paired.l0 k x0 (wrap64 (x3 + 12))) else (some false))) else (some false))) else ((spec_low.f bt363.1).bind fun t369 => (if t369 = true then (some false) else (spec_Paired.l0 k x0 (wrap64 (x3 + 6))))))) else (spec_Paired.l0 k x0 (wrap64 (x3 + 2))))) else (spec_Paired.l0 k x0 (wrap64 (x3 + 1)))) else (none)) else (some true)
def spec_Paired.f (k : Nat) (a0 : ByteArray) : Option (Bool) := spec_Paired.l0 k a0 0
theorem spec_Paired.calls (k : Nat) (a0 : ByteArray) (r : Bool) (w : World) (h : spec_Paired.f k a0 = some r) :
  Calls Tryz.prog 36 #[.string a0] w fun e w' => e = .returned (.bool r) ∧ Drawn0 w w' := by
 have H : (spec_Paired.l0 k a0 0) = some r := h
 have H' := Aside0.mk H
 go_enter Tryz.func36, Tryz.ntmps36
 go_wp2
 go_loopg [3] k (fun kq v3 w' => ∃ (x3_1 : Int), v3 = .int .i64 x3_1 ∧ Aside0 (spec_Paired.l0 kq a0 x3_1 = some r) ∧ Aside0 (kq ≤ k) ∧ Drawn0 w w')
 case atStart => exact ⟨(0), rfl, H', ⟨Nat.le_refl _⟩, by repeat (first | exact Drawn0.refl _ | apply Drawn0.step)⟩
 obtain ⟨x3_1, rfl, HA, HK1, ⟨m1, rfl⟩⟩ := hrel
 cases gk with
 | zero => exact absurd HA.out (by simp [spec_Paired.l0])
 | succ k1 =>
  have H := HA.out
  simp only [spec_Paired.l0] at H
  by_cases c2 : x3_1 < (a0.size : Int)
  rotate_left
  ·rw [if_neg c2] at H
   obtain rfl := Option.some.inj H
   go_wp2
   go_ret
   exact ⟨by first | rfl | (simp; done) | (simp [*]; done), by repeat (first | exact Drawn0.refl _ | apply Drawn0.step)⟩
  rw [if_pos c2] at H
  have c2b0 : decide (x3_1 < (a0.size : Int)) = true := decide_eq_true c2
  by_cases c3 : 0 ≤ x3_1
  rotate_left
  ·rw [if_neg c3] at H
   cases H
  rw [if_pos c3] at H
  have c3b0 : decide (0 ≤ x3_1) = true := decide_eq_true c3
  by_cases c5 : (bt a0 x3_1) = 92
  rotate_left
  ·rw [if_neg c5] at H
   have c5b0 : ((bt a0 x3_1) == 92) = false := beq_eq_false_iff_ne.mpr c5
   have c5b1 : ((bt a0 x3_1) != 92) = true := bne_iff_ne.mpr c5
   have H' := Aside0.mk H
   have p4 : 0 ≤ (x3_1 : Int) := of_decide_eq_true (by assumption)
   have q4 : x3_1 < (a0.size : Int) := of_decide_eq_true (by assumption)
   have hx4 := bt_at a0 x3_1
   go_wp2
   go_roundg k1
   case measure => have := HK1.out; omega
   case rel => exact ⟨(wrap64 (x3_1 + 1)), rfl, H', ⟨by have := HK1.out; omega⟩, by repeat (first | exact Drawn0.refl _ | apply Drawn0.step)⟩
  rw [if_pos c5] at H
  replace H := Option.bind_eq_some_iff.mp H
  obtain ⟨⟨t363, t364⟩, A60, H⟩ := H
  have A6 := Aside0.mk A60
  by_cases c7 : t364 = true
  rotate_left
  ·replace c7 := Bool.eq_false_iff.mpr c7
   subst c7
   rw [if_neg nofun] at H
   have H' := Aside0.mk H
   have hx4 := bt_at a0 x3_1
   go_wp2_with (first | (go_at_call 59; (with_reducible refine (spec_unit.calls k1 a0 x3_1 t363 false _ A6.out).mono ?_); rintro e w' ⟨rfl, ⟨nd, rfl⟩⟩))
   go_roundg k1
   case measure => have := HK1.out; omega
   case rel => exact ⟨(wrap64 (x3_1 + 2)), rfl, H', ⟨by have := HK1.out; omega⟩, by repeat (first | exact Drawn0.refl _ | apply Drawn0.step)⟩
  subst c7
  rw [if_pos rfl] at H
  replace H := Option.bind_eq_some_iff.mp H
  obtain ⟨t365, A80, H⟩ := H
  have A8 := Aside0.mk A80
  by_cases c9 : t365 = true
  rotate_left
  ·replace c9 := Bool.eq_false_iff.mpr c9
   subst c9
   rw [if_neg nofun] at H
   replace H := Option.bind_eq_some_iff.mp H
   obtain ⟨t369, A140, H⟩ := H
   have A14 := Aside0.mk A140
   by_cases c15 : t369 = true
   ·subst c15
    rw [if_pos rfl] at H
    obtain rfl := Option.some.inj H
    have hx4 := bt_at a0 x3_1
    go_wp2_with (first | (go_at_call 59; (with_reducible refine (spec_unit.calls k1 a0 x3_1 t363 true _ A6.out).mono ?_); rintro e w' ⟨rfl, ⟨nd, rfl⟩⟩) | (go_at_call 60; (with_reducible refine (spec_high.calls t363 false _ A8.out).mono ?_); rintro e w' ⟨rfl, ⟨nd, rfl⟩⟩) | (go_at_call 61; (with_reducible refine (spec_low.calls t363 true _ A14.out).mono ?_); rintro e w' ⟨rfl, ⟨nd, rfl⟩⟩))
    go_ret
    exact ⟨by first | rfl | (simp; done) | (simp [*]; done), by repeat (first | exact Drawn0.refl _ | apply Drawn0.step)⟩
   replace c15 := Bool.eq_false_iff.mpr c15
   subst c15
   rw [if_neg nofun] at H
   have H' := Aside0.mk H
   have hx4 := bt_at a0 x3_1
   go_wp2_with (first | (go_at_call 59; (with_reducible refine (spec_unit.calls k1 a0 x3_1 t363 true _ A6.out).mono ?_); rintro e w' ⟨rfl, ⟨nd, rfl⟩⟩) | (go_at_call 60; (with_reducible refine (spec_high.calls t363 false _ A8.out).mono ?_); rintro e w' ⟨rfl, ⟨nd, rfl⟩⟩) | (go_at_call 61; (with_reducible refine (spec_low.calls t363 false _ A14.out).mono ?_); rintro e w' ⟨rfl, ⟨nd, rfl⟩⟩))
   go_roundg k1
   case measure => have := HK1.out; omega
   case rel => exact ⟨(wrap64 (x3_1 + 6)), rfl, H', ⟨by have := HK1.out; omega⟩, by repeat (first | exact Drawn0.refl _ | apply Drawn0.step)⟩
  subst c9
  rw [if_pos rfl] at H
  replace H := Option.bind_eq_some_iff.mp H
  obtain ⟨⟨t366, t367⟩, A100, H⟩ := H
  have A10 := Aside0.mk A100
  by_cases c11 : t367 = true
  rotate_left
  ·replace c11 := Bool.eq_false_iff.mpr c11
   subst c11
   rw [if_neg nofun] at H
   obtain rfl := Option.some.inj H
   have hx4 := bt_at a0 x3_1
   go_wp2_with (first | (go_at_call 59; (with_reducible refine (spec_unit.calls k1 a0 x3_1 t363 true _ A6.out).mono ?_); rintro e w' ⟨rfl, ⟨nd, rfl⟩⟩) | (go_at_call 60; (with_reducible refine (spec_high.calls t363 true _ A8.out).mono ?_); rintro e w' ⟨rfl, ⟨nd, rfl⟩⟩) | (go_at_call 59; (with_reducible refine (spec_unit.calls k1 a0 (wrap64 (x3_1 + 6)) t366 false _ A10.out).mono ?_); rintro e w' ⟨rfl, ⟨nd, rfl⟩⟩))
   go_ret
   exact ⟨by first | rfl | (simp; done) | (simp [*]; done), by repeat (first | exact Drawn0.refl _ | apply Drawn0.step)⟩
  subst c11
  rw [if_pos rfl] at H
  replace H := Option.bind_eq_some_iff.mp H
  obtain ⟨t368, A120, H⟩ := H
  have A12 := Aside0.mk A120
  by_cases c13 : t368 = true
  rotate_left
  ·replace c13 := Bool.eq_false_iff.mpr c13
   subst c13
   rw [if_neg nofun] at H
   obtain rfl := Option.some.inj H
   have hx4 := bt_at a0 x3_1
   go_wp2_with (first | (go_at_call 59; (with_reducible refine (spec_unit.calls k1 a0 x3_1 t363 true _ A6.out).mono ?_); rintro e w' ⟨rfl, ⟨nd, rfl⟩⟩) | (go_at_call 60; (with_reducible refine (spec_high.calls t363 true _ A8.out).mono ?_); rintro e w' ⟨rfl, ⟨nd, rfl⟩⟩) | (go_at_call 59; (with_reducible refine (spec_unit.calls k1 a0 (wrap64 (x3_1 + 6)) t366 true _ A10.out).mono ?_); rintro e w' ⟨rfl, ⟨nd, rfl⟩⟩) | (go_at_call 61; (with_reducible refine (spec_low.calls t366 false _ A12.out).mono ?_); rintro e w' ⟨rfl, ⟨nd, rfl⟩⟩))
   go_ret
   exact ⟨by first | rfl | (simp; done) | (simp [*]; done), by repeat (first | exact Drawn0.refl _ | apply Drawn0.step)⟩
  subst c13
  rw [if_pos rfl] at H
  have H' := Aside0.mk H
  have hx4 := bt_at a0 x3_1
  go_wp2_with (first | (go_at_call 59; (with_reducible refine (spec_unit.calls k1 a0 x3_1 t363 true _ A6.out).mono ?_); rintro e w' ⟨rfl, ⟨nd, rfl⟩⟩) | (go_at_call 60; (with_reducible refine (spec_high.calls t363 true _ A8.out).mono ?_); rintro e w' ⟨rfl, ⟨nd, rfl⟩⟩) | (go_at_call 59; (with_reducible refine (spec_unit.calls k1 a0 (wrap64 (x3_1 + 6)) t366 true _ A10.out).mono ?_); rintro e w' ⟨rfl, ⟨nd, rfl⟩⟩) | (go_at_call 61; (with_reducible refine (spec_low.calls t366 true _ A12.out).mono ?_); rintro e w' ⟨rfl, ⟨nd, rfl⟩⟩))
  go_roundg k1
  case measure => have := HK1.out; omega
  case rel => exact ⟨(wrap64 (x3_1 + 12)), rfl, H', ⟨by have := HK1.out; omega⟩, by repeat (first | exact Drawn0.refl _ | apply Drawn0.step)⟩
mutual
def spec_Character.j2 : Nat → ByteArray → Int → Int → Int → Int → Option (Int × Int × Bool)
 | 0, _, _, _, _, _ => none
 | k + 1, x0, x1, x7, x8, x9 => if (wrap64 ((x0.size : Int) - x1)) ≤ x8 then (some (65533, 1, false)) else (spec_Character.l0 k x0 x1 x7 x8 x9 1)
def spec_Character.l0 : Nat → ByteArray → Int → Int → Int → Int → Int → Option (Int × Int × Bool)
 | 0, _, _, _, _, _, _ => none
 | k + 1, x0, x1, x7, x8, x9, x10 => if x10 ≤ x8 then (if 0 ≤ (wrap64 (x1 + x10)) then (if (wrap64 (x1 + x10)) < (x0.size : Int) then (if (wrap64 (bt x0 (wrap64 (x1 + x10)))) < 128 then (some (65533, 1, false)) else (if (wrap64 (bt x0 (wrap64 (x1 + x10)))) > 191 then (some (65533, 1, false)) else (spec_Character.l0 k x0 x1 (wrap64 ((wrap64 ((wrap64 (x7 * 64)) + (wrap64 (bt x0 (wrap64 (x1 + x10)))))) - 128)) x8 x9 (wrap64 (x10 + 1))))) else (none)) else (none)) else (if x7 < x9 then (some (65533, 1, false)) else (if x7 > 1114111 then (some (65533, 1, false)) else ((spec_high.f x7).bind fun t370 => (if t370 = true then (some (65533, 1, false)) else ((spec_low.f x7).bind fun t371 => (if t371 = true then (some (65533, 1, false)) else (some (x7, wrap64 (x8 + 1), true))))))))
def spec_Character.j0 : Nat → ByteArray → Int → Int → Bool → Option (Int × Int × Bool)
 | 0, _, _, _, _ => none
 | k + 1, x0, x1, x7, x20 => if x20 = true then (spec_Character.j2 k x0 x1 (wrap64 (x7 - 192)) 1 128) else (if 224 ≤ x7 then (spec_Character.j1 k x0 x1 x7 (decide (x7 ≤ 239))) else (spec_Character.j1 k x0 x1 x7 false))
def spec_Character.j1 : Nat → ByteArray → Int → Int → Bool → Option (Int × Int × Bool)
 | 0, _, _, _, _ => none
 | k + 1, x0, x1, x7, x29 => if x29 = true then (spec_Character.j2 k x0 x1 (wrap64 (x7 - 224)) 2 2048) else (if 240 ≤ x7 then (if x7 ≤ 244 then (spec_Character.j2 k x0 x1 (wrap64 (x7 - 240)) 3 65536) else (some (65533, 1, false))) else (some (65533, 1, false)))
end
def spec_Character.f (k : Nat) (a0 : ByteArray) (a1 : Int) : Option (Int × Int × Bool) := if 0 ≤ a1 then (if a1 < (a0.size : Int) then (if (wrap64 (bt a0 a1)) < 128 then (some (wrap64 (bt a0 a1), 1, true)) else (if 194 ≤ (wrap64 (bt a0 a1)) then (spec_Character.j0 k a0 a1 (wrap64 (bt a0 a1)) (decide ((wrap64 (bt a0 a1)) ≤ 223))) else (spec_Character.j0 k a0 a1 (wrap64 (bt a0 a1)) false))) else (none)) else (none)
theorem spec_Character.calls (k : Nat) (a0 : ByteArray) (a1 : Int) (r1 : Int) (r2 : Int) (r3 : Bool) (w : World) (h : spec_Character.f k a0 a1 = some (r1, r2, r3)) :
  Calls Tryz.prog 76 #[.string a0, .int .i64 a1] w fun e w' => e = .returned (.tuple #[.int .i64 r1, .int .i64 r2, .bool r3]) ∧ Drawn0 w w' := by
 have H : (if 0 ≤ a1 then (if a1 < (a0.size : Int) then (if (wrap64 (bt a0 a1)) < 128 then (some (wrap64 (bt a0 a1), 1, true)) else (if 194 ≤ (wrap64 (bt a0 a1)) then (spec_Character.j0 k a0 a1 (wrap64 (bt a0 a1)) (decide ((wrap64 (bt a0 a1)) ≤ 223))) else (spec_Character.j0 k a0 a1 (wrap64 (bt a0 a1)) false))) else (none)) else (none)) = some (r1, r2, r3) := h
 by_cases c3 : 0 ≤ a1
 rotate_left
 ·rw [if_neg c3] at H
  cases H
 rw [if_pos c3] at H
 by_cases c4 : a1 < (a0.size : Int)
 rotate_left
 ·rw [if_neg c4] at H
  cases H
 rw [if_pos c4] at H
 have HC6 := Aside0.mk H
 have hx5 := bt_at a0 a1
 go_enter Tryz.func76, Tryz.ntmps76
 go_upto_block 0 with (fail)
 go_cut [7, 8, 9] (fun v7 v8 v9 wc => ∃ (kq : Nat) (x7_5 : Int) (x8_5 : Int) (x9_5 : Int), v7 = .int .i64 x7_5 ∧ v8 = .int .i64 x8_5 ∧ v9 = .int .i64 x9_5 ∧ Aside0 (spec_Character.j2 kq a0 a1 x7_5 x8_5 x9_5 = some (r1, r2, r3)) ∧ Aside0 (kq ≤ k) ∧ Drawn0 w wc)
 case first =>
  have H := HC6.out
  by_cases c7 : (wrap64 (bt a0 a1)) < 128
  ·rw [if_pos c7] at H
   (first | rw [c7b0] | (simp only [i64_w, i32_w]; rw [c7b0]) | skip)
   simp only [Option.some.injEq, Prod.mk.injEq] at H
   obtain ⟨rfl, rfl, rfl⟩ := H
   go_wp2
   go_ret3
   exact ⟨by first | rfl | (simp; done) | (simp [*]; done), by repeat (first | exact Drawn0.refl _ | apply Drawn0.step)⟩
  rw [if_neg c7] at H
  (first | rw [c7b0] | (simp only [i64_w, i32_w]; rw [c7b0]) | skip)
  have HC8 := Aside0.mk H
  go_upto_region 6 with (fail)
  go_cut [20] (fun v20 wc => ∃ (kq : Nat) (x20_7 : Bool), v20 = .bool x20_7 ∧ Aside0 (spec_Character.j0 kq a0 a1 (wrap64 (bt a0 a1)) x20_7 = some (r1, r2, r3)) ∧ Aside0 (kq ≤ k) ∧ Drawn0 w wc)
  case first =>
   have H := HC8.out
   by_cases c9 : 194 ≤ (wrap64 (bt a0 a1))
   rotate_left
   ·rw [if_neg c9] at H
    (first | rw [c9b0] | (simp only [i64_w, i32_w]; rw [c9b0]) | skip)
    have H' := Aside0.mk H
    go_wp2
    go_meet
    case rel => exact ⟨_, (false), rfl, H', ⟨by omega⟩, by repeat (first | exact Drawn0.refl _ | apply Drawn0.step)⟩
   rw [if_pos c9] at H
   (first | rw [c9b0] | (simp only [i64_w, i32_w]; rw [c9b0]) | skip)
   have H' := Aside0.mk H
   go_wp2
   go_meet
   case rel => exact ⟨_, (decide ((wrap64 (bt a0 a1)) ≤ 223)), rfl, H', ⟨by omega⟩, by repeat (first | exact Drawn0.refl _ | apply Drawn0.step)⟩
  obtain ⟨kq, x20_7, rfl, HA, HJ7, ⟨mc7, rfl⟩⟩ := hcut
  cases kq with
  | zero => exact absurd HA.out (by simp [spec_Character.j0])
  | succ kj7 =>
   have H := HA.out
   simp only [spec_Character.j0] at H
   by_cases c10 : x20_7 = true
   ·subst c10
    rw [if_pos rfl] at H
    have H' := Aside0.mk H
    go_wp2
    go_meet
    case rel => exact ⟨_, (wrap64 ((wrap64 (bt a0 a1)) - 192)), (1), (128), rfl, rfl, rfl, H', ⟨by have := HJ7.out; first | omega | exact Nat.le_refl _⟩, by repeat (first | exact Drawn0.refl _ | apply Drawn0.step)⟩
   replace c10 := Bool.eq_false_iff.mpr c10
   subst c10
   rw [if_neg nofun] at H
   have HC11 := Aside0.mk H
   go_upto_region 8 with (fail)
   go_cut [29] (fun v29 wc => ∃ (kq : Nat) (x29_10 : Bool), v29 = .bool x29_10 ∧ Aside0 (spec_Character.j1 kq a0 a1 (wrap64 (bt a0 a1)) x29_10 = some (r1, r2, r3)) ∧ Aside0 (kq ≤ kj7) ∧ Drawn0 w wc)
   case first =>
    have H := HC11.out
    by_cases c12 : 224 ≤ (wrap64 (bt a0 a1))
    rotate_left
    ·rw [if_neg c12] at H
     (first | rw [c12b0] | (simp only [i64_w, i32_w]; rw [c12b0]) | skip)
     have H' := Aside0.mk H
     go_wp2
     go_meet
     case rel => exact ⟨_, (false), rfl, H', ⟨by have := HJ7.out; first | omega | exact Nat.le_refl _⟩, by repeat (first | exact Drawn0.refl _ | apply Drawn0.step)⟩
    rw [if_pos c12] at H
    (first | rw [c12b0] | (simp only [i64_w, i32_w]; rw [c12b0]) | skip)
    have H' := Aside0.mk H
    go_wp2
    go_meet
    case rel => exact ⟨_, (decide ((wrap64 (bt a0 a1)) ≤ 239)), rfl, H', ⟨by have := HJ7.out; first | omega | exact Nat.le_refl _⟩, by repeat (first | exact Drawn0.refl _ | apply Drawn0.step)⟩
   obtain ⟨kq, x29_10, rfl, HA, HJ10, ⟨mc10, rfl⟩⟩ := hcut
   cases kq with
   | zero => exact absurd HA.out (by simp [spec_Character.j1])
   | succ kj10 =>
    have H := HA.out
    simp only [spec_Character.j1] at H
    by_cases c13 : x29_10 = true
    ·subst c13
     rw [if_pos rfl] at H
     have H' := Aside0.mk H
     go_wp2
     go_meet
     case rel => exact ⟨_, (wrap64 ((wrap64 (bt a0 a1)) - 224)), (2), (2048), rfl, rfl, rfl, H', ⟨by have := HJ7.out; have := HJ10.out; first | omega | exact Nat.le_refl _⟩, by repeat (first | exact Drawn0.refl _ | apply Drawn0.step)⟩
    replace c13 := Bool.eq_false_iff.mpr c13
    subst c13
    rw [if_neg nofun] at H
    by_cases c14 : 240 ≤ (wrap64 (bt a0 a1))
    rotate_left
    ·rw [if_neg c14] at H
     simp only [Option.some.injEq, Prod.mk.injEq] at H
     obtain ⟨rfl, rfl, rfl⟩ := H
     go_wp2
     go_ret3
     exact ⟨by first | rfl | (simp; done) | (simp [*]; done), by repeat (first | exact Drawn0.refl _ | apply Drawn0.step)⟩
    rw [if_pos c14] at H
    by_cases c15 : (wrap64 (bt a0 a1)) ≤ 244
    rotate_left
    ·rw [if_neg c15] at H
     simp only [Option.some.injEq, Prod.mk.injEq] at H
     obtain ⟨rfl, rfl, rfl⟩ := H
     go_wp2
     go_ret3
     exact ⟨by first | rfl | (simp; done) | (simp [*]; done), by repeat (first | exact Drawn0.refl _ | apply Drawn0.step)⟩
    rw [if_pos c15] at H
    have c15b0 : decide ((wrap64 (bt a0 a1)) ≤ 244) = true := decide_eq_true c15
    clear c15
    have H' := Aside0.mk H
    go_wp2
    go_meet
    case rel => exact ⟨_, (wrap64 ((wrap64 (bt a0 a1)) - 240)), (3), (65536), rfl, rfl, rfl, H', ⟨by have := HJ7.out; have := HJ10.out; first | omega | exact Nat.le_refl _⟩, by repeat (first | exact Drawn0.refl _ | apply Drawn0.step)⟩
 obtain ⟨kq, x7_5, x8_5, x9_5, rfl, rfl, rfl, HA, HJ5, ⟨mc5, rfl⟩⟩ := hcut
 cases kq with
 | zero => exact absurd HA.out (by simp [spec_Character.j2])
 | succ kj5 =>
  have H := HA.out
  simp only [spec_Character.j2] at H
  by_cases c16 : (wrap64 ((a0.size : Int) - a1)) ≤ x8_5
  ·rw [if_pos c16] at H
   simp only [Option.some.injEq, Prod.mk.injEq] at H
   obtain ⟨rfl, rfl, rfl⟩ := H
   go_wp2
   go_ret3
   exact ⟨by first | rfl | (simp; done) | (simp [*]; done), by repeat (first | exact Drawn0.refl _ | apply Drawn0.step)⟩
  rw [if_neg c16] at H
  have H' := Aside0.mk H
  go_wp2
  go_loopg [7, 10] kj5 (fun kq v7 v10 w' => ∃ (x7_2 : Int) (x10_2 : Int), v7 = .int .i64 x7_2 ∧ v10 = .int .i64 x10_2 ∧ Aside0 (spec_Character.l0 kq a0 a1 x7_2 x8_5 x9_5 x10_2 = some (r1, r2, r3)) ∧ Aside0 (kq ≤ kj5) ∧ Drawn0 w w')
  case atStart => exact ⟨(x7_5), (1), rfl, rfl, H', ⟨Nat.le_refl _⟩, by repeat (first | exact Drawn0.refl _ | apply Drawn0.step)⟩
  obtain ⟨x7_2, x10_2, rfl, rfl, HA, HK2, ⟨m2, rfl⟩⟩ := hrel
  cases gk with
  | zero => exact absurd HA.out (by simp [spec_Character.l0])
  | succ k2 =>
   have H := HA.out
   simp only [spec_Character.l0] at H
   by_cases c17 : x10_2 ≤ x8_5
   ·rw [if_pos c17] at H
    have c17b0 : decide (x10_2 ≤ x8_5) = true := decide_eq_true c17
    obtain ⟨ji18, hji18⟩ : ∃ j_ : Int, (wrap64 (a1 + x10_2)) = j_ := ⟨_, rfl⟩
    replace H : (if 0 ≤ (ji18) then (if (ji18) < (a0.size : Int) then (if (wrap64 (bt a0 (ji18))) < 128 then (some (65533, 1, false)) else (if (wrap64 (bt a0 (ji18))) > 191 then (some (65533, 1, false)) else (spec_Character.l0 k2 a0 a1 (wrap64 ((wrap64 ((wrap64 (x7_2 * 64)) + (wrap64 (bt a0 (ji18))))) - 128)) x8_5 x9_5 (wrap64 (x10_2 + 1))))) else (none)) else (none)) = some (r1, r2, r3) := by first | (rw [hji18] at H; exact H) | (simp only [hji18] at H ⊢; exact H)
    have hji18w : (IntKind.i64.wrap (a1 + x10_2)) = ji18 := (i64_w _).trans hji18
    by_cases c19 : 0 ≤ (ji18)
    rotate_left
    ·rw [if_neg c19] at H
     cases H
    rw [if_pos c19] at H
    have c19b0 : decide (0 ≤ (ji18)) = true := decide_eq_true c19
    by_cases c20 : (ji18) < (a0.size : Int)
    rotate_left
    ·rw [if_neg c20] at H
     cases H
    rw [if_pos c20] at H
    have c20b0 : decide ((ji18) < (a0.size : Int)) = true := decide_eq_true c20
    by_cases c22 : (wrap64 (bt a0 (ji18))) < 128
    ·rw [if_pos c22] at H
     have c22b0 : decide ((wrap64 (bt a0 (ji18))) < 128) = true := decide_eq_true c22
     simp only [Option.some.injEq, Prod.mk.injEq] at H
     obtain ⟨rfl, rfl, rfl⟩ := H
     have hx21 := bt_at a0 (ji18)
     go_wp2
     go_ret3
     exact ⟨by first | rfl | (simp; done) | (simp only [← hji18] <;> (first | rfl | simp)) | (simp [*]; done), by repeat (first | exact Drawn0.refl _ | apply Drawn0.step)⟩
    rw [if_neg c22] at H
    have c22b0 : decide ((wrap64 (bt a0 (ji18))) < 128) = false := decide_eq_false c22
    by_cases c23 : (wrap64 (bt a0 (ji18))) > 191
    rotate_left
    ·rw [if_neg c23] at H
     have H' := Aside0.mk H
     have q21 : (ji18) < (a0.size : Int) := of_decide_eq_true (by assumption)
     have hx21 := bt_at a0 (ji18)
     go_wp2
     go_roundg k2
     case measure => have := HJ5.out; have := HK2.out; omega
     case rel => exact ⟨(wrap64 ((wrap64 ((wrap64 (x7_2 * 64)) + (wrap64 (bt a0 (ji18))))) - 128)), (wrap64 (x10_2 + 1)), (by first | rfl | (simp; done) | (simp only [← hji18] <;> (first | rfl | simp)) | (simp [*]; done)), rfl, H', ⟨by have := HJ5.out; have := HK2.out; omega⟩, by repeat (first | exact Drawn0.refl _ | apply Drawn0.step)⟩
    rw [if_pos c23] at H
    simp only [Option.some.injEq, Prod.mk.injEq] at H
    obtain ⟨rfl, rfl, rfl⟩ := H
    have q21 : (ji18) < (a0.size : Int) := of_decide_eq_true (by assumption)
    have hx21 := bt_at a0 (ji18)
    go_wp2
    go_ret3
    exact ⟨by first | rfl | (simp; done) | (simp only [← hji18] <;> (first | rfl | simp)) | (simp [*]; done), by repeat (first | exact Drawn0.refl _ | apply Drawn0.step)⟩
   rw [if_neg c17] at H
   by_cases c24 : x7_2 < x9_5
   ·rw [if_pos c24] at H
    simp only [Option.some.injEq, Prod.mk.injEq] at H
    obtain ⟨rfl, rfl, rfl⟩ := H
    go_wp2
    go_ret3
    exact ⟨by first | rfl | (simp; done) | (simp [*]; done), by repeat (first | exact Drawn0.refl _ | apply Drawn0.step)⟩
   rw [if_neg c24] at H
   by_cases c25 : x7_2 > 1114111
   ·rw [if_pos c25] at H
    simp only [Option.some.injEq, Prod.mk.injEq] at H
    obtain ⟨rfl, rfl, rfl⟩ := H
    go_wp2
    go_ret3
    exact ⟨by first | rfl | (simp; done) | (simp [*]; done), by repeat (first | exact Drawn0.refl _ | apply Drawn0.step)⟩
   rw [if_neg c25] at H
   replace H := Option.bind_eq_some_iff.mp H
   obtain ⟨t370, A260, H⟩ := H
   have A26 := Aside0.mk A260
   by_cases c27 : t370 = true
   ·subst c27
    rw [if_pos rfl] at H
    simp only [Option.some.injEq, Prod.mk.injEq] at H
    obtain ⟨rfl, rfl, rfl⟩ := H
    go_wp2_with (first | (go_at_call 60; (with_reducible refine (spec_high.calls x7_2 true _ A26.out).mono ?_); rintro e w' ⟨rfl, ⟨nd, rfl⟩⟩))
    go_ret3
    exact ⟨by first | rfl | (simp; done) | (simp [*]; done), by repeat (first | exact Drawn0.refl _ | apply Drawn0.step)⟩
   replace c27 := Bool.eq_false_iff.mpr c27
   subst c27
   rw [if_neg nofun] at H
   replace H := Option.bind_eq_some_iff.mp H
   obtain ⟨t371, A280, H⟩ := H
   have A28 := Aside0.mk A280
   by_cases c29 : t371 = true
   ·subst c29
    rw [if_pos rfl] at H
    simp only [Option.some.injEq, Prod.mk.injEq] at H
    obtain ⟨rfl, rfl, rfl⟩ := H
    go_wp2_with (first | (go_at_call 60; (with_reducible refine (spec_high.calls x7_2 false _ A26.out).mono ?_); rintro e w' ⟨rfl, ⟨nd, rfl⟩⟩) | (go_at_call 61; (with_reducible refine (spec_low.calls x7_2 true _ A28.out).mono ?_); rintro e w' ⟨rfl, ⟨nd, rfl⟩⟩))
    go_ret3
    exact ⟨by first | rfl | (simp; done) | (simp [*]; done), by repeat (first | exact Drawn0.refl _ | apply Drawn0.step)⟩
   replace c29 := Bool.eq_false_iff.mpr c29
   subst c29
   rw [if_neg nofun] at H
   simp only [Option.some.injEq, Prod.mk.injEq] at H
   obtain ⟨rfl, rfl, rfl⟩ := H
   go_wp2_with (first | (go_at_call 60; (with_reducible refine (spec_high.calls x7_2 false _ A26.out).mono ?_); rintro e w' ⟨rfl, ⟨nd, rfl⟩⟩) | (go_at_call 61; (with_reducible refine (spec_low.calls x7_2 false _ A28.out).mono ?_); rintro e w' ⟨rfl, ⟨nd, rfl⟩⟩))
   go_ret3
   exact ⟨by first | rfl | (simp; done) | (simp [*]; done), by repeat (first | exact Drawn0.refl _ | apply Drawn0.step)⟩
def spec_UTF8.l0 : Nat → ByteArray → Int → Option (Bool)
 | 0, _, _ => none
 | k + 1, x0, x3 => if x3 < (x0.size : Int) then ((spec_Character.f k x0 x3).bind fun bt372 => (if bt372.2.2 = true then (spec_UTF8.l0 k x0 (wrap64 (x3 + bt372.2.1))) else (some false))) else (some true)
def spec_UTF8.f (k : Nat) (a0 : ByteArray) : Option (Bool) := spec_UTF8.l0 k a0 0
theorem spec_UTF8.calls (k : Nat) (a0 : ByteArray) (r : Bool) (w : World) (h : spec_UTF8.f k a0 = some r) :
  Calls Tryz.prog 50 #[.string a0] w fun e w' => e = .returned (.bool r) ∧ Drawn0 w w' := by
 have H : (spec_UTF8.l0 k a0 0) = some r := h
 have H' := Aside0.mk H
 go_enter Tryz.func50, Tryz.ntmps50
 go_wp2
 go_loopg [3] k (fun kq v3 w' => ∃ (x3_1 : Int), v3 = .int .i64 x3_1 ∧ Aside0 (spec_UTF8.l0 kq a0 x3_1 = some r) ∧ Aside0 (kq ≤ k) ∧ Drawn0 w w')
 case atStart => exact ⟨(0), rfl, H', ⟨Nat.le_refl _⟩, by repeat (first | exact Drawn0.refl _ | apply Drawn0.step)⟩
 obtain ⟨x3_1, rfl, HA, HK1, ⟨m1, rfl⟩⟩ := hrel
 cases gk with
 | zero => exact absurd HA.out (by simp [spec_UTF8.l0])
 | succ k1 =>
  have H := HA.out
  simp only [spec_UTF8.l0] at H
  by_cases c2 : x3_1 < (a0.size : Int)
  rotate_left
  ·rw [if_neg c2] at H
   obtain rfl := Option.some.inj H
   go_wp2
   go_ret
   exact ⟨by first | rfl | (simp; done) | (simp [*]; done), by repeat (first | exact Drawn0.refl _ | apply Drawn0.step)⟩
  rw [if_pos c2] at H
  replace H := Option.bind_eq_some_iff.mp H
  obtain ⟨⟨t372, t373, t374⟩, A30, H⟩ := H
  have A3 := Aside0.mk A30
  by_cases c4 : t374 = true
  rotate_left
  ·replace c4 := Bool.eq_false_iff.mpr c4
   subst c4
   rw [if_neg nofun] at H
   obtain rfl := Option.some.inj H
   go_wp2_with (first | (go_at_call 76; (with_reducible refine (spec_Character.calls k1 a0 x3_1 t372 t373 false _ A3.out).mono ?_); rintro e w' ⟨rfl, ⟨nd, rfl⟩⟩))
   go_ret
   exact ⟨by first | rfl | (simp; done) | (simp [*]; done), by repeat (first | exact Drawn0.refl _ | apply Drawn0.step)⟩
  subst c4
  rw [if_pos rfl] at H
  have H' := Aside0.mk H
  go_wp2_with (first | (go_at_call 76; (with_reducible refine (spec_Character.calls k1 a0 x3_1 t372 t373 true _ A3.out).mono ?_); rintro e w' ⟨rfl, ⟨nd, rfl⟩⟩))
  go_roundg k1
  case measure => have := HK1.out; omega
  case rel => exact ⟨(wrap64 (x3_1 + t373)), rfl, H', ⟨by have := HK1.out; omega⟩, by repeat (first | exact Drawn0.refl _ | apply Drawn0.step)⟩
end Go.Proofs.YtgiioglmkogpkaaGreatDoor.M
namespace Go.Proofs.YtgiioglmkogpkaaGreatDoor.L
open Go.RowKit Go.Proofs.YtgiioglmkogpkaaGreatDoorW.PrintWords Go.Proofs.YtgiioglmkogpkaaGreatDoorW.PrintLast Go.Proofs.YtgiioglmkogpkaaGreatDoorW.PrintMore
open M
theorem Ev.back {α : Type} {g f : Nat → Option α} {r : α} (h : ∀ k, g (k + 1) = f k) (e : Ev g r) : Ev f r := by
 obtain ⟨K, e⟩ := e
 exact ⟨K, fun k hk => by rw [← h]; exact e (k + 1) (by omega)⟩
theorem Ev.one {α : Type} {g : Nat → Option α} {r r' : α} (h : Ev g r) (h' : Ev g r') : r = r' := by
 obtain ⟨K, a⟩ := h
 obtain ⟨K', b⟩ := h'
 exact Option.some.inj ((a (K + K') (by omega)).symm.trans (b (K + K') (by omega)))
theorem Ev.unbind {α β : Type} {g : Nat → Option α} {f : Nat → α → Option β} {a : α} {r : β} (h : Ev g a) (k : Ev (fun n => (g n).bind (f n)) r) : Ev (fun n => f n a) r := by
 obtain ⟨K, h⟩ := h
 obtain ⟨K', k⟩ := k
 refine ⟨K + K', fun n hn => ?_⟩
 have := k n (by omega)
 simp only [h n (by omega), Option.bind_some] at this
 exact this
inductive PDec (s : ByteArray) (j : Int) : Int → List Int → Prop
 | nil : PDec s j j []
 | plain (i : Int) (o : List Int) : 0 ≤ i → i < j → bt s i ≠ 92 → bt s i ≠ 34 → 32 ≤ bt s i → PDec s j (i + 1) o → PDec s j i (bt s i :: o)
 | esc (i : Int) (o : List Int) : 0 ≤ i → i + 1 < j → bt s i = 92 → isEsc (bt s (i + 1)) → PDec s j (i + 2) o → PDec s j i (shortv (bt s (i + 1)) :: o)
 | uni (i : Int) (o : List Int) : isU s j i → ¬ isHigh (u4 s (i + 2)) → ¬ isLow (u4 s (i + 2)) → PDec s j (i + 6) o → PDec s j i (enc (u4 s (i + 2)) ++ o)
 | pair (i : Int) (o : List Int) : isU s j i → isPair s j i → PDec s j (i + 12) o → PDec s j i (enc (65536 + (u4 s (i + 2) - 55296) * 1024 + (u4 s (i + 8) - 56320)) ++ o)
theorem PDec.dec {s : ByteArray} {j i : Int} {o : List Int} (h : PDec s j i o) : Dec s j i o := by
 induction h with
 | nil => exact .nil
 | plain i o a b c d e f g => exact .plain i o a b c g
 | esc i o a b c d e f => exact .esc i o a b c d f
 | uni i o a b c d e => exact .uni i o a (fun q => b q.2.1) e
 | pair i o a b c d => exact .pair i o a b d
def pairStep (s : ByteArray) (p : Int) (k : Nat) (b : Int × Bool) : Option Bool := if b.2 = true then ((spec_high.f b.1).bind fun t365 => (if t365 = true then ((spec_unit.f k s (wrap64 (p + 6))).bind fun bt366 => (if bt366.2 = true then ((spec_low.f bt366.1).bind fun t368 => (if t368 = true then (spec_Paired.l0 k s (wrap64 (p + 12))) else (some false))) else (some false))) else ((spec_low.f b.1).bind fun t369 => (if t369 = true then (some false) else (spec_Paired.l0 k s (wrap64 (p + 6))))))) else (spec_Paired.l0 k s (wrap64 (p + 2)))
theorem pair_back (s : ByteArray) (p : Int) (h0 : 0 ≤ p) (h1 : p < s.size) (h : bt s p = 92) : ∀ k, spec_Paired.l0 (k + 1) s p = (spec_unit.f k s p).bind (pairStep s p k) := fun k => by
 simp only [spec_Paired.l0]; rw [if_pos h1, if_pos h0, if_pos h]; rfl
theorem pair_plain (s : ByteArray) (hz : s.size ≤ 65536) (p : Int) (h0 : 0 ≤ p) (h1 : p < s.size) (h : bt s p ≠ 92) : ∀ k, spec_Paired.l0 (k + 1) s p = spec_Paired.l0 k s (p + 1) := fun k => by
 simp only [spec_Paired.l0]; rw [if_pos h1, if_pos h0, if_neg h, w64 (by omega) (by omega)]
theorem paired_tot (s : ByteArray) (hz : s.size ≤ 65536) : ∀ (n : Nat) (p : Int), 0 ≤ p → p ≤ 100000 → (s.size : Int) - p < n → ∃ b, Ev (fun k => spec_Paired.l0 k s p) b := by
 intro n
 induction n with
 | zero =>
  intro p h0 h1 h2
  exact ⟨true, Ev.step (f := fun _ => some true) (fun k => by simp only [spec_Paired.l0]; rw [if_neg (by omega)]) (Ev.now _)⟩
 | succ n ih =>
  intro p h0 h1 h2
  by_cases hp : p < (s.size : Int)
  rotate_left
  ·exact ⟨true, Ev.step (f := fun _ => some true) (fun k => by simp only [spec_Paired.l0]; rw [if_neg hp]) (Ev.now _)⟩
  by_cases c92 : bt s p = 92
  rotate_left
  ·obtain ⟨b, h⟩ := ih (p + 1) (by omega) (by omega) (by omega)
   exact ⟨b, Ev.step (pair_plain s hz p h0 hp c92) h⟩
  have hb := pair_back s p h0 hp c92
  by_cases cU : isU s s.size p
  rotate_left
  ·obtain ⟨b, h⟩ := ih (p + 2) (by omega) (by omega) (by omega)
   refine ⟨b, Ev.step hb (Ev.bind (unit_no s hz p (by omega) cU) (Ev.congr (fun k => ?_) h))⟩
   dsimp only [pairStep]; rw [if_neg (by simp), w64 (by omega) (by omega)]
  have hu := unit_yes s hz p cU
  have hU2 := cU.2.1
  by_cases cH : isHigh (u4 s (p + 2))
  rotate_left
  ·by_cases cL : isLow (u4 s (p + 2))
   ·refine ⟨false, Ev.step hb (Ev.bind hu (Ev.congr (fun k => ?_) (Ev.now _)))⟩
    dsimp only [pairStep]; rw [if_pos rfl, high_f]; simp only [Option.bind_some]; rw [if_neg (by simpa using cH), low_f]; simp only [Option.bind_some]; rw [if_pos (decide_eq_true cL)]
   obtain ⟨b, h⟩ := ih (p + 6) (by omega) (by omega) (by omega)
   refine ⟨b, Ev.step hb (Ev.bind hu (Ev.congr (fun k => ?_) h))⟩
   dsimp only [pairStep]; rw [if_pos rfl, high_f]; simp only [Option.bind_some]; rw [if_neg (by simpa using cH), low_f]; simp only [Option.bind_some]; rw [if_neg (by simpa using cL), w64 (by omega) (by omega)]
  by_cases cU2 : isU s s.size (p + 6)
  rotate_left
  ·refine ⟨false, Ev.step hb (Ev.bind hu (Ev.congr (f := fun k => (spec_unit.f k s (p + 6)).bind fun b => (if b.2 = true then ((spec_low.f b.1).bind fun t368 => (if t368 = true then (spec_Paired.l0 k s (wrap64 (p + 12))) else (some false))) else (some false))) (fun k => ?_) (Ev.bind (unit_no s hz _ (by omega) cU2) (Ev.congr (fun k => ?_) (Ev.now _)))))⟩
   ·dsimp only [pairStep]; rw [if_pos rfl, high_f]; simp only [Option.bind_some]; rw [if_pos (decide_eq_true cH), w64 (x := p + 6) (by omega) (by omega)]
   ·(try dsimp only); rw [if_neg (by simp)]
  have hU3 := cU2.2.1
  by_cases cL : isLow (u4 s (p + 6 + 2))
  rotate_left
  ·refine ⟨false, Ev.step hb (Ev.bind hu (Ev.congr (f := fun k => (spec_unit.f k s (p + 6)).bind fun b => (if b.2 = true then ((spec_low.f b.1).bind fun t368 => (if t368 = true then (spec_Paired.l0 k s (wrap64 (p + 12))) else (some false))) else (some false))) (fun k => ?_) (Ev.bind (unit_yes s hz _ cU2) (Ev.congr (fun k => ?_) (Ev.now _)))))⟩
   ·dsimp only [pairStep]; rw [if_pos rfl, high_f]; simp only [Option.bind_some]; rw [if_pos (decide_eq_true cH), w64 (x := p + 6) (by omega) (by omega)]
   ·(try dsimp only); rw [if_pos rfl, low_f]; simp only [Option.bind_some]; rw [if_neg (by simpa using cL)]
  obtain ⟨b, h⟩ := ih (p + 12) (by omega) (by omega) (by omega)
  refine ⟨b, Ev.step hb (Ev.bind hu (Ev.congr (f := fun k => (spec_unit.f k s (p + 6)).bind fun b => (if b.2 = true then ((spec_low.f b.1).bind fun t368 => (if t368 = true then (spec_Paired.l0 k s (wrap64 (p + 12))) else (some false))) else (some false))) (fun k => ?_) (Ev.bind (unit_yes s hz _ cU2) (Ev.congr (fun k => ?_) h))))⟩
  ·dsimp only [pairStep]; rw [if_pos rfl, high_f]; simp only [Option.bind_some]; rw [if_pos (decide_eq_true cH), w64 (x := p + 6) (by omega) (by omega)]
  ·(try dsimp only); rw [if_pos rfl, low_f]; simp only [Option.bind_some]; rw [if_pos (decide_eq_true cL), w64 (by omega) (by omega)]
theorem bt_extract' (s : ByteArray) (a b : Nat) (i x : Int) (h : x = a + i) (h0 : 0 ≤ i) (h1 : a + i < b) (h2 : b ≤ s.size) : bt (s.extract a b) i = bt s x := by rw [h]; exact bt_extract s a b i h0 h1 h2
theorem isU.shift {s : ByteArray} {j i : Int} {a : Nat} (hj : j ≤ s.size) (h : isU s j i) (ha : (a : Int) ≤ i) : isU (s.extract a j.toNat) ((s.extract a j.toNat).size : Int) (i - a) ∧ u4 (s.extract a j.toNat) (i - a + 2) = u4 s (i + 2) := by
 obtain ⟨h0, h1, h2, h3, h4⟩ := h
 have e : ((s.extract a j.toNat).size : Int) = j - a := by rw [ByteArray.size_extract]; omega
 have hb : ∀ x, i ≤ x → x < i + 6 → bt (s.extract a j.toNat) (x - a) = bt s x := fun x q0 q1 => bt_extract' s a j.toNat (x - a) x (by omega) (by omega) (by omega) (by omega)
 refine ⟨⟨by omega, by omega, by rw [hb i (by omega) (by omega)]; exact h2, ?_, fun x y z => ?_⟩, ?_⟩
 ·have := hb (i + 1) (by omega) (by omega)
  rw [show i + 1 - a = i - a + 1 by omega] at this
  rw [this]; exact h3
 ·have := hb (x + a) (by omega) (by omega)
  rw [show x + a - a = x by omega] at this
  rw [this]; exact h4 _ (by omega) (by omega)
 have e0 := hb (i + 2) (by omega) (by omega)
 have e1 := hb (i + 3) (by omega) (by omega)
 have e2 := hb (i + 4) (by omega) (by omega)
 have e3 := hb (i + 5) (by omega) (by omega)
 unfold u4 hd
 rw [show i - a + 2 = i + 2 - a by omega, show i + 2 - a + 1 = i + 3 - a by omega, show i + 2 - a + 2 = i + 4 - a by omega, show i + 2 - a + 3 = i + 5 - a by omega, show i + 2 + 1 = i + 3 by omega, show i + 2 + 2 = i + 4 by omega, show i + 2 + 3 = i + 5 by omega, e0, e1, e2, e3]
theorem PDec.shift {s : ByteArray} {j : Int} {a : Nat} (hj : j ≤ s.size) {i : Int} {o : List Int} (h : PDec s j i o) : (a : Int) ≤ i → PDec (s.extract a j.toNat) ((s.extract a j.toNat).size : Int) (i - a) o := by
 induction h with
 | nil =>
  intro ha
  have e : ((s.extract a j.toNat).size : Int) = j - a := by rw [ByteArray.size_extract]; omega
  rw [e]; exact .nil
 | plain i o h0 h1 h2 h3 h4 h5 ih =>
  intro ha
  have e : ((s.extract a j.toNat).size : Int) = j - a := by rw [ByteArray.size_extract]; omega
  have b0 := bt_extract' s a j.toNat (i - a) i (by omega) (by omega) (by omega) (by omega)
  have := ih (by omega)
  rw [show i + 1 - a = i - a + 1 by omega] at this
  have q := PDec.plain (s := s.extract a j.toNat) (i - a) o (by omega) (by omega) (by rw [b0]; exact h2) (by rw [b0]; exact h3) (by rw [b0]; exact h4) this
  rwa [b0] at q
 | esc i o h0 h1 h2 h3 h4 ih =>
  intro ha
  have e : ((s.extract a j.toNat).size : Int) = j - a := by rw [ByteArray.size_extract]; omega
  have b0 := bt_extract' s a j.toNat (i - a) i (by omega) (by omega) (by omega) (by omega)
  have b1 := bt_extract' s a j.toNat (i - a + 1) (i + 1) (by omega) (by omega) (by omega) (by omega)
  have := ih (by omega)
  rw [show i + 2 - a = i - a + 2 by omega] at this
  have q := PDec.esc (s := s.extract a j.toNat) (i - a) o (by omega) (by omega) (by rw [b0]; exact h2) (by rw [b1]; exact h3) this
  rwa [b1] at q
 | uni i o h0 h1 h2 h3 ih =>
  intro ha
  obtain ⟨hU, hu⟩ := h0.shift hj ha
  have := ih (by omega)
  rw [show i + 6 - a = i - a + 6 by omega] at this
  have q := PDec.uni (s := s.extract a j.toNat) (i - a) o hU (by rw [hu]; exact h1) (by rw [hu]; exact h2) this
  rwa [hu] at q
 | pair i o h0 h1 h2 ih =>
  intro ha
  obtain ⟨hU, hu⟩ := h0.shift hj ha
  obtain ⟨hU2, hu2⟩ := h1.1.shift (a := a) hj (by omega)
  have := ih (by omega)
  rw [show i + 12 - a = i - a + 12 by omega] at this
  rw [show i + 6 - a = i - a + 6 by omega] at hU2 hu2
  rw [show i - a + 6 + 2 = i - a + 8 by omega, show i + 6 + 2 = i + 8 by omega] at hu2
  have q := PDec.pair (s := s.extract a j.toNat) (i - a) o hU ⟨hU2, by rw [hu]; exact h1.2.1, by rw [hu2]; exact h1.2.2⟩ this
  rwa [hu, hu2] at q
theorem char_l0 (s : ByteArray) (hz : s.size ≤ 65536) (p m least : Int) (h0 : 0 ≤ p) (hm : 1 ≤ m ∧ m ≤ 3) (hs : m < (s.size : Int) - p) : ∀ (d : Nat) (x c : Int), 1 ≤ x → x + d = m + 1 → 0 ≤ c → (x = 1 → c ≤ 32) → (x = 2 → c ≤ 3000) → (x = 3 → c ≤ 200000) → (x = 4 → c ≤ 20000000) → ∃ r : Int × Int × Bool, Ev (fun k => spec_Character.l0 k s p c m least x) r ∧ 1 ≤ r.2.1 ∧ r.2.1 ≤ 4 := by
 intro d
 induction d with
 | zero =>
  intro x c hx hd hc b1 b2 b3 b4
  by_cases c1 : c < least
  ·exact ⟨_, Ev.step (f := fun _ => some (65533, 1, false)) (fun k => by simp only [spec_Character.l0]; rw [if_neg (by omega), if_pos c1]) (Ev.now _), by simp, by simp⟩
  by_cases c2 : c > 1114111
  ·exact ⟨_, Ev.step (f := fun _ => some (65533, 1, false)) (fun k => by simp only [spec_Character.l0]; rw [if_neg (by omega), if_neg c1, if_pos c2]) (Ev.now _), by simp, by simp⟩
  by_cases c3 : isHigh c
  ·exact ⟨_, Ev.step (f := fun _ => some (65533, 1, false)) (fun k => by simp only [spec_Character.l0]; rw [if_neg (by omega), if_neg c1, if_neg c2, high_f]; simp only [Option.bind_some]; rw [if_pos (decide_eq_true c3)]) (Ev.now _), by simp, by simp⟩
  by_cases c4 : isLow c
  ·exact ⟨_, Ev.step (f := fun _ => some (65533, 1, false)) (fun k => by simp only [spec_Character.l0]; rw [if_neg (by omega), if_neg c1, if_neg c2, high_f]; simp only [Option.bind_some]; rw [if_neg (by simpa using c3), low_f]; simp only [Option.bind_some]; rw [if_pos (decide_eq_true c4)]) (Ev.now _), by simp, by simp⟩
  ·exact ⟨_, Ev.step (f := fun _ => some (c, m + 1, true)) (fun k => by simp only [spec_Character.l0]; rw [if_neg (by omega), if_neg c1, if_neg c2, high_f]; simp only [Option.bind_some]; rw [if_neg (by simpa using c3), low_f]; simp only [Option.bind_some]; rw [if_neg (by simpa using c4), w64 (by omega) (by omega)]) (Ev.now _), by simp; omega, by simp; omega⟩
 | succ d ih =>
  intro x c hx hd hc b1 b2 b3 b4
  have hb := bt_range s (p + x)
  have hs1 : ∀ k, spec_Character.l0 (k + 1) s p c m least x = (if bt s (p + x) < 128 then (some (65533, 1, false)) else (if bt s (p + x) > 191 then (some (65533, 1, false)) else (spec_Character.l0 k s p (c * 64 + bt s (p + x) - 128) m least (x + 1)))) := fun k => by
   simp only [spec_Character.l0]
   rw [if_pos (by omega), w64 (x := p + x) (by omega) (by omega), if_pos (by omega), if_pos (by omega), w64 (x := bt s (p + x)) (by omega) (by omega), w64 (x := c * 64) (by omega) (by omega), w64 (x := c * 64 + bt s (p + x)) (by omega) (by omega), w64 (x := c * 64 + bt s (p + x) - 128) (by omega) (by omega), w64 (x := x + 1) (by omega) (by omega)]
  by_cases c1 : bt s (p + x) < 128
  ·exact ⟨_, Ev.step (f := fun _ => some (65533, 1, false)) (fun k => by rw [hs1, if_pos c1]) (Ev.now _), by simp, by simp⟩
  by_cases c2 : bt s (p + x) > 191
  ·exact ⟨_, Ev.step (f := fun _ => some (65533, 1, false)) (fun k => by rw [hs1, if_neg c1, if_pos c2]) (Ev.now _), by simp, by simp⟩
  obtain ⟨r, hr, hr2⟩ := ih (x + 1) (c * 64 + bt s (p + x) - 128) (by omega) (by omega) (by omega) (by omega) (by omega) (by omega) (by omega)
  exact ⟨r, Ev.step (fun k => by rw [hs1, if_neg c1, if_neg c2]) hr, hr2⟩
theorem char_j2 (s : ByteArray) (hz : s.size ≤ 65536) (p m least c : Int) (h0 : 0 ≤ p) (h1 : p < s.size) (hm : 1 ≤ m ∧ m ≤ 3) (hc : 0 ≤ c ∧ c ≤ 32) : ∃ r : Int × Int × Bool, Ev (fun k => spec_Character.j2 k s p c m least) r ∧ 1 ≤ r.2.1 ∧ r.2.1 ≤ 4 := by
 by_cases h : (s.size : Int) - p ≤ m
 ·exact ⟨_, Ev.step (f := fun _ => some (65533, 1, false)) (fun k => by simp only [spec_Character.j2]; rw [w64 (by omega) (by omega), if_pos h]) (Ev.now _), by simp, by simp⟩
 ·obtain ⟨r, hr, hr2⟩ := char_l0 s hz p m least h0 hm (by omega) m.toNat 1 c (by omega) (by omega) hc.1 (by omega) (by omega) (by omega) (by omega)
  exact ⟨r, Ev.step (fun k => by simp only [spec_Character.j2]; rw [w64 (by omega) (by omega), if_neg h]) hr, hr2⟩
theorem char_ev (s : ByteArray) (hz : s.size ≤ 65536) (p : Int) (h0 : 0 ≤ p) (h1 : p < s.size) : ∃ r : Int × Int × Bool, Ev (fun k => spec_Character.f k s p) r ∧ 1 ≤ r.2.1 ∧ r.2.1 ≤ 4 := by
 have hb := bt_range s p
 have hw : wrap64 (bt s p) = bt s p := w64 (by omega) (by omega)
 have no : ∀ g : Nat → Option (Int × Int × Bool), Ev g (65533, 1, false) → ∃ r : Int × Int × Bool, Ev g r ∧ 1 ≤ r.2.1 ∧ r.2.1 ≤ 4 := fun g h => ⟨_, h, by simp, by simp⟩
 by_cases c1 : bt s p < 128
 ·exact ⟨_, Ev.congr (f := fun _ => some (bt s p, 1, true)) (fun k => by simp only [spec_Character.f]; rw [if_pos h0, if_pos h1, hw, if_pos c1]) (Ev.now _), by simp, by simp⟩
 have hf : ∀ k, spec_Character.f k s p = (if 194 ≤ bt s p then (spec_Character.j0 k s p (bt s p) (decide (bt s p ≤ 223))) else (spec_Character.j0 k s p (bt s p) false)) := fun k => by
  simp only [spec_Character.f]; rw [if_pos h0, if_pos h1, hw, if_neg c1]
 by_cases c2 : 194 ≤ bt s p ∧ bt s p ≤ 223
 ·obtain ⟨r, hr, hr2⟩ := char_j2 s hz p 1 128 (bt s p - 192) h0 h1 (by omega) (by omega)
  refine ⟨r, Ev.congr (f := fun k => spec_Character.j0 k s p (bt s p) true) (fun k => by rw [hf, if_pos c2.1, decide_eq_true c2.2]) (Ev.step (fun k => ?_) hr), hr2⟩
  simp only [spec_Character.j0, if_true]; rw [w64 (by omega) (by omega)]
 have hf2 : ∀ k, spec_Character.f k s p = spec_Character.j0 k s p (bt s p) false := fun k => by
  rw [hf]
  by_cases q : 194 ≤ bt s p
  ·rw [if_pos q, decide_eq_false (by omega)]
  ·rw [if_neg q]
 by_cases c3 : 224 ≤ bt s p ∧ bt s p ≤ 239
 ·obtain ⟨r, hr, hr2⟩ := char_j2 s hz p 2 2048 (bt s p - 224) h0 h1 (by omega) (by omega)
  refine ⟨r, Ev.congr hf2 (Ev.step (f := fun k => spec_Character.j1 k s p (bt s p) true) (fun k => ?_) (Ev.step (fun k => ?_) hr)), hr2⟩
  ·simp only [spec_Character.j0, Bool.false_eq_true, if_false]; rw [if_pos c3.1, decide_eq_true c3.2]
  ·simp only [spec_Character.j1, if_true]; rw [w64 (by omega) (by omega)]
 have hj0 : ∀ k, spec_Character.j0 (k + 1) s p (bt s p) false = spec_Character.j1 k s p (bt s p) false := fun k => by
  simp only [spec_Character.j0, Bool.false_eq_true, if_false]
  by_cases q : 224 ≤ bt s p
  ·rw [if_pos q, decide_eq_false (by omega)]
  ·rw [if_neg q]
 by_cases c4 : 240 ≤ bt s p ∧ bt s p ≤ 244
 ·obtain ⟨r, hr, hr2⟩ := char_j2 s hz p 3 65536 (bt s p - 240) h0 h1 (by omega) (by omega)
  refine ⟨r, Ev.congr hf2 (Ev.step hj0 (Ev.step (fun k => ?_) hr)), hr2⟩
  simp only [spec_Character.j1, Bool.false_eq_true, if_false]; rw [if_pos c4.1, if_pos c4.2, w64 (by omega) (by omega)]
 refine no _ (Ev.congr hf2 (Ev.step hj0 (Ev.step (f := fun _ => some (65533, 1, false)) (fun k => ?_) (Ev.now _))))
 simp only [spec_Character.j1, Bool.false_eq_true, if_false]
 by_cases q : 240 ≤ bt s p
 ·rw [if_pos q, if_neg (by omega)]
 ·rw [if_neg q]
theorem utf8_ev (s : ByteArray) (hz : s.size ≤ 65536) : ∀ (n : Nat) (p : Int), 0 ≤ p → p ≤ 100000 → (s.size : Int) - p < n → ∃ b, Ev (fun k => spec_UTF8.l0 k s p) b := by
 intro n
 induction n with
 | zero =>
  intro p h0 h1 h2
  exact ⟨true, Ev.step (f := fun _ => some true) (fun k => by simp only [spec_UTF8.l0]; rw [if_neg (by omega)]) (Ev.now _)⟩
 | succ n ih =>
  intro p h0 h1 h2
  by_cases hp : p < (s.size : Int)
  rotate_left
  ·exact ⟨true, Ev.step (f := fun _ => some true) (fun k => by simp only [spec_UTF8.l0]; rw [if_neg hp]) (Ev.now _)⟩
  obtain ⟨⟨a, m, b⟩, hr, hm1, hm2⟩ := char_ev s hz p h0 hp
  dsimp only at hm1 hm2
  cases b with
  | false =>
   refine ⟨false, Ev.step (f := fun k => (spec_Character.f k s p).bind fun t => (if t.2.2 = true then (spec_UTF8.l0 k s (wrap64 (p + t.2.1))) else (some false))) (fun k => ?_) (Ev.bind hr (Ev.congr (fun k => ?_) (Ev.now _)))⟩
   ·simp only [spec_UTF8.l0]; rw [if_pos hp]
   ·simp
  | true =>
   obtain ⟨b, hb⟩ := ih (p + m) (by omega) (by omega) (by omega)
   refine ⟨b, Ev.step (f := fun k => (spec_Character.f k s p).bind fun t => (if t.2.2 = true then (spec_UTF8.l0 k s (wrap64 (p + t.2.1))) else (some false))) (fun k => ?_) (Ev.bind hr (Ev.congr (fun k => ?_) hb))⟩
   ·simp only [spec_UTF8.l0]; rw [if_pos hp]
   ·(try dsimp only); rw [if_pos rfl, w64 (by omega) (by omega)]
end Go.Proofs.YtgiioglmkogpkaaGreatDoor.L
namespace Go.Proofs.YtgiioglmkogpkaaGreatDoor.V
open Go.RowKit Go.Proofs.YtgiioglmkogpkaaGreatDoorW.PrintWords Go.Proofs.YtgiioglmkogpkaaGreatDoorW.PrintLast Go.Proofs.YtgiioglmkogpkaaGreatDoorW.PrintMore
open M L
def Ag (s s' : ByteArray) (d a e : Int) : Prop := 0 ≤ a ∧ 0 ≤ a + d ∧ e ≤ s.size ∧ e + d ≤ s'.size ∧ ∀ i, a ≤ i → i < e → bt s' (i + d) = bt s i
theorem Ag.sub {s s' : ByteArray} {d a e a' e' : Int} (h : Ag s s' d a e) (h0 : a ≤ a') (h1 : e' ≤ e) : Ag s s' d a' e' := by
 obtain ⟨x, y, z, t, u⟩ := h
 exact ⟨by omega, by omega, by omega, by omega, fun i p q => u i (by omega) (by omega)⟩
theorem Ag.ext {s s' : ByteArray} {d a e : Int} (h : Ag s s' d a e) (hae : a ≤ e) : s'.extract (a + d).toNat (e + d).toNat = s.extract a.toNat e.toNat := by
 obtain ⟨x, y, z, t, u⟩ := h
 apply ByteArray.ext
 apply Array.ext
 ·show (s'.extract (a + d).toNat (e + d).toNat).size = (s.extract a.toNat e.toNat).size
  rw [ByteArray.size_extract, ByteArray.size_extract]; omega
 intro i h1 h2
 have q1 : i < (s'.extract (a + d).toNat (e + d).toNat).size := h1
 have q2 : i < (s.extract a.toNat e.toNat).size := h2
 have q2' := q2
 rw [ByteArray.size_extract] at q2'
 have b1 := bt_at (s'.extract (a + d).toNat (e + d).toNat) (i : Int) (by rw [Int.toNat_natCast]; exact q1)
 have b2 := bt_at (s.extract a.toNat e.toNat) (i : Int) (by rw [Int.toNat_natCast]; exact q2)
 rw [bt_extract _ _ _ _ (by omega) (by omega) (by omega)] at b1 b2
 have k := u (a + i) (by omega) (by omega)
 have e1 : ((a + d).toNat : Int) + (i : Int) = a + i + d := by omega
 have e2 : (a.toNat : Int) + (i : Int) = a + i := by omega
 rw [e1, k] at b1
 rw [e2] at b2
 have b3 := b1.trans b2.symm
 have b4 := Int.ofNat.inj b3
 simp only [Int.toNat_natCast] at b4
 exact UInt8.toNat_inj.1 b4
theorem Bl.sh {s s' : ByteArray} {d a b : Int} (h : Bl s a b) (g : Ag s s' d a b) : Bl s' (a + d) (b + d) := by
 refine ⟨by have := h.1; omega, fun i x y => ?_⟩
 have := g.2.2.2.2 (i - d) (by omega) (by omega)
 rw [show i - d + d = i by omega] at this
 rw [this]; exact h.2 _ (by omega) (by omega)
theorem Ag.dig {s s' : ByteArray} {d a b : Int} (g : Ag s s' d a b) (h : ∀ i, a ≤ i → i < b → dig (bt s i)) : ∀ i, a + d ≤ i → i < b + d → dig (bt s' i) := by
 intro i x y
 have := g.2.2.2.2 (i - d) (by omega) (by omega)
 rw [show i - d + d = i by omega] at this
 rw [this]; exact h _ (by omega) (by omega)
theorem Ag.at {s s' : ByteArray} {d a b : Int} (g : Ag s s' d a b) (i j : Int) (hj : j = i + d) (h0 : a ≤ i) (h1 : i < b) : bt s' j = bt s i := by
 subst hj; exact g.2.2.2.2 i h0 h1
theorem NumG.sh {s s' : ByteArray} {d p e : Int} (h : NumG s p e) (g : Ag s s' d p e) : NumG s' (p + d) (e + d) := by
 obtain ⟨a, b, c, ha, hab, hbc, hce, h2, h48, hg, hf, hx⟩ := h
 have hpa : p ≤ a := by rcases ha with ⟨rfl, _⟩ | ⟨rfl, _⟩ <;> omega
 refine ⟨a + d, b + d, c + d, ?_, by omega, by omega, by omega, by have := g.2.2.2.1; omega, fun q => ?_, (g.sub hpa (by omega)).dig hg, ?_, ?_⟩
 ·rcases ha with ⟨rfl, h⟩ | ⟨rfl, h⟩
  ·exact .inl ⟨rfl, by rw [g.at a (a + d) rfl (by omega) (by omega)]; exact h⟩
  ·exact .inr ⟨by omega, by rw [g.at p (p + d) rfl (by omega) (by omega)]; exact h⟩
 ·rw [g.at a (a + d) rfl hpa (by omega)] at q
  have := h48 q
  omega
 ·rcases hf with rfl | ⟨h1, h2, h3⟩
  ·exact .inl rfl
  ·refine .inr ⟨by rw [g.at b (b + d) rfl (by omega) (by omega)]; exact h1, by omega, fun i x y => ?_⟩
   exact (g.sub (a' := b + 1) (e' := c) (by omega) (by omega)).dig h3 i (by omega) y
 rcases hx with rfl | ⟨h1, f, h3, h4, h5⟩
 ·exact .inl rfl
 have hcf : c + 1 ≤ f := by rcases h3 with rfl | ⟨rfl, _⟩ <;> omega
 refine .inr ⟨by rw [g.at c (c + d) rfl (by omega) (by omega)]; exact h1, f + d, ?_, by omega, (g.sub (by omega) (by omega)).dig h5⟩
 rcases h3 with rfl | ⟨rfl, h6⟩
 ·exact .inl (by omega)
 ·exact .inr ⟨by omega, by rw [g.at (c + 1) (c + d + 1) (by omega) (by omega) (by omega)]; exact h6⟩
theorem hex4_sh {s s' : ByteArray} {d p : Int} (h : hex4 s p) (g : Ag s s' d p (p + 4)) : hex4 s' (p + d) := by
 intro i x y
 rw [g.at (i - d) i (by omega) (by omega) (by omega)]
 exact h _ (by omega) (by omega)
theorem Bod_sh {s s' : ByteArray} {j i d : Int} (h : Bod s j i) : Ag s s' d i j → Bod s' (j + d) (i + d) := by
 induction h with
 | nil => intro g; exact .nil
 | plain i a b c e f ih =>
  intro g
  have := g.at i (i + d) rfl (by omega) a
  have k := ih (g.sub (by omega) (by omega))
  rw [show i + 1 + d = i + d + 1 by omega] at k
  exact .plain _ (by omega) (by rw [this]; exact b) (by rw [this]; exact c) (by rw [this]; exact e) k
 | esc i a b c e ih =>
  intro g
  have k := ih (g.sub (by omega) (by omega))
  rw [show i + 2 + d = i + d + 2 by omega] at k
  exact .esc _ (by omega) (by rw [g.at i (i + d) rfl (by omega) (by omega)]; exact b) (by rw [g.at (i + 1) (i + d + 1) (by omega) (by omega) (by omega)]; exact c) k
 | uni i a b c e f ih =>
  intro g
  have k := ih (g.sub (by omega) (by omega))
  rw [show i + 6 + d = i + d + 6 by omega] at k
  refine .uni _ (by omega) (by rw [g.at i (i + d) rfl (by omega) (by omega)]; exact b) (by rw [g.at (i + 1) (i + d + 1) (by omega) (by omega) (by omega)]; exact c) ?_ k
  have := hex4_sh e (g.sub (a' := i + 2) (e' := i + 2 + 4) (by omega) (by omega))
  rwa [show i + 2 + d = i + d + 2 by omega] at this
theorem Str_sh {s s' : ByteArray} {d p e : Int} (h : Str s p e) (g : Ag s s' d p e) : Str s' (p + d) (e + d) := by
 obtain ⟨h0, h34, j, rfl, h1, h2, h3, h4⟩ := h
 have k := Bod_sh h4 (g.sub (a' := p + 1) (e' := j) (by omega) (by omega))
 rw [show p + 1 + d = p + d + 1 by omega] at k
 exact ⟨by have := g.2.1; omega, by rw [g.at p (p + d) rfl (by omega) (by omega)]; exact h34, j + d, by omega, by omega, by have := g.2.2.2.1; omega, by rw [g.at j (j + d) rfl (by omega) (by omega)]; exact h3, k⟩
theorem Wd_sh {s s' l : ByteArray} {d p e : Int} (h : Wd s p e l) (g : Ag s s' d p e) : Wd s' (p + d) (e + d) l := by
 obtain ⟨h1, h2, h3⟩ := h
 exact ⟨by omega, g.2.2.2.1, by rw [g.ext (by omega)]; exact h3⟩
mutual
def shP (d : Int) : S78 → S78
 | ⟨k, b, e, N, C⟩ => ⟨k, b + d, e + d, N.map (fun n => ⟨n.f0 + d, n.f1 + d⟩), shL d C⟩
def shL (d : Int) : List S78 → List S78
 | [] => []
 | c :: C => shP d c :: shL d C
end
theorem shP_f0 (d : Int) (q : S78) : (shP d q).f0 = q.f0 := by cases q; simp [shP]
theorem shP_f1 (d : Int) (q : S78) : (shP d q).f1 = q.f1 + d := by cases q; simp [shP]
theorem shP_f2 (d : Int) (q : S78) : (shP d q).f2 = q.f2 + d := by cases q; simp [shP]
theorem shP_f3 (d : Int) (q : S78) : (shP d q).f3 = q.f3.map (fun n => ⟨n.f0 + d, n.f1 + d⟩) := by cases q; simp [shP]
theorem shP_f4 (d : Int) (q : S78) : (shP d q).f4 = shL d q.f4 := by cases q; simp [shP]
def shN (d : Int) (N : List S115) : List S115 := N.map (fun n => ⟨n.f0 + d, n.f1 + d⟩)
def It.sh (d : Int) : It → It
 | .val q => .val (shP d q)
 | .els p C e => .els (p + d) (shL d C) (e + d)
 | .mems p N C e => .mems (p + d) (shN d N) (shL d C) (e + d)
def It.b : It → Int
 | .val q => q.f1
 | .els p _ _ => p
 | .mems p _ _ _ => p
def It.e : It → Int
 | .val q => q.f2
 | .els _ _ e => e
 | .mems _ _ _ e => e
theorem G.sh {s s' : ByteArray} {d : Int} {it : It} (h : G s it) : Ag s s' d it.b it.e → G s' (it.sh d) := by
 induction h with
 | num p e h0 h => intro g; simp only [It.sh, shP, shL, List.map_nil]; exact .num _ _ g.2.1 (h.sh g)
 | str p e h => intro g; simp only [It.sh, shP, shL, List.map_nil]; exact .str _ _ (Str_sh h g)
 | null p e h0 h => intro g; simp only [It.sh, shP, shL, List.map_nil]; exact .null _ _ g.2.1 (Wd_sh h g)
 | fals p e h0 h => intro g; simp only [It.sh, shP, shL, List.map_nil]; exact .fals _ _ g.2.1 (Wd_sh h g)
 | tru p e h0 h => intro g; simp only [It.sh, shP, shL, List.map_nil]; exact .tru _ _ g.2.1 (Wd_sh h g)
 | arr0 p b h0 h1 h2 h3 h4 =>
  intro g
  dsimp only [It.b, It.e] at g
  have q := h2.1
  have k := h2.sh (g.sub (a' := p + 1) (e' := b) (by omega) (by omega))
  simp only [It.sh, shP, shL, List.map_nil]
  rw [show b + 1 + d = b + d + 1 by omega]
  rw [show p + 1 + d = p + d + 1 by omega] at k
  exact .arr0 _ _ g.2.1 (by rw [g.at p (p + d) rfl (by omega) (by omega)]; exact h1) k (by have := g.2.2.2.1; omega) (by rw [g.at b (b + d) rfl (by omega) (by omega)]; exact h4)
 | arr p b e C h0 h1 h2 h3 ih =>
  intro g
  dsimp only [It.b, It.e] at g
  have q := h2.1
  obtain ⟨k0, k1, k2, k3⟩ := h3.ok
  have k := h2.sh (g.sub (a' := p + 1) (e' := b) (by omega) (by omega))
  simp only [It.sh, shP, shL, List.map_nil]
  rw [show p + 1 + d = p + d + 1 by omega] at k
  exact .arr _ _ _ _ g.2.1 (by rw [g.at p (p + d) rfl (by omega) (by omega)]; exact h1) k (ih (g.sub (by dsimp only [It.b]; omega) (by dsimp only [It.e]; omega)))
 | obj0 p b h0 h1 h2 h3 h4 =>
  intro g
  dsimp only [It.b, It.e] at g
  have q := h2.1
  have k := h2.sh (g.sub (a' := p + 1) (e' := b) (by omega) (by omega))
  simp only [It.sh, shP, shL, List.map_nil]
  rw [show b + 1 + d = b + d + 1 by omega]
  rw [show p + 1 + d = p + d + 1 by omega] at k
  exact .obj0 _ _ g.2.1 (by rw [g.at p (p + d) rfl (by omega) (by omega)]; exact h1) k (by have := g.2.2.2.1; omega) (by rw [g.at b (b + d) rfl (by omega) (by omega)]; exact h4)
 | obj p b e N C h0 h1 h2 h3 ih =>
  intro g
  dsimp only [It.b, It.e] at g
  have q := h2.1
  obtain ⟨k0, k1, k2, k3, k4⟩ := h3.ok
  have k := h2.sh (g.sub (a' := p + 1) (e' := b) (by omega) (by omega))
  simp only [It.sh, shP]
  rw [show p + 1 + d = p + d + 1 by omega] at k
  exact .obj _ _ _ _ _ g.2.1 (by rw [g.at p (p + d) rfl (by omega) (by omega)]; exact h1) k (ih (g.sub (by dsimp only [It.b]; omega) (by dsimp only [It.e]; omega)))
 | els1 c b h0 h1 h2 h3 ih =>
  intro g
  dsimp only [It.b, It.e] at g
  have q := h1.1
  obtain ⟨i0, i1, i2, i3⟩ := h0.ok
  have k := h1.sh (g.sub (a' := c.f2) (e' := b) (by omega) (by omega))
  simp only [It.sh, shL]
  rw [show b + 1 + d = b + d + 1 by omega, ← shP_f1]
  rw [← shP_f2] at k
  exact .els1 _ _ (ih (g.sub (by dsimp only [It.b]; omega) (by dsimp only [It.e]; omega))) k (by have := g.2.2.2.1; omega) (by rw [g.at b (b + d) rfl (by omega) (by omega)]; exact h3)
 | elsn c b p e C h0 h1 h2 h3 h4 h5 ih ih2 =>
  intro g
  dsimp only [It.b, It.e] at g
  have q := h1.1
  have q2 := h4.1
  obtain ⟨i0, i1, i2, i3⟩ := h0.ok
  obtain ⟨j0, j1, j2, j3⟩ := h5.ok
  have k := h1.sh (g.sub (a' := c.f2) (e' := b) (by omega) (by omega))
  have k2 := h4.sh (g.sub (a' := b + 1) (e' := p) (by omega) (by omega))
  simp only [It.sh, shL]
  rw [← shP_f1]
  rw [← shP_f2] at k
  rw [show b + 1 + d = b + d + 1 by omega] at k2
  exact .elsn _ _ _ _ _ (ih (g.sub (by dsimp only [It.b]; omega) (by dsimp only [It.e]; omega))) k (by have := g.2.2.2.1; omega) (by rw [g.at b (b + d) rfl (by omega) (by omega)]; exact h3) k2 (ih2 (g.sub (by dsimp only [It.b]; omega) (by dsimp only [It.e]; omega)))
 | mem1 n c b x h0 h1 h2 h3 h4 h5 h6 h7 ih =>
  intro g
  dsimp only [It.b, It.e] at g
  have q := h1.1
  have q2 := h3.1
  have q3 := h5.1
  obtain ⟨i0, i1, i2, i3⟩ := h4.ok
  have hs := Str_sh h0 (g.sub (a' := n.f0) (e' := n.f1) (by omega) (by omega))
  obtain ⟨r0, _, j, r1, r2, r3, _⟩ := h0
  have k := h1.sh (g.sub (a' := n.f1) (e' := b) (by omega) (by omega))
  have k2 := h3.sh (g.sub (a' := b + 1) (e' := c.f1) (by omega) (by omega))
  have k3 := h5.sh (g.sub (a' := c.f2) (e' := x) (by omega) (by omega))
  simp only [It.sh, shL, shN, List.map_cons, List.map_nil]
  rw [show x + 1 + d = x + d + 1 by omega]
  rw [← shP_f2] at k3
  rw [← shP_f1, show b + 1 + d = b + d + 1 by omega] at k2
  exact .mem1 ⟨n.f0 + d, n.f1 + d⟩ _ (b + d) _ hs k (by rw [g.at b (b + d) rfl (by omega) (by omega)]; exact h2) k2 (ih (g.sub (by dsimp only [It.b]; omega) (by dsimp only [It.e]; omega))) k3 (by have := g.2.2.2.1; omega) (by rw [g.at x (x + d) rfl (by omega) (by omega)]; exact h7)
 | memn n c b x p e N C h0 h1 h2 h3 h4 h5 h6 h7 h8 h9 ih ih2 =>
  intro g
  dsimp only [It.b, It.e] at g
  have q := h1.1
  have q2 := h3.1
  have q3 := h5.1
  have q4 := h8.1
  obtain ⟨i0, i1, i2, i3⟩ := h4.ok
  obtain ⟨j0, j1, j2, j3, j4⟩ := h9.ok
  have hs := Str_sh h0 (g.sub (a' := n.f0) (e' := n.f1) (by omega) (by omega))
  obtain ⟨r0, _, j, r1, r2, r3, _⟩ := h0
  have k := h1.sh (g.sub (a' := n.f1) (e' := b) (by omega) (by omega))
  have k2 := h3.sh (g.sub (a' := b + 1) (e' := c.f1) (by omega) (by omega))
  have k3 := h5.sh (g.sub (a' := c.f2) (e' := x) (by omega) (by omega))
  have k4 := h8.sh (g.sub (a' := x + 1) (e' := p) (by omega) (by omega))
  simp only [It.sh, shL, shN, List.map_cons]
  rw [← shP_f2] at k3
  rw [← shP_f1, show b + 1 + d = b + d + 1 by omega] at k2
  rw [show x + 1 + d = x + d + 1 by omega] at k4
  exact .memn ⟨n.f0 + d, n.f1 + d⟩ _ (b + d) _ _ _ _ _ hs k (by rw [g.at b (b + d) rfl (by omega) (by omega)]; exact h2) k2 (ih (g.sub (by dsimp only [It.b]; omega) (by dsimp only [It.e]; omega))) k3 (by have := g.2.2.2.1; omega) (by rw [g.at x (x + d) rfl (by omega) (by omega)]; exact h7) k4 (ih2 (g.sub (by dsimp only [It.b]; omega) (by dsimp only [It.e]; omega)))
def PA (s : ByteArray) (p : Int) : Prop := Ev (fun k => spec_Paired.l0 k s p) true
theorem paB (s : ByteArray) (hz : s.size ≤ 65536) (j : Int) (hj : j < s.size) (h34 : bt s j = 34) : ∀ (n : Nat) (i : Int), 0 ≤ i → j - i < n → Bod s j i → Ev (fun k => spec_Paired.l0 k s i) true → ∃ o, PDec s j i o ∧ (o.length : Int) ≤ j - i ∧ PA s j := by
 intro n
 induction n with
 | zero => intro i h0 h1 h; have := h.le; omega
 | succ n ih =>
  intro i h0 h1 h he
  cases h with
  | nil => exact ⟨[], .nil, by simp, he⟩
  | plain _ a b c d e =>
   obtain ⟨o, ho, hl, hp⟩ := ih (i + 1) (by omega) (by omega) e (Ev.back (pair_plain s hz i h0 (by omega) c) he)
   exact ⟨_, .plain i o h0 a c b d ho, by simp; omega, hp⟩
  | esc _ a b c d =>
   have h2 := Ev.unbind (unit_no s hz i (by omega) (esc_not_U c)) (Ev.back (pair_back s i h0 (by omega) b) he)
   have h3 : Ev (fun k => spec_Paired.l0 k s (i + 2)) true := by
    refine Ev.congr (fun k => ?_) h2
    dsimp only [pairStep]; rw [if_neg (by simp), w64 (by omega) (by omega)]
   obtain ⟨o, ho, hl, hp⟩ := ih (i + 2) (by omega) (by omega) d h3
   exact ⟨_, .esc i o h0 a b c ho, by simp; omega, hp⟩
  | uni _ a b c d e =>
   have hU : isU s s.size i := ⟨h0, by omega, b, c, d⟩
   have hUj : isU s j i := ⟨h0, by omega, b, c, d⟩
   have h2 := Ev.unbind (unit_yes s hz i hU) (Ev.back (pair_back s i h0 (by omega) b) he)
   by_cases cH : isHigh (u4 s (i + 2))
   rotate_left
   ·by_cases cL : isLow (u4 s (i + 2))
    ·exfalso
     have h5 : Ev (fun _ => some false) true := by
      refine Ev.congr (fun k => ?_) h2
      dsimp only [pairStep]; rw [if_pos rfl, high_f]; simp only [Option.bind_some]; rw [if_neg (by simpa using cH), low_f]; simp only [Option.bind_some]; rw [if_pos (decide_eq_true cL)]
     exact absurd (Ev.one h5 (Ev.now false)) (by simp)
    have h3 : Ev (fun k => spec_Paired.l0 k s (i + 6)) true := by
     refine Ev.congr (fun k => ?_) h2
     dsimp only [pairStep]; rw [if_pos rfl, high_f]; simp only [Option.bind_some]; rw [if_neg (by simpa using cH), low_f]; simp only [Option.bind_some]; rw [if_neg (by simpa using cL), w64 (by omega) (by omega)]
    obtain ⟨o, ho, hl, hp⟩ := ih (i + 6) (by omega) (by omega) e h3
    have := enc_length (u4 s (i + 2))
    exact ⟨_, .uni i o hUj cH cL ho, by simp; omega, hp⟩
   have h3 : Ev (fun k => (spec_unit.f k s (i + 6)).bind fun b => (if b.2 = true then ((spec_low.f b.1).bind fun t368 => (if t368 = true then (spec_Paired.l0 k s (wrap64 (i + 12))) else (some false))) else (some false))) true := by
    refine Ev.congr (fun k => ?_) h2
    dsimp only [pairStep]; rw [if_pos rfl, high_f]; simp only [Option.bind_some]; rw [if_pos (decide_eq_true cH), w64 (x := i + 6) (by omega) (by omega)]
   by_cases cU2 : isU s s.size (i + 6)
   rotate_left
   ·exfalso
    have h4 := Ev.unbind (unit_no s hz _ (by omega) cU2) h3
    have h5 : Ev (fun _ => some false) true := by
     refine Ev.congr (fun k => ?_) h4
     (try dsimp only); rw [if_neg (by simp)]
    exact absurd (Ev.one h5 (Ev.now false)) (by simp)
   have h4 := Ev.unbind (unit_yes s hz _ cU2) h3
   by_cases cL : isLow (u4 s (i + 6 + 2))
   rotate_left
   ·exfalso
    have h5 : Ev (fun _ => some false) true := by
     refine Ev.congr (fun k => ?_) h4
     (try dsimp only); rw [if_pos rfl, low_f]; simp only [Option.bind_some]; rw [if_neg (by simpa using cL)]
    exact absurd (Ev.one h5 (Ev.now false)) (by simp)
   obtain ⟨p1, p2, p3, p4, p5⟩ := cU2
   have key : i + 12 ≤ j ∧ Bod s j (i + 12) := by
    cases e with
    | nil => omega
    | plain _ q1 q2 q3 q4 q5 => exact absurd p3 q3
    | esc _ q1 q2 q3 q4 => unfold isEsc at q3; omega
    | uni _ q1 q2 q3 q4 q5 => exact ⟨by omega, by rwa [show i + 6 + 6 = i + 12 by omega] at q5⟩
   have h5 : Ev (fun k => spec_Paired.l0 k s (i + 12)) true := by
    refine Ev.congr (fun k => ?_) h4
    (try dsimp only); rw [if_pos rfl, low_f]; simp only [Option.bind_some]; rw [if_pos (decide_eq_true cL), w64 (by omega) (by omega)]
   obtain ⟨o, ho, hl, hp⟩ := ih (i + 12) (by omega) (by omega) key.2 h5
   have := enc_length (65536 + (u4 s (i + 2) - 55296) * 1024 + (u4 s (i + 8) - 56320))
   refine ⟨_, .pair i o hUj ⟨⟨p1, by omega, p3, p4, p5⟩, cH, ?_⟩ ho, by simp; omega, hp⟩
   rwa [show i + 6 + 2 = i + 8 by omega] at cL
theorem pa_run (s : ByteArray) (hz : s.size ≤ 65536) (b : Int) (hb : b ≤ s.size) : ∀ (d : Nat) (a : Int), 0 ≤ a → a + d = b → (∀ i, a ≤ i → i < b → bt s i ≠ 92) → PA s a → PA s b := by
 intro d
 induction d with
 | zero => intro a h0 h1 h2 h; rwa [show b = a by omega]
 | succ d ih =>
  intro a h0 h1 h2 h
  exact ih (a + 1) (by omega) (by omega) (fun i x y => h2 i (by omega) y) (Ev.back (pair_plain s hz a h0 (by omega) (h2 a (by omega) (by omega))) h)
theorem pa_go {s : ByteArray} (hz : s.size ≤ 65536) {a b : Int} (h0 : 0 ≤ a) (hab : a ≤ b) (hb : b ≤ s.size) (h : ∀ i, a ≤ i → i < b → bt s i ≠ 92) (p : PA s a) : PA s b := pa_run s hz b hb (b - a).toNat a h0 (by omega) h p
theorem pa_bl {s : ByteArray} (hz : s.size ≤ 65536) {a b : Int} (h0 : 0 ≤ a) (hb : b ≤ s.size) (h : Bl s a b) (p : PA s a) : PA s b := pa_go hz h0 h.1 hb (fun i x y => by have := h.2 i x y; unfold isB at this; omega) p
theorem pa_one {s : ByteArray} (hz : s.size ≤ 65536) {a : Int} (h0 : 0 ≤ a) (ha : a < s.size) (h : bt s a ≠ 92) (p : PA s a) : PA s (a + 1) := pa_go hz h0 (by omega) (by omega) (fun i x y => by rw [show i = a by omega]; exact h) p
def NC (x : Int) : Prop := dig x ∨ x = 45 ∨ x = 46 ∨ x = 101 ∨ x = 69 ∨ x = 43
theorem NumG.nc {s : ByteArray} {p e : Int} (h : NumG s p e) : ∀ i, p ≤ i → i < e → NC (bt s i) := by
 obtain ⟨a, b, c, ha, hab, hbc, hce, h2, h48, hg, hf, hx⟩ := h
 intro i x y
 by_cases q1 : i < a
 ·rcases ha with ⟨rfl, _⟩ | ⟨rfl, h⟩
  ·omega
  ·rw [show i = p by omega]; exact .inr (.inl h)
 by_cases q2 : i < b
 ·exact .inl (hg i (by omega) q2)
 by_cases q3 : i < c
 ·rcases hf with rfl | ⟨h1, h3, h4⟩
  ·omega
  by_cases q4 : i = b
  ·subst q4; exact .inr (.inr (.inl h1))
  ·exact .inl (h4 i (by omega) q3)
 rcases hx with rfl | ⟨h1, f, h3, h4, h5⟩
 ·omega
 by_cases q4 : i = c
 ·subst q4; rcases h1 with h1 | h1
  ·exact .inr (.inr (.inr (.inl h1)))
  ·exact .inr (.inr (.inr (.inr (.inl h1))))
 by_cases q5 : i < f
 rotate_left
 ·exact .inl (h5 i (by omega) y)
 rcases h3 with rfl | ⟨rfl, h6⟩
 ·omega
 rw [show i = c + 1 by omega]
 rcases h6 with h6 | h6
 ·exact .inr (.inr (.inr (.inr (.inr h6))))
 ·exact .inr (.inl h6)
theorem Wd.byte {s l : ByteArray} {p e : Int} (h0 : 0 ≤ p) (h : Wd s p e l) {P : Int → Prop} (hP : ∀ i : Nat, i < l.size → P (bt l i)) : ∀ i, p ≤ i → i < e → P (bt s i) := by
 intro i x y
 have h1 := h.1
 have := wd_bt h0 h (i - p) (by omega) (by omega)
 rw [show p + (i - p) = i by omega] at this
 have k := hP (i - p).toNat (by omega)
 rw [show (((i - p).toNat : Nat) : Int) = i - p by omega] at k
 rw [this]; exact k
theorem wNull_low : ∀ i : Nat, i < wNull.size → 97 ≤ bt wNull i ∧ bt wNull i ≤ 122 := by
 intro i h
 have : wNull.size = 4 := rfl
 have q : i = 0 ∨ i = 1 ∨ i = 2 ∨ i = 3 := by omega
 rcases q with rfl | rfl | rfl | rfl <;> decide
theorem wFalse_low : ∀ i : Nat, i < wFalse.size → 97 ≤ bt wFalse i ∧ bt wFalse i ≤ 122 := by
 intro i h
 have : wFalse.size = 5 := rfl
 have q : i = 0 ∨ i = 1 ∨ i = 2 ∨ i = 3 ∨ i = 4 := by omega
 rcases q with rfl | rfl | rfl | rfl | rfl <;> decide
theorem wTrue_low : ∀ i : Nat, i < wTrue.size → 97 ≤ bt wTrue i ∧ bt wTrue i ≤ 122 := by
 intro i h
 have : wTrue.size = 4 := rfl
 have q : i = 0 ∨ i = 1 ∨ i = 2 ∨ i = 3 := by omega
 rcases q with rfl | rfl | rfl | rfl <;> decide
theorem str_pa {s : ByteArray} (hz : s.size ≤ 65536) {p e : Int} (h : Str s p e) (hp : PA s p) : (∃ o, PDec s (e - 1) (p + 1) o ∧ (o.length : Int) ≤ e - 1 - (p + 1)) ∧ PA s e := by
 obtain ⟨h0, h34, j, rfl, h1, h2, h3, h4⟩ := h
 obtain ⟨o, ho, hl, hj⟩ := paB s hz j (by omega) h3 (s.size + 1) (p + 1) (by omega) (by omega) h4 (pa_one hz h0 (by omega) (by omega) hp)
 rw [show j + 1 - 1 = j by omega]
 exact ⟨⟨o, ho, hl⟩, pa_one hz (by omega) (by omega) (by omega) hj⟩
end Go.Proofs.YtgiioglmkogpkaaGreatDoor.V
namespace Go.Proofs.YtgiioglmkogpkaaGreatDoor.M
open Go.RowKit Go.Proofs.YtgiioglmkogpkaaGreatDoorW.PrintWords Go.Proofs.YtgiioglmkogpkaaGreatDoorW.PrintLast Go.Proofs.YtgiioglmkogpkaaGreatDoorW.PrintMore
set_option maxHeartbeats 8000000
set_option maxRecDepth 100000
attribute [local go_sem] max2_int min2_int max_two min_two max_three min_three max_four min_four
mutual
def gjson_parseString.l0 : Nat → ByteArray → Int → Int → Option (Int × ByteArray × Bool × Bool)
 | 0, _, _, _ => none
 | k + 1, x0, x1, x8 => if x1 < (x0.size : Int) then (if 0 ≤ x1 then (if (bt x0 x1) > 92 then (gjson_parseString.l0 k x0 (wrap64 (x1 + 1)) x8) else (if (bt x0 x1) = 34 then (if 0 ≤ (wrap64 (x8 - 1)) then (if (wrap64 (x8 - 1)) ≤ (wrap64 (x1 + 1)) then (if (wrap64 (x1 + 1)) ≤ (x0.size : Int) then (some (wrap64 (x1 + 1), x0.extract ((wrap64 (x8 - 1)) : Int).toNat ((wrap64 (x1 + 1)) : Int).toNat, false, true)) else (none)) else (none)) else (none)) else (if (bt x0 x1) = 92 then (gjson_parseString.l1 k x0 (wrap64 (x1 + 1)) x8) else (gjson_parseString.l0 k x0 (wrap64 (x1 + 1)) x8)))) else (none)) else (if 0 ≤ (wrap64 (x8 - 1)) then (if (wrap64 (x8 - 1)) ≤ (x0.size : Int) then (some (x1, x0.extract ((wrap64 (x8 - 1)) : Int).toNat x0.size, false, false)) else (none)) else (none))
def gjson_parseString.l1 : Nat → ByteArray → Int → Int → Option (Int × ByteArray × Bool × Bool)
 | 0, _, _, _ => none
 | k + 1, x0, x1, x8 => if x1 < (x0.size : Int) then (if 0 ≤ x1 then (if (bt x0 x1) > 92 then (gjson_parseString.l1 k x0 (wrap64 (x1 + 1)) x8) else (if (bt x0 x1) = 34 then (if 0 ≤ (wrap64 (x1 - 1)) then (if (wrap64 (x1 - 1)) < (x0.size : Int) then (if (bt x0 (wrap64 (x1 - 1))) = 92 then (gjson_parseString.l2 k x0 x1 x8 0 (wrap64 (x1 - 2))) else (if 0 ≤ (wrap64 (x8 - 1)) then (if (wrap64 (x8 - 1)) ≤ (wrap64 (x1 + 1)) then (if (wrap64 (x1 + 1)) ≤ (x0.size : Int) then (some (wrap64 (x1 + 1), x0.extract ((wrap64 (x8 - 1)) : Int).toNat ((wrap64 (x1 + 1)) : Int).toNat, true, true)) else (none)) else (none)) else (none))) else (none)) else (none)) else (gjson_parseString.l1 k x0 (wrap64 (x1 + 1)) x8))) else (none)) else (if 0 ≤ (wrap64 (x8 - 1)) then (if (wrap64 (x8 - 1)) ≤ (x0.size : Int) then (some (x1, x0.extract ((wrap64 (x8 - 1)) : Int).toNat x0.size, false, false)) else (none)) else (none))
def gjson_parseString.l2 : Nat → ByteArray → Int → Int → Int → Int → Option (Int × ByteArray × Bool × Bool)
 | 0, _, _, _, _, _ => none
 | k + 1, x0, x1, x8, x9, x10 => if x10 > 0 then (if 0 ≤ x10 then (if x10 < (x0.size : Int) then (if (bt x0 x10) = 92 then (gjson_parseString.l2 k x0 x1 x8 (wrap64 (x9 + 1)) (wrap64 (x10 - 1))) else (if (Int.tmod x9 2) = 0 then (gjson_parseString.l1 k x0 (wrap64 (x1 + 1)) x8) else (if 0 ≤ (wrap64 (x8 - 1)) then (if (wrap64 (x8 - 1)) ≤ (wrap64 (x1 + 1)) then (if (wrap64 (x1 + 1)) ≤ (x0.size : Int) then (some (wrap64 (x1 + 1), x0.extract ((wrap64 (x8 - 1)) : Int).toNat ((wrap64 (x1 + 1)) : Int).toNat, true, true)) else (none)) else (none)) else (none)))) else (none)) else (none)) else (if (Int.tmod x9 2) = 0 then (gjson_parseString.l1 k x0 (wrap64 (x1 + 1)) x8) else (if 0 ≤ (wrap64 (x8 - 1)) then (if (wrap64 (x8 - 1)) ≤ (wrap64 (x1 + 1)) then (if (wrap64 (x1 + 1)) ≤ (x0.size : Int) then (some (wrap64 (x1 + 1), x0.extract ((wrap64 (x8 - 1)) : Int).toNat ((wrap64 (x1 + 1)) : Int).toNat, true, true)) else (none)) else (none)) else (none)))
end
def gjson_parseLiteral.l0 : Nat → ByteArray → Int → Int → Option (Int × ByteArray)
 | 0, _, _, _ => none
 | k + 1, x0, x1, x6 => if x1 < (x0.size : Int) then (if 0 ≤ x1 then (if (bt x0 x1) < 97 then (if 0 ≤ x6 then (if x6 ≤ x1 then (if x1 ≤ (x0.size : Int) then (some (x1, x0.extract (x6 : Int).toNat (x1 : Int).toNat)) else (none)) else (none)) else (none)) else (if (bt x0 x1) > 122 then (if 0 ≤ x6 then (if x6 ≤ x1 then (if x1 ≤ (x0.size : Int) then (some (x1, x0.extract (x6 : Int).toNat (x1 : Int).toNat)) else (none)) else (none)) else (none)) else (gjson_parseLiteral.l0 k x0 (wrap64 (x1 + 1)) x6))) else (none)) else (if 0 ≤ x6 then (if x6 ≤ (x0.size : Int) then (some (x1, x0.extract (x6 : Int).toNat x0.size)) else (none)) else (none))
def gjson_parseLiteral.f (k : Nat) (a0 : ByteArray) (a1 : Int) : Option (Int × ByteArray) := gjson_parseLiteral.l0 k a0 (wrap64 (a1 + 1)) a1
theorem gjson_parseLiteral.calls (k : Nat) (a0 : ByteArray) (a1 : Int) (r1 : Int) (r2 : ByteArray) (w : World) (h : gjson_parseLiteral.f k a0 a1 = some (r1, r2)) :
  Calls Tryz.prog 89 #[.string a0, .int .i64 a1] w fun e w' => e = .returned (.tuple #[.int .i64 r1, .string r2]) ∧ Drawn0 w w' := by
 have H : (gjson_parseLiteral.l0 k a0 (wrap64 (a1 + 1)) a1) = some (r1, r2) := h
 have H' := Aside0.mk H
 go_enter Tryz.func89, Tryz.ntmps89
 go_wp2
 repeat (go_quiet (fail); try go_wp2)
 go_loopg [1] k (fun kq v1 w' => ∃ (x1_1 : Int), v1 = .int .i64 x1_1 ∧ Aside0 (gjson_parseLiteral.l0 kq a0 x1_1 a1 = some (r1, r2)) ∧ Aside0 (kq ≤ k) ∧ Drawn0 w w')
 case atStart => exact ⟨(wrap64 (a1 + 1)), rfl, H', ⟨Nat.le_refl _⟩, by repeat (first | exact Drawn0.refl _ | apply Drawn0.step)⟩
 obtain ⟨x1_1, rfl, HA, HK1, ⟨m1, rfl⟩⟩ := hrel
 cases gk with
 | zero => exact absurd HA.out (by simp [gjson_parseLiteral.l0])
 | succ k1 =>
  have H := HA.out
  simp only [gjson_parseLiteral.l0] at H
  by_cases c3 : x1_1 < (a0.size : Int)
  rotate_left
  ·rw [if_neg c3] at H
   have c3b0 : decide (x1_1 < (a0.size : Int)) = false := decide_eq_false c3
   by_cases c15 : 0 ≤ a1
   rotate_left
   ·rw [if_neg c15] at H
    cases H
   rw [if_pos c15] at H
   by_cases c16 : a1 ≤ (a0.size : Int)
   rotate_left
   ·rw [if_neg c16] at H
    cases H
   rw [if_pos c16] at H
   simp only [Option.some.injEq, Prod.mk.injEq] at H
   obtain ⟨rfl, rfl⟩ := H
   go_wp2
   repeat (go_quiet (fail); try go_wp2)
   go_ret2
   exact ⟨by first | rfl | (simp; done) | (simp [*]; done), by repeat (first | exact Drawn0.refl _ | apply Drawn0.step)⟩
  rw [if_pos c3] at H
  have c3b0 : decide (x1_1 < (a0.size : Int)) = true := decide_eq_true c3
  by_cases c4 : 0 ≤ x1_1
  rotate_left
  ·rw [if_neg c4] at H
   cases H
  rw [if_pos c4] at H
  by_cases c6 : (bt a0 x1_1) < 97
  ·rw [if_pos c6] at H
   by_cases c7 : 0 ≤ a1
   rotate_left
   ·rw [if_neg c7] at H
    cases H
   rw [if_pos c7] at H
   by_cases c8 : a1 ≤ x1_1
   rotate_left
   ·rw [if_neg c8] at H
    cases H
   rw [if_pos c8] at H
   by_cases c9 : x1_1 ≤ (a0.size : Int)
   rotate_left
   ·rw [if_neg c9] at H
    cases H
   rw [if_pos c9] at H
   simp only [Option.some.injEq, Prod.mk.injEq] at H
   obtain ⟨rfl, rfl⟩ := H
   have hx5 := bt_at a0 x1_1
   go_wp2
   repeat (go_quiet (fail); try go_wp2)
   go_ret2
   exact ⟨by first | rfl | (simp; done) | (simp [*]; done), by repeat (first | exact Drawn0.refl _ | apply Drawn0.step)⟩
  rw [if_neg c6] at H
  by_cases c11 : (bt a0 x1_1) > 122
  rotate_left
  ·rw [if_neg c11] at H
   have H' := Aside0.mk H
   have hx10 := bt_at a0 x1_1
   go_wp2
   repeat (go_quiet (fail); try go_wp2)
   go_roundg k1
   case measure => have := HK1.out; omega
   case rel => exact ⟨(wrap64 (x1_1 + 1)), rfl, H', ⟨by have := HK1.out; omega⟩, by repeat (first | exact Drawn0.refl _ | apply Drawn0.step)⟩
  rw [if_pos c11] at H
  by_cases c12 : 0 ≤ a1
  rotate_left
  ·rw [if_neg c12] at H
   cases H
  rw [if_pos c12] at H
  by_cases c13 : a1 ≤ x1_1
  rotate_left
  ·rw [if_neg c13] at H
   cases H
  rw [if_pos c13] at H
  by_cases c14 : x1_1 ≤ (a0.size : Int)
  rotate_left
  ·rw [if_neg c14] at H
   cases H
  rw [if_pos c14] at H
  simp only [Option.some.injEq, Prod.mk.injEq] at H
  obtain ⟨rfl, rfl⟩ := H
  have hx10 := bt_at a0 x1_1
  go_wp2
  repeat (go_quiet (fail); try go_wp2)
  go_ret2
  exact ⟨by first | rfl | (simp; done) | (simp [*]; done), by repeat (first | exact Drawn0.refl _ | apply Drawn0.step)⟩
set_option maxHeartbeats 8000000
set_option maxRecDepth 100000
def gjson_parseNumber.l0 : Nat → ByteArray → Int → Int → Option (Int × ByteArray)
 | 0, _, _, _ => none
 | k + 1, x0, x1, x6 => if x1 < (x0.size : Int) then (if 0 ≤ x1 then (if (bt x0 x1) ≤ 32 then (if 0 ≤ x6 then (if x6 ≤ x1 then (if x1 ≤ (x0.size : Int) then (some (x1, x0.extract (x6 : Int).toNat (x1 : Int).toNat)) else (none)) else (none)) else (none)) else (if (bt x0 x1) = 44 then (if 0 ≤ x6 then (if x6 ≤ x1 then (if x1 ≤ (x0.size : Int) then (some (x1, x0.extract (x6 : Int).toNat (x1 : Int).toNat)) else (none)) else (none)) else (none)) else (if (bt x0 x1) = 93 then (if 0 ≤ x6 then (if x6 ≤ x1 then (if x1 ≤ (x0.size : Int) then (some (x1, x0.extract (x6 : Int).toNat (x1 : Int).toNat)) else (none)) else (none)) else (none)) else (if (bt x0 x1) = 125 then (if 0 ≤ x6 then (if x6 ≤ x1 then (if x1 ≤ (x0.size : Int) then (some (x1, x0.extract (x6 : Int).toNat (x1 : Int).toNat)) else (none)) else (none)) else (none)) else (gjson_parseNumber.l0 k x0 (wrap64 (x1 + 1)) x6))))) else (none)) else (if 0 ≤ x6 then (if x6 ≤ (x0.size : Int) then (some (x1, x0.extract (x6 : Int).toNat x0.size)) else (none)) else (none))
def gjson_parseNumber.f (k : Nat) (a0 : ByteArray) (a1 : Int) : Option (Int × ByteArray) := gjson_parseNumber.l0 k a0 (wrap64 (a1 + 1)) a1
theorem gjson_parseNumber.calls (k : Nat) (a0 : ByteArray) (a1 : Int) (r1 : Int) (r2 : ByteArray) (w : World) (h : gjson_parseNumber.f k a0 a1 = some (r1, r2)) :
  Calls Tryz.prog 90 #[.string a0, .int .i64 a1] w fun e w' => e = .returned (.tuple #[.int .i64 r1, .string r2]) ∧ Drawn0 w w' := by
 have H : (gjson_parseNumber.l0 k a0 (wrap64 (a1 + 1)) a1) = some (r1, r2) := h
 clear h
 have H' := Aside0.mk H
 clear H
 go_enter Tryz.func90, Tryz.ntmps90
 go_wp2
 repeat (go_quiet (fail); try go_wp2)
 go_loopg [1] k (fun kq v1 w' => ∃ (x1_1 : Int), v1 = .int .i64 x1_1 ∧ Aside0 (gjson_parseNumber.l0 kq a0 x1_1 a1 = some (r1, r2)) ∧ Aside0 (kq ≤ k) ∧ Drawn0 w w')
 case atStart => exact ⟨(wrap64 (a1 + 1)), rfl, H', ⟨Nat.le_refl _⟩, by repeat (first | exact Drawn0.refl _ | apply Drawn0.step)⟩
 clear H'
 obtain ⟨x1_1, rfl, HA, HK1, ⟨m1, rfl⟩⟩ := hrel
 cases gk with
 | zero => exact absurd HA.out (by simp [gjson_parseNumber.l0])
 | succ k1 =>
  have H := HA.out
  clear HA
  simp only [gjson_parseNumber.l0] at H
  by_cases c3 : x1_1 < (a0.size : Int)
  rotate_left
  ·rw [if_neg c3] at H
   have c3b0 : decide (x1_1 < (a0.size : Int)) = false := decide_eq_false c3
   clear c3
   by_cases c25 : 0 ≤ a1
   rotate_left
   ·rw [if_neg c25] at H
    exact absurd H (by simp)
   rw [if_pos c25] at H
   have c25b0 := eq_true c25
   have c25b1 : decide (0 ≤ a1) = true := decide_eq_true c25
   clear c25
   by_cases c26 : a1 ≤ (a0.size : Int)
   rotate_left
   ·rw [if_neg c26] at H
    exact absurd H (by simp)
   rw [if_pos c26] at H
   have c26b0 := eq_true c26
   have c26b1 : decide (a1 ≤ (a0.size : Int)) = true := decide_eq_true c26
   clear c26
   simp only [Option.some.injEq, Prod.mk.injEq] at H
   obtain ⟨rfl, rfl⟩ := H
   go_wp2
   repeat (go_quiet (fail); try go_wp2)
   go_ret2
   exact ⟨by first | rfl | (simp; done) | (simp [*]; done), by repeat (first | exact Drawn0.refl _ | apply Drawn0.step)⟩
  rw [if_pos c3] at H
  have c3b0 : decide (x1_1 < (a0.size : Int)) = true := decide_eq_true c3
  clear c3
  by_cases c4 : 0 ≤ x1_1
  rotate_left
  ·rw [if_neg c4] at H
   exact absurd H (by simp)
  rw [if_pos c4] at H
  have c4b0 : decide (0 ≤ x1_1) = true := decide_eq_true c4
  clear c4
  by_cases c6 : (bt a0 x1_1) ≤ 32
  ·rw [if_pos c6] at H
   have c6b0 : decide ((bt a0 x1_1) ≤ 32) = true := decide_eq_true c6
   clear c6
   by_cases c7 : 0 ≤ a1
   rotate_left
   ·rw [if_neg c7] at H
    exact absurd H (by simp)
   rw [if_pos c7] at H
   have c7b0 := eq_true c7
   have c7b1 : decide (0 ≤ a1) = true := decide_eq_true c7
   clear c7
   by_cases c8 : a1 ≤ x1_1
   rotate_left
   ·rw [if_neg c8] at H
    exact absurd H (by simp)
   rw [if_pos c8] at H
   have c8b0 := eq_true c8
   have c8b1 : decide (a1 ≤ x1_1) = true := decide_eq_true c8
   clear c8
   by_cases c9 : x1_1 ≤ (a0.size : Int)
   rotate_left
   ·rw [if_neg c9] at H
    exact absurd H (by simp)
   rw [if_pos c9] at H
   have c9b0 := eq_true c9
   have c9b1 : decide (x1_1 ≤ (a0.size : Int)) = true := decide_eq_true c9
   clear c9
   simp only [Option.some.injEq, Prod.mk.injEq] at H
   obtain ⟨rfl, rfl⟩ := H
   have p5 : 0 ≤ (x1_1 : Int) := of_decide_eq_true (by assumption)
   have q5 : x1_1 < (a0.size : Int) := of_decide_eq_true (by assumption)
   have hx5 := bt_at a0 x1_1
   replace p5 := eq_true p5
   replace q5 := eq_true q5
   go_wp2
   repeat (go_quiet (fail); try go_wp2)
   go_ret2
   exact ⟨by first | rfl | (simp; done) | (simp [*]; done), by repeat (first | exact Drawn0.refl _ | apply Drawn0.step)⟩
  rw [if_neg c6] at H
  have c6b0 : decide ((bt a0 x1_1) ≤ 32) = false := decide_eq_false c6
  clear c6
  by_cases c11 : (bt a0 x1_1) = 44
  ·rw [if_pos c11] at H
   have c11b0 : ((bt a0 x1_1) == 44) = true := beq_iff_eq.mpr c11
   have c11b1 : ((bt a0 x1_1) != 44) = false := bne_eq_false_iff_eq.mpr c11
   clear c11
   by_cases c12 : 0 ≤ a1
   rotate_left
   ·rw [if_neg c12] at H
    exact absurd H (by simp)
   rw [if_pos c12] at H
   have c12b0 := eq_true c12
   have c12b1 : decide (0 ≤ a1) = true := decide_eq_true c12
   clear c12
   by_cases c13 : a1 ≤ x1_1
   rotate_left
   ·rw [if_neg c13] at H
    exact absurd H (by simp)
   rw [if_pos c13] at H
   have c13b0 := eq_true c13
   have c13b1 : decide (a1 ≤ x1_1) = true := decide_eq_true c13
   clear c13
   by_cases c14 : x1_1 ≤ (a0.size : Int)
   rotate_left
   ·rw [if_neg c14] at H
    exact absurd H (by simp)
   rw [if_pos c14] at H
   have c14b0 := eq_true c14
   have c14b1 : decide (x1_1 ≤ (a0.size : Int)) = true := decide_eq_true c14
   clear c14
   simp only [Option.some.injEq, Prod.mk.injEq] at H
   obtain ⟨rfl, rfl⟩ := H
   have p5 : 0 ≤ (x1_1 : Int) := of_decide_eq_true (by assumption)
   have q5 : x1_1 < (a0.size : Int) := of_decide_eq_true (by assumption)
   have hx5 := bt_at a0 x1_1
   replace p5 := eq_true p5
   replace q5 := eq_true q5
   have p10 : 0 ≤ (x1_1 : Int) := of_decide_eq_true (by assumption)
   have q10 : x1_1 < (a0.size : Int) := of_decide_eq_true (by assumption)
   have hx10 := bt_at a0 x1_1
   replace p10 := eq_true p10
   replace q10 := eq_true q10
   go_wp2
   repeat (go_quiet (fail); try go_wp2)
   go_ret2
   exact ⟨by first | rfl | (simp; done) | (simp [*]; done), by repeat (first | exact Drawn0.refl _ | apply Drawn0.step)⟩
  rw [if_neg c11] at H
  have c11b0 : ((bt a0 x1_1) == 44) = false := beq_eq_false_iff_ne.mpr c11
  have c11b1 : ((bt a0 x1_1) != 44) = true := bne_iff_ne.mpr c11
  by_cases c16 : (bt a0 x1_1) = 93
  ·rw [if_pos c16] at H
   have c16b0 : ((bt a0 x1_1) == 93) = true := beq_iff_eq.mpr c16
   have c16b1 : ((bt a0 x1_1) != 93) = false := bne_eq_false_iff_eq.mpr c16
   clear c16
   by_cases c17 : 0 ≤ a1
   rotate_left
   ·rw [if_neg c17] at H
    exact absurd H (by simp)
   rw [if_pos c17] at H
   have c17b0 := eq_true c17
   have c17b1 : decide (0 ≤ a1) = true := decide_eq_true c17
   clear c17
   by_cases c18 : a1 ≤ x1_1
   rotate_left
   ·rw [if_neg c18] at H
    exact absurd H (by simp)
   rw [if_pos c18] at H
   have c18b0 := eq_true c18
   have c18b1 : decide (a1 ≤ x1_1) = true := decide_eq_true c18
   clear c18
   by_cases c19 : x1_1 ≤ (a0.size : Int)
   rotate_left
   ·rw [if_neg c19] at H
    exact absurd H (by simp)
   rw [if_pos c19] at H
   have c19b0 := eq_true c19
   have c19b1 : decide (x1_1 ≤ (a0.size : Int)) = true := decide_eq_true c19
   clear c19
   simp only [Option.some.injEq, Prod.mk.injEq] at H
   obtain ⟨rfl, rfl⟩ := H
   have p5 : 0 ≤ (x1_1 : Int) := of_decide_eq_true (by assumption)
   have q5 : x1_1 < (a0.size : Int) := of_decide_eq_true (by assumption)
   have hx5 := bt_at a0 x1_1
   replace p5 := eq_true p5
   replace q5 := eq_true q5
   have p10 : 0 ≤ (x1_1 : Int) := of_decide_eq_true (by assumption)
   have q10 : x1_1 < (a0.size : Int) := of_decide_eq_true (by assumption)
   have hx10 := bt_at a0 x1_1
   replace p10 := eq_true p10
   replace q10 := eq_true q10
   have p15 : 0 ≤ (x1_1 : Int) := of_decide_eq_true (by assumption)
   have q15 : x1_1 < (a0.size : Int) := of_decide_eq_true (by assumption)
   have hx15 := bt_at a0 x1_1
   replace p15 := eq_true p15
   replace q15 := eq_true q15
   go_wp2
   repeat (go_quiet (fail); try go_wp2)
   go_ret2
   exact ⟨by first | rfl | (simp; done) | (simp [*]; done), by repeat (first | exact Drawn0.refl _ | apply Drawn0.step)⟩
  rw [if_neg c16] at H
  have c16b0 : ((bt a0 x1_1) == 93) = false := beq_eq_false_iff_ne.mpr c16
  have c16b1 : ((bt a0 x1_1) != 93) = true := bne_iff_ne.mpr c16
  by_cases c21 : (bt a0 x1_1) = 125
  rotate_left
  ·rw [if_neg c21] at H
   have c21b0 : ((bt a0 x1_1) == 125) = false := beq_eq_false_iff_ne.mpr c21
   have c21b1 : ((bt a0 x1_1) != 125) = true := bne_iff_ne.mpr c21
   have H' := Aside0.mk H
   clear H
   have p5 : 0 ≤ (x1_1 : Int) := of_decide_eq_true (by assumption)
   have q5 : x1_1 < (a0.size : Int) := of_decide_eq_true (by assumption)
   have hx5 := bt_at a0 x1_1
   replace p5 := eq_true p5
   replace q5 := eq_true q5
   have p10 : 0 ≤ (x1_1 : Int) := of_decide_eq_true (by assumption)
   have q10 : x1_1 < (a0.size : Int) := of_decide_eq_true (by assumption)
   have hx10 := bt_at a0 x1_1
   replace p10 := eq_true p10
   replace q10 := eq_true q10
   have p15 : 0 ≤ (x1_1 : Int) := of_decide_eq_true (by assumption)
   have q15 : x1_1 < (a0.size : Int) := of_decide_eq_true (by assumption)
   have hx15 := bt_at a0 x1_1
   replace p15 := eq_true p15
   replace q15 := eq_true q15
   have p20 : 0 ≤ (x1_1 : Int) := of_decide_eq_true (by assumption)
   have q20 : x1_1 < (a0.size : Int) := of_decide_eq_true (by assumption)
   have hx20 := bt_at a0 x1_1
   replace p20 := eq_true p20
   replace q20 := eq_true q20
   go_wp2
   repeat (go_quiet (fail); try go_wp2)
   go_roundg k1
   case measure => have := HK1.out; omega
   case rel => exact ⟨(wrap64 (x1_1 + 1)), rfl, H', ⟨by have := HK1.out; omega⟩, by repeat (first | exact Drawn0.refl _ | apply Drawn0.step)⟩
  rw [if_pos c21] at H
  have c21b0 : ((bt a0 x1_1) == 125) = true := beq_iff_eq.mpr c21
  have c21b1 : ((bt a0 x1_1) != 125) = false := bne_eq_false_iff_eq.mpr c21
  clear c21
  by_cases c22 : 0 ≤ a1
  rotate_left
  ·rw [if_neg c22] at H
   exact absurd H (by simp)
  rw [if_pos c22] at H
  have c22b0 := eq_true c22
  have c22b1 : decide (0 ≤ a1) = true := decide_eq_true c22
  clear c22
  by_cases c23 : a1 ≤ x1_1
  rotate_left
  ·rw [if_neg c23] at H
   exact absurd H (by simp)
  rw [if_pos c23] at H
  have c23b0 := eq_true c23
  have c23b1 : decide (a1 ≤ x1_1) = true := decide_eq_true c23
  clear c23
  by_cases c24 : x1_1 ≤ (a0.size : Int)
  rotate_left
  ·rw [if_neg c24] at H
   exact absurd H (by simp)
  rw [if_pos c24] at H
  have c24b0 := eq_true c24
  have c24b1 : decide (x1_1 ≤ (a0.size : Int)) = true := decide_eq_true c24
  clear c24
  simp only [Option.some.injEq, Prod.mk.injEq] at H
  obtain ⟨rfl, rfl⟩ := H
  have p5 : 0 ≤ (x1_1 : Int) := of_decide_eq_true (by assumption)
  have q5 : x1_1 < (a0.size : Int) := of_decide_eq_true (by assumption)
  have hx5 := bt_at a0 x1_1
  replace p5 := eq_true p5
  replace q5 := eq_true q5
  have p10 : 0 ≤ (x1_1 : Int) := of_decide_eq_true (by assumption)
  have q10 : x1_1 < (a0.size : Int) := of_decide_eq_true (by assumption)
  have hx10 := bt_at a0 x1_1
  replace p10 := eq_true p10
  replace q10 := eq_true q10
  have p15 : 0 ≤ (x1_1 : Int) := of_decide_eq_true (by assumption)
  have q15 : x1_1 < (a0.size : Int) := of_decide_eq_true (by assumption)
  have hx15 := bt_at a0 x1_1
  replace p15 := eq_true p15
  replace q15 := eq_true q15
  have p20 : 0 ≤ (x1_1 : Int) := of_decide_eq_true (by assumption)
  have q20 : x1_1 < (a0.size : Int) := of_decide_eq_true (by assumption)
  have hx20 := bt_at a0 x1_1
  replace p20 := eq_true p20
  replace q20 := eq_true q20
  go_wp2
  repeat (go_quiet (fail); try go_wp2)
  go_ret2
  exact ⟨by first | rfl | (simp; done) | (simp [*]; done), by repeat (first | exact Drawn0.refl _ | apply Drawn0.step)⟩
end Go.Proofs.YtgiioglmkogpkaaGreatDoor.M
namespace Go.Proofs.YtgiioglmkogpkaaGreatDoor.V
open Go.RowKit Go.Proofs.YtgiioglmkogpkaaGreatDoorW.PrintWords Go.Proofs.YtgiioglmkogpkaaGreatDoorW.PrintLast Go.Proofs.YtgiioglmkogpkaaGreatDoorW.PrintMore
open M L
def Tv (s : ByteArray) (e : Int) : Prop := e < s.size → bt s e ≤ 32 ∨ bt s e = 44 ∨ bt s e = 93 ∨ bt s e = 125
theorem pn_l0 (s : ByteArray) (hz : s.size ≤ 65536) (p e : Int) (h0 : 0 ≤ p) (he : e ≤ s.size) (ht : Tv s e) : ∀ (d : Nat) (x : Int), p ≤ x → x + d = e → (∀ i, x ≤ i → i < e → NC (bt s i)) → Ev (fun k => gjson_parseNumber.l0 k s x p) (e, s.extract p.toNat e.toNat) := by
 intro d
 induction d with
 | zero =>
  intro x hx hd _
  obtain rfl : x = e := by omega
  by_cases hs : x < s.size
  rotate_left
  ·obtain rfl : x = s.size := by omega
   refine Ev.step (f := fun _ => some ((s.size : Int), s.extract p.toNat ((s.size : Int)).toNat)) (fun k => ?_) (Ev.now _)
   simp only [gjson_parseNumber.l0]; rw [if_neg hs, if_pos h0, if_pos hx, Int.toNat_natCast]
  refine Ev.step (f := fun _ => some (x, s.extract p.toNat x.toNat)) (fun k => ?_) (Ev.now _)
  simp only [gjson_parseNumber.l0]; rw [if_pos hs, if_pos (by omega)]
  by_cases c1 : bt s x ≤ 32
  ·rw [if_pos c1, if_pos h0, if_pos hx, if_pos he]
  rw [if_neg c1]
  by_cases c2 : bt s x = 44
  ·rw [if_pos c2, if_pos h0, if_pos hx, if_pos he]
  rw [if_neg c2]
  by_cases c3 : bt s x = 93
  ·rw [if_pos c3, if_pos h0, if_pos hx, if_pos he]
  rw [if_neg c3, if_pos (by have := ht hs; omega), if_pos h0, if_pos hx, if_pos he]
 | succ d ih =>
  intro x hx hd h
  have hc := h x (by omega) (by omega)
  unfold NC dig at hc
  refine Ev.step (f := fun k => gjson_parseNumber.l0 k s (x + 1) p) (fun k => ?_) (ih (x + 1) (by omega) (by omega) (fun i a b => h i (by omega) b))
  simp only [gjson_parseNumber.l0]; rw [if_pos (by omega), if_pos (by omega), if_neg (by omega), if_neg (by omega), if_neg (by omega), if_neg (by omega), w64 (by omega) (by omega)]
theorem pn_ev (s : ByteArray) (hz : s.size ≤ 65536) (p e : Int) (h0 : 0 ≤ p) (h : NumG s p e) (ht : Tv s e) : Ev (fun k => gjson_parseNumber.f k s p) (e, s.extract p.toNat e.toNat) := by
 obtain ⟨_, k1, k2, _⟩ := (G.num p e h0 h).ok
 dsimp only at k1 k2
 refine Ev.congr (fun k => ?_) (pn_l0 s hz p e h0 k2 ht (e - (p + 1)).toNat (p + 1) (by omega) (by omega) (fun i a b => h.nc i (by omega) b))
 simp only [gjson_parseNumber.f]; rw [w64 (by omega) (by omega)]
theorem pl_l0 (s : ByteArray) (hz : s.size ≤ 65536) (p e : Int) (h0 : 0 ≤ p) (he : e ≤ s.size) (ht : Tv s e) : ∀ (d : Nat) (x : Int), p ≤ x → x + d = e → (∀ i, x ≤ i → i < e → 97 ≤ bt s i ∧ bt s i ≤ 122) → Ev (fun k => gjson_parseLiteral.l0 k s x p) (e, s.extract p.toNat e.toNat) := by
 intro d
 induction d with
 | zero =>
  intro x hx hd _
  obtain rfl : x = e := by omega
  by_cases hs : x < s.size
  rotate_left
  ·obtain rfl : x = s.size := by omega
   refine Ev.step (f := fun _ => some ((s.size : Int), s.extract p.toNat ((s.size : Int)).toNat)) (fun k => ?_) (Ev.now _)
   simp only [gjson_parseLiteral.l0]; rw [if_neg hs, if_pos h0, if_pos hx, Int.toNat_natCast]
  refine Ev.step (f := fun _ => some (x, s.extract p.toNat x.toNat)) (fun k => ?_) (Ev.now _)
  simp only [gjson_parseLiteral.l0]; rw [if_pos hs, if_pos (by omega)]
  by_cases c1 : bt s x < 97
  ·rw [if_pos c1, if_pos h0, if_pos hx, if_pos he]
  rw [if_neg c1, if_pos (by have := ht hs; omega), if_pos h0, if_pos hx, if_pos he]
 | succ d ih =>
  intro x hx hd h
  have hc := h x (by omega) (by omega)
  refine Ev.step (f := fun k => gjson_parseLiteral.l0 k s (x + 1) p) (fun k => ?_) (ih (x + 1) (by omega) (by omega) (fun i a b => h i (by omega) b))
  simp only [gjson_parseLiteral.l0]; rw [if_pos (by omega), if_pos (by omega), if_neg (by omega), if_neg (by omega), w64 (by omega) (by omega)]
theorem plit_ev (s : ByteArray) (hz : s.size ≤ 65536) (p e : Int) (h0 : 0 ≤ p) (hpe : p < e) (he : e ≤ s.size) (h : ∀ i, p ≤ i → i < e → 97 ≤ bt s i ∧ bt s i ≤ 122) (ht : Tv s e) : Ev (fun k => gjson_parseLiteral.f k s p) (e, s.extract p.toNat e.toNat) := by
 refine Ev.congr (fun k => ?_) (pl_l0 s hz p e h0 he ht (e - (p + 1)).toNat (p + 1) (by omega) (by omega) (fun i a b => h i (by omega) b))
 simp only [gjson_parseLiteral.f]; rw [w64 (by omega) (by omega)]
def Run (s : ByteArray) (p x N : Int) : Prop := 0 ≤ N ∧ p < x - N ∧ (∀ t, x - N ≤ t → t < x → bt s t = 92) ∧ bt s (x - N - 1) ≠ 92
theorem Run.zero {s : ByteArray} {p x : Int} (hp : p < x) (h : bt s (x - 1) ≠ 92) : Run s p x 0 := ⟨by omega, by omega, fun t a b => by omega, by rw [show x - 0 - 1 = x - 1 by omega]; exact h⟩
theorem Run.succ {s : ByteArray} {p x N : Int} (h : Run s p x N) (hx : bt s x = 92) : Run s p (x + 1) (N + 1) := by
 obtain ⟨a, b, c, d⟩ := h
 refine ⟨by omega, by omega, fun t y z => ?_, by rw [show x + 1 - (N + 1) - 1 = x - N - 1 by omega]; exact d⟩
 by_cases q : t = x
 ·rw [q]; exact hx
 ·exact c t (by omega) (by omega)
theorem hex_ne {s : ByteArray} {i : Int} (h : (hexv (bt s i)).isSome = true) : bt s i ≠ 34 ∧ bt s i ≠ 92 := by
 constructor
 ·intro q; rw [q] at h; simp [hexv] at h
 ·intro q; rw [q] at h; simp [hexv] at h
def Quo (s : ByteArray) (p j i : Int) : Prop := ∀ x, i ≤ x → x ≤ j → bt s x = 34 → ∃ N, Run s p x N ∧ (N % 2 = 0 ↔ x = j)
theorem bod_quo {s : ByteArray} {p j i : Int} (h : Bod s j i) : ∀ N, Run s p i N → N % 2 = 0 → Quo s p j i := by
 induction h with
 | nil => intro N hN h2 x h3 h4 h5; exact ⟨N, by rwa [show x = j by omega], by constructor <;> omega⟩
 | plain i a b c d e ih =>
  intro N hN h2 x h3 h4 h5
  by_cases q : x = i
  ·subst q; exact absurd h5 b
  ·exact ih 0 (Run.zero (by have := hN.1; have := hN.2.1; omega) (by rw [show i + 1 - 1 = i by omega]; exact c)) (by omega) x (by omega) h4 h5
 | esc i a b c d ih =>
  intro N hN h2 x h3 h4 h5
  have r1 := hN.succ b
  by_cases q : x = i
  ·subst q; omega
  by_cases q2 : x = i + 1
  ·subst q2; exact ⟨N + 1, r1, by constructor <;> omega⟩
  by_cases q3 : bt s (i + 1) = 92
  rotate_left
  ·exact ih 0 (Run.zero (by have := hN.1; have := hN.2.1; omega) (by rw [show i + 2 - 1 = i + 1 by omega]; exact q3)) (by omega) x (by omega) h4 h5
  have r2 := r1.succ q3
  rw [show i + 1 + 1 = i + 2 by omega] at r2
  exact ih _ r2 (by omega) x (by omega) h4 h5
 | uni i a b c d e ih =>
  intro N hN h2 x h3 h4 h5
  by_cases q : x = i
  ·subst q; omega
  by_cases q2 : x = i + 1
  ·subst q2; omega
  by_cases q3 : x < i + 6
  ·exact absurd h5 (hex_ne (d x (by omega) (by omega))).1
  ·exact ih 0 (Run.zero (by have := hN.1; have := hN.2.1; omega) (by rw [show i + 6 - 1 = i + 5 by omega]; exact (hex_ne (d (i + 5) (by omega) (by omega))).2)) (by omega) x (by omega) h4 h5
theorem str_quo {s : ByteArray} {p e : Int} (h : Str s p e) : Quo s p (e - 1) (p + 1) := by
 obtain ⟨h0, h34, j, rfl, h1, h2, h3, h4⟩ := h
 rw [show j + 1 - 1 = j by omega]
 exact bod_quo h4 0 (Run.zero (by omega) (by rw [show p + 1 - 1 = p by omega]; omega)) (by omega)
end Go.Proofs.YtgiioglmkogpkaaGreatDoor.V
namespace Go.Proofs.YtgiioglmkogpkaaGreatDoor.F
open Go.RowKit Go.Proofs.YtgiioglmkogpkaaGreatDoorW.PrintWords Go.Proofs.YtgiioglmkogpkaaGreatDoorW.PrintLast Go.Proofs.YtgiioglmkogpkaaGreatDoorW.PrintMore
open M L V
set_option maxHeartbeats 4000000
set_option maxRecDepth 8192
theorem bod_first {s : ByteArray} {j i : Int} (h : Bod s j i) : ∃ f, i ≤ f ∧ f ≤ j ∧ (∀ t, i ≤ t → t < f → bt s t ≠ 92 ∧ bt s t ≠ 34) ∧ (f = j ∨ (f < j ∧ bt s f = 92)) := by
 induction h with
 | nil => exact ⟨j, by omega, by omega, fun t a b => by omega, .inl rfl⟩
 | plain i a b c d e ih =>
  obtain ⟨f, f1, f2, f3, f4⟩ := ih
  refine ⟨f, by omega, f2, fun t x y => ?_, f4⟩
  by_cases q : t = i
  ·rw [q]; exact ⟨c, b⟩
  ·exact f3 t (by omega) y
 | esc i a b c d ih => exact ⟨i, by omega, by omega, fun t a b => by omega, .inr ⟨by omega, b⟩⟩
 | uni i a b c d e ih => exact ⟨i, by omega, by omega, fun t a b => by omega, .inr ⟨by omega, b⟩⟩
theorem pst_calls (s : ByteArray) (hz : s.size ≤ 65536) (p e : Int) (h : Str s p e) : ∃ v : Bool, (∀ w, Calls Tryz.prog 69 #[.string s, .int .i64 (p + 1)] w fun e' w' => e' = .returned (.tuple #[.int .i64 e, .string (s.extract p.toNat e.toNat), .bool v, .bool true]) ∧ Drawn0 w w') ∧ (v = false → ∀ i, p + 1 ≤ i → i < e - 1 → bt s i ≠ 92) ∧ (v = true → p + 2 < e) := by
 have hQ := str_quo h
 obtain ⟨h0, h34, j, rfl, h1, h2, h3, h4⟩ := h
 rw [show j + 1 - 1 = j by omega] at hQ ⊢
 obtain ⟨f, f1, f2, f3, f4⟩ := bod_first h4
 obtain ⟨v, hv⟩ : ∃ v, v = decide (f ≠ j) := ⟨_, rfl⟩
 refine ⟨v, fun w => ?_, fun q i a b => (f3 i a (by rw [hv] at q; simp at q; omega)).1, fun q => by rw [hv] at q; simp at q; omega⟩
 have HQ := Aside0.mk hQ
 have HF := Aside0.mk f3
 have hp1 : IntKind.i64.wrap (p + 1 - 1) = p := by rw [show p + 1 - 1 = p by omega]; exact IntWalk.i64_in _ (by omega)
 have hp2 : IntKind.i64.wrap p = p := IntWalk.i64_in _ (by omega)
 have hfx : Aside0 (bt s f = 92 ∨ f = j) := ⟨f4.symm.imp (fun q => q.2) id⟩
 clear hQ f3 h4
 go_enter Tryz.func69, Tryz.ntmps69
 go_wp2_with fail
 go_loopg [1] (f - (p + 1)).toNat (fun kq v1 w' => ∃ x : Int, v1 = .int .i64 x ∧ (kq : Int) + x = f ∧ p + 1 ≤ x ∧ Drawn0 w w')
 case atStart => exact ⟨p + 1, rfl, by omega, by omega, Drawn0.refl _⟩
 obtain ⟨x, rfl, hk, hx, hd⟩ := hrel
 obtain ⟨g1, rfl⟩ : ∃ g1, g1 = gk := ⟨_, rfl⟩
 have x1 : x < (s.size : Int) := by omega
 have x0 : 0 ≤ x := by omega
 have hbx := bt_at s x
 have hw1 : IntKind.i64.wrap (x + 1) = x + 1 := IntWalk.i64_in _ (by omega)
 obtain ⟨z, hzz⟩ : ∃ z, z = bt s x := ⟨_, rfl⟩
 rw [← hzz] at hbx
 have HZ := Aside0.mk hzz
 clear hzz
 by_cases hxf : x < f
 ·have q := HF.out x hx hxf
  rw [← HZ.out] at q
  have y2 : (z == 34) = false := beq_eq_false_iff_ne.mpr q.2
  have y3 : (z == 92) = false := beq_eq_false_iff_ne.mpr q.1
  clear q
  by_cases c : 92 < z
  rotate_left
  ·have y1 : decide (92 < z) = false := decide_eq_false c
   go_wp2_with fail
   go_roundg (g1 - 1)
   case measure => omega
   case rel => exact ⟨x + 1, rfl, by omega, by omega, hd⟩
  have y1 : decide (92 < z) = true := decide_eq_true c
  go_wp2_with fail
  go_roundg (g1 - 1)
  case measure => omega
  case rel => exact ⟨x + 1, rfl, by omega, by omega, hd⟩
 obtain rfl : x = f := by omega
 have hps : (0 : Int) ≤ p + 1 - 1 := by omega
 have hq0 : (0 : Int) ≤ p := h0
 have hq1 : p ≤ x + 1 := by omega
 have hq2 : x + 1 ≤ (s.size : Int) := by omega
 by_cases hfj : x = j
 ·have hvf : v = false := by rw [hv]; simp [hfj]
  subst hvf
  subst hfj
  have q : z = 34 := by rw [HZ.out]; exact h3
  have y1 : decide (92 < z) = false := decide_eq_false (by omega)
  have y2 : (z == 34) = true := beq_iff_eq.mpr q
  have HD := Aside0.mk hd
  clear q hd hv hfx HF
  go_wp2_with fail
  go_quiet (fail)
  go_wp2_with fail
  refine bodyPost_ret (results_list (rs := [.tmp 4, .tmp 5, .tmp 6, .tmp 7]) rfl (by simp) (.tmp (.tmp (.tmp (.tmp .nil))))) rfl ?_
  exact ⟨rfl, HD.out.step _⟩
 have hfl : x < j := by omega
 have q : z = 92 := by rw [HZ.out]; exact hfx.out.resolve_right hfj
 have y1 : decide (92 < z) = false := decide_eq_false (by omega)
 have y2 : (z == 34) = false := beq_eq_false_iff_ne.mpr (by omega)
 have y3 : (z == 92) = true := beq_iff_eq.mpr q
 have HD := Aside0.mk hd
 have hvt : v = true := by rw [hv]; exact decide_eq_true hfj
 subst hvt
 have HFJ := Aside0.mk hfl
 clear q hfx hfj hfl hd hk hv hx hxf HF
 go_wp2_with fail
 clear hbx y1 y2 y3 hw1 x1 x0 hps hq1 hq2
 go_loopg [1] (j - (x + 1)).toNat (fun kq v1 w' => ∃ y : Int, v1 = .int .i64 y ∧ (kq : Int) + y = j ∧ p + 1 ≤ y ∧ Aside0 (Drawn0 w w'))
 case atStart => exact ⟨x + 1, rfl, by have := HFJ.out; omega, by omega, HD⟩
 obtain ⟨y, rfl, hk, hx, HD2⟩ := hrel
 obtain ⟨g2, rfl⟩ : ∃ g1, g1 = gk := ⟨_, rfl⟩
 have x1 : y < (s.size : Int) := by omega
 have x0 : 0 ≤ y := by omega
 have hw1 : IntKind.i64.wrap (y + 1) = y + 1 := IntWalk.i64_in _ (by omega)
 have hw2 : IntKind.i64.wrap (y - 1) = y - 1 := IntWalk.i64_in _ (by omega)
 have hbx := bt_at s y
 obtain ⟨z, hzz⟩ : ∃ z, z = bt s y := ⟨_, rfl⟩
 rw [← hzz] at hbx
 have HZ2 := Aside0.mk hzz
 clear hzz
 by_cases c : 92 < z
 ·have y1 : decide (92 < z) = true := decide_eq_true c
  have hyj : y < j := by
   by_cases q : y = j
   ·rw [HZ2.out, q] at c; omega
   ·omega
  go_wp2_with fail
  go_roundg (g2 - 1)
  case measure => omega
  case rel => exact ⟨y + 1, rfl, by omega, by omega, HD2⟩
 have y1 : decide (92 < z) = false := decide_eq_false c
 by_cases c2 : z = 34
 rotate_left
 ·have y2 : (z == 34) = false := beq_eq_false_iff_ne.mpr c2
  have hyj : y < j := by
   by_cases q : y = j
   ·rw [HZ2.out, q] at c2; exact absurd h3 c2
   ·omega
  go_wp2_with fail
  go_roundg (g2 - 1)
  case measure => omega
  case rel => exact ⟨y + 1, rfl, by omega, by omega, HD2⟩
 have y2 : (z == 34) = true := beq_iff_eq.mpr c2
 obtain ⟨N, hR, hN⟩ := HQ.out y hx (by omega) (by rw [← HZ2.out]; exact c2)
 have hps : (0 : Int) ≤ p + 1 - 1 := by omega
 have hq1 : p ≤ y + 1 := by omega
 have hq2 : y + 1 ≤ (s.size : Int) := by omega
 obtain ⟨r1, r2, r3, r4⟩ := hR
 have hb1 := bt_at s (y - 1)
 obtain ⟨z1, hz1⟩ : ∃ z1, z1 = bt s (y - 1) := ⟨_, rfl⟩
 rw [← hz1] at hb1
 have hb1' : ∀ h : y.toNat - 1 < s.size, ((s[y.toNat - 1]'h).toNat : Int) = z1 := fun h => by rw [← hb1 (by omega)]; congr 3; omega
 have i3 : y.toNat - 1 < s.size := by omega
 have HZ1 := Aside0.mk hz1
 have i0 : 0 ≤ y - 1 := by omega
 have i1 : y - 1 < (s.size : Int) := by omega
 clear hz1
 by_cases hN0 : N = 0
 ·have hyj := hN.1 (by omega)
  have y5 : (z1 == 92) = false := beq_eq_false_iff_ne.mpr (by rw [HZ1.out]; rw [show y - N - 1 = y - 1 by omega] at r4; exact r4)
  subst hyj
  clear hN0 r1 r2 r3 r4 hN hk c c2
  go_wp2_with fail
  go_quiet (fail)
  go_wp2_with fail
  refine bodyPost_ret (results_list (rs := [.tmp 4, .tmp 5, .tmp 6, .tmp 7]) rfl (by simp) (.tmp (.tmp (.tmp (.tmp .nil))))) rfl ?_
  exact ⟨rfl, HD2.out.step _⟩
 have y5 : (z1 == 92) = true := beq_iff_eq.mpr (by rw [HZ1.out]; exact r3 _ (by omega) (by omega))
 have hw3 : IntKind.i64.wrap (y - 2) = y - 2 := IntWalk.i64_in _ (by omega)
 have HR := Aside0.mk (And.intro r3 (And.intro r4 hN))
 clear r3 r4 hN
 go_wp2_with fail
 clear hb1 hb1' i3 y5 i0 i1 hw2
 go_loopg [9, 10] (N - 1).toNat (fun kq v9 v10 w' => ∃ n : Int, v9 = .int .i64 n ∧ v10 = .int .i64 (y - 2 - n) ∧ (kq : Int) + n = N - 1 ∧ 0 ≤ n ∧ Aside0 (Drawn0 w w'))
 case atStart => exact ⟨0, rfl, congrArg (Value.int .i64) (by omega), by omega, by omega, HD2⟩
 obtain ⟨n, rfl, rfl, hkn, hn0, HD3⟩ := hrel
 obtain ⟨g3, rfl⟩ : ∃ g1, g1 = gk := ⟨_, rfl⟩
 have hb2 := bt_at s (y - 2 - n)
 obtain ⟨z2, hz2⟩ : ∃ z2, z2 = bt s (y - 2 - n) := ⟨_, rfl⟩
 rw [← hz2] at hb2
 have HZ2 := Aside0.mk hz2
 clear hz2
 by_cases hnN : n < N - 1
 ·have j0 : 0 < y - 2 - n := by omega
  have j00 : 0 ≤ y - 2 - n := by omega
  have j1 : y - 2 - n < (s.size : Int) := by omega
  have y6 : (z2 != 92) = false := bne_eq_false_iff_eq.mpr (by rw [HZ2.out]; exact HR.out.1 _ (by omega) (by omega))
  have y7 : decide (0 < y - 2 - n) = true := decide_eq_true j0
  have hw4 : IntKind.i64.wrap (n + 1) = n + 1 := IntWalk.i64_in _ (by omega)
  have hw5 : IntKind.i64.wrap (y - 2 - n - 1) = y - 2 - n - 1 := IntWalk.i64_in _ (by omega)
  go_wp2_with fail
  go_roundg (g3 - 1)
  case measure => omega
  case rel => exact ⟨n + 1, rfl, congrArg (Value.int .i64) (by omega), by omega, by omega, HD3⟩
 have hnn : n = N - 1 := by omega
 have hr4 := HR.out.2.1
 rw [show y - N - 1 = y - 2 - n by omega, ← HZ2.out] at hr4
 have y6 : (z2 != 92) = true := bne_iff_ne.mpr hr4
 have j00 : 0 ≤ y - 2 - n := by omega
 have j1 : y - 2 - n < (s.size : Int) := by omega
 clear hr4
 by_cases hyj : y = j
 rotate_left
 ·have y8 : (n % 2 == 0) = true := beq_iff_eq.mpr (by have hq : ¬ N % 2 = 0 := fun q => hyj (HR.out.2.2.1 q); omega)
  have hyl : y < j := by omega
  clear hnn hnN hkn c c2 hN0 hyj
  by_cases j0 : 0 < y - 2 - n
  rotate_left
  ·have y7 : decide (0 < y - 2 - n) = false := decide_eq_false j0
   go_wp2_with fail
   go_roundg (g2 - 1)
   case measure => omega
   case rel => exact ⟨y + 1, rfl, by omega, by omega, HD3⟩
  have y7 : decide (0 < y - 2 - n) = true := decide_eq_true j0
  go_wp2_with fail
  go_roundg (g2 - 1)
  case measure => omega
  case rel => exact ⟨y + 1, rfl, by omega, by omega, HD3⟩
 have y8 : (n % 2 == 0) = false := beq_eq_false_iff_ne.mpr (by have := HR.out.2.2.2 hyj; omega)
 subst hyj
 clear hnn hnN hk c c2 hN0
 by_cases j0 : 0 < y - 2 - n
 rotate_left
 ·have y7 : decide (0 < y - 2 - n) = false := decide_eq_false j0
  go_wp2_with fail
  go_quiet (fail)
  go_wp2_with fail
  refine bodyPost_ret (results_list (rs := [.tmp 4, .tmp 5, .tmp 6, .tmp 7]) rfl (by simp) (.tmp (.tmp (.tmp (.tmp .nil))))) rfl ?_
  exact ⟨rfl, HD3.out.step _⟩
 have y7 : decide (0 < y - 2 - n) = true := decide_eq_true j0
 go_wp2_with fail
 go_quiet (fail)
 go_wp2_with fail
 refine bodyPost_ret (results_list (rs := [.tmp 4, .tmp 5, .tmp 6, .tmp 7]) rfl (by simp) (.tmp (.tmp (.tmp (.tmp .nil))))) rfl ?_
 exact ⟨rfl, HD3.out.step _⟩
end Go.Proofs.YtgiioglmkogpkaaGreatDoor.F
namespace Go.Proofs.YtgiioglmkogpkaaGreatDoor.V
open Go.RowKit Go.Proofs.YtgiioglmkogpkaaGreatDoorW.PrintWords Go.Proofs.YtgiioglmkogpkaaGreatDoorW.PrintLast Go.Proofs.YtgiioglmkogpkaaGreatDoorW.PrintMore
open M L
def vch (x : Int) : Int := if x = 34 then 2 else if x = 123 ∨ x = 91 ∨ x = 40 then 3 else if x = 125 ∨ x = 93 ∨ x = 41 then 1 else 0
theorem vch_zero {x : Int} (h : x ≠ 34) (h1 : x ≠ 123) (h2 : x ≠ 91) (h3 : x ≠ 40) (h4 : x ≠ 125) (h5 : x ≠ 93) (h6 : x ≠ 41) : vch x = 0 := by
 unfold vch; rw [if_neg h, if_neg (by omega), if_neg (by omega)]
inductive Rem (s : ByteArray) (E : Int) : Int → Int → Prop
 | zero (i d : Int) : vch (bt s i) = 0 → Rem s E (i + 1) d → Rem s E i d
 | str (i j d : Int) : Str s i j → Rem s E j d → Rem s E i d
 | opn (i d : Int) : vch (bt s i) = 3 → Rem s E (i + 1) (d + 1) → Rem s E i d
 | cls (i d : Int) : vch (bt s i) = 1 → 1 < d → Rem s E (i + 1) (d - 1) → Rem s E i d
 | fin (i : Int) : vch (bt s i) = 1 → i + 1 = E → Rem s E i 1
theorem Str.lt {s : ByteArray} {p e : Int} (h : Str s p e) : p + 1 < e ∧ e ≤ s.size := by
 obtain ⟨h0, _, j, rfl, h1, h2, _⟩ := h
 exact ⟨by omega, h2⟩
theorem Rem.lt {s : ByteArray} {E i d : Int} (h : Rem s E i d) : i < E := by
 induction h with
 | zero => omega
 | str i j d h1 h2 ih => have := Str.lt h1; omega
 | opn => omega
 | cls => omega
 | fin => omega
theorem rem_run {s : ByteArray} {E d : Int} : ∀ (n : Nat) (a b : Int), a + n = b → (∀ x, a ≤ x → x < b → vch (bt s x) = 0) → Rem s E b d → Rem s E a d := by
 intro n
 induction n with
 | zero => intro a b h _ r; rwa [show a = b by omega]
 | succ n ih => intro a b h h2 r; exact .zero a d (h2 a (by omega) (by omega)) (ih (a + 1) b (by omega) (fun x p q => h2 x (by omega) q) r)
theorem rem_go {s : ByteArray} {E d a b : Int} (hab : a ≤ b) (h : ∀ x, a ≤ x → x < b → vch (bt s x) = 0) (r : Rem s E b d) : Rem s E a d := rem_run (b - a).toNat a b (by omega) h r
theorem rem_bl {s : ByteArray} {E d a b : Int} (h : Bl s a b) (r : Rem s E b d) : Rem s E a d := rem_go h.1 (fun x p q => by
 have := h.2 x p q
 unfold isB at this
 exact vch_zero (by omega) (by omega) (by omega) (by omega) (by omega) (by omega) (by omega)) r
def Kc (s : ByteArray) (E i d : Int) : Prop := (d = 0 ∧ i = E) ∨ (1 ≤ d ∧ Rem s E i d)
theorem Kc.close {s : ByteArray} {E i d : Int} (h : Kc s E (i + 1) d) (hv : vch (bt s i) = 1) : Rem s E i (d + 1) := by
 rcases h with ⟨rfl, h⟩ | ⟨h1, h2⟩
 ·exact .fin i hv h
 ·exact .cls i (d + 1) hv (by omega) (by rwa [show d + 1 - 1 = d by omega])
def It.rem (s : ByteArray) : It → Prop
 | .val q => (∀ d E, Rem s E q.f2 d → 1 ≤ d → Rem s E q.f1 d) ∧ (q.f0 = 5 ∨ q.f0 = 6 → Rem s q.f2 (q.f1 + 1) 1)
 | .els p C e => ∀ d E, Kc s E e d → Rem s E p (d + 1)
 | .mems p N C e => ∀ d E, Kc s E e d → Rem s E p (d + 1)
theorem comma_zero {s : ByteArray} {E d b : Int} (h : bt s b = 44) (r : Rem s E (b + 1) d) : Rem s E b d := .zero b d (by rw [h]; rfl) r
theorem colon_zero {s : ByteArray} {E d b : Int} (h : bt s b = 58) (r : Rem s E (b + 1) d) : Rem s E b d := .zero b d (by rw [h]; rfl) r
theorem kc_dpos {s : ByteArray} {E e d : Int} (h : Kc s E e d) : 1 ≤ d + 1 := by rcases h with ⟨h, _⟩ | ⟨h, _⟩ <;> omega
theorem G.rem {s : ByteArray} {it : It} (h : G s it) : it.rem s := by
 induction h with
 | num p e h0 h =>
  refine ⟨fun d E r _ => ?_, fun q => by dsimp only at q; omega⟩
  obtain ⟨_, k1, _⟩ := (G.num p e h0 h).ok
  exact rem_go (by dsimp only at k1 ⊢; omega) (fun x a b => by have := h.nc x a b; unfold NC dig at this; exact vch_zero (by omega) (by omega) (by omega) (by omega) (by omega) (by omega) (by omega)) r
 | str p e h => exact ⟨fun d E r _ => .str p e d h r, fun q => by dsimp only at q; omega⟩
 | null p e h0 h =>
  refine ⟨fun d E r _ => ?_, fun q => by dsimp only at q; omega⟩
  obtain ⟨_, k1, _⟩ := (G.null p e h0 h).ok
  exact rem_go (by dsimp only at k1 ⊢; omega) (Wd.byte (P := fun x => vch x = 0) h0 h (fun i hi => by have := wNull_low i hi; exact vch_zero (by omega) (by omega) (by omega) (by omega) (by omega) (by omega) (by omega))) r
 | fals p e h0 h =>
  refine ⟨fun d E r _ => ?_, fun q => by dsimp only at q; omega⟩
  obtain ⟨_, k1, _⟩ := (G.fals p e h0 h).ok
  exact rem_go (by dsimp only at k1 ⊢; omega) (Wd.byte (P := fun x => vch x = 0) h0 h (fun i hi => by have := wFalse_low i hi; exact vch_zero (by omega) (by omega) (by omega) (by omega) (by omega) (by omega) (by omega))) r
 | tru p e h0 h =>
  refine ⟨fun d E r _ => ?_, fun q => by dsimp only at q; omega⟩
  obtain ⟨_, k1, _⟩ := (G.tru p e h0 h).ok
  exact rem_go (by dsimp only at k1 ⊢; omega) (Wd.byte (P := fun x => vch x = 0) h0 h (fun i hi => by have := wTrue_low i hi; exact vch_zero (by omega) (by omega) (by omega) (by omega) (by omega) (by omega) (by omega))) r
 | arr0 p b h0 h1 h2 h3 h4 =>
  have hc : ∀ d E, Kc s E (b + 1) d → Rem s E (p + 1) (d + 1) := fun d E k => rem_bl h2 (k.close (by rw [h4]; rfl))
  exact ⟨fun d E r hd => .opn p d (by rw [h1]; rfl) (hc d E (.inr ⟨hd, r⟩)), fun _ => hc 0 _ (.inl ⟨rfl, rfl⟩)⟩
 | arr p b e C h0 h1 h2 h3 ih =>
  have hc : ∀ d E, Kc s E e d → Rem s E (p + 1) (d + 1) := fun d E k => rem_bl h2 (ih d E k)
  exact ⟨fun d E r hd => .opn p d (by rw [h1]; rfl) (hc d E (.inr ⟨hd, r⟩)), fun _ => hc 0 _ (.inl ⟨rfl, rfl⟩)⟩
 | obj0 p b h0 h1 h2 h3 h4 =>
  have hc : ∀ d E, Kc s E (b + 1) d → Rem s E (p + 1) (d + 1) := fun d E k => rem_bl h2 (k.close (by rw [h4]; rfl))
  exact ⟨fun d E r hd => .opn p d (by rw [h1]; rfl) (hc d E (.inr ⟨hd, r⟩)), fun _ => hc 0 _ (.inl ⟨rfl, rfl⟩)⟩
 | obj p b e N C h0 h1 h2 h3 ih =>
  have hc : ∀ d E, Kc s E e d → Rem s E (p + 1) (d + 1) := fun d E k => rem_bl h2 (ih d E k)
  exact ⟨fun d E r hd => .opn p d (by rw [h1]; rfl) (hc d E (.inr ⟨hd, r⟩)), fun _ => hc 0 _ (.inl ⟨rfl, rfl⟩)⟩
 | els1 c b h0 h1 h2 h3 ih => exact fun d E k => ih.1 _ _ (rem_bl h1 (k.close (by rw [h3]; rfl))) (kc_dpos k)
 | elsn c b p e C h0 h1 h2 h3 h4 h5 ih ih2 => exact fun d E k => ih.1 _ _ (rem_bl h1 (comma_zero h3 (rem_bl h4 (ih2 d E k)))) (kc_dpos k)
 | mem1 n c b x h0 h1 h2 h3 h4 h5 h6 h7 ih => exact fun d E k => .str n.f0 n.f1 _ h0 (rem_bl h1 (colon_zero h2 (rem_bl h3 (ih.1 _ _ (rem_bl h5 (k.close (by rw [h7]; rfl))) (kc_dpos k)))))
 | memn n c b x p e N C h0 h1 h2 h3 h4 h5 h6 h7 h8 h9 ih ih2 => exact fun d E k => .str n.f0 n.f1 _ h0 (rem_bl h1 (colon_zero h2 (rem_bl h3 (ih.1 _ _ (rem_bl h5 (comma_zero h7 (rem_bl h8 (ih2 d E k)))) (kc_dpos k)))))
def SD (s : ByteArray) (p e : Int) : Prop := ∃ o, PDec (s.extract (p + 1).toNat (e - 1).toNat) ((s.extract (p + 1).toNat (e - 1).toNat).size : Int) 0 o ∧ o.length ≤ 65536
theorem sd_of_pa {s : ByteArray} (hz : s.size ≤ 65536) {p e : Int} (h : Str s p e) (hp : PA s p) : SD s p e := by
 obtain ⟨⟨o, ho, hol⟩, _⟩ := str_pa hz h hp
 obtain ⟨hlt, he⟩ := Str.lt h
 have h0 := h.1
 have ho2 := PDec.shift (a := (p + 1).toNat) (by omega) ho (by omega)
 rw [show p + 1 - ((p + 1).toNat : Int) = 0 by omega] at ho2
 exact ⟨o, ho2, by omega⟩
theorem SD.sh {s s' : ByteArray} {d p e : Int} (h : SD s p e) (hpe : p + 2 ≤ e) (g : Ag s s' d p e) : SD s' (p + d) (e + d) := by
 have k := (g.sub (a' := p + 1) (e' := e - 1) (by omega) (by omega)).ext (by omega)
 unfold SD
 rw [show p + d + 1 = p + 1 + d by omega, show e + d - 1 = e - 1 + d by omega, k]
 exact h
def VD (s : ByteArray) (c : S78) : Prop := c.f0 = 4 → SD s c.f1 c.f2
theorem vd_of {s : ByteArray} (hz : s.size ≤ 65536) {c : S78} (h : G s (.val c)) (hp : PA s c.f1) : VD s c := by
 intro h4
 cases h with
 | str p e h => exact sd_of_pa hz h hp
 | _ => dsimp only at h4; omega
end Go.Proofs.YtgiioglmkogpkaaGreatDoor.V
namespace Go.Proofs.YtgiioglmkogpkaaGreatDoor.M
open Go.RowKit Go.Proofs.YtgiioglmkogpkaaGreatDoorW.PrintWords Go.Proofs.YtgiioglmkogpkaaGreatDoorW.PrintLast Go.Proofs.YtgiioglmkogpkaaGreatDoorW.PrintMore
set_option maxHeartbeats 8000000
set_option maxRecDepth 8192
def Bx (w W : World) (K b e : Int) (A3 : Option Addr) (c3 n3 : Nat) (A4 : Option Addr) (c4 n4 : Nat) (T : ByteArray) (vn vk : Value) : Prop :=
 W.heap[w.heap.size]? = some (.cells #[.int .i64 K, .int .i64 b, .int .i64 e, .slice A3 n3 c3, .slice A4 n4 c4] 78 (0, 0)) ∧ W.heap[w.heap.size + 1 + 1]? = some (.cells #[.int .i64 K, .string T, vn, vk] 25 (0, 0))
structure Tn (w W : World) (K b e : Int) (A3 : Option Addr) (c3 n3 : Nat) (A4 : Option Addr) (c4 n4 : Nat) (T : ByteArray) (vn vk : Value) (R : List ByteArray) (ts : List S25) : Prop where
 bx : Bx w W K b e A3 c3 n3 A4 c4 n4 T vn vk
 hr : W.heap[w.heap.size + 1]? = some (.cells #[.int .i64 0, .string ⟨#[]⟩, .slice none 0 0, .slice none 0 0] 25 (0, 0))
 be : Below w.heap.size w W
 rn : Kd.R Kd.string 9 W (w.heap.size + 3) (fun _ => True) vn R
 rk : Kd.R k25 25 W (w.heap.size + 3) (fun k => some k ≠ vn.ownBlock) vk ts
section
variable {w W W2 : World} {K b e : Int} {A3 A4 : Option Addr} {c3 n3 c4 n4 : Nat} {T T2 : ByteArray} {vn vk v1 : Value} {R R' : List ByteArray} {ts ts' : List S25}
theorem Bx.cells (h : Bx w W K b e A3 c3 n3 A4 c4 n4 T vn vk) : W.cell? ⟨w.heap.size, 0, none⟩ = some (.int .i64 K) ∧ W.cell? ⟨w.heap.size, 1, none⟩ = some (.int .i64 b) ∧ W.cell? ⟨w.heap.size, 2, none⟩ = some (.int .i64 e) ∧ W.cell? ⟨w.heap.size, 3, none⟩ = some (.slice A3 n3 c3) ∧ W.cell? ⟨w.heap.size, 4, none⟩ = some (.slice A4 n4 c4) ∧
  W.cell? ⟨w.heap.size + 1 + 1, 0, none⟩ = some (.int .i64 K) ∧ W.cell? ⟨w.heap.size + 1 + 1, 1, none⟩ = some (.string T) ∧ W.cell? ⟨w.heap.size + 1 + 1, 2, none⟩ = some vn ∧ W.cell? ⟨w.heap.size + 1 + 1, 3, none⟩ = some vk ∧ ∀ i, W.frozen? ⟨w.heap.size + 1 + 1, i, none⟩ = false :=
 ⟨blk_cell h.1 0, blk_cell h.1 1, blk_cell h.1 2, blk_cell h.1 3, blk_cell h.1 4, blk_cell h.2 0, blk_cell h.2 1, blk_cell h.2 2, blk_cell h.2 3, fun i => blk_frozen h.2 i⟩
theorem Bx.below (h : Bx w W K b e A3 c3 n3 A4 c4 n4 T vn vk) (hb : Below W.heap.size W W2) : Bx w W2 K b e A3 c3 n3 A4 c4 n4 T vn vk := ⟨(hb.block _ (blk_lt h.1)).trans h.1, (hb.block _ (blk_lt h.2)).trans h.2⟩
theorem Tn.below (h : Tn w W K b e A3 c3 n3 A4 c4 n4 T vn vk R ts) (hb : Below W.heap.size W W2) : Tn w W2 K b e A3 c3 n3 A4 c4 n4 T vn vk R ts :=
 ⟨h.bx.below hb, (hb.block _ (blk_lt h.hr)).trans h.hr, below_then h.be h.be.size hb, Kd.R_below h.rn hb, Kd.R_below h.rk hb⟩
theorem Tn.sz (h : Tn w W K b e A3 c3 n3 A4 c4 n4 T vn vk R ts) : w.heap.size + 3 ≤ W.heap.size := by have := blk_lt h.bx.2; omega
theorem far_R {α : Type} {d : Kd α} {q : Nat} {ok : Nat → Prop} {v : Value} {xs : List α} (hr : d.R q W (w.heap.size + 3) ok v xs) (hm : ∀ k, w.heap.size + 3 ≤ k → W2.heap[k]? = W.heap[k]?) : d.R q W2 (w.heap.size + 3) ok v xs :=
 Kd.R_mono (Kd.R_step (Kd.R_bound hr) (fun k h1 _ => hm k h1.2.1)) (fun k h1 => h1.1)
theorem Tn.new (w : World) : Tn w (((w.alloc (.cells #[.int .i64 K, .int .i64 b, .int .i64 e, .slice A3 n3 c3, .slice A4 n4 c4] 78)).alloc (.cells #[.int .i64 0, .string ⟨#[]⟩, .slice none 0 0, .slice none 0 0] 25)).alloc (.cells #[.int .i64 K, .string ⟨#[]⟩, .slice none 0 0, .slice none 0 0] 25)) K b e A3 c3 n3 A4 c4 n4 ⟨#[]⟩ (.slice none 0 0) (.slice none 0 0) [] [] := by
 have h0 := heap_alloc_new w (.cells #[.int .i64 K, .int .i64 b, .int .i64 e, .slice A3 n3 c3, .slice A4 n4 c4] 78)
 have h1 := heap_alloc_new (w.alloc (.cells #[.int .i64 K, .int .i64 b, .int .i64 e, .slice A3 n3 c3, .slice A4 n4 c4] 78)) (.cells #[.int .i64 0, .string ⟨#[]⟩, .slice none 0 0, .slice none 0 0] 25)
 have h2 := heap_alloc_new ((w.alloc (.cells #[.int .i64 K, .int .i64 b, .int .i64 e, .slice A3 n3 c3, .slice A4 n4 c4] 78)).alloc (.cells #[.int .i64 0, .string ⟨#[]⟩, .slice none 0 0, .slice none 0 0] 25)) (.cells #[.int .i64 K, .string ⟨#[]⟩, .slice none 0 0, .slice none 0 0] 25)
 simp only [World.size_alloc] at h1 h2
 have b1 := fun o => below_alloc (Below.refl (w.alloc (.cells #[.int .i64 K, .int .i64 b, .int .i64 e, .slice A3 n3 c3, .slice A4 n4 c4] 78)).heap.size (w.alloc (.cells #[.int .i64 K, .int .i64 b, .int .i64 e, .slice A3 n3 c3, .slice A4 n4 c4] 78))) o
 exact ⟨⟨((Below.heap_alloc _ _ _ (by simp; omega)).trans ((Below.heap_alloc _ _ _ (by simp)).trans h0)), h2⟩, (Below.heap_alloc _ _ _ (by simp)).trans h1, below_alloc (below_alloc (below_alloc (Below.refl _ _) _) _) _, Kd.R_nil _ _ _ _ _, Kd.R_nil _ _ _ _ _⟩
theorem Tn.setT (h : Tn w W K b e A3 c3 n3 A4 c4 n4 T vn vk R ts) (T2 : ByteArray) : Tn w (W.setCell ⟨w.heap.size + 1 + 1, 1, none⟩ (.string T2)) K b e A3 c3 n3 A4 c4 n4 T2 vn vk R ts := by
 have hf : ∀ k, k ≠ w.heap.size + 1 + 1 → (W.setCell ⟨w.heap.size + 1 + 1, 1, none⟩ (.string T2)).heap[k]? = W.heap[k]? := fun k hk => Below.heap_setCell W ⟨w.heap.size + 1 + 1, 1, none⟩ _ k hk
 exact ⟨⟨(hf _ (by omega)).trans h.bx.1, blk_set h.bx.2 1 _⟩, (hf _ (by omega)).trans h.hr, below_set h.be (show w.heap.size ≤ w.heap.size + 1 + 1 by omega), far_R h.rn (fun k hk => hf k (by omega)), far_R h.rk (fun k hk => hf k (by omega))⟩
structure Tm (w W : World) (K b e : Int) (A3 : Option Addr) (c3 n3 : Nat) (A4 : Option Addr) (c4 n4 : Nat) (T : ByteArray) (vn vk v1 v2 : Value) (R : List ByteArray) (ts : List S25) : Prop where
 bx : Bx w W K b e A3 c3 n3 A4 c4 n4 T vn vk
 hr : W.heap[w.heap.size + 1]? = some (.cells #[.int .i64 0, .string ⟨#[]⟩, .slice none 0 0, .slice none 0 0] 25 (0, 0))
 be : Below w.heap.size w W
 rn : Kd.R Kd.string 9 W (w.heap.size + 3) (fun _ => True) v1 R
 rk : Kd.R k25 25 W (w.heap.size + 3) (fun k => some k ≠ v1.ownBlock) v2 ts
theorem grown_bx {row : Option Nat} (h : Tn w W K b e A3 c3 n3 A4 c4 n4 T vn vk R ts) (hg : W.grownBy W2 row) (hr : ∀ k, row = some k → w.heap.size + 3 ≤ k) : Bx w W2 K b e A3 c3 n3 A4 c4 n4 T vn vk ∧ W2.heap[w.heap.size + 1]? = some (.cells #[.int .i64 0, .string ⟨#[]⟩, .slice none 0 0, .slice none 0 0] 25 (0, 0)) := by
 have f : ∀ k, k < W.heap.size → k < w.heap.size + 3 → W2.heap[k]? = W.heap[k]? := fun k h1 h2 => hg.block k h1 (fun e => by have := hr k e.symm; omega)
 exact ⟨⟨(f _ (blk_lt h.bx.1) (by omega)).trans h.bx.1, (f _ (blk_lt h.bx.2) (by omega)).trans h.bx.2⟩, (f _ (blk_lt h.hr) (by omega)).trans h.hr⟩
theorem Tn.names (h : Tn w W K b e A3 c3 n3 A4 c4 n4 T vn vk R ts) (ho : Kd.R Kd.string 9 W2 (w.heap.size + 3) (fun _ => True) v1 R') (hb : Below (w.heap.size + 3) W W2) (hg : W.grownBy W2 vn.ownBlock) (hat : v1.ownBlock = vn.ownBlock ∨ ∃ b, v1.ownBlock = some b ∧ W.heap.size ≤ b) : Tm w W2 K b e A3 c3 n3 A4 c4 n4 T vn vk v1 vk R' ts := by
 obtain ⟨h1, h2⟩ := grown_bx h hg (fun k hk => Kd.R_base h.rn k hk)
 refine ⟨h1, h2, h.be.trans (hb.mono (by omega)), ho, Kd.R_mono (Kd.R_step (Kd.R_bound h.rk) (fun k hk hlt => hg.block k hlt hk.1)) (fun k hk e => ?_)⟩
 rcases hat with q | ⟨b, q, hbw⟩
 ·exact hk.1 (e.trans q)
 rw [q] at e
 injection e with e
 have := hk.2.2.1
 omega
theorem Tn.kids (h : Tn w W K b e A3 c3 n3 A4 c4 n4 T vn vk R ts) (ho : Kd.R k25 25 W2 (w.heap.size + 3) (fun k => some k ≠ vn.ownBlock) v1 ts') (hb : Below (w.heap.size + 3) W W2) (hg : W.grownBy W2 vk.ownBlock) : Tm w W2 K b e A3 c3 n3 A4 c4 n4 T vn vk vn v1 R ts' := by
 obtain ⟨h1, h2⟩ := grown_bx h hg (fun k hk => Kd.R_base h.rk k hk)
 refine ⟨h1, h2, h.be.trans (hb.mono (by omega)), Kd.R_mono (Kd.R_step (Kd.R_bound h.rn) (fun k hk hlt => hg.block k hlt (fun e => ?_))) (fun _ _ => trivial), ho⟩
 obtain ⟨_, _, _, q, hq, cs, hc⟩ := hk
 obtain ⟨cs2, hc2⟩ := Kd.R_typed h.rk k e.symm
 rw [hc] at hc2
 simp only [Option.some.injEq, Obj.cells.injEq] at hc2
 have hq : q = 9 := by simpa [Kd.string, Kd.scalar] using hq
 exact absurd (hc2.2.1.symm.trans hq) (by decide)
theorem Tm.set2 (h : Tm w W K b e A3 c3 n3 A4 c4 n4 T vn vk v1 vk R ts) : Tn w (W.setCell ⟨w.heap.size + 1 + 1, 2, none⟩ v1) K b e A3 c3 n3 A4 c4 n4 T v1 vk R ts := by
 have hf : ∀ k, k ≠ w.heap.size + 1 + 1 → (W.setCell ⟨w.heap.size + 1 + 1, 2, none⟩ v1).heap[k]? = W.heap[k]? := fun k hk => Below.heap_setCell W ⟨w.heap.size + 1 + 1, 2, none⟩ _ k hk
 exact ⟨⟨(hf _ (by omega)).trans h.bx.1, blk_set h.bx.2 2 _⟩, (hf _ (by omega)).trans h.hr, below_set h.be (show w.heap.size ≤ w.heap.size + 1 + 1 by omega), far_R h.rn (fun k hk => hf k (by omega)), far_R h.rk (fun k hk => hf k (by omega))⟩
theorem Tm.set3 (h : Tm w W K b e A3 c3 n3 A4 c4 n4 T vn vk vn v1 R ts) : Tn w (W.setCell ⟨w.heap.size + 1 + 1, 3, none⟩ v1) K b e A3 c3 n3 A4 c4 n4 T vn v1 R ts := by
 have hf : ∀ k, k ≠ w.heap.size + 1 + 1 → (W.setCell ⟨w.heap.size + 1 + 1, 3, none⟩ v1).heap[k]? = W.heap[k]? := fun k hk => Below.heap_setCell W ⟨w.heap.size + 1 + 1, 3, none⟩ _ k hk
 exact ⟨⟨(hf _ (by omega)).trans h.bx.1, blk_set h.bx.2 3 _⟩, (hf _ (by omega)).trans h.hr, below_set h.be (show w.heap.size ≤ w.heap.size + 1 + 1 by omega), far_R h.rn (fun k hk => hf k (by omega)), far_R h.rk (fun k hk => hf k (by omega))⟩
theorem Tn.rcells (h : Tn w W K b e A3 c3 n3 A4 c4 n4 T vn vk R ts) : W.cell? ⟨w.heap.size + 1, 0, none⟩ = some (.int .i64 0) ∧ W.cell? ⟨w.heap.size + 1, 1, none⟩ = some (.string ⟨#[]⟩) ∧ W.cell? ⟨w.heap.size + 1, 2, none⟩ = some (.slice none 0 0) ∧ W.cell? ⟨w.heap.size + 1, 3, none⟩ = some (.slice none 0 0) ∧ ∀ i, W.frozen? ⟨w.heap.size + 1, i, none⟩ = false :=
 ⟨blk_cell h.hr 0, blk_cell h.hr 1, blk_cell h.hr 2, blk_cell h.hr 3, fun i => blk_frozen h.hr i⟩
theorem Tn.done (h : Tn w W K b e A3 c3 n3 A4 c4 n4 T vn vk R ts) (u0 u1 u2 u3 : Value) {W2 : World} (hW : W2 = (((W.setCell ⟨w.heap.size + 1, 0, none⟩ u0).setCell ⟨w.heap.size + 1, 1, none⟩ u1).setCell ⟨w.heap.size + 1, 2, none⟩ u2).setCell ⟨w.heap.size + 1, 3, none⟩ u3) :
  W2.heap[w.heap.size + 1]? = some (.cells #[u0, u1, u2, u3] 25 (0, 0)) ∧ Kd.R Kd.string 9 W2 w.heap.size (fun _ => True) vn R ∧ Kd.R k25 25 W2 w.heap.size (fun k => some k ≠ vn.ownBlock) vk ts ∧ Below w.heap.size w W2 := by
 subst hW
 have hf : ∀ k, w.heap.size + 3 ≤ k → ((((W.setCell ⟨w.heap.size + 1, 0, none⟩ u0).setCell ⟨w.heap.size + 1, 1, none⟩ u1).setCell ⟨w.heap.size + 1, 2, none⟩ u2).setCell ⟨w.heap.size + 1, 3, none⟩ u3).heap[k]? = W.heap[k]? := fun k hk => by
  rw [Below.heap_setCell _ _ _ k (show k ≠ w.heap.size + 1 by omega), Below.heap_setCell _ _ _ k (show k ≠ w.heap.size + 1 by omega), Below.heap_setCell _ _ _ k (show k ≠ w.heap.size + 1 by omega), Below.heap_setCell _ _ _ k (show k ≠ w.heap.size + 1 by omega)]
 exact ⟨blk_set (blk_set (blk_set (blk_set h.hr 0 _) 1 _) 2 _) 3 _, Kd.R_lower (far_R h.rn hf) (by omega), Kd.R_lower (far_R h.rk hf) (by omega), below_set (below_set (below_set (below_set h.be (Nat.le_succ _)) (Nat.le_succ _)) (Nat.le_succ _)) (Nat.le_succ _)⟩
theorem kid_M {ok2 ok3 : Nat → Prop} {s1 : Int} {s2 : ByteArray} {s3 : List ByteArray} {s4 : List S25} {z2 z3 : Value} (h : Tn w W K b e A3 c3 n3 A4 c4 n4 T vn vk R ts) (h2 : Kd.R Kd.string 9 W2 W.heap.size ok2 z2 s3) (h3 : Kd.R k25 25 W2 W.heap.size ok3 z3 s4) : k25.M W2 (w.heap.size + 3) (fun k => W.heap.size ≤ k ∧ k < W2.heap.size) (⟨s1, s2, s3, s4⟩ : S25) [.int .i64 s1, .string s2, z2, z3] :=
 k25_mkM _ _ _ (⟨s1, s2, s3, s4⟩ : S25) (Kd.R_lower (Kd.R_mono (Kd.R_bound h2) (fun k h => ⟨h.2.1, h.2.2.1⟩)) h.sz) (Kd.R_lower (Kd.R_mono (Kd.R_bound h3) (fun k h => ⟨h.2.1, h.2.2.1⟩)) h.sz)
end
theorem trEnd (P : Ending → World → Prop) (K : Int) (T : ByteArray) (B2 B3 : Option Addr) (n2 n3 d2 d3 : Nat) (W : World) (r : Nat) (tm : Array Value) (h4 : tm.getD 4 undef = .pointer (some ⟨r, 0, none⟩)) (hg : W.heap[r]? = some (.cells #[.int .i64 K, .string T, .slice B2 n2 d2, .slice B3 n3 d3] 25 (0, 0))) (hb : P (.returned (.agg #[.int .i64 K, .string T, .slice B2 n2 d2, .slice B3 n3 d3])) W) :
  bodyPost Tryz.prog Tryz.f48 P .ret ⟨tm, []⟩ W := by
 have n0 := blk_cell hg 0
 have n1 := blk_cell hg 1
 have n2' := blk_cell hg 2
 have n3' := blk_cell hg 3
 refine bodyPost_ret (v := .agg #[.int .i64 K, .string T, .slice B2 n2 d2, .slice B3 n3 d3]) ?_ rfl hb
 simp only [results, Tryz.results48]
 have h4' := h4
 simp only [Array.getD_eq_getD_getElem?] at h4'
 simp [go_sem, h4, h4', n0, n1, n2', n3']
theorem tree_calls (k : Nat) : ∀ (a0 : ByteArray) (K b e : Int) (A3 : Option Addr) (c3 : Nat) (l3 : List S115) (A4 : Option Addr) (c4 : Nat) (l4 : List S78) (r1 : Int) (r2 : ByteArray) (r3 : List ByteArray) (r4 : List S25) (w : World) (h3 : Kd.C k115 w A3 l3.length l3) (hc3 : l3.length ≤ c3) (h4 : Kd.C k78 w A4 l4.length l4) (hc4 : l4.length ≤ c4) (h : spec_Tree.f k a0 K b e l3 l4 = some (r1, r2, r3, r4)),
  Calls Tryz.prog 48 #[.string a0, .agg #[.int .i64 K, .int .i64 b, .int .i64 e, .slice A3 l3.length c3, .slice A4 l4.length c4]] w fun e w' => ∃ v2_ v3_ : Value, e = .returned (.agg #[.int .i64 r1, .string r2, v2_, v3_]) ∧ Kd.R Kd.string 9 w' w.heap.size (fun _ => True) v2_ r3 ∧ Kd.R k25 25 w' w.heap.size (fun k_ => some k_ ≠ (v2_ : Value).ownBlock) v3_ r4 ∧ Below w.heap.size w w' := by
 induction k using Nat.strongRecOn with
 | _ k ih =>
 intro a0 K b e A3 c3 l3 A4 c4 l4 r1 r2 r3 r4 w h3 hc3 h4 hc4 h
 cases k with
 | zero => exact absurd h (by simp [spec_Tree.f])
 | succ k =>
 simp only [spec_Tree.f] at h
 have HH := Aside0.mk h
 have HC := Aside0.mk (And.intro h3 h4)
 have HT := Aside0.mk (Tn.new (K := K) (b := b) (e := e) (A3 := A3) (c3 := c3) (n3 := l3.length) (A4 := A4) (c4 := c4) (n4 := l4.length) w)
 clear h h3 h4
 go_enter Tryz.func48, Tryz.ntmps48
 go_upto_block 0 with fail
 generalize (((w.alloc (.cells #[.int .i64 K, .int .i64 b, .int .i64 e, .slice A3 l3.length c3, .slice A4 l4.length c4] 78)).alloc (.cells #[.int .i64 0, .string ⟨#[]⟩, .slice none 0 0, .slice none 0 0] 25)).alloc (.cells #[.int .i64 K, .string ⟨#[]⟩, .slice none 0 0, .slice none 0 0] 25)) = W0 at *
 go_cut [] (fun wc => ∃ (kq : Nat) (T : ByteArray), Aside0 (spec_Tree.j0 kq a0 K b e l3 l4 K T = some (r1, r2, r3, r4)) ∧ Aside0 (kq ≤ k) ∧ Aside0 (Tn w wc K b e A3 c3 l3.length A4 c4 l4.length T (.slice none 0 0) (.slice none 0 0) [] []))
 case first =>
  obtain ⟨d0, d1, d2, d3, d4, d5, d6, d7, d8, df⟩ := HT.out.bx.cells
  have h := HH.out
  by_cases q3 : K = 3
  ·rw [if_pos q3] at h
   by_cases x0 : 0 ≤ b
   rotate_left
   ·rw [if_neg x0] at h; cases h
   rw [if_pos x0] at h
   by_cases x1 : b ≤ e
   rotate_left
   ·rw [if_neg x1] at h; cases h
   rw [if_pos x1] at h
   by_cases x2 : e ≤ (a0.size : Int)
   rotate_left
   ·rw [if_neg x2] at h; cases h
   rw [if_pos x2] at h
   have HJ := Aside0.mk h
   clear h HH
   subst q3
   go_wp2_with fail
   go_meet
   case rel => exact ⟨_, _, HJ, ⟨Nat.le_refl _⟩, ⟨HT.out.setT _⟩⟩
  rw [if_neg q3] at h
  by_cases q4 : K = 4
  rotate_left
  ·rw [if_neg q4] at h
   have HJ := Aside0.mk h
   have y3 : (K == 3) = false := beq_eq_false_iff_ne.mpr q3
   have y4 : (K == 4) = false := beq_eq_false_iff_ne.mpr q4
   clear h HH q3 q4
   go_wp2_with fail
   go_meet
   case rel => exact ⟨_, _, HJ, ⟨Nat.le_refl _⟩, HT⟩
  rw [if_pos q4] at h
  by_cases x0 : 0 ≤ b
  rotate_left
  ·rw [if_neg x0] at h; cases h
  rw [if_pos x0] at h
  by_cases x1 : b ≤ e
  rotate_left
  ·rw [if_neg x1] at h; cases h
  rw [if_pos x1] at h
  by_cases x2 : e ≤ (a0.size : Int)
  rotate_left
  ·rw [if_neg x2] at h; cases h
  rw [if_pos x2] at h
  obtain ⟨T, hu, h⟩ := Option.bind_eq_some_iff.mp h
  have HJ := Aside0.mk h
  have HU := Aside0.mk hu
  clear h HH hu q3
  subst q4
  go_wp2_with (go_at_call 74; refine (spec_Unquote.calls k _ T _ HU.out).mono ?_; rintro e' w2 ⟨rfl, hb⟩; have H2 := Aside0.mk (HT.out.below hb); clear hb d0 d1 d2 d3 d4 d5 d6 d7 d8 df; obtain ⟨d0, d1, d2, d3, d4, d5, d6, d7, d8, df⟩ := H2.out.bx.cells)
  go_meet
  case rel => exact ⟨_, _, HJ, ⟨Nat.le_refl _⟩, ⟨H2.out.setT _⟩⟩
 clear HH HT
 obtain ⟨kq, T, HJ, HK, HT⟩ := hcut
 cases kq with
 | zero => exact absurd HJ.out (by simp [spec_Tree.j0])
 | succ k1 =>
 have h := HJ.out
 simp only [spec_Tree.j0] at h
 have HL := Aside0.mk h
 clear h HJ
 go_wp2_with fail
 go_loopg [6] k1 (fun kq v6 w' => ∃ (x6 : Int) (R : List ByteArray) (vn : Value), v6 = .int .i64 x6 ∧ Aside0 (spec_Tree.l0 kq a0 x6 K b e l3 l4 K T R = some (r1, r2, r3, r4)) ∧ kq ≤ k1 ∧ Aside0 (Tn w w' K b e A3 c3 l3.length A4 c4 l4.length T vn (.slice none 0 0) R []))
 case atStart => exact ⟨0, [], _, rfl, HL, Nat.le_refl _, HT⟩
 obtain ⟨x6, R, vn, rfl, HL6, hk6, H6⟩ := hrel
 cases gk with
 | zero => exact absurd HL6.out (by simp [spec_Tree.l0])
 | succ k2 =>
 have h := HL6.out
 simp only [spec_Tree.l0] at h
 obtain ⟨d0, d1, d2, d3, d4, d5, d6, d7, d8, df⟩ := H6.out.bx.cells
 obtain ⟨k2', rfl⟩ : ∃ k2', k2' = k2 := ⟨_, rfl⟩
 by_cases y0 : x6 < (l3.length : Int)
 ·rw [if_pos y0] at h
  by_cases y1 : 0 ≤ x6
  rotate_left
  ·rw [if_neg y1] at h; cases h
  rw [if_pos y1] at h
  obtain ⟨ad, hA, p0, p1⟩ := at_T115 HC.out.1 x6 y1 y0
  have hbe := H6.out.be
  have HAB := Aside0.mk (World.block_lt_of_cell? w _ p0)
  have p0 := pw_cell_below hbe p0
  have p1 := pw_cell_below hbe p1
  generalize rd_T115 l3 x6 = nn at *
  by_cases z0 : 0 ≤ nn.f0
  rotate_left
  ·rw [if_neg z0] at h; cases h
  rw [if_pos z0] at h
  by_cases z1 : nn.f0 ≤ nn.f1
  rotate_left
  ·rw [if_neg z1] at h; cases h
  rw [if_pos z1] at h
  by_cases z2 : nn.f1 ≤ (a0.size : Int)
  rotate_left
  ·rw [if_neg z2] at h; cases h
  rw [if_pos z2] at h
  obtain ⟨t, hu, h⟩ := Option.bind_eq_some_iff.mp h
  by_cases hlm : R.length < 8796093022208
  rotate_left
  ·rw [if_neg hlm] at h; cases h
  rw [if_pos hlm] at h
  have HN := Aside0.mk h
  have HU := Aside0.mk hu
  have HLM := Aside0.mk (show (R.length + 1) * 16 ≤ 140737488355328 by omega)
  subst hA
  clear h hu hlm HL6 hbe
  go_upto_region 10 with fail
  clear d0 d1 d2 d3 d4 d5 d6 d7 d8 df
  have HP := Aside0.mk (And.intro p0 p1)
  clear p0 p1
  have hdr : Below wr.heap.size wr wr.drew := below_drew (Below.refl _ _)
  have H8 := Aside0.mk (H6.out.below hdr)
  refine wp_region_last_drew (S := (fun wz => Bx w wz K b e (some ad) c3 l3.length A4 c4 l4.length T vn (.slice none 0 0) ∧ wz.cell? (ad.add (x6.toNat * 2)) = some (.int .i64 nn.f0) ∧ wz.cell? ⟨(ad.add (x6.toNat * 2)).block, (ad.add (x6.toNat * 2)).off + 1, none⟩ = some (.int .i64 nn.f1))) (ds := [20]) (by kernel_rfl) ⟨H8.out.bx, pw_cell_below hdr HP.out.1, pw_cell_below hdr HP.out.2⟩ (fun hHeld => ?_)
  have HP := Aside0.mk (And.intro (pw_cell_below hdr HP.out.1) (pw_cell_below hdr HP.out.2))
  clear hdr
  generalize wr.drew = W1 at *
  refine tkL (i := 0) (by simp only [gT, gS, gZ]; rfl) (by kernel_rfl) (by exact fun _ _ _ h => h) (.inl ⟨by rfl, fun wz hSw => by obtain ⟨hb, q0, q1⟩ := hSw; obtain ⟨d0, d1, d2, d3, d4, d5, d6, d7, d8, df⟩ := Bx.cells hb; go_simp <;> with_reducible rfl⟩) hHeld ?_
  (try simp only [aP, aN, sT, sZ, sS])
  refine tkL (i := 1) (by simp only [gT, gS, gZ]; rfl) (by kernel_rfl) (by exact fun _ _ _ h => h) (.inl ⟨by rfl, fun wz hSw => by obtain ⟨hb, q0, q1⟩ := hSw; obtain ⟨d0, d1, d2, d3, d4, d5, d6, d7, d8, df⟩ := Bx.cells hb; go_simp <;> with_reducible rfl⟩) hHeld ?_
  (try simp only [aP, aN, sT, sZ, sS])
  refine tkL (i := 2) (by simp only [gT, gS, gZ]; rfl) (by kernel_rfl) (by exact fun _ _ _ h => h) (.inl ⟨by rfl, fun wz hSw => by obtain ⟨hb, q0, q1⟩ := hSw; obtain ⟨d0, d1, d2, d3, d4, d5, d6, d7, d8, df⟩ := Bx.cells hb; go_simp <;> with_reducible rfl⟩) hHeld ?_
  (try simp only [aP, aN, sT, sZ, sS])
  refine tkL (i := 3) (by simp only [gT, gS, gZ]; rfl) (by kernel_rfl) (by exact fun _ _ _ h => h) (.inl ⟨by rfl, fun wz hSw => by obtain ⟨hb, q0, q1⟩ := hSw; obtain ⟨d0, d1, d2, d3, d4, d5, d6, d7, d8, df⟩ := Bx.cells hb; go_simp <;> with_reducible rfl⟩) hHeld ?_
  (try simp only [aP, aN, sT, sZ, sS])
  refine tkL (i := 4) (by simp only [gT, gS, gZ]; rfl) (by kernel_rfl) (by exact fun _ _ _ h => h) (.inl ⟨by rfl, fun wz hSw => by obtain ⟨hb, q0, q1⟩ := hSw; obtain ⟨d0, d1, d2, d3, d4, d5, d6, d7, d8, df⟩ := Bx.cells hb; go_simp <;> with_reducible rfl⟩) hHeld ?_
  (try simp only [aP, aN, sT, sZ, sS])
  refine tkL (i := 5) (by simp only [gT, gS, gZ]; rfl) (by kernel_rfl) (by exact fun _ _ _ h => h) (.inl ⟨by rfl, fun wz hSw => by obtain ⟨hb, q0, q1⟩ := hSw; obtain ⟨d0, d1, d2, d3, d4, d5, d6, d7, d8, df⟩ := Bx.cells hb; go_simp <;> with_reducible rfl⟩) hHeld ?_
  (try simp only [aP, aN, sT, sZ, sS])
  refine tkL (i := 6) (by simp only [gT, gS, gZ]; rfl) (by kernel_rfl) (by exact fun _ _ _ h => h) (.inl ⟨by rfl, fun wz hSw => by obtain ⟨hb, q0, q1⟩ := hSw; obtain ⟨d0, d1, d2, d3, d4, d5, d6, d7, d8, df⟩ := Bx.cells hb; go_simp <;> with_reducible rfl⟩) hHeld ?_
  (try simp only [aP, aN, sT, sZ, sS])
  refine tkL (i := 7) (by simp only [gT, gS, gZ]; rfl) (by kernel_rfl) (by exact fun _ _ _ h => h) (.inl ⟨by rfl, fun wz hSw => by obtain ⟨hb, q0, q1⟩ := hSw; obtain ⟨d0, d1, d2, d3, d4, d5, d6, d7, d8, df⟩ := Bx.cells hb; go_simp <;> with_reducible rfl⟩) hHeld ?_
  (try simp only [aP, aN, sT, sZ, sS])
  refine tkL (i := 8) (by simp only [gT, gS, gZ]; rfl) (by kernel_rfl) (by exact fun _ _ _ h => h) (.inl ⟨by rfl, fun wz hSw => by obtain ⟨hb, q0, q1⟩ := hSw; obtain ⟨d0, d1, d2, d3, d4, d5, d6, d7, d8, df⟩ := Bx.cells hb; go_simp <;> with_reducible rfl⟩) hHeld ?_
  (try simp only [aP, aN, sT, sZ, sS])
  refine tkL (i := 9) (by simp only [gT, gS, gZ]; rfl) (by kernel_rfl) (by exact fun _ _ _ h => h) (.inl ⟨by rfl, fun wz hSw => by obtain ⟨hb, q0, q1⟩ := hSw; obtain ⟨d0, d1, d2, d3, d4, d5, d6, d7, d8, df⟩ := Bx.cells hb; go_simp <;> with_reducible rfl⟩) hHeld ?_
  (try simp only [aP, aN, sT, sZ, sS])
  refine tkL (i := 10) (by simp only [gT, gS, gZ]; rfl) (by kernel_rfl) (by exact fun _ _ _ h => h) (.inl ⟨by rfl, fun wz hSw => by obtain ⟨hb, q0, q1⟩ := hSw; obtain ⟨d0, d1, d2, d3, d4, d5, d6, d7, d8, df⟩ := Bx.cells hb; go_simp <;> with_reducible rfl⟩) hHeld ?_
  (try simp only [aP, aN, sT, sZ, sS])
  refine tkL (i := 11) (by simp only [gT, gS, gZ]; rfl) (by kernel_rfl) (by exact fun _ _ _ h => h) (.inl ⟨by rfl, fun wz hSw => by obtain ⟨hb, q0, q1⟩ := hSw; obtain ⟨d0, d1, d2, d3, d4, d5, d6, d7, d8, df⟩ := Bx.cells hb; go_simp <;> with_reducible rfl⟩) hHeld ?_
  (try simp only [aP, aN, sT, sZ, sS])
  refine tkL (i := 12) (by simp only [gT, gS, gZ]; rfl) (by kernel_rfl) (by exact fun _ _ _ h => h) (.inl ⟨by rfl, fun wz hSw => by obtain ⟨hb, q0, q1⟩ := hSw; obtain ⟨d0, d1, d2, d3, d4, d5, d6, d7, d8, df⟩ := Bx.cells hb; go_simp <;> with_reducible rfl⟩) hHeld ?_
  (try simp only [aP, aN, sT, sZ, sS])
  refine tkL (i := 13) (by simp only [gT, gS, gZ]; rfl) (by kernel_rfl) (by exact fun _ _ _ h => h) (.inl ⟨by rfl, fun wz hSw => by obtain ⟨hb, q0, q1⟩ := hSw; obtain ⟨d0, d1, d2, d3, d4, d5, d6, d7, d8, df⟩ := Bx.cells hb; go_simp <;> with_reducible rfl⟩) hHeld ?_
  (try simp only [aP, aN, sT, sZ, sS])
  refine tkL (i := 14) (by simp only [gT, gS, gZ]; rfl) (by kernel_rfl) (by exact fun _ _ _ h => h) (.inl ⟨by rfl, fun wz hSw => by obtain ⟨hb, q0, q1⟩ := hSw; obtain ⟨d0, d1, d2, d3, d4, d5, d6, d7, d8, df⟩ := Bx.cells hb; go_simp <;> with_reducible rfl⟩) hHeld ?_
  (try simp only [aP, aN, sT, sZ, sS])
  refine tkL (i := 15) (by simp only [gT, gS, gZ]; rfl) (by kernel_rfl) (by exact fun _ _ _ h => h) (.inl ⟨by rfl, fun wz hSw => by obtain ⟨hb, q0, q1⟩ := hSw; obtain ⟨d0, d1, d2, d3, d4, d5, d6, d7, d8, df⟩ := Bx.cells hb; go_simp <;> with_reducible rfl⟩) hHeld ?_
  (try simp only [aP, aN, sT, sZ, sS])
  refine wpAnyLast_ready (rs := [16]) (by kernel_rfl) (by simp) ?_
  refine AllReadyL.cons (o := ?_) ?_ (by decide) (fun K hK => ?_) AllReadyL.nil
  rotate_left 1
  ·(simp only [gT, gS, gZ]; rfl)
  go_simp
  (go_at_call 74; refine (spec_Unquote.calls k2' _ t _ HU.out).mono ?_; rintro e' w2 ⟨rfl, hb⟩; have H9 := Aside0.mk (H8.out.below hb); have HP := Aside0.mk (And.intro (pw_cell_below hb HP.out.1) (pw_cell_below hb HP.out.2)); clear hb)
  refine hK.out _ _ ⟨H9.out.bx, HP.out⟩ (fun hHeld2 => ?_)
  clear hK K hHeld
  have hHeld := hHeld2
  clear hHeld2
  (try simp only [aP, aN, sT, sZ, sS])
  refine wpAnyLast_ready (rs := [17]) (by kernel_rfl) (by simp) ?_
  refine AllReadyL.cons (o := ?_) ?_ (by decide) (fun K hK => ?_) AllReadyL.nil
  rotate_left 1
  ·(simp only [gT, gS, gZ]; rfl)
  go_simp
  refine hK.out _ _ ⟨H9.out.bx.below (below_alloc (Below.refl _ _) _), pw_cell_below (below_alloc (Below.refl _ _) _) HP.out.1, pw_cell_below (below_alloc (Below.refl _ _) _) HP.out.2⟩ (fun hHeld2 => ?_)
  clear hK K hHeld
  have hHeld := hHeld2
  clear hHeld2
  (try simp only [aP, aN, sT, sZ, sS])
  refine wpAnyLast_ready (rs := [18]) (by kernel_rfl) (by simp) ?_
  refine AllReadyL.cons (o := ?_) ?_ (by decide) (fun K hK => ?_) AllReadyL.nil
  rotate_left 1
  ·(simp only [gT, gS, gZ]; rfl)
  refine Kd.R_append_step Kd.string (w0 := w2) (w.heap.size + 3) (by rfl) (.tmp 40) (.tmp 56) 22 9 (.string ⟨#[]⟩) 16 rfl Tryz.underlying22 info9 rfl (by decide) (by decide) vn R t [.string t] (fun _ => True) (fun _ => False) rfl rfl rfl (fun _ hk => hk.elim) (fun _ _ => trivial) H9.out.rn (Below.refl _ _) H9.out.sz HLM.out ?_
  intro v1 w3 ho hbl hg hat
  generalize R ++ [t] = R1 at ho HN
  obtain ⟨B1, m1, rfl⟩ := Kd.R_slice ho
  have hba : (ad.add (x6.toNat * 2)).block < w.heap.size + 3 := by have := HAB.out; omega
  have HM := Aside0.mk (H9.out.names ho hbl hg hat)
  have HP := Aside0.mk (And.intro ((hbl.cell (by exact hba)).trans HP.out.1) ((hbl.cell (by exact hba)).trans HP.out.2))
  clear ho hbl hg hat hba
  refine hK.out _ _ ⟨HM.out.bx, HP.out⟩ (fun hHeld2 => ?_)
  clear hK K hHeld
  have hHeld := hHeld2
  clear hHeld2
  (try simp only [aP, aN, sT, sZ, sS])
  refine tkL (i := 19) (by simp only [gT, gS, gZ]; rfl) (by kernel_rfl) (by exact fun _ _ _ h => h) (.inl ⟨by rfl, fun wz hSw => by obtain ⟨hb, q0, q1⟩ := hSw; obtain ⟨d0, d1, d2, d3, d4, d5, d6, d7, d8, df⟩ := Bx.cells hb; go_simp <;> with_reducible rfl⟩) hHeld ?_
  (try simp only [aP, aN, sT, sZ, sS])
  refine wpAnyLast_ready (rs := [20]) (by kernel_rfl) (by simp) ?_
  refine AllReadyL.cons_last (o := ?_) ?_ (by decide) (fun K hK => ?_) AllReadyL.nil
  rotate_left 1
  ·(simp only [gT, gS, gZ]; rfl)
  obtain ⟨d0, d1, d2, d3, d4, d5, d6, d7, d8, df⟩ := HM.out.bx.cells
  go_simp
  refine hK.out _ _ ?_
  clear hK K hHeld
  refine wpAnyLast_done (by kernel_rfl) ?_ _
  have H10 := Aside0.mk HM.out.set2
  clear HM H9 H8 d0 d1 d2 d3 d4 d5 d6 d7 d8 df
  go_wp2_with fail
  go_roundg k2'
  case measure => omega
  case rel => exact ⟨_, _, _, rfl, HN, by omega, H10⟩
 rw [if_neg y0] at h
 have HM := Aside0.mk h
 clear h HL6 HL HT
 go_wp2_with fail
 clear d0 d1 d2 d3 d4 d5 d6 d7 d8 df
 go_loopg [7] k2' (fun kq v7 w' => ∃ (x7 : Int) (ts : List S25) (vk : Value), v7 = .int .i64 x7 ∧ Aside0 (spec_Tree.l1 kq a0 x7 K b e l3 l4 K T R ts = some (r1, r2, r3, r4)) ∧ kq ≤ k2' ∧ Aside0 (Tn w w' K b e A3 c3 l3.length A4 c4 l4.length T vn vk R ts))
 case atStart => exact ⟨0, [], _, rfl, HM, Nat.le_refl _, H6⟩
 obtain ⟨x7, ts, vk, rfl, HL7, hk7, H7⟩ := hrel
 cases gk with
 | zero => exact absurd HL7.out (by simp [spec_Tree.l1])
 | succ k3 =>
 have h := HL7.out
 simp only [spec_Tree.l1] at h
 obtain ⟨d0, d1, d2, d3, d4, d5, d6, d7, d8, df⟩ := H7.out.bx.cells
 by_cases y2 : x7 < (l4.length : Int)
 rotate_left
 ·rw [if_neg y2] at h
  simp only [Option.some.injEq, Prod.mk.injEq] at h
  obtain ⟨rfl, rfl, rfl, rfl⟩ := h
  obtain ⟨B2, m2, rfl⟩ := Kd.R_slice H7.out.rn
  obtain ⟨B3, m3, rfl⟩ := Kd.R_slice H7.out.rk
  obtain ⟨r0, r1, r2, r3, rf⟩ := H7.out.rcells
  go_wp2_with fail
  obtain ⟨f1, f2, f3, f4⟩ := H7.out.done _ _ _ _ rfl
  exact trEnd _ _ _ _ _ _ _ _ _ _ _ _ rfl f1 ⟨_, _, rfl, f2, f3, f4⟩
 rw [if_pos y2] at h
 by_cases y3 : 0 ≤ x7
 rotate_left
 ·rw [if_neg y3] at h; cases h
 rw [if_pos y3] at h
 obtain ⟨ad, B3, g3, B4, g4, hA, p0, p1, p2, p3, p4, i3, j3, i4, j4⟩ := at_T78 HC.out.2 x7 y3 y2
 obtain ⟨⟨s1, s2, s3, s4⟩, hu, hy⟩ := Option.bind_eq_some_iff.mp h
 clear h
 dsimp only at hy
 by_cases hlm : ts.length < 1954687338268
 rotate_left
 ·rw [if_neg hlm] at hy; cases hy
 rw [if_pos hlm] at hy
 have hbe := H7.out.be
 have HAB := Aside0.mk (World.block_lt_of_cell? w _ p0)
 have p0 := pw_cell_below hbe p0
 have p1 := pw_cell_below hbe p1
 have p2 := pw_cell_below hbe p2
 have p3 := pw_cell_below hbe p3
 have p4 := pw_cell_below hbe p4
 generalize rd_T78 l4 x7 = cc at *
 have HN := Aside0.mk hy
 have HU := Aside0.mk (And.intro hu (And.intro j3 j4))
 have HLM := Aside0.mk (show (ts.length + 1) * 72 ≤ 140737488355328 by omega)
 have hik : k3 < k + 1 := by have := HK.out; omega
 subst hA
 clear hy hu hlm HL7 hbe j3 j4
 go_upto_region 14 with fail
 clear d0 d1 d2 d3 d4 d5 d6 d7 d8 df
 have hdr : Below wr.heap.size wr wr.drew := below_drew (Below.refl _ _)
 have H8 := Aside0.mk (H7.out.below hdr)
 have HP := Aside0.mk (show wr.cell? (ad.add (x7.toNat * 5)) = some (.int .i64 cc.f0) ∧ wr.cell? ⟨(ad.add (x7.toNat * 5)).block, (ad.add (x7.toNat * 5)).off + 1, none⟩ = some (.int .i64 cc.f1) ∧ wr.cell? ⟨(ad.add (x7.toNat * 5)).block, (ad.add (x7.toNat * 5)).off + 2, none⟩ = some (.int .i64 cc.f2) ∧ wr.cell? ⟨(ad.add (x7.toNat * 5)).block, (ad.add (x7.toNat * 5)).off + 3, none⟩ = some (.slice B3 cc.f3.length g3) ∧ wr.cell? ⟨(ad.add (x7.toNat * 5)).block, (ad.add (x7.toNat * 5)).off + 4, none⟩ = some (.slice B4 cc.f4.length g4) from ⟨p0, p1, p2, p3, p4⟩)
 have HP := Aside0.mk (show wr.drew.cell? (ad.add (x7.toNat * 5)) = some (.int .i64 cc.f0) ∧ wr.drew.cell? ⟨(ad.add (x7.toNat * 5)).block, (ad.add (x7.toNat * 5)).off + 1, none⟩ = some (.int .i64 cc.f1) ∧ wr.drew.cell? ⟨(ad.add (x7.toNat * 5)).block, (ad.add (x7.toNat * 5)).off + 2, none⟩ = some (.int .i64 cc.f2) ∧ wr.drew.cell? ⟨(ad.add (x7.toNat * 5)).block, (ad.add (x7.toNat * 5)).off + 3, none⟩ = some (.slice B3 cc.f3.length g3) ∧ wr.drew.cell? ⟨(ad.add (x7.toNat * 5)).block, (ad.add (x7.toNat * 5)).off + 4, none⟩ = some (.slice B4 cc.f4.length g4) from ⟨pw_cell_below hdr HP.out.1, pw_cell_below hdr HP.out.2.1, pw_cell_below hdr HP.out.2.2.1, pw_cell_below hdr HP.out.2.2.2.1, pw_cell_below hdr HP.out.2.2.2.2⟩)
 clear p0 p1 p2 p3 p4
 refine wp_region_last_drew (S := (fun wz => Bx w wz K b e A3 c3 l3.length (some ad) c4 l4.length T vn vk ∧ wz.cell? (ad.add (x7.toNat * 5)) = some (.int .i64 cc.f0) ∧ wz.cell? ⟨(ad.add (x7.toNat * 5)).block, (ad.add (x7.toNat * 5)).off + 1, none⟩ = some (.int .i64 cc.f1) ∧ wz.cell? ⟨(ad.add (x7.toNat * 5)).block, (ad.add (x7.toNat * 5)).off + 2, none⟩ = some (.int .i64 cc.f2) ∧ wz.cell? ⟨(ad.add (x7.toNat * 5)).block, (ad.add (x7.toNat * 5)).off + 3, none⟩ = some (.slice B3 cc.f3.length g3) ∧ wz.cell? ⟨(ad.add (x7.toNat * 5)).block, (ad.add (x7.toNat * 5)).off + 4, none⟩ = some (.slice B4 cc.f4.length g4))) (ds := [12]) (by kernel_rfl) ⟨H8.out.bx, HP.out⟩ (fun hHeld => ?_)
 clear hdr
 generalize wr.drew = W1 at *
 refine tkL (i := 0) (by simp only [gT, gS, gZ]; rfl) (by kernel_rfl) (by exact fun _ _ _ h => h) (.inl ⟨by rfl, fun wz hSw => by obtain ⟨hb, q0, q1, q2, q3, q4⟩ := hSw; obtain ⟨d0, d1, d2, d3, d4, d5, d6, d7, d8, df⟩ := Bx.cells hb; go_simp <;> with_reducible rfl⟩) hHeld ?_
 (try simp only [aP, aN, sT, sZ, sS])
 refine tkL (i := 1) (by simp only [gT, gS, gZ]; rfl) (by kernel_rfl) (by exact fun _ _ _ h => h) (.inl ⟨by rfl, fun wz hSw => by obtain ⟨hb, q0, q1, q2, q3, q4⟩ := hSw; obtain ⟨d0, d1, d2, d3, d4, d5, d6, d7, d8, df⟩ := Bx.cells hb; go_simp <;> with_reducible rfl⟩) hHeld ?_
 (try simp only [aP, aN, sT, sZ, sS])
 refine tkL (i := 2) (by simp only [gT, gS, gZ]; rfl) (by kernel_rfl) (by exact fun _ _ _ h => h) (.inl ⟨by rfl, fun wz hSw => by obtain ⟨hb, q0, q1, q2, q3, q4⟩ := hSw; obtain ⟨d0, d1, d2, d3, d4, d5, d6, d7, d8, df⟩ := Bx.cells hb; go_simp <;> with_reducible rfl⟩) hHeld ?_
 (try simp only [aP, aN, sT, sZ, sS])
 refine tkL (i := 3) (by simp only [gT, gS, gZ]; rfl) (by kernel_rfl) (by exact fun _ _ _ h => h) (.inl ⟨by rfl, fun wz hSw => by obtain ⟨hb, q0, q1, q2, q3, q4⟩ := hSw; obtain ⟨d0, d1, d2, d3, d4, d5, d6, d7, d8, df⟩ := Bx.cells hb; go_simp <;> with_reducible rfl⟩) hHeld ?_
 (try simp only [aP, aN, sT, sZ, sS])
 refine tkL (i := 4) (by simp only [gT, gS, gZ]; rfl) (by kernel_rfl) (by exact fun _ _ _ h => h) (.inl ⟨by rfl, fun wz hSw => by obtain ⟨hb, q0, q1, q2, q3, q4⟩ := hSw; obtain ⟨d0, d1, d2, d3, d4, d5, d6, d7, d8, df⟩ := Bx.cells hb; go_simp <;> with_reducible rfl⟩) hHeld ?_
 (try simp only [aP, aN, sT, sZ, sS])
 refine tkL (i := 5) (by simp only [gT, gS, gZ]; rfl) (by kernel_rfl) (by exact fun _ _ _ h => h) (.inl ⟨by rfl, fun wz hSw => by obtain ⟨hb, q0, q1, q2, q3, q4⟩ := hSw; obtain ⟨d0, d1, d2, d3, d4, d5, d6, d7, d8, df⟩ := Bx.cells hb; go_simp <;> with_reducible rfl⟩) hHeld ?_
 (try simp only [aP, aN, sT, sZ, sS])
 refine tkL (i := 6) (by simp only [gT, gS, gZ]; rfl) (by kernel_rfl) (by exact fun _ _ _ h => h) (.inl ⟨by rfl, fun wz hSw => by obtain ⟨hb, q0, q1, q2, q3, q4⟩ := hSw; obtain ⟨d0, d1, d2, d3, d4, d5, d6, d7, d8, df⟩ := Bx.cells hb; go_simp <;> with_reducible rfl⟩) hHeld ?_
 (try simp only [aP, aN, sT, sZ, sS])
 refine tkL (i := 7) (by simp only [gT, gS, gZ]; rfl) (by kernel_rfl) (by exact fun _ _ _ h => h) (.inl ⟨by rfl, fun wz hSw => by obtain ⟨hb, q0, q1, q2, q3, q4⟩ := hSw; obtain ⟨d0, d1, d2, d3, d4, d5, d6, d7, d8, df⟩ := Bx.cells hb; go_simp <;> with_reducible rfl⟩) hHeld ?_
 (try simp only [aP, aN, sT, sZ, sS])
 refine wpAnyLast_ready (rs := [8]) (by kernel_rfl) (by simp) ?_
 refine AllReadyL.cons (o := ?_) ?_ (by decide) (fun K hK => ?_) AllReadyL.nil
 rotate_left 1
 ·(simp only [gT, gS, gZ]; rfl)
 go_simp
 (go_at_call 48; refine (ih k3 hik a0 cc.f0 cc.f1 cc.f2 B3 g3 cc.f3 B4 g4 cc.f4 s1 s2 s3 s4 _ (Kd.C_below HU.out.2.1 H8.out.be) i3 (Kd.C_below HU.out.2.2 H8.out.be) i4 HU.out.1).mono ?_; rintro e' w2 ⟨z2, z3, rfl, ho2, ho3, hb⟩; obtain ⟨D2, m2, rfl⟩ := Kd.R_slice ho2; obtain ⟨D3, m3, rfl⟩ := Kd.R_slice ho3; have H9 := Aside0.mk (H8.out.below hb); have HP := Aside0.mk (show w2.cell? (ad.add (x7.toNat * 5)) = some (.int .i64 cc.f0) ∧ w2.cell? ⟨(ad.add (x7.toNat * 5)).block, (ad.add (x7.toNat * 5)).off + 1, none⟩ = some (.int .i64 cc.f1) ∧ w2.cell? ⟨(ad.add (x7.toNat * 5)).block, (ad.add (x7.toNat * 5)).off + 2, none⟩ = some (.int .i64 cc.f2) ∧ w2.cell? ⟨(ad.add (x7.toNat * 5)).block, (ad.add (x7.toNat * 5)).off + 3, none⟩ = some (.slice B3 cc.f3.length g3) ∧ w2.cell? ⟨(ad.add (x7.toNat * 5)).block, (ad.add (x7.toNat * 5)).off + 4, none⟩ = some (.slice B4 cc.f4.length g4) from ⟨pw_cell_below hb HP.out.1, pw_cell_below hb HP.out.2.1, pw_cell_below hb HP.out.2.2.1, pw_cell_below hb HP.out.2.2.2.1, pw_cell_below hb HP.out.2.2.2.2⟩); have HE := Aside0.mk (kid_M (s1 := s1) (s2 := s2) H8.out ho2 ho3); clear ho2 ho3 hb)
 refine hK.out _ _ ⟨H9.out.bx, HP.out⟩ (fun hHeld2 => ?_)
 clear hK K hHeld
 have hHeld := hHeld2
 clear hHeld2
 (try simp only [aP, aN, sT, sZ, sS])
 refine wpAnyLast_ready (rs := [9]) (by kernel_rfl) (by simp) ?_
 refine AllReadyL.cons (o := ?_) ?_ (by decide) (fun K hK => ?_) AllReadyL.nil
 rotate_left 1
 ·(simp only [gT, gS, gZ]; rfl)
 go_simp
 refine hK.out _ _ ⟨H9.out.bx.below (below_alloc (Below.refl _ _) _), pw_cell_below (below_alloc (Below.refl _ _) _) HP.out.1, pw_cell_below (below_alloc (Below.refl _ _) _) HP.out.2.1, pw_cell_below (below_alloc (Below.refl _ _) _) HP.out.2.2.1, pw_cell_below (below_alloc (Below.refl _ _) _) HP.out.2.2.2.1, pw_cell_below (below_alloc (Below.refl _ _) _) HP.out.2.2.2.2⟩ (fun hHeld2 => ?_)
 clear hK K hHeld
 have hHeld := hHeld2
 clear hHeld2
 (try simp only [aP, aN, sT, sZ, sS])
 refine wpAnyLast_ready (rs := [10]) (by kernel_rfl) (by simp) ?_
 refine AllReadyL.cons (o := ?_) ?_ (by decide) (fun K hK => ?_) AllReadyL.nil
 rotate_left 1
 ·(simp only [gT, gS, gZ]; rfl)
 refine Kd.R_append_step k25 (w0 := w2) (w.heap.size + 3) (by rfl) (.tmp 67) (.tmp 75) 23 25 (.agg #[(.int .i64 0), (.string ⟨#[]⟩), (.slice none 0 0), (.slice none 0 0)]) 72 rfl Tryz.underlying23 info25 rfl (by decide) (by decide) vk ts (⟨s1, s2, s3, s4⟩ : S25) [.int .i64 s1, .string s2, .slice D2 s3.length m2, .slice D3 s4.length m3] (fun k => some k ≠ vn.ownBlock) (fun k => W1.heap.size ≤ k ∧ k < w2.heap.size) rfl rfl HE.out (fun k hk => ⟨fun e => ?_, fun e => ?_⟩) (fun k hk e => ?_) H9.out.rk (Below.refl _ _) H9.out.sz HLM.out ?_
 ·have := ((Kd.R_bound H8.out.rn).1 k e.symm).2.2.1; omega
 ·have := ((Kd.R_bound H8.out.rk).1 k e.symm).2.2.1; omega
 ·have := ((Kd.R_bound H9.out.rn).1 k e.symm).2.2.1; omega
 intro v1 w3 ho hbl hg hat
 generalize ts ++ [(⟨s1, s2, s3, s4⟩ : S25)] = ts1 at ho HN
 obtain ⟨B1, m1, rfl⟩ := Kd.R_slice ho
 have HM := Aside0.mk (H9.out.kids ho hbl hg)
 have hba : (ad.add (x7.toNat * 5)).block < w.heap.size + 3 := by have := HAB.out; omega
 have HP := Aside0.mk (show w3.cell? (ad.add (x7.toNat * 5)) = some (.int .i64 cc.f0) ∧ w3.cell? ⟨(ad.add (x7.toNat * 5)).block, (ad.add (x7.toNat * 5)).off + 1, none⟩ = some (.int .i64 cc.f1) ∧ w3.cell? ⟨(ad.add (x7.toNat * 5)).block, (ad.add (x7.toNat * 5)).off + 2, none⟩ = some (.int .i64 cc.f2) ∧ w3.cell? ⟨(ad.add (x7.toNat * 5)).block, (ad.add (x7.toNat * 5)).off + 3, none⟩ = some (.slice B3 cc.f3.length g3) ∧ w3.cell? ⟨(ad.add (x7.toNat * 5)).block, (ad.add (x7.toNat * 5)).off + 4, none⟩ = some (.slice B4 cc.f4.length g4) from ⟨(hbl.cell (by exact hba)).trans HP.out.1, (hbl.cell (by exact hba)).trans HP.out.2.1, (hbl.cell (by exact hba)).trans HP.out.2.2.1, (hbl.cell (by exact hba)).trans HP.out.2.2.2.1, (hbl.cell (by exact hba)).trans HP.out.2.2.2.2⟩)
 clear ho hbl hg hat hba
 refine hK.out _ _ ⟨HM.out.bx, HP.out⟩ (fun hHeld2 => ?_)
 clear hK K hHeld
 have hHeld := hHeld2
 clear hHeld2
 (try simp only [aP, aN, sT, sZ, sS])
 refine tkL (i := 11) (by simp only [gT, gS, gZ]; rfl) (by kernel_rfl) (by exact fun _ _ _ h => h) (.inl ⟨by rfl, fun wz hSw => by obtain ⟨hb, q0, q1, q2, q3, q4⟩ := hSw; obtain ⟨d0, d1, d2, d3, d4, d5, d6, d7, d8, df⟩ := Bx.cells hb; go_simp <;> with_reducible rfl⟩) hHeld ?_
 (try simp only [aP, aN, sT, sZ, sS])
 refine wpAnyLast_ready (rs := [12]) (by kernel_rfl) (by simp) ?_
 refine AllReadyL.cons_last (o := ?_) ?_ (by decide) (fun K hK => ?_) AllReadyL.nil
 rotate_left 1
 ·(simp only [gT, gS, gZ]; rfl)
 obtain ⟨d0, d1, d2, d3, d4, d5, d6, d7, d8, df⟩ := HM.out.bx.cells
 go_simp
 refine hK.out _ _ ?_
 clear hK K hHeld
 refine wpAnyLast_done (by kernel_rfl) ?_ _
 have H10 := Aside0.mk HM.out.set3
 clear HM H9 H8 d0 d1 d2 d3 d4 d5 d6 d7 d8 df
 go_wp2_with fail
 go_roundg k3
 case measure => omega
 case rel => exact ⟨_, _, _, rfl, HN, by omega, H10⟩
end Go.Proofs.YtgiioglmkogpkaaGreatDoor.M
namespace Go.Proofs.YtgiioglmkogpkaaGreatDoor.V
open Go.RowKit Go.Proofs.YtgiioglmkogpkaaGreatDoorW.PrintWords Go.Proofs.YtgiioglmkogpkaaGreatDoorW.PrintLast Go.Proofs.YtgiioglmkogpkaaGreatDoorW.PrintMore
open M L
def TrOf (s : ByteArray) (q : S78) (t : S25) : Prop := Ev (fun k => spec_Tree.f k s q.f0 q.f1 q.f2 q.f3 q.f4) (t.f0, t.f1, t.f2, t.f3)
def TLs (s : ByteArray) : List S78 → List S25 → Prop
 | [], [] => True
 | c :: C, t :: ts => TrOf s c t ∧ TLs s C ts
 | _, _ => False
def NmOf (s : ByteArray) (n : S115) (r : ByteArray) : Prop := (0 ≤ n.f0 ∧ n.f0 ≤ n.f1 ∧ n.f1 ≤ s.size) ∧ Ev (fun k => spec_Unquote.f k (s.extract n.f0.toNat n.f1.toNat)) r
def NLs (s : ByteArray) : List S115 → List ByteArray → Prop
 | [], [] => True
 | n :: N, r :: R => NmOf s n r ∧ NLs s N R
 | _, _ => False
def TxOf (s : ByteArray) (q : S78) (T : ByteArray) : Prop := (q.f0 = 3 ∧ T = s.extract q.f1.toNat q.f2.toNat) ∨ (q.f0 = 4 ∧ Ev (fun k => spec_Unquote.f k (s.extract q.f1.toNat q.f2.toNat)) T) ∨ (q.f0 ≠ 3 ∧ q.f0 ≠ 4 ∧ T = ⟨#[]⟩)
theorem TLs.length {s : ByteArray} : ∀ {C : List S78} {ts : List S25}, TLs s C ts → ts.length = C.length
 | [], [], _ => rfl
 | [], _ :: _, h => h.elim
 | _ :: _, [], h => h.elim
 | c :: C, t :: ts, h => by simp [TLs.length h.2]
theorem NLs.length {s : ByteArray} : ∀ {N : List S115} {R : List ByteArray}, NLs s N R → R.length = N.length
 | [], [], _ => rfl
 | [], _ :: _, h => h.elim
 | _ :: _, [], h => h.elim
 | c :: C, t :: ts, h => by simp [NLs.length h.2]
theorem rd78_at (A : List S78) (c : S78) (B : List S78) : rd_T78 (A ++ c :: B) (A.length : Int) = c := by
 unfold rd_T78
 rw [Int.toNat_natCast, List.getD_eq_getElem?_getD, List.getElem?_append_right (Nat.le_refl _)]
 simp
theorem rd115_at (A : List S115) (c : S115) (B : List S115) : rd_T115 (A ++ c :: B) (A.length : Int) = c := by
 unfold rd_T115
 rw [Int.toNat_natCast, List.getD_eq_getElem?_getD, List.getElem?_append_right (Nat.le_refl _)]
 simp
theorem s25_eta (t : S25) : (⟨t.f0, t.f1, t.f2, t.f3⟩ : S25) = t := by cases t; rfl
theorem tr_l1 (s : ByteArray) (hz : s.size ≤ 65536) (C : List S78) (hC : C.length ≤ 65536) (a b c : Int) (N : List S115) (K : Int) (T : ByteArray) (ks : List ByteArray) :
  ∀ (B : List S78) (ts : List S25), TLs s B ts → ∀ (A : List S78) (acc : List S25), C = A ++ B → acc.length = A.length → Ev (fun k => spec_Tree.l1 k s (A.length : Int) a b c N C K T ks acc) (K, T, ks, acc ++ ts)
 | [], [], _, A, acc, hA, hl => by
  refine Ev.step (f := fun k => some (K, T, ks, acc)) (fun k => ?_) (Ev.congr (fun k => ?_) (Ev.now _))
  ·simp only [spec_Tree.l1]; rw [if_neg (by rw [hA]; simp)]
  ·rw [List.append_nil]
 | [], _ :: _, h, _, _, _, _ => h.elim
 | _ :: _, [], h, _, _, _, _ => h.elim
 | q :: B, t :: ts, h, A, acc, hA, hl => by
  have hAl : A.length < C.length := by rw [hA]; simp
  have ih := tr_l1 s hz C hC a b c N K T ks B ts h.2 (A ++ [q]) (acc ++ [t]) (by rw [hA]; simp) (by simp [hl])
  rw [List.append_assoc, List.singleton_append] at ih
  refine Ev.step (f := fun k => (spec_Tree.f k s q.f0 q.f1 q.f2 q.f3 q.f4).bind fun u => (if acc.length < 1954687338268 then (spec_Tree.l1 k s (wrap64 ((A.length : Int) + 1)) a b c N C K T ks (acc ++ [(⟨u.1, u.2.1, u.2.2.1, u.2.2.2⟩ : S25)])) else (none))) (fun k => ?_) (Ev.bind h.1 (Ev.congr (fun k => ?_) ih))
  ·simp only [spec_Tree.l1]; rw [if_pos (by omega), if_pos (by omega), hA, rd78_at]
  ·(try dsimp only); rw [if_pos (by omega), w64 (by omega) (by omega), List.length_append]; simp; rw [s25_eta]
theorem tr_l0 (s : ByteArray) (hz : s.size ≤ 65536) (C : List S78) (hC : C.length ≤ 65536) (ts : List S25) (hT : TLs s C ts) (a b c : Int) (N : List S115) (hN : N.length ≤ 65536) (K : Int) (T : ByteArray) :
  ∀ (B : List S115) (R : List ByteArray), NLs s B R → ∀ (A : List S115) (acc : List ByteArray), N = A ++ B → acc.length = A.length → Ev (fun k => spec_Tree.l0 k s (A.length : Int) a b c N C K T acc) (K, T, acc ++ R, ts)
 | [], [], _, A, acc, hA, hl => by
  have h1 := tr_l1 s hz C hC a b c N K T acc C ts hT [] [] rfl rfl
  rw [List.nil_append] at h1
  refine Ev.step (f := fun k => spec_Tree.l1 k s 0 a b c N C K T acc []) (fun k => ?_) (by rw [List.append_nil]; exact h1)
  simp only [spec_Tree.l0]; rw [if_neg (by rw [hA]; simp)]
 | [], _ :: _, h, _, _, _, _ => h.elim
 | _ :: _, [], h, _, _, _, _ => h.elim
 | n :: B, r :: R, h, A, acc, hA, hl => by
  have hAl : A.length < N.length := by rw [hA]; simp
  have ih := tr_l0 s hz C hC ts hT a b c N hN K T B R h.2 (A ++ [n]) (acc ++ [r]) (by rw [hA]; simp) (by simp [hl])
  rw [List.append_assoc, List.singleton_append] at ih
  obtain ⟨⟨p0, p1, p2⟩, hr⟩ := h.1
  refine Ev.step (f := fun k => (spec_Unquote.f k (s.extract n.f0.toNat n.f1.toNat)).bind fun t => (if acc.length < 8796093022208 then (spec_Tree.l0 k s (wrap64 ((A.length : Int) + 1)) a b c N C K T (acc ++ [t])) else (none))) (fun k => ?_) (Ev.bind hr (Ev.congr (fun k => ?_) ih))
  ·simp only [spec_Tree.l0]; rw [if_pos (by omega), if_pos (by omega), hA, rd115_at, if_pos p0, if_pos p1, if_pos p2]
  ·(try dsimp only); rw [if_pos (by omega), w64 (by omega) (by omega), List.length_append]; simp
theorem tr_val (s : ByteArray) (hz : s.size ≤ 65536) (q : S78) (h0 : 0 ≤ q.f1) (h1 : q.f1 ≤ q.f2) (h2 : q.f2 ≤ s.size) (hN : q.f3.length ≤ 65536) (hC : q.f4.length ≤ 65536) (T : ByteArray) (R : List ByteArray) (ts : List S25) (hX : TxOf s q T) (hR : NLs s q.f3 R) (hT : TLs s q.f4 ts) : TrOf s q ⟨q.f0, T, R, ts⟩ := by
 have hj : Ev (fun k => spec_Tree.j0 k s q.f0 q.f1 q.f2 q.f3 q.f4 q.f0 T) (q.f0, T, R, ts) := by
  have h := tr_l0 s hz q.f4 hC ts hT q.f0 q.f1 q.f2 q.f3 hN q.f0 T q.f3 R hR [] [] rfl rfl
  rw [List.nil_append] at h
  exact Ev.step (f := fun k => spec_Tree.l0 k s 0 q.f0 q.f1 q.f2 q.f3 q.f4 q.f0 T []) (fun k => by simp only [spec_Tree.j0]) h
 unfold TrOf
 rcases hX with ⟨c3, rfl⟩ | ⟨c4, hr⟩ | ⟨c3, c4, rfl⟩
 ·refine Ev.step (fun k => ?_) hj
  simp only [spec_Tree.f]; rw [if_pos c3, if_pos h0, if_pos h1, if_pos h2]
 ·refine Ev.step (f := fun k => (spec_Unquote.f k (s.extract q.f1.toNat q.f2.toNat)).bind fun t => spec_Tree.j0 k s q.f0 q.f1 q.f2 q.f3 q.f4 q.f0 t) (fun k => ?_) (Ev.bind hr hj)
  simp only [spec_Tree.f]; rw [if_neg (by omega), if_pos c4, if_pos h0, if_pos h1, if_pos h2]
 ·refine Ev.step (fun k => ?_) hj
  simp only [spec_Tree.f]; rw [if_neg c3, if_neg c4]
theorem TxOf.sh {s s' : ByteArray} {d : Int} {q : S78} {T : ByteArray} (h : TxOf s q T) (h1 : q.f1 ≤ q.f2) (g : Ag s s' d q.f1 q.f2) : TxOf s' (shP d q) T := by
 unfold TxOf
 rw [shP_f0, shP_f1, shP_f2, g.ext h1]
 exact h
inductive SB : S25 → Prop
 | mk (t : S25) : t.f2.length ≤ 65536 → t.f3.length ≤ 65536 → (∀ c ∈ t.f3, SB c) → SB t
def It.tr (s : ByteArray) : It → Prop
 | .val q => ∃ T R ts, NLs s q.f3 R ∧ TLs s q.f4 ts ∧ TrOf s q ⟨q.f0, T, R, ts⟩ ∧ TxOf s q T ∧ SB ⟨q.f0, T, R, ts⟩ ∧ ∀ (s' : ByteArray) (d : Int), s'.size ≤ 65536 → Ag s s' d q.f1 q.f2 → TrOf s' (shP d q) ⟨q.f0, T, R, ts⟩
 | .els p C e => ∃ ts, TLs s C ts ∧ (∀ t ∈ ts, SB t) ∧ ∀ (s' : ByteArray) (d : Int), s'.size ≤ 65536 → Ag s s' d p e → TLs s' (shL d C) ts
 | .mems p N C e => ∃ R ts, NLs s N R ∧ TLs s C ts ∧ (∀ t ∈ ts, SB t) ∧ ∀ (s' : ByteArray) (d : Int), s'.size ≤ 65536 → Ag s s' d p e → NLs s' (shN d N) R ∧ TLs s' (shL d C) ts
theorem tr_leaf (s : ByteArray) (hz : s.size ≤ 65536) (K p e : Int) (h0 : 0 ≤ p) (h1 : p ≤ e) (h2 : e ≤ s.size) (T : ByteArray) (hX : TxOf s ⟨K, p, e, [], []⟩ T) : It.tr s (.val ⟨K, p, e, [], []⟩) := by
 refine ⟨T, [], [], trivial, trivial, tr_val s hz ⟨K, p, e, [], []⟩ h0 h1 h2 (by simp) (by simp) T [] [] hX trivial trivial, hX, .mk _ (by simp) (by simp) (by simp), fun s' d hz' g => ?_⟩
 have k := tr_val s' hz' (shP d ⟨K, p, e, [], []⟩) (by rw [shP_f1]; exact g.2.1) (by rw [shP_f1, shP_f2]; dsimp only; omega) (by rw [shP_f2]; exact g.2.2.2.1) (by rw [shP_f3]; simp) (by rw [shP_f4]; simp [shL]) T [] [] (hX.sh h1 g) (by rw [shP_f3]; exact trivial) (by rw [shP_f4]; simp [shL, TLs])
 rwa [shP_f0] at k
theorem shL_length (d : Int) : ∀ C : List S78, (shL d C).length = C.length
 | [] => by simp [shL]
 | c :: C => by simp [shL, shL_length d C]
theorem nm_of (s : ByteArray) (hz : s.size ≤ 65536) (n : S115) (h : Str s n.f0 n.f1) : ∃ r, NmOf s n r ∧ ∀ (s' : ByteArray) (d : Int), s'.size ≤ 65536 → Ag s s' d n.f0 n.f1 → NmOf s' ⟨n.f0 + d, n.f1 + d⟩ r := by
 obtain ⟨r, hr, _⟩ := unqf_ev s hz _ _ h
 obtain ⟨p0, p1, j, p2, p3, p4, _⟩ := h
 refine ⟨r, ⟨⟨p0, by omega, p4⟩, hr⟩, fun s' d hz' g => ⟨⟨g.2.1, by dsimp only; omega, g.2.2.2.1⟩, ?_⟩⟩
 dsimp only
 rw [g.ext (by omega)]
 exact hr
theorem G.tr {s : ByteArray} (hz : s.size ≤ 65536) {it : It} (h : G s it) : it.tr s := by
 induction h with
 | num p e h0 h =>
  obtain ⟨k0, k1, k2, _⟩ := (G.num p e h0 h).ok
  exact tr_leaf s hz 3 p e h0 (by dsimp only at k1; omega) k2 _ (.inl ⟨rfl, rfl⟩)
 | str p e h =>
  obtain ⟨k0, k1, k2, _⟩ := (G.str p e h).ok
  obtain ⟨r, hr, _⟩ := unqf_ev s hz _ _ h
  exact tr_leaf s hz 4 p e k0 (by dsimp only at k1; omega) k2 r (.inr (.inl ⟨rfl, hr⟩))
 | null p e h0 h =>
  obtain ⟨k0, k1, k2, _⟩ := (G.null p e h0 h).ok
  exact tr_leaf s hz 0 p e h0 (by dsimp only at k1; omega) k2 _ (.inr (.inr ⟨by dsimp only; decide, by dsimp only; decide, rfl⟩))
 | fals p e h0 h =>
  obtain ⟨k0, k1, k2, _⟩ := (G.fals p e h0 h).ok
  exact tr_leaf s hz 1 p e h0 (by dsimp only at k1; omega) k2 _ (.inr (.inr ⟨by dsimp only; decide, by dsimp only; decide, rfl⟩))
 | tru p e h0 h =>
  obtain ⟨k0, k1, k2, _⟩ := (G.tru p e h0 h).ok
  exact tr_leaf s hz 2 p e h0 (by dsimp only at k1; omega) k2 _ (.inr (.inr ⟨by dsimp only; decide, by dsimp only; decide, rfl⟩))
 | arr0 p b h0 h1 h2 h3 h4 =>
  obtain ⟨k0, k1, k2, _⟩ := (G.arr0 p b h0 h1 h2 h3 h4).ok
  exact tr_leaf s hz 5 p _ h0 (by dsimp only at k1; omega) k2 _ (.inr (.inr ⟨by dsimp only; decide, by dsimp only; decide, rfl⟩))
 | obj0 p b h0 h1 h2 h3 h4 =>
  obtain ⟨k0, k1, k2, _⟩ := (G.obj0 p b h0 h1 h2 h3 h4).ok
  exact tr_leaf s hz 6 p _ h0 (by dsimp only at k1; omega) k2 _ (.inr (.inr ⟨by dsimp only; decide, by dsimp only; decide, rfl⟩))
 | arr p b e C h0 h1 h2 h3 ih =>
  obtain ⟨k0, k1, k2, k3, k4⟩ := (G.arr p b e C h0 h1 h2 h3).ok
  dsimp only at k0 k1 k2 k3 k4
  have q := h2.1
  obtain ⟨ts, hT, hB, hS⟩ := ih
  have hX : TxOf s ⟨5, p, e, [], C⟩ ⟨#[]⟩ := .inr (.inr ⟨by dsimp only; decide, by dsimp only; decide, rfl⟩)
  refine ⟨⟨#[]⟩, [], ts, trivial, hT, tr_val s hz ⟨5, p, e, [], C⟩ h0 (by dsimp only; omega) k2 (by simp) (by dsimp only; omega) _ [] ts hX trivial hT, hX, .mk _ (by simp) (by rw [hT.length]; omega) hB, fun s' d hz' g => ?_⟩
  have k := tr_val s' hz' (shP d ⟨5, p, e, [], C⟩) (by rw [shP_f1]; exact g.2.1) (by rw [shP_f1, shP_f2]; dsimp only; omega) (by rw [shP_f2]; exact g.2.2.2.1) (by rw [shP_f3]; simp) (by rw [shP_f4, shL_length]; dsimp only; omega) _ [] ts (hX.sh (by dsimp only; omega) g) (by rw [shP_f3]; exact trivial) (by rw [shP_f4]; exact hS s' d hz' (g.sub (by dsimp only; omega) (by dsimp only; omega)))
  rwa [shP_f0] at k
 | obj p b e N C h0 h1 h2 h3 ih =>
  obtain ⟨k0, k1, k2, k3, k4⟩ := (G.obj p b e N C h0 h1 h2 h3).ok
  dsimp only at k0 k1 k2 k3 k4
  have q := h2.1
  obtain ⟨R, ts, hR, hT, hB, hS⟩ := ih
  have hX : TxOf s ⟨6, p, e, N, C⟩ ⟨#[]⟩ := .inr (.inr ⟨by dsimp only; decide, by dsimp only; decide, rfl⟩)
  refine ⟨⟨#[]⟩, R, ts, hR, hT, tr_val s hz ⟨6, p, e, N, C⟩ h0 (by dsimp only; omega) k2 (by dsimp only; omega) (by dsimp only; omega) _ R ts hX hR hT, hX, .mk _ (by rw [hR.length]; omega) (by rw [hT.length]; omega) hB, fun s' d hz' g => ?_⟩
  obtain ⟨g1, g2⟩ := hS s' d hz' (g.sub (by dsimp only; omega) (by dsimp only; omega))
  have k := tr_val s' hz' (shP d ⟨6, p, e, N, C⟩) (by rw [shP_f1]; exact g.2.1) (by rw [shP_f1, shP_f2]; dsimp only; omega) (by rw [shP_f2]; exact g.2.2.2.1) (by rw [shP_f3, List.length_map]; dsimp only; omega) (by rw [shP_f4, shL_length]; dsimp only; omega) _ R ts (hX.sh (by dsimp only; omega) g) (by rw [shP_f3]; exact g1) (by rw [shP_f4]; exact g2)
  rwa [shP_f0] at k
 | els1 c b h0 h1 h2 h3 ih =>
  have q := h1.1
  obtain ⟨T, R, ts, _, _, ht, _, hB, hS⟩ := ih
  refine ⟨[_], ⟨ht, trivial⟩, fun t h => by rw [List.mem_singleton.mp h]; exact hB, fun s' d hz' g => ?_⟩
  simp only [shL]
  exact ⟨hS s' d hz' (g.sub (by omega) (by omega)), trivial⟩
 | elsn c b p e C h0 h1 h2 h3 h4 h5 ih ih2 =>
  have q := h1.1
  have q2 := h4.1
  obtain ⟨i0, i1, i2, i3⟩ := h0.ok
  obtain ⟨j0, j1, j2, j3⟩ := h5.ok
  obtain ⟨T, R, ts, _, _, ht, _, hB, hS⟩ := ih
  obtain ⟨us, hu, hB2, hS2⟩ := ih2
  refine ⟨_ :: us, ⟨ht, hu⟩, (List.forall_mem_cons.2 ⟨hB, hB2⟩), fun s' d hz' g => ?_⟩
  simp only [shL]
  exact ⟨hS s' d hz' (g.sub (by omega) (by omega)), hS2 s' d hz' (g.sub (by omega) (by omega))⟩
 | mem1 n c b x h0 h1 h2 h3 h4 h5 h6 h7 ih =>
  have q := h1.1
  have q2 := h3.1
  have q3 := h5.1
  obtain ⟨i0, i1, i2, i3⟩ := h4.ok
  obtain ⟨r, hr, hrS⟩ := nm_of s hz n h0
  obtain ⟨p0, p1, j, p2, p3, p4, _⟩ := h0
  obtain ⟨T, R, ts, _, _, ht, _, hB, hS⟩ := ih
  refine ⟨[r], [_], ⟨hr, trivial⟩, ⟨ht, trivial⟩, fun t h => by rw [List.mem_singleton.mp h]; exact hB, fun s' d hz' g => ?_⟩
  simp only [shL, shN, List.map_cons, List.map_nil]
  exact ⟨⟨hrS s' d hz' (g.sub (by omega) (by omega)), trivial⟩, hS s' d hz' (g.sub (by omega) (by omega)), trivial⟩
 | memn n c b x p e N C h0 h1 h2 h3 h4 h5 h6 h7 h8 h9 ih ih2 =>
  have q := h1.1
  have q2 := h3.1
  have q3 := h5.1
  have q4 := h8.1
  obtain ⟨i0, i1, i2, i3⟩ := h4.ok
  obtain ⟨j0, j1, j2, j3, j4⟩ := h9.ok
  obtain ⟨r, hr, hrS⟩ := nm_of s hz n h0
  obtain ⟨p0, p1, j, p2, p3, p4, _⟩ := h0
  obtain ⟨T, R, ts, _, _, ht, _, hB, hS⟩ := ih
  obtain ⟨us, vs, hu, hv, hB2, hS2⟩ := ih2
  refine ⟨r :: us, _ :: vs, ⟨hr, hu⟩, ⟨ht, hv⟩, (List.forall_mem_cons.2 ⟨hB, hB2⟩), fun s' d hz' g => ?_⟩
  simp only [shL, shN, List.map_cons]
  obtain ⟨g1, g2⟩ := hS2 s' d hz' (g.sub (by omega) (by omega))
  exact ⟨⟨hrS s' d hz' (g.sub (by omega) (by omega)), g1⟩, hS s' d hz' (g.sub (by omega) (by omega)), g2⟩
end Go.Proofs.YtgiioglmkogpkaaGreatDoor.V
namespace Go.Proofs.YtgiioglmkogpkaaGreatDoor.M
open Go.RowKit Go.Proofs.YtgiioglmkogpkaaGreatDoorW.PrintWords Go.Proofs.YtgiioglmkogpkaaGreatDoorW.PrintLast Go.Proofs.YtgiioglmkogpkaaGreatDoorW.PrintMore
set_option maxHeartbeats 8000000
set_option maxRecDepth 100000
attribute [local go_sem] max2_int min2_int max_two min_two max_three min_three max_four min_four
def laws_zzFits1.l0 : Nat → List ByteArray → Int → Int → Option (Bool)
 | 0, _, _, _ => none
 | k + 1, x8, x9, x10 => if x10 < x9 then (if 0 ≤ x10 then (if x10 < (x8.length : Int) then (if ((rdOf ByteArray.empty x8 x10).size : Int) > 2147483647 then (some false) else (laws_zzFits1.l0 k x8 x9 (wrap64 (x10 + 1)))) else (none)) else (none)) else (some true)
def laws_zzFits1.f (k : Nat) (l0 : List ByteArray) : Option (Bool) := if (l0.length : Int) > 2147483647 then (some false) else (laws_zzFits1.l0 k l0 (l0.length : Int) 0)
theorem laws_zzFits1.calls (k : Nat) (A0 : Option Addr) (c0 : Nat) (l0 : List ByteArray) (r : Bool) (w : World) (hr0 : Kd.C Kd.string w A0 l0.length l0) (hc0 : l0.length ≤ c0) (h : laws_zzFits1.f k l0 = some r) :
  Calls Tryz.prog 11 #[.slice A0 l0.length c0] w fun e w' => e = .returned (.bool r) ∧ Drawn0 w w' := by
 have HR0 := Aside0.mk hr0
 have HC0 := Aside0.mk hc0
 clear hr0 hc0
 have H : (if (l0.length : Int) > 2147483647 then (some false) else (laws_zzFits1.l0 k l0 (l0.length : Int) 0)) = some r := h
 clear h
 by_cases c2 : (l0.length : Int) > 2147483647
 ·rw [if_pos c2] at H
  have c2b0 : decide (2147483647 < (l0.length : Int)) = true := decide_eq_true c2
  have c2b1 : decide (2147483647 < l0.length) = true := decide_eq_true (by omega)
  clear c2
  obtain rfl := Option.some.inj H
  go_enter Tryz.func11, Tryz.ntmps11
  go_wp2
  go_ret
  exact ⟨by first | rfl | (simp; done) | (simp [*]; done), by repeat (first | exact Drawn0.refl _ | apply Drawn0.step)⟩
 ·rw [if_neg c2] at H
  have c2b0 : decide (2147483647 < (l0.length : Int)) = false := decide_eq_false c2
  have c2b1 : decide (2147483647 < l0.length) = false := decide_eq_false (by omega)
  clear c2
  have H' := Aside0.mk H
  clear H
  go_enter Tryz.func11, Tryz.ntmps11
  go_wp2
  go_loopg [10] k (fun kq v10 w' => ∃ (x10_1 : Int), v10 = .int .i64 x10_1 ∧ Aside0 (laws_zzFits1.l0 kq l0 (l0.length : Int) x10_1 = some r) ∧ Aside0 (kq ≤ k) ∧ Drawn0 w w')
  case atStart => exact ⟨(0), (by first | rfl | (simp; done) | (simp [*]; done)), H', ⟨Nat.le_refl _⟩, by repeat (first | exact Drawn0.refl _ | apply Drawn0.step)⟩
  case round =>
   clear H'
   try clear c1
   try clear c2
   try clear c2b0
   try clear c2b1
   try clear p2
   obtain ⟨x10_1, rfl, HA, HK1, ⟨m1, rfl⟩⟩ := hrel
   cases gk with
   | zero => exact absurd HA.out (by simp [laws_zzFits1.l0])
   | succ k1 =>
    have H := HA.out
    clear HA
    simp only [laws_zzFits1.l0] at H
    by_cases c3 : x10_1 < (l0.length : Int)
    ·rw [if_pos c3] at H
     have c3b0 : decide (x10_1 < (l0.length : Int)) = true := decide_eq_true c3
     clear c3
     by_cases c4 : 0 ≤ x10_1
     ·rw [if_pos c4] at H
      have c4b0 : decide (0 ≤ x10_1) = true := decide_eq_true c4
      clear c4
      by_cases c5 : x10_1 < (l0.length : Int)
      ·rw [if_pos c5] at H
       have c5b0 : decide (x10_1 < (l0.length : Int)) = true := decide_eq_true c5
       clear c5
       by_cases c6 : ((rdOf ByteArray.empty l0 x10_1).size : Int) > 2147483647
       ·rw [if_pos c6] at H
        have c6b0 : decide (2147483647 < ((rdOf ByteArray.empty l0 x10_1).size : Int)) = true := decide_eq_true c6
        have c6b1 : decide (2147483647 < (rdOf ByteArray.empty l0 x10_1).size) = true := decide_eq_true (by omega)
        clear c6
        obtain rfl := Option.some.inj H
        have p101 : 0 ≤ (x10_1 : Int) := of_decide_eq_true (by first | (with_reducible assumption) | assumption)
        have q101 : x10_1 < (l0.length : Int) := of_decide_eq_true (by first | (with_reducible assumption) | assumption)
        obtain ⟨ad101, e101, hx101_0⟩ := Kd.at_string HR0.out x10_1 p101 q101
        cases e101
        replace p101 := eq_true p101
        replace q101 := eq_true q101
        go_wp2
        go_ret
        exact ⟨by first | rfl | (simp; done) | (simp [*]; done), by repeat (first | exact Drawn0.refl _ | apply Drawn0.step)⟩
       ·rw [if_neg c6] at H
        have c6b0 : decide (2147483647 < ((rdOf ByteArray.empty l0 x10_1).size : Int)) = false := decide_eq_false c6
        have c6b1 : decide (2147483647 < (rdOf ByteArray.empty l0 x10_1).size) = false := decide_eq_false (by omega)
        clear c6
        have H' := Aside0.mk H
        clear H
        have p101 : 0 ≤ (x10_1 : Int) := of_decide_eq_true (by first | (with_reducible assumption) | assumption)
        have q101 : x10_1 < (l0.length : Int) := of_decide_eq_true (by first | (with_reducible assumption) | assumption)
        obtain ⟨ad101, e101, hx101_0⟩ := Kd.at_string HR0.out x10_1 p101 q101
        cases e101
        replace p101 := eq_true p101
        replace q101 := eq_true q101
        go_wp2
        go_roundg k1
        case measure => have := HK1.out; omega
        case rel => exact ⟨(wrap64 (x10_1 + 1)), (by first | rfl | (simp; done) | (simp [*]; done)), H', ⟨by have := HK1.out; omega⟩, by repeat (first | exact Drawn0.refl _ | apply Drawn0.step)⟩
      ·rw [if_neg c5] at H
       exact absurd H (by simp)
     ·rw [if_neg c4] at H
      exact absurd H (by simp)
    ·rw [if_neg c3] at H
     have c3b0 : decide (x10_1 < (l0.length : Int)) = false := decide_eq_false c3
     clear c3
     obtain rfl := Option.some.inj H
     go_wp2
     go_ret
     exact ⟨by first | rfl | (simp; done) | (simp [*]; done), by repeat (first | exact Drawn0.refl _ | apply Drawn0.step)⟩
end Go.Proofs.YtgiioglmkogpkaaGreatDoor.M

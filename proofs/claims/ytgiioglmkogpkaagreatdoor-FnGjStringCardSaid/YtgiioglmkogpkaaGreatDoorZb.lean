/- Texts behind the law FnGjString: part 2. -/
import Derived.Test.YtgiioglmkogpkaaGreatDoorZa
import Derived.WalkMore
import Derived.Deep.LoopGhost
import Derived.Deep.RegionHeld3
set_option linter.unusedVariables false
set_option linter.unusedSimpArgs false
namespace Go.Proofs.YtgiioglmkogpkaaGreatDoor.F
open Go.RowKit Go.Proofs.YtgiioglmkogpkaaGreatDoorW.PrintWords Go.Proofs.YtgiioglmkogpkaaGreatDoorW.PrintLast Go.Proofs.YtgiioglmkogpkaaGreatDoorW.PrintMore
open M
set_option maxHeartbeats 8000000
set_option maxRecDepth 8192
def jumpQ (P : Program) (c : Code) (Q : Exit → Act → World → Prop) : Nat → Exit → Act → World → Prop
 | 0, e, a, w => Exit.noGoto Q e a w
 | n + 1, .goto l, a, w => ∃ rest, findLabel c l = some rest ∧ rest.wp P (jumpQ P c Q n) a w
 | _ + 1, e, a, w => Q e a w
section
variable {P : Program} {a : Act} {w : World} {Q : Exit → Act → World → Prop}
theorem wp_scope_fwd {c : Code} (n : Nat) (first : c.wp P (jumpQ P c Q n) a w) : (Code.scope c).wp P Q a w := by
 intro b k cs
 have key : ∀ n (x : Code) a w, x.wp P (jumpQ P c Q n) a w → ∃ e a' w', Q e a' w' ∧ Arrives P (lone (b.at a (.code x :: .inScope c :: k)) cs w) b k cs e a' w' := by
  intro n
  induction n with
  | zero =>
   intro x a w hx
   obtain ⟨e, a₁, w₁, hq, harr⟩ := hx b (.inScope c :: k) cs
   cases e with
   | normal => exact ⟨.normal, a₁, w₁, hq, Steps.trans harr (.one step_inScope)⟩
   | exit id => exact ⟨.exit id, a₁, w₁, hq, fun k' hk => harr k' (by simp [exitTo, hk])⟩
   | goto l' => exact hq.elim
   | ret => exact ⟨_, a₁, w₁, hq, harr⟩
   | panic ch => exact ⟨_, a₁, w₁, hq, harr⟩
   | outgrown => exact ⟨_, a₁, w₁, hq, harr⟩
  | succ n ih =>
   intro x a w hx
   obtain ⟨e, a₁, w₁, hq, harr⟩ := hx b (.inScope c :: k) cs
   cases e with
   | normal => exact ⟨.normal, a₁, w₁, hq, Steps.trans harr (.one step_inScope)⟩
   | exit id => exact ⟨.exit id, a₁, w₁, hq, fun k' hk => harr k' (by simp [exitTo, hk])⟩
   | goto l' =>
    obtain ⟨rest, hf, hr⟩ := hq
    have hg : gotoIn l' (.inScope c :: k) = some (.code rest :: .inScope c :: k) := by simp [gotoIn, hf]
    obtain ⟨e₂, a₂, w₂, hq₂, harr₂⟩ := ih rest a₁ w₁ hr
    exact ⟨e₂, a₂, w₂, hq₂, .of_steps (harr _ hg) harr₂⟩
   | ret => exact ⟨_, a₁, w₁, hq, harr⟩
   | panic ch => exact ⟨_, a₁, w₁, hq, harr⟩
   | outgrown => exact ⟨_, a₁, w₁, hq, harr⟩
 obtain ⟨e, a', w', hq, harr⟩ := key n c a w first
 exact ⟨e, a', w', hq, .of_steps (.one step_scope) harr⟩
end
def unsc : Code → Code
 | .scope c => c
 | c => c
noncomputable def fbBody : Code := match Tryz.f223.body with
 | some c => unsc (tlr c)
 | none => .skip
noncomputable def fbOut : Code := (findLabel fbBody 0).getD .skip
noncomputable def fbOver : Code := (findLabel fbBody 1).getD .skip
def FBPost (w0 : World) (e : Ending) (w' : World) : Prop := ∃ (x : Int) (b : Bool), e = .returned (.tuple #[.int .u64 x, .bool b]) ∧ Below w0.heap.size w0 w'
structure FI (w : World) : Prop where
 a : w.cell? ⟨6, 0, none⟩ = some (.int .u64 52)
 b : w.cell? ⟨6, 1, none⟩ = some (.int .u64 11)
 c : w.cell? ⟨6, 2, none⟩ = some (.int .i64 (-1023))
theorem fbOut_wp (w0 w : World) (g : Nat) (d : Nat → Int) (nd : Nat) (dp : Int) (ng tr : Bool) (ov : Bool) (ex mt : Int) (Q : Exit → Act → World → Prop) (hq : ∀ a w, bodyPost Tryz.prog Tryz.f223 (FBPost w0) .ret a w → Q .ret a w) (u2 u3 u4 u8 u9 u10 u11 u12 u13 u14 u15 u16 u17 u18 u19 u20 u21 u22 u23 u24 u25 u26 u27 u28 u29 u30 u31 u32 u33 u34 u35 u36 u37 u38 u39 u40 u41 u42 u43 u44 u45 u46 u47 u48 u49 u50 u51 u52 u53 u54 u55 u56 u57 u58 u59 u60 u61 u62 u63 u64 u65 u66 u67 u68 u69 u70 u71 u72 u73 u74 u75 u76 u77 u78 u79 u80 u81 u82 u83 u84 u85 u86 u87 u88 u89 u90 u91 u92 u93 u94 u95 u96 u97 u98 u99 u100 u101 u102 u103 u104 u105 u106 u107 u108 u109 u110 u111 u112 u113 u114 u115 u116 u117 u118 u119 u120 u121 u122 u123 u124 u125 u126 u127 u128 u129 u130 u131 u132 u133 u134 u135 u136 u137 u138 u139 u140 u141 u142 u143 u144 u145 u146 u147 u148 u149 u150 u151 u152 u153 u154 u155 u156 u157 u158 u159 u160 u161 u162 u163 u164 u165 u166 u167 u168 u169 u170 u171 u172 u173 u174 u175 u176 u177 u178 u179 u180 u181 u182 u183 u184 u185 u186 u187 u188 u189 u190 u191 u192 u193 u194 u195 : Value) (H : Dec w0 w g d nd dp ng tr) (hF : FI w0) :
  fbOut.wp Tryz.prog Q ⟨List.toArray [.pointer (some ⟨g, 0, none⟩), .pointer (some ⟨6, 0, none⟩), u2, u3, u4, .bool ov, .int .i64 ex, .int .u64 mt, u8, u9, u10, u11, u12, u13, u14, u15, u16, u17, u18, u19, u20, u21, u22, u23, u24, u25, u26, u27, u28, u29, u30, u31, u32, u33, u34, u35, u36, u37, u38, u39, u40, u41, u42, u43, u44, u45, u46, u47, u48, u49, u50, u51, u52, u53, u54, u55, u56, u57, u58, u59, u60, u61, u62, u63, u64, u65, u66, u67, u68, u69, u70, u71, u72, u73, u74, u75, u76, u77, u78, u79, u80, u81, u82, u83, u84, u85, u86, u87, u88, u89, u90, u91, u92, u93, u94, u95, u96, u97, u98, u99, u100, u101, u102, u103, u104, u105, u106, u107, u108, u109, u110, u111, u112, u113, u114, u115, u116, u117, u118, u119, u120, u121, u122, u123, u124, u125, u126, u127, u128, u129, u130, u131, u132, u133, u134, u135, u136, u137, u138, u139, u140, u141, u142, u143, u144, u145, u146, u147, u148, u149, u150, u151, u152, u153, u154, u155, u156, u157, u158, u159, u160, u161, u162, u163, u164, u165, u166, u167, u168, u169, u170, u171, u172, u173, u174, u175, u176, u177, u178, u179, u180, u181, u182, u183, u184, u185, u186, u187, u188, u189, u190, u191, u192, u193, u194, u195, undef, undef, undef, undef, undef, undef, undef, undef, undef, undef, undef, undef, undef, undef, undef, undef, undef, undef, undef, undef, undef, undef, undef, undef, undef, undef, undef, undef, undef, undef, undef, undef, undef, undef, undef, undef, undef, undef, undef, undef, undef, undef, undef, undef, undef, undef, undef], []⟩ w := by
 have c2 := H.cng
 have b1 := pw_cell_below H.be hF.a
 have b2 := pw_cell_below H.be hF.b
 have b3 := pw_cell_below H.be hF.c
 have HD := Aside0.mk H
 clear H hF
 have hQ := Aside0.mk hq
 clear hq
 simp only [fbOut, fbBody, Tryz.f223, tlr, unsc, findLabel, Nat.reduceBEq, Bool.false_eq_true, ↓reduceIte, Option.getD_some, beq_self_eq_true]
 go_wp2_with fail
 repeat (go_quiet (fail); try (go_wp2_with fail))
 all_goals refine hQ.out _ _ ?_
 all_goals go_ret2
 all_goals exact ⟨_, _, rfl, by repeat (first | exact HD.out.be | apply pw_below_drewN)⟩
theorem fbOver_wp (w0 w : World) (g : Nat) (d : Nat → Int) (nd : Nat) (dp : Int) (ng tr : Bool) (Q : Exit → Act → World → Prop) (hq : ∀ a w, bodyPost Tryz.prog Tryz.f223 (FBPost w0) .ret a w → Q .ret a w) (u2 u3 u4 u5 u6 u7 u8 u9 u10 u11 u12 u13 u14 u15 u16 u17 u18 u19 u20 u21 u22 u23 u24 u25 u26 u27 u28 u29 u30 u31 u32 u33 u34 u35 u36 u37 u38 u39 u40 u41 u42 u43 u44 u45 u46 u47 u48 u49 u50 u51 u52 u53 u54 u55 u56 u57 u58 u59 u60 u61 u62 u63 u64 u65 u66 u67 u68 u69 u70 u71 u72 u73 u74 u75 u76 u77 u78 u79 u80 u81 u82 u83 u84 u85 u86 u87 u88 u89 u90 u91 u92 u93 u94 u95 u96 u97 u98 u99 u100 u101 u102 u103 u104 u105 u106 u107 u108 u109 u110 u111 u112 u113 u114 u115 u116 u117 u118 u119 u120 u121 u122 u123 u124 u125 u126 u127 u128 u129 u130 u131 u132 u133 u134 u135 u136 u137 u138 u139 u140 u141 u142 u143 u144 u145 u146 u147 u148 u149 u150 u151 u152 u153 u154 u155 u156 u157 u158 u159 u160 u161 u162 u163 u164 u165 u166 u167 u168 u169 u170 u171 u172 u173 u174 u175 u176 u177 u178 u179 u180 u181 u182 u183 u184 : Value) (H : Dec w0 w g d nd dp ng tr) (hF : FI w0) :
  fbOver.wp Tryz.prog Q ⟨List.toArray [.pointer (some ⟨g, 0, none⟩), .pointer (some ⟨6, 0, none⟩), u2, u3, u4, u5, u6, u7, u8, u9, u10, u11, u12, u13, u14, u15, u16, u17, u18, u19, u20, u21, u22, u23, u24, u25, u26, u27, u28, u29, u30, u31, u32, u33, u34, u35, u36, u37, u38, u39, u40, u41, u42, u43, u44, u45, u46, u47, u48, u49, u50, u51, u52, u53, u54, u55, u56, u57, u58, u59, u60, u61, u62, u63, u64, u65, u66, u67, u68, u69, u70, u71, u72, u73, u74, u75, u76, u77, u78, u79, u80, u81, u82, u83, u84, u85, u86, u87, u88, u89, u90, u91, u92, u93, u94, u95, u96, u97, u98, u99, u100, u101, u102, u103, u104, u105, u106, u107, u108, u109, u110, u111, u112, u113, u114, u115, u116, u117, u118, u119, u120, u121, u122, u123, u124, u125, u126, u127, u128, u129, u130, u131, u132, u133, u134, u135, u136, u137, u138, u139, u140, u141, u142, u143, u144, u145, u146, u147, u148, u149, u150, u151, u152, u153, u154, u155, u156, u157, u158, u159, u160, u161, u162, u163, u164, u165, u166, u167, u168, u169, u170, u171, u172, u173, u174, u175, u176, u177, u178, u179, u180, u181, u182, u183, u184, undef, undef, undef, undef, undef, undef, undef, undef, undef, undef, undef, undef, undef, undef, undef, undef, undef, undef, undef, undef, undef, undef, undef, undef, undef, undef, undef, undef, undef, undef, undef, undef, undef, undef, undef, undef, undef, undef, undef, undef, undef, undef, undef, undef, undef, undef, undef, undef, undef, undef, undef, undef, undef, undef, undef, undef, undef, undef], []⟩ w := by
 have c2 := H.cng
 have b1 := pw_cell_below H.be hF.a
 have b2 := pw_cell_below H.be hF.b
 have b3 := pw_cell_below H.be hF.c
 have HD := Aside0.mk H
 clear H hF
 have hQ := Aside0.mk hq
 clear hq
 simp only [fbOver, fbBody, Tryz.f223, tlr, unsc, findLabel, Nat.reduceBEq, Bool.false_eq_true, ↓reduceIte, Option.getD_some, beq_self_eq_true]
 go_wp2_with fail
 repeat (go_quiet (fail); try (go_wp2_with fail))
 all_goals go_step3
 all_goals go_wp2_with fail
 all_goals (repeat (go_quiet (fail); try (go_wp2_with fail)))
 all_goals refine hQ.out _ _ ?_
 all_goals go_ret2
 all_goals exact ⟨_, _, rfl, by repeat (first | exact HD.out.be | apply pw_below_drewN)⟩
def powtabL : List Int := [1, 3, 6, 9, 13, 16, 19, 23, 26]
def PowTab (w : World) : Prop := ∃ (a : Addr) (c : Nat), w.cell? ⟨10, 0, none⟩ = some (.slice (some a) 9 c) ∧ (∀ i, i < 9 → w.cell? (a.add i) = some (.int .i64 (powtabL.getD i 0))) ∧ w.cell? a = some (.int .i64 1)
theorem powtab_k0 (i : Nat) (h : i < 9) : ∃ k : Nat, powtabL.getD i 0 = (k : Int) ∧ 1 ≤ k ∧ k ≤ 26 := by
 have : ∀ i : Nat, i < 9 → ∃ k : Nat, k < 27 ∧ powtabL.getD i 0 = (k : Int) ∧ 1 ≤ k ∧ k ≤ 26 := by decide
 obtain ⟨k, _, h1, h2⟩ := this i h
 exact ⟨k, h1, h2⟩
theorem powtab_k (i : Nat) (h0 : 1 ≤ i) (h : i < 9) : ∃ k : Nat, powtabL.getD i 0 = (k : Int) ∧ 1 ≤ k ∧ k ≤ 26 := by
 have : ∀ i : Nat, i < 9 → ∃ k : Nat, k < 27 ∧ powtabL.getD i 0 = (k : Int) ∧ 1 ≤ k ∧ k ≤ 26 := by decide
 obtain ⟨k, _, h1, h2⟩ := this i h
 exact ⟨k, h1, h2⟩
theorem fbMain_wp (w0 w : World) (g : Nat) (d : Nat → Int) (nd : Nat) (dp : Int) (ng tr : Bool) (H : Dec w0 w g d nd dp ng tr) (hF : FI w0) (hT : Cheats w0) (hP : PowTab w0)
  (hn : nd ≤ 800) (hd : ∀ i, i < nd → 48 ≤ d i ∧ d i ≤ 57) (h0 : 0 < nd → d 0 ≠ 48) (hp : -2000000000 ≤ dp ∧ dp ≤ 2000000000)
  (Q Q0 Q1 : Exit → Act → World → Prop) (hr : ∀ a w, bodyPost Tryz.prog Tryz.f223 (FBPost w0) .ret a w → Q .ret a w) (hr0 : ∀ a w, bodyPost Tryz.prog Tryz.f223 (FBPost w0) .ret a w → Q0 .ret a w) (hr1 : ∀ a w, bodyPost Tryz.prog Tryz.f223 (FBPost w0) .ret a w → Q1 .ret a w)
  (hg0 : ∀ a w, fbOut.wp Tryz.prog Q0 a w → Q (.goto 0) a w) (hg1 : ∀ a w, fbOver.wp Tryz.prog Q1 a w → Q (.goto 1) a w) :
  fbBody.wp Tryz.prog Q ⟨List.toArray [.pointer (some ⟨g, 0, none⟩), .pointer (some ⟨6, 0, none⟩), undef, undef, .int .u64 0, .bool false, undef, undef, undef, undef, undef, undef, undef, undef, undef, undef, undef, undef, undef, undef, undef, undef, undef, undef, undef, undef, undef, undef, undef, undef, undef, undef, undef, undef, undef, undef, undef, undef, undef, undef, undef, undef, undef, undef, undef, undef, undef, undef, undef, undef, undef, undef, undef, undef, undef, undef, undef, undef, undef, undef, undef, undef, undef, undef, undef, undef, undef, undef, undef, undef, undef, undef, undef, undef, undef, undef, undef, undef, undef, undef, undef, undef, undef, undef, undef, undef, undef, undef, undef, undef, undef, undef, undef, undef, undef, undef, undef, undef, undef, undef, undef, undef, undef, undef, undef, undef, undef, undef, undef, undef, undef, undef, undef, undef, undef, undef, undef, undef, undef, undef, undef, undef, undef, undef, undef, undef, undef, undef, undef, undef, undef, undef, undef, undef, undef, undef, undef, undef, undef, undef, undef, undef, undef, undef, undef, undef, undef, undef, undef, undef, undef, undef, undef, undef, undef, undef, undef, undef, undef, undef, undef, undef, undef, undef, undef, undef, undef, undef, undef, undef, undef, undef, undef, undef, undef, undef, undef, undef, undef, undef, undef, undef, undef, undef, undef, undef, undef, undef, undef, undef, undef, undef, undef, undef, undef, undef, undef, undef, undef, undef, undef, undef, undef, undef, undef, undef, undef, undef, undef, undef, undef, undef, undef, undef, undef, undef, undef, undef, undef, undef, undef, undef, undef, undef, undef, undef, undef, undef, undef, undef, undef, undef, undef, undef, undef, undef, undef, undef, undef, undef, undef, undef, undef], []⟩ w := by
 have HA := Aside0.mk (And.intro hr (And.intro hr0 (And.intro hr1 (And.intro hg0 hg1))))
 clear hr hr0 hr1 hg0 hg1
 have c0 := H.cnd
 have c1 := H.cdp
 have b1 := pw_cell_below H.be hF.a
 have b2 := pw_cell_below H.be hF.b
 have b3 := pw_cell_below H.be hF.c
 have HD := Aside0.mk H
 clear H
 simp only [fbBody, Tryz.f223, tlr, unsc]
 by_cases e0 : nd = 0
 ·subst e0
  go_wp2_with fail
  have HDX := HD.out
  obtain ⟨hr, hr0, hr1, hg0, hg1⟩ := HA.out
  go_step3
  exact hg0 _ _ (fbOut_wp w0 _ g _ _ _ _ _ _ _ _ Q0 hr0 _ _ _ _ _ _ _ _ _ _ _ _ _ _ _ _ _ _ _ _ _ _ _ _ _ _ _ _ _ _ _ _ _ _ _ _ _ _ _ _ _ _ _ _ _ _ _ _ _ _ _ _ _ _ _ _ _ _ _ _ _ _ _ _ _ _ _ _ _ _ _ _ _ _ _ _ _ _ _ _ _ _ _ _ _ _ _ _ _ _ _ _ _ _ _ _ _ _ _ _ _ _ _ _ _ _ _ _ _ _ _ _ _ _ _ _ _ _ _ _ _ _ _ _ _ _ _ _ _ _ _ _ _ _ _ _ _ _ _ _ _ _ _ _ _ _ _ _ _ _ _ _ _ _ _ _ _ _ _ _ _ _ _ _ _ _ _ _ _ _ _ _ _ _ _ _ _ _ _ _ _ _ _ _ _ _ _ _ _ _ _ HDX hF)
 have hnd : ((nd : Int) == 0) = false := beq_eq_false_iff_ne.mpr (by omega)
 by_cases e1 : 310 < dp
 ·go_wp2_with fail
  have HDX := HD.out
  obtain ⟨hr, hr0, hr1, hg0, hg1⟩ := HA.out
  go_step3
  exact hg1 _ _ (fbOver_wp w0 _ g _ _ _ _ _ Q1 hr1 _ _ _ _ _ _ _ _ _ _ _ _ _ _ _ _ _ _ _ _ _ _ _ _ _ _ _ _ _ _ _ _ _ _ _ _ _ _ _ _ _ _ _ _ _ _ _ _ _ _ _ _ _ _ _ _ _ _ _ _ _ _ _ _ _ _ _ _ _ _ _ _ _ _ _ _ _ _ _ _ _ _ _ _ _ _ _ _ _ _ _ _ _ _ _ _ _ _ _ _ _ _ _ _ _ _ _ _ _ _ _ _ _ _ _ _ _ _ _ _ _ _ _ _ _ _ _ _ _ _ _ _ _ _ _ _ _ _ _ _ _ _ _ _ _ _ _ _ _ _ _ _ _ _ _ _ _ _ _ _ _ _ _ _ _ _ _ _ _ _ _ _ _ _ _ _ _ _ _ _ _ _ _ HDX hF)
 by_cases e2 : dp < -330
 ·go_wp2_with fail
  have HDX := HD.out
  obtain ⟨hr, hr0, hr1, hg0, hg1⟩ := HA.out
  go_step3
  exact hg0 _ _ (fbOut_wp w0 _ g _ _ _ _ _ _ _ _ Q0 hr0 _ _ _ _ _ _ _ _ _ _ _ _ _ _ _ _ _ _ _ _ _ _ _ _ _ _ _ _ _ _ _ _ _ _ _ _ _ _ _ _ _ _ _ _ _ _ _ _ _ _ _ _ _ _ _ _ _ _ _ _ _ _ _ _ _ _ _ _ _ _ _ _ _ _ _ _ _ _ _ _ _ _ _ _ _ _ _ _ _ _ _ _ _ _ _ _ _ _ _ _ _ _ _ _ _ _ _ _ _ _ _ _ _ _ _ _ _ _ _ _ _ _ _ _ _ _ _ _ _ _ _ _ _ _ _ _ _ _ _ _ _ _ _ _ _ _ _ _ _ _ _ _ _ _ _ _ _ _ _ _ _ _ _ _ _ _ _ _ _ _ _ _ _ _ _ _ _ _ _ _ _ _ _ _ _ _ _ _ _ _ _ HDX hF)
 go_wp2_with fail
 go_loopg [6, 8] (10 * dp + d 0 + 100000).toNat (fun kq v6 v8 w' => ∃ (d' : Nat → Int) (nd' : Nat) (dp' : Int) (tr' : Bool) (ex : Int), v6 = .int .i64 ex ∧ Aside0 (Dec w0 w' g d' nd' dp' ng tr') ∧ (1 ≤ nd' ∧ nd' ≤ 800) ∧ Aside0 (∀ i, i < nd' → 48 ≤ d' i ∧ d' i ≤ 57) ∧ Aside0 (d' 0 ≠ 48) ∧
  (kq : Int) = 10 * dp' + d' 0 + 100000 ∧ (-330 ≤ dp' ∧ dp' ≤ 310) ∧ (0 ≤ ex ∧ ex + 27 * (kq : Int) ≤ 2800000))
 case atStart => exact ⟨d, nd, dp, tr, 0, rfl, ⟨by first | exact HD.out | exact HD.out.drewN _⟩, by omega, ⟨hd⟩, ⟨h0 (by omega)⟩, by have := hd 0 (by omega); omega, by omega, by have := hd 0 (by omega); omega⟩
 case round =>
  clear HD c0 c1 b1 b2 b3 hnd e0 e1 e2 hd h0 hn hp
  obtain ⟨d', nd', dp', tr', ex, rfl, HD2, hn', HI1, HI2, hkq, hb, hex⟩ := hrel
  have c0 := HD2.out.cnd
  have c1 := HD2.out.cdp
  have b1 := pw_cell_below HD2.out.be hF.a
  have b2 := pw_cell_below HD2.out.be hF.b
  have b3 := pw_cell_below HD2.out.be hF.c
  have hd0 := HI1.out 0 (by omega)
  have hd00 := HI2.out
  by_cases e3 : 0 < dp'
  ·obtain ⟨j, rfl⟩ : ∃ j : Nat, dp' = (j : Int) := ⟨dp'.toNat, by omega⟩
   obtain ⟨a, cc, t10, tc, ta⟩ := hP
   have t10' := pw_cell_below HD2.out.be t10
   by_cases e4 : (9 : Int) ≤ (j : Int)
   ·go_wp2_with fail
    repeat (go_quiet (fail); try (go_wp2_with fail))
    have hc : Calls Tryz.prog 169 #[.pointer (some ⟨g, 0, none⟩), .int .i64 (-27)] (wr.drewN nq) (RPost w0 g d' j ng) := shiftR_calls w0 (wr.drewN nq) g d' nd' j ng tr' 27 (HD2.out.drewN _) (by omega) hn' HI1.out hd00 (by omega)
    refine hc.mono ?_
    rintro e w' ⟨rfl, d2, nd2, dp2, tr2, H2, hn2, hd2, h02, hb2, hs2⟩
    have hd20 := hd2 0 (by omega)
    go_wp2_with fail
    have hlt : 10 * dp2 + d2 0 + 1 ≤ 10 * (j : Int) + d' 0 := by
     by_cases e : dp2 = j
     ·have := hs2 e; omega
     ·omega
    go_roundg (10 * dp2 + d2 0 + 100000).toNat
    case measure => omega
    case rel => exact ⟨d2, nd2, dp2, tr2, _, rfl, ⟨H2⟩, hn2, ⟨hd2⟩, ⟨h02⟩, by omega, by omega, by omega⟩
   ·have hj9 : (j : Int) < 9 := by omega
    have hj9' : j < 9 := by omega
    obtain ⟨k, hk, hk1, hk2⟩ := powtab_k j (by omega) hj9'
    have tj := pw_cell_below HD2.out.be (tc j hj9')
    rw [hk] at tj
    clear hk
    go_wp2_with fail
    repeat (go_quiet (fail); try (go_wp2_with fail))
    refine (shiftR_calls w0 _ g d' nd' j ng tr' k (HD2.out.drewN _) ⟨hk1, by omega⟩ hn' HI1.out hd00 (by omega)).mono ?_
    rintro e w' ⟨rfl, d2, nd2, dp2, tr2, H2, hn2, hd2, h02, hb2, hs2⟩
    have hd20 := hd2 0 (by omega)
    go_wp2_with fail
    have hlt : 10 * dp2 + d2 0 + 1 ≤ 10 * (j : Int) + d' 0 := by
     by_cases e : dp2 = j
     ·have := hs2 e; omega
     ·omega
    go_roundg (10 * dp2 + d2 0 + 100000).toNat
    case measure => omega
    case rel => exact ⟨d2, nd2, dp2, tr2, _, rfl, ⟨H2⟩, hn2, ⟨hd2⟩, ⟨h02⟩, by omega, by omega, by omega⟩
  ·go_wp2_with fail
   go_loopg [6, 9] (100000 - 10 * dp' - d' 0).toNat (fun kq v6 v9 w' => ∃ (d' : Nat → Int) (nd' : Nat) (dp' : Int) (tr' : Bool) (ex : Int), v6 = .int .i64 ex ∧ Aside0 (Dec w0 w' g d' nd' dp' ng tr') ∧ (1 ≤ nd' ∧ nd' ≤ 800) ∧ Aside0 (∀ i, i < nd' → 48 ≤ d' i ∧ d' i ≤ 57) ∧ Aside0 (d' 0 ≠ 48) ∧
    (kq : Int) = 100000 - 10 * dp' - d' 0 ∧ (-400 ≤ dp' ∧ dp' ≤ 60) ∧ (ex ≤ 2800000 ∧ 27 * (kq : Int) - 2808000 ≤ ex))
   case atStart => exact ⟨d', nd', dp', tr', ex, rfl, HD2, hn', HI1, HI2, by omega, by omega, by omega⟩
   case round =>
    clear c0 c1 b1 b2 b3 hd0 hd00 e3 HD2 HI1 HI2 hkq hb hex hn'
    obtain ⟨d', nd', dp', tr', ex, rfl, HD2, hn', HI1, HI2, hkq, hb, hex⟩ := hrel
    have c0 := HD2.out.cnd
    have c1 := HD2.out.cdp
    have b1 := pw_cell_below HD2.out.be hF.a
    have b2 := pw_cell_below HD2.out.be hF.b
    have b3 := pw_cell_below HD2.out.be hF.c
    have hd0 := HI1.out 0 (by omega)
    have hd00 := HI2.out
    have cd0 := HD2.out.dig 0 (by omega)
    obtain ⟨a, cc, t10, tc, ta⟩ := hP
    have t10' := pw_cell_below HD2.out.be t10
    by_cases e3 : dp' ≤ 0
    ·obtain ⟨j, rfl⟩ : ∃ j : Nat, dp' = -(j : Int) := ⟨(-dp').toNat, by omega⟩
     by_cases e5 : j = 0
     ·subst e5
      have c1' : wr.cell? ⟨g, 801, none⟩ = some (.int .i64 0) := c1
      clear c1
      have HD3 : Aside0 (Dec w0 wr g d' nd' 0 ng tr') := HD2
      clear HD2
      by_cases e6 : d' 0 < 53
      ·have tj0 := pw_cell_below HD3.out.be ta
       have tj : wr.cell? (a.add 0) = some (.int .i64 1) := pw_cell_below HD3.out.be (tc 0 (by omega))
       have hbz : -400 ≤ (0 : Int) ∧ (0 : Int) ≤ 60 := by omega
       go_wp2_with fail
       repeat (go_quiet (fail); try (go_wp2_with fail))
       refine (shiftL_calls w0 _ g d' nd' 0 ng tr' 1 (HD3.out.drewN _) hT (by omega) hn' HI1.out hd00 (by omega)).mono ?_
       rintro e w' ⟨rfl, d2, nd2, dp2, tr2, H2, hn2, hd2, h02, hb2, hs2⟩
       have hd20 := hd2 0 (by omega)
       go_wp2_with fail
       have hlt : d' 0 + 1 ≤ 10 * dp2 + d2 0 := by
        by_cases e : dp2 = 0
        ·have := hs2 e; omega
        ·omega
       go_roundg (100000 - 10 * dp2 - d2 0).toNat
       case measure => omega
       case rel => exact ⟨d2, nd2, dp2, tr2, _, rfl, ⟨H2⟩, hn2, ⟨hd2⟩, ⟨h02⟩, by omega, by omega, by omega⟩
      ·by_cases e7 : ex - 1 < -1022
       ·obtain ⟨n, hn1⟩ : ∃ n : Nat, -1022 - (ex - 1) = (n : Int) := ⟨(-1022 - (ex - 1)).toNat, by omega⟩
        have hn1' := Aside0.mk hn1
        clear hn1
        go_wp2_with fail
        rw [hn1'.out]
        refine (shiftAny_calls w0 _ g d' nd' 0 ng tr' n (by first | exact HD3.out | exact HD3.out.drewN _) (by have := hn1'.out; omega) hn' HI1.out hd00 (by omega)).mono ?_
        rintro e w' ⟨rfl, d2, nd2, dp2, tr2, H2, hn2, hd2, h02, hb2⟩
        have hn3' := hn1'.out
        have p0 := H2.cnd
        have p1 := H2.cdp
        have p2 := pw_cell_below H2.be hF.a
        have p3 := pw_cell_below H2.be hF.b
        have p4 := pw_cell_below H2.be hF.c
        go_wp2_with fail
        repeat (go_quiet (fail); try (go_wp2_with fail))
        refine (shiftL_calls w0 _ g d2 nd2 dp2 ng tr2 53 (by first | exact H2 | exact H2.drewN _) hT (by omega) hn2 hd2 h02 (by omega)).mono ?_
        rintro e w' ⟨rfl, d3, nd3, dp3, tr3, H3, hn3, hd3, h03, hb3, _⟩
        have q1 := pw_cell_below H3.be hF.a
        have q2 := pw_cell_below H3.be hF.b
        have q3 := pw_cell_below H3.be hF.c
        go_wp2_with fail
        refine (roundedInteger_calls w0 _ g d3 nd3 dp3 ng tr3 H3 hn3.2 hd3 (by omega)).mono ?_
        rintro e w' ⟨m, rfl, rfl⟩
        go_wp2_with fail
        all_goals (repeat (go_quiet (fail); try (go_wp2_with fail)))
        all_goals obtain ⟨hr, hr0, hr1, hg0, hg1⟩ := HA.out
        all_goals have HX := H3
        all_goals first
         | (go_step3; exact hg1 _ _ (fbOver_wp w0 _ g _ _ _ _ _ Q1 hr1 _ _ _ _ _ _ _ _ _ _ _ _ _ _ _ _ _ _ _ _ _ _ _ _ _ _ _ _ _ _ _ _ _ _ _ _ _ _ _ _ _ _ _ _ _ _ _ _ _ _ _ _ _ _ _ _ _ _ _ _ _ _ _ _ _ _ _ _ _ _ _ _ _ _ _ _ _ _ _ _ _ _ _ _ _ _ _ _ _ _ _ _ _ _ _ _ _ _ _ _ _ _ _ _ _ _ _ _ _ _ _ _ _ _ _ _ _ _ _ _ _ _ _ _ _ _ _ _ _ _ _ _ _ _ _ _ _ _ _ _ _ _ _ _ _ _ _ _ _ _ _ _ _ _ _ _ _ _ _ _ _ _ _ _ _ _ _ _ _ _ _ _ _ _ _ _ _ _ _ _ _ _ _ HX hF))
         | (go_step3; exact hg0 _ _ (fbOut_wp w0 _ g _ _ _ _ _ _ _ _ Q0 hr0 _ _ _ _ _ _ _ _ _ _ _ _ _ _ _ _ _ _ _ _ _ _ _ _ _ _ _ _ _ _ _ _ _ _ _ _ _ _ _ _ _ _ _ _ _ _ _ _ _ _ _ _ _ _ _ _ _ _ _ _ _ _ _ _ _ _ _ _ _ _ _ _ _ _ _ _ _ _ _ _ _ _ _ _ _ _ _ _ _ _ _ _ _ _ _ _ _ _ _ _ _ _ _ _ _ _ _ _ _ _ _ _ _ _ _ _ _ _ _ _ _ _ _ _ _ _ _ _ _ _ _ _ _ _ _ _ _ _ _ _ _ _ _ _ _ _ _ _ _ _ _ _ _ _ _ _ _ _ _ _ _ _ _ _ _ _ _ _ _ _ _ _ _ _ _ _ _ _ _ _ _ _ _ _ _ _ _ _ _ _ _ HX hF))
         | (have HX := H3.drewN nq; go_step3; exact hg1 _ _ (fbOver_wp w0 _ g _ _ _ _ _ Q1 hr1 _ _ _ _ _ _ _ _ _ _ _ _ _ _ _ _ _ _ _ _ _ _ _ _ _ _ _ _ _ _ _ _ _ _ _ _ _ _ _ _ _ _ _ _ _ _ _ _ _ _ _ _ _ _ _ _ _ _ _ _ _ _ _ _ _ _ _ _ _ _ _ _ _ _ _ _ _ _ _ _ _ _ _ _ _ _ _ _ _ _ _ _ _ _ _ _ _ _ _ _ _ _ _ _ _ _ _ _ _ _ _ _ _ _ _ _ _ _ _ _ _ _ _ _ _ _ _ _ _ _ _ _ _ _ _ _ _ _ _ _ _ _ _ _ _ _ _ _ _ _ _ _ _ _ _ _ _ _ _ _ _ _ _ _ _ _ _ _ _ _ _ _ _ _ _ _ _ _ _ _ _ _ _ HX hF))
         | (have HX := H3.drewN nq; go_step3; exact hg0 _ _ (fbOut_wp w0 _ g _ _ _ _ _ _ _ _ Q0 hr0 _ _ _ _ _ _ _ _ _ _ _ _ _ _ _ _ _ _ _ _ _ _ _ _ _ _ _ _ _ _ _ _ _ _ _ _ _ _ _ _ _ _ _ _ _ _ _ _ _ _ _ _ _ _ _ _ _ _ _ _ _ _ _ _ _ _ _ _ _ _ _ _ _ _ _ _ _ _ _ _ _ _ _ _ _ _ _ _ _ _ _ _ _ _ _ _ _ _ _ _ _ _ _ _ _ _ _ _ _ _ _ _ _ _ _ _ _ _ _ _ _ _ _ _ _ _ _ _ _ _ _ _ _ _ _ _ _ _ _ _ _ _ _ _ _ _ _ _ _ _ _ _ _ _ _ _ _ _ _ _ _ _ _ _ _ _ _ _ _ _ _ _ _ _ _ _ _ _ _ _ _ _ _ _ _ _ _ _ _ _ _ HX hF))
       ·go_wp2_with fail
        repeat (go_quiet (fail); try (go_wp2_with fail))
        all_goals first
         | (obtain ⟨hr, hr0, hr1, hg0, hg1⟩ := HA.out; have HX := HD3.out; go_step3; exact hg1 _ _ (fbOver_wp w0 _ g _ _ _ _ _ Q1 hr1 _ _ _ _ _ _ _ _ _ _ _ _ _ _ _ _ _ _ _ _ _ _ _ _ _ _ _ _ _ _ _ _ _ _ _ _ _ _ _ _ _ _ _ _ _ _ _ _ _ _ _ _ _ _ _ _ _ _ _ _ _ _ _ _ _ _ _ _ _ _ _ _ _ _ _ _ _ _ _ _ _ _ _ _ _ _ _ _ _ _ _ _ _ _ _ _ _ _ _ _ _ _ _ _ _ _ _ _ _ _ _ _ _ _ _ _ _ _ _ _ _ _ _ _ _ _ _ _ _ _ _ _ _ _ _ _ _ _ _ _ _ _ _ _ _ _ _ _ _ _ _ _ _ _ _ _ _ _ _ _ _ _ _ _ _ _ _ _ _ _ _ _ _ _ _ _ _ _ _ _ _ _ _ HX hF))
         | (obtain ⟨hr, hr0, hr1, hg0, hg1⟩ := HA.out; have HX := (HD3.out).drewN nq; go_step3; exact hg1 _ _ (fbOver_wp w0 _ g _ _ _ _ _ Q1 hr1 _ _ _ _ _ _ _ _ _ _ _ _ _ _ _ _ _ _ _ _ _ _ _ _ _ _ _ _ _ _ _ _ _ _ _ _ _ _ _ _ _ _ _ _ _ _ _ _ _ _ _ _ _ _ _ _ _ _ _ _ _ _ _ _ _ _ _ _ _ _ _ _ _ _ _ _ _ _ _ _ _ _ _ _ _ _ _ _ _ _ _ _ _ _ _ _ _ _ _ _ _ _ _ _ _ _ _ _ _ _ _ _ _ _ _ _ _ _ _ _ _ _ _ _ _ _ _ _ _ _ _ _ _ _ _ _ _ _ _ _ _ _ _ _ _ _ _ _ _ _ _ _ _ _ _ _ _ _ _ _ _ _ _ _ _ _ _ _ _ _ _ _ _ _ _ _ _ _ _ _ _ _ _ HX hF))
         | skip
        refine (shiftL_calls w0 _ g d' nd' 0 ng tr' 53 (by first | exact HD3.out | exact HD3.out.drewN _) hT (by omega) hn' HI1.out hd00 (by omega)).mono ?_
        rintro e w' ⟨rfl, d3, nd3, dp3, tr3, H3, hn3, hd3, h03, hb3, _⟩
        have q1 := pw_cell_below H3.be hF.a
        have q2 := pw_cell_below H3.be hF.b
        have q3 := pw_cell_below H3.be hF.c
        go_wp2_with fail
        refine (roundedInteger_calls w0 _ g d3 nd3 dp3 ng tr3 H3 hn3.2 hd3 (by omega)).mono ?_
        rintro e w' ⟨m, rfl, rfl⟩
        go_wp2_with fail
        all_goals (repeat (go_quiet (fail); try (go_wp2_with fail)))
        all_goals obtain ⟨hr, hr0, hr1, hg0, hg1⟩ := HA.out
        all_goals have HX := H3
        all_goals first
         | (go_step3; exact hg1 _ _ (fbOver_wp w0 _ g _ _ _ _ _ Q1 hr1 _ _ _ _ _ _ _ _ _ _ _ _ _ _ _ _ _ _ _ _ _ _ _ _ _ _ _ _ _ _ _ _ _ _ _ _ _ _ _ _ _ _ _ _ _ _ _ _ _ _ _ _ _ _ _ _ _ _ _ _ _ _ _ _ _ _ _ _ _ _ _ _ _ _ _ _ _ _ _ _ _ _ _ _ _ _ _ _ _ _ _ _ _ _ _ _ _ _ _ _ _ _ _ _ _ _ _ _ _ _ _ _ _ _ _ _ _ _ _ _ _ _ _ _ _ _ _ _ _ _ _ _ _ _ _ _ _ _ _ _ _ _ _ _ _ _ _ _ _ _ _ _ _ _ _ _ _ _ _ _ _ _ _ _ _ _ _ _ _ _ _ _ _ _ _ _ _ _ _ _ _ _ _ HX hF))
         | (go_step3; exact hg0 _ _ (fbOut_wp w0 _ g _ _ _ _ _ _ _ _ Q0 hr0 _ _ _ _ _ _ _ _ _ _ _ _ _ _ _ _ _ _ _ _ _ _ _ _ _ _ _ _ _ _ _ _ _ _ _ _ _ _ _ _ _ _ _ _ _ _ _ _ _ _ _ _ _ _ _ _ _ _ _ _ _ _ _ _ _ _ _ _ _ _ _ _ _ _ _ _ _ _ _ _ _ _ _ _ _ _ _ _ _ _ _ _ _ _ _ _ _ _ _ _ _ _ _ _ _ _ _ _ _ _ _ _ _ _ _ _ _ _ _ _ _ _ _ _ _ _ _ _ _ _ _ _ _ _ _ _ _ _ _ _ _ _ _ _ _ _ _ _ _ _ _ _ _ _ _ _ _ _ _ _ _ _ _ _ _ _ _ _ _ _ _ _ _ _ _ _ _ _ _ _ _ _ _ _ _ _ _ _ _ _ _ HX hF))
         | (have HX := H3.drewN nq; go_step3; exact hg1 _ _ (fbOver_wp w0 _ g _ _ _ _ _ Q1 hr1 _ _ _ _ _ _ _ _ _ _ _ _ _ _ _ _ _ _ _ _ _ _ _ _ _ _ _ _ _ _ _ _ _ _ _ _ _ _ _ _ _ _ _ _ _ _ _ _ _ _ _ _ _ _ _ _ _ _ _ _ _ _ _ _ _ _ _ _ _ _ _ _ _ _ _ _ _ _ _ _ _ _ _ _ _ _ _ _ _ _ _ _ _ _ _ _ _ _ _ _ _ _ _ _ _ _ _ _ _ _ _ _ _ _ _ _ _ _ _ _ _ _ _ _ _ _ _ _ _ _ _ _ _ _ _ _ _ _ _ _ _ _ _ _ _ _ _ _ _ _ _ _ _ _ _ _ _ _ _ _ _ _ _ _ _ _ _ _ _ _ _ _ _ _ _ _ _ _ _ _ _ _ _ HX hF))
         | (have HX := H3.drewN nq; go_step3; exact hg0 _ _ (fbOut_wp w0 _ g _ _ _ _ _ _ _ _ Q0 hr0 _ _ _ _ _ _ _ _ _ _ _ _ _ _ _ _ _ _ _ _ _ _ _ _ _ _ _ _ _ _ _ _ _ _ _ _ _ _ _ _ _ _ _ _ _ _ _ _ _ _ _ _ _ _ _ _ _ _ _ _ _ _ _ _ _ _ _ _ _ _ _ _ _ _ _ _ _ _ _ _ _ _ _ _ _ _ _ _ _ _ _ _ _ _ _ _ _ _ _ _ _ _ _ _ _ _ _ _ _ _ _ _ _ _ _ _ _ _ _ _ _ _ _ _ _ _ _ _ _ _ _ _ _ _ _ _ _ _ _ _ _ _ _ _ _ _ _ _ _ _ _ _ _ _ _ _ _ _ _ _ _ _ _ _ _ _ _ _ _ _ _ _ _ _ _ _ _ _ _ _ _ _ _ _ _ _ _ _ _ _ _ HX hF))
     ·have hneg : -(j : Int) < 0 := by omega
      have hdec : decide (-(j : Int) < 0) = true := decide_eq_true hneg
      by_cases e4 : (9 : Int) ≤ (j : Int)
      ·go_wp2_with fail
       repeat (go_quiet (fail); try (go_wp2_with fail))
       have hc : Calls Tryz.prog 169 #[.pointer (some ⟨g, 0, none⟩), .int .i64 27] (wr.drewN nq) (DPost w0 g d' (-(j : Int)) ng) := shiftL_calls w0 (wr.drewN nq) g d' nd' (-(j : Int)) ng tr' 27 (HD2.out.drewN _) hT (by omega) hn' HI1.out hd00 (by omega)
       refine hc.mono ?_
       rintro e w' ⟨rfl, d2, nd2, dp2, tr2, H2, hn2, hd2, h02, hb2, hs2⟩
       have hd20 := hd2 0 (by omega)
       go_wp2_with fail
       have hlt : 10 * (-(j : Int)) + d' 0 + 1 ≤ 10 * dp2 + d2 0 := by
        by_cases e : dp2 = -(j : Int)
        ·have := hs2 e; omega
        ·omega
       go_roundg (100000 - 10 * dp2 - d2 0).toNat
       case measure => omega
       case rel => exact ⟨d2, nd2, dp2, tr2, _, rfl, ⟨H2⟩, hn2, ⟨hd2⟩, ⟨h02⟩, by omega, by omega, by omega⟩
      ·have hj9 : (j : Int) < 9 := by omega
       have hj9' : j < 9 := by omega
       obtain ⟨k, hk, hk1, hk2⟩ := powtab_k0 j hj9'
       have tj := pw_cell_below HD2.out.be (tc j hj9')
       rw [hk] at tj
       clear hk
       go_wp2_with fail
       repeat (go_quiet (fail); try (go_wp2_with fail))
       refine (shiftL_calls w0 _ g d' nd' (-(j : Int)) ng tr' k (HD2.out.drewN _) hT ⟨hk1, by omega⟩ hn' HI1.out hd00 (by omega)).mono ?_
       rintro e w' ⟨rfl, d2, nd2, dp2, tr2, H2, hn2, hd2, h02, hb2, hs2⟩
       have hd20 := hd2 0 (by omega)
       go_wp2_with fail
       have hlt : 10 * (-(j : Int)) + d' 0 + 1 ≤ 10 * dp2 + d2 0 := by
        by_cases e : dp2 = -(j : Int)
        ·have := hs2 e; omega
        ·omega
       go_roundg (100000 - 10 * dp2 - d2 0).toNat
       case measure => omega
       case rel => exact ⟨d2, nd2, dp2, tr2, _, rfl, ⟨H2⟩, hn2, ⟨hd2⟩, ⟨h02⟩, by omega, by omega, by omega⟩
    ·have hpos : ¬ dp' < 0 := by omega
     have hpz : (dp' == 0) = false := beq_eq_false_iff_ne.mpr (by omega)
     by_cases e7 : ex - 1 < -1022
     ·obtain ⟨n, hn1⟩ : ∃ n : Nat, -1022 - (ex - 1) = (n : Int) := ⟨(-1022 - (ex - 1)).toNat, by omega⟩
      have hn1' := Aside0.mk hn1
      clear hn1
      go_wp2_with fail
      rw [hn1'.out]
      refine (shiftAny_calls w0 _ g d' nd' dp' ng tr' n (by first | exact HD2.out | exact HD2.out.drewN _) (by have := hn1'.out; omega) hn' HI1.out hd00 (by omega)).mono ?_
      rintro e w' ⟨rfl, d2, nd2, dp2, tr2, H2, hn2, hd2, h02, hb2⟩
      have hn3' := hn1'.out
      have p0 := H2.cnd
      have p1 := H2.cdp
      have p2 := pw_cell_below H2.be hF.a
      have p3 := pw_cell_below H2.be hF.b
      have p4 := pw_cell_below H2.be hF.c
      go_wp2_with fail
      repeat (go_quiet (fail); try (go_wp2_with fail))
      refine (shiftL_calls w0 _ g d2 nd2 dp2 ng tr2 53 (by first | exact H2 | exact H2.drewN _) hT (by omega) hn2 hd2 h02 (by omega)).mono ?_
      rintro e w' ⟨rfl, d3, nd3, dp3, tr3, H3, hn3, hd3, h03, hb3, _⟩
      have q1 := pw_cell_below H3.be hF.a
      have q2 := pw_cell_below H3.be hF.b
      have q3 := pw_cell_below H3.be hF.c
      go_wp2_with fail
      refine (roundedInteger_calls w0 _ g d3 nd3 dp3 ng tr3 H3 hn3.2 hd3 (by omega)).mono ?_
      rintro e w' ⟨m, rfl, rfl⟩
      go_wp2_with fail
      all_goals (repeat (go_quiet (fail); try (go_wp2_with fail)))
      all_goals obtain ⟨hr, hr0, hr1, hg0, hg1⟩ := HA.out
      all_goals have HX := H3
      all_goals first
       | (go_step3; exact hg1 _ _ (fbOver_wp w0 _ g _ _ _ _ _ Q1 hr1 _ _ _ _ _ _ _ _ _ _ _ _ _ _ _ _ _ _ _ _ _ _ _ _ _ _ _ _ _ _ _ _ _ _ _ _ _ _ _ _ _ _ _ _ _ _ _ _ _ _ _ _ _ _ _ _ _ _ _ _ _ _ _ _ _ _ _ _ _ _ _ _ _ _ _ _ _ _ _ _ _ _ _ _ _ _ _ _ _ _ _ _ _ _ _ _ _ _ _ _ _ _ _ _ _ _ _ _ _ _ _ _ _ _ _ _ _ _ _ _ _ _ _ _ _ _ _ _ _ _ _ _ _ _ _ _ _ _ _ _ _ _ _ _ _ _ _ _ _ _ _ _ _ _ _ _ _ _ _ _ _ _ _ _ _ _ _ _ _ _ _ _ _ _ _ _ _ _ _ _ _ _ _ HX hF))
       | (go_step3; exact hg0 _ _ (fbOut_wp w0 _ g _ _ _ _ _ _ _ _ Q0 hr0 _ _ _ _ _ _ _ _ _ _ _ _ _ _ _ _ _ _ _ _ _ _ _ _ _ _ _ _ _ _ _ _ _ _ _ _ _ _ _ _ _ _ _ _ _ _ _ _ _ _ _ _ _ _ _ _ _ _ _ _ _ _ _ _ _ _ _ _ _ _ _ _ _ _ _ _ _ _ _ _ _ _ _ _ _ _ _ _ _ _ _ _ _ _ _ _ _ _ _ _ _ _ _ _ _ _ _ _ _ _ _ _ _ _ _ _ _ _ _ _ _ _ _ _ _ _ _ _ _ _ _ _ _ _ _ _ _ _ _ _ _ _ _ _ _ _ _ _ _ _ _ _ _ _ _ _ _ _ _ _ _ _ _ _ _ _ _ _ _ _ _ _ _ _ _ _ _ _ _ _ _ _ _ _ _ _ _ _ _ _ _ HX hF))
       | (have HX := H3.drewN nq; go_step3; exact hg1 _ _ (fbOver_wp w0 _ g _ _ _ _ _ Q1 hr1 _ _ _ _ _ _ _ _ _ _ _ _ _ _ _ _ _ _ _ _ _ _ _ _ _ _ _ _ _ _ _ _ _ _ _ _ _ _ _ _ _ _ _ _ _ _ _ _ _ _ _ _ _ _ _ _ _ _ _ _ _ _ _ _ _ _ _ _ _ _ _ _ _ _ _ _ _ _ _ _ _ _ _ _ _ _ _ _ _ _ _ _ _ _ _ _ _ _ _ _ _ _ _ _ _ _ _ _ _ _ _ _ _ _ _ _ _ _ _ _ _ _ _ _ _ _ _ _ _ _ _ _ _ _ _ _ _ _ _ _ _ _ _ _ _ _ _ _ _ _ _ _ _ _ _ _ _ _ _ _ _ _ _ _ _ _ _ _ _ _ _ _ _ _ _ _ _ _ _ _ _ _ _ HX hF))
       | (have HX := H3.drewN nq; go_step3; exact hg0 _ _ (fbOut_wp w0 _ g _ _ _ _ _ _ _ _ Q0 hr0 _ _ _ _ _ _ _ _ _ _ _ _ _ _ _ _ _ _ _ _ _ _ _ _ _ _ _ _ _ _ _ _ _ _ _ _ _ _ _ _ _ _ _ _ _ _ _ _ _ _ _ _ _ _ _ _ _ _ _ _ _ _ _ _ _ _ _ _ _ _ _ _ _ _ _ _ _ _ _ _ _ _ _ _ _ _ _ _ _ _ _ _ _ _ _ _ _ _ _ _ _ _ _ _ _ _ _ _ _ _ _ _ _ _ _ _ _ _ _ _ _ _ _ _ _ _ _ _ _ _ _ _ _ _ _ _ _ _ _ _ _ _ _ _ _ _ _ _ _ _ _ _ _ _ _ _ _ _ _ _ _ _ _ _ _ _ _ _ _ _ _ _ _ _ _ _ _ _ _ _ _ _ _ _ _ _ _ _ _ _ _ HX hF))
     ·go_wp2_with fail
      repeat (go_quiet (fail); try (go_wp2_with fail))
      all_goals first
       | (obtain ⟨hr, hr0, hr1, hg0, hg1⟩ := HA.out; have HX := HD2.out; go_step3; exact hg1 _ _ (fbOver_wp w0 _ g _ _ _ _ _ Q1 hr1 _ _ _ _ _ _ _ _ _ _ _ _ _ _ _ _ _ _ _ _ _ _ _ _ _ _ _ _ _ _ _ _ _ _ _ _ _ _ _ _ _ _ _ _ _ _ _ _ _ _ _ _ _ _ _ _ _ _ _ _ _ _ _ _ _ _ _ _ _ _ _ _ _ _ _ _ _ _ _ _ _ _ _ _ _ _ _ _ _ _ _ _ _ _ _ _ _ _ _ _ _ _ _ _ _ _ _ _ _ _ _ _ _ _ _ _ _ _ _ _ _ _ _ _ _ _ _ _ _ _ _ _ _ _ _ _ _ _ _ _ _ _ _ _ _ _ _ _ _ _ _ _ _ _ _ _ _ _ _ _ _ _ _ _ _ _ _ _ _ _ _ _ _ _ _ _ _ _ _ _ _ _ _ HX hF))
       | (obtain ⟨hr, hr0, hr1, hg0, hg1⟩ := HA.out; have HX := (HD2.out).drewN nq; go_step3; exact hg1 _ _ (fbOver_wp w0 _ g _ _ _ _ _ Q1 hr1 _ _ _ _ _ _ _ _ _ _ _ _ _ _ _ _ _ _ _ _ _ _ _ _ _ _ _ _ _ _ _ _ _ _ _ _ _ _ _ _ _ _ _ _ _ _ _ _ _ _ _ _ _ _ _ _ _ _ _ _ _ _ _ _ _ _ _ _ _ _ _ _ _ _ _ _ _ _ _ _ _ _ _ _ _ _ _ _ _ _ _ _ _ _ _ _ _ _ _ _ _ _ _ _ _ _ _ _ _ _ _ _ _ _ _ _ _ _ _ _ _ _ _ _ _ _ _ _ _ _ _ _ _ _ _ _ _ _ _ _ _ _ _ _ _ _ _ _ _ _ _ _ _ _ _ _ _ _ _ _ _ _ _ _ _ _ _ _ _ _ _ _ _ _ _ _ _ _ _ _ _ _ _ HX hF))
       | skip
      refine (shiftL_calls w0 _ g d' nd' dp' ng tr' 53 (by first | exact HD2.out | exact HD2.out.drewN _) hT (by omega) hn' HI1.out hd00 (by omega)).mono ?_
      rintro e w' ⟨rfl, d3, nd3, dp3, tr3, H3, hn3, hd3, h03, hb3, _⟩
      have q1 := pw_cell_below H3.be hF.a
      have q2 := pw_cell_below H3.be hF.b
      have q3 := pw_cell_below H3.be hF.c
      go_wp2_with fail
      refine (roundedInteger_calls w0 _ g d3 nd3 dp3 ng tr3 H3 hn3.2 hd3 (by omega)).mono ?_
      rintro e w' ⟨m, rfl, rfl⟩
      go_wp2_with fail
      all_goals (repeat (go_quiet (fail); try (go_wp2_with fail)))
      all_goals obtain ⟨hr, hr0, hr1, hg0, hg1⟩ := HA.out
      all_goals have HX := H3
      all_goals first
       | (go_step3; exact hg1 _ _ (fbOver_wp w0 _ g _ _ _ _ _ Q1 hr1 _ _ _ _ _ _ _ _ _ _ _ _ _ _ _ _ _ _ _ _ _ _ _ _ _ _ _ _ _ _ _ _ _ _ _ _ _ _ _ _ _ _ _ _ _ _ _ _ _ _ _ _ _ _ _ _ _ _ _ _ _ _ _ _ _ _ _ _ _ _ _ _ _ _ _ _ _ _ _ _ _ _ _ _ _ _ _ _ _ _ _ _ _ _ _ _ _ _ _ _ _ _ _ _ _ _ _ _ _ _ _ _ _ _ _ _ _ _ _ _ _ _ _ _ _ _ _ _ _ _ _ _ _ _ _ _ _ _ _ _ _ _ _ _ _ _ _ _ _ _ _ _ _ _ _ _ _ _ _ _ _ _ _ _ _ _ _ _ _ _ _ _ _ _ _ _ _ _ _ _ _ _ _ HX hF))
       | (go_step3; exact hg0 _ _ (fbOut_wp w0 _ g _ _ _ _ _ _ _ _ Q0 hr0 _ _ _ _ _ _ _ _ _ _ _ _ _ _ _ _ _ _ _ _ _ _ _ _ _ _ _ _ _ _ _ _ _ _ _ _ _ _ _ _ _ _ _ _ _ _ _ _ _ _ _ _ _ _ _ _ _ _ _ _ _ _ _ _ _ _ _ _ _ _ _ _ _ _ _ _ _ _ _ _ _ _ _ _ _ _ _ _ _ _ _ _ _ _ _ _ _ _ _ _ _ _ _ _ _ _ _ _ _ _ _ _ _ _ _ _ _ _ _ _ _ _ _ _ _ _ _ _ _ _ _ _ _ _ _ _ _ _ _ _ _ _ _ _ _ _ _ _ _ _ _ _ _ _ _ _ _ _ _ _ _ _ _ _ _ _ _ _ _ _ _ _ _ _ _ _ _ _ _ _ _ _ _ _ _ _ _ _ _ _ _ HX hF))
       | (have HX := H3.drewN nq; go_step3; exact hg1 _ _ (fbOver_wp w0 _ g _ _ _ _ _ Q1 hr1 _ _ _ _ _ _ _ _ _ _ _ _ _ _ _ _ _ _ _ _ _ _ _ _ _ _ _ _ _ _ _ _ _ _ _ _ _ _ _ _ _ _ _ _ _ _ _ _ _ _ _ _ _ _ _ _ _ _ _ _ _ _ _ _ _ _ _ _ _ _ _ _ _ _ _ _ _ _ _ _ _ _ _ _ _ _ _ _ _ _ _ _ _ _ _ _ _ _ _ _ _ _ _ _ _ _ _ _ _ _ _ _ _ _ _ _ _ _ _ _ _ _ _ _ _ _ _ _ _ _ _ _ _ _ _ _ _ _ _ _ _ _ _ _ _ _ _ _ _ _ _ _ _ _ _ _ _ _ _ _ _ _ _ _ _ _ _ _ _ _ _ _ _ _ _ _ _ _ _ _ _ _ _ HX hF))
       | (have HX := H3.drewN nq; go_step3; exact hg0 _ _ (fbOut_wp w0 _ g _ _ _ _ _ _ _ _ Q0 hr0 _ _ _ _ _ _ _ _ _ _ _ _ _ _ _ _ _ _ _ _ _ _ _ _ _ _ _ _ _ _ _ _ _ _ _ _ _ _ _ _ _ _ _ _ _ _ _ _ _ _ _ _ _ _ _ _ _ _ _ _ _ _ _ _ _ _ _ _ _ _ _ _ _ _ _ _ _ _ _ _ _ _ _ _ _ _ _ _ _ _ _ _ _ _ _ _ _ _ _ _ _ _ _ _ _ _ _ _ _ _ _ _ _ _ _ _ _ _ _ _ _ _ _ _ _ _ _ _ _ _ _ _ _ _ _ _ _ _ _ _ _ _ _ _ _ _ _ _ _ _ _ _ _ _ _ _ _ _ _ _ _ _ _ _ _ _ _ _ _ _ _ _ _ _ _ _ _ _ _ _ _ _ _ _ _ _ _ _ _ _ _ HX hF))
theorem fb_out : findLabel fbBody 0 = some fbOut := by
 simp only [fbOut, fbBody, Tryz.f223, tlr, unsc, findLabel, Nat.reduceBEq, Bool.false_eq_true, ↓reduceIte, Option.getD_some, beq_self_eq_true]
theorem fb_over : findLabel fbBody 1 = some fbOver := by
 simp only [fbOver, fbBody, Tryz.f223, tlr, unsc, findLabel, Nat.reduceBEq, Bool.false_eq_true, ↓reduceIte, Option.getD_some, beq_self_eq_true]
theorem floatBits_calls (w0 w : World) (g : Nat) (d : Nat → Int) (nd : Nat) (dp : Int) (ng tr : Bool) (H : Dec w0 w g d nd dp ng tr) (hF : FI w0) (hT : Cheats w0) (hP : PowTab w0)
  (hn : nd ≤ 800) (hd : ∀ i, i < nd → 48 ≤ d i ∧ d i ≤ 57) (h0 : 0 < nd → d 0 ≠ 48) (hp : -2000000000 ≤ dp ∧ dp ≤ 2000000000) :
  Calls Tryz.prog 223 #[.pointer (some ⟨g, 0, none⟩), .pointer (some ⟨6, 0, none⟩)] w (FBPost w0) := by
 go_enter Tryz.func223, Tryz.ntmps223
 go_wp2_with fail
 refine wp_scope_fwd (c := fbBody) 2 ?_
 exact fbMain_wp w0 w g d nd dp ng tr H hF hT hP hn hd h0 hp _ (jumpQ Tryz.prog fbBody (bodyPost Tryz.prog Tryz.f223 (FBPost w0)) 1) (jumpQ Tryz.prog fbBody (bodyPost Tryz.prog Tryz.f223 (FBPost w0)) 1) (fun _ _ h => h) (fun _ _ h => h) (fun _ _ h => h) (fun _ _ h => ⟨_, fb_out, h⟩) (fun _ _ h => ⟨_, fb_over, h⟩)
end Go.Proofs.YtgiioglmkogpkaaGreatDoor.F
namespace Go.Proofs.YtgiioglmkogpkaaGreatDoor.F
open Go.RowKit Go.Proofs.YtgiioglmkogpkaaGreatDoorW.PrintWords Go.Proofs.YtgiioglmkogpkaaGreatDoorW.PrintLast Go.Proofs.YtgiioglmkogpkaaGreatDoorW.PrintMore
open M
set_option maxHeartbeats 4000000
set_option maxRecDepth 8192
theorem readFloat_calls (s : ByteArray) (a b c : Int) (w : World) (hz : s.size < 1000000000) (N : NumAt s a b c) :
  Calls Tryz.prog 216 #[.string s] w (RFPost s w) := by
 have hbt := bt_at s
 have hs : 0 < s.size := by rcases N.a0 with h | h <;> (have := N.ab; have := N.bc; have := N.cs; omega)
 have hne : s ≠ ByteArray.empty := by rintro rfl; simp at hs
 have hb0 : ∀ h : 0 < s.size, ((s[0]'h).toNat : Int) = bt s 0 := bt_at s 0
 have hb1 : ∀ h : 1 < s.size, ((s[1]'h).toNat : Int) = bt s 1 := bt_at s 1
 have hb2 : ∀ h : 2 < s.size, ((s[2]'h).toNat : Int) = bt s 2 := bt_at s 2
 have hlx : ∀ i, a < i → i ≤ c → i < s.size → (bits .or .u8 (bt s i) 32 == 120) = false := by
  intro i h1 h2 h3
  have hr := bt_range s i
  have hA : bt s i ≠ 120 ∧ bt s i ≠ 88 := by
   by_cases e1 : i < b
   ·have := N.ints i (by omega) e1; omega
   ·by_cases e2 : i < c
    ·rcases N.frac with e3 | e3
     ·omega
     ·by_cases e4 : i = b
      ·subst e4; omega
      ·have := e3.2.2 i (by omega) e2; omega
    ·have e5 : i = c := by omega
     subst e5
     rcases N.ex with e3 | e3 <;> omega
  exact beq_eq_false_iff_ne.mpr (lower_x _ hr.1 hr.2 hA.1 hA.2)
 rcases N.a0 with rfl | ⟨rfl, h45⟩
 ·have hd0 := N.ints 0 (by omega) N.ab
  have h43 : (bt s 0 == 43) = false := beq_eq_false_iff_ne.mpr (by omega)
  have h45 : (bt s 0 == 45) = false := beq_eq_false_iff_ne.mpr (by omega)
  have hl1 : 1 < s.size → (bits .or .u8 (bt s 1) 32 == 120) = false := fun h => hlx 1 (by omega) (by have := N.ab; have := N.bc; omega) (by omega)
  clear hlx
  have HN := Aside0.mk N
  clear N
  go_enter Tryz.func216, Tryz.ntmps216
  go_wp2_with fail
  go_step3
  go_wp2_with (go_at_call 188; refine (Tryz.internal_strconv_lower _ _).mono ?_; rintro e w' ⟨rfl, hw2⟩; obtain rfl := hw2.symm)
  all_goals first
   | (exfalso; have := hl1 (by omega); simp_all; done)
   | skip
  all_goals go_step3
  all_goals (try simp only [Exit.then])
  all_goals refine (‹∀ (a : Act) (w_1 : World), Code.wp Tryz.prog _ _ a w_1 → _› _ _ ?_)
  all_goals exact readFloat_tail s 0 b c false w _ _ _ _ _ _ _ _ _ _ _ _ _ _ _ _ _ _ _ _ _ _ _ _ _ _ _ _ _ _ _ _ _ _ _ _ _ _ _ _ hz HN.out
 ·have hd0 := N.ints 1 (by omega) N.ab
  have h43 : (bt s 0 == 43) = false := beq_eq_false_iff_ne.mpr (by omega)
  have h45 : (bt s 0 == 45) = true := beq_iff_eq.mpr (by omega)
  have hl1 : 2 < s.size → (bits .or .u8 (bt s 2) 32 == 120) = false := fun h => hlx 2 (by omega) (by have := N.ab; have := N.bc; omega) (by omega)
  clear hlx
  have HN := Aside0.mk N
  clear N
  go_enter Tryz.func216, Tryz.ntmps216
  go_wp2_with fail
  go_step3
  go_wp2_with (go_at_call 188; refine (Tryz.internal_strconv_lower _ _).mono ?_; rintro e w' ⟨rfl, hw2⟩; obtain rfl := hw2.symm)
  all_goals first
   | (exfalso; have := hl1 (by omega); simp_all; done)
   | skip
  all_goals go_step3
  all_goals (try simp only [Exit.then])
  all_goals refine (‹∀ (a : Act) (w_1 : World), Code.wp Tryz.prog _ _ a w_1 → _› _ _ ?_)
  all_goals exact readFloat_tail s 1 b c true w _ _ _ _ _ _ _ _ _ _ _ _ _ _ _ _ _ _ _ _ _ _ _ _ _ _ _ _ _ _ _ _ _ _ _ _ _ _ _ _ hz HN.out
end Go.Proofs.YtgiioglmkogpkaaGreatDoor.F
namespace Go.Proofs.YtgiioglmkogpkaaGreatDoor.F
open Go.RowKit Go.Proofs.YtgiioglmkogpkaaGreatDoorW.PrintWords Go.Proofs.YtgiioglmkogpkaaGreatDoorW.PrintLast Go.Proofs.YtgiioglmkogpkaaGreatDoorW.PrintMore
open M
set_option maxHeartbeats 4000000
set_option maxRecDepth 8192
structure Tabs (w : World) : Prop where
 op : w.cell? ⟨1, 0, none⟩ = some (.bool true)
 fi : FI w
 ch : Cheats w
 pt : PowTab w
 pw : Pow w
 pe : P10 w
 er : ∃ ev, w.cell? ⟨3, 0, none⟩ = some ev ∧ (ev = .nilIface ∨ ∃ te pe, ev = .iface te pe)
theorem Tabs.below {w w' : World} (h : Tabs w) (hb : Below w.heap.size w w') : Tabs w' := by
 obtain ⟨h1, h2, ⟨a, c, h3, h3'⟩, ⟨a2, c2, h4, h4', h4''⟩, h5, ⟨a3, c3, h6, h6'⟩, ev, h7, h7'⟩ := h
 refine ⟨pw_cell_below hb h1, ⟨pw_cell_below hb h2.a, pw_cell_below hb h2.b, pw_cell_below hb h2.c⟩, ⟨a, c, pw_cell_below hb h3, fun k x hk => ⟨pw_cell_below hb (h3' k x hk).1, pw_cell_below hb (h3' k x hk).2⟩⟩, ⟨a2, c2, pw_cell_below hb h4, fun i hi => pw_cell_below hb (h4' i hi), pw_cell_below hb h4''⟩, h5.below hb, ⟨a3, c3, pw_cell_below hb h6, fun i hi => ?_⟩, ev, pw_cell_below hb h7, h7'⟩
 obtain ⟨x, hx⟩ := h6' i hi
 exact ⟨x, pw_cell_below hb hx⟩
theorem cpl_calls (t p : ByteArray) (w : World) (h : 0 < t.size) (hd : 48 ≤ bt t 0 ∧ bt t 0 ≤ 57) (hp : 0 < p.size) (hc : bt p 0 ≥ 97) (hz : t.size < 1000000000) (hz2 : p.size < 100) :
  Calls Tryz.prog 238 #[.string t, .string p] w fun e w' => e = .returned (.int .i64 0) ∧ w = w' := by
 have hb0 : ∀ h : 0 < t.size, ((t[0]'h).toNat : Int) = bt t 0 := bt_at t 0
 have hb1 : ∀ h : 0 < p.size, ((p[0]'h).toNat : Int) = bt p 0 := bt_at p 0
 have x1 : decide (65 ≤ bt t 0) = false := decide_eq_false (by omega)
 have x2 : (bt t 0 != bt p 0) = true := bne_iff_ne.mpr (by omega)
 have hn : 0 < min (p.size : Int) (t.size : Int) := by omega
 obtain ⟨n, hn'⟩ : ∃ n, n = min (p.size : Int) (t.size : Int) := ⟨_, rfl⟩
 go_enter Tryz.func238, Tryz.ntmps238
 go_wp2_with fail
 go_loopg [6, 7] 0 (fun kq v6 v7 w' => v6 = .int .i64 0 ∧ w = w')
 case atStart => exact ⟨rfl, rfl⟩
 case round =>
  obtain ⟨rfl, rfl⟩ := hrel
  go_wp2_with fail
  go_ret
  exact ⟨rfl, rfl⟩
theorem special_calls (s : ByteArray) (a b c : Int) (w : World) (hz : s.size < 1000000000) (N : NumAt s a b c) :
  Calls Tryz.prog 215 #[.string s] w fun e w' => e = .returned (.tuple #[.float .f64 0, .int .i64 0, .bool false]) ∧ w = w' := by
 have hs : 0 < s.size := by rcases N.a0 with h | h <;> (have := N.ab; have := N.bc; have := N.cs; omega)
 have hb0 : ∀ h : 0 < s.size, ((s[0]'h).toNat : Int) = bt s 0 := bt_at s 0
 have hz0 : ((s.size : Int) == 0) = false := beq_eq_false_iff_ne.mpr (by omega)
 rcases N.a0 with rfl | ⟨rfl, h45⟩
 ·have hd0 := N.ints 0 (by omega) N.ab
  have x1 : (bt s 0 == 43) = false := beq_eq_false_iff_ne.mpr (by omega)
  have x2 : (bt s 0 == 45) = false := beq_eq_false_iff_ne.mpr (by omega)
  have x3 : (bt s 0 == 105) = false := beq_eq_false_iff_ne.mpr (by omega)
  have x4 : (bt s 0 == 73) = false := beq_eq_false_iff_ne.mpr (by omega)
  have x5 : (bt s 0 == 110) = false := beq_eq_false_iff_ne.mpr (by omega)
  have x6 : (bt s 0 == 78) = false := beq_eq_false_iff_ne.mpr (by omega)
  clear N
  go_enter Tryz.func215, Tryz.ntmps215
  go_wp2_with fail
  go_ret3
  exact ⟨rfl, rfl⟩
 ·have hd0 := N.ints 1 (by omega) N.ab
  have hs2 : 1 < s.size := by have := N.ab; have := N.bc; have := N.cs; omega
  have x1 : (bt s 0 == 43) = false := beq_eq_false_iff_ne.mpr (by omega)
  have x2 : (bt s 0 == 45) = true := beq_iff_eq.mpr (by omega)
  have e1 : bt (s.extract 1 s.size) 0 = bt s 1 := by
   unfold bt
   rw [dif_pos (by rw [ByteArray.size_extract]; omega), dif_pos (by omega), ByteArray.getElem_extract]
   rfl
  clear N h45
  go_enter Tryz.func215, Tryz.ntmps215
  go_wp2_with fail
  refine (cpl_calls _ _ _ (by rw [ByteArray.size_extract]; omega) (by rw [e1]; exact hd0) (by decide) (by decide) (by rw [ByteArray.size_extract]; omega) (by decide)).mono ?_
  rintro e w' ⟨rfl, rfl⟩
  go_wp2_with fail
  go_ret3
  exact ⟨rfl, rfl⟩
theorem bool2_y (b : Bool) (w : World) : Calls Tryz.prog 224 #[.bool b] w (fun e w' => ∃ y : Int, (0 ≤ y ∧ y ≤ 1) ∧ e = .returned (.int .u64 y) ∧ w = w') :=
 (bool2_same b w).mono fun e w' h => ⟨if b = true then 1 else 0, by split <;> omega, h.1, h.2.symm⟩
theorem below_d {w w2 : World} {n : Nat} (h : Below (w.drewN n).heap.size (w.drewN n) w2) : Below w.heap.size w w2 := (Drawn0.below ⟨n, rfl⟩).trans h
theorem zero202 : Tryz.zeroCells202 = (List.replicate 800 (Value.int .u8 0)).toArray ++ #[.int .i64 0, .int .i64 0, .bool false, .bool false] := by kernel_rfl
theorem rep_at (n : Nat) (v : Value) (ys : Array Value) : (∀ i, i < n → ((List.replicate n v).toArray ++ ys)[i]? = some v) ∧ (∀ i, ((List.replicate n v).toArray ++ ys)[n + i]? = ys[i]?) ∧ ((List.replicate n v).toArray ++ ys).size = n + ys.size := by
 have hs : (List.replicate n v).toArray.size = n := by rw [List.size_toArray, List.length_replicate]
 refine ⟨fun i hi => ?_, fun i => ?_, ?_⟩
 ·rw [Array.getElem?_append_left (by omega), List.getElem?_toArray, List.getElem?_replicate, if_pos hi]
 ·rw [Array.getElem?_append_right (by omega), hs, Nat.add_sub_cancel_left]
 ·rw [Array.size_append, hs]
theorem decC_rep (n : Nat) (h : n = 800) : DecC ((List.replicate n (Value.int .u8 0)).toArray ++ #[.int .i64 0, .int .i64 0, .bool false, .bool false]) (fun _ => 0) 0 0 false false := by
 obtain ⟨h1, h2, h3⟩ := rep_at n (.int .u8 0) #[.int .i64 0, .int .i64 0, .bool false, .bool false]
 subst h
 exact ⟨h3, h1, h2 0, h2 1, h2 2, h2 3⟩
theorem decC_zero : DecC Tryz.zeroCells202 (fun _ => 0) 0 0 false false := by
 rw [zero202]
 exact decC_rep _ rfl
theorem dec_new {w w3 : World} (hb : Below w.heap.size w w3) : Dec w (w3.alloc (.cells Tryz.zeroCells202 202)) w3.heap.size (fun _ => 0) 0 0 false false :=
 ⟨⟨_, heap_alloc_new _ _, decC_zero⟩, hb.size, below_alloc hb _⟩
def FNErr (s : ByteArray) (w : World) (e : Ending) (w' : World) : Prop := ∃ (x : Nat) (v : Value), e = .returned (.tuple #[.float .f64 x, .int .i64 s.size, v]) ∧ (v = .nilIface ∨ v = .iface 181 (.int .i64 1)) ∧ Below w.heap.size w w'
theorem atof64_calls (s : ByteArray) (a b c : Int) (w : World) (hz : s.size < 1000000000) (N : NumAt s a b c) (T : Tabs w) :
  Calls Tryz.prog 184 #[.string s] w (FNErr s w) := by
 have hf := run_frombits
 have hop := T.op
 have HT := Aside0.mk T
 have HN := Aside0.mk N
 clear T N
 go_enter Tryz.func184, Tryz.ntmps184
 go_wp2_with fail
 refine (special_calls s a b c _ hz HN.out).mono ?_
 rintro e w' ⟨rfl, rfl⟩
 go_wp2_with fail
 refine (readFloat_calls s a b c _ hz HN.out).mono ?_
 rintro e w' ⟨m, p, neg, trunc, rfl, ⟨hm0, hm1⟩, ⟨hp0, hp1⟩, hw⟩
 obtain rfl := hw.symm
 clear hw
 go_wp2_with fail
 refine (bool2_y neg _).mono ?_
 rintro e w' ⟨sy, ⟨hsy0, hsy1⟩, rfl, rfl⟩
 by_cases m0 : m = 0
 ·have m0b : (m == 0) = true := beq_iff_eq.mpr m0
  clear m0
  go_wp2_with fail
  go_ret3
  exact ⟨_, _, rfl, .inl rfl, Below.refl _ _⟩
 have m0b : (m == 0) = false := beq_eq_false_iff_ne.mpr m0
 clear m0
 by_cases p1 : 310 < p
 ·go_wp2_with fail
  go_ret3
  exact ⟨_, _, rfl, .inr rfl, Below.refl _ _⟩
 by_cases p2 : p < -345
 ·go_wp2_with fail
  go_ret3
  exact ⟨_, _, rfl, .inl rfl, Below.refl _ _⟩
 cases trunc
 ·go_wp2_with fail
  refine (atof64exact_calls m p neg _ hm0 hm1 (by omega) (by omega) HT.out.fi.a HT.out.pe).mono ?_
  rintro e w' ⟨x, b, rfl, ⟨n1, rfl⟩⟩
  cases b
  ·go_wp2_with fail
   refine (parseFloat64_calls m p _ _ hm0 hm1 (by omega) (by omega) (HT.out.below (Drawn0.below ⟨n1, rfl⟩)).pw).mono ?_
   rintro e w2 ⟨y, v, rfl, hv, hb⟩
   have hB : Below w.heap.size w w2 := below_d hb
   go_wp2_with fail
   go_ret3
   exact ⟨_, _, rfl, hv, hB⟩
  ·go_wp2_with fail
   go_ret3
   exact ⟨_, _, rfl, .inl rfl, Drawn0.below ⟨n1, rfl⟩⟩
 ·go_wp2_with fail
  refine (parseFloat64_calls m p _ _ hm0 hm1 (by omega) (by omega) HT.out.pw).mono ?_
  rintro e w2 ⟨y, v, rfl, hv, hb⟩
  go_wp2_with fail
  have hw1 := wrapu64 (m + 1)
  refine (parseFloat64_calls _ p _ _ hw1.1 hw1.2 (by omega) (by omega) (HT.out.below hb).pw).mono ?_
  rintro e w3 ⟨y2, v2, rfl, hv2, hb2⟩
  have hb3 : Below w.heap.size w w3 := hb.trans (hb2.mono hb.size)
  clear hb hb2
  go_wp2_with fail
  ·go_ret3
   exact ⟨_, _, rfl, hv, hb3⟩
  ·refine (set_calls s a b c w _ w3.heap.size _ _ _ (dec_new hb3) hz HN.out).mono ?_
   rintro e w4 ⟨rfl, d, nd, dp, ng, tr, HD, hn, hd, h0, hdp⟩
   go_wp2_with fail
   refine (floatBits_calls w w4 w3.heap.size d nd dp ng tr HD HT.out.fi HT.out.ch HT.out.pt hn hd h0 hdp).mono ?_
   rintro e w5 ⟨x, ov, rfl, hb5⟩
   cases ov
   ·go_wp2_with fail
    go_ret3
    exact ⟨_, _, rfl, .inl rfl, hb5⟩
   ·go_wp2_with fail
    go_ret3
    exact ⟨_, _, rfl, .inr rfl, hb5⟩
end Go.Proofs.YtgiioglmkogpkaaGreatDoor.F
namespace Go.Proofs.YtgiioglmkogpkaaGreatDoor.F
open Go.RowKit Go.Proofs.YtgiioglmkogpkaaGreatDoorW.PrintWords Go.Proofs.YtgiioglmkogpkaaGreatDoorW.PrintLast Go.Proofs.YtgiioglmkogpkaaGreatDoorW.PrintMore
open M
theorem pfPrefix_calls (s : ByteArray) (a b c : Int) (w : World) (hz : s.size < 1000000000) (N : NumAt s a b c) (T : Tabs w) :
  Calls Tryz.prog 148 #[.string s, .int .i64 64] w (FNErr s w) := by
 have HC := Aside0.mk (atof64_calls s a b c w hz N T)
 clear T N
 go_enter Tryz.func148, Tryz.ntmps148
 go_wp2_with fail
 refine HC.out.mono ?_
 rintro e w' ⟨x, v, rfl, hv, hb⟩
 go_wp2_with fail
 go_ret3
 exact ⟨_, _, rfl, hv, hb⟩
theorem ipf_calls (s : ByteArray) (a b c : Int) (w : World) (hz : s.size < 1000000000) (N : NumAt s a b c) (T : Tabs w) :
  Calls Tryz.prog 120 #[.string s, .int .i64 64] w (FBel w) := by
 have HC := Aside0.mk (pfPrefix_calls s a b c w hz N T)
 clear T N
 go_enter Tryz.func120, Tryz.ntmps120
 go_wp2_with fail
 refine HC.out.mono ?_
 rintro e w' ⟨x, v, rfl, hv, hb⟩
 go_wp2_with fail
 go_ret2
 exact ⟨_, _, rfl, hv, hb⟩
def FAny (w : World) (e : Ending) (w' : World) : Prop := ∃ (x : Nat) (v : Value), e = .returned (.tuple #[.float .f64 x, v]) ∧ Below w.heap.size w w'
theorem pf_calls (s : ByteArray) (a b c : Int) (w : World) (hz : s.size < 1000000000) (N : NumAt s a b c) (T : Tabs w) :
  Calls Tryz.prog 91 #[.string s, .int .i64 64] w (FAny w) := by
 have HC := Aside0.mk (ipf_calls s a b c w hz N T)
 have HT := Aside0.mk T
 clear T N
 go_enter Tryz.func91, Tryz.ntmps91
 go_wp2_with fail
 refine HC.out.mono ?_
 rintro e w' ⟨x, v, rfl, hv, hb⟩
 rcases hv with rfl | rfl
 ·go_wp2_with fail
  go_ret2
  exact ⟨_, _, rfl, hb⟩
 ·obtain ⟨ev, he, hev⟩ := (HT.out.below hb).er
  go_wp2_with fail
  refine (Tryz.strconv_toError_range _ s 0 64 ev w' (by omega) he hev).mono ?_
  rintro e w2 ⟨n, rfl, hn, hbk, hb2⟩
  have hb3 : Below w.heap.size w w2 := hb.trans (hb2.mono hb.size)
  clear hbk hb2 hb
  go_wp2_with fail
  go_ret2
  exact ⟨_, _, rfl, hb3⟩
end Go.Proofs.YtgiioglmkogpkaaGreatDoor.F
namespace Go.Proofs.YtgiioglmkogpkaaGreatDoor.F
open Go.RowKit Go.Proofs.YtgiioglmkogpkaaGreatDoorW.PrintWords Go.Proofs.YtgiioglmkogpkaaGreatDoorW.PrintLast Go.Proofs.YtgiioglmkogpkaaGreatDoorW.PrintMore
open M
set_option maxHeartbeats 4000000
set_option maxRecDepth 8192
def U64P (w : World) (e : Ending) (w' : World) : Prop := ∃ y : Int, (0 ≤ y ∧ y < 18446744073709551616) ∧ e = .returned (.int .u64 y) ∧ w = w'
theorem round_u64 (m : Int) (w : World) : Calls Tryz.prog 199 #[.int .u64 m] w (U64P w) := by
 go_enter Tryz.func199, Tryz.ntmps199
 go_wp2_with fail
 go_ret
 exact ⟨_, by have := wrapu64 (IntKind.u64.wrap (m + 1) + bits BinOp.and IntKind.u64 (m / 4) 1); omega, rfl, rfl⟩
theorem ceil_u64 (m : Int) (w : World) : Calls Tryz.prog 197 #[.int .u64 m] w (U64P w) := by
 go_enter Tryz.func197, Tryz.ntmps197
 go_wp2_with fail
 go_ret
 exact ⟨_, by have := wrapu64 (m + 3); omega, rfl, rfl⟩
theorem floor_u64 (m : Int) (w : World) : Calls Tryz.prog 198 #[.int .u64 m] w (U64P w) := by
 go_enter Tryz.func198, Tryz.ntmps198
 go_wp2_with fail
 go_ret
 exact ⟨_, by have := wrapu64 m; omega, rfl, rfl⟩
theorem nudge_u64 (m d : Int) (w : World) : Calls Tryz.prog 196 #[.int .u64 m, .int .i64 d] w (U64P w) := by
 go_enter Tryz.func196, Tryz.ntmps196
 go_wp2_with fail
 go_ret
 exact ⟨_, wrapu64 _, rfl, rfl⟩
theorem skewed_is (x : Int) (w : World) (h : -3000 ≤ x ∧ x ≤ 3000) : Calls Tryz.prog 192 #[.int .i64 x] w (fun e w' => e = .returned (.int .i64 ((x * 631305 - 261663) / 2097152)) ∧ w = w') := by
 go_enter Tryz.func192, Tryz.ntmps192
 go_wp2_with fail
 go_ret
 exact ⟨rfl, rfl⟩
theorem l10_is (x : Int) (w : World) (h : -3000 ≤ x ∧ x ≤ 3000) : Calls Tryz.prog 166 #[.int .i64 x] w (fun e w' => e = .returned (.int .i64 ((x * 78913) / 262144)) ∧ w = w') := by
 go_enter Tryz.func166, Tryz.ntmps166
 go_wp2_with fail
 go_ret
 exact ⟨rfl, rfl⟩
theorem l2_is (x : Int) (w : World) (h : -3000 ≤ x ∧ x ≤ 3000) : Calls Tryz.prog 194 #[.int .i64 x] w (fun e w' => e = .returned (.int .i64 ((x * 108853) / 32768)) ∧ w = w') := by
 go_enter Tryz.func194, Tryz.ntmps194
 go_wp2_with fail
 go_ret
 exact ⟨rfl, rfl⟩
theorem skewed_v (x y : Int) (w : World) (h : -3000 ≤ x ∧ x ≤ 3000) (hy : (x * 631305 - 261663) / 2097152 = y) : Calls Tryz.prog 192 #[.int .i64 x] w (fun e w' => e = .returned (.int .i64 y) ∧ w = w') := by rw [← hy]; exact skewed_is x w h
theorem l10_v (x y : Int) (w : World) (h : -3000 ≤ x ∧ x ≤ 3000) (hy : x * 78913 / 262144 = y) : Calls Tryz.prog 166 #[.int .i64 x] w (fun e w' => e = .returned (.int .i64 y) ∧ w = w') := by rw [← hy]; exact l10_is x w h
theorem l2_v (x y : Int) (w : World) (h : -3000 ≤ x ∧ x ≤ 3000) (hy : x * 108853 / 32768 = y) : Calls Tryz.prog 194 #[.int .i64 x] w (fun e w' => e = .returned (.int .i64 y) ∧ w = w') := by rw [← hy]; exact l2_is x w h
def SfPost (w : World) (e : Ending) (w' : World) : Prop := ∃ d p : Int, (0 ≤ d ∧ d < 18446744073709551616) ∧ (-400 ≤ p ∧ p ≤ 400) ∧ e = .returned (.tuple #[.int .u64 d, .int .i64 p]) ∧ Below w.heap.size w w'
theorem shortFloat_a (e : Int) (w : World) (he : -1085 < e ∧ e ≤ 960) (T : Pow w) : Calls Tryz.prog 171 #[.int .u64 9223372036854775808, .int .i64 e] w (SfPost w) := by
 obtain ⟨y, hy⟩ : ∃ y, ((e + 11) * 631305 - 261663) / 2097152 = y := ⟨_, rfl⟩
 obtain ⟨q, hq, hn⟩ : ∃ q : Nat, q < 696 ∧ -y = (q : Int) - 348 := ⟨(348 - y).toNat, by omega, by omega⟩
 obtain ⟨lp, hlp⟩ : ∃ lp, ((q : Int) - 348) * 108853 / 32768 = lp := ⟨_, rfl⟩
 obtain ⟨sc, hsc⟩ : ∃ sc, -(e + lp + 3) = sc := ⟨_, rfl⟩
 have hs : 0 ≤ sc ∧ sc < 64 := by omega
 have hlp2 : -1200 ≤ lp ∧ lp ≤ 1200 := by omega
 obtain ⟨hi, hhi⟩ := T (q * 2) (by omega)
 obtain ⟨lo, hlo⟩ := T (q * 2 + 1) (by omega)
 have h7 : 7 < w.heap.size := World.block_lt_of_cell? w _ hhi
 have hA := below_alloc (Below.refl w.heap.size w) (.cells #[.int .u64 0, .int .u64 0, .int .i64 0] 228)
 have HP := Aside0.mk (And.intro (IsS228.new w w 0 0 0 (Below.refl _ _)) (And.intro hA (And.intro (pw_cell_below hA hhi) (pw_cell_below hA hlo))))
 clear hA hhi hlo T
 go_enter Tryz.func171, Tryz.ntmps171
 go_wp2_with (first
   | (go_at_call 192; refine (skewed_v _ _ _ ⟨by omega, by omega⟩ hy).mono ?_; rintro e' w' ⟨rfl, rfl⟩)
   | (go_at_call 166; refine (l10_v _ _ _ ⟨by omega, by omega⟩ hy).mono ?_; rintro e' w' ⟨rfl, rfl⟩)
   | (go_at_call 194; refine (l2_v _ _ _ ⟨by omega, by omega⟩ hlp).mono ?_; rintro e' w' ⟨rfl, rfl⟩)
   | (go_at_call 193; refine (prescale_calls w.heap.size 0 0 0 e lp hi lo q w _ HP.out.1 HP.out.2.1 hq HP.out.2.2.1 HP.out.2.2.2 h7 ⟨by omega, by omega⟩ ⟨by omega, by omega⟩).mono ?_; rintro e' w1 ⟨rfl, hI, hB, hK⟩; rw [hsc] at hI; have HG := Aside0.mk hI.1; have HB := Aside0.mk hB; clear hI hB hK)
   | (go_at_call 195; refine (uscale_calls _ _ hi lo sc _ ?_ hs).mono ?_; exact HG.out; rintro e' w' ⟨y1, hy1, hy2, rfl, ⟨n1, rfl⟩⟩)
   | (go_at_call 196; refine (nudge_u64 _ _ _).mono ?_; rintro e' w' ⟨y2, hy3, rfl, rfl⟩)
   | (go_at_call 197; refine (ceil_u64 _ _).mono ?_; rintro e' w' ⟨y3, hy4, rfl, rfl⟩)
   | (go_at_call 198; refine (floor_u64 _ _).mono ?_; rintro e' w' ⟨y4, hy5, rfl, rfl⟩)
   | (go_at_call 199; refine (round_u64 _ _).mono ?_; rintro e' w' ⟨y5, hy6, rfl, rfl⟩))
 all_goals (go_ret2; exact ⟨_, _, by omega, by omega, rfl, pw_below_drewN HB.out _⟩)
theorem shortFloat_b (m e : Int) (w : World) (he : -1085 ≤ e ∧ e ≤ 960) (hm : 9223372036854775808 ≤ m ∧ m < 18446744073709551616) (hc : (m == 9223372036854775808) = false ∨ decide (-1085 < e) = false) (T : Pow w) : Calls Tryz.prog 171 #[.int .u64 m, .int .i64 e] w (SfPost w) := by
 obtain ⟨y, hy⟩ : ∃ y, (e + 11) * 78913 / 262144 = y := ⟨_, rfl⟩
 obtain ⟨q, hq, hn⟩ : ∃ q : Nat, q < 696 ∧ -y = (q : Int) - 348 := ⟨(348 - y).toNat, by omega, by omega⟩
 obtain ⟨lp, hlp⟩ : ∃ lp, ((q : Int) - 348) * 108853 / 32768 = lp := ⟨_, rfl⟩
 obtain ⟨sc, hsc⟩ : ∃ sc, -(e + lp + 3) = sc := ⟨_, rfl⟩
 have hs : 0 ≤ sc ∧ sc < 64 := by omega
 have hlp2 : -1200 ≤ lp ∧ lp ≤ 1200 := by omega
 obtain ⟨hi, hhi⟩ := T (q * 2) (by omega)
 obtain ⟨lo, hlo⟩ := T (q * 2 + 1) (by omega)
 have h7 : 7 < w.heap.size := World.block_lt_of_cell? w _ hhi
 have hA := below_alloc (Below.refl w.heap.size w) (.cells #[.int .u64 0, .int .u64 0, .int .i64 0] 228)
 have HP := Aside0.mk (And.intro (IsS228.new w w 0 0 0 (Below.refl _ _)) (And.intro hA (And.intro (pw_cell_below hA hhi) (pw_cell_below hA hlo))))
 clear hA hhi hlo T
 rcases hc with hc | hc
 all_goals go_enter Tryz.func171, Tryz.ntmps171
 all_goals go_wp2_with (first
   | (go_at_call 192; refine (skewed_v _ _ _ ⟨by omega, by omega⟩ hy).mono ?_; rintro e' w' ⟨rfl, rfl⟩)
   | (go_at_call 166; refine (l10_v _ _ _ ⟨by omega, by omega⟩ hy).mono ?_; rintro e' w' ⟨rfl, rfl⟩)
   | (go_at_call 194; refine (l2_v _ _ _ ⟨by omega, by omega⟩ hlp).mono ?_; rintro e' w' ⟨rfl, rfl⟩)
   | (go_at_call 193; refine (prescale_calls w.heap.size 0 0 0 e lp hi lo q w _ HP.out.1 HP.out.2.1 hq HP.out.2.2.1 HP.out.2.2.2 h7 ⟨by omega, by omega⟩ ⟨by omega, by omega⟩).mono ?_; rintro e' w1 ⟨rfl, hI, hB, hK⟩; rw [hsc] at hI; have HG := Aside0.mk hI.1; have HB := Aside0.mk hB; clear hI hB hK)
   | (go_at_call 195; refine (uscale_calls _ _ hi lo sc _ ?_ hs).mono ?_; exact HG.out; rintro e' w' ⟨y1, hy1, hy2, rfl, ⟨n1, rfl⟩⟩)
   | (go_at_call 196; refine (nudge_u64 _ _ _).mono ?_; rintro e' w' ⟨y2, hy3, rfl, rfl⟩)
   | (go_at_call 197; refine (ceil_u64 _ _).mono ?_; rintro e' w' ⟨y3, hy4, rfl, rfl⟩)
   | (go_at_call 198; refine (floor_u64 _ _).mono ?_; rintro e' w' ⟨y4, hy5, rfl, rfl⟩)
   | (go_at_call 199; refine (round_u64 _ _).mono ?_; rintro e' w' ⟨y5, hy6, rfl, rfl⟩))
 all_goals (go_ret2; exact ⟨_, _, by omega, by omega, rfl, pw_below_drewN HB.out _⟩)
theorem shortFloat_c (m e : Int) (w : World) (he : -1137 ≤ e ∧ e < -1085) (hm : 9223372036854775808 ≤ m ∧ m < 18446744073709551616) (T : Pow w) : Calls Tryz.prog 171 #[.int .u64 m, .int .i64 e] w (SfPost w) := by
 obtain ⟨y, hy⟩ : ∃ y, (e + (11 + (-1085 - e))) * 78913 / 262144 = y := ⟨_, rfl⟩
 obtain ⟨q, hq, hn⟩ : ∃ q : Nat, q < 696 ∧ -y = (q : Int) - 348 := ⟨(348 - y).toNat, by omega, by omega⟩
 obtain ⟨lp, hlp⟩ : ∃ lp, ((q : Int) - 348) * 108853 / 32768 = lp := ⟨_, rfl⟩
 obtain ⟨sc, hsc⟩ : ∃ sc, -(e + lp + 3) = sc := ⟨_, rfl⟩
 have hs : 0 ≤ sc ∧ sc < 64 := by omega
 have hlp2 : -1200 ≤ lp ∧ lp ≤ 1200 := by omega
 obtain ⟨hi, hhi⟩ := T (q * 2) (by omega)
 obtain ⟨lo, hlo⟩ := T (q * 2 + 1) (by omega)
 have h7 : 7 < w.heap.size := World.block_lt_of_cell? w _ hhi
 have hA := below_alloc (Below.refl w.heap.size w) (.cells #[.int .u64 0, .int .u64 0, .int .i64 0] 228)
 have HP := Aside0.mk (And.intro (IsS228.new w w 0 0 0 (Below.refl _ _)) (And.intro hA (And.intro (pw_cell_below hA hhi) (pw_cell_below hA hlo))))
 clear hA hhi hlo T
 go_enter Tryz.func171, Tryz.ntmps171
 go_wp2_with (first
   | (go_at_call 192; refine (skewed_v _ _ _ ⟨by omega, by omega⟩ hy).mono ?_; rintro e' w' ⟨rfl, rfl⟩)
   | (go_at_call 166; refine (l10_v _ _ _ ⟨by omega, by omega⟩ hy).mono ?_; rintro e' w' ⟨rfl, rfl⟩)
   | (go_at_call 194; refine (l2_v _ _ _ ⟨by omega, by omega⟩ hlp).mono ?_; rintro e' w' ⟨rfl, rfl⟩)
   | (go_at_call 193; refine (prescale_calls w.heap.size 0 0 0 e lp hi lo q w _ HP.out.1 HP.out.2.1 hq HP.out.2.2.1 HP.out.2.2.2 h7 ⟨by omega, by omega⟩ ⟨by omega, by omega⟩).mono ?_; rintro e' w1 ⟨rfl, hI, hB, hK⟩; rw [hsc] at hI; have HG := Aside0.mk hI.1; have HB := Aside0.mk hB; clear hI hB hK)
   | (go_at_call 195; refine (uscale_calls _ _ hi lo sc _ ?_ hs).mono ?_; exact HG.out; rintro e' w' ⟨y1, hy1, hy2, rfl, ⟨n1, rfl⟩⟩)
   | (go_at_call 196; refine (nudge_u64 _ _ _).mono ?_; rintro e' w' ⟨y2, hy3, rfl, rfl⟩)
   | (go_at_call 197; refine (ceil_u64 _ _).mono ?_; rintro e' w' ⟨y3, hy4, rfl, rfl⟩)
   | (go_at_call 198; refine (floor_u64 _ _).mono ?_; rintro e' w' ⟨y4, hy5, rfl, rfl⟩)
   | (go_at_call 199; refine (round_u64 _ _).mono ?_; rintro e' w' ⟨y5, hy6, rfl, rfl⟩))
 all_goals (go_ret2; exact ⟨_, _, by omega, by omega, rfl, pw_below_drewN HB.out _⟩)
theorem shortFloat_calls (m e : Int) (w : World) (he : -1137 ≤ e ∧ e ≤ 960) (hm : 9223372036854775808 ≤ m ∧ m < 18446744073709551616) (T : Pow w) : Calls Tryz.prog 171 #[.int .u64 m, .int .i64 e] w (SfPost w) := by
 by_cases h1 : e < -1085
 ·exact shortFloat_c m e w ⟨he.1, h1⟩ hm T
 ·by_cases h2 : m = 9223372036854775808
  ·by_cases h3 : -1085 < e
   ·subst h2; exact shortFloat_a e w ⟨h3, he.2⟩ T
   ·exact shortFloat_b m e w ⟨by omega, he.2⟩ hm (.inr (decide_eq_false h3)) T
  ·exact shortFloat_b m e w ⟨by omega, he.2⟩ hm (.inl (beq_eq_false_iff_ne.mpr h2)) T
end Go.Proofs.YtgiioglmkogpkaaGreatDoor.F
namespace Go.Proofs.YtgiioglmkogpkaaGreatDoor.F
open Go.RowKit Go.Proofs.YtgiioglmkogpkaaGreatDoorW.PrintWords Go.Proofs.YtgiioglmkogpkaaGreatDoorW.PrintLast Go.Proofs.YtgiioglmkogpkaaGreatDoorW.PrintMore
open M
set_option maxHeartbeats 8000000
set_option maxRecDepth 8192
attribute [local go_sem] max2_int min2_int
theorem info5h : (Tryz.prog.info? 5).map (fun i => (i.zero, i.size, i.bytes)) = some (some (.int .u8 0), 1, 1) := by kernel_rfl
structure St (w0 W : World) (v : Value) (n h L : Nat) : Prop where
 own : ∃ pre : List Int, pre.length = n ∧ W.ownsRow w0.heap.size 5 1 v pre.length (nums .u8 pre)
 be : Below w0.heap.size w0 W
 ne : v.ownBlock ≠ some h
 lt : h < W.heap.size
 dig : ∀ i, i < L → ∃ x : Int, W.cell? ⟨h, i, none⟩ = some (.int .u8 x)
section
variable {o : Oper} {ops : Array Oper} {Q : Exit → Act → World → Prop} {rest : List Oper} {a : Act}
theorem st_append {w0 W : World} {v : Value} {n h L : Nat} (H : St w0 W v n h L) (hn : n ≤ 100000) (hgd : o.guard = none) (s x : Operand)
  (ho : o.op = .call { callee := .builtin .append, args := #[s, x], argTypes := #[103, 103] }) (y : Int) (hs : a.eval s = v) (hx : a.eval x = .slice (some ⟨W.heap.size, 0, none⟩) 1 1)
  (k : ∀ v1 w1, St w0 w1 v1 (n + 1) h L → wpList Tryz.prog ops Q rest (a.put o.dst v1) w1) :
  wpList Tryz.prog ops Q (o :: rest) a (W.alloc (.cells #[.int .u8 y] 5)) := by
 obtain ⟨pre, hl, hown⟩ := H.own
 refine print_append_num (w0 := w0) w0.heap.size hgd s x 103 5 .u8 1 ho Tryz.underlying103 info5h (by decide) v pre y hs hx hown H.be H.be.size (by omega) ?_
 intro v1 w1 hown1 hB1 hg1 hat1
 refine k v1 w1 ⟨⟨pre ++ [y], by simp [hl], hown1⟩, hB1, ?_, Nat.lt_of_lt_of_le H.lt hg1.size, ?_⟩
 ·rcases hat1 with e | ⟨b, e, hb⟩
  ·rw [e]; exact H.ne
  ·rw [e]; intro q; cases q; exact absurd H.lt (by omega)
 ·intro i hi
  obtain ⟨x, hx⟩ := H.dig i hi
  exact ⟨x, hg1.cell hx (fun q => H.ne q.symm)⟩
end
def EfPost (w0 : World) (n h L : Nat) (e : Ending) (w' : World) : Prop := ∃ (v' : Value) (n' : Nat), e = .returned v' ∧ n' ≤ n + 4000 ∧ St w0 w' v' n' h L
theorem fmt0_calls (w0 w : World) (v : Value) (n h L : Nat) (neg : Bool) (H : St w0 w v n h L) (hn : n ≤ 1000) :
  Calls Tryz.prog 161 #[v, .bool neg, .slice none 0 0, .int .i64 0, .int .i64 0, .int .i64 (-1), .int .u8 102, .bool true] w (EfPost w0 n h L) := by
 have HS := Aside0.mk H
 clear H
 cases neg
 ·go_enter Tryz.func161, Tryz.ntmps161
  go_wp2_with (first | (at_builtin; refine st_append HS.out (by omega) rfl _ _ rfl _ rfl rfl ?_; intro v1 w1 hs1; have HS1 := Aside0.mk hs1; clear hs1))
  go_ret
  exact ⟨_, _, rfl, by omega, HS1.out⟩
 ·go_enter Tryz.func161, Tryz.ntmps161
  go_wp2_with (first | (at_builtin; refine st_append HS1.out (by omega) rfl _ _ rfl _ rfl rfl ?_; intro v1 w1 hs1; have HS2 := Aside0.mk hs1; clear hs1) | (at_builtin; refine st_append HS.out (by omega) rfl _ _ rfl _ rfl rfl ?_; intro v1 w1 hs1; have HS1 := Aside0.mk hs1; clear hs1))
  go_ret
  exact ⟨_, _, rfl, by omega, HS2.out⟩
theorem fmtf_zero (w0 w : World) (v : Value) (n h L d : Nat) (neg : Bool) (dp prec : Int) (H : St w0 w v n h L) (hn : n ≤ 1000) (hd : d ≤ L) (hL : 0 < L ∧ L ≤ 100) (hdp : -500 ≤ dp ∧ dp ≤ 500) (hp : 0 < prec ∧ prec ≤ 600) (h0 : dp ≤ 0) :
  Calls Tryz.prog 161 #[v, .bool neg, .slice (some ⟨h, 0, none⟩) L L, .int .i64 dp, .int .i64 d, .int .i64 prec, .int .u8 102, .bool true] w (EfPost w0 n h L) := by
 obtain ⟨k, hk⟩ : ∃ k : Nat, min prec (max 0 (-dp)) = (k : Int) := ⟨(min prec (max 0 (-dp))).toNat, by omega⟩
 obtain ⟨st, hst⟩ : ∃ st : Int, dp + (k : Int) = st := ⟨_, rfl⟩
 obtain ⟨m2, hm2⟩ : ∃ m2 : Nat, min (prec - (k : Int)) (max 0 ((d : Int) - st)) = (m2 : Int) := ⟨(min (prec - (k : Int)) (max 0 ((d : Int) - st))).toNat, by omega⟩
 obtain ⟨r, hr⟩ : ∃ r : Nat, max 0 (prec - (k : Int) - (m2 : Int)) = (r : Int) := ⟨(max 0 (prec - (k : Int) - (m2 : Int))).toNat, by omega⟩
 have hb1 : k ≤ 600 ∧ m2 ≤ 600 ∧ r ≤ 600 := by omega
 have hb2 : ∀ j : Nat, j < m2 → 0 ≤ st + (j : Int) ∧ (st + (j : Int)).toNat < L ∧ st + (j : Int) < (L : Int) := by intro j hj; omega
 have hb3 : -1000 ≤ st ∧ st ≤ 1200 := by omega
 have HB2 := Aside0.mk hb2
 clear hb2
 have HS := Aside0.mk H
 clear H
 have y1 : decide (0 < dp) = false := decide_eq_false (by omega)
 have x1 : decide (0 < prec) = true := decide_eq_true hp.1
 cases neg
 ·go_enter Tryz.func161, Tryz.ntmps161
  go_wp2_with (first | (at_builtin; refine st_append HS1.out (by omega) rfl _ _ rfl _ rfl rfl ?_; intro v1 w1 hs1; have HS2 := Aside0.mk hs1; clear hs1) | (at_builtin; refine st_append HS.out (by omega) rfl _ _ rfl _ rfl rfl ?_; intro v1 w1 hs1; have HS1 := Aside0.mk hs1; clear hs1))
  go_loopg [0, 240] k (fun kq v0 v240 w' => ∃ (j n' : Nat), v240 = .int .i64 (j : Int) ∧ kq + j = k ∧ n' ≤ (n + 2) + j ∧ Aside0 (St w0 w' v0 n' h L))
  case atStart => exact ⟨0, _, rfl, by omega, by omega, HS2⟩
  case round =>
   obtain ⟨j, n2, rfl, hj, hn2, HL⟩ := hrel
   by_cases hlt : j < k
   ·go_wp2_with (first | (at_builtin; refine st_append HL.out (by omega) rfl _ _ rfl _ rfl rfl ?_; intro v1 w1 hs1; have HL1 := Aside0.mk hs1; clear hs1))
    go_roundg (gk - 1)
    case measure => omega
    case rel => exact ⟨j + 1, _, rfl, by omega, by omega, HL1⟩
   ·have hn3 : n2 ≤ (n + 2) + k := by omega
    go_wp2_with fail
    go_loopg [0, 30, 247] m2 (fun kq v0 v30 v247 w' => ∃ (j n' : Nat), v247 = .int .i64 (j : Int) ∧ kq + j = m2 ∧ n' ≤ (n + 2) + k + j ∧ Aside0 (St w0 w' v0 n' h L))
    case atStart => exact ⟨0, _, rfl, by omega, by omega, HL⟩
    case round =>
     obtain ⟨j5, n5, rfl, hj5, hn5, HL5⟩ := hrel
     by_cases hlt5 : j5 < m2
     ·obtain ⟨hb4, hb5, hb6⟩ := HB2.out j5 hlt5
      obtain ⟨x, hx⟩ := HL5.out.dig _ hb5
      go_wp2_with (first | (at_builtin; refine st_append HL5.out (by omega) rfl _ _ rfl _ rfl rfl ?_; intro v1 w1 hs1; have HL51 := Aside0.mk hs1; clear hs1))
      go_roundg (gk - 1)
      case measure => omega
      case rel => exact ⟨j5 + 1, _, rfl, by omega, by omega, HL51⟩
     ·have hn6 : n5 ≤ (n + 2) + k + m2 := by omega
      go_wp2_with fail
      go_loopg [0, 261] r (fun kq v0 v261 w' => ∃ (j n' : Nat), v261 = .int .i64 (j : Int) ∧ kq + j = r ∧ n' ≤ (n + 2) + k + m2 + j ∧ Aside0 (St w0 w' v0 n' h L))
      case atStart => exact ⟨0, _, rfl, by omega, by omega, HL5⟩
      case round =>
       obtain ⟨j7, n7, rfl, hj7, hn7, HL7⟩ := hrel
       by_cases hlt7 : j7 < r
       ·go_wp2_with (first | (at_builtin; refine st_append HL7.out (by omega) rfl _ _ rfl _ rfl rfl ?_; intro v1 w1 hs1; have HL71 := Aside0.mk hs1; clear hs1))
        go_roundg (gk - 1)
        case measure => omega
        case rel => exact ⟨j7 + 1, _, rfl, by omega, by omega, HL71⟩
       ·go_wp2_with fail
        go_ret
        exact ⟨_, _, rfl, by omega, HL7.out⟩
 ·go_enter Tryz.func161, Tryz.ntmps161
  go_wp2_with (first | (at_builtin; refine st_append HS2.out (by omega) rfl _ _ rfl _ rfl rfl ?_; intro v1 w1 hs1; have HS3 := Aside0.mk hs1; clear hs1) | (at_builtin; refine st_append HS1.out (by omega) rfl _ _ rfl _ rfl rfl ?_; intro v1 w1 hs1; have HS2 := Aside0.mk hs1; clear hs1) | (at_builtin; refine st_append HS.out (by omega) rfl _ _ rfl _ rfl rfl ?_; intro v1 w1 hs1; have HS1 := Aside0.mk hs1; clear hs1))
  go_loopg [0, 240] k (fun kq v0 v240 w' => ∃ (j n' : Nat), v240 = .int .i64 (j : Int) ∧ kq + j = k ∧ n' ≤ (n + 3) + j ∧ Aside0 (St w0 w' v0 n' h L))
  case atStart => exact ⟨0, _, rfl, by omega, by omega, HS3⟩
  case round =>
   obtain ⟨j, n2, rfl, hj, hn2, HL⟩ := hrel
   by_cases hlt : j < k
   ·go_wp2_with (first | (at_builtin; refine st_append HL.out (by omega) rfl _ _ rfl _ rfl rfl ?_; intro v1 w1 hs1; have HL1 := Aside0.mk hs1; clear hs1))
    go_roundg (gk - 1)
    case measure => omega
    case rel => exact ⟨j + 1, _, rfl, by omega, by omega, HL1⟩
   ·have hn3 : n2 ≤ (n + 3) + k := by omega
    go_wp2_with fail
    go_loopg [0, 30, 247] m2 (fun kq v0 v30 v247 w' => ∃ (j n' : Nat), v247 = .int .i64 (j : Int) ∧ kq + j = m2 ∧ n' ≤ (n + 3) + k + j ∧ Aside0 (St w0 w' v0 n' h L))
    case atStart => exact ⟨0, _, rfl, by omega, by omega, HL⟩
    case round =>
     obtain ⟨j5, n5, rfl, hj5, hn5, HL5⟩ := hrel
     by_cases hlt5 : j5 < m2
     ·obtain ⟨hb4, hb5, hb6⟩ := HB2.out j5 hlt5
      obtain ⟨x, hx⟩ := HL5.out.dig _ hb5
      go_wp2_with (first | (at_builtin; refine st_append HL5.out (by omega) rfl _ _ rfl _ rfl rfl ?_; intro v1 w1 hs1; have HL51 := Aside0.mk hs1; clear hs1))
      go_roundg (gk - 1)
      case measure => omega
      case rel => exact ⟨j5 + 1, _, rfl, by omega, by omega, HL51⟩
     ·have hn6 : n5 ≤ (n + 3) + k + m2 := by omega
      go_wp2_with fail
      go_loopg [0, 261] r (fun kq v0 v261 w' => ∃ (j n' : Nat), v261 = .int .i64 (j : Int) ∧ kq + j = r ∧ n' ≤ (n + 3) + k + m2 + j ∧ Aside0 (St w0 w' v0 n' h L))
      case atStart => exact ⟨0, _, rfl, by omega, by omega, HL5⟩
      case round =>
       obtain ⟨j7, n7, rfl, hj7, hn7, HL7⟩ := hrel
       by_cases hlt7 : j7 < r
       ·go_wp2_with (first | (at_builtin; refine st_append HL7.out (by omega) rfl _ _ rfl _ rfl rfl ?_; intro v1 w1 hs1; have HL71 := Aside0.mk hs1; clear hs1))
        go_roundg (gk - 1)
        case measure => omega
        case rel => exact ⟨j7 + 1, _, rfl, by omega, by omega, HL71⟩
       ·go_wp2_with fail
        go_ret
        exact ⟨_, _, rfl, by omega, HL7.out⟩
theorem fmtf_nop (w0 w : World) (v : Value) (n h L d : Nat) (neg : Bool) (dp prec : Int) (H : St w0 w v n h L) (hn : n ≤ 1000) (hd : d ≤ L) (hL : 0 < L ∧ L ≤ 100) (hdp : -500 ≤ dp ∧ dp ≤ 500) (hp : prec = 0) (h0 : dp ≤ 0) :
  Calls Tryz.prog 161 #[v, .bool neg, .slice (some ⟨h, 0, none⟩) L L, .int .i64 dp, .int .i64 d, .int .i64 prec, .int .u8 102, .bool true] w (EfPost w0 n h L) := by
 have HS := Aside0.mk H
 clear H
 subst hp
 have y1 : decide (0 < dp) = false := decide_eq_false (by omega)
 cases neg
 ·go_enter Tryz.func161, Tryz.ntmps161
  go_wp2_with (first | (at_builtin; refine st_append HS.out (by omega) rfl _ _ rfl _ rfl rfl ?_; intro v1 w1 hs1; have HS1 := Aside0.mk hs1; clear hs1))
  go_ret
  exact ⟨_, _, rfl, by omega, HS1.out⟩
 ·go_enter Tryz.func161, Tryz.ntmps161
  go_wp2_with (first | (at_builtin; refine st_append HS1.out (by omega) rfl _ _ rfl _ rfl rfl ?_; intro v1 w1 hs1; have HS2 := Aside0.mk hs1; clear hs1) | (at_builtin; refine st_append HS.out (by omega) rfl _ _ rfl _ rfl rfl ?_; intro v1 w1 hs1; have HS1 := Aside0.mk hs1; clear hs1))
  go_ret
  exact ⟨_, _, rfl, by omega, HS2.out⟩
theorem fmtf_pos0 (w0 w : World) (v : Value) (n h L d : Nat) (neg : Bool) (dp prec : Int) (H : St w0 w v n h L) (hn : n ≤ 1000) (hd : d ≤ L) (hL : 0 < L ∧ L ≤ 100) (hdp : -500 ≤ dp ∧ dp ≤ 500) (hp : prec = 0) (h0 : 0 < dp) :
  Calls Tryz.prog 161 #[v, .bool neg, .slice (some ⟨h, 0, none⟩) L L, .int .i64 dp, .int .i64 d, .int .i64 prec, .int .u8 102, .bool true] w (EfPost w0 n h L) := by
 obtain ⟨m, hm⟩ : ∃ m : Nat, min (d : Int) dp = (m : Int) := ⟨(min (d : Int) dp).toNat, by omega⟩
 obtain ⟨q, hq⟩ : ∃ q : Nat, dp - (m : Int) = (q : Int) := ⟨(dp - (m : Int)).toNat, by omega⟩
 have hb0 : m ≤ 500 ∧ q ≤ 500 ∧ m ≤ L ∧ (m : Int) ≤ L := by omega
 have y1 : decide (0 < dp) = true := decide_eq_true h0
 have HS := Aside0.mk H
 clear H
 subst hp
 cases neg
 ·go_enter Tryz.func161, Tryz.ntmps161
  go_wp2_with fail
  go_loopg [0, 25, 191] m (fun kq v0 v25 v191 w' => ∃ (j n' : Nat), v191 = .int .i64 (j : Int) ∧ kq + j = m ∧ n' ≤ n + j ∧ Aside0 (St w0 w' v0 n' h L))
  case atStart => exact ⟨0, _, rfl, by omega, by omega, HS⟩
  case round =>
   obtain ⟨ja, na, rfl, hja, hna, HA⟩ := hrel
   by_cases hlta : ja < m
   ·have hbL : ja < L := by omega
    obtain ⟨xa, hxa⟩ := HA.out.dig ja hbL
    go_wp2_with (first | (at_builtin; refine st_append HA.out (by omega) rfl _ _ rfl _ rfl rfl ?_; intro v1 w1 hs1; have HA1 := Aside0.mk hs1; clear hs1))
    go_roundg (gk - 1)
    case measure => omega
    case rel => exact ⟨ja + 1, _, rfl, by omega, by omega, HA1⟩
   ·have hna2 : na ≤ n + m := by omega
    go_wp2_with fail
    go_loopg [0, 203] q (fun kq v0 v203 w' => ∃ (j n' : Nat), v203 = .int .i64 (j : Int) ∧ kq + j = q ∧ n' ≤ n + m + j ∧ Aside0 (St w0 w' v0 n' h L))
    case atStart => exact ⟨0, _, rfl, by omega, by omega, HA⟩
    case round =>
     obtain ⟨jb, nb, rfl, hjb, hnb, HC⟩ := hrel
     by_cases hltb : jb < q
     ·go_wp2_with (first | (at_builtin; refine st_append HC.out (by omega) rfl _ _ rfl _ rfl rfl ?_; intro v1 w1 hs1; have HC1 := Aside0.mk hs1; clear hs1))
      go_roundg (gk - 1)
      case measure => omega
      case rel => exact ⟨jb + 1, _, rfl, by omega, by omega, HC1⟩
     ·have hnb2 : nb ≤ n + m + q := by omega
      go_wp2_with fail
      go_ret
      exact ⟨_, _, rfl, by omega, HC.out⟩
 ·go_enter Tryz.func161, Tryz.ntmps161
  go_wp2_with (first | (at_builtin; refine st_append HS.out (by omega) rfl _ _ rfl _ rfl rfl ?_; intro v1 w1 hs1; have HS1 := Aside0.mk hs1; clear hs1))
  go_loopg [0, 25, 191] m (fun kq v0 v25 v191 w' => ∃ (j n' : Nat), v191 = .int .i64 (j : Int) ∧ kq + j = m ∧ n' ≤ (n + 1) + j ∧ Aside0 (St w0 w' v0 n' h L))
  case atStart => exact ⟨0, _, rfl, by omega, by omega, HS1⟩
  case round =>
   obtain ⟨ja, na, rfl, hja, hna, HA⟩ := hrel
   by_cases hlta : ja < m
   ·have hbL : ja < L := by omega
    obtain ⟨xa, hxa⟩ := HA.out.dig ja hbL
    go_wp2_with (first | (at_builtin; refine st_append HA.out (by omega) rfl _ _ rfl _ rfl rfl ?_; intro v1 w1 hs1; have HA1 := Aside0.mk hs1; clear hs1))
    go_roundg (gk - 1)
    case measure => omega
    case rel => exact ⟨ja + 1, _, rfl, by omega, by omega, HA1⟩
   ·have hna2 : na ≤ (n + 1) + m := by omega
    go_wp2_with fail
    go_loopg [0, 203] q (fun kq v0 v203 w' => ∃ (j n' : Nat), v203 = .int .i64 (j : Int) ∧ kq + j = q ∧ n' ≤ (n + 1) + m + j ∧ Aside0 (St w0 w' v0 n' h L))
    case atStart => exact ⟨0, _, rfl, by omega, by omega, HA⟩
    case round =>
     obtain ⟨jb, nb, rfl, hjb, hnb, HC⟩ := hrel
     by_cases hltb : jb < q
     ·go_wp2_with (first | (at_builtin; refine st_append HC.out (by omega) rfl _ _ rfl _ rfl rfl ?_; intro v1 w1 hs1; have HC1 := Aside0.mk hs1; clear hs1))
      go_roundg (gk - 1)
      case measure => omega
      case rel => exact ⟨jb + 1, _, rfl, by omega, by omega, HC1⟩
     ·have hnb2 : nb ≤ (n + 1) + m + q := by omega
      go_wp2_with fail
      go_ret
      exact ⟨_, _, rfl, by omega, HC.out⟩
theorem fmtf_pos1 (w0 w : World) (v : Value) (n h L d : Nat) (neg : Bool) (dp prec : Int) (H : St w0 w v n h L) (hn : n ≤ 1000) (hd : d ≤ L) (hL : 0 < L ∧ L ≤ 100) (hdp : -500 ≤ dp ∧ dp ≤ 500) (hp : 0 < prec ∧ prec ≤ 600) (h0 : 0 < dp) :
  Calls Tryz.prog 161 #[v, .bool neg, .slice (some ⟨h, 0, none⟩) L L, .int .i64 dp, .int .i64 d, .int .i64 prec, .int .u8 102, .bool true] w (EfPost w0 n h L) := by
 obtain ⟨k, hk⟩ : ∃ k : Nat, min prec (max 0 (-dp)) = (k : Int) := ⟨(min prec (max 0 (-dp))).toNat, by omega⟩
 obtain ⟨st, hst⟩ : ∃ st : Int, dp + (k : Int) = st := ⟨_, rfl⟩
 obtain ⟨m2, hm2⟩ : ∃ m2 : Nat, min (prec - (k : Int)) (max 0 ((d : Int) - st)) = (m2 : Int) := ⟨(min (prec - (k : Int)) (max 0 ((d : Int) - st))).toNat, by omega⟩
 obtain ⟨r, hr⟩ : ∃ r : Nat, max 0 (prec - (k : Int) - (m2 : Int)) = (r : Int) := ⟨(max 0 (prec - (k : Int) - (m2 : Int))).toNat, by omega⟩
 have hb1 : k ≤ 600 ∧ m2 ≤ 600 ∧ r ≤ 600 := by omega
 have hb2 : ∀ j : Nat, j < m2 → 0 ≤ st + (j : Int) ∧ (st + (j : Int)).toNat < L ∧ st + (j : Int) < (L : Int) := by intro j hj; omega
 have hb3 : -1000 ≤ st ∧ st ≤ 1200 := by omega
 have HB2 := Aside0.mk hb2
 clear hb2
 obtain ⟨m, hm⟩ : ∃ m : Nat, min (d : Int) dp = (m : Int) := ⟨(min (d : Int) dp).toNat, by omega⟩
 obtain ⟨q, hq⟩ : ∃ q : Nat, dp - (m : Int) = (q : Int) := ⟨(dp - (m : Int)).toNat, by omega⟩
 have hb0 : m ≤ 500 ∧ q ≤ 500 ∧ m ≤ L ∧ (m : Int) ≤ L := by omega
 have y1 : decide (0 < dp) = true := decide_eq_true h0
 have HS := Aside0.mk H
 clear H
 have x1 : decide (0 < prec) = true := decide_eq_true hp.1
 cases neg
 ·go_enter Tryz.func161, Tryz.ntmps161
  go_wp2_with fail
  go_loopg [0, 25, 191] m (fun kq v0 v25 v191 w' => ∃ (j n' : Nat), v191 = .int .i64 (j : Int) ∧ kq + j = m ∧ n' ≤ n + j ∧ Aside0 (St w0 w' v0 n' h L))
  case atStart => exact ⟨0, _, rfl, by omega, by omega, HS⟩
  case round =>
   obtain ⟨ja, na, rfl, hja, hna, HA⟩ := hrel
   by_cases hlta : ja < m
   ·have hbL : ja < L := by omega
    obtain ⟨xa, hxa⟩ := HA.out.dig ja hbL
    go_wp2_with (first | (at_builtin; refine st_append HA.out (by omega) rfl _ _ rfl _ rfl rfl ?_; intro v1 w1 hs1; have HA1 := Aside0.mk hs1; clear hs1))
    go_roundg (gk - 1)
    case measure => omega
    case rel => exact ⟨ja + 1, _, rfl, by omega, by omega, HA1⟩
   ·have hna2 : na ≤ n + m := by omega
    go_wp2_with fail
    go_loopg [0, 203] q (fun kq v0 v203 w' => ∃ (j n' : Nat), v203 = .int .i64 (j : Int) ∧ kq + j = q ∧ n' ≤ n + m + j ∧ Aside0 (St w0 w' v0 n' h L))
    case atStart => exact ⟨0, _, rfl, by omega, by omega, HA⟩
    case round =>
     obtain ⟨jb, nb, rfl, hjb, hnb, HC⟩ := hrel
     by_cases hltb : jb < q
     ·go_wp2_with (first | (at_builtin; refine st_append HC.out (by omega) rfl _ _ rfl _ rfl rfl ?_; intro v1 w1 hs1; have HC1 := Aside0.mk hs1; clear hs1))
      go_roundg (gk - 1)
      case measure => omega
      case rel => exact ⟨jb + 1, _, rfl, by omega, by omega, HC1⟩
     ·have hnb2 : nb ≤ n + m + q := by omega
      go_wp2_with (first | (at_builtin; refine st_append HC.out (by omega) rfl _ _ rfl _ rfl rfl ?_; intro v1 w1 hs1; have HC1 := Aside0.mk hs1; clear hs1))
      go_loopg [0, 240] k (fun kq v0 v240 w' => ∃ (j n' : Nat), v240 = .int .i64 (j : Int) ∧ kq + j = k ∧ n' ≤ (n + m + q + 1) + j ∧ Aside0 (St w0 w' v0 n' h L))
      case atStart => exact ⟨0, _, rfl, by omega, by omega, HC1⟩
      case round =>
       obtain ⟨j, n2, rfl, hj, hn2, HL⟩ := hrel
       by_cases hlt : j < k
       ·exfalso; omega
       ·have hn3 : n2 ≤ (n + m + q + 1) + k := by omega
        go_wp2_with fail
        go_loopg [0, 30, 247] m2 (fun kq v0 v30 v247 w' => ∃ (j n' : Nat), v247 = .int .i64 (j : Int) ∧ kq + j = m2 ∧ n' ≤ (n + m + q + 1) + k + j ∧ Aside0 (St w0 w' v0 n' h L))
        case atStart => exact ⟨0, _, rfl, by omega, by omega, HL⟩
        case round =>
         obtain ⟨j5, n5, rfl, hj5, hn5, HL5⟩ := hrel
         by_cases hlt5 : j5 < m2
         ·obtain ⟨hb4, hb5, hb6⟩ := HB2.out j5 hlt5
          obtain ⟨x, hx⟩ := HL5.out.dig _ hb5
          go_wp2_with (first | (at_builtin; refine st_append HL5.out (by omega) rfl _ _ rfl _ rfl rfl ?_; intro v1 w1 hs1; have HL51 := Aside0.mk hs1; clear hs1))
          go_roundg (gk - 1)
          case measure => omega
          case rel => exact ⟨j5 + 1, _, rfl, by omega, by omega, HL51⟩
         ·have hn6 : n5 ≤ (n + m + q + 1) + k + m2 := by omega
          go_wp2_with fail
          go_loopg [0, 261] r (fun kq v0 v261 w' => ∃ (j n' : Nat), v261 = .int .i64 (j : Int) ∧ kq + j = r ∧ n' ≤ (n + m + q + 1) + k + m2 + j ∧ Aside0 (St w0 w' v0 n' h L))
          case atStart => exact ⟨0, _, rfl, by omega, by omega, HL5⟩
          case round =>
           obtain ⟨j7, n7, rfl, hj7, hn7, HL7⟩ := hrel
           by_cases hlt7 : j7 < r
           ·go_wp2_with (first | (at_builtin; refine st_append HL7.out (by omega) rfl _ _ rfl _ rfl rfl ?_; intro v1 w1 hs1; have HL71 := Aside0.mk hs1; clear hs1))
            go_roundg (gk - 1)
            case measure => omega
            case rel => exact ⟨j7 + 1, _, rfl, by omega, by omega, HL71⟩
           ·go_wp2_with fail
            go_ret
            exact ⟨_, _, rfl, by omega, HL7.out⟩
 ·go_enter Tryz.func161, Tryz.ntmps161
  go_wp2_with (first | (at_builtin; refine st_append HS.out (by omega) rfl _ _ rfl _ rfl rfl ?_; intro v1 w1 hs1; have HS1 := Aside0.mk hs1; clear hs1))
  go_loopg [0, 25, 191] m (fun kq v0 v25 v191 w' => ∃ (j n' : Nat), v191 = .int .i64 (j : Int) ∧ kq + j = m ∧ n' ≤ (n + 1) + j ∧ Aside0 (St w0 w' v0 n' h L))
  case atStart => exact ⟨0, _, rfl, by omega, by omega, HS1⟩
  case round =>
   obtain ⟨ja, na, rfl, hja, hna, HA⟩ := hrel
   by_cases hlta : ja < m
   ·have hbL : ja < L := by omega
    obtain ⟨xa, hxa⟩ := HA.out.dig ja hbL
    go_wp2_with (first | (at_builtin; refine st_append HA.out (by omega) rfl _ _ rfl _ rfl rfl ?_; intro v1 w1 hs1; have HA1 := Aside0.mk hs1; clear hs1))
    go_roundg (gk - 1)
    case measure => omega
    case rel => exact ⟨ja + 1, _, rfl, by omega, by omega, HA1⟩
   ·have hna2 : na ≤ (n + 1) + m := by omega
    go_wp2_with fail
    go_loopg [0, 203] q (fun kq v0 v203 w' => ∃ (j n' : Nat), v203 = .int .i64 (j : Int) ∧ kq + j = q ∧ n' ≤ (n + 1) + m + j ∧ Aside0 (St w0 w' v0 n' h L))
    case atStart => exact ⟨0, _, rfl, by omega, by omega, HA⟩
    case round =>
     obtain ⟨jb, nb, rfl, hjb, hnb, HC⟩ := hrel
     by_cases hltb : jb < q
     ·go_wp2_with (first | (at_builtin; refine st_append HC.out (by omega) rfl _ _ rfl _ rfl rfl ?_; intro v1 w1 hs1; have HC1 := Aside0.mk hs1; clear hs1))
      go_roundg (gk - 1)
      case measure => omega
      case rel => exact ⟨jb + 1, _, rfl, by omega, by omega, HC1⟩
     ·have hnb2 : nb ≤ (n + 1) + m + q := by omega
      go_wp2_with (first | (at_builtin; refine st_append HC.out (by omega) rfl _ _ rfl _ rfl rfl ?_; intro v1 w1 hs1; have HC1 := Aside0.mk hs1; clear hs1))
      go_loopg [0, 240] k (fun kq v0 v240 w' => ∃ (j n' : Nat), v240 = .int .i64 (j : Int) ∧ kq + j = k ∧ n' ≤ (n + 1 + m + q + 1) + j ∧ Aside0 (St w0 w' v0 n' h L))
      case atStart => exact ⟨0, _, rfl, by omega, by omega, HC1⟩
      case round =>
       obtain ⟨j, n2, rfl, hj, hn2, HL⟩ := hrel
       by_cases hlt : j < k
       ·exfalso; omega
       ·have hn3 : n2 ≤ (n + 1 + m + q + 1) + k := by omega
        go_wp2_with fail
        go_loopg [0, 30, 247] m2 (fun kq v0 v30 v247 w' => ∃ (j n' : Nat), v247 = .int .i64 (j : Int) ∧ kq + j = m2 ∧ n' ≤ (n + 1 + m + q + 1) + k + j ∧ Aside0 (St w0 w' v0 n' h L))
        case atStart => exact ⟨0, _, rfl, by omega, by omega, HL⟩
        case round =>
         obtain ⟨j5, n5, rfl, hj5, hn5, HL5⟩ := hrel
         by_cases hlt5 : j5 < m2
         ·obtain ⟨hb4, hb5, hb6⟩ := HB2.out j5 hlt5
          obtain ⟨x, hx⟩ := HL5.out.dig _ hb5
          go_wp2_with (first | (at_builtin; refine st_append HL5.out (by omega) rfl _ _ rfl _ rfl rfl ?_; intro v1 w1 hs1; have HL51 := Aside0.mk hs1; clear hs1))
          go_roundg (gk - 1)
          case measure => omega
          case rel => exact ⟨j5 + 1, _, rfl, by omega, by omega, HL51⟩
         ·have hn6 : n5 ≤ (n + 1 + m + q + 1) + k + m2 := by omega
          go_wp2_with fail
          go_loopg [0, 261] r (fun kq v0 v261 w' => ∃ (j n' : Nat), v261 = .int .i64 (j : Int) ∧ kq + j = r ∧ n' ≤ (n + 1 + m + q + 1) + k + m2 + j ∧ Aside0 (St w0 w' v0 n' h L))
          case atStart => exact ⟨0, _, rfl, by omega, by omega, HL5⟩
          case round =>
           obtain ⟨j7, n7, rfl, hj7, hn7, HL7⟩ := hrel
           by_cases hlt7 : j7 < r
           ·go_wp2_with (first | (at_builtin; refine st_append HL7.out (by omega) rfl _ _ rfl _ rfl rfl ?_; intro v1 w1 hs1; have HL71 := Aside0.mk hs1; clear hs1))
            go_roundg (gk - 1)
            case measure => omega
            case rel => exact ⟨j7 + 1, _, rfl, by omega, by omega, HL71⟩
           ·go_wp2_with fail
            go_ret
            exact ⟨_, _, rfl, by omega, HL7.out⟩
theorem fmtf_calls (w0 w : World) (v : Value) (n h L d : Nat) (neg : Bool) (dp prec : Int) (H : St w0 w v n h L) (hn : n ≤ 1000) (hd : d ≤ L) (hL : 0 < L ∧ L ≤ 100) (hdp : -500 ≤ dp ∧ dp ≤ 500) (hp : 0 ≤ prec ∧ prec ≤ 600) :
  Calls Tryz.prog 161 #[v, .bool neg, .slice (some ⟨h, 0, none⟩) L L, .int .i64 dp, .int .i64 d, .int .i64 prec, .int .u8 102, .bool true] w (EfPost w0 n h L) := by
 by_cases h0 : 0 < dp <;> by_cases h1 : prec = 0
 ·exact fmtf_pos0 w0 w v n h L d neg dp prec H hn hd hL hdp h1 h0
 ·exact fmtf_pos1 w0 w v n h L d neg dp prec H hn hd hL hdp (by omega) h0
 ·exact fmtf_nop w0 w v n h L d neg dp prec H hn hd hL hdp h1 (by omega)
 ·exact fmtf_zero w0 w v n h L d neg dp prec H hn hd hL hdp (by omega) (by omega)
end Go.Proofs.YtgiioglmkogpkaaGreatDoor.F
namespace Go.Proofs.YtgiioglmkogpkaaGreatDoor.F
open Go.RowKit Go.Proofs.YtgiioglmkogpkaaGreatDoorW.PrintWords Go.Proofs.YtgiioglmkogpkaaGreatDoorW.PrintLast Go.Proofs.YtgiioglmkogpkaaGreatDoorW.PrintMore
open M
set_option maxHeartbeats 4000000
attribute [local go_sem] max2_int min2_int
def U10 (w : World) : Prop := ∀ i : Nat, i < 20 → w.cell? ⟨4, i, none⟩ = some (.int .u64 ((10 ^ i : Nat) : Int))
theorem U10.below {w w' : World} (h : U10 w) (hb : Below w.heap.size w w') : U10 w' := fun i hi => pw_cell_below hb (h i hi)
def NdPost (u : Nat) (w : World) (e : Ending) (w' : World) : Prop := ∃ n : Nat, n ≤ 20 ∧ u < 10 ^ n ∧ e = .returned (.int .i64 n) ∧ w = w'
theorem nd_law (u : Nat) (h : u < 18446744073709551616) : Lib.l10 (Lib.bitLen u) ≤ 19 ∧ u < 10 ^ (Lib.l10 (Lib.bitLen u) + (if 10 ^ Lib.l10 (Lib.bitLen u) ≤ u then 1 else 0)) := by
 by_cases h1 : 1 ≤ u
 ·have := Lib.numDigits_eq u h1 h
  refine ⟨this.2, ?_⟩
  rw [this.1]
  exact Lib.lt_pow_nDigits u
 ·obtain rfl : u = 0 := by omega
  decide
theorem numDigits_calls (u : Nat) (hu : u < 18446744073709551616) (w : World) (T : U10 w) : Calls Tryz.prog 165 #[.int .u64 u] w (NdPost u w) := by
 obtain ⟨h1, h2⟩ := nd_law u hu
 have hbl := bitLen_le u
 obtain ⟨d, hd⟩ : ∃ d, d = Lib.l10 (Lib.bitLen u) := ⟨_, rfl⟩
 rw [← hd] at h1 h2
 have hc := T d (by omega)
 obtain ⟨t, ht⟩ : ∃ t : Nat, t = 10 ^ d := ⟨_, rfl⟩
 rw [← ht] at hc h2
 have hut : ((u : Int).toNat) = u := by omega
 have HD := Aside0.mk hd
 have HT := Aside0.mk ht
 have H2 := Aside0.mk h2
 clear hd ht h2 T
 have H166 : ∀ W, Calls Tryz.prog 166 #[.int .i64 (Lib.bitLen u)] W fun e w' => e = .returned (.int .i64 d) ∧ w' = W := fun W => by
  rw [HD.out]; exact Tryz.internal_strconv_log10Pow2 _ hbl W
 have HC := Aside0.mk H166
 clear H166
 by_cases hc2 : t ≤ u
 ·have hc3 : ((t : Int) ≤ (u : Int)) := by omega
  go_enter Tryz.func165, Tryz.ntmps165
  go_wp2_with (first
   | (go_at_call 162; refine (Tryz.bits_Len64 _ _ (by omega) (by omega)).mono ?_; rintro e' w' ⟨rfl, rfl⟩)
   | (go_at_call 166; refine (HC.out _).mono ?_; rintro e' w' ⟨rfl, rfl⟩)
   | (go_at_call 201; refine (Tryz.internal_strconv_bool2_int _ _).mono ?_; rintro e' w' ⟨rfl, rfl⟩))
  go_ret
  exact ⟨d + 1, by omega, by have := H2.out; rwa [if_pos hc2] at this, rfl, rfl⟩
 ·have hc3 : ¬ ((t : Int) ≤ (u : Int)) := by omega
  go_enter Tryz.func165, Tryz.ntmps165
  go_wp2_with (first
   | (go_at_call 162; refine (Tryz.bits_Len64 _ _ (by omega) (by omega)).mono ?_; rintro e' w' ⟨rfl, rfl⟩)
   | (go_at_call 166; refine (HC.out _).mono ?_; rintro e' w' ⟨rfl, rfl⟩)
   | (go_at_call 201; refine (Tryz.internal_strconv_bool2_int _ _).mono ?_; rintro e' w' ⟨rfl, rfl⟩))
  go_ret
  exact ⟨d, by omega, by have := H2.out; rwa [if_neg hc2] at this, rfl, rfl⟩
def Dg (W : World) (h L : Nat) : Prop := ∀ i, i < L → (∃ x : Int, W.cell? ⟨h, i, none⟩ = some (.int .u8 x)) ∧ W.frozen? ⟨h, i, none⟩ = false
theorem fb_calls (h nd L u : Nat) (w0 w : World) (hz : ∀ i, i < L → w.cell? ⟨h, i, none⟩ = some (.int .u8 0) ∧ w.frozen? ⟨h, i, none⟩ = false) (hL : nd ≤ L) (hL2 : L ≤ 100) (hu : u < 10 ^ nd) (hu64 : u < 18446744073709551616) (hB : Below w0.heap.size w0 w) (hh : w0.heap.size ≤ h) :
  Calls Tryz.prog 200 #[.slice (some ⟨h, 0, none⟩) nd L, .int .u64 u] w fun e w' => e = .returned (.tuple #[]) ∧ KeepBut w w' h none ∧ Below w0.heap.size w0 w' ∧ Dg w' h L := by
 have hs : (Array.replicate nd (0 : UInt8)).size = nd := by simp
 have := Tryz.internal_strconv_formatBase10 h 0 L u (Array.replicate nd 0) w (by
  intro j hj
  rw [hs] at hj
  have := hz j (by omega)
  rw [Nat.zero_add, getElem!_pos _ _ (by rw [hs]; exact hj)]
  simpa using this) (by rw [hs]; exact hu) hu64 (by rw [hs]; omega)
 rw [hs] at this
 refine this.mono ?_
 rintro e w' ⟨rfl, n, v', dk, rfl, hI⟩
 have hH0 : Sort.Holds (fun (b : UInt8) => Value.int .u8 (b.toNat : Int)) w h 0 (Array.replicate nd 0) := by
  intro j hj
  rw [hs] at hj
  have := hz j (by omega)
  rw [Nat.zero_add, getElem!_pos _ _ (by rw [hs]; exact hj)]
  simpa using this
 have hblk : ∀ i, i ≠ h → ((Sort.putRow (fun (b : UInt8) => Value.int .u8 (b.toNat : Int)) w h 0 dk).drewN n).heap[i]? = w.heap[i]? := by
  intro i hi
  show (Sort.putRow (fun (b : UInt8) => Value.int .u8 (b.toNat : Int)) w h 0 dk).heap[i]? = w.heap[i]?
  simp [Sort.putRow, Sort.mapBlock, Array.getElem?_modify, Ne.symm hi]
 have hsz : ((Sort.putRow (fun (b : UInt8) => Value.int .u8 (b.toNat : Int)) w h 0 dk).drewN n).heap.size = w.heap.size := Sort.size_putRow _ _ _ _ _
 refine ⟨rfl, ⟨by rw [hsz]; exact Nat.le_refl _, fun i _ hi _ => hblk i hi⟩, ⟨hB.os, hB.tape, hB.output, by rw [hsz]; exact hB.size, fun k hk => (hblk k (by omega)).trans (hB.block k hk)⟩, fun i hi => ⟨?_, ?_⟩⟩
 ·by_cases hin : i < nd
  ·have := Sort.cell?_putRow (fun (b : UInt8) => Value.int .u8 (b.toNat : Int)) w h 0 (Array.replicate nd 0) dk hH0 (by rw [hI.size, hs]) i (by rw [hI.size]; exact hin)
   rw [Nat.zero_add] at this
   exact ⟨_, this⟩
  ·have := Sort.cell?_putRow_other (fun (b : UInt8) => Value.int .u8 (b.toNat : Int)) w h 0 dk ⟨h, i, none⟩ (.inr (.inr (by rw [hI.size]; show 0 + nd ≤ i; omega)))
   exact ⟨0, this.trans (hz i hi).1⟩
 ·exact (Sort.frozen?_putRow _ _ _ _ _ _).trans (hz i hi).2
def SdPost (w0 w : World) (h L : Nat) (p : Int) (e : Ending) (w' : World) : Prop := ∃ (n m : Nat), n ≤ 20 ∧ m ≤ n ∧ e = .returned (.tuple #[.int .i64 ((n : Int) + p), .int .i64 m]) ∧ KeepBut w w' h none ∧ Below w0.heap.size w0 w' ∧ Dg w' h L
theorem setDigits_calls (h nd L u : Nat) (p : Int) (w0 w : World) (hz : ∀ i, i < L → w.cell? ⟨h, i, none⟩ = some (.int .u8 0) ∧ w.frozen? ⟨h, i, none⟩ = false) (hn : nd ≤ 20) (hL : nd ≤ L) (hL0 : 0 < L) (hL2 : L ≤ 100) (hu : u < 10 ^ nd) (hu64 : u < 18446744073709551616) (hB : Below w0.heap.size w0 w) (hh : w0.heap.size ≤ h) (hp : -500 ≤ p ∧ p ≤ 500) :
  Calls Tryz.prog 164 #[.slice (some ⟨h, 0, none⟩) L L, .int .u64 u, .int .i64 p, .int .i64 nd] w (SdPost w0 w h L p) := by
 have HF := Aside0.mk (fb_calls h nd L u w0 w hz hL hL2 hu hu64 hB hh)
 clear hz hu hB
 have hnl : (nd : Int) ≤ (L : Int) := by omega
 go_enter Tryz.func164, Tryz.ntmps164
 go_wp2_with (go_at_call 200; refine HF.out.mono ?_; rintro e' w1 ⟨rfl, hk, hb, hd⟩; have HK := Aside0.mk (And.intro hk (And.intro hb hd)); clear hk hb hd)
 go_loopg [3] nd (fun kq v3 w' => v3 = .int .i64 (kq : Int) ∧ kq ≤ nd ∧ w1 = w')
 case atStart => exact ⟨rfl, by omega, rfl⟩
 case round =>
  obtain ⟨rfl, hk, rfl⟩ := hrel
  cases gk with
  | zero =>
   go_wp2_with fail
   go_ret2
   exact ⟨nd, 0, hn, by omega, rfl, HK.out⟩
  | succ k =>
   obtain ⟨⟨x, hx⟩, hf⟩ := HK.out.2.2 k (by omega)
   go_wp2_with fail
   ·go_roundg k
    case measure => omega
    case rel => exact ⟨rfl, by omega, rfl⟩
   ·go_ret2
    exact ⟨nd, k + 1, hn, by omega, rfl, HK.out⟩
end Go.Proofs.YtgiioglmkogpkaaGreatDoor.F
namespace Go.Proofs.YtgiioglmkogpkaaGreatDoor.F
open Go.RowKit Go.Proofs.YtgiioglmkogpkaaGreatDoorW.PrintWords Go.Proofs.YtgiioglmkogpkaaGreatDoorW.PrintLast Go.Proofs.YtgiioglmkogpkaaGreatDoorW.PrintMore
open M
set_option maxHeartbeats 4000000
set_option maxRecDepth 8192
attribute [local go_sem] max2_int min2_int
theorem run_tobits (x : Nat) (w : World) : (callFunc 158 #[.float .f64 x]).run Tryz.prog w = .ok (.value (.int .u64 x)) w := by
 rw [run_callFunc_extern Tryz.func158 (by kernel_rfl) (by kernel_rfl) (by kernel_rfl) (e := Extern.MathFloatBits.float64bits) (by kernel_rfl)]
 rfl
theorem and_i64_le (a : Int) (m : Nat) (hm : m < 9223372036854775808) : 0 ≤ bits .and .i64 a m ∧ bits .and .i64 a m ≤ m := by
 unfold bits
 show 0 ≤ IntKind.i64.wrap ((BitVec.toNat (BitVec.ofInt 64 a &&& BitVec.ofInt 64 (m : Int)) : Nat) : Int) ∧ IntKind.i64.wrap ((BitVec.toNat (BitVec.ofInt 64 a &&& BitVec.ofInt 64 (m : Int)) : Nat) : Int) ≤ m
 have : BitVec.toNat (BitVec.ofInt 64 a &&& BitVec.ofInt 64 (m : Int)) ≤ m := by
  rw [BitVec.toNat_and]
  refine Nat.le_trans Nat.and_le_right ?_
  rw [BitVec.toNat_ofInt]; omega
 generalize BitVec.toNat (BitVec.ofInt 64 a &&& BitVec.ofInt 64 (m : Int)) = n at this ⊢
 simp only [IntKind.wrap, IntKind.bits, IntKind.signed]
 simp
 omega
theorem and_u64_le (a : Int) (m : Nat) (hm : m < 9223372036854775808) : 0 ≤ bits .and .u64 a m ∧ bits .and .u64 a m ≤ m := by
 unfold bits
 show 0 ≤ IntKind.u64.wrap ((BitVec.toNat (BitVec.ofInt 64 a &&& BitVec.ofInt 64 (m : Int)) : Nat) : Int) ∧ IntKind.u64.wrap ((BitVec.toNat (BitVec.ofInt 64 a &&& BitVec.ofInt 64 (m : Int)) : Nat) : Int) ≤ m
 have : BitVec.toNat (BitVec.ofInt 64 a &&& BitVec.ofInt 64 (m : Int)) ≤ m := by
  rw [BitVec.toNat_and]
  refine Nat.le_trans Nat.and_le_right ?_
  rw [BitVec.toNat_ofInt]; omega
 generalize BitVec.toNat (BitVec.ofInt 64 a &&& BitVec.ofInt 64 (m : Int)) = n at this ⊢
 simp only [IntKind.wrap, IntKind.bits, IntKind.signed]
 simp
 omega
theorem or52 (a : Int) (h : 0 ≤ a ∧ a < 4503599627370496) : 4503599627370496 ≤ bits .or .u64 a 4503599627370496 ∧ bits .or .u64 a 4503599627370496 < 9007199254740992 := by
 unfold bits
 show 4503599627370496 ≤ IntKind.u64.wrap ((BitVec.toNat (BitVec.ofInt 64 a ||| BitVec.ofInt 64 4503599627370496) : Nat) : Int) ∧ IntKind.u64.wrap ((BitVec.toNat (BitVec.ofInt 64 a ||| BitVec.ofInt 64 4503599627370496) : Nat) : Int) < 9007199254740992
 have h1 : BitVec.toNat (BitVec.ofInt 64 a ||| BitVec.ofInt 64 4503599627370496) < 2 ^ 53 := by
  rw [BitVec.toNat_or]
  refine Nat.or_lt_two_pow ?_ ?_ <;> rw [BitVec.toNat_ofInt] <;> omega
 have h2 : 4503599627370496 ≤ BitVec.toNat (BitVec.ofInt 64 a ||| BitVec.ofInt 64 4503599627370496) := by
  rw [BitVec.toNat_or]
  refine Nat.le_trans ?_ Nat.right_le_or
  rw [BitVec.toNat_ofInt]; omega
 generalize BitVec.toNat (BitVec.ofInt 64 a ||| BitVec.ofInt 64 4503599627370496) = n at h1 h2 ⊢
 simp only [IntKind.wrap, IntKind.bits, IntKind.signed]
 simp
 omega
def FtPost (w0 : World) (e : Ending) (w' : World) : Prop := ∃ (v' : Value) (pre : List Int), e = .returned v' ∧ pre.length ≤ 6000 ∧ w'.ownsRow w0.heap.size 5 1 v' pre.length (nums .u8 pre) ∧ Below w0.heap.size w0 w'
structure FtIn (w0 w : World) (v : Value) : Prop where
 own : w.ownsRow w0.heap.size 5 1 v ([] : List Int).length (nums .u8 [])
 be : Below w0.heap.size w0 w
 u10 : U10 w0
 pow : Pow w0
theorem ftoa64_spec (x : Nat) (v : Value) (w0 w : World) (HI : FtIn w0 w v) (hx : bits .and .i64 (wrap64 ((x : Int) / 4503599627370496)) 2047 = 2047) : Calls Tryz.prog 133 #[v, .float .f64 x, .int .u8 102, .int .i64 (-1)] w (FtPost w0) := by
 have hf := run_tobits
 have HO := Aside0.mk HI.own
 have HB := Aside0.mk HI.be
 clear HI
 obtain ⟨mn, hmn⟩ : ∃ mn, bits .and .u64 (x : Int) 4503599627370495 = mn := ⟨_, rfl⟩
 go_enter Tryz.func133, Tryz.ntmps133
 go_wp2_with fail
 go_quiet (fail)
 have HO := Aside0.mk (show (w.drewN nq).ownsRow _ _ _ _ _ _ from HO.out)
 have HB := Aside0.mk (pw_below_drewN HB.out nq)
 generalize w.drewN nq = w9 at *
 go_wp2_with (at_builtin; refine print_append_str (w0 := w0) w0.heap.size rfl _ _ 103 9 5 rfl Tryz.underlying103 Tryz.underlying9 info5h v [] _ rfl rfl HO.out HB.out HB.out.size (by decide) ?_; intro v1 w1 hown1 hB1 hg1; have HS := Aside0.mk (And.intro hown1 hB1); clear hown1 hB1 hg1)
 all_goals go_ret
 all_goals exact ⟨_, _, rfl, by decide, HS.out.1, HS.out.2⟩
end Go.Proofs.YtgiioglmkogpkaaGreatDoor.F
namespace Go.Proofs.YtgiioglmkogpkaaGreatDoor.F
open Go.RowKit Go.Proofs.YtgiioglmkogpkaaGreatDoorW.PrintWords Go.Proofs.YtgiioglmkogpkaaGreatDoorW.PrintLast Go.Proofs.YtgiioglmkogpkaaGreatDoorW.PrintMore
open M
set_option maxHeartbeats 4000000
set_option maxRecDepth 8192
attribute [local go_sem] max2_int min2_int
theorem ftoa64_zero (x : Nat) (v : Value) (w0 w : World) (HI : FtIn w0 w v) (hx : bits .and .i64 (wrap64 ((x : Int) / 4503599627370496)) 2047 = 0) (hm : bits .and .u64 (x : Int) 4503599627370495 = 0) : Calls Tryz.prog 133 #[v, .float .f64 x, .int .u8 102, .int .i64 (-1)] w (FtPost w0) := by
 have hf := run_tobits
 have h4 : 4 < w0.heap.size := World.block_lt_of_cell? w0 _ (HI.u10 0 (by omega))
 have hv : v.ownBlock ≠ some 4 := by
  intro q
  have := (World.ownsRow.lt HI.own) 4 q
  omega
 have hS : ∀ n, St w0 (w.drewN n) v 0 4 0 := fun n => ⟨⟨[], rfl, HI.own⟩, pw_below_drewN HI.be n, hv, Nat.lt_of_lt_of_le h4 HI.be.size, fun i hi => by omega⟩
 have HS := Aside0.mk hS
 clear HI hv hS
 go_enter Tryz.func133, Tryz.ntmps133
 go_wp2_with fail
 go_quiet (fail)
 have HS := Aside0.mk (HS.out nq)
 generalize w.drewN nq = w9 at *
 go_wp2_with (go_at_call 161; refine (fmt0_calls w0 w9 v 0 4 0 _ HS.out (by omega)).mono ?_; rintro e' w' ⟨v', n', rfl, hn', hs'⟩; have HE := Aside0.mk hs'; clear hs')
 all_goals go_ret
 all_goals (obtain ⟨⟨pre, hl, ho⟩, hb, _, _, _⟩ := HE.out; exact ⟨_, pre, rfl, by omega, ho, hb⟩)
abbrev Z32 : Obj := .cells #[.int .u8 0, .int .u8 0, .int .u8 0, .int .u8 0, .int .u8 0, .int .u8 0, .int .u8 0, .int .u8 0, .int .u8 0, .int .u8 0, .int .u8 0, .int .u8 0, .int .u8 0, .int .u8 0, .int .u8 0, .int .u8 0, .int .u8 0, .int .u8 0, .int .u8 0, .int .u8 0, .int .u8 0, .int .u8 0, .int .u8 0, .int .u8 0, .int .u8 0, .int .u8 0, .int .u8 0, .int .u8 0, .int .u8 0, .int .u8 0, .int .u8 0, .int .u8 0] 191
structure Dq (w0 W : World) (v : Value) (h : Nat) : Prop where
 own : W.ownsRow w0.heap.size 5 1 v ([] : List Int).length (nums .u8 [])
 be : Below w0.heap.size w0 W
 hh : w0.heap.size ≤ h
 ne : v.ownBlock ≠ some h
 blk : W.heap[h]? = some (.cells #[.int .u8 0, .int .u8 0, .int .u8 0, .int .u8 0, .int .u8 0, .int .u8 0, .int .u8 0, .int .u8 0, .int .u8 0, .int .u8 0, .int .u8 0, .int .u8 0, .int .u8 0, .int .u8 0, .int .u8 0, .int .u8 0, .int .u8 0, .int .u8 0, .int .u8 0, .int .u8 0, .int .u8 0, .int .u8 0, .int .u8 0, .int .u8 0, .int .u8 0, .int .u8 0, .int .u8 0, .int .u8 0, .int .u8 0, .int .u8 0, .int .u8 0, .int .u8 0] 191 (0, 0))
 u10 : U10 W
 pow : Pow W
theorem Dq.new {w0 w : World} {v : Value} (H : FtIn w0 w v) (n : Nat) : Dq w0 ((w.drewN n).alloc Z32) v w.heap.size := by
 have hB : Below w0.heap.size w0 ((w.drewN n).alloc Z32) := (pw_below_drewN H.be n).alloc H.be.size _
 refine ⟨World.ownsRow.alloc (show (w.drewN n).ownsRow _ _ _ _ _ _ from H.own) _, hB, H.be.size, ?_, heap_alloc_new (w.drewN n) Z32, H.u10.below hB, H.pow.below hB⟩
 intro q
 have := (World.ownsRow.lt H.own) _ q
 omega
theorem Dq.below {w0 W W2 : World} {v : Value} {h : Nat} (H : Dq w0 W v h) (hb : Below W.heap.size W W2) : Dq w0 W2 v h :=
 ⟨H.own.kept (grown_of_below hb none) (by by_cases q : v.ownBlock = none; exact .inl q; exact .inr q), below_then H.be H.be.size hb, H.hh, H.ne, (hb.block h (blk_lt H.blk)).trans H.blk, H.u10.below hb, H.pow.below hb⟩
theorem Dq.zero {w0 W : World} {v : Value} {h : Nat} (H : Dq w0 W v h) : ∀ i, i < 32 → W.cell? ⟨h, i, none⟩ = some (.int .u8 0) ∧ W.frozen? ⟨h, i, none⟩ = false := by
 intro i hi
 refine ⟨?_, blk_frozen H.blk i⟩
 rw [blk_cell H.blk i]
 rw [show (#[.int .u8 0, .int .u8 0, .int .u8 0, .int .u8 0, .int .u8 0, .int .u8 0, .int .u8 0, .int .u8 0, .int .u8 0, .int .u8 0, .int .u8 0, .int .u8 0, .int .u8 0, .int .u8 0, .int .u8 0, .int .u8 0, .int .u8 0, .int .u8 0, .int .u8 0, .int .u8 0, .int .u8 0, .int .u8 0, .int .u8 0, .int .u8 0, .int .u8 0, .int .u8 0, .int .u8 0, .int .u8 0, .int .u8 0, .int .u8 0, .int .u8 0, .int .u8 0] : Array Value) = Array.replicate 32 (.int .u8 0) from rfl]
 simp [Array.getElem?_replicate, hi]
theorem Dq.after {w0 W W2 : World} {v : Value} {h : Nat} (H : Dq w0 W v h) (hk : KeepBut W W2 h none) (hb : Below w0.heap.size w0 W2) (hd : Dg W2 h 32) : St w0 W2 v 0 h 32 :=
 ⟨⟨[], rfl, hk.own H.own H.ne (by by_cases q : v.ownBlock = none; exact .inl q; exact .inr q)⟩, hb, H.ne, Nat.lt_of_lt_of_le (blk_lt H.blk) hk.1, fun i hi => (hd i hi).1⟩
theorem mm_law (mt : Int) (bl : Nat) (h1 : 1 ≤ bl ∧ bl ≤ 64) (h0 : 0 ≤ mt) (h2 : 2 ^ (bl - 1) ≤ mt.toNat) (h3 : mt.toNat < 2 ^ bl) : 9223372036854775808 ≤ IntKind.u64.wrap (mt * 2 ^ (64 - bl)) ∧ IntKind.u64.wrap (mt * 2 ^ (64 - bl)) < 18446744073709551616 := by
 refine ⟨?_, (wrapu64 _).2⟩
 obtain ⟨m, rfl⟩ : ∃ m : Nat, mt = m := ⟨mt.toNat, by omega⟩
 rw [Int.toNat_natCast] at h2 h3
 have e1 : m * 2 ^ (64 - bl) < 2 ^ 64 := by
  have := Nat.mul_lt_mul_of_pos_right h3 (Nat.two_pow_pos (64 - bl))
  rwa [← Nat.pow_add, show bl + (64 - bl) = 64 by omega] at this
 have e2 : 2 ^ 63 ≤ m * 2 ^ (64 - bl) := by
  have := Nat.mul_le_mul_right (2 ^ (64 - bl)) h2
  rwa [← Nat.pow_add, show bl - 1 + (64 - bl) = 63 by omega] at this
 have e3 : ((m : Int) * 2 ^ (64 - bl)) = ((m * 2 ^ (64 - bl) : Nat) : Int) := by push_cast; rfl
 rw [e3]
 generalize m * 2 ^ (64 - bl) = k at e1 e2 ⊢
 simp only [IntKind.wrap, IntKind.bits, IntKind.signed]
 simp
 omega
theorem ftoa64_den (x : Nat) (v : Value) (w0 w : World) (HI : FtIn w0 w v) (mt : Int) (hx : bits .and .i64 (wrap64 ((x : Int) / 4503599627370496)) 2047 = 0) (hm : bits .and .u64 (x : Int) 4503599627370495 = mt) (hmt : 1 ≤ mt ∧ mt < 4503599627370496) : Calls Tryz.prog 133 #[v, .float .f64 x, .int .u8 102, .int .i64 (-1)] w (FtPost w0) := by
 have hf := run_tobits
 have hne : (mt == 0) = false := beq_eq_false_iff_ne.mpr (by omega)
 have HII := Aside0.mk HI
 obtain ⟨bl, hbl⟩ : ∃ bl, Lib.bitLen mt.toNat = bl := ⟨_, rfl⟩
 have H162 := Aside0.mk (show ∀ W, Calls Tryz.prog 162 #[.int .u64 mt] W fun e w' => e = .returned (.int .i64 (bl : Int)) ∧ w' = W from fun W => by rw [← hbl]; exact Tryz.bits_Len64 mt W (by omega) (by omega))
 have hbr := Lib.bitLenAux_bounds 64 mt.toNat (by omega) (by omega)
 rw [show Lib.bitLenAux 64 mt.toNat = bl from hbl] at hbr
 have hbl2 : 1 ≤ bl ∧ bl ≤ 53 := ⟨hbr.1, by rw [← hbl]; exact Lib.bitLen_le _ 53 (by omega) (by omega)⟩
 have HMM := Aside0.mk (mm_law mt bl ⟨hbl2.1, by omega⟩ (by omega) hbr.2.1 hbr.2.2)
 clear hbr hbl
 clear HI
 go_enter Tryz.func133, Tryz.ntmps133
 go_wp2_with fail
 go_quiet (fail)
 have HQ := Aside0.mk (Dq.new HII.out nq)
 go_wp2_with (first
  | (go_at_call 162; refine (H162.out _).mono ?_; rintro e' w' ⟨rfl, rfl⟩)
  | (go_at_call 171; refine (shortFloat_calls _ _ _ ⟨by omega, by omega⟩ HMM.out HQ.out.pow).mono ?_; rintro e' w2 ⟨dd, p, ⟨hd0, hd1⟩, hp, rfl, hb⟩; have HQ2 := Aside0.mk (HQ.out.below hb); clear hb; obtain ⟨u, rfl⟩ : ∃ u : Nat, dd = u := ⟨dd.toNat, by omega⟩))
 go_region_with (first
  | (go_at_call 165; refine (numDigits_calls u (by omega) _ ?_).mono ?_; exact HQ2.out.u10; rintro e' w' ⟨n, hn, hu, rfl, rfl⟩)
  | (go_at_call 164; refine (setDigits_calls w.heap.size n 32 u p w0 _ ?_ hn (by omega) (by omega) (by omega) hu (by omega) ?_ HQ2.out.hh ⟨by omega, by omega⟩).mono ?_; exact HQ2.out.zero; exact pw_below_drewN HQ2.out.be 1; rintro e' w3 ⟨n3, m, hn3, hm3, rfl, hk, hb, hd⟩; have HS := Aside0.mk (HQ2.out.after hk hb hd); clear hk hb hd))
 go_wp2_with (go_at_call 161; refine (fmtf_calls w0 w3 v 0 w.heap.size 32 m _ _ _ HS.out (by omega) (by omega) (by omega) ⟨by omega, by omega⟩ ⟨by omega, by omega⟩).mono ?_; rintro e' w4 ⟨v', n', rfl, hn', hs'⟩; have HE := Aside0.mk hs'; clear hs')
 all_goals go_ret
 all_goals (obtain ⟨⟨pre, hl, ho⟩, hb, _, _, _⟩ := HE.out; exact ⟨_, pre, rfl, by omega, ho, hb⟩)
theorem ftoa64_norm (x : Nat) (v : Value) (w0 w : World) (HI : FtIn w0 w v) (mt ex mn : Int) (hx : bits .and .i64 (wrap64 ((x : Int) / 4503599627370496)) 2047 = ex) (hex : 1 ≤ ex ∧ ex < 2047) (hm : bits .and .u64 (x : Int) 4503599627370495 = mn) (ho : bits .or .u64 mn 4503599627370496 = mt) (hmt : 1 ≤ mt ∧ mt < 9007199254740992) : Calls Tryz.prog 133 #[v, .float .f64 x, .int .u8 102, .int .i64 (-1)] w (FtPost w0) := by
 have hf := run_tobits
 have hne : (mt == 0) = false := beq_eq_false_iff_ne.mpr (by omega)
 have hxe : (ex == 0) = false := beq_eq_false_iff_ne.mpr (by omega)
 have hxf : (ex == 2047) = false := beq_eq_false_iff_ne.mpr (by omega)
 have HII := Aside0.mk HI
 obtain ⟨bl, hbl⟩ : ∃ bl, Lib.bitLen mt.toNat = bl := ⟨_, rfl⟩
 have H162 := Aside0.mk (show ∀ W, Calls Tryz.prog 162 #[.int .u64 mt] W fun e w' => e = .returned (.int .i64 (bl : Int)) ∧ w' = W from fun W => by rw [← hbl]; exact Tryz.bits_Len64 mt W (by omega) (by omega))
 have hbr := Lib.bitLenAux_bounds 64 mt.toNat (by omega) (by omega)
 rw [show Lib.bitLenAux 64 mt.toNat = bl from hbl] at hbr
 have hbl2 : 1 ≤ bl ∧ bl ≤ 53 := ⟨hbr.1, by rw [← hbl]; exact Lib.bitLen_le _ 53 (by omega) (by omega)⟩
 have HMM := Aside0.mk (mm_law mt bl ⟨hbl2.1, by omega⟩ (by omega) hbr.2.1 hbr.2.2)
 clear hbr hbl
 clear HI
 go_enter Tryz.func133, Tryz.ntmps133
 go_wp2_with fail
 go_quiet (fail)
 have HQ := Aside0.mk (Dq.new HII.out nq)
 go_wp2_with (first
  | (go_at_call 162; refine (H162.out _).mono ?_; rintro e' w' ⟨rfl, rfl⟩)
  | (go_at_call 171; refine (shortFloat_calls _ _ _ ⟨by omega, by omega⟩ HMM.out HQ.out.pow).mono ?_; rintro e' w2 ⟨dd, p, ⟨hd0, hd1⟩, hp, rfl, hb⟩; have HQ2 := Aside0.mk (HQ.out.below hb); clear hb; obtain ⟨u, rfl⟩ : ∃ u : Nat, dd = u := ⟨dd.toNat, by omega⟩))
 go_region_with (first
  | (go_at_call 165; refine (numDigits_calls u (by omega) _ ?_).mono ?_; exact HQ2.out.u10; rintro e' w' ⟨n, hn, hu, rfl, rfl⟩)
  | (go_at_call 164; refine (setDigits_calls w.heap.size n 32 u p w0 _ ?_ hn (by omega) (by omega) (by omega) hu (by omega) ?_ HQ2.out.hh ⟨by omega, by omega⟩).mono ?_; exact HQ2.out.zero; exact pw_below_drewN HQ2.out.be 1; rintro e' w3 ⟨n3, m, hn3, hm3, rfl, hk, hb, hd⟩; have HS := Aside0.mk (HQ2.out.after hk hb hd); clear hk hb hd))
 go_wp2_with (go_at_call 161; refine (fmtf_calls w0 w3 v 0 w.heap.size 32 m _ _ _ HS.out (by omega) (by omega) (by omega) ⟨by omega, by omega⟩ ⟨by omega, by omega⟩).mono ?_; rintro e' w4 ⟨v', n', rfl, hn', hs'⟩; have HE := Aside0.mk hs'; clear hs')
 all_goals go_ret
 all_goals (obtain ⟨⟨pre, hl, ho⟩, hb, _, _, _⟩ := HE.out; exact ⟨_, pre, rfl, by omega, ho, hb⟩)
theorem ftoa64_calls (x : Nat) (v : Value) (w0 w : World) (HI : FtIn w0 w v) : Calls Tryz.prog 133 #[v, .float .f64 x, .int .u8 102, .int .i64 (-1)] w (FtPost w0) := by
 have h1 : 0 ≤ bits .and .i64 (wrap64 ((x : Int) / 4503599627370496)) 2047 ∧ bits .and .i64 (wrap64 ((x : Int) / 4503599627370496)) 2047 ≤ 2047 := and_i64_le (wrap64 ((x : Int) / 4503599627370496)) 2047 (by omega)
 have h2 : 0 ≤ bits .and .u64 (x : Int) 4503599627370495 ∧ bits .and .u64 (x : Int) 4503599627370495 ≤ 4503599627370495 := and_u64_le (x : Int) 4503599627370495 (by omega)
 by_cases e1 : bits .and .i64 (wrap64 ((x : Int) / 4503599627370496)) 2047 = 2047
 ·exact ftoa64_spec x v w0 w HI e1
 ·by_cases e2 : bits .and .i64 (wrap64 ((x : Int) / 4503599627370496)) 2047 = 0
  ·by_cases e3 : bits .and .u64 (x : Int) 4503599627370495 = 0
   ·exact ftoa64_zero x v w0 w HI e2 e3
   ·exact ftoa64_den x v w0 w HI _ e2 rfl (by omega)
  ·have h3 := or52 (bits .and .u64 (x : Int) 4503599627370495) (by omega)
   exact ftoa64_norm x v w0 w HI _ _ _ rfl (by omega) rfl rfl (by omega)
end Go.Proofs.YtgiioglmkogpkaaGreatDoor.F
namespace Go.Proofs.YtgiioglmkogpkaaGreatDoor.M
open Go.RowKit Go.Proofs.YtgiioglmkogpkaaGreatDoorW.PrintWords Go.Proofs.YtgiioglmkogpkaaGreatDoorW.PrintLast Go.Proofs.YtgiioglmkogpkaaGreatDoorW.PrintMore
set_option maxHeartbeats 8000000
set_option maxRecDepth 100000
attribute [local go_sem] max2_int min2_int max_two min_two max_three min_three max_four min_four
def spec_Blank.f (a0 : Int) : Option (Bool) := if a0 = 32 then (some true) else (if a0 = 9 then (some true) else (if a0 = 10 then (some true) else (some (a0 == 13))))
theorem spec_Blank.calls (a0 : Int) (r : Bool) (w : World) (h : spec_Blank.f a0 = some r) :
  Calls Tryz.prog 24 #[.int .u8 a0] w fun e w' => e = .returned (.bool r) ∧ Drawn0 w w' := by
 have H : (if a0 = 32 then (some true) else (if a0 = 9 then (some true) else (if a0 = 10 then (some true) else (some (a0 == 13))))) = some r := h
 clear h
 by_cases c2 : a0 = 32
 ·rw [if_pos c2] at H
  have c2b0 : (a0 == 32) = true := beq_iff_eq.mpr c2
  have c2b1 : (a0 != 32) = false := bne_eq_false_iff_eq.mpr c2
  clear c2
  obtain rfl := Option.some.inj H
  go_enter Tryz.func24, Tryz.ntmps24
  go_wp2
  go_ret
  exact ⟨by first | rfl | (simp; done) | (simp [*]; done), by repeat (first | exact Drawn0.refl _ | apply Drawn0.step)⟩
 ·rw [if_neg c2] at H
  have c2b0 : (a0 == 32) = false := beq_eq_false_iff_ne.mpr c2
  have c2b1 : (a0 != 32) = true := bne_iff_ne.mpr c2
  by_cases c3 : a0 = 9
  ·rw [if_pos c3] at H
   have c3b0 : (a0 == 9) = true := beq_iff_eq.mpr c3
   have c3b1 : (a0 != 9) = false := bne_eq_false_iff_eq.mpr c3
   clear c3
   obtain rfl := Option.some.inj H
   go_enter Tryz.func24, Tryz.ntmps24
   go_wp2
   go_ret
   exact ⟨by first | rfl | (simp; done) | (simp [*]; done), by repeat (first | exact Drawn0.refl _ | apply Drawn0.step)⟩
  ·rw [if_neg c3] at H
   have c3b0 : (a0 == 9) = false := beq_eq_false_iff_ne.mpr c3
   have c3b1 : (a0 != 9) = true := bne_iff_ne.mpr c3
   by_cases c4 : a0 = 10
   ·rw [if_pos c4] at H
    have c4b0 : (a0 == 10) = true := beq_iff_eq.mpr c4
    have c4b1 : (a0 != 10) = false := bne_eq_false_iff_eq.mpr c4
    clear c4
    obtain rfl := Option.some.inj H
    go_enter Tryz.func24, Tryz.ntmps24
    go_wp2
    go_ret
    exact ⟨by first | rfl | (simp; done) | (simp [*]; done), by repeat (first | exact Drawn0.refl _ | apply Drawn0.step)⟩
   ·rw [if_neg c4] at H
    have c4b0 : (a0 == 10) = false := beq_eq_false_iff_ne.mpr c4
    have c4b1 : (a0 != 10) = true := bne_iff_ne.mpr c4
    obtain rfl := Option.some.inj H
    go_enter Tryz.func24, Tryz.ntmps24
    go_wp2
    go_ret
    exact ⟨by first | rfl | (simp; done) | (simp [*]; done), by repeat (first | exact Drawn0.refl _ | apply Drawn0.step)⟩
def IsS112 (w0 W : World) (g : Nat) (f0 : ByteArray) (f1 : Int) : Prop := W.heap[g]? = some (.cells #[.string f0, .int .i64 f1] 112 (0, 0)) ∧ w0.heap.size ≤ g
theorem IsS112.grown {w0 W : World} {g : Nat} {f0 : ByteArray} {f1 : Int} {W1 : World} {row : Option Nat} (h : IsS112 w0 W g f0 f1) (hw : W.grownBy W1 row) (hne : some g ≠ row) : IsS112 w0 W1 g f0 f1 := by
 obtain ⟨hb, hg⟩ := h
 exact ⟨blk_grown hb hw hne, hg⟩
theorem IsS112.below {w0 W : World} {g : Nat} {f0 : ByteArray} {f1 : Int} {W1 : World} (h : IsS112 w0 W g f0 f1) (hw : Below W.heap.size W W1) : IsS112 w0 W1 g f0 f1 := h.grown (grown_of_below hw none) (by simp)
theorem IsS112.alloc {w0 W : World} {g : Nat} {f0 : ByteArray} {f1 : Int} (h : IsS112 w0 W g f0 f1) (o : Obj) : IsS112 w0 (W.alloc o) g f0 f1 := h.below (below_alloc (Below.refl _ _) o)
theorem IsS112.drewN {w0 W : World} {g : Nat} {f0 : ByteArray} {f1 : Int} (h : IsS112 w0 W g f0 f1) (m : Nat) : IsS112 w0 (W.drewN m) g f0 f1 := h
theorem IsS112.apart {w0 W : World} {g : Nat} {f0 : ByteArray} {f1 : Int} {α : Type} {d : Kd α} {e : Nat} {base : Nat} {ok : Nat → Prop} {v : Value} {xs : List α} (h : IsS112 w0 W g f0 f1) (ho : d.R e W base ok v xs) (ht : ∀ q, q ∈ e :: d.E → q ≠ 112) : d.R e W base (fun k => ok k ∧ k ≠ g) v xs := by
 obtain ⟨hb, hg⟩ := h
 exact Kd.R_types ho hb ht
theorem IsS112.own_ne {w0 W : World} {g : Nat} {f0 : ByteArray} {f1 : Int} {α : Type} {d : Kd α} {e : Nat} {base : Nat} {ok : Nat → Prop} {v : Value} {xs : List α} (h : IsS112 w0 W g f0 f1) (ho : d.R e W base ok v xs) (ht : e ≠ 112) : some g ≠ v.ownBlock := by
 obtain ⟨hb, hg⟩ := h
 exact Kd.R_ne ho hb ht
theorem IsS112.lt {w0 W : World} {g : Nat} {f0 : ByteArray} {f1 : Int} (h : IsS112 w0 W g f0 f1) : g < W.heap.size := by
 obtain ⟨hb, hg⟩ := h
 exact blk_lt hb
theorem IsS112.ge {w0 W : World} {g : Nat} {f0 : ByteArray} {f1 : Int} (h : IsS112 w0 W g f0 f1) : w0.heap.size ≤ g := by
 obtain ⟨hb, hg⟩ := h
 exact hg
theorem IsS112.far {w0 W : World} {g : Nat} {f0 : ByteArray} {f1 : Int} {p : Addr} (h : IsS112 w0 W g f0 f1) (hne : g ≠ p.block) (u : Value) : IsS112 w0 (W.setCell p u) g f0 f1 := by
 obtain ⟨hb, hg⟩ := h
 exact ⟨blk_far hb hne u, hg⟩
theorem cellS112_0 {W : World} {g : Nat} {f0 : ByteArray} {f1 : Int} (h : W.heap[g]? = some (.cells #[.string f0, .int .i64 f1] 112 (0, 0))) : W.cell? ⟨g, 0, none⟩ = some (.string f0) := (blk_cell h 0).trans rfl
theorem cellS112_1 {W : World} {g : Nat} {f0 : ByteArray} {f1 : Int} (h : W.heap[g]? = some (.cells #[.string f0, .int .i64 f1] 112 (0, 0))) : W.cell? ⟨g, 1, none⟩ = some (.int .i64 f1) := (blk_cell h 1).trans rfl
theorem IsS112.set_1 {w0 W : World} {g : Nat} {f0 : ByteArray} {f1 : Int} (h : IsS112 w0 W g f0 f1) (x : Int) : IsS112 w0 (W.setCell ⟨g, 1, none⟩ (.int .i64 x)) g f0 x := by
 obtain ⟨hb, hg⟩ := h
 exact ⟨by simpa using blk_set hb 1 (.int .i64 x), hg⟩
def spec_reader_blanks.l0 : Nat → ByteArray → Int → Option (ByteArray × Int)
 | 0, _, _ => none
 | k + 1, x1000, x1001 => if x1001 < (x1000.size : Int) then (if 0 ≤ x1001 then ((spec_Blank.f (bt x1000 x1001)).bind fun t101 => (if t101 = true then (spec_reader_blanks.l0 k x1000 (wrap64 (x1001 + 1))) else (some (x1000, x1001)))) else (none)) else (some (x1000, x1001))
def spec_reader_blanks.f (k : Nat) (s0_0 : ByteArray) (s0_1 : Int) : Option (ByteArray × Int) := spec_reader_blanks.l0 k s0_0 s0_1
theorem spec_reader_blanks.calls (k : Nat) (g : Nat) (s0_0 : ByteArray) (s0_1 : Int) (r1 : ByteArray) (r2 : Int) (w0 w : World) (hI : IsS112 w0 w g s0_0 s0_1) (hB : Below w0.heap.size w0 w) (h : spec_reader_blanks.f k s0_0 s0_1 = some (r1, r2)) :
  Calls Tryz.prog 72 #[.pointer (some ⟨g, 0, none⟩)] w fun e w' => e = .returned (.tuple #[]) ∧ IsS112 w0 w' g r1 r2 ∧ Below w0.heap.size w0 w' ∧ KeepBut w w' g none := by
 have HI0 := Aside0.mk hI
 have HK := Aside0.mk (KeepBut.refl w g none)
 have HL := Aside0.mk hB.size
 clear hI
 have HW0 := Aside0.mk hB.size
 have HB := Aside0.mk hB
 clear hB
 have H : (spec_reader_blanks.l0 k s0_0 s0_1) = some (r1, r2) := h
 clear h
 have H' := Aside0.mk H
 clear H
 go_enter Tryz.func72, Tryz.ntmps72
 go_wp2
 repeat (go_quiet (fail); try go_wp2)
 go_loopg [] k (fun kq w' => ∃ (x1001_1 : Int), Aside0 (spec_reader_blanks.l0 kq s0_0 x1001_1 = some (r1, r2)) ∧ Aside0 (kq ≤ k) ∧ Aside0 (IsS112 w0 w' g s0_0 x1001_1) ∧ Aside0 (KeepBut w w' g none) ∧ Aside0 (Below w0.heap.size w0 w'))
 case atStart => exact ⟨(s0_1), H', ⟨Nat.le_refl _⟩, ⟨by repeat (first | (with_reducible first | exact HI0.out | apply IsS112.alloc | apply IsS112.drewN | apply IsS112.set_1) | exact HI0.out)⟩, ⟨by repeat (first | (with_reducible first | exact HK.out | apply KeepBut.set_ | apply keep_drewN) | exact HK.out)⟩, ⟨by repeat (first | (with_reducible first | exact HB.out | apply below_alloc | apply pw_below_drewN | apply below_drew1 | refine below_set ?_ (IsS112.ge HI0.out)) | exact HB.out)⟩⟩
 case round =>
  clear H'
  obtain ⟨x1001_1, HA, HK1, HI0, HK, HB⟩ := hrel
  cases gk with
  | zero => exact absurd HA.out (by simp [spec_reader_blanks.l0])
  | succ k1 =>
   have H := HA.out
   clear HA
   simp only [spec_reader_blanks.l0] at H
   by_cases c2 : x1001_1 < (s0_0.size : Int)
   ·rw [if_pos c2] at H
    have c2b0 : decide (x1001_1 < (s0_0.size : Int)) = true := decide_eq_true c2
    clear c2
    by_cases c3 : 0 ≤ x1001_1
    ·rw [if_pos c3] at H
     have c3b0 : decide (0 ≤ x1001_1) = true := decide_eq_true c3
     clear c3
     replace H := Option.bind_eq_some_iff.mp H
     obtain ⟨t101, A50, H⟩ := H
     try dsimp only at H
     have A5 := Aside0.mk A50
     clear A50
     by_cases c6 : t101 = true
     ·subst c6
      have H1 : (spec_reader_blanks.l0 k1 s0_0 (wrap64 (x1001_1 + 1))) = some (r1, r2) := by rw [if_pos rfl] at H; exact H
      clear H
      have H := H1
      clear H1
      have H' := Aside0.mk H
      clear H
      obtain ⟨HGz7, hgz7⟩ := HI0.out
      have hcz7_0 := cellS112_0 HGz7
      have hcz7_1 := cellS112_1 HGz7
      have hfz7_0 := blk_frozen HGz7 0
      have hfz7_1 := blk_frozen HGz7 1
      clear HGz7 hgz7
      have p4 : 0 ≤ (x1001_1 : Int) := of_decide_eq_true (by first | (with_reducible assumption) | assumption)
      have q4 : x1001_1 < (s0_0.size : Int) := of_decide_eq_true (by first | (with_reducible assumption) | assumption)
      have hx4 := bt_at s0_0 x1001_1
      replace p4 := eq_true p4
      replace q4 := eq_true q4
      go_wp2_with (first | (go_at_call 24; (with_reducible refine (spec_Blank.calls (bt s0_0 x1001_1) true _ A5.out).mono ?_); rintro e w' ⟨rfl, ⟨nd, rfl⟩⟩; (try first | exact ⟨rfl, _, World.drewN_drewN _ _ _⟩ | exact ⟨rfl, _, Eq.trans (World.drewN_drewN _ _ _) (congrArg (World.drewN _) (Nat.add_assoc _ _ _))⟩)))
      repeat (go_quiet (first | (go_at_call 24; (with_reducible refine (spec_Blank.calls (bt s0_0 x1001_1) true _ A5.out).mono ?_); rintro e w' ⟨rfl, ⟨nd, rfl⟩⟩; (try first | exact ⟨rfl, _, World.drewN_drewN _ _ _⟩ | exact ⟨rfl, _, Eq.trans (World.drewN_drewN _ _ _) (congrArg (World.drewN _) (Nat.add_assoc _ _ _))⟩))); try go_wp2_with (first | (go_at_call 24; (with_reducible refine (spec_Blank.calls (bt s0_0 x1001_1) true _ A5.out).mono ?_); rintro e w' ⟨rfl, ⟨nd, rfl⟩⟩; (try first | exact ⟨rfl, _, World.drewN_drewN _ _ _⟩ | exact ⟨rfl, _, Eq.trans (World.drewN_drewN _ _ _) (congrArg (World.drewN _) (Nat.add_assoc _ _ _))⟩))))
      go_roundg k1
      case measure => have := HK1.out; omega
      case rel => exact ⟨(wrap64 (x1001_1 + 1)), H', ⟨by have := HK1.out; omega⟩, ⟨by repeat (first | (with_reducible first | exact HI0.out | apply IsS112.alloc | apply IsS112.drewN | apply IsS112.set_1) | exact HI0.out)⟩, ⟨by repeat (first | (with_reducible first | exact HK.out | apply KeepBut.set_ | apply keep_drewN) | exact HK.out)⟩, ⟨by repeat (first | (with_reducible first | exact HB.out | apply below_alloc | apply pw_below_drewN | apply below_drew1 | refine below_set ?_ (IsS112.ge HI0.out)) | exact HB.out)⟩⟩
     ·replace c6 := Bool.eq_false_iff.mpr c6
      subst c6
      have H1 : (some (s0_0, x1001_1)) = some (r1, r2) := by rw [if_neg (show ¬ (false = true) by decide)] at H; exact H
      clear H
      have H := H1
      clear H1
      simp only [Option.some.injEq, Prod.mk.injEq] at H
      obtain ⟨rfl, rfl⟩ := H
      obtain ⟨HGz8, hgz8⟩ := HI0.out
      have hcz8_0 := cellS112_0 HGz8
      have hcz8_1 := cellS112_1 HGz8
      have hfz8_0 := blk_frozen HGz8 0
      have hfz8_1 := blk_frozen HGz8 1
      clear HGz8 hgz8
      have p4 : 0 ≤ (x1001_1 : Int) := of_decide_eq_true (by first | (with_reducible assumption) | assumption)
      have q4 : x1001_1 < (s0_0.size : Int) := of_decide_eq_true (by first | (with_reducible assumption) | assumption)
      have hx4 := bt_at s0_0 x1001_1
      replace p4 := eq_true p4
      replace q4 := eq_true q4
      go_wp2_with (first | (go_at_call 24; (with_reducible refine (spec_Blank.calls (bt s0_0 x1001_1) false _ A5.out).mono ?_); rintro e w' ⟨rfl, ⟨nd, rfl⟩⟩; (try first | exact ⟨rfl, _, World.drewN_drewN _ _ _⟩ | exact ⟨rfl, _, Eq.trans (World.drewN_drewN _ _ _) (congrArg (World.drewN _) (Nat.add_assoc _ _ _))⟩)))
      repeat (go_quiet (first | (go_at_call 24; (with_reducible refine (spec_Blank.calls (bt s0_0 x1001_1) false _ A5.out).mono ?_); rintro e w' ⟨rfl, ⟨nd, rfl⟩⟩; (try first | exact ⟨rfl, _, World.drewN_drewN _ _ _⟩ | exact ⟨rfl, _, Eq.trans (World.drewN_drewN _ _ _) (congrArg (World.drewN _) (Nat.add_assoc _ _ _))⟩))); try go_wp2_with (first | (go_at_call 24; (with_reducible refine (spec_Blank.calls (bt s0_0 x1001_1) false _ A5.out).mono ?_); rintro e w' ⟨rfl, ⟨nd, rfl⟩⟩; (try first | exact ⟨rfl, _, World.drewN_drewN _ _ _⟩ | exact ⟨rfl, _, Eq.trans (World.drewN_drewN _ _ _) (congrArg (World.drewN _) (Nat.add_assoc _ _ _))⟩))))
      first | go_end0 | ((try simp only [Exit.inBlock, Exit.then]); refine bodyPost_ret (results_none rfl _ _ _) rfl ?_)
      exact ⟨by first | rfl | (simp [errW_none, errW_some] <;> rfl) | (simp [*, errW_none, errW_some] <;> rfl), by repeat (first | (with_reducible first | exact HI0.out | apply IsS112.alloc | apply IsS112.drewN | apply IsS112.set_1) | exact HI0.out), by repeat (first | (with_reducible first | exact HB.out | apply below_alloc | apply pw_below_drewN | apply below_drew1 | refine below_set ?_ (IsS112.ge HI0.out)) | exact HB.out), by repeat (first | (with_reducible first | exact HK.out | apply KeepBut.set_ | apply keep_drewN) | exact HK.out)⟩
    ·rw [if_neg c3] at H
     exact absurd H (by simp)
   ·rw [if_neg c2] at H
    have c2b0 : decide (x1001_1 < (s0_0.size : Int)) = false := decide_eq_false c2
    clear c2
    simp only [Option.some.injEq, Prod.mk.injEq] at H
    obtain ⟨rfl, rfl⟩ := H
    obtain ⟨HGz9, hgz9⟩ := HI0.out
    have hcz9_0 := cellS112_0 HGz9
    have hcz9_1 := cellS112_1 HGz9
    have hfz9_0 := blk_frozen HGz9 0
    have hfz9_1 := blk_frozen HGz9 1
    clear HGz9 hgz9
    go_wp2
    repeat (go_quiet (fail); try go_wp2)
    first | go_end0 | ((try simp only [Exit.inBlock, Exit.then]); refine bodyPost_ret (results_none rfl _ _ _) rfl ?_)
    exact ⟨by first | rfl | (simp [errW_none, errW_some] <;> rfl) | (simp [*, errW_none, errW_some] <;> rfl), by repeat (first | (with_reducible first | exact HI0.out | apply IsS112.alloc | apply IsS112.drewN | apply IsS112.set_1) | exact HI0.out), by repeat (first | (with_reducible first | exact HB.out | apply below_alloc | apply pw_below_drewN | apply below_drew1 | refine below_set ?_ (IsS112.ge HI0.out)) | exact HB.out), by repeat (first | (with_reducible first | exact HK.out | apply KeepBut.set_ | apply keep_drewN) | exact HK.out)⟩
def spec_reader_take.f (s0_0 : ByteArray) (s0_1 : Int) (a1 : Int) : Option (Bool × ByteArray × Int) := if s0_1 < (s0_0.size : Int) then (if 0 ≤ s0_1 then (if (bt s0_0 s0_1) = a1 then (some (true, s0_0, wrap64 (s0_1 + 1))) else (some (false, s0_0, s0_1))) else (none)) else (some (false, s0_0, s0_1))
theorem spec_reader_take.calls (g : Nat) (s0_0 : ByteArray) (s0_1 : Int) (a1 : Int) (r1 : Bool) (r2 : ByteArray) (r3 : Int) (w0 w : World) (hI : IsS112 w0 w g s0_0 s0_1) (hB : Below w0.heap.size w0 w) (h : spec_reader_take.f s0_0 s0_1 a1 = some (r1, r2, r3)) :
  Calls Tryz.prog 109 #[.pointer (some ⟨g, 0, none⟩), .int .u8 a1] w fun e w' => e = .returned (.bool r1) ∧ IsS112 w0 w' g r2 r3 ∧ Below w0.heap.size w0 w' ∧ KeepBut w w' g none := by
 have HI0 := Aside0.mk hI
 have HK := Aside0.mk (KeepBut.refl w g none)
 have HL := Aside0.mk hB.size
 clear hI
 have HW0 := Aside0.mk hB.size
 have HB := Aside0.mk hB
 clear hB
 have H : (if s0_1 < (s0_0.size : Int) then (if 0 ≤ s0_1 then (if (bt s0_0 s0_1) = a1 then (some (true, s0_0, wrap64 (s0_1 + 1))) else (some (false, s0_0, s0_1))) else (none)) else (some (false, s0_0, s0_1))) = some (r1, r2, r3) := h
 clear h
 by_cases c3 : s0_1 < (s0_0.size : Int)
 ·rw [if_pos c3] at H
  have c3b0 : decide (s0_1 < (s0_0.size : Int)) = true := decide_eq_true c3
  clear c3
  by_cases c4 : 0 ≤ s0_1
  ·rw [if_pos c4] at H
   have c4b0 : decide (0 ≤ s0_1) = true := decide_eq_true c4
   clear c4
   by_cases c6 : (bt s0_0 s0_1) = a1
   ·rw [if_pos c6] at H
    have c6b0 : ((bt s0_0 s0_1) == a1) = true := beq_iff_eq.mpr c6
    have c6b1 : ((bt s0_0 s0_1) != a1) = false := bne_eq_false_iff_eq.mpr c6
    clear c6
    simp only [Option.some.injEq, Prod.mk.injEq] at H
    obtain ⟨rfl, rfl, rfl⟩ := H
    obtain ⟨HGz7, hgz7⟩ := HI0.out
    have hcz7_0 := cellS112_0 HGz7
    have hcz7_1 := cellS112_1 HGz7
    have hfz7_0 := blk_frozen HGz7 0
    have hfz7_1 := blk_frozen HGz7 1
    clear HGz7 hgz7
    have p5 : 0 ≤ (s0_1 : Int) := of_decide_eq_true (by first | (with_reducible assumption) | assumption)
    have q5 : s0_1 < (s0_0.size : Int) := of_decide_eq_true (by first | (with_reducible assumption) | assumption)
    have hx5 := bt_at s0_0 s0_1
    replace p5 := eq_true p5
    replace q5 := eq_true q5
    go_enter Tryz.func109, Tryz.ntmps109
    go_wp2
    repeat (go_quiet (fail); try go_wp2)
    go_ret
    exact ⟨by first | rfl | (simp [errW_none, errW_some] <;> rfl) | (simp [*, errW_none, errW_some] <;> rfl), by repeat (first | (with_reducible first | exact HI0.out | apply IsS112.alloc | apply IsS112.drewN | apply IsS112.set_1) | exact HI0.out), by repeat (first | (with_reducible first | exact HB.out | apply below_alloc | apply pw_below_drewN | apply below_drew1 | refine below_set ?_ (IsS112.ge HI0.out)) | exact HB.out), by repeat (first | (with_reducible first | exact HK.out | apply KeepBut.set_ | apply keep_drewN) | exact HK.out)⟩
   ·rw [if_neg c6] at H
    have c6b0 : ((bt s0_0 s0_1) == a1) = false := beq_eq_false_iff_ne.mpr c6
    have c6b1 : ((bt s0_0 s0_1) != a1) = true := bne_iff_ne.mpr c6
    simp only [Option.some.injEq, Prod.mk.injEq] at H
    obtain ⟨rfl, rfl, rfl⟩ := H
    obtain ⟨HGz8, hgz8⟩ := HI0.out
    have hcz8_0 := cellS112_0 HGz8
    have hcz8_1 := cellS112_1 HGz8
    have hfz8_0 := blk_frozen HGz8 0
    have hfz8_1 := blk_frozen HGz8 1
    clear HGz8 hgz8
    have p5 : 0 ≤ (s0_1 : Int) := of_decide_eq_true (by first | (with_reducible assumption) | assumption)
    have q5 : s0_1 < (s0_0.size : Int) := of_decide_eq_true (by first | (with_reducible assumption) | assumption)
    have hx5 := bt_at s0_0 s0_1
    replace p5 := eq_true p5
    replace q5 := eq_true q5
    go_enter Tryz.func109, Tryz.ntmps109
    go_wp2
    repeat (go_quiet (fail); try go_wp2)
    go_ret
    exact ⟨by first | rfl | (simp [errW_none, errW_some] <;> rfl) | (simp [*, errW_none, errW_some] <;> rfl), by repeat (first | (with_reducible first | exact HI0.out | apply IsS112.alloc | apply IsS112.drewN | apply IsS112.set_1) | exact HI0.out), by repeat (first | (with_reducible first | exact HB.out | apply below_alloc | apply pw_below_drewN | apply below_drew1 | refine below_set ?_ (IsS112.ge HI0.out)) | exact HB.out), by repeat (first | (with_reducible first | exact HK.out | apply KeepBut.set_ | apply keep_drewN) | exact HK.out)⟩
  ·rw [if_neg c4] at H
   exact absurd H (by simp)
 ·rw [if_neg c3] at H
  have c3b0 : decide (s0_1 < (s0_0.size : Int)) = false := decide_eq_false c3
  clear c3
  simp only [Option.some.injEq, Prod.mk.injEq] at H
  obtain ⟨rfl, rfl, rfl⟩ := H
  obtain ⟨HGz9, hgz9⟩ := HI0.out
  have hcz9_0 := cellS112_0 HGz9
  have hcz9_1 := cellS112_1 HGz9
  have hfz9_0 := blk_frozen HGz9 0
  have hfz9_1 := blk_frozen HGz9 1
  clear HGz9 hgz9
  go_enter Tryz.func109, Tryz.ntmps109
  go_wp2
  repeat (go_quiet (fail); try go_wp2)
  go_ret
  exact ⟨by first | rfl | (simp [errW_none, errW_some] <;> rfl) | (simp [*, errW_none, errW_some] <;> rfl), by repeat (first | (with_reducible first | exact HI0.out | apply IsS112.alloc | apply IsS112.drewN | apply IsS112.set_1) | exact HI0.out), by repeat (first | (with_reducible first | exact HB.out | apply below_alloc | apply pw_below_drewN | apply below_drew1 | refine below_set ?_ (IsS112.ge HI0.out)) | exact HB.out), by repeat (first | (with_reducible first | exact HK.out | apply KeepBut.set_ | apply keep_drewN) | exact HK.out)⟩
def spec_reader_here.f (s0_0 : ByteArray) (s0_1 : Int) : Option (Int × ByteArray × Int) := if s0_1 < (s0_0.size : Int) then (if 0 ≤ s0_1 then (some (bt s0_0 s0_1, s0_0, s0_1)) else (none)) else (some (0, s0_0, s0_1))
theorem spec_reader_here.calls (g : Nat) (s0_0 : ByteArray) (s0_1 : Int) (r1 : Int) (r2 : ByteArray) (r3 : Int) (w0 w : World) (hI : IsS112 w0 w g s0_0 s0_1) (hB : Below w0.heap.size w0 w) (h : spec_reader_here.f s0_0 s0_1 = some (r1, r2, r3)) :
  Calls Tryz.prog 100 #[.pointer (some ⟨g, 0, none⟩)] w fun e w' => e = .returned (.int .u8 r1) ∧ IsS112 w0 w' g r2 r3 ∧ Below w0.heap.size w0 w' ∧ KeepBut w w' g none := by
 have HI0 := Aside0.mk hI
 have HK := Aside0.mk (KeepBut.refl w g none)
 have HL := Aside0.mk hB.size
 clear hI
 have HW0 := Aside0.mk hB.size
 have HB := Aside0.mk hB
 clear hB
 have H : (if s0_1 < (s0_0.size : Int) then (if 0 ≤ s0_1 then (some (bt s0_0 s0_1, s0_0, s0_1)) else (none)) else (some (0, s0_0, s0_1))) = some (r1, r2, r3) := h
 clear h
 by_cases c2 : s0_1 < (s0_0.size : Int)
 ·rw [if_pos c2] at H
  have c2b0 : decide (s0_1 < (s0_0.size : Int)) = true := decide_eq_true c2
  clear c2
  by_cases c3 : 0 ≤ s0_1
  ·rw [if_pos c3] at H
   have c3b0 : decide (0 ≤ s0_1) = true := decide_eq_true c3
   clear c3
   simp only [Option.some.injEq, Prod.mk.injEq] at H
   obtain ⟨rfl, rfl, rfl⟩ := H
   obtain ⟨HGz5, hgz5⟩ := HI0.out
   have hcz5_0 := cellS112_0 HGz5
   have hcz5_1 := cellS112_1 HGz5
   have hfz5_0 := blk_frozen HGz5 0
   have hfz5_1 := blk_frozen HGz5 1
   clear HGz5 hgz5
   have p4 : 0 ≤ (s0_1 : Int) := of_decide_eq_true (by first | (with_reducible assumption) | assumption)
   have q4 : s0_1 < (s0_0.size : Int) := of_decide_eq_true (by first | (with_reducible assumption) | assumption)
   have hx4 := bt_at s0_0 s0_1
   replace p4 := eq_true p4
   replace q4 := eq_true q4
   go_enter Tryz.func100, Tryz.ntmps100
   go_wp2
   repeat (go_quiet (fail); try go_wp2)
   go_ret
   exact ⟨by first | rfl | (simp [errW_none, errW_some] <;> rfl) | (simp [*, errW_none, errW_some] <;> rfl), by repeat (first | (with_reducible first | exact HI0.out | apply IsS112.alloc | apply IsS112.drewN | apply IsS112.set_1) | exact HI0.out), by repeat (first | (with_reducible first | exact HB.out | apply below_alloc | apply pw_below_drewN | apply below_drew1 | refine below_set ?_ (IsS112.ge HI0.out)) | exact HB.out), by repeat (first | (with_reducible first | exact HK.out | apply KeepBut.set_ | apply keep_drewN) | exact HK.out)⟩
  ·rw [if_neg c3] at H
   exact absurd H (by simp)
 ·rw [if_neg c2] at H
  have c2b0 : decide (s0_1 < (s0_0.size : Int)) = false := decide_eq_false c2
  clear c2
  simp only [Option.some.injEq, Prod.mk.injEq] at H
  obtain ⟨rfl, rfl, rfl⟩ := H
  obtain ⟨HGz6, hgz6⟩ := HI0.out
  have hcz6_0 := cellS112_0 HGz6
  have hcz6_1 := cellS112_1 HGz6
  have hfz6_0 := blk_frozen HGz6 0
  have hfz6_1 := blk_frozen HGz6 1
  clear HGz6 hgz6
  go_enter Tryz.func100, Tryz.ntmps100
  go_wp2
  repeat (go_quiet (fail); try go_wp2)
  go_ret
  exact ⟨by first | rfl | (simp [errW_none, errW_some] <;> rfl) | (simp [*, errW_none, errW_some] <;> rfl), by repeat (first | (with_reducible first | exact HI0.out | apply IsS112.alloc | apply IsS112.drewN | apply IsS112.set_1) | exact HI0.out), by repeat (first | (with_reducible first | exact HB.out | apply below_alloc | apply pw_below_drewN | apply below_drew1 | refine below_set ?_ (IsS112.ge HI0.out)) | exact HB.out), by repeat (first | (with_reducible first | exact HK.out | apply KeepBut.set_ | apply keep_drewN) | exact HK.out)⟩
def spec_reader_digits.l0 : Nat → Int → Int → ByteArray → Int → Option (Bool × ByteArray × Int)
 | 0, _, _, _, _ => none
 | k + 1, x3, x4, x1000, x1001 => if 48 ≤ x4 then (if x4 ≤ 57 then ((spec_reader_here.f x1000 (wrap64 (x1001 + 1))).bind fun bt105 => (spec_reader_digits.l0 k x3 bt105.1 bt105.2.1 bt105.2.2)) else (some (decide (x1001 > x3), x1000, x1001))) else (some (decide (x1001 > x3), x1000, x1001))
def spec_reader_digits.f (k : Nat) (s0_0 : ByteArray) (s0_1 : Int) : Option (Bool × ByteArray × Int) := (spec_reader_here.f s0_0 s0_1).bind fun bt102 => (spec_reader_digits.l0 k s0_1 bt102.1 bt102.2.1 bt102.2.2)
theorem spec_reader_digits.calls (k : Nat) (g : Nat) (s0_0 : ByteArray) (s0_1 : Int) (r1 : Bool) (r2 : ByteArray) (r3 : Int) (w0 w : World) (hI : IsS112 w0 w g s0_0 s0_1) (hB : Below w0.heap.size w0 w) (h : spec_reader_digits.f k s0_0 s0_1 = some (r1, r2, r3)) :
  Calls Tryz.prog 110 #[.pointer (some ⟨g, 0, none⟩)] w fun e w' => e = .returned (.bool r1) ∧ IsS112 w0 w' g r2 r3 ∧ Below w0.heap.size w0 w' ∧ KeepBut w w' g none := by
 have HI0 := Aside0.mk hI
 have HK := Aside0.mk (KeepBut.refl w g none)
 have HL := Aside0.mk hB.size
 clear hI
 have HW0 := Aside0.mk hB.size
 have HB := Aside0.mk hB
 clear hB
 have H : ((spec_reader_here.f s0_0 s0_1).bind fun bt102 => (spec_reader_digits.l0 k s0_1 bt102.1 bt102.2.1 bt102.2.2)) = some (r1, r2, r3) := h
 clear h
 replace H := Option.bind_eq_some_iff.mp H
 obtain ⟨⟨t102, t103, t104⟩, A20, H⟩ := H
 try dsimp only at H
 have A2 := Aside0.mk A20
 clear A20
 have H' := Aside0.mk H
 clear H
 obtain ⟨HGz3, hgz3⟩ := HI0.out
 have hcz3_0 := cellS112_0 HGz3
 have hcz3_1 := cellS112_1 HGz3
 have hfz3_0 := blk_frozen HGz3 0
 have hfz3_1 := blk_frozen HGz3 1
 clear HGz3 hgz3
 go_enter Tryz.func110, Tryz.ntmps110
 go_wp2_with (first | ((with_reducible refine gate_callee (f := 100) rfl ?_); refine goesL_ (some 10) rfl rfl Tryz.func100 (by kernel_rfl) rfl #[.pointer (some ⟨g, 0, none⟩)] rfl (by (try simp only [List.map_toArray, List.map_cons, List.map_nil]); first | done | rfl | (simp only [List.length_drop, List.length_take]; rfl)) ?_; (with_reducible refine (spec_reader_here.calls g s0_0 s0_1 t102 t103 t104 w0 _ ?side1 ?side2 A2.out).mono ?_); (case side1 => repeat (first | (with_reducible first | exact HI0.out | apply IsS112.alloc | apply IsS112.drewN | apply IsS112.set_1) | exact HI0.out)); (case side2 => repeat (first | (with_reducible first | exact HB.out | apply below_alloc | apply pw_below_drewN | apply below_drew1 | refine below_set ?_ (IsS112.ge HI0.out)) | exact HB.out)); rintro e w4 ⟨rfl, hi, hb, hk⟩; refine ⟨_, rfl, ?_⟩; have n0_ := Aside0.mk (KeepBut.trans (by repeat (first | (with_reducible first | exact HK.out | apply KeepBut.set_ | apply keep_drewN) | exact HK.out)) hk (.inl rfl)); have n1_ := Aside0.mk (hb); have n2_ := Aside0.mk (hi); clear HK; clear HB; clear HI0; have HK := n0_; have HB := n1_; have HI0 := n2_; clear n0_ n1_ n2_; (try clear hb); (try clear hb2); (try clear hk); (try clear hi)))
 go_loopg [4] k (fun kq v4 w' => ∃ (x4_1 : Int) (x1000_1 : ByteArray) (x1001_1 : Int), v4 = .int .u8 x4_1 ∧ Aside0 (spec_reader_digits.l0 kq s0_1 x4_1 x1000_1 x1001_1 = some (r1, r2, r3)) ∧ Aside0 (kq ≤ k) ∧ Aside0 (IsS112 w0 w' g x1000_1 x1001_1) ∧ Aside0 (KeepBut w w' g none) ∧ Aside0 (Below w0.heap.size w0 w'))
 case atStart => exact ⟨(t102), (t103), (t104), (by first | rfl | (simp; done) | (simp [*]; done)), H', ⟨Nat.le_refl _⟩, ⟨by repeat (first | (with_reducible first | exact HI0.out | apply IsS112.alloc | apply IsS112.drewN | apply IsS112.set_1) | exact HI0.out)⟩, ⟨by repeat (first | (with_reducible first | exact HK.out | apply KeepBut.set_ | apply keep_drewN) | exact HK.out)⟩, ⟨by repeat (first | (with_reducible first | exact HB.out | apply below_alloc | apply pw_below_drewN | apply below_drew1 | refine below_set ?_ (IsS112.ge HI0.out)) | exact HB.out)⟩⟩
 case round =>
  clear H'
  try clear c1
  try clear p2
  try clear hcz3_0
  try clear hcz3_1
  try clear hfz3_0
  try clear hfz3_1
  obtain ⟨x4_1, x1000_1, x1001_1, rfl, HA, HK1, HI0, HK, HB⟩ := hrel
  cases gk with
  | zero => exact absurd HA.out (by simp [spec_reader_digits.l0])
  | succ k1 =>
   have H := HA.out
   clear HA
   simp only [spec_reader_digits.l0] at H
   by_cases c5 : 48 ≤ x4_1
   ·rw [if_pos c5] at H
    have c5b0 : decide (48 ≤ x4_1) = true := decide_eq_true c5
    clear c5
    by_cases c6 : x4_1 ≤ 57
    ·rw [if_pos c6] at H
     have c6b0 : decide (x4_1 ≤ 57) = true := decide_eq_true c6
     clear c6
     replace H := Option.bind_eq_some_iff.mp H
     obtain ⟨⟨t105, t106, t107⟩, A70, H⟩ := H
     try dsimp only at H
     have A7 := Aside0.mk A70
     clear A70
     have H' := Aside0.mk H
     clear H
     obtain ⟨HGz8, hgz8⟩ := HI0.out
     have hcz8_0 := cellS112_0 HGz8
     have hcz8_1 := cellS112_1 HGz8
     have hfz8_0 := blk_frozen HGz8 0
     have hfz8_1 := blk_frozen HGz8 1
     clear HGz8 hgz8
     go_wp2_with (first | ((with_reducible refine gate_callee (f := 100) rfl ?_); refine goesL_ (some 18) rfl rfl Tryz.func100 (by kernel_rfl) rfl #[.pointer (some ⟨g, 0, none⟩)] rfl (by (try simp only [List.map_toArray, List.map_cons, List.map_nil]); first | done | rfl | (simp only [List.length_drop, List.length_take]; rfl)) ?_; (with_reducible refine (spec_reader_here.calls g x1000_1 (wrap64 (x1001_1 + 1)) t105 t106 t107 w0 _ ?side1 ?side2 A7.out).mono ?_); (case side1 => repeat (first | (with_reducible first | exact HI0.out | apply IsS112.alloc | apply IsS112.drewN | apply IsS112.set_1) | exact HI0.out)); (case side2 => repeat (first | (with_reducible first | exact HB.out | apply below_alloc | apply pw_below_drewN | apply below_drew1 | refine below_set ?_ (IsS112.ge HI0.out)) | exact HB.out)); rintro e w9 ⟨rfl, hi, hb, hk⟩; refine ⟨_, rfl, ?_⟩; have n0_ := Aside0.mk (KeepBut.trans (by repeat (first | (with_reducible first | exact HK.out | apply KeepBut.set_ | apply keep_drewN) | exact HK.out)) hk (.inl rfl)); have n1_ := Aside0.mk (hb); have n2_ := Aside0.mk (hi); clear HK; clear HB; clear HI0; have HK := n0_; have HB := n1_; have HI0 := n2_; clear n0_ n1_ n2_; (try clear hb); (try clear hb2); (try clear hk); (try clear hi)))
     go_roundg k1
     case measure => have := HK1.out; omega
     case rel => exact ⟨(t105), (t106), (t107), (by first | rfl | (simp; done) | (simp [*]; done)), H', ⟨by have := HK1.out; omega⟩, ⟨by repeat (first | (with_reducible first | exact HI0.out | apply IsS112.alloc | apply IsS112.drewN | apply IsS112.set_1) | exact HI0.out)⟩, ⟨by repeat (first | (with_reducible first | exact HK.out | apply KeepBut.set_ | apply keep_drewN) | exact HK.out)⟩, ⟨by repeat (first | (with_reducible first | exact HB.out | apply below_alloc | apply pw_below_drewN | apply below_drew1 | refine below_set ?_ (IsS112.ge HI0.out)) | exact HB.out)⟩⟩
    ·rw [if_neg c6] at H
     have c6b0 : decide (x4_1 ≤ 57) = false := decide_eq_false c6
     clear c6
     simp only [Option.some.injEq, Prod.mk.injEq] at H
     obtain ⟨rfl, rfl, rfl⟩ := H
     obtain ⟨HGz10, hgz10⟩ := HI0.out
     have hcz10_0 := cellS112_0 HGz10
     have hcz10_1 := cellS112_1 HGz10
     have hfz10_0 := blk_frozen HGz10 0
     have hfz10_1 := blk_frozen HGz10 1
     clear HGz10 hgz10
     go_wp2
     go_ret
     exact ⟨by first | rfl | (simp [errW_none, errW_some] <;> rfl) | (simp [*, errW_none, errW_some] <;> rfl), by repeat (first | (with_reducible first | exact HI0.out | apply IsS112.alloc | apply IsS112.drewN | apply IsS112.set_1) | exact HI0.out), by repeat (first | (with_reducible first | exact HB.out | apply below_alloc | apply pw_below_drewN | apply below_drew1 | refine below_set ?_ (IsS112.ge HI0.out)) | exact HB.out), by repeat (first | (with_reducible first | exact HK.out | apply KeepBut.set_ | apply keep_drewN) | exact HK.out)⟩
   ·rw [if_neg c5] at H
    have c5b0 : decide (48 ≤ x4_1) = false := decide_eq_false c5
    clear c5
    simp only [Option.some.injEq, Prod.mk.injEq] at H
    obtain ⟨rfl, rfl, rfl⟩ := H
    obtain ⟨HGz11, hgz11⟩ := HI0.out
    have hcz11_0 := cellS112_0 HGz11
    have hcz11_1 := cellS112_1 HGz11
    have hfz11_0 := blk_frozen HGz11 0
    have hfz11_1 := blk_frozen HGz11 1
    clear HGz11 hgz11
    go_wp2
    go_ret
    exact ⟨by first | rfl | (simp [errW_none, errW_some] <;> rfl) | (simp [*, errW_none, errW_some] <;> rfl), by repeat (first | (with_reducible first | exact HI0.out | apply IsS112.alloc | apply IsS112.drewN | apply IsS112.set_1) | exact HI0.out), by repeat (first | (with_reducible first | exact HB.out | apply below_alloc | apply pw_below_drewN | apply below_drew1 | refine below_set ?_ (IsS112.ge HI0.out)) | exact HB.out), by repeat (first | (with_reducible first | exact HK.out | apply KeepBut.set_ | apply keep_drewN) | exact HK.out)⟩
theorem iA : type_of% @IsS112.alloc := @IsS112.alloc
theorem iN : type_of% @IsS112.drewN := @IsS112.drewN
theorem i1 : type_of% @IsS112.set_1 := @IsS112.set_1
theorem kS : type_of% @KeepBut.set_ := @KeepBut.set_
theorem kN : type_of% @keep_drewN := @keep_drewN
theorem bA : type_of% @below_alloc := @below_alloc
theorem bN : type_of% @pw_below_drewN := @pw_below_drewN
theorem bD : type_of% @below_drew1 := @below_drew1
theorem lA : type_of% @blk_alloc := @blk_alloc
theorem lD : type_of% @blk_drew := @blk_drew
theorem rA : type_of% @Kd.R_alloc := @Kd.R_alloc
theorem rN : type_of% @Kd.R_drewN := @Kd.R_drewN
theorem rD : type_of% @Kd.R_drew := @Kd.R_drew
end Go.Proofs.YtgiioglmkogpkaaGreatDoor.M
namespace Go.Proofs.YtgiioglmkogpkaaGreatDoor.M
open Go.RowKit Go.Proofs.YtgiioglmkogpkaaGreatDoorW.PrintWords Go.Proofs.YtgiioglmkogpkaaGreatDoorW.PrintLast Go.Proofs.YtgiioglmkogpkaaGreatDoorW.PrintMore
set_option maxHeartbeats 8000000
set_option maxRecDepth 100000
attribute [local go_sem] max2_int min2_int max_two min_two max_three min_three max_four min_four
mutual
def spec_reader_number.j0 : Nat → Bool → ByteArray → Int → Option (Bool × ByteArray × Int)
 | 0, _, _, _ => none
 | k + 1, x12, x1000, x1001 => if x12 = true then (some (false, x1000, x1001)) else ((spec_reader_take.f x1000 x1001 46).bind fun bt117 => (if bt117.1 = true then ((spec_reader_digits.f k bt117.2.1 bt117.2.2).bind fun bt120 => (spec_reader_number.j1 k (!bt120.1) bt120.2.1 bt120.2.2)) else (spec_reader_number.j1 k false bt117.2.1 bt117.2.2)))
def spec_reader_number.j1 : Nat → Bool → ByteArray → Int → Option (Bool × ByteArray × Int)
 | 0, _, _, _ => none
 | k + 1, x19, x1000, x1001 => if x19 = true then (some (false, x1000, x1001)) else ((spec_reader_take.f x1000 x1001 101).bind fun bt123 => (if bt123.1 = true then (spec_reader_number.j2 k true bt123.2.1 bt123.2.2) else ((spec_reader_take.f bt123.2.1 bt123.2.2 69).bind fun bt126 => (spec_reader_number.j2 k bt126.1 bt126.2.1 bt126.2.2))))
def spec_reader_number.j2 : Nat → Bool → ByteArray → Int → Option (Bool × ByteArray × Int)
 | 0, _, _, _ => none
 | k + 1, x25, x1000, x1001 => if x25 = true then ((spec_reader_take.f x1000 x1001 43).bind fun bt129 => (if bt129.1 = true then ((spec_reader_digits.f k bt129.2.1 bt129.2.2).bind fun bt132 => (some (bt132.1, bt132.2.1, bt132.2.2))) else ((spec_reader_take.f bt129.2.1 bt129.2.2 45).bind fun bt135 => ((spec_reader_digits.f k bt135.2.1 bt135.2.2).bind fun bt138 => (some (bt138.1, bt138.2.1, bt138.2.2)))))) else (some (true, x1000, x1001))
end
def spec_reader_number.f (k : Nat) (s0_0 : ByteArray) (s0_1 : Int) : Option (Bool × ByteArray × Int) := (spec_reader_take.f s0_0 s0_1 45).bind fun bt108 => ((spec_reader_take.f bt108.2.1 bt108.2.2 48).bind fun bt111 => (if bt111.1 = true then (spec_reader_number.j0 k false bt111.2.1 bt111.2.2) else ((spec_reader_digits.f k bt111.2.1 bt111.2.2).bind fun bt114 => (spec_reader_number.j0 k (!bt114.1) bt114.2.1 bt114.2.2))))
theorem spec_reader_number.calls (k : Nat) (g : Nat) (s0_0 : ByteArray) (s0_1 : Int) (r1 : Bool) (r2 : ByteArray) (r3 : Int) (w0 w : World) (hI : IsS112 w0 w g s0_0 s0_1) (hB : Below w0.heap.size w0 w) (h : spec_reader_number.f k s0_0 s0_1 = some (r1, r2, r3)) :
  Calls Tryz.prog 78 #[.pointer (some ⟨g, 0, none⟩)] w fun e w' => e = .returned (.bool r1) ∧ IsS112 w0 w' g r2 r3 ∧ Below w0.heap.size w0 w' ∧ KeepBut w w' g none := by
 have HI0 := Aside0.mk hI
 have HK := Aside0.mk (KeepBut.refl w g none)
 have HL := Aside0.mk hB.size
 clear hI
 have HW0 := Aside0.mk hB.size
 have HB := Aside0.mk hB
 clear hB
 have H : ((spec_reader_take.f s0_0 s0_1 45).bind fun bt108 => ((spec_reader_take.f bt108.2.1 bt108.2.2 48).bind fun bt111 => (if bt111.1 = true then (spec_reader_number.j0 k false bt111.2.1 bt111.2.2) else ((spec_reader_digits.f k bt111.2.1 bt111.2.2).bind fun bt114 => (spec_reader_number.j0 k (!bt114.1) bt114.2.1 bt114.2.2))))) = some (r1, r2, r3) := h
 clear h
 replace H := Option.bind_eq_some_iff.mp H
 obtain ⟨⟨t108, t109, t110⟩, A20, H⟩ := H
 try dsimp only at H
 have A2 := Aside0.mk A20
 clear A20
 have HC3 := Aside0.mk H
 clear H
 go_enter Tryz.func78, Tryz.ntmps78
 go_upto_region 2 with (first | ((with_reducible refine gate_callee (f := 109) rfl ?_); refine goesL_ (some 4) rfl rfl Tryz.func109 (by kernel_rfl) rfl #[.pointer (some ⟨g, 0, none⟩), .int .u8 45] rfl (by (try simp only [List.map_toArray, List.map_cons, List.map_nil]); first | done | rfl | (simp only [List.length_drop, List.length_take]; rfl)) ?_; (with_reducible refine (spec_reader_take.calls g s0_0 s0_1 45 t108 t109 t110 w0 _ ?side1 ?side2 A2.out).mono ?_); (case side1 => repeat (first | (with_reducible first | exact HI0.out | apply iA | apply iN | apply i1) | exact HI0.out)); (case side2 => repeat (first | (with_reducible first | exact HB.out | apply bA | apply bN | apply bD | refine below_set ?_ (IsS112.ge HI0.out)) | exact HB.out)); rintro e w4 ⟨rfl, hi, hb, hk⟩; refine ⟨_, rfl, ?_⟩; have n0_ := Aside0.mk (KeepBut.trans (by repeat (first | (with_reducible first | exact HK.out | apply kS | apply kN) | exact HK.out)) hk (.inl rfl)); have n1_ := Aside0.mk (hb); have n2_ := Aside0.mk (hi); clear HK; clear HB; clear HI0; have HK := n0_; have HB := n1_; have HI0 := n2_; clear n0_ n1_ n2_; (try clear hb); (try clear hb2); (try clear hk); (try clear hi)))
 (try simp only [Act.put, List.setIfInBounds_toArray, List.set_cons_zero, List.set_cons_succ])
 go_cut [12] (fun v12 wc => ∃ (kq : Nat) (x12_2 : Bool) (x1000_2 : ByteArray) (x1001_2 : Int), v12 = .bool x12_2 ∧ Aside0 (spec_reader_number.j0 kq x12_2 x1000_2 x1001_2 = some (r1, r2, r3)) ∧ Aside0 (kq ≤ k) ∧ Aside0 (IsS112 w0 wc g x1000_2 x1001_2) ∧ Aside0 (KeepBut w wc g none) ∧ Aside0 (Below w0.heap.size w0 wc))
 case first =>
  have H := HC3.out
  clear HC3
  replace H := Option.bind_eq_some_iff.mp H
  obtain ⟨⟨t111, t112, t113⟩, A50, H⟩ := H
  try dsimp only at H
  have A5 := Aside0.mk A50
  clear A50
  by_cases c6 : t111 = true
  ·subst c6
   have H1 : (spec_reader_number.j0 k false t112 t113) = some (r1, r2, r3) := by rw [if_pos rfl] at H; exact H
   clear H
   have H := H1
   clear H1
   have H' := Aside0.mk H
   clear H
   go_wp2_with (first | ((with_reducible refine gate_callee (f := 109) rfl ?_); refine goesL_ (some 6) rfl rfl Tryz.func109 (by kernel_rfl) rfl #[.pointer (some ⟨g, 0, none⟩), .int .u8 48] rfl (by (try simp only [List.map_toArray, List.map_cons, List.map_nil]); first | done | rfl | (simp only [List.length_drop, List.length_take]; rfl)) ?_; (with_reducible refine (spec_reader_take.calls g t109 t110 48 true t112 t113 w0 _ ?side1 ?side2 A5.out).mono ?_); (case side1 => repeat (first | (with_reducible first | exact HI0.out | apply iA | apply iN | apply i1) | exact HI0.out)); (case side2 => repeat (first | (with_reducible first | exact HB.out | apply bA | apply bN | apply bD | refine below_set ?_ (IsS112.ge HI0.out)) | exact HB.out)); rintro e w7 ⟨rfl, hi, hb, hk⟩; refine ⟨_, rfl, ?_⟩; have n0_ := Aside0.mk (KeepBut.trans (by repeat (first | (with_reducible first | exact HK.out | apply kS | apply kN) | exact HK.out)) hk (.inl rfl)); have n1_ := Aside0.mk (hb); have n2_ := Aside0.mk (hi); clear HK; clear HB; clear HI0; have HK := n0_; have HB := n1_; have HI0 := n2_; clear n0_ n1_ n2_; (try clear hb); (try clear hb2); (try clear hk); (try clear hi)))
   go_meet
   case rel => exact ⟨_, (false), (t112), (t113), (by first | rfl | (simp; done) | (simp [*]; done)), H', ⟨by first | omega | exact Nat.le_refl _⟩, ⟨by repeat (first | (with_reducible first | exact HI0.out | apply iA | apply iN | apply i1) | exact HI0.out)⟩, ⟨by repeat (first | (with_reducible first | exact HK.out | apply kS | apply kN) | exact HK.out)⟩, ⟨by repeat (first | (with_reducible first | exact HB.out | apply bA | apply bN | apply bD | refine below_set ?_ (IsS112.ge HI0.out)) | exact HB.out)⟩⟩
  ·replace c6 := Bool.eq_false_iff.mpr c6
   subst c6
   have H1 : ((spec_reader_digits.f k t112 t113).bind fun bt114 => (spec_reader_number.j0 k (!bt114.1) bt114.2.1 bt114.2.2)) = some (r1, r2, r3) := by rw [if_neg (show ¬ (false = true) by decide)] at H; exact H
   clear H
   have H := H1
   clear H1
   replace H := Option.bind_eq_some_iff.mp H
   obtain ⟨⟨t114, t115, t116⟩, A80, H⟩ := H
   try dsimp only at H
   have A8 := Aside0.mk A80
   clear A80
   have H' := Aside0.mk H
   clear H
   go_wp2_with (first | ((with_reducible refine gate_callee (f := 109) rfl ?_); refine goesL_ (some 6) rfl rfl Tryz.func109 (by kernel_rfl) rfl #[.pointer (some ⟨g, 0, none⟩), .int .u8 48] rfl (by (try simp only [List.map_toArray, List.map_cons, List.map_nil]); first | done | rfl | (simp only [List.length_drop, List.length_take]; rfl)) ?_; (with_reducible refine (spec_reader_take.calls g t109 t110 48 false t112 t113 w0 _ ?side1 ?side2 A5.out).mono ?_); (case side1 => repeat (first | (with_reducible first | exact HI0.out | apply iA | apply iN | apply i1) | exact HI0.out)); (case side2 => repeat (first | (with_reducible first | exact HB.out | apply bA | apply bN | apply bD | refine below_set ?_ (IsS112.ge HI0.out)) | exact HB.out)); rintro e w9 ⟨rfl, hi, hb, hk⟩; refine ⟨_, rfl, ?_⟩; have n0_ := Aside0.mk (KeepBut.trans (by repeat (first | (with_reducible first | exact HK.out | apply kS | apply kN) | exact HK.out)) hk (.inl rfl)); have n1_ := Aside0.mk (hb); have n2_ := Aside0.mk (hi); clear HK; clear HB; clear HI0; have HK := n0_; have HB := n1_; have HI0 := n2_; clear n0_ n1_ n2_; (try clear hb); (try clear hb2); (try clear hk); (try clear hi)) | (go_at_call 110; (with_reducible refine (spec_reader_digits.calls k g t112 t113 t114 t115 t116 w0 _ ?side1 ?side2 A8.out).mono ?_); (case side1 => repeat (first | (with_reducible first | exact HI0.out | apply iA | apply iN | apply i1) | exact HI0.out)); (case side2 => repeat (first | (with_reducible first | exact HB.out | apply bA | apply bN | apply bD | refine below_set ?_ (IsS112.ge HI0.out)) | exact HB.out)); rintro e w10 ⟨rfl, hi, hb, hk⟩; have n0_ := Aside0.mk (KeepBut.trans (by repeat (first | (with_reducible first | exact HK.out | apply kS | apply kN) | exact HK.out)) hk (.inl rfl)); have n1_ := Aside0.mk (hb); have n2_ := Aside0.mk (hi); clear HK; clear HB; clear HI0; have HK := n0_; have HB := n1_; have HI0 := n2_; clear n0_ n1_ n2_; (try clear hb); (try clear hb2); (try clear hk); (try clear hi)))
   go_meet
   case rel => exact ⟨_, (!t114), (t115), (t116), (by first | rfl | (simp; done) | (simp [*]; done)), H', ⟨by first | omega | exact Nat.le_refl _⟩, ⟨by repeat (first | (with_reducible first | exact HI0.out | apply iA | apply iN | apply i1) | exact HI0.out)⟩, ⟨by repeat (first | (with_reducible first | exact HK.out | apply kS | apply kN) | exact HK.out)⟩, ⟨by repeat (first | (with_reducible first | exact HB.out | apply bA | apply bN | apply bD | refine below_set ?_ (IsS112.ge HI0.out)) | exact HB.out)⟩⟩
 case rest =>
  clear HC3
  try clear c1
  try clear p2
  try clear c6
  try clear c7
  try clear c10
  obtain ⟨kq, x12_2, x1000_2, x1001_2, rfl, HA, HJ2, HI0, HK, HB⟩ := hcut
  cases kq with
  | zero => exact absurd HA.out (by simp [spec_reader_number.j0])
  | succ kj2 =>
   have H := HA.out
   clear HA
   simp only [spec_reader_number.j0] at H
   by_cases c11 : x12_2 = true
   ·subst c11
    have H1 : (some (false, x1000_2, x1001_2)) = some (r1, r2, r3) := by rw [if_pos rfl] at H; exact H
    clear H
    have H := H1
    clear H1
    simp only [Option.some.injEq, Prod.mk.injEq] at H
    obtain ⟨rfl, rfl, rfl⟩ := H
    go_wp2
    go_ret
    exact ⟨by first | rfl | (simp [errW_none, errW_some] <;> rfl) | (simp [*, errW_none, errW_some] <;> rfl), by repeat (first | (with_reducible first | exact HI0.out | apply iA | apply iN | apply i1) | exact HI0.out), by repeat (first | (with_reducible first | exact HB.out | apply bA | apply bN | apply bD | refine below_set ?_ (IsS112.ge HI0.out)) | exact HB.out), by repeat (first | (with_reducible first | exact HK.out | apply kS | apply kN) | exact HK.out)⟩
   ·replace c11 := Bool.eq_false_iff.mpr c11
    subst c11
    have H1 : ((spec_reader_take.f x1000_2 x1001_2 46).bind fun bt117 => (if bt117.1 = true then ((spec_reader_digits.f kj2 bt117.2.1 bt117.2.2).bind fun bt120 => (spec_reader_number.j1 kj2 (!bt120.1) bt120.2.1 bt120.2.2)) else (spec_reader_number.j1 kj2 false bt117.2.1 bt117.2.2))) = some (r1, r2, r3) := by rw [if_neg (show ¬ (false = true) by decide)] at H; exact H
    clear H
    have H := H1
    clear H1
    have HC12 := Aside0.mk H
    clear H
    go_upto_region 4 with (fail)
    go_cut [19] (fun v19 wc => ∃ (kq : Nat) (x19_11 : Bool) (x1000_11 : ByteArray) (x1001_11 : Int), v19 = .bool x19_11 ∧ Aside0 (spec_reader_number.j1 kq x19_11 x1000_11 x1001_11 = some (r1, r2, r3)) ∧ Aside0 (kq ≤ kj2) ∧ Aside0 (IsS112 w0 wc g x1000_11 x1001_11) ∧ Aside0 (KeepBut w wc g none) ∧ Aside0 (Below w0.heap.size w0 wc))
    case first =>
     have H := HC12.out
     clear HC12
     replace H := Option.bind_eq_some_iff.mp H
     obtain ⟨⟨t117, t118, t119⟩, A130, H⟩ := H
     try dsimp only at H
     have A13 := Aside0.mk A130
     clear A130
     by_cases c14 : t117 = true
     ·subst c14
      have H1 : ((spec_reader_digits.f kj2 t118 t119).bind fun bt120 => (spec_reader_number.j1 kj2 (!bt120.1) bt120.2.1 bt120.2.2)) = some (r1, r2, r3) := by rw [if_pos rfl] at H; exact H
      clear H
      have H := H1
      clear H1
      replace H := Option.bind_eq_some_iff.mp H
      obtain ⟨⟨t120, t121, t122⟩, A150, H⟩ := H
      try dsimp only at H
      have A15 := Aside0.mk A150
      clear A150
      have H' := Aside0.mk H
      clear H
      go_wp2_with (first | ((with_reducible refine gate_callee (f := 109) rfl ?_); refine goesL_ (some 14) rfl rfl Tryz.func109 (by kernel_rfl) rfl #[.pointer (some ⟨g, 0, none⟩), .int .u8 46] rfl (by (try simp only [List.map_toArray, List.map_cons, List.map_nil]); first | done | rfl | (simp only [List.length_drop, List.length_take]; rfl)) ?_; (with_reducible refine (spec_reader_take.calls g x1000_2 x1001_2 46 true t118 t119 w0 _ ?side1 ?side2 A13.out).mono ?_); (case side1 => repeat (first | (with_reducible first | exact HI0.out | apply iA | apply iN | apply i1) | exact HI0.out)); (case side2 => repeat (first | (with_reducible first | exact HB.out | apply bA | apply bN | apply bD | refine below_set ?_ (IsS112.ge HI0.out)) | exact HB.out)); rintro e w16 ⟨rfl, hi, hb, hk⟩; refine ⟨_, rfl, ?_⟩; have n0_ := Aside0.mk (KeepBut.trans (by repeat (first | (with_reducible first | exact HK.out | apply kS | apply kN) | exact HK.out)) hk (.inl rfl)); have n1_ := Aside0.mk (hb); have n2_ := Aside0.mk (hi); clear HK; clear HB; clear HI0; have HK := n0_; have HB := n1_; have HI0 := n2_; clear n0_ n1_ n2_; (try clear hb); (try clear hb2); (try clear hk); (try clear hi)) | (go_at_call 110; (with_reducible refine (spec_reader_digits.calls kj2 g t118 t119 t120 t121 t122 w0 _ ?side1 ?side2 A15.out).mono ?_); (case side1 => repeat (first | (with_reducible first | exact HI0.out | apply iA | apply iN | apply i1) | exact HI0.out)); (case side2 => repeat (first | (with_reducible first | exact HB.out | apply bA | apply bN | apply bD | refine below_set ?_ (IsS112.ge HI0.out)) | exact HB.out)); rintro e w17 ⟨rfl, hi, hb, hk⟩; have n0_ := Aside0.mk (KeepBut.trans (by repeat (first | (with_reducible first | exact HK.out | apply kS | apply kN) | exact HK.out)) hk (.inl rfl)); have n1_ := Aside0.mk (hb); have n2_ := Aside0.mk (hi); clear HK; clear HB; clear HI0; have HK := n0_; have HB := n1_; have HI0 := n2_; clear n0_ n1_ n2_; (try clear hb); (try clear hb2); (try clear hk); (try clear hi)))
      go_meet
      case rel => exact ⟨_, (!t120), (t121), (t122), (by first | rfl | (simp; done) | (simp [*]; done)), H', ⟨by have := HJ2.out; first | omega | exact Nat.le_refl _⟩, ⟨by repeat (first | (with_reducible first | exact HI0.out | apply iA | apply iN | apply i1) | exact HI0.out)⟩, ⟨by repeat (first | (with_reducible first | exact HK.out | apply kS | apply kN) | exact HK.out)⟩, ⟨by repeat (first | (with_reducible first | exact HB.out | apply bA | apply bN | apply bD | refine below_set ?_ (IsS112.ge HI0.out)) | exact HB.out)⟩⟩
     ·replace c14 := Bool.eq_false_iff.mpr c14
      subst c14
      have H1 : (spec_reader_number.j1 kj2 false t118 t119) = some (r1, r2, r3) := by rw [if_neg (show ¬ (false = true) by decide)] at H; exact H
      clear H
      have H := H1
      clear H1
      have H' := Aside0.mk H
      clear H
      go_wp2_with (first | ((with_reducible refine gate_callee (f := 109) rfl ?_); refine goesL_ (some 14) rfl rfl Tryz.func109 (by kernel_rfl) rfl #[.pointer (some ⟨g, 0, none⟩), .int .u8 46] rfl (by (try simp only [List.map_toArray, List.map_cons, List.map_nil]); first | done | rfl | (simp only [List.length_drop, List.length_take]; rfl)) ?_; (with_reducible refine (spec_reader_take.calls g x1000_2 x1001_2 46 false t118 t119 w0 _ ?side1 ?side2 A13.out).mono ?_); (case side1 => repeat (first | (with_reducible first | exact HI0.out | apply iA | apply iN | apply i1) | exact HI0.out)); (case side2 => repeat (first | (with_reducible first | exact HB.out | apply bA | apply bN | apply bD | refine below_set ?_ (IsS112.ge HI0.out)) | exact HB.out)); rintro e w18 ⟨rfl, hi, hb, hk⟩; refine ⟨_, rfl, ?_⟩; have n0_ := Aside0.mk (KeepBut.trans (by repeat (first | (with_reducible first | exact HK.out | apply kS | apply kN) | exact HK.out)) hk (.inl rfl)); have n1_ := Aside0.mk (hb); have n2_ := Aside0.mk (hi); clear HK; clear HB; clear HI0; have HK := n0_; have HB := n1_; have HI0 := n2_; clear n0_ n1_ n2_; (try clear hb); (try clear hb2); (try clear hk); (try clear hi)))
      go_meet
      case rel => exact ⟨_, (false), (t118), (t119), (by first | rfl | (simp; done) | (simp [*]; done)), H', ⟨by have := HJ2.out; first | omega | exact Nat.le_refl _⟩, ⟨by repeat (first | (with_reducible first | exact HI0.out | apply iA | apply iN | apply i1) | exact HI0.out)⟩, ⟨by repeat (first | (with_reducible first | exact HK.out | apply kS | apply kN) | exact HK.out)⟩, ⟨by repeat (first | (with_reducible first | exact HB.out | apply bA | apply bN | apply bD | refine below_set ?_ (IsS112.ge HI0.out)) | exact HB.out)⟩⟩
    case rest =>
     clear HC12
     try clear c1
     try clear p2
     try clear c6
     try clear c7
     try clear c10
     try clear c11
     try clear c14
     try clear p2
     obtain ⟨kq, x19_11, x1000_11, x1001_11, rfl, HA, HJ11, HI0, HK, HB⟩ := hcut
     cases kq with
     | zero => exact absurd HA.out (by simp [spec_reader_number.j1])
     | succ kj11 =>
      have H := HA.out
      clear HA
      simp only [spec_reader_number.j1] at H
      by_cases c19 : x19_11 = true
      ·subst c19
       have H1 : (some (false, x1000_11, x1001_11)) = some (r1, r2, r3) := by rw [if_pos rfl] at H; exact H
       clear H
       have H := H1
       clear H1
       simp only [Option.some.injEq, Prod.mk.injEq] at H
       obtain ⟨rfl, rfl, rfl⟩ := H
       go_wp2
       go_ret
       exact ⟨by first | rfl | (simp [errW_none, errW_some] <;> rfl) | (simp [*, errW_none, errW_some] <;> rfl), by repeat (first | (with_reducible first | exact HI0.out | apply iA | apply iN | apply i1) | exact HI0.out), by repeat (first | (with_reducible first | exact HB.out | apply bA | apply bN | apply bD | refine below_set ?_ (IsS112.ge HI0.out)) | exact HB.out), by repeat (first | (with_reducible first | exact HK.out | apply kS | apply kN) | exact HK.out)⟩
      ·replace c19 := Bool.eq_false_iff.mpr c19
       subst c19
       have H1 : ((spec_reader_take.f x1000_11 x1001_11 101).bind fun bt123 => (if bt123.1 = true then (spec_reader_number.j2 kj11 true bt123.2.1 bt123.2.2) else ((spec_reader_take.f bt123.2.1 bt123.2.2 69).bind fun bt126 => (spec_reader_number.j2 kj11 bt126.1 bt126.2.1 bt126.2.2)))) = some (r1, r2, r3) := by rw [if_neg (show ¬ (false = true) by decide)] at H; exact H
       clear H
       have H := H1
       clear H1
       have HC20 := Aside0.mk H
       clear H
       go_upto_region 6 with (fail)
       go_cut [25] (fun v25 wc => ∃ (kq : Nat) (x25_19 : Bool) (x1000_19 : ByteArray) (x1001_19 : Int), v25 = .bool x25_19 ∧ Aside0 (spec_reader_number.j2 kq x25_19 x1000_19 x1001_19 = some (r1, r2, r3)) ∧ Aside0 (kq ≤ kj11) ∧ Aside0 (IsS112 w0 wc g x1000_19 x1001_19) ∧ Aside0 (KeepBut w wc g none) ∧ Aside0 (Below w0.heap.size w0 wc))
       case first =>
        have H := HC20.out
        clear HC20
        replace H := Option.bind_eq_some_iff.mp H
        obtain ⟨⟨t123, t124, t125⟩, A210, H⟩ := H
        try dsimp only at H
        have A21 := Aside0.mk A210
        clear A210
        by_cases c22 : t123 = true
        ·subst c22
         have H1 : (spec_reader_number.j2 kj11 true t124 t125) = some (r1, r2, r3) := by rw [if_pos rfl] at H; exact H
         clear H
         have H := H1
         clear H1
         have H' := Aside0.mk H
         clear H
         go_wp2_with (first | ((with_reducible refine gate_callee (f := 109) rfl ?_); refine goesL_ (some 21) rfl rfl Tryz.func109 (by kernel_rfl) rfl #[.pointer (some ⟨g, 0, none⟩), .int .u8 101] rfl (by (try simp only [List.map_toArray, List.map_cons, List.map_nil]); first | done | rfl | (simp only [List.length_drop, List.length_take]; rfl)) ?_; (with_reducible refine (spec_reader_take.calls g x1000_11 x1001_11 101 true t124 t125 w0 _ ?side1 ?side2 A21.out).mono ?_); (case side1 => repeat (first | (with_reducible first | exact HI0.out | apply iA | apply iN | apply i1) | exact HI0.out)); (case side2 => repeat (first | (with_reducible first | exact HB.out | apply bA | apply bN | apply bD | refine below_set ?_ (IsS112.ge HI0.out)) | exact HB.out)); rintro e w23 ⟨rfl, hi, hb, hk⟩; refine ⟨_, rfl, ?_⟩; have n0_ := Aside0.mk (KeepBut.trans (by repeat (first | (with_reducible first | exact HK.out | apply kS | apply kN) | exact HK.out)) hk (.inl rfl)); have n1_ := Aside0.mk (hb); have n2_ := Aside0.mk (hi); clear HK; clear HB; clear HI0; have HK := n0_; have HB := n1_; have HI0 := n2_; clear n0_ n1_ n2_; (try clear hb); (try clear hb2); (try clear hk); (try clear hi)))
         go_meet
         case rel => exact ⟨_, (true), (t124), (t125), (by first | rfl | (simp; done) | (simp [*]; done)), H', ⟨by have := HJ2.out; have := HJ11.out; first | omega | exact Nat.le_refl _⟩, ⟨by repeat (first | (with_reducible first | exact HI0.out | apply iA | apply iN | apply i1) | exact HI0.out)⟩, ⟨by repeat (first | (with_reducible first | exact HK.out | apply kS | apply kN) | exact HK.out)⟩, ⟨by repeat (first | (with_reducible first | exact HB.out | apply bA | apply bN | apply bD | refine below_set ?_ (IsS112.ge HI0.out)) | exact HB.out)⟩⟩
        ·replace c22 := Bool.eq_false_iff.mpr c22
         subst c22
         have H1 : ((spec_reader_take.f t124 t125 69).bind fun bt126 => (spec_reader_number.j2 kj11 bt126.1 bt126.2.1 bt126.2.2)) = some (r1, r2, r3) := by rw [if_neg (show ¬ (false = true) by decide)] at H; exact H
         clear H
         have H := H1
         clear H1
         replace H := Option.bind_eq_some_iff.mp H
         obtain ⟨⟨t126, t127, t128⟩, A240, H⟩ := H
         try dsimp only at H
         have A24 := Aside0.mk A240
         clear A240
         have H' := Aside0.mk H
         clear H
         go_wp2_with (first | ((with_reducible refine gate_callee (f := 109) rfl ?_); refine goesL_ (some 21) rfl rfl Tryz.func109 (by kernel_rfl) rfl #[.pointer (some ⟨g, 0, none⟩), .int .u8 101] rfl (by (try simp only [List.map_toArray, List.map_cons, List.map_nil]); first | done | rfl | (simp only [List.length_drop, List.length_take]; rfl)) ?_; (with_reducible refine (spec_reader_take.calls g x1000_11 x1001_11 101 false t124 t125 w0 _ ?side1 ?side2 A21.out).mono ?_); (case side1 => repeat (first | (with_reducible first | exact HI0.out | apply iA | apply iN | apply i1) | exact HI0.out)); (case side2 => repeat (first | (with_reducible first | exact HB.out | apply bA | apply bN | apply bD | refine below_set ?_ (IsS112.ge HI0.out)) | exact HB.out)); rintro e w25 ⟨rfl, hi, hb, hk⟩; refine ⟨_, rfl, ?_⟩; have n0_ := Aside0.mk (KeepBut.trans (by repeat (first | (with_reducible first | exact HK.out | apply kS | apply kN) | exact HK.out)) hk (.inl rfl)); have n1_ := Aside0.mk (hb); have n2_ := Aside0.mk (hi); clear HK; clear HB; clear HI0; have HK := n0_; have HB := n1_; have HI0 := n2_; clear n0_ n1_ n2_; (try clear hb); (try clear hb2); (try clear hk); (try clear hi)) | (go_at_call 109; (with_reducible refine (spec_reader_take.calls g t124 t125 69 t126 t127 t128 w0 _ ?side1 ?side2 A24.out).mono ?_); (case side1 => repeat (first | (with_reducible first | exact HI0.out | apply iA | apply iN | apply i1) | exact HI0.out)); (case side2 => repeat (first | (with_reducible first | exact HB.out | apply bA | apply bN | apply bD | refine below_set ?_ (IsS112.ge HI0.out)) | exact HB.out)); rintro e w26 ⟨rfl, hi, hb, hk⟩; have n0_ := Aside0.mk (KeepBut.trans (by repeat (first | (with_reducible first | exact HK.out | apply kS | apply kN) | exact HK.out)) hk (.inl rfl)); have n1_ := Aside0.mk (hb); have n2_ := Aside0.mk (hi); clear HK; clear HB; clear HI0; have HK := n0_; have HB := n1_; have HI0 := n2_; clear n0_ n1_ n2_; (try clear hb); (try clear hb2); (try clear hk); (try clear hi)))
         go_meet
         case rel => exact ⟨_, (t126), (t127), (t128), (by first | rfl | (simp; done) | (simp [*]; done)), H', ⟨by have := HJ2.out; have := HJ11.out; first | omega | exact Nat.le_refl _⟩, ⟨by repeat (first | (with_reducible first | exact HI0.out | apply iA | apply iN | apply i1) | exact HI0.out)⟩, ⟨by repeat (first | (with_reducible first | exact HK.out | apply kS | apply kN) | exact HK.out)⟩, ⟨by repeat (first | (with_reducible first | exact HB.out | apply bA | apply bN | apply bD | refine below_set ?_ (IsS112.ge HI0.out)) | exact HB.out)⟩⟩
       case rest =>
        clear HC20
        try clear c1
        try clear c2
        try clear p2
        try clear c6
        try clear c7
        try clear c10
        try clear c11
        try clear c14
        try clear c19
        try clear c22
        try clear p2
        obtain ⟨kq, x25_19, x1000_19, x1001_19, rfl, HA, HJ19, HI0, HK, HB⟩ := hcut
        cases kq with
        | zero => exact absurd HA.out (by simp [spec_reader_number.j2])
        | succ kj19 =>
         have H := HA.out
         clear HA
         simp only [spec_reader_number.j2] at H
         by_cases c27 : x25_19 = true
         ·subst c27
          have H1 : ((spec_reader_take.f x1000_19 x1001_19 43).bind fun bt129 => (if bt129.1 = true then ((spec_reader_digits.f kj19 bt129.2.1 bt129.2.2).bind fun bt132 => (some (bt132.1, bt132.2.1, bt132.2.2))) else ((spec_reader_take.f bt129.2.1 bt129.2.2 45).bind fun bt135 => ((spec_reader_digits.f kj19 bt135.2.1 bt135.2.2).bind fun bt138 => (some (bt138.1, bt138.2.1, bt138.2.2)))))) = some (r1, r2, r3) := by rw [if_pos rfl] at H; exact H
          clear H
          have H := H1
          clear H1
          replace H := Option.bind_eq_some_iff.mp H
          obtain ⟨⟨t129, t130, t131⟩, A280, H⟩ := H
          try dsimp only at H
          have A28 := Aside0.mk A280
          clear A280
          by_cases c29 : t129 = true
          ·subst c29
           have H1 : ((spec_reader_digits.f kj19 t130 t131).bind fun bt132 => (some (bt132.1, bt132.2.1, bt132.2.2))) = some (r1, r2, r3) := by rw [if_pos rfl] at H; exact H
           clear H
           have H := H1
           clear H1
           replace H := Option.bind_eq_some_iff.mp H
           obtain ⟨⟨t132, t133, t134⟩, A300, H⟩ := H
           try dsimp only at H
           have A30 := Aside0.mk A300
           clear A300
           simp only [Option.some.injEq, Prod.mk.injEq] at H
           obtain ⟨rfl, rfl, rfl⟩ := H
           go_wp2_with (first | ((with_reducible refine gate_callee (f := 109) rfl ?_); refine goesL_ (some 27) rfl rfl Tryz.func109 (by kernel_rfl) rfl #[.pointer (some ⟨g, 0, none⟩), .int .u8 43] rfl (by (try simp only [List.map_toArray, List.map_cons, List.map_nil]); first | done | rfl | (simp only [List.length_drop, List.length_take]; rfl)) ?_; (with_reducible refine (spec_reader_take.calls g x1000_19 x1001_19 43 true t130 t131 w0 _ ?side1 ?side2 A28.out).mono ?_); (case side1 => repeat (first | (with_reducible first | exact HI0.out | apply iA | apply iN | apply i1) | exact HI0.out)); (case side2 => repeat (first | (with_reducible first | exact HB.out | apply bA | apply bN | apply bD | refine below_set ?_ (IsS112.ge HI0.out)) | exact HB.out)); rintro e w31 ⟨rfl, hi, hb, hk⟩; refine ⟨_, rfl, ?_⟩; have n0_ := Aside0.mk (KeepBut.trans (by repeat (first | (with_reducible first | exact HK.out | apply kS | apply kN) | exact HK.out)) hk (.inl rfl)); have n1_ := Aside0.mk (hb); have n2_ := Aside0.mk (hi); clear HK; clear HB; clear HI0; have HK := n0_; have HB := n1_; have HI0 := n2_; clear n0_ n1_ n2_; (try clear hb); (try clear hb2); (try clear hk); (try clear hi)) | ((with_reducible refine gate_callee (f := 110) rfl ?_); refine goesL_ (some 32) rfl rfl Tryz.func110 (by kernel_rfl) rfl #[.pointer (some ⟨g, 0, none⟩)] rfl (by (try simp only [List.map_toArray, List.map_cons, List.map_nil]); first | done | rfl | (simp only [List.length_drop, List.length_take]; rfl)) ?_; (with_reducible refine (spec_reader_digits.calls kj19 g t130 t131 t132 t133 t134 w0 _ ?side1 ?side2 A30.out).mono ?_); (case side1 => repeat (first | (with_reducible first | exact HI0.out | apply iA | apply iN | apply i1) | exact HI0.out)); (case side2 => repeat (first | (with_reducible first | exact HB.out | apply bA | apply bN | apply bD | refine below_set ?_ (IsS112.ge HI0.out)) | exact HB.out)); rintro e w32 ⟨rfl, hi, hb, hk⟩; refine ⟨_, rfl, ?_⟩; have n0_ := Aside0.mk (KeepBut.trans (by repeat (first | (with_reducible first | exact HK.out | apply kS | apply kN) | exact HK.out)) hk (.inl rfl)); have n1_ := Aside0.mk (hb); have n2_ := Aside0.mk (hi); clear HK; clear HB; clear HI0; have HK := n0_; have HB := n1_; have HI0 := n2_; clear n0_ n1_ n2_; (try clear hb); (try clear hb2); (try clear hk); (try clear hi)))
           go_ret
           exact ⟨by first | rfl | (simp [errW_none, errW_some] <;> rfl) | (simp [*, errW_none, errW_some] <;> rfl), by repeat (first | (with_reducible first | exact HI0.out | apply iA | apply iN | apply i1) | exact HI0.out), by repeat (first | (with_reducible first | exact HB.out | apply bA | apply bN | apply bD | refine below_set ?_ (IsS112.ge HI0.out)) | exact HB.out), by repeat (first | (with_reducible first | exact HK.out | apply kS | apply kN) | exact HK.out)⟩
          ·replace c29 := Bool.eq_false_iff.mpr c29
           subst c29
           have H1 : ((spec_reader_take.f t130 t131 45).bind fun bt135 => ((spec_reader_digits.f kj19 bt135.2.1 bt135.2.2).bind fun bt138 => (some (bt138.1, bt138.2.1, bt138.2.2)))) = some (r1, r2, r3) := by rw [if_neg (show ¬ (false = true) by decide)] at H; exact H
           clear H
           have H := H1
           clear H1
           replace H := Option.bind_eq_some_iff.mp H
           obtain ⟨⟨t135, t136, t137⟩, A330, H⟩ := H
           try dsimp only at H
           have A33 := Aside0.mk A330
           clear A330
           replace H := Option.bind_eq_some_iff.mp H
           obtain ⟨⟨t138, t139, t140⟩, A340, H⟩ := H
           try dsimp only at H
           have A34 := Aside0.mk A340
           clear A340
           simp only [Option.some.injEq, Prod.mk.injEq] at H
           obtain ⟨rfl, rfl, rfl⟩ := H
           go_wp2_with (first | ((with_reducible refine gate_callee (f := 109) rfl ?_); refine goesL_ (some 27) rfl rfl Tryz.func109 (by kernel_rfl) rfl #[.pointer (some ⟨g, 0, none⟩), .int .u8 43] rfl (by (try simp only [List.map_toArray, List.map_cons, List.map_nil]); first | done | rfl | (simp only [List.length_drop, List.length_take]; rfl)) ?_; (with_reducible refine (spec_reader_take.calls g x1000_19 x1001_19 43 false t130 t131 w0 _ ?side1 ?side2 A28.out).mono ?_); (case side1 => repeat (first | (with_reducible first | exact HI0.out | apply iA | apply iN | apply i1) | exact HI0.out)); (case side2 => repeat (first | (with_reducible first | exact HB.out | apply bA | apply bN | apply bD | refine below_set ?_ (IsS112.ge HI0.out)) | exact HB.out)); rintro e w35 ⟨rfl, hi, hb, hk⟩; refine ⟨_, rfl, ?_⟩; have n0_ := Aside0.mk (KeepBut.trans (by repeat (first | (with_reducible first | exact HK.out | apply kS | apply kN) | exact HK.out)) hk (.inl rfl)); have n1_ := Aside0.mk (hb); have n2_ := Aside0.mk (hi); clear HK; clear HB; clear HI0; have HK := n0_; have HB := n1_; have HI0 := n2_; clear n0_ n1_ n2_; (try clear hb); (try clear hb2); (try clear hk); (try clear hi)) | ((with_reducible refine gate_callee (f := 109) rfl ?_); refine goesL_ (some 30) rfl rfl Tryz.func109 (by kernel_rfl) rfl #[.pointer (some ⟨g, 0, none⟩), .int .u8 45] rfl (by (try simp only [List.map_toArray, List.map_cons, List.map_nil]); first | done | rfl | (simp only [List.length_drop, List.length_take]; rfl)) ?_; (with_reducible refine (spec_reader_take.calls g t130 t131 45 t135 t136 t137 w0 _ ?side1 ?side2 A33.out).mono ?_); (case side1 => repeat (first | (with_reducible first | exact HI0.out | apply iA | apply iN | apply i1) | exact HI0.out)); (case side2 => repeat (first | (with_reducible first | exact HB.out | apply bA | apply bN | apply bD | refine below_set ?_ (IsS112.ge HI0.out)) | exact HB.out)); rintro e w36 ⟨rfl, hi, hb, hk⟩; refine ⟨_, rfl, ?_⟩; have n0_ := Aside0.mk (KeepBut.trans (by repeat (first | (with_reducible first | exact HK.out | apply kS | apply kN) | exact HK.out)) hk (.inl rfl)); have n1_ := Aside0.mk (hb); have n2_ := Aside0.mk (hi); clear HK; clear HB; clear HI0; have HK := n0_; have HB := n1_; have HI0 := n2_; clear n0_ n1_ n2_; (try clear hb); (try clear hb2); (try clear hk); (try clear hi)) | ((with_reducible refine gate_callee (f := 110) rfl ?_); refine goesL_ (some 32) rfl rfl Tryz.func110 (by kernel_rfl) rfl #[.pointer (some ⟨g, 0, none⟩)] rfl (by (try simp only [List.map_toArray, List.map_cons, List.map_nil]); first | done | rfl | (simp only [List.length_drop, List.length_take]; rfl)) ?_; (with_reducible refine (spec_reader_digits.calls kj19 g t136 t137 t138 t139 t140 w0 _ ?side1 ?side2 A34.out).mono ?_); (case side1 => repeat (first | (with_reducible first | exact HI0.out | apply iA | apply iN | apply i1) | exact HI0.out)); (case side2 => repeat (first | (with_reducible first | exact HB.out | apply bA | apply bN | apply bD | refine below_set ?_ (IsS112.ge HI0.out)) | exact HB.out)); rintro e w37 ⟨rfl, hi, hb, hk⟩; refine ⟨_, rfl, ?_⟩; have n0_ := Aside0.mk (KeepBut.trans (by repeat (first | (with_reducible first | exact HK.out | apply kS | apply kN) | exact HK.out)) hk (.inl rfl)); have n1_ := Aside0.mk (hb); have n2_ := Aside0.mk (hi); clear HK; clear HB; clear HI0; have HK := n0_; have HB := n1_; have HI0 := n2_; clear n0_ n1_ n2_; (try clear hb); (try clear hb2); (try clear hk); (try clear hi)))
           go_ret
           exact ⟨by first | rfl | (simp [errW_none, errW_some] <;> rfl) | (simp [*, errW_none, errW_some] <;> rfl), by repeat (first | (with_reducible first | exact HI0.out | apply iA | apply iN | apply i1) | exact HI0.out), by repeat (first | (with_reducible first | exact HB.out | apply bA | apply bN | apply bD | refine below_set ?_ (IsS112.ge HI0.out)) | exact HB.out), by repeat (first | (with_reducible first | exact HK.out | apply kS | apply kN) | exact HK.out)⟩
         ·replace c27 := Bool.eq_false_iff.mpr c27
          subst c27
          have H1 : (some (true, x1000_19, x1001_19)) = some (r1, r2, r3) := by rw [if_neg (show ¬ (false = true) by decide)] at H; exact H
          clear H
          have H := H1
          clear H1
          simp only [Option.some.injEq, Prod.mk.injEq] at H
          obtain ⟨rfl, rfl, rfl⟩ := H
          go_wp2
          go_ret
          exact ⟨by first | rfl | (simp [errW_none, errW_some] <;> rfl) | (simp [*, errW_none, errW_some] <;> rfl), by repeat (first | (with_reducible first | exact HI0.out | apply iA | apply iN | apply i1) | exact HI0.out), by repeat (first | (with_reducible first | exact HB.out | apply bA | apply bN | apply bD | refine below_set ?_ (IsS112.ge HI0.out)) | exact HB.out), by repeat (first | (with_reducible first | exact HK.out | apply kS | apply kN) | exact HK.out)⟩
mutual
def spec_hexDigit.j0 : Nat → Int → Bool → Option (Int × Bool)
 | 0, _, _ => none
 | k + 1, x0, x4 => if x4 = true then (some ((x0 - 48) % 256, true)) else (if 97 ≤ x0 then (spec_hexDigit.j1 k x0 (decide (x0 ≤ 102))) else (spec_hexDigit.j1 k x0 false))
def spec_hexDigit.j1 : Nat → Int → Bool → Option (Int × Bool)
 | 0, _, _ => none
 | k + 1, x0, x14 => if x14 = true then (some (((x0 - 97) % 256) + 10, true)) else (if 65 ≤ x0 then (if x0 ≤ 70 then (some (((x0 - 65) % 256) + 10, true)) else (some (0, false))) else (some (0, false)))
end
def spec_hexDigit.f (k : Nat) (a0 : Int) : Option (Int × Bool) := if 48 ≤ a0 then (spec_hexDigit.j0 k a0 (decide (a0 ≤ 57))) else (spec_hexDigit.j0 k a0 false)
theorem spec_hexDigit.calls (k : Nat) (a0 : Int) (r1 : Int) (r2 : Bool) (w : World) (h : spec_hexDigit.f k a0 = some (r1, r2)) :
  Calls Tryz.prog 87 #[.int .u8 a0] w fun e w' => e = .returned (.tuple #[.int .i64 r1, .bool r2]) ∧ Drawn0 w w' := by
 have H : (if 48 ≤ a0 then (spec_hexDigit.j0 k a0 (decide (a0 ≤ 57))) else (spec_hexDigit.j0 k a0 false)) = some (r1, r2) := h
 clear h
 have HC2 := Aside0.mk H
 clear H
 go_enter Tryz.func87, Tryz.ntmps87
 go_upto_region 1 with (fail)
 go_cut [4] (fun v4 wc => ∃ (kq : Nat) (x4_1 : Bool), v4 = .bool x4_1 ∧ Aside0 (spec_hexDigit.j0 kq a0 x4_1 = some (r1, r2)) ∧ Aside0 (kq ≤ k) ∧ Drawn0 w wc)
 case first =>
  have H := HC2.out
  clear HC2
  by_cases c3 : 48 ≤ a0
  ·rw [if_pos c3] at H
   have c3b0 : decide (48 ≤ a0) = true := decide_eq_true c3
   clear c3
   (first | rw [c3b0] | (simp only [i64_w, i32_w]; rw [c3b0]) | skip)
   have H' := Aside0.mk H
   clear H
   go_wp2
   go_meet
   case rel => exact ⟨_, (decide (a0 ≤ 57)), (by first | rfl | (simp; done) | (simp [*]; done)), H', ⟨by first | omega | exact Nat.le_refl _⟩, by repeat (first | exact Drawn0.refl _ | apply Drawn0.step)⟩
  ·rw [if_neg c3] at H
   have c3b0 : decide (48 ≤ a0) = false := decide_eq_false c3
   clear c3
   (first | rw [c3b0] | (simp only [i64_w, i32_w]; rw [c3b0]) | skip)
   have H' := Aside0.mk H
   clear H
   go_wp2
   go_meet
   case rel => exact ⟨_, (false), (by first | rfl | (simp; done) | (simp [*]; done)), H', ⟨by first | omega | exact Nat.le_refl _⟩, by repeat (first | exact Drawn0.refl _ | apply Drawn0.step)⟩
 case rest =>
  clear HC2
  try clear p2
  try clear c3
  try clear c3b0
  obtain ⟨kq, x4_1, rfl, HA, HJ1, ⟨mc1, rfl⟩⟩ := hcut
  cases kq with
  | zero => exact absurd HA.out (by simp [spec_hexDigit.j0])
  | succ kj1 =>
   have H := HA.out
   clear HA
   simp only [spec_hexDigit.j0] at H
   by_cases c4 : x4_1 = true
   ·subst c4
    have H1 : (some ((a0 - 48) % 256, true)) = some (r1, r2) := by rw [if_pos rfl] at H; exact H
    clear H
    have H := H1
    clear H1
    simp only [Option.some.injEq, Prod.mk.injEq] at H
    obtain ⟨rfl, rfl⟩ := H
    go_wp2
    go_ret2
    exact ⟨by first | rfl | (simp; done) | (simp [*]; done), by repeat (first | exact Drawn0.refl _ | apply Drawn0.step)⟩
   ·replace c4 := Bool.eq_false_iff.mpr c4
    subst c4
    have H1 : (if 97 ≤ a0 then (spec_hexDigit.j1 kj1 a0 (decide (a0 ≤ 102))) else (spec_hexDigit.j1 kj1 a0 false)) = some (r1, r2) := by rw [if_neg (show ¬ (false = true) by decide)] at H; exact H
    clear H
    have H := H1
    clear H1
    have HC5 := Aside0.mk H
    clear H
    go_upto_region 3 with (fail)
    go_cut [14] (fun v14 wc => ∃ (kq : Nat) (x14_4 : Bool), v14 = .bool x14_4 ∧ Aside0 (spec_hexDigit.j1 kq a0 x14_4 = some (r1, r2)) ∧ Aside0 (kq ≤ kj1) ∧ Drawn0 w wc)
    case first =>
     have H := HC5.out
     clear HC5
     by_cases c6 : 97 ≤ a0
     ·rw [if_pos c6] at H
      have c6b0 : decide (97 ≤ a0) = true := decide_eq_true c6
      clear c6
      (first | rw [c6b0] | (simp only [i64_w, i32_w]; rw [c6b0]) | skip)
      have H' := Aside0.mk H
      clear H
      go_wp2
      go_meet
      case rel => exact ⟨_, (decide (a0 ≤ 102)), (by first | rfl | (simp; done) | (simp [*]; done)), H', ⟨by have := HJ1.out; first | omega | exact Nat.le_refl _⟩, by repeat (first | exact Drawn0.refl _ | apply Drawn0.step)⟩
     ·rw [if_neg c6] at H
      have c6b0 : decide (97 ≤ a0) = false := decide_eq_false c6
      clear c6
      (first | rw [c6b0] | (simp only [i64_w, i32_w]; rw [c6b0]) | skip)
      have H' := Aside0.mk H
      clear H
      go_wp2
      go_meet
      case rel => exact ⟨_, (false), (by first | rfl | (simp; done) | (simp [*]; done)), H', ⟨by have := HJ1.out; first | omega | exact Nat.le_refl _⟩, by repeat (first | exact Drawn0.refl _ | apply Drawn0.step)⟩
    case rest =>
     clear HC5
     try clear c1
     try clear p2
     try clear c3
     try clear c3b0
     try clear c4
     try clear c6
     try clear c6b0
     try clear p2
     obtain ⟨kq, x14_4, rfl, HA, HJ4, ⟨mc4, rfl⟩⟩ := hcut
     cases kq with
     | zero => exact absurd HA.out (by simp [spec_hexDigit.j1])
     | succ kj4 =>
      have H := HA.out
      clear HA
      simp only [spec_hexDigit.j1] at H
      by_cases c7 : x14_4 = true
      ·subst c7
       have H1 : (some (((a0 - 97) % 256) + 10, true)) = some (r1, r2) := by rw [if_pos rfl] at H; exact H
       clear H
       have H := H1
       clear H1
       simp only [Option.some.injEq, Prod.mk.injEq] at H
       obtain ⟨rfl, rfl⟩ := H
       go_wp2
       go_ret2
       exact ⟨by first | rfl | (simp; done) | (simp [*]; done), by repeat (first | exact Drawn0.refl _ | apply Drawn0.step)⟩
      ·replace c7 := Bool.eq_false_iff.mpr c7
       subst c7
       have H1 : (if 65 ≤ a0 then (if a0 ≤ 70 then (some (((a0 - 65) % 256) + 10, true)) else (some (0, false))) else (some (0, false))) = some (r1, r2) := by rw [if_neg (show ¬ (false = true) by decide)] at H; exact H
       clear H
       have H := H1
       clear H1
       by_cases c8 : 65 ≤ a0
       ·rw [if_pos c8] at H
        have c8b0 : decide (65 ≤ a0) = true := decide_eq_true c8
        clear c8
        by_cases c9 : a0 ≤ 70
        ·rw [if_pos c9] at H
         have c9b0 : decide (a0 ≤ 70) = true := decide_eq_true c9
         clear c9
         simp only [Option.some.injEq, Prod.mk.injEq] at H
         obtain ⟨rfl, rfl⟩ := H
         go_wp2
         go_ret2
         exact ⟨by first | rfl | (simp; done) | (simp [*]; done), by repeat (first | exact Drawn0.refl _ | apply Drawn0.step)⟩
        ·rw [if_neg c9] at H
         have c9b0 : decide (a0 ≤ 70) = false := decide_eq_false c9
         clear c9
         simp only [Option.some.injEq, Prod.mk.injEq] at H
         obtain ⟨rfl, rfl⟩ := H
         go_wp2
         go_ret2
         exact ⟨by first | rfl | (simp; done) | (simp [*]; done), by repeat (first | exact Drawn0.refl _ | apply Drawn0.step)⟩
       ·rw [if_neg c8] at H
        have c8b0 : decide (65 ≤ a0) = false := decide_eq_false c8
        clear c8
        simp only [Option.some.injEq, Prod.mk.injEq] at H
        obtain ⟨rfl, rfl⟩ := H
        go_wp2
        go_ret2
        exact ⟨by first | rfl | (simp; done) | (simp [*]; done), by repeat (first | exact Drawn0.refl _ | apply Drawn0.step)⟩
end Go.Proofs.YtgiioglmkogpkaaGreatDoor.M
namespace Go.Proofs.YtgiioglmkogpkaaGreatDoor.M
open Go.RowKit Go.Proofs.YtgiioglmkogpkaaGreatDoorW.PrintWords Go.Proofs.YtgiioglmkogpkaaGreatDoorW.PrintLast Go.Proofs.YtgiioglmkogpkaaGreatDoorW.PrintMore
set_option maxHeartbeats 8000000
set_option maxRecDepth 100000
attribute [local go_sem] max2_int min2_int max_two min_two max_three min_three max_four min_four
mutual
def spec_reader_escape.j0 : Nat → Int → Bool → ByteArray → Int → Option (Bool × ByteArray × Int)
 | 0, _, _, _, _ => none
 | k + 1, x7, x8, x1000, x1001 => if x8 = true then (some (true, x1000, wrap64 (x1001 + 1))) else (if x7 = 117 then (spec_reader_escape.l0 k 0 x1000 (wrap64 (x1001 + 1))) else (some (false, x1000, x1001)))
def spec_reader_escape.l0 : Nat → Int → ByteArray → Int → Option (Bool × ByteArray × Int)
 | 0, _, _, _ => none
 | k + 1, x3, x1000, x1001 => if x3 < 4 then ((spec_reader_here.f x1000 x1001).bind fun bt144 => ((spec_hexDigit.f k bt144.1).bind fun bt147 => (if bt147.2 = true then (spec_reader_escape.l0 k (wrap64 (x3 + 1)) bt144.2.1 (wrap64 (bt144.2.2 + 1))) else (some (false, bt144.2.1, bt144.2.2))))) else (some (true, x1000, x1001))
end
def spec_reader_escape.f (k : Nat) (s0_0 : ByteArray) (s0_1 : Int) : Option (Bool × ByteArray × Int) := (spec_reader_here.f s0_0 s0_1).bind fun bt141 => (if bt141.1 = 34 then (spec_reader_escape.j0 k bt141.1 (bt141.1 == 34) bt141.2.1 bt141.2.2) else (if bt141.1 = 92 then (spec_reader_escape.j0 k bt141.1 (bt141.1 == 92) bt141.2.1 bt141.2.2) else (if bt141.1 = 47 then (spec_reader_escape.j0 k bt141.1 (bt141.1 == 47) bt141.2.1 bt141.2.2) else (if bt141.1 = 98 then (spec_reader_escape.j0 k bt141.1 (bt141.1 == 98) bt141.2.1 bt141.2.2) else (if bt141.1 = 102 then (spec_reader_escape.j0 k bt141.1 (bt141.1 == 102) bt141.2.1 bt141.2.2) else (if bt141.1 = 110 then (spec_reader_escape.j0 k bt141.1 (bt141.1 == 110) bt141.2.1 bt141.2.2) else (if bt141.1 = 114 then (spec_reader_escape.j0 k bt141.1 (bt141.1 == 114) bt141.2.1 bt141.2.2) else (spec_reader_escape.j0 k bt141.1 (bt141.1 == 116) bt141.2.1 bt141.2.2))))))))
theorem spec_reader_escape.calls (k : Nat) (g : Nat) (s0_0 : ByteArray) (s0_1 : Int) (r1 : Bool) (r2 : ByteArray) (r3 : Int) (w0 w : World) (hI : IsS112 w0 w g s0_0 s0_1) (hB : Below w0.heap.size w0 w) (h : spec_reader_escape.f k s0_0 s0_1 = some (r1, r2, r3)) :
  Calls Tryz.prog 131 #[.pointer (some ⟨g, 0, none⟩)] w fun e w' => e = .returned (.bool r1) ∧ IsS112 w0 w' g r2 r3 ∧ Below w0.heap.size w0 w' ∧ KeepBut w w' g none := by
 have HI0 := Aside0.mk hI
 have HK := Aside0.mk (KeepBut.refl w g none)
 have HL := Aside0.mk hB.size
 clear hI
 have HW0 := Aside0.mk hB.size
 have HB := Aside0.mk hB
 clear hB
 have H : ((spec_reader_here.f s0_0 s0_1).bind fun bt141 => (if bt141.1 = 34 then (spec_reader_escape.j0 k bt141.1 (bt141.1 == 34) bt141.2.1 bt141.2.2) else (if bt141.1 = 92 then (spec_reader_escape.j0 k bt141.1 (bt141.1 == 92) bt141.2.1 bt141.2.2) else (if bt141.1 = 47 then (spec_reader_escape.j0 k bt141.1 (bt141.1 == 47) bt141.2.1 bt141.2.2) else (if bt141.1 = 98 then (spec_reader_escape.j0 k bt141.1 (bt141.1 == 98) bt141.2.1 bt141.2.2) else (if bt141.1 = 102 then (spec_reader_escape.j0 k bt141.1 (bt141.1 == 102) bt141.2.1 bt141.2.2) else (if bt141.1 = 110 then (spec_reader_escape.j0 k bt141.1 (bt141.1 == 110) bt141.2.1 bt141.2.2) else (if bt141.1 = 114 then (spec_reader_escape.j0 k bt141.1 (bt141.1 == 114) bt141.2.1 bt141.2.2) else (spec_reader_escape.j0 k bt141.1 (bt141.1 == 116) bt141.2.1 bt141.2.2))))))))) = some (r1, r2, r3) := h
 clear h
 replace H := Option.bind_eq_some_iff.mp H
 obtain ⟨⟨t141, t142, t143⟩, A20, H⟩ := H
 try dsimp only at H
 have A2 := Aside0.mk A20
 clear A20
 have HC3 := Aside0.mk H
 clear H
 go_enter Tryz.func131, Tryz.ntmps131
 go_upto_if 8 with (first | ((with_reducible refine gate_callee (f := 100) rfl ?_); refine goesL_ (some 7) rfl rfl Tryz.func100 (by kernel_rfl) rfl #[.pointer (some ⟨g, 0, none⟩)] rfl (by (try simp only [List.map_toArray, List.map_cons, List.map_nil]); first | done | rfl | (simp only [List.length_drop, List.length_take]; rfl)) ?_; (with_reducible refine (spec_reader_here.calls g s0_0 s0_1 t141 t142 t143 w0 _ ?side1 ?side2 A2.out).mono ?_); (case side1 => repeat (first | (with_reducible first | exact HI0.out | apply iA | apply iN | apply i1) | exact HI0.out)); (case side2 => repeat (first | (with_reducible first | exact HB.out | apply bA | apply bN | apply bD | refine below_set ?_ (IsS112.ge HI0.out)) | exact HB.out)); rintro e w4 ⟨rfl, hi, hb, hk⟩; refine ⟨_, rfl, ?_⟩; have n0_ := Aside0.mk (KeepBut.trans (by repeat (first | (with_reducible first | exact HK.out | apply kS | apply kN) | exact HK.out)) hk (.inl rfl)); have n1_ := Aside0.mk (hb); have n2_ := Aside0.mk (hi); clear HK; clear HB; clear HI0; have HK := n0_; have HB := n1_; have HI0 := n2_; clear n0_ n1_ n2_; (try clear hb); (try clear hb2); (try clear hk); (try clear hi)))
 (try simp only [Act.put, List.setIfInBounds_toArray, List.set_cons_zero, List.set_cons_succ])
 go_cut [8] (fun v8 wc => ∃ (kq : Nat) (x8_2 : Bool), v8 = .bool x8_2 ∧ Aside0 (spec_reader_escape.j0 kq t141 x8_2 t142 t143 = some (r1, r2, r3)) ∧ Aside0 (kq ≤ k) ∧ Aside0 (IsS112 w0 wc g t142 t143) ∧ Aside0 (KeepBut w wc g none) ∧ Aside0 (Below w0.heap.size w0 wc))
 case first =>
  have H := HC3.out
  clear HC3
  by_cases c5 : t141 = 34
  ·rw [if_pos c5] at H
   have c5b0 : (t141 == 34) = true := beq_iff_eq.mpr c5
   have c5b1 : (t141 != 34) = false := bne_eq_false_iff_eq.mpr c5
   clear c5
   (first | rw [c5b0] | (simp only [i64_w, i32_w]; rw [c5b0]) | skip)
   have H' := Aside0.mk H
   clear H
   go_wp2
   go_meet
   case rel => exact ⟨_, ((t141 == 34)), (by first | rfl | (simp; done) | (simp [*]; done)), H', ⟨by first | omega | exact Nat.le_refl _⟩, ⟨by repeat (first | (with_reducible first | exact HI0.out | apply iA | apply iN | apply i1) | exact HI0.out)⟩, ⟨by repeat (first | (with_reducible first | exact HK.out | apply kS | apply kN) | exact HK.out)⟩, ⟨by repeat (first | (with_reducible first | exact HB.out | apply bA | apply bN | apply bD | refine below_set ?_ (IsS112.ge HI0.out)) | exact HB.out)⟩⟩
  ·rw [if_neg c5] at H
   have c5b0 : (t141 == 34) = false := beq_eq_false_iff_ne.mpr c5
   have c5b1 : (t141 != 34) = true := bne_iff_ne.mpr c5
   (first | rw [c5b0] | (simp only [i64_w, i32_w]; rw [c5b0]) | skip)
   by_cases c6 : t141 = 92
   ·rw [if_pos c6] at H
    have c6b0 : (t141 == 92) = true := beq_iff_eq.mpr c6
    have c6b1 : (t141 != 92) = false := bne_eq_false_iff_eq.mpr c6
    clear c6
    have H' := Aside0.mk H
    clear H
    go_wp2
    go_meet
    case rel => exact ⟨_, ((t141 == 92)), (by first | rfl | (simp; done) | (simp [*]; done)), H', ⟨by first | omega | exact Nat.le_refl _⟩, ⟨by repeat (first | (with_reducible first | exact HI0.out | apply iA | apply iN | apply i1) | exact HI0.out)⟩, ⟨by repeat (first | (with_reducible first | exact HK.out | apply kS | apply kN) | exact HK.out)⟩, ⟨by repeat (first | (with_reducible first | exact HB.out | apply bA | apply bN | apply bD | refine below_set ?_ (IsS112.ge HI0.out)) | exact HB.out)⟩⟩
   ·rw [if_neg c6] at H
    have c6b0 : (t141 == 92) = false := beq_eq_false_iff_ne.mpr c6
    have c6b1 : (t141 != 92) = true := bne_iff_ne.mpr c6
    by_cases c7 : t141 = 47
    ·rw [if_pos c7] at H
     have c7b0 : (t141 == 47) = true := beq_iff_eq.mpr c7
     have c7b1 : (t141 != 47) = false := bne_eq_false_iff_eq.mpr c7
     clear c7
     have H' := Aside0.mk H
     clear H
     go_wp2
     go_meet
     case rel => exact ⟨_, ((t141 == 47)), (by first | rfl | (simp; done) | (simp [*]; done)), H', ⟨by first | omega | exact Nat.le_refl _⟩, ⟨by repeat (first | (with_reducible first | exact HI0.out | apply iA | apply iN | apply i1) | exact HI0.out)⟩, ⟨by repeat (first | (with_reducible first | exact HK.out | apply kS | apply kN) | exact HK.out)⟩, ⟨by repeat (first | (with_reducible first | exact HB.out | apply bA | apply bN | apply bD | refine below_set ?_ (IsS112.ge HI0.out)) | exact HB.out)⟩⟩
    ·rw [if_neg c7] at H
     have c7b0 : (t141 == 47) = false := beq_eq_false_iff_ne.mpr c7
     have c7b1 : (t141 != 47) = true := bne_iff_ne.mpr c7
     by_cases c8 : t141 = 98
     ·rw [if_pos c8] at H
      have c8b0 : (t141 == 98) = true := beq_iff_eq.mpr c8
      have c8b1 : (t141 != 98) = false := bne_eq_false_iff_eq.mpr c8
      clear c8
      have H' := Aside0.mk H
      clear H
      go_wp2
      go_meet
      case rel => exact ⟨_, ((t141 == 98)), (by first | rfl | (simp; done) | (simp [*]; done)), H', ⟨by first | omega | exact Nat.le_refl _⟩, ⟨by repeat (first | (with_reducible first | exact HI0.out | apply iA | apply iN | apply i1) | exact HI0.out)⟩, ⟨by repeat (first | (with_reducible first | exact HK.out | apply kS | apply kN) | exact HK.out)⟩, ⟨by repeat (first | (with_reducible first | exact HB.out | apply bA | apply bN | apply bD | refine below_set ?_ (IsS112.ge HI0.out)) | exact HB.out)⟩⟩
     ·rw [if_neg c8] at H
      have c8b0 : (t141 == 98) = false := beq_eq_false_iff_ne.mpr c8
      have c8b1 : (t141 != 98) = true := bne_iff_ne.mpr c8
      by_cases c9 : t141 = 102
      ·rw [if_pos c9] at H
       have c9b0 : (t141 == 102) = true := beq_iff_eq.mpr c9
       have c9b1 : (t141 != 102) = false := bne_eq_false_iff_eq.mpr c9
       clear c9
       have H' := Aside0.mk H
       clear H
       go_wp2
       go_meet
       case rel => exact ⟨_, ((t141 == 102)), (by first | rfl | (simp; done) | (simp [*]; done)), H', ⟨by first | omega | exact Nat.le_refl _⟩, ⟨by repeat (first | (with_reducible first | exact HI0.out | apply iA | apply iN | apply i1) | exact HI0.out)⟩, ⟨by repeat (first | (with_reducible first | exact HK.out | apply kS | apply kN) | exact HK.out)⟩, ⟨by repeat (first | (with_reducible first | exact HB.out | apply bA | apply bN | apply bD | refine below_set ?_ (IsS112.ge HI0.out)) | exact HB.out)⟩⟩
      ·rw [if_neg c9] at H
       have c9b0 : (t141 == 102) = false := beq_eq_false_iff_ne.mpr c9
       have c9b1 : (t141 != 102) = true := bne_iff_ne.mpr c9
       by_cases c10 : t141 = 110
       ·rw [if_pos c10] at H
        have c10b0 : (t141 == 110) = true := beq_iff_eq.mpr c10
        have c10b1 : (t141 != 110) = false := bne_eq_false_iff_eq.mpr c10
        clear c10
        have H' := Aside0.mk H
        clear H
        go_wp2
        go_meet
        case rel => exact ⟨_, ((t141 == 110)), (by first | rfl | (simp; done) | (simp [*]; done)), H', ⟨by first | omega | exact Nat.le_refl _⟩, ⟨by repeat (first | (with_reducible first | exact HI0.out | apply iA | apply iN | apply i1) | exact HI0.out)⟩, ⟨by repeat (first | (with_reducible first | exact HK.out | apply kS | apply kN) | exact HK.out)⟩, ⟨by repeat (first | (with_reducible first | exact HB.out | apply bA | apply bN | apply bD | refine below_set ?_ (IsS112.ge HI0.out)) | exact HB.out)⟩⟩
       ·rw [if_neg c10] at H
        have c10b0 : (t141 == 110) = false := beq_eq_false_iff_ne.mpr c10
        have c10b1 : (t141 != 110) = true := bne_iff_ne.mpr c10
        by_cases c11 : t141 = 114
        ·rw [if_pos c11] at H
         have c11b0 : (t141 == 114) = true := beq_iff_eq.mpr c11
         have c11b1 : (t141 != 114) = false := bne_eq_false_iff_eq.mpr c11
         clear c11
         have H' := Aside0.mk H
         clear H
         go_wp2
         go_meet
         case rel => exact ⟨_, ((t141 == 114)), (by first | rfl | (simp; done) | (simp [*]; done)), H', ⟨by first | omega | exact Nat.le_refl _⟩, ⟨by repeat (first | (with_reducible first | exact HI0.out | apply iA | apply iN | apply i1) | exact HI0.out)⟩, ⟨by repeat (first | (with_reducible first | exact HK.out | apply kS | apply kN) | exact HK.out)⟩, ⟨by repeat (first | (with_reducible first | exact HB.out | apply bA | apply bN | apply bD | refine below_set ?_ (IsS112.ge HI0.out)) | exact HB.out)⟩⟩
        ·rw [if_neg c11] at H
         have c11b0 : (t141 == 114) = false := beq_eq_false_iff_ne.mpr c11
         have c11b1 : (t141 != 114) = true := bne_iff_ne.mpr c11
         have H' := Aside0.mk H
         clear H
         go_wp2
         go_meet
         case rel => exact ⟨_, ((t141 == 116)), (by first | rfl | (simp; done) | (simp [*]; done)), H', ⟨by first | omega | exact Nat.le_refl _⟩, ⟨by repeat (first | (with_reducible first | exact HI0.out | apply iA | apply iN | apply i1) | exact HI0.out)⟩, ⟨by repeat (first | (with_reducible first | exact HK.out | apply kS | apply kN) | exact HK.out)⟩, ⟨by repeat (first | (with_reducible first | exact HB.out | apply bA | apply bN | apply bD | refine below_set ?_ (IsS112.ge HI0.out)) | exact HB.out)⟩⟩
 case rest =>
  clear HC3
  try clear c1
  try clear p2
  try clear c5
  try clear c5b0
  try clear c5b1
  try clear c6
  try clear c6b0
  try clear c6b1
  try clear c7
  try clear c7b0
  try clear c7b1
  try clear c8
  try clear c8b0
  try clear c8b1
  try clear c9
  try clear c9b0
  try clear c9b1
  try clear c10
  try clear c10b0
  try clear c10b1
  try clear c11
  try clear c11b0
  try clear c11b1
  obtain ⟨kq, x8_2, rfl, HA, HJ2, HI0, HK, HB⟩ := hcut
  cases kq with
  | zero => exact absurd HA.out (by simp [spec_reader_escape.j0])
  | succ kj2 =>
   have H := HA.out
   clear HA
   simp only [spec_reader_escape.j0] at H
   by_cases c12 : x8_2 = true
   ·subst c12
    have H1 : (some (true, t142, wrap64 (t143 + 1))) = some (r1, r2, r3) := by rw [if_pos rfl] at H; exact H
    clear H
    have H := H1
    clear H1
    simp only [Option.some.injEq, Prod.mk.injEq] at H
    obtain ⟨rfl, rfl, rfl⟩ := H
    obtain ⟨HGz13, hgz13⟩ := HI0.out
    have hcz13_0 := cellS112_0 HGz13
    have hcz13_1 := cellS112_1 HGz13
    have hfz13_0 := blk_frozen HGz13 0
    have hfz13_1 := blk_frozen HGz13 1
    clear HGz13 hgz13
    go_wp2
    go_ret
    exact ⟨by first | rfl | (simp [errW_none, errW_some] <;> rfl) | (simp [*, errW_none, errW_some] <;> rfl), by repeat (first | (with_reducible first | exact HI0.out | apply iA | apply iN | apply i1) | exact HI0.out), by repeat (first | (with_reducible first | exact HB.out | apply bA | apply bN | apply bD | refine below_set ?_ (IsS112.ge HI0.out)) | exact HB.out), by repeat (first | (with_reducible first | exact HK.out | apply kS | apply kN) | exact HK.out)⟩
   ·replace c12 := Bool.eq_false_iff.mpr c12
    subst c12
    have H1 : (if t141 = 117 then (spec_reader_escape.l0 kj2 0 t142 (wrap64 (t143 + 1))) else (some (false, t142, t143))) = some (r1, r2, r3) := by rw [if_neg (show ¬ (false = true) by decide)] at H; exact H
    clear H
    have H := H1
    clear H1
    by_cases c14 : t141 = 117
    ·rw [if_pos c14] at H
     have c14b0 : (t141 == 117) = true := beq_iff_eq.mpr c14
     have c14b1 : (t141 != 117) = false := bne_eq_false_iff_eq.mpr c14
     clear c14
     have H' := Aside0.mk H
     clear H
     obtain ⟨HGz15, hgz15⟩ := HI0.out
     have hcz15_0 := cellS112_0 HGz15
     have hcz15_1 := cellS112_1 HGz15
     have hfz15_0 := blk_frozen HGz15 0
     have hfz15_1 := blk_frozen HGz15 1
     clear HGz15 hgz15
     go_wp2
     go_loopg [3] kj2 (fun kq v3 w' => ∃ (x3_2 : Int) (x1000_2 : ByteArray) (x1001_2 : Int), v3 = .int .i64 x3_2 ∧ Aside0 (spec_reader_escape.l0 kq x3_2 x1000_2 x1001_2 = some (r1, r2, r3)) ∧ Aside0 (kq ≤ kj2) ∧ Aside0 (IsS112 w0 w' g x1000_2 x1001_2) ∧ Aside0 (KeepBut w w' g none) ∧ Aside0 (Below w0.heap.size w0 w'))
     case atStart => exact ⟨(0), (t142), (wrap64 (t143 + 1)), (by first | rfl | (simp; done) | (simp [*]; done)), H', ⟨Nat.le_refl _⟩, ⟨by repeat (first | (with_reducible first | exact HI0.out | apply iA | apply iN | apply i1) | exact HI0.out)⟩, ⟨by repeat (first | (with_reducible first | exact HK.out | apply kS | apply kN) | exact HK.out)⟩, ⟨by repeat (first | (with_reducible first | exact HB.out | apply bA | apply bN | apply bD | refine below_set ?_ (IsS112.ge HI0.out)) | exact HB.out)⟩⟩
     case round =>
      clear H'
      try clear c1
      try clear p2
      try clear c5
      try clear c5b0
      try clear c5b1
      try clear c6
      try clear c6b0
      try clear c6b1
      try clear p6
      try clear c7
      try clear c7b0
      try clear c7b1
      try clear c8
      try clear c8b0
      try clear c8b1
      try clear c9
      try clear c9b0
      try clear c9b1
      try clear c10
      try clear c10b0
      try clear c10b1
      try clear c11
      try clear c11b0
      try clear c11b1
      try clear c12
      try clear c13
      try clear c14
      try clear c14b0
      try clear c14b1
      try clear hcz13_0
      try clear hcz13_1
      try clear hcz15_0
      try clear hcz15_1
      try clear hfz13_0
      try clear hfz13_1
      try clear hfz15_0
      try clear hfz15_1
      try clear p2
      obtain ⟨x3_2, x1000_2, x1001_2, rfl, HA, HK2, HI0, HK, HB⟩ := hrel
      cases gk with
      | zero => exact absurd HA.out (by simp [spec_reader_escape.l0])
      | succ k2 =>
       have H := HA.out
       clear HA
       simp only [spec_reader_escape.l0] at H
       by_cases c16 : x3_2 < 4
       ·rw [if_pos c16] at H
        have c16b0 : decide (x3_2 < 4) = true := decide_eq_true c16
        clear c16
        replace H := Option.bind_eq_some_iff.mp H
        obtain ⟨⟨t144, t145, t146⟩, A170, H⟩ := H
        try dsimp only at H
        have A17 := Aside0.mk A170
        clear A170
        replace H := Option.bind_eq_some_iff.mp H
        obtain ⟨⟨t147, t148⟩, A180, H⟩ := H
        try dsimp only at H
        have A18 := Aside0.mk A180
        clear A180
        by_cases c19 : t148 = true
        ·subst c19
         have H1 : (spec_reader_escape.l0 k2 (wrap64 (x3_2 + 1)) t145 (wrap64 (t146 + 1))) = some (r1, r2, r3) := by rw [if_pos rfl] at H; exact H
         clear H
         have H := H1
         clear H1
         have H' := Aside0.mk H
         clear H
         go_wp2_with (first | ((with_reducible refine gate_callee (f := 100) rfl ?_); refine goesL_ (some 39) rfl rfl Tryz.func100 (by kernel_rfl) rfl #[.pointer (some ⟨g, 0, none⟩)] rfl (by (try simp only [List.map_toArray, List.map_cons, List.map_nil]); first | done | rfl | (simp only [List.length_drop, List.length_take]; rfl)) ?_; (with_reducible refine (spec_reader_here.calls g x1000_2 x1001_2 t144 t145 t146 w0 _ ?side1 ?side2 A17.out).mono ?_); (case side1 => repeat (first | (with_reducible first | exact HI0.out | apply iA | apply iN | apply i1) | exact HI0.out)); (case side2 => repeat (first | (with_reducible first | exact HB.out | apply bA | apply bN | apply bD | refine below_set ?_ (IsS112.ge HI0.out)) | exact HB.out)); rintro e w20 ⟨rfl, hi, hb, hk⟩; refine ⟨_, rfl, ?_⟩; have n0_ := Aside0.mk (KeepBut.trans (by repeat (first | (with_reducible first | exact HK.out | apply kS | apply kN) | exact HK.out)) hk (.inl rfl)); have n1_ := Aside0.mk (hb); have n2_ := Aside0.mk (hi); clear HK; clear HB; clear HI0; have HK := n0_; have HB := n1_; have HI0 := n2_; clear n0_ n1_ n2_; (try clear hb); (try clear hb2); (try clear hk); (try clear hi)) | ((with_reducible refine gate_callee (f := 87) rfl ?_); refine goesL_ (some 40) rfl rfl Tryz.func87 (by kernel_rfl) rfl #[.int .u8 t144] rfl (by (try simp only [List.map_toArray, List.map_cons, List.map_nil]); first | done | rfl | (simp only [List.length_drop, List.length_take]; rfl)) ?_; (with_reducible refine (spec_hexDigit.calls k2 t144 t147 true _ A18.out).mono ?_); rintro e w' ⟨rfl, ⟨nd, rfl⟩⟩; refine ⟨_, rfl, ?_⟩; (try (rw [drewN_self w20]; generalize hq_ : World.drewN w20 _ = w20; have n0_ : Aside0 (IsS112 w0 w20 g t145 t146) := ⟨by rw [← hq_]; exact (by repeat (first | (with_reducible first | exact HI0.out | apply iA | apply iN | apply i1) | exact HI0.out))⟩; have n1_ : Aside0 (KeepBut w w20 g none) := ⟨by rw [← hq_]; exact (by repeat (first | (with_reducible first | exact HK.out | apply kS | apply kN) | exact HK.out))⟩; have n2_ : Aside0 (Below w0.heap.size w0 w20) := ⟨by rw [← hq_]; exact (by repeat (first | (with_reducible first | exact HB.out | apply bA | apply bN | apply bD | refine below_set ?_ (IsS112.ge HI0.out)) | exact HB.out))⟩; clear HI0 HK HB hq_; have HI0 := n0_; have HK := n1_; have HB := n2_; clear n0_ n1_ n2_)); obtain ⟨HGz21, hgz21⟩ := HI0.out; have hcz21_0 := cellS112_0 HGz21; have hcz21_1 := cellS112_1 HGz21; have hfz21_0 := blk_frozen HGz21 0; have hfz21_1 := blk_frozen HGz21 1; clear HGz21 hgz21))
         go_roundg k2
         case measure => have := HJ2.out; have := HK2.out; omega
         case rel => exact ⟨(wrap64 (x3_2 + 1)), (t145), (wrap64 (t146 + 1)), (by first | rfl | (simp; done) | (simp [*]; done)), H', ⟨by have := HJ2.out; have := HK2.out; omega⟩, ⟨by repeat (first | (with_reducible first | exact HI0.out | apply iA | apply iN | apply i1) | exact HI0.out)⟩, ⟨by repeat (first | (with_reducible first | exact HK.out | apply kS | apply kN) | exact HK.out)⟩, ⟨by repeat (first | (with_reducible first | exact HB.out | apply bA | apply bN | apply bD | refine below_set ?_ (IsS112.ge HI0.out)) | exact HB.out)⟩⟩
        ·replace c19 := Bool.eq_false_iff.mpr c19
         subst c19
         have H1 : (some (false, t145, t146)) = some (r1, r2, r3) := by rw [if_neg (show ¬ (false = true) by decide)] at H; exact H
         clear H
         have H := H1
         clear H1
         simp only [Option.some.injEq, Prod.mk.injEq] at H
         obtain ⟨rfl, rfl, rfl⟩ := H
         go_wp2_with (first | ((with_reducible refine gate_callee (f := 100) rfl ?_); refine goesL_ (some 39) rfl rfl Tryz.func100 (by kernel_rfl) rfl #[.pointer (some ⟨g, 0, none⟩)] rfl (by (try simp only [List.map_toArray, List.map_cons, List.map_nil]); first | done | rfl | (simp only [List.length_drop, List.length_take]; rfl)) ?_; (with_reducible refine (spec_reader_here.calls g x1000_2 x1001_2 t144 t145 t146 w0 _ ?side1 ?side2 A17.out).mono ?_); (case side1 => repeat (first | (with_reducible first | exact HI0.out | apply iA | apply iN | apply i1) | exact HI0.out)); (case side2 => repeat (first | (with_reducible first | exact HB.out | apply bA | apply bN | apply bD | refine below_set ?_ (IsS112.ge HI0.out)) | exact HB.out)); rintro e w22 ⟨rfl, hi, hb, hk⟩; refine ⟨_, rfl, ?_⟩; have n0_ := Aside0.mk (KeepBut.trans (by repeat (first | (with_reducible first | exact HK.out | apply kS | apply kN) | exact HK.out)) hk (.inl rfl)); have n1_ := Aside0.mk (hb); have n2_ := Aside0.mk (hi); clear HK; clear HB; clear HI0; have HK := n0_; have HB := n1_; have HI0 := n2_; clear n0_ n1_ n2_; (try clear hb); (try clear hb2); (try clear hk); (try clear hi)) | ((with_reducible refine gate_callee (f := 87) rfl ?_); refine goesL_ (some 40) rfl rfl Tryz.func87 (by kernel_rfl) rfl #[.int .u8 t144] rfl (by (try simp only [List.map_toArray, List.map_cons, List.map_nil]); first | done | rfl | (simp only [List.length_drop, List.length_take]; rfl)) ?_; (with_reducible refine (spec_hexDigit.calls k2 t144 t147 false _ A18.out).mono ?_); rintro e w' ⟨rfl, ⟨nd, rfl⟩⟩; refine ⟨_, rfl, ?_⟩))
         go_ret
         exact ⟨by first | rfl | (simp [errW_none, errW_some] <;> rfl) | (simp [*, errW_none, errW_some] <;> rfl), by repeat (first | (with_reducible first | exact HI0.out | apply iA | apply iN | apply i1) | exact HI0.out), by repeat (first | (with_reducible first | exact HB.out | apply bA | apply bN | apply bD | refine below_set ?_ (IsS112.ge HI0.out)) | exact HB.out), by repeat (first | (with_reducible first | exact HK.out | apply kS | apply kN) | exact HK.out)⟩
       ·rw [if_neg c16] at H
        have c16b0 : decide (x3_2 < 4) = false := decide_eq_false c16
        clear c16
        simp only [Option.some.injEq, Prod.mk.injEq] at H
        obtain ⟨rfl, rfl, rfl⟩ := H
        go_wp2
        go_ret
        exact ⟨by first | rfl | (simp [errW_none, errW_some] <;> rfl) | (simp [*, errW_none, errW_some] <;> rfl), by repeat (first | (with_reducible first | exact HI0.out | apply iA | apply iN | apply i1) | exact HI0.out), by repeat (first | (with_reducible first | exact HB.out | apply bA | apply bN | apply bD | refine below_set ?_ (IsS112.ge HI0.out)) | exact HB.out), by repeat (first | (with_reducible first | exact HK.out | apply kS | apply kN) | exact HK.out)⟩
    ·rw [if_neg c14] at H
     have c14b0 : (t141 == 117) = false := beq_eq_false_iff_ne.mpr c14
     have c14b1 : (t141 != 117) = true := bne_iff_ne.mpr c14
     simp only [Option.some.injEq, Prod.mk.injEq] at H
     obtain ⟨rfl, rfl, rfl⟩ := H
     go_wp2
     go_ret
     exact ⟨by first | rfl | (simp [errW_none, errW_some] <;> rfl) | (simp [*, errW_none, errW_some] <;> rfl), by repeat (first | (with_reducible first | exact HI0.out | apply iA | apply iN | apply i1) | exact HI0.out), by repeat (first | (with_reducible first | exact HB.out | apply bA | apply bN | apply bD | refine below_set ?_ (IsS112.ge HI0.out)) | exact HB.out), by repeat (first | (with_reducible first | exact HK.out | apply kS | apply kN) | exact HK.out)⟩
def spec_reader_quoted.l0 : Nat → ByteArray → Int → Option (Bool × ByteArray × Int)
 | 0, _, _ => none
 | k + 1, x1000, x1001 => if x1001 < (x1000.size : Int) then (if 0 ≤ x1001 then (if (bt x1000 x1001) = 34 then (some (true, x1000, wrap64 (x1001 + 1))) else (if (bt x1000 x1001) < 32 then (some (false, x1000, wrap64 (x1001 + 1))) else (if (bt x1000 x1001) = 92 then ((spec_reader_escape.f k x1000 (wrap64 (x1001 + 1))).bind fun bt149 => (if bt149.1 = true then (spec_reader_quoted.l0 k bt149.2.1 bt149.2.2) else (some (false, bt149.2.1, bt149.2.2)))) else (spec_reader_quoted.l0 k x1000 (wrap64 (x1001 + 1)))))) else (none)) else (some (false, x1000, x1001))
def spec_reader_quoted.f (k : Nat) (s0_0 : ByteArray) (s0_1 : Int) : Option (Bool × ByteArray × Int) := spec_reader_quoted.l0 k s0_0 (wrap64 (s0_1 + 1))
theorem spec_reader_quoted.calls (k : Nat) (g : Nat) (s0_0 : ByteArray) (s0_1 : Int) (r1 : Bool) (r2 : ByteArray) (r3 : Int) (w0 w : World) (hI : IsS112 w0 w g s0_0 s0_1) (hB : Below w0.heap.size w0 w) (h : spec_reader_quoted.f k s0_0 s0_1 = some (r1, r2, r3)) :
  Calls Tryz.prog 103 #[.pointer (some ⟨g, 0, none⟩)] w fun e w' => e = .returned (.bool r1) ∧ IsS112 w0 w' g r2 r3 ∧ Below w0.heap.size w0 w' ∧ KeepBut w w' g none := by
 have HI0 := Aside0.mk hI
 have HK := Aside0.mk (KeepBut.refl w g none)
 have HL := Aside0.mk hB.size
 clear hI
 have HW0 := Aside0.mk hB.size
 have HB := Aside0.mk hB
 clear hB
 have H : (spec_reader_quoted.l0 k s0_0 (wrap64 (s0_1 + 1))) = some (r1, r2, r3) := h
 clear h
 have H' := Aside0.mk H
 clear H
 obtain ⟨HGz2, hgz2⟩ := HI0.out
 have hcz2_0 := cellS112_0 HGz2
 have hcz2_1 := cellS112_1 HGz2
 have hfz2_0 := blk_frozen HGz2 0
 have hfz2_1 := blk_frozen HGz2 1
 clear HGz2 hgz2
 go_enter Tryz.func103, Tryz.ntmps103
 go_wp2
 repeat (go_quiet (fail); try go_wp2)
 go_loopg [] k (fun kq w' => ∃ (x1000_1 : ByteArray) (x1001_1 : Int), Aside0 (spec_reader_quoted.l0 kq x1000_1 x1001_1 = some (r1, r2, r3)) ∧ Aside0 (kq ≤ k) ∧ Aside0 (IsS112 w0 w' g x1000_1 x1001_1) ∧ Aside0 (KeepBut w w' g none) ∧ Aside0 (Below w0.heap.size w0 w'))
 case atStart => exact ⟨(s0_0), (wrap64 (s0_1 + 1)), H', ⟨Nat.le_refl _⟩, ⟨by repeat (first | (with_reducible first | exact HI0.out | apply iA | apply iN | apply i1) | exact HI0.out)⟩, ⟨by repeat (first | (with_reducible first | exact HK.out | apply kS | apply kN) | exact HK.out)⟩, ⟨by repeat (first | (with_reducible first | exact HB.out | apply bA | apply bN | apply bD | refine below_set ?_ (IsS112.ge HI0.out)) | exact HB.out)⟩⟩
 case round =>
  clear H'
  try clear c1
  try clear p2
  try clear hcz2_0
  try clear hcz2_1
  try clear hfz2_0
  try clear hfz2_1
  obtain ⟨x1000_1, x1001_1, HA, HK1, HI0, HK, HB⟩ := hrel
  cases gk with
  | zero => exact absurd HA.out (by simp [spec_reader_quoted.l0])
  | succ k1 =>
   have H := HA.out
   clear HA
   simp only [spec_reader_quoted.l0] at H
   by_cases c3 : x1001_1 < (x1000_1.size : Int)
   ·rw [if_pos c3] at H
    have c3b0 : decide (x1001_1 < (x1000_1.size : Int)) = true := decide_eq_true c3
    clear c3
    by_cases c4 : 0 ≤ x1001_1
    ·rw [if_pos c4] at H
     have c4b0 : decide (0 ≤ x1001_1) = true := decide_eq_true c4
     clear c4
     by_cases c6 : (bt x1000_1 x1001_1) = 34
     ·rw [if_pos c6] at H
      have c6b0 : ((bt x1000_1 x1001_1) == 34) = true := beq_iff_eq.mpr c6
      have c6b1 : ((bt x1000_1 x1001_1) != 34) = false := bne_eq_false_iff_eq.mpr c6
      clear c6
      simp only [Option.some.injEq, Prod.mk.injEq] at H
      obtain ⟨rfl, rfl, rfl⟩ := H
      obtain ⟨HGz7, hgz7⟩ := HI0.out
      have hcz7_0 := cellS112_0 HGz7
      have hcz7_1 := cellS112_1 HGz7
      have hfz7_0 := blk_frozen HGz7 0
      have hfz7_1 := blk_frozen HGz7 1
      clear HGz7 hgz7
      have p5 : 0 ≤ (x1001_1 : Int) := of_decide_eq_true (by first | (with_reducible assumption) | assumption)
      have q5 : x1001_1 < (x1000_1.size : Int) := of_decide_eq_true (by first | (with_reducible assumption) | assumption)
      have hx5 := bt_at x1000_1 x1001_1
      replace p5 := eq_true p5
      replace q5 := eq_true q5
      go_wp2
      repeat (go_quiet (fail); try go_wp2)
      go_ret
      exact ⟨by first | rfl | (simp [errW_none, errW_some] <;> rfl) | (simp [*, errW_none, errW_some] <;> rfl), by repeat (first | (with_reducible first | exact HI0.out | apply iA | apply iN | apply i1) | exact HI0.out), by repeat (first | (with_reducible first | exact HB.out | apply bA | apply bN | apply bD | refine below_set ?_ (IsS112.ge HI0.out)) | exact HB.out), by repeat (first | (with_reducible first | exact HK.out | apply kS | apply kN) | exact HK.out)⟩
     ·rw [if_neg c6] at H
      have c6b0 : ((bt x1000_1 x1001_1) == 34) = false := beq_eq_false_iff_ne.mpr c6
      have c6b1 : ((bt x1000_1 x1001_1) != 34) = true := bne_iff_ne.mpr c6
      by_cases c8 : (bt x1000_1 x1001_1) < 32
      ·rw [if_pos c8] at H
       have c8b0 : decide ((bt x1000_1 x1001_1) < 32) = true := decide_eq_true c8
       clear c8
       simp only [Option.some.injEq, Prod.mk.injEq] at H
       obtain ⟨rfl, rfl, rfl⟩ := H
       obtain ⟨HGz9, hgz9⟩ := HI0.out
       have hcz9_0 := cellS112_0 HGz9
       have hcz9_1 := cellS112_1 HGz9
       have hfz9_0 := blk_frozen HGz9 0
       have hfz9_1 := blk_frozen HGz9 1
       clear HGz9 hgz9
       have p5 : 0 ≤ (x1001_1 : Int) := of_decide_eq_true (by first | (with_reducible assumption) | assumption)
       have q5 : x1001_1 < (x1000_1.size : Int) := of_decide_eq_true (by first | (with_reducible assumption) | assumption)
       have hx5 := bt_at x1000_1 x1001_1
       replace p5 := eq_true p5
       replace q5 := eq_true q5
       go_wp2
       repeat (go_quiet (fail); try go_wp2)
       go_ret
       exact ⟨by first | rfl | (simp [errW_none, errW_some] <;> rfl) | (simp [*, errW_none, errW_some] <;> rfl), by repeat (first | (with_reducible first | exact HI0.out | apply iA | apply iN | apply i1) | exact HI0.out), by repeat (first | (with_reducible first | exact HB.out | apply bA | apply bN | apply bD | refine below_set ?_ (IsS112.ge HI0.out)) | exact HB.out), by repeat (first | (with_reducible first | exact HK.out | apply kS | apply kN) | exact HK.out)⟩
      ·rw [if_neg c8] at H
       have c8b0 : decide ((bt x1000_1 x1001_1) < 32) = false := decide_eq_false c8
       clear c8
       by_cases c10 : (bt x1000_1 x1001_1) = 92
       ·rw [if_pos c10] at H
        have c10b0 : ((bt x1000_1 x1001_1) == 92) = true := beq_iff_eq.mpr c10
        have c10b1 : ((bt x1000_1 x1001_1) != 92) = false := bne_eq_false_iff_eq.mpr c10
        clear c10
        replace H := Option.bind_eq_some_iff.mp H
        obtain ⟨⟨t149, t150, t151⟩, A110, H⟩ := H
        try dsimp only at H
        have A11 := Aside0.mk A110
        clear A110
        by_cases c12 : t149 = true
        ·subst c12
         have H1 : (spec_reader_quoted.l0 k1 t150 t151) = some (r1, r2, r3) := by rw [if_pos rfl] at H; exact H
         clear H
         have H := H1
         clear H1
         have H' := Aside0.mk H
         clear H
         obtain ⟨HGz13, hgz13⟩ := HI0.out
         have hcz13_0 := cellS112_0 HGz13
         have hcz13_1 := cellS112_1 HGz13
         have hfz13_0 := blk_frozen HGz13 0
         have hfz13_1 := blk_frozen HGz13 1
         clear HGz13 hgz13
         have p5 : 0 ≤ (x1001_1 : Int) := of_decide_eq_true (by first | (with_reducible assumption) | assumption)
         have q5 : x1001_1 < (x1000_1.size : Int) := of_decide_eq_true (by first | (with_reducible assumption) | assumption)
         have hx5 := bt_at x1000_1 x1001_1
         replace p5 := eq_true p5
         replace q5 := eq_true q5
         go_wp2_with (first | (go_at_call 131; (with_reducible refine (spec_reader_escape.calls k1 g x1000_1 (wrap64 (x1001_1 + 1)) true t150 t151 w0 _ ?side1 ?side2 A11.out).mono ?_); (case side1 => repeat (first | (with_reducible first | exact HI0.out | apply iA | apply iN | apply i1) | exact HI0.out)); (case side2 => repeat (first | (with_reducible first | exact HB.out | apply bA | apply bN | apply bD | refine below_set ?_ (IsS112.ge HI0.out)) | exact HB.out)); rintro e w14 ⟨rfl, hi, hb, hk⟩; have n0_ := Aside0.mk (KeepBut.trans (by repeat (first | (with_reducible first | exact HK.out | apply kS | apply kN) | exact HK.out)) hk (.inl rfl)); have n1_ := Aside0.mk (hb); have n2_ := Aside0.mk (hi); clear HK; clear HB; clear HI0; have HK := n0_; have HB := n1_; have HI0 := n2_; clear n0_ n1_ n2_; (try clear hb); (try clear hb2); (try clear hk); (try clear hi)))
         repeat (go_quiet (first | (go_at_call 131; (with_reducible refine (spec_reader_escape.calls k1 g x1000_1 (wrap64 (x1001_1 + 1)) true t150 t151 w0 _ ?side1 ?side2 A11.out).mono ?_); (case side1 => repeat (first | (with_reducible first | exact HI0.out | apply iA | apply iN | apply i1) | exact HI0.out)); (case side2 => repeat (first | (with_reducible first | exact HB.out | apply bA | apply bN | apply bD | refine below_set ?_ (IsS112.ge HI0.out)) | exact HB.out)); rintro e w14 ⟨rfl, hi, hb, hk⟩; have n0_ := Aside0.mk (KeepBut.trans (by repeat (first | (with_reducible first | exact HK.out | apply kS | apply kN) | exact HK.out)) hk (.inl rfl)); have n1_ := Aside0.mk (hb); have n2_ := Aside0.mk (hi); clear HK; clear HB; clear HI0; have HK := n0_; have HB := n1_; have HI0 := n2_; clear n0_ n1_ n2_; (try clear hb); (try clear hb2); (try clear hk); (try clear hi))); try go_wp2_with (first | (go_at_call 131; (with_reducible refine (spec_reader_escape.calls k1 g x1000_1 (wrap64 (x1001_1 + 1)) true t150 t151 w0 _ ?side1 ?side2 A11.out).mono ?_); (case side1 => repeat (first | (with_reducible first | exact HI0.out | apply iA | apply iN | apply i1) | exact HI0.out)); (case side2 => repeat (first | (with_reducible first | exact HB.out | apply bA | apply bN | apply bD | refine below_set ?_ (IsS112.ge HI0.out)) | exact HB.out)); rintro e w14 ⟨rfl, hi, hb, hk⟩; have n0_ := Aside0.mk (KeepBut.trans (by repeat (first | (with_reducible first | exact HK.out | apply kS | apply kN) | exact HK.out)) hk (.inl rfl)); have n1_ := Aside0.mk (hb); have n2_ := Aside0.mk (hi); clear HK; clear HB; clear HI0; have HK := n0_; have HB := n1_; have HI0 := n2_; clear n0_ n1_ n2_; (try clear hb); (try clear hb2); (try clear hk); (try clear hi))))
         go_roundg k1
         case measure => have := HK1.out; omega
         case rel => exact ⟨(t150), (t151), H', ⟨by have := HK1.out; omega⟩, ⟨by repeat (first | (with_reducible first | exact HI0.out | apply iA | apply iN | apply i1) | exact HI0.out)⟩, ⟨by repeat (first | (with_reducible first | exact HK.out | apply kS | apply kN) | exact HK.out)⟩, ⟨by repeat (first | (with_reducible first | exact HB.out | apply bA | apply bN | apply bD | refine below_set ?_ (IsS112.ge HI0.out)) | exact HB.out)⟩⟩
        ·replace c12 := Bool.eq_false_iff.mpr c12
         subst c12
         have H1 : (some (false, t150, t151)) = some (r1, r2, r3) := by rw [if_neg (show ¬ (false = true) by decide)] at H; exact H
         clear H
         have H := H1
         clear H1
         simp only [Option.some.injEq, Prod.mk.injEq] at H
         obtain ⟨rfl, rfl, rfl⟩ := H
         obtain ⟨HGz15, hgz15⟩ := HI0.out
         have hcz15_0 := cellS112_0 HGz15
         have hcz15_1 := cellS112_1 HGz15
         have hfz15_0 := blk_frozen HGz15 0
         have hfz15_1 := blk_frozen HGz15 1
         clear HGz15 hgz15
         have p5 : 0 ≤ (x1001_1 : Int) := of_decide_eq_true (by first | (with_reducible assumption) | assumption)
         have q5 : x1001_1 < (x1000_1.size : Int) := of_decide_eq_true (by first | (with_reducible assumption) | assumption)
         have hx5 := bt_at x1000_1 x1001_1
         replace p5 := eq_true p5
         replace q5 := eq_true q5
         go_wp2_with (first | (go_at_call 131; (with_reducible refine (spec_reader_escape.calls k1 g x1000_1 (wrap64 (x1001_1 + 1)) false t150 t151 w0 _ ?side1 ?side2 A11.out).mono ?_); (case side1 => repeat (first | (with_reducible first | exact HI0.out | apply iA | apply iN | apply i1) | exact HI0.out)); (case side2 => repeat (first | (with_reducible first | exact HB.out | apply bA | apply bN | apply bD | refine below_set ?_ (IsS112.ge HI0.out)) | exact HB.out)); rintro e w16 ⟨rfl, hi, hb, hk⟩; have n0_ := Aside0.mk (KeepBut.trans (by repeat (first | (with_reducible first | exact HK.out | apply kS | apply kN) | exact HK.out)) hk (.inl rfl)); have n1_ := Aside0.mk (hb); have n2_ := Aside0.mk (hi); clear HK; clear HB; clear HI0; have HK := n0_; have HB := n1_; have HI0 := n2_; clear n0_ n1_ n2_; (try clear hb); (try clear hb2); (try clear hk); (try clear hi)))
         repeat (go_quiet (first | (go_at_call 131; (with_reducible refine (spec_reader_escape.calls k1 g x1000_1 (wrap64 (x1001_1 + 1)) false t150 t151 w0 _ ?side1 ?side2 A11.out).mono ?_); (case side1 => repeat (first | (with_reducible first | exact HI0.out | apply iA | apply iN | apply i1) | exact HI0.out)); (case side2 => repeat (first | (with_reducible first | exact HB.out | apply bA | apply bN | apply bD | refine below_set ?_ (IsS112.ge HI0.out)) | exact HB.out)); rintro e w16 ⟨rfl, hi, hb, hk⟩; have n0_ := Aside0.mk (KeepBut.trans (by repeat (first | (with_reducible first | exact HK.out | apply kS | apply kN) | exact HK.out)) hk (.inl rfl)); have n1_ := Aside0.mk (hb); have n2_ := Aside0.mk (hi); clear HK; clear HB; clear HI0; have HK := n0_; have HB := n1_; have HI0 := n2_; clear n0_ n1_ n2_; (try clear hb); (try clear hb2); (try clear hk); (try clear hi))); try go_wp2_with (first | (go_at_call 131; (with_reducible refine (spec_reader_escape.calls k1 g x1000_1 (wrap64 (x1001_1 + 1)) false t150 t151 w0 _ ?side1 ?side2 A11.out).mono ?_); (case side1 => repeat (first | (with_reducible first | exact HI0.out | apply iA | apply iN | apply i1) | exact HI0.out)); (case side2 => repeat (first | (with_reducible first | exact HB.out | apply bA | apply bN | apply bD | refine below_set ?_ (IsS112.ge HI0.out)) | exact HB.out)); rintro e w16 ⟨rfl, hi, hb, hk⟩; have n0_ := Aside0.mk (KeepBut.trans (by repeat (first | (with_reducible first | exact HK.out | apply kS | apply kN) | exact HK.out)) hk (.inl rfl)); have n1_ := Aside0.mk (hb); have n2_ := Aside0.mk (hi); clear HK; clear HB; clear HI0; have HK := n0_; have HB := n1_; have HI0 := n2_; clear n0_ n1_ n2_; (try clear hb); (try clear hb2); (try clear hk); (try clear hi))))
         go_ret
         exact ⟨by first | rfl | (simp [errW_none, errW_some] <;> rfl) | (simp [*, errW_none, errW_some] <;> rfl), by repeat (first | (with_reducible first | exact HI0.out | apply iA | apply iN | apply i1) | exact HI0.out), by repeat (first | (with_reducible first | exact HB.out | apply bA | apply bN | apply bD | refine below_set ?_ (IsS112.ge HI0.out)) | exact HB.out), by repeat (first | (with_reducible first | exact HK.out | apply kS | apply kN) | exact HK.out)⟩
       ·rw [if_neg c10] at H
        have c10b0 : ((bt x1000_1 x1001_1) == 92) = false := beq_eq_false_iff_ne.mpr c10
        have c10b1 : ((bt x1000_1 x1001_1) != 92) = true := bne_iff_ne.mpr c10
        have H' := Aside0.mk H
        clear H
        obtain ⟨HGz17, hgz17⟩ := HI0.out
        have hcz17_0 := cellS112_0 HGz17
        have hcz17_1 := cellS112_1 HGz17
        have hfz17_0 := blk_frozen HGz17 0
        have hfz17_1 := blk_frozen HGz17 1
        clear HGz17 hgz17
        have p5 : 0 ≤ (x1001_1 : Int) := of_decide_eq_true (by first | (with_reducible assumption) | assumption)
        have q5 : x1001_1 < (x1000_1.size : Int) := of_decide_eq_true (by first | (with_reducible assumption) | assumption)
        have hx5 := bt_at x1000_1 x1001_1
        replace p5 := eq_true p5
        replace q5 := eq_true q5
        go_wp2
        repeat (go_quiet (fail); try go_wp2)
        go_roundg k1
        case measure => have := HK1.out; omega
        case rel => exact ⟨(x1000_1), (wrap64 (x1001_1 + 1)), H', ⟨by have := HK1.out; omega⟩, ⟨by repeat (first | (with_reducible first | exact HI0.out | apply iA | apply iN | apply i1) | exact HI0.out)⟩, ⟨by repeat (first | (with_reducible first | exact HK.out | apply kS | apply kN) | exact HK.out)⟩, ⟨by repeat (first | (with_reducible first | exact HB.out | apply bA | apply bN | apply bD | refine below_set ?_ (IsS112.ge HI0.out)) | exact HB.out)⟩⟩
    ·rw [if_neg c4] at H
     exact absurd H (by simp)
   ·rw [if_neg c3] at H
    have c3b0 : decide (x1001_1 < (x1000_1.size : Int)) = false := decide_eq_false c3
    clear c3
    simp only [Option.some.injEq, Prod.mk.injEq] at H
    obtain ⟨rfl, rfl, rfl⟩ := H
    obtain ⟨HGz18, hgz18⟩ := HI0.out
    have hcz18_0 := cellS112_0 HGz18
    have hcz18_1 := cellS112_1 HGz18
    have hfz18_0 := blk_frozen HGz18 0
    have hfz18_1 := blk_frozen HGz18 1
    clear HGz18 hgz18
    go_wp2
    repeat (go_quiet (fail); try go_wp2)
    go_ret
    exact ⟨by first | rfl | (simp [errW_none, errW_some] <;> rfl) | (simp [*, errW_none, errW_some] <;> rfl), by repeat (first | (with_reducible first | exact HI0.out | apply iA | apply iN | apply i1) | exact HI0.out), by repeat (first | (with_reducible first | exact HB.out | apply bA | apply bN | apply bD | refine below_set ?_ (IsS112.ge HI0.out)) | exact HB.out), by repeat (first | (with_reducible first | exact HK.out | apply kS | apply kN) | exact HK.out)⟩
def spec_reader_word.f (s0_0 : ByteArray) (s0_1 : Int) (a1 : ByteArray) : Option (Bool × ByteArray × Int) := if (wrap64 ((s0_0.size : Int) - s0_1)) < (a1.size : Int) then (some (false, s0_0, s0_1)) else (if 0 ≤ s0_1 then (if s0_1 ≤ (wrap64 (s0_1 + (a1.size : Int))) then (if (wrap64 (s0_1 + (a1.size : Int))) ≤ (s0_0.size : Int) then (if (s0_0.extract (s0_1 : Int).toNat ((wrap64 (s0_1 + (a1.size : Int))) : Int).toNat).toList = a1.toList then (some (true, s0_0, wrap64 (s0_1 + (a1.size : Int)))) else (some (false, s0_0, s0_1))) else (none)) else (none)) else (none))
theorem spec_reader_word.calls (g : Nat) (s0_0 : ByteArray) (s0_1 : Int) (a1 : ByteArray) (r1 : Bool) (r2 : ByteArray) (r3 : Int) (w0 w : World) (hI : IsS112 w0 w g s0_0 s0_1) (hB : Below w0.heap.size w0 w) (h : spec_reader_word.f s0_0 s0_1 a1 = some (r1, r2, r3)) :
  Calls Tryz.prog 104 #[.pointer (some ⟨g, 0, none⟩), .string a1] w fun e w' => e = .returned (.bool r1) ∧ IsS112 w0 w' g r2 r3 ∧ Below w0.heap.size w0 w' ∧ KeepBut w w' g none := by
 have HI0 := Aside0.mk hI
 have HK := Aside0.mk (KeepBut.refl w g none)
 have HL := Aside0.mk hB.size
 clear hI
 have HW0 := Aside0.mk hB.size
 have HB := Aside0.mk hB
 clear hB
 have H : (if (wrap64 ((s0_0.size : Int) - s0_1)) < (a1.size : Int) then (some (false, s0_0, s0_1)) else (if 0 ≤ s0_1 then (if s0_1 ≤ (wrap64 (s0_1 + (a1.size : Int))) then (if (wrap64 (s0_1 + (a1.size : Int))) ≤ (s0_0.size : Int) then (if (s0_0.extract (s0_1 : Int).toNat ((wrap64 (s0_1 + (a1.size : Int))) : Int).toNat).toList = a1.toList then (some (true, s0_0, wrap64 (s0_1 + (a1.size : Int)))) else (some (false, s0_0, s0_1))) else (none)) else (none)) else (none))) = some (r1, r2, r3) := h
 clear h
 by_cases c3 : (wrap64 ((s0_0.size : Int) - s0_1)) < (a1.size : Int)
 ·rw [if_pos c3] at H
  have c3b0 : decide ((wrap64 ((s0_0.size : Int) - s0_1)) < (a1.size : Int)) = true := decide_eq_true c3
  clear c3
  simp only [Option.some.injEq, Prod.mk.injEq] at H
  obtain ⟨rfl, rfl, rfl⟩ := H
  obtain ⟨HGz4, hgz4⟩ := HI0.out
  have hcz4_0 := cellS112_0 HGz4
  have hcz4_1 := cellS112_1 HGz4
  have hfz4_0 := blk_frozen HGz4 0
  have hfz4_1 := blk_frozen HGz4 1
  clear HGz4 hgz4
  go_enter Tryz.func104, Tryz.ntmps104
  go_wp2
  repeat (go_quiet (fail); try go_wp2)
  go_ret
  exact ⟨by first | rfl | (simp [errW_none, errW_some] <;> rfl) | (simp [*, errW_none, errW_some] <;> rfl), by repeat (first | (with_reducible first | exact HI0.out | apply iA | apply iN | apply i1) | exact HI0.out), by repeat (first | (with_reducible first | exact HB.out | apply bA | apply bN | apply bD | refine below_set ?_ (IsS112.ge HI0.out)) | exact HB.out), by repeat (first | (with_reducible first | exact HK.out | apply kS | apply kN) | exact HK.out)⟩
 ·rw [if_neg c3] at H
  have c3b0 : decide ((wrap64 ((s0_0.size : Int) - s0_1)) < (a1.size : Int)) = false := decide_eq_false c3
  clear c3
  by_cases c5 : 0 ≤ s0_1
  ·rw [if_pos c5] at H
   have c5b0 := eq_true c5
   have c5b1 : decide (0 ≤ s0_1) = true := decide_eq_true c5
   clear c5
   by_cases c6 : s0_1 ≤ (wrap64 (s0_1 + (a1.size : Int)))
   ·rw [if_pos c6] at H
    have c6b0 := eq_true c6
    have c6b1 : decide (s0_1 ≤ (wrap64 (s0_1 + (a1.size : Int)))) = true := decide_eq_true c6
    by_cases c7 : (wrap64 (s0_1 + (a1.size : Int))) ≤ (s0_0.size : Int)
    ·rw [if_pos c7] at H
     have c7b0 := eq_true c7
     have c7b1 : decide ((wrap64 (s0_1 + (a1.size : Int))) ≤ (s0_0.size : Int)) = true := decide_eq_true c7
     by_cases c8 : (s0_0.extract (s0_1 : Int).toNat ((wrap64 (s0_1 + (a1.size : Int))) : Int).toNat).toList = a1.toList
     ·rw [if_pos c8] at H
      have c8b0 : ((s0_0.extract (s0_1 : Int).toNat ((wrap64 (s0_1 + (a1.size : Int))) : Int).toNat).toList == a1.toList) = true := beq_iff_eq.mpr c8
      have c8b1 : ((s0_0.extract (s0_1 : Int).toNat ((wrap64 (s0_1 + (a1.size : Int))) : Int).toNat).toList != a1.toList) = false := bne_eq_false_iff_eq.mpr c8
      clear c8
      simp only [Option.some.injEq, Prod.mk.injEq] at H
      obtain ⟨rfl, rfl, rfl⟩ := H
      obtain ⟨HGz9, hgz9⟩ := HI0.out
      have hcz9_0 := cellS112_0 HGz9
      have hcz9_1 := cellS112_1 HGz9
      have hfz9_0 := blk_frozen HGz9 0
      have hfz9_1 := blk_frozen HGz9 1
      clear HGz9 hgz9
      go_enter Tryz.func104, Tryz.ntmps104
      go_wp2
      repeat (go_quiet (fail); try go_wp2)
      go_ret
      exact ⟨by first | rfl | (simp [errW_none, errW_some] <;> rfl) | (simp [*, errW_none, errW_some] <;> rfl), by repeat (first | (with_reducible first | exact HI0.out | apply iA | apply iN | apply i1) | exact HI0.out), by repeat (first | (with_reducible first | exact HB.out | apply bA | apply bN | apply bD | refine below_set ?_ (IsS112.ge HI0.out)) | exact HB.out), by repeat (first | (with_reducible first | exact HK.out | apply kS | apply kN) | exact HK.out)⟩
     ·rw [if_neg c8] at H
      have c8b0 : ((s0_0.extract (s0_1 : Int).toNat ((wrap64 (s0_1 + (a1.size : Int))) : Int).toNat).toList == a1.toList) = false := beq_eq_false_iff_ne.mpr c8
      have c8b1 : ((s0_0.extract (s0_1 : Int).toNat ((wrap64 (s0_1 + (a1.size : Int))) : Int).toNat).toList != a1.toList) = true := bne_iff_ne.mpr c8
      simp only [Option.some.injEq, Prod.mk.injEq] at H
      obtain ⟨rfl, rfl, rfl⟩ := H
      obtain ⟨HGz10, hgz10⟩ := HI0.out
      have hcz10_0 := cellS112_0 HGz10
      have hcz10_1 := cellS112_1 HGz10
      have hfz10_0 := blk_frozen HGz10 0
      have hfz10_1 := blk_frozen HGz10 1
      clear HGz10 hgz10
      go_enter Tryz.func104, Tryz.ntmps104
      go_wp2
      repeat (go_quiet (fail); try go_wp2)
      go_ret
      exact ⟨by first | rfl | (simp [errW_none, errW_some] <;> rfl) | (simp [*, errW_none, errW_some] <;> rfl), by repeat (first | (with_reducible first | exact HI0.out | apply iA | apply iN | apply i1) | exact HI0.out), by repeat (first | (with_reducible first | exact HB.out | apply bA | apply bN | apply bD | refine below_set ?_ (IsS112.ge HI0.out)) | exact HB.out), by repeat (first | (with_reducible first | exact HK.out | apply kS | apply kN) | exact HK.out)⟩
    ·rw [if_neg c7] at H
     exact absurd H (by simp)
   ·rw [if_neg c6] at H
    exact absurd H (by simp)
  ·rw [if_neg c5] at H
   exact absurd H (by simp)
mutual
def spec_reader_members.l0 : Nat → List (S115) → List (S78) → ByteArray → Int → Option ((List (S115)) × (List (S78)) × Bool × ByteArray × Int)
 | 0, _, _, _, _ => none
 | k + 1, x5, x6, x1000, x1001 => (spec_reader_here.f x1000 x1001).bind fun bt157 => (if bt157.1 = 34 then ((spec_reader_quoted.f k bt157.2.1 bt157.2.2).bind fun bt160 => (spec_reader_members.j1 k x5 x6 x1001 (!bt160.1) bt160.2.1 bt160.2.2)) else (spec_reader_members.j1 k x5 x6 x1001 true bt157.2.1 bt157.2.2))
def spec_reader_members.j1 : Nat → List (S115) → List (S78) → Int → Bool → ByteArray → Int → Option ((List (S115)) × (List (S78)) × Bool × ByteArray × Int)
 | 0, _, _, _, _, _, _ => none
 | k + 1, x5, x6, x7, x32, x1000, x1001 => if x32 = true then (some (([] : List (S115)), ([] : List (S78)), false, x1000, x1001)) else (if x5.length < 8796093022208 then ((some (x5 ++ [(⟨x7, x1001⟩ : S115)] : List (S115))).bind fun y163 => ((spec_reader_blanks.f k x1000 x1001).bind fun bt166 => ((spec_reader_take.f bt166.1 bt166.2 58).bind fun bt168 => (if bt168.1 = true then ((spec_reader_blanks.f k bt168.2.1 bt168.2.2).bind fun bt171 => ((spec_reader_value.f k bt171.1 bt171.2).bind fun bt173 => (if bt173.2.2.2.2.2.1 = true then (if x6.length < 1954687338268 then ((some (x6 ++ [(⟨bt173.1, bt173.2.1, bt173.2.2.1, bt173.2.2.2.1, bt173.2.2.2.2.1⟩ : S78)] : List (S78))).bind fun y186 => ((spec_reader_blanks.f k bt173.2.2.2.2.2.2.1 bt173.2.2.2.2.2.2.2).bind fun bt189 => ((spec_reader_take.f bt189.1 bt189.2 125).bind fun bt191 => (if bt191.1 = true then (some (y163, y186, true, bt191.2.1, bt191.2.2)) else ((spec_reader_take.f bt191.2.1 bt191.2.2 44).bind fun bt194 => (if bt194.1 = true then ((spec_reader_blanks.f k bt194.2.1 bt194.2.2).bind fun bt197 => (spec_reader_members.l0 k y163 y186 bt197.1 bt197.2)) else (some (([] : List (S115)), ([] : List (S78)), false, bt194.2.1, bt194.2.2)))))))) else (none)) else (some (([] : List (S115)), ([] : List (S78)), false, bt173.2.2.2.2.2.2.1, bt173.2.2.2.2.2.2.2))))) else (some (([] : List (S115)), ([] : List (S78)), false, bt168.2.1, bt168.2.2)))))) else (none))
def spec_reader_members.f : Nat → ByteArray → Int → Option ((List (S115)) × (List (S78)) × Bool × ByteArray × Int)
 | 0, _, _ => none
 | k + 1, s0_0, s0_1 => (spec_reader_blanks.f k s0_0 (wrap64 (s0_1 + 1))).bind fun bt152 => ((spec_reader_take.f bt152.1 bt152.2 125).bind fun bt154 => (if bt154.1 = true then (some (([] : List (S115)), ([] : List (S78)), true, bt154.2.1, bt154.2.2)) else (spec_reader_members.l0 k ([] : List (S115)) ([] : List (S78)) bt154.2.1 bt154.2.2)))
def spec_reader_elements.l0 : Nat → List (S78) → ByteArray → Int → Option ((List (S78)) × Bool × ByteArray × Int)
 | 0, _, _, _ => none
 | k + 1, x4, x1000, x1001 => (spec_reader_value.f k x1000 x1001).bind fun bt204 => (if bt204.2.2.2.2.2.1 = true then (if x4.length < 1954687338268 then ((some (x4 ++ [(⟨bt204.1, bt204.2.1, bt204.2.2.1, bt204.2.2.2.1, bt204.2.2.2.2.1⟩ : S78)] : List (S78))).bind fun y217 => ((spec_reader_blanks.f k bt204.2.2.2.2.2.2.1 bt204.2.2.2.2.2.2.2).bind fun bt220 => ((spec_reader_take.f bt220.1 bt220.2 93).bind fun bt222 => (if bt222.1 = true then (some (y217, true, bt222.2.1, bt222.2.2)) else ((spec_reader_take.f bt222.2.1 bt222.2.2 44).bind fun bt225 => (if bt225.1 = true then ((spec_reader_blanks.f k bt225.2.1 bt225.2.2).bind fun bt228 => (spec_reader_elements.l0 k y217 bt228.1 bt228.2)) else (some (([] : List (S78)), false, bt225.2.1, bt225.2.2)))))))) else (none)) else (some (([] : List (S78)), false, bt204.2.2.2.2.2.2.1, bt204.2.2.2.2.2.2.2)))
def spec_reader_elements.f : Nat → ByteArray → Int → Option ((List (S78)) × Bool × ByteArray × Int)
 | 0, _, _ => none
 | k + 1, s0_0, s0_1 => (spec_reader_blanks.f k s0_0 (wrap64 (s0_1 + 1))).bind fun bt199 => ((spec_reader_take.f bt199.1 bt199.2 93).bind fun bt201 => (if bt201.1 = true then (some (([] : List (S78)), true, bt201.2.1, bt201.2.2)) else (spec_reader_elements.l0 k ([] : List (S78)) bt201.2.1 bt201.2.2)))
def spec_reader_value.j0 : Nat → Bool → Bool → ByteArray → Int → Int → Int → Int → Option (Int × Int × Int × (List (S115)) × (List (S78)) × Bool × ByteArray × Int)
 | 0, _, _, _, _, _, _, _ => none
 | k + 1, x5, x42, x1000, x1001, x232000, x232001, x232002 => if x42 = true then ((spec_reader_number.f k x1000 x1001).bind fun bt253 => (some (3, x232001, bt253.2.2, ([] : List (S115)), ([] : List (S78)), bt253.1, bt253.2.1, bt253.2.2))) else ((spec_reader_word.f x1000 x1001 (⟨#[110, 117, 108, 108]⟩ : ByteArray)).bind fun bt256 => (if bt256.1 = true then (some (0, x232001, bt256.2.2, ([] : List (S115)), ([] : List (S78)), x5, bt256.2.1, bt256.2.2)) else ((spec_reader_word.f bt256.2.1 bt256.2.2 (⟨#[102, 97, 108, 115, 101]⟩ : ByteArray)).bind fun bt259 => (if bt259.1 = true then (some (1, x232001, bt259.2.2, ([] : List (S115)), ([] : List (S78)), x5, bt259.2.1, bt259.2.2)) else ((spec_reader_word.f bt259.2.1 bt259.2.2 (⟨#[116, 114, 117, 101]⟩ : ByteArray)).bind fun bt262 => (if bt262.1 = true then (some (2, x232001, bt262.2.2, ([] : List (S115)), ([] : List (S78)), x5, bt262.2.1, bt262.2.2)) else (some (x232000, x232001, bt262.2.2, ([] : List (S115)), ([] : List (S78)), false, bt262.2.1, bt262.2.2))))))))
def spec_reader_value.f : Nat → ByteArray → Int → Option (Int × Int × Int × (List (S115)) × (List (S78)) × Bool × ByteArray × Int)
 | 0, _, _ => none
 | k + 1, s0_0, s0_1 => (spec_reader_here.f s0_0 s0_1).bind fun bt232 => (if bt232.1 = 123 then ((spec_reader_members.f k bt232.2.1 bt232.2.2).bind fun bt235 => (some (6, s0_1, bt235.2.2.2.2, bt235.1, bt235.2.1, bt235.2.2.1, bt235.2.2.2.1, bt235.2.2.2.2))) else (if bt232.1 = 91 then ((spec_reader_elements.f k bt232.2.1 bt232.2.2).bind fun bt244 => (some (5, s0_1, bt244.2.2.2, ([] : List (S115)), bt244.1, bt244.2.1, bt244.2.2.1, bt244.2.2.2))) else (if bt232.1 = 34 then ((spec_reader_quoted.f k bt232.2.1 bt232.2.2).bind fun bt250 => (some (4, s0_1, bt250.2.2, ([] : List (S115)), ([] : List (S78)), bt250.1, bt250.2.1, bt250.2.2))) else (if bt232.1 = 45 then (spec_reader_value.j0 k true true bt232.2.1 bt232.2.2 0 s0_1 0) else (if 48 ≤ bt232.1 then (spec_reader_value.j0 k true (decide (bt232.1 ≤ 57)) bt232.2.1 bt232.2.2 0 s0_1 0) else (spec_reader_value.j0 k true false bt232.2.1 bt232.2.2 0 s0_1 0))))))
end
@[reducible] def spec_reader_members.Spec (k : Nat) : Prop := ∀ (g : Nat) (s0_0 : ByteArray) (s0_1 : Int) (r1 : List (S115)) (r2 : List (S78)) (r3 : Bool) (r4 : ByteArray) (r5 : Int) (w0 w : World) (hI : IsS112 w0 w g s0_0 s0_1) (hB : Below w0.heap.size w0 w) (h : spec_reader_members.f k s0_0 s0_1 = some (r1, r2, r3, r4, r5)),
  Calls Tryz.prog 101 #[.pointer (some ⟨g, 0, none⟩)] w fun e w' => ∃ v0_ v1_ : Value, e = .returned (.tuple #[v0_, v1_, .bool r3]) ∧ Kd.R k115 115 w' w.heap.size (fun _ => True) v0_ r1 ∧ Kd.R k78 78 w' w.heap.size (fun k_ => some k_ ≠ (v0_ : Value).ownBlock) v1_ r2 ∧ IsS112 w0 w' g r4 r5 ∧ Below w0.heap.size w0 w' ∧ KeepBut w w' g none
@[reducible] def spec_reader_elements.Spec (k : Nat) : Prop := ∀ (g : Nat) (s0_0 : ByteArray) (s0_1 : Int) (r1 : List (S78)) (r2 : Bool) (r3 : ByteArray) (r4 : Int) (w0 w : World) (hI : IsS112 w0 w g s0_0 s0_1) (hB : Below w0.heap.size w0 w) (h : spec_reader_elements.f k s0_0 s0_1 = some (r1, r2, r3, r4)),
  Calls Tryz.prog 102 #[.pointer (some ⟨g, 0, none⟩)] w fun e w' => ∃ v0_ : Value, e = .returned (.tuple #[v0_, .bool r2]) ∧ Kd.R k78 78 w' w.heap.size (fun _ => True) v0_ r1 ∧ IsS112 w0 w' g r3 r4 ∧ Below w0.heap.size w0 w' ∧ KeepBut w w' g none
@[reducible] def spec_reader_value.Spec (k : Nat) : Prop := ∀ (g : Nat) (s0_0 : ByteArray) (s0_1 : Int) (r1 : Int) (r2 : Int) (r3 : Int) (r4 : List (S115)) (r5 : List (S78)) (r6 : Bool) (r7 : ByteArray) (r8 : Int) (w0 w : World) (hI : IsS112 w0 w g s0_0 s0_1) (hB : Below w0.heap.size w0 w) (h : spec_reader_value.f k s0_0 s0_1 = some (r1, r2, r3, r4, r5, r6, r7, r8)),
  Calls Tryz.prog 73 #[.pointer (some ⟨g, 0, none⟩)] w fun e w' => ∃ v3_ v4_ : Value, e = .returned (.tuple #[.agg #[.int .i64 r1, .int .i64 r2, .int .i64 r3, v3_, v4_], .bool r6]) ∧ Kd.R k115 115 w' w.heap.size (fun _ => True) v3_ r4 ∧ Kd.R k78 78 w' w.heap.size (fun k_ => some k_ ≠ (v3_ : Value).ownBlock) v4_ r5 ∧ IsS112 w0 w' g r7 r8 ∧ Below w0.heap.size w0 w' ∧ KeepBut w w' g none
end Go.Proofs.YtgiioglmkogpkaaGreatDoor.M
namespace Go.Proofs.YtgiioglmkogpkaaGreatDoor.L
open Go.RowKit Go.Proofs.YtgiioglmkogpkaaGreatDoorW.PrintWords Go.Proofs.YtgiioglmkogpkaaGreatDoorW.PrintLast Go.Proofs.YtgiioglmkogpkaaGreatDoorW.PrintMore
open M
theorem w64 {x : Int} (h0 : -1000000000000 ≤ x) (h1 : x ≤ 1000000000000) : wrap64 x = x := by unfold wrap64; omega
def isB (x : Int) : Prop := x = 32 ∨ x = 9 ∨ x = 10 ∨ x = 13
instance (x : Int) : Decidable (isB x) := by unfold isB; infer_instance
theorem blank_f (c : Int) : spec_Blank.f c = some (decide (isB c)) := by
 unfold spec_Blank.f isB
 by_cases h1 : c = 32
 ·simp [h1]
 by_cases h2 : c = 9
 ·simp [h2]
 by_cases h3 : c = 10
 ·simp [h3]
 simp [h1, h2, h3]
 by_cases h4 : c = 13
 ·simp [h4]
 ·simp [h4]
theorem blanks_ev (s : ByteArray) (hz : s.size ≤ 65536) : ∀ (d : Nat) (p : Int), 0 ≤ p → p + d = s.size →
  ∃ e, Ev (fun k => spec_reader_blanks.l0 k s p) (s, e) ∧ p ≤ e ∧ e ≤ s.size ∧ (∀ i, p ≤ i → i < e → isB (bt s i)) ∧ (e < s.size → ¬ isB (bt s e)) := by
 intro d
 induction d with
 | zero =>
  intro p h0 h1
  exact ⟨p, Ev.step (f := fun _ => some (s, p)) (fun k => by simp only [spec_reader_blanks.l0]; rw [if_neg (by omega)]) (Ev.now _), by omega, by omega, fun i a b => by omega, fun h => by omega⟩
 | succ d ih =>
  intro p h0 h1
  by_cases hb : isB (bt s p)
  ·obtain ⟨e, he, e0, e1, e2, e3⟩ := ih (p + 1) (by omega) (by omega)
   refine ⟨e, Ev.step (f := fun k => spec_reader_blanks.l0 k s (p + 1)) (fun k => ?_) he, by omega, e1, fun i a b => ?_, e3⟩
   ·simp only [spec_reader_blanks.l0]; rw [if_pos (by omega), if_pos h0, blank_f]; simp only [Option.bind_some, hb, decide_true, if_true]; rw [w64 (by omega) (by omega)]
   ·by_cases e : i = p
    ·subst e; exact hb
    ·exact e2 i (by omega) b
  ·refine ⟨p, Ev.step (f := fun _ => some (s, p)) (fun k => ?_) (Ev.now _), by omega, by omega, fun i a b => by omega, fun _ => hb⟩
   simp only [spec_reader_blanks.l0]; rw [if_pos (by omega), if_pos h0, blank_f]; simp [hb]
theorem blanksf_ev (s : ByteArray) (hz : s.size ≤ 65536) (p : Int) (h0 : 0 ≤ p) (h1 : p ≤ s.size) :
  ∃ e, Ev (fun k => spec_reader_blanks.f k s p) (s, e) ∧ p ≤ e ∧ e ≤ s.size ∧ (∀ i, p ≤ i → i < e → isB (bt s i)) ∧ (e < s.size → ¬ isB (bt s e)) :=
 blanks_ev s hz ((s.size : Int) - p).toNat p h0 (by omega)
def hr (s : ByteArray) (p : Int) : Int := if p < (s.size : Int) then bt s p else 0
theorem here_f (s : ByteArray) (p : Int) (h0 : 0 ≤ p) : spec_reader_here.f s p = some (hr s p, s, p) := by
 unfold spec_reader_here.f hr
 by_cases h : p < (s.size : Int)
 ·rw [if_pos h, if_pos h0, if_pos h]
 ·rw [if_neg h, if_neg h]
theorem take_f (s : ByteArray) (p c : Int) (h0 : 0 ≤ p) (h1 : p ≤ s.size) (hz : s.size ≤ 65536) :
  spec_reader_take.f s p c = some (decide (p < (s.size : Int) ∧ bt s p = c), s, if p < (s.size : Int) ∧ bt s p = c then p + 1 else p) := by
 unfold spec_reader_take.f
 by_cases h : p < (s.size : Int)
 ·rw [if_pos h, if_pos h0]
  by_cases e : bt s p = c
  ·rw [if_pos e, if_pos ⟨h, e⟩, w64 (by omega) (by omega)]; simp [h, e]
  ·rw [if_neg e, if_neg (fun q => e q.2)]; simp [e]
 ·rw [if_neg h, if_neg (fun q => h q.1)]; simp [h]
theorem take_yes (s : ByteArray) (p c : Int) (h0 : 0 ≤ p) (hz : s.size ≤ 65536) (h : p < (s.size : Int)) (e : bt s p = c) : spec_reader_take.f s p c = some (true, s, p + 1) := by
 rw [take_f s p c h0 (by omega) hz, if_pos ⟨h, e⟩]; simp [h, e]
theorem take_no (s : ByteArray) (p c : Int) (h0 : 0 ≤ p) (h1 : p ≤ s.size) (hz : s.size ≤ 65536) (h : ¬ (p < (s.size : Int) ∧ bt s p = c)) : spec_reader_take.f s p c = some (false, s, p) := by
 rw [take_f s p c h0 h1 hz, if_neg h]; simp only [Option.some.injEq, Prod.mk.injEq, and_self, and_true]; exact decide_eq_false h
def dig (x : Int) : Prop := 48 ≤ x ∧ x ≤ 57
instance (x : Int) : Decidable (dig x) := by unfold dig; infer_instance
theorem digl_ev (s : ByteArray) (hz : s.size ≤ 65536) (b : Int) (hb : 0 ≤ b) : ∀ (d : Nat) (p : Int), b ≤ p → p + d = s.size →
  ∃ e, Ev (fun k => spec_reader_digits.l0 k b (hr s p) s p) (decide (e > b), s, e) ∧ p ≤ e ∧ e ≤ s.size ∧ (∀ i, p ≤ i → i < e → dig (bt s i)) ∧ (e < s.size → ¬ dig (bt s e)) := by
 intro d
 induction d with
 | zero =>
  intro p h0 h1
  have hh : hr s p = 0 := by unfold hr; rw [if_neg (by omega)]
  refine ⟨p, Ev.step (f := fun _ => some (decide (p > b), s, p)) (fun k => ?_) (Ev.now _), by omega, by omega, fun i a b => by omega, fun h => by omega⟩
  rw [hh]; simp only [spec_reader_digits.l0]; rw [if_neg (by omega)]
 | succ d ih =>
  intro p h0 h1
  have hh : hr s p = bt s p := by unfold hr; rw [if_pos (by omega)]
  by_cases hd : dig (bt s p)
  ·obtain ⟨e, he, e0, e1, e2, e3⟩ := ih (p + 1) (by omega) (by omega)
   refine ⟨e, Ev.step (f := fun k => spec_reader_digits.l0 k b (hr s (p + 1)) s (p + 1)) (fun k => ?_) he, by omega, e1, fun i a b => ?_, e3⟩
   ·rw [hh]; simp only [spec_reader_digits.l0]; rw [if_pos hd.1, if_pos hd.2, w64 (by omega) (by omega), here_f s (p + 1) (by omega)]; simp only [Option.bind_some]
   ·by_cases e : i = p
    ·subst e; exact hd
    ·exact e2 i (by omega) b
  ·refine ⟨p, Ev.step (f := fun _ => some (decide (p > b), s, p)) (fun k => ?_) (Ev.now _), by omega, by omega, fun i a b => by omega, fun _ => hd⟩
   rw [hh]; simp only [spec_reader_digits.l0]
   by_cases h48 : 48 ≤ bt s p
   ·rw [if_pos h48, if_neg (fun q => hd ⟨h48, q⟩)]
   ·rw [if_neg h48]
theorem digits_ev (s : ByteArray) (hz : s.size ≤ 65536) (p : Int) (h0 : 0 ≤ p) (h1 : p ≤ s.size) :
  ∃ e, Ev (fun k => spec_reader_digits.f k s p) (decide (e > p), s, e) ∧ p ≤ e ∧ e ≤ s.size ∧ (∀ i, p ≤ i → i < e → dig (bt s i)) ∧ (e < s.size → ¬ dig (bt s e)) := by
 obtain ⟨e, he, r⟩ := digl_ev s hz p h0 ((s.size : Int) - p).toNat p (by omega) (by omega)
 refine ⟨e, Ev.congr (fun k => ?_) he, r⟩
 simp only [spec_reader_digits.f]; rw [here_f s p h0]; simp only [Option.bind_some]
def Num (s : ByteArray) (st e : Int) : Prop := ∃ a b c, (a = st ∨ (a = st + 1 ∧ bt s st = 45)) ∧ a < b ∧ b ≤ c ∧ c ≤ e ∧ e ≤ s.size ∧
 (∀ i, a ≤ i → i < b → dig (bt s i)) ∧ (c = b ∨ (bt s b = 46 ∧ b + 1 < c ∧ ∀ i, b + 1 ≤ i → i < c → dig (bt s i))) ∧
 (c = e ∨ ((bt s c = 101 ∨ bt s c = 69) ∧ ∃ d, (d = c + 1 ∨ (d = c + 2 ∧ (bt s (c + 1) = 43 ∨ bt s (c + 1) = 45))) ∧ d < e ∧ ∀ i, d ≤ i → i < e → dig (bt s i)))
def RdTo (s : ByteArray) (g : Nat → Option (Bool × ByteArray × Int)) (p : Int) (G : Int → Prop) : Prop := ∃ ok e, Ev g (ok, s, e) ∧ p ≤ e ∧ e ≤ s.size ∧ (ok = true → G e)
theorem num_j2 (s : ByteArray) (hz : s.size ≤ 65536) (c p : Int) (x : Bool) (h0 : 0 ≤ p) (h1 : p ≤ s.size) (hx : x = true → p = c + 1 ∧ (bt s c = 101 ∨ bt s c = 69)) (hx0 : x = false → p = c) :
  RdTo s (fun k => spec_reader_number.j2 k x s p) p (fun e => c = e ∨ ((bt s c = 101 ∨ bt s c = 69) ∧ ∃ d, (d = c + 1 ∨ (d = c + 2 ∧ (bt s (c + 1) = 43 ∨ bt s (c + 1) = 45))) ∧ d < e ∧ ∀ i, d ≤ i → i < e → dig (bt s i))) := by
 cases x with
 | false =>
  refine ⟨true, p, Ev.step (f := fun _ => some (true, s, p)) (fun k => by simp only [spec_reader_number.j2]; rw [if_neg (by simp)]) (Ev.now _), by omega, h1, fun _ => .inl (hx0 rfl).symm⟩
 | true =>
  obtain ⟨rfl, hc⟩ := hx rfl
  by_cases h43 : c + 1 < (s.size : Int) ∧ bt s (c + 1) = 43
  ·obtain ⟨e, he, e0, e1, e2, e3⟩ := digits_ev s hz (c + 1 + 1) (by omega) (by omega)
   refine ⟨_, e, Ev.step (f := fun k => (spec_reader_digits.f k s (c + 1 + 1)).bind fun t => some (t.1, t.2.1, t.2.2)) (fun k => ?_) (Ev.bind he (Ev.now _)), by omega, e1, fun hh => .inr ⟨hc, c + 2, .inr ⟨rfl, .inl h43.2⟩, ?_, fun i a b => e2 i (by omega) b⟩⟩
   ·simp only [spec_reader_number.j2]; rw [if_pos trivial, take_yes s _ _ h0 hz h43.1 h43.2]; simp only [Option.bind_some, if_true]
   ·simp at hh; omega
  ·by_cases h45 : c + 1 < (s.size : Int) ∧ bt s (c + 1) = 45
   ·obtain ⟨e, he, e0, e1, e2, e3⟩ := digits_ev s hz (c + 1 + 1) (by omega) (by omega)
    refine ⟨_, e, Ev.step (f := fun k => (spec_reader_digits.f k s (c + 1 + 1)).bind fun t => some (t.1, t.2.1, t.2.2)) (fun k => ?_) (Ev.bind he (Ev.now _)), by omega, e1, fun hh => .inr ⟨hc, c + 2, .inr ⟨rfl, .inr h45.2⟩, ?_, fun i a b => e2 i (by omega) b⟩⟩
    ·simp only [spec_reader_number.j2]; rw [if_pos trivial, take_no s _ _ h0 h1 hz h43]; simp only [Option.bind_some, if_true, Bool.false_eq_true, if_false]; rw [take_yes s _ _ h0 hz h45.1 h45.2]; simp only [Option.bind_some]
    ·simp at hh; omega
   ·obtain ⟨e, he, e0, e1, e2, e3⟩ := digits_ev s hz (c + 1) (by omega) (by omega)
    refine ⟨_, e, Ev.step (f := fun k => (spec_reader_digits.f k s (c + 1)).bind fun t => some (t.1, t.2.1, t.2.2)) (fun k => ?_) (Ev.bind he (Ev.now _)), by omega, e1, fun hh => .inr ⟨hc, c + 1, .inl rfl, ?_, fun i a b => e2 i (by omega) b⟩⟩
    ·simp only [spec_reader_number.j2]; rw [if_pos trivial, take_no s _ _ h0 h1 hz h43]; simp only [Option.bind_some, if_true, Bool.false_eq_true, if_false]; rw [take_no s _ _ h0 h1 hz h45]; simp only [Option.bind_some]
    ·simp at hh; omega
theorem RdTo.mono {s : ByteArray} {g : Nat → Option (Bool × ByteArray × Int)} {p p' : Int} {G G' : Int → Prop} (h : RdTo s g p G) (hp : p' ≤ p) (hG : ∀ e, p ≤ e → e ≤ s.size → G e → G' e) : RdTo s g p' G' := by
 obtain ⟨ok, e, h1, h2, h3, h4⟩ := h
 exact ⟨ok, e, h1, by omega, h3, fun q => hG e h2 h3 (h4 q)⟩
theorem RdTo.step {s : ByteArray} {g f : Nat → Option (Bool × ByteArray × Int)} {p : Int} {G : Int → Prop} (hs : ∀ k, g (k + 1) = f k) (h : RdTo s f p G) : RdTo s g p G := by
 obtain ⟨ok, e, h1, h2⟩ := h
 exact ⟨ok, e, Ev.step hs h1, h2⟩
theorem RdTo.congr {s : ByteArray} {g f : Nat → Option (Bool × ByteArray × Int)} {p : Int} {G : Int → Prop} (hs : ∀ k, g k = f k) (h : RdTo s f p G) : RdTo s g p G := by
 obtain ⟨ok, e, h1, h2⟩ := h
 exact ⟨ok, e, Ev.congr hs h1, h2⟩
theorem RdTo.bind {α : Type} {s : ByteArray} {g : Nat → Option α} {f : Nat → α → Option (Bool × ByteArray × Int)} {a : α} {p : Int} {G : Int → Prop} (hg : Ev g a) (h : RdTo s (fun k => f k a) p G) : RdTo s (fun k => (g k).bind (f k)) p G := by
 obtain ⟨ok, e, h1, h2⟩ := h
 exact ⟨ok, e, Ev.bind hg h1, h2⟩
theorem RdTo.no {s : ByteArray} {g : Nat → Option (Bool × ByteArray × Int)} {p e : Int} {G : Int → Prop} (hs : Ev g (false, s, e)) (h0 : p ≤ e) (h1 : e ≤ s.size) : RdTo s g p G := ⟨false, e, hs, h0, h1, fun q => by cases q⟩
abbrev ExpTo (s : ByteArray) (c e : Int) : Prop := c = e ∨ ((bt s c = 101 ∨ bt s c = 69) ∧ ∃ d, (d = c + 1 ∨ (d = c + 2 ∧ (bt s (c + 1) = 43 ∨ bt s (c + 1) = 45))) ∧ d < e ∧ ∀ i, d ≤ i → i < e → dig (bt s i))
theorem num_j1 (s : ByteArray) (hz : s.size ≤ 65536) (p : Int) (x : Bool) (h0 : 0 ≤ p) (h1 : p ≤ s.size) :
  RdTo s (fun k => spec_reader_number.j1 k x s p) p (fun e => x = false ∧ ExpTo s p e) := by
 cases x with
 | true => exact RdTo.no (Ev.step (f := fun _ => some (false, s, p)) (fun k => by simp only [spec_reader_number.j1]; rw [if_pos trivial]) (Ev.now _)) (by omega) h1
 | false =>
  by_cases h101 : p < (s.size : Int) ∧ bt s p = 101
  ·refine RdTo.step (f := fun k => spec_reader_number.j2 k true s (p + 1)) (fun k => ?_) ((num_j2 s hz p (p + 1) true (by omega) (by omega) (fun _ => ⟨rfl, .inl h101.2⟩) (by simp)).mono (by omega) (fun e _ _ h => ⟨rfl, h⟩))
   simp only [spec_reader_number.j1]; rw [if_neg (by simp), take_yes s _ _ h0 hz h101.1 h101.2]; simp only [Option.bind_some, if_true]
  ·by_cases h69 : p < (s.size : Int) ∧ bt s p = 69
   ·refine RdTo.step (f := fun k => spec_reader_number.j2 k true s (p + 1)) (fun k => ?_) ((num_j2 s hz p (p + 1) true (by omega) (by omega) (fun _ => ⟨rfl, .inr h69.2⟩) (by simp)).mono (by omega) (fun e _ _ h => ⟨rfl, h⟩))
    simp only [spec_reader_number.j1]; rw [if_neg (by simp), take_no s _ _ h0 h1 hz h101]; simp only [Option.bind_some, Bool.false_eq_true, if_false]; rw [take_yes s _ _ h0 hz h69.1 h69.2]; simp only [Option.bind_some]
   ·refine RdTo.step (f := fun k => spec_reader_number.j2 k false s p) (fun k => ?_) ((num_j2 s hz p p false (by omega) (by omega) (by simp) (fun _ => rfl)).mono (by omega) (fun e _ _ h => ⟨rfl, h⟩))
    simp only [spec_reader_number.j1]; rw [if_neg (by simp), take_no s _ _ h0 h1 hz h101]; simp only [Option.bind_some, Bool.false_eq_true, if_false]; rw [take_no s _ _ h0 h1 hz h69]; simp only [Option.bind_some]
abbrev FracTo (s : ByteArray) (b c : Int) : Prop := c = b ∨ (bt s b = 46 ∧ b + 1 < c ∧ ∀ i, b + 1 ≤ i → i < c → dig (bt s i))
theorem num_j0 (s : ByteArray) (hz : s.size ≤ 65536) (p : Int) (x : Bool) (h0 : 0 ≤ p) (h1 : p ≤ s.size) :
  RdTo s (fun k => spec_reader_number.j0 k x s p) p (fun e => x = false ∧ ∃ c, p ≤ c ∧ c ≤ e ∧ FracTo s p c ∧ ExpTo s c e) := by
 cases x with
 | true => exact RdTo.no (Ev.step (f := fun _ => some (false, s, p)) (fun k => by simp only [spec_reader_number.j0]; rw [if_pos trivial]) (Ev.now _)) (by omega) h1
 | false =>
  by_cases h46 : p < (s.size : Int) ∧ bt s p = 46
  ·obtain ⟨e, he, e0, e1, e2, e3⟩ := digits_ev s hz (p + 1) (by omega) (by omega)
   refine RdTo.step (f := fun k => (spec_reader_digits.f k s (p + 1)).bind fun t => spec_reader_number.j1 k (!t.1) t.2.1 t.2.2) (fun k => ?_) (RdTo.bind he ?_)
   ·simp only [spec_reader_number.j0]; rw [if_neg (by simp), take_yes s _ _ h0 hz h46.1 h46.2]; simp only [Option.bind_some, if_true]
   ·refine (num_j1 s hz e (!decide (e > p + 1)) (by omega) e1).mono (by omega) (fun e' q0 q1 h => ⟨rfl, e, by omega, q0, .inr ⟨h46.2, ?_, fun i a b => e2 i a b⟩, h.2⟩)
    have := h.1
    simp at this
    omega
  ·refine RdTo.step (f := fun k => spec_reader_number.j1 k false s p) (fun k => ?_) ((num_j1 s hz p false h0 h1).mono (by omega) (fun e q0 q1 h => ⟨rfl, p, by omega, q0, .inl rfl, h.2⟩))
   simp only [spec_reader_number.j0]; rw [if_neg (by simp), take_no s _ _ h0 h1 hz h46]; simp only [Option.bind_some, Bool.false_eq_true, if_false]
theorem num_int (s : ByteArray) (hz : s.size ≤ 65536) (a : Int) (h0 : 0 ≤ a) (h1 : a ≤ s.size) :
  RdTo s (fun k => (spec_reader_take.f s a 48).bind fun t => (if t.1 = true then (spec_reader_number.j0 k false t.2.1 t.2.2) else ((spec_reader_digits.f k t.2.1 t.2.2).bind fun u => (spec_reader_number.j0 k (!u.1) u.2.1 u.2.2)))) a
   (fun e => ∃ b c, a < b ∧ b ≤ c ∧ c ≤ e ∧ (∀ i, a ≤ i → i < b → dig (bt s i)) ∧ FracTo s b c ∧ ExpTo s c e) := by
 by_cases h48 : a < (s.size : Int) ∧ bt s a = 48
 ·refine RdTo.congr (f := fun k => spec_reader_number.j0 k false s (a + 1)) (fun k => ?_) ((num_j0 s hz (a + 1) false (by omega) (by omega)).mono (by omega) (fun e q0 q1 h => ?_))
  ·rw [take_yes s _ _ h0 hz h48.1 h48.2]; simp only [Option.bind_some, if_true]
  ·obtain ⟨_, c, c0, c1, hf, he⟩ := h
   refine ⟨a + 1, c, by omega, c0, c1, fun i x y => ?_, hf, he⟩
   obtain rfl : i = a := by omega
   rw [h48.2]; exact ⟨by omega, by omega⟩
 ·obtain ⟨b, he, e0, e1, e2, e3⟩ := digits_ev s hz a h0 h1
  refine RdTo.congr (f := fun k => (spec_reader_digits.f k s a).bind fun u => (spec_reader_number.j0 k (!u.1) u.2.1 u.2.2)) (fun k => ?_) (RdTo.bind he ?_)
  ·rw [take_no s _ _ h0 h1 hz h48]; simp only [Option.bind_some, Bool.false_eq_true, if_false]
  ·refine (num_j0 s hz b (!decide (b > a)) (by omega) e1).mono (by omega) (fun e q0 q1 h => ?_)
   obtain ⟨hb, c, c0, c1, hf, he⟩ := h
   simp at hb
   exact ⟨b, c, hb, c0, c1, e2, hf, he⟩
theorem number_ev (s : ByteArray) (hz : s.size ≤ 65536) (st : Int) (h0 : 0 ≤ st) (h1 : st ≤ s.size) : RdTo s (fun k => spec_reader_number.f k s st) st (Num s st) := by
 by_cases h45 : st < (s.size : Int) ∧ bt s st = 45
 ·refine RdTo.congr (fun k => ?_) ((num_int s hz (st + 1) (by omega) (by omega)).mono (by omega) (fun e q0 q1 h => ?_))
  ·simp only [spec_reader_number.f]; rw [take_yes s _ _ h0 hz h45.1 h45.2]; simp only [Option.bind_some]
  ·obtain ⟨b, c, x1, x2, x3, x4, x5, x6⟩ := h
   exact ⟨st + 1, b, c, .inr ⟨rfl, h45.2⟩, x1, x2, x3, q1, x4, x5, x6⟩
 ·refine RdTo.congr (fun k => ?_) ((num_int s hz st h0 h1).mono (by omega) (fun e q0 q1 h => ?_))
  ·simp only [spec_reader_number.f]; rw [take_no s _ _ h0 h1 hz h45]; simp only [Option.bind_some]
  ·obtain ⟨b, c, x1, x2, x3, x4, x5, x6⟩ := h
   exact ⟨st, b, c, .inl rfl, x1, x2, x3, q1, x4, x5, x6⟩
end Go.Proofs.YtgiioglmkogpkaaGreatDoor.L
namespace Go.Proofs.YtgiioglmkogpkaaGreatDoor.L
open Go.RowKit Go.Proofs.YtgiioglmkogpkaaGreatDoorW.PrintWords Go.Proofs.YtgiioglmkogpkaaGreatDoorW.PrintLast Go.Proofs.YtgiioglmkogpkaaGreatDoorW.PrintMore
open M
def hexv (c : Int) : Option Int := if 48 ≤ c ∧ c ≤ 57 then some (c - 48) else if 97 ≤ c ∧ c ≤ 102 then some (c - 87) else if 65 ≤ c ∧ c ≤ 70 then some (c - 55) else none
theorem hexv_range {c v : Int} (h : hexv c = some v) : 0 ≤ v ∧ v ≤ 15 := by
 unfold hexv at h
 split at h
 ·simp at h; omega
 split at h
 ·simp at h; omega
 split at h
 ·simp at h; omega
 ·cases h
theorem hex_yes {c v : Int} (h : hexv c = some v) : Ev (fun k => spec_hexDigit.f k c) (v, true) := by
 unfold hexv at h
 by_cases h1 : 48 ≤ c ∧ c ≤ 57
 ·rw [if_pos h1] at h
  obtain rfl : c - 48 = v := by simpa using h
  refine Ev.congr (f := fun k => spec_hexDigit.j0 k c true) (fun k => ?_) (Ev.step (f := fun _ => some (c - 48, true)) (fun k => ?_) (Ev.now _))
  ·simp only [spec_hexDigit.f]; rw [if_pos h1.1, decide_eq_true h1.2]
  ·simp only [spec_hexDigit.j0, if_true]; rw [Int.emod_eq_of_lt (by omega) (by omega)]
 ·rw [if_neg h1] at h
  have e1 : ∀ k, spec_hexDigit.f k c = spec_hexDigit.j0 k c false := fun k => by
   simp only [spec_hexDigit.f]
   by_cases h48 : 48 ≤ c
   ·rw [if_pos h48, decide_eq_false (fun q => h1 ⟨h48, q⟩)]
   ·rw [if_neg h48]
  by_cases h2 : 97 ≤ c ∧ c ≤ 102
  ·rw [if_pos h2] at h
   obtain rfl : c - 87 = v := by simpa using h
   refine Ev.congr (f := fun k => spec_hexDigit.j0 k c false) e1 (Ev.step (f := fun k => spec_hexDigit.j1 k c true) (fun k => ?_) (Ev.step (f := fun _ => some (c - 87, true)) (fun k => ?_) (Ev.now _)))
   ·simp only [spec_hexDigit.j0, Bool.false_eq_true, if_false]; rw [if_pos h2.1, decide_eq_true h2.2]
   ·simp only [spec_hexDigit.j1, if_true]; rw [Int.emod_eq_of_lt (by omega) (by omega)]; simp only [Option.some.injEq, Prod.mk.injEq, and_true]; omega
  ·rw [if_neg h2] at h
   have e2 : ∀ k, spec_hexDigit.j0 (k + 1) c false = spec_hexDigit.j1 k c false := fun k => by
    simp only [spec_hexDigit.j0, Bool.false_eq_true, if_false]
    by_cases h97 : 97 ≤ c
    ·rw [if_pos h97, decide_eq_false (fun q => h2 ⟨h97, q⟩)]
    ·rw [if_neg h97]
   by_cases h3 : 65 ≤ c ∧ c ≤ 70
   ·rw [if_pos h3] at h
    obtain rfl : c - 55 = v := by simpa using h
    refine Ev.congr (f := fun k => spec_hexDigit.j0 k c false) e1 (Ev.step (f := fun k => spec_hexDigit.j1 k c false) e2 (Ev.step (f := fun _ => some (c - 55, true)) (fun k => ?_) (Ev.now _)))
    simp only [spec_hexDigit.j1, Bool.false_eq_true, if_false]; rw [if_pos h3.1, if_pos h3.2, Int.emod_eq_of_lt (by omega) (by omega)]; simp only [Option.some.injEq, Prod.mk.injEq, and_true]; omega
   ·rw [if_neg h3] at h; cases h
theorem hex_no {c : Int} (h : hexv c = none) : Ev (fun k => spec_hexDigit.f k c) (0, false) := by
 unfold hexv at h
 by_cases h1 : 48 ≤ c ∧ c ≤ 57
 ·rw [if_pos h1] at h; cases h
 rw [if_neg h1] at h
 by_cases h2 : 97 ≤ c ∧ c ≤ 102
 ·rw [if_pos h2] at h; cases h
 rw [if_neg h2] at h
 by_cases h3 : 65 ≤ c ∧ c ≤ 70
 ·rw [if_pos h3] at h; cases h
 refine Ev.congr (f := fun k => spec_hexDigit.j0 k c false) (fun k => ?_) (Ev.step (f := fun k => spec_hexDigit.j1 k c false) (fun k => ?_) (Ev.step (f := fun _ => some (0, false)) (fun k => ?_) (Ev.now _)))
 ·simp only [spec_hexDigit.f]
  by_cases h48 : 48 ≤ c
  ·rw [if_pos h48, decide_eq_false (fun q => h1 ⟨h48, q⟩)]
  ·rw [if_neg h48]
 ·simp only [spec_hexDigit.j0, Bool.false_eq_true, if_false]
  by_cases h97 : 97 ≤ c
  ·rw [if_pos h97, decide_eq_false (fun q => h2 ⟨h97, q⟩)]
  ·rw [if_neg h97]
 ·simp only [spec_hexDigit.j1, Bool.false_eq_true, if_false]
  by_cases h65 : 65 ≤ c
  ·rw [if_pos h65]
   rw [if_neg (fun q => h3 ⟨h65, q⟩)]
  ·rw [if_neg h65]
theorem esc_l0 (s : ByteArray) (hz : s.size ≤ 65536) : ∀ (d : Nat) (x p : Int), 0 ≤ x → x + d = 4 → 0 ≤ p → p ≤ s.size →
  RdTo s (fun k => spec_reader_escape.l0 k x s p) p (fun e => e = p + d ∧ ∀ i, p ≤ i → i < e → (hexv (bt s i)).isSome = true) := by
 intro d
 induction d with
 | zero =>
  intro x p hx hd h0 h1
  refine ⟨true, p, Ev.step (f := fun _ => some (true, s, p)) (fun k => ?_) (Ev.now _), by omega, h1, fun _ => ⟨by omega, fun i a b => by omega⟩⟩
  simp only [spec_reader_escape.l0]; rw [if_neg (by omega)]
 | succ d ih =>
  intro x p hx hd h0 h1
  refine RdTo.step (f := fun k => (spec_hexDigit.f k (hr s p)).bind fun t => (if t.2 = true then (spec_reader_escape.l0 k (wrap64 (x + 1)) s (wrap64 (p + 1))) else (some (false, s, p)))) (fun k => ?_) ?_
  ·simp only [spec_reader_escape.l0]; rw [if_pos (by omega), here_f s p h0]; simp only [Option.bind_some]
  ·cases hv : hexv (hr s p) with
   | none => exact RdTo.bind (hex_no hv) (RdTo.congr (f := fun _ => some (false, s, p)) (fun k => by simp) (RdTo.no (Ev.now _) (by omega) h1))
   | some v =>
    have hp : p < s.size := by
     by_cases q : p < (s.size : Int)
     ·exact q
     ·rw [hr, if_neg q] at hv; simp [hexv] at hv
    have hb : hr s p = bt s p := by rw [hr, if_pos hp]
    refine RdTo.bind (hex_yes hv) (RdTo.congr (f := fun k => spec_reader_escape.l0 k (x + 1) s (p + 1)) (fun k => ?_) ((ih (x + 1) (p + 1) (by omega) (by omega) (by omega) (by omega)).mono (by omega) (fun e q0 q1 h => ⟨by omega, fun i a b => ?_⟩)))
    ·simp only [if_true]; rw [w64 (by omega) (by omega), w64 (by omega) (by omega)]
    ·by_cases e : i = p
     ·subst e; rw [← hb, hv]; rfl
     ·exact h.2 i (by omega) b
def isEsc (x : Int) : Prop := x = 34 ∨ x = 92 ∨ x = 47 ∨ x = 98 ∨ x = 102 ∨ x = 110 ∨ x = 114 ∨ x = 116
instance (x : Int) : Decidable (isEsc x) := by unfold isEsc; infer_instance
theorem esc_ev (s : ByteArray) (hz : s.size ≤ 65536) (p : Int) (h0 : 0 ≤ p) (h1 : p ≤ s.size) :
  RdTo s (fun k => spec_reader_escape.f k s p) p (fun e => (isEsc (bt s p) ∧ e = p + 1) ∨ (bt s p = 117 ∧ e = p + 5 ∧ ∀ i, p + 1 ≤ i → i < p + 5 → (hexv (bt s i)).isSome = true)) := by
 by_cases hE : p < (s.size : Int) ∧ isEsc (bt s p)
 ·have hb : hr s p = bt s p := by rw [hr, if_pos hE.1]
  refine RdTo.congr (f := fun k => spec_reader_escape.j0 k (bt s p) true s p) (fun k => ?_) (RdTo.step (f := fun _ => some (true, s, p + 1)) (fun k => ?_) ⟨true, p + 1, Ev.now _, by omega, by omega, fun _ => .inl ⟨hE.2, rfl⟩⟩)
  ·simp only [spec_reader_escape.f]; rw [here_f s p h0, hb]; simp only [Option.bind_some]
   rcases hE.2 with h | h | h | h | h | h | h | h <;> simp [h]
  ·simp only [spec_reader_escape.j0, if_true]; rw [w64 (by omega) (by omega)]
 ·have hn : hr s p ≠ 34 ∧ hr s p ≠ 92 ∧ hr s p ≠ 47 ∧ hr s p ≠ 98 ∧ hr s p ≠ 102 ∧ hr s p ≠ 110 ∧ hr s p ≠ 114 ∧ hr s p ≠ 116 := by
   unfold hr
   by_cases q : p < (s.size : Int)
   ·rw [if_pos q]
    have : ¬ isEsc (bt s p) := fun h => hE ⟨q, h⟩
    unfold isEsc at this
    omega
   ·rw [if_neg q]; omega
  have hf : ∀ k, spec_reader_escape.f k s p = spec_reader_escape.j0 k (hr s p) false s p := fun k => by
   simp only [spec_reader_escape.f]; rw [here_f s p h0]; simp only [Option.bind_some]
   rw [if_neg hn.1, if_neg hn.2.1, if_neg hn.2.2.1, if_neg hn.2.2.2.1, if_neg hn.2.2.2.2.1, if_neg hn.2.2.2.2.2.1, if_neg hn.2.2.2.2.2.2.1, beq_eq_false_iff_ne.mpr hn.2.2.2.2.2.2.2]
  refine RdTo.congr hf ?_
  by_cases hu : hr s p = 117
  ·have hp : p < s.size := by
    by_cases q : p < (s.size : Int)
    ·exact q
    ·rw [hr, if_neg q] at hu; omega
   have hb : bt s p = 117 := by rw [← hu, hr, if_pos hp]
   refine RdTo.step (f := fun k => spec_reader_escape.l0 k 0 s (p + 1)) (fun k => ?_) ((esc_l0 s hz 4 0 (p + 1) (by omega) (by omega) (by omega) (by omega)).mono (by omega) (fun e q0 q1 h => .inr ⟨hb, by omega, fun i a b => h.2 i a (by omega)⟩))
   simp only [spec_reader_escape.j0, Bool.false_eq_true, if_false]; rw [if_pos hu, w64 (by omega) (by omega)]
  ·refine RdTo.step (f := fun _ => some (false, s, p)) (fun k => ?_) (RdTo.no (Ev.now _) (by omega) h1)
   simp only [spec_reader_escape.j0, Bool.false_eq_true, if_false]; rw [if_neg hu]
def hex4 (s : ByteArray) (p : Int) : Prop := ∀ i, p ≤ i → i < p + 4 → (hexv (bt s i)).isSome = true
inductive Bod (s : ByteArray) (j : Int) : Int → Prop
 | nil : Bod s j j
 | plain (i : Int) : i < j → bt s i ≠ 34 → bt s i ≠ 92 → 32 ≤ bt s i → Bod s j (i + 1) → Bod s j i
 | esc (i : Int) : i + 1 < j → bt s i = 92 → isEsc (bt s (i + 1)) → Bod s j (i + 2) → Bod s j i
 | uni (i : Int) : i + 5 < j → bt s i = 92 → bt s (i + 1) = 117 → hex4 s (i + 2) → Bod s j (i + 6) → Bod s j i
theorem Bod.le {s : ByteArray} {j i : Int} (h : Bod s j i) : i ≤ j := by
 induction h with
 | nil => omega
 | plain => omega
 | esc => omega
 | uni => omega
theorem quo_l0 (s : ByteArray) (hz : s.size ≤ 65536) : ∀ (n : Nat) (p : Int), 0 ≤ p → p ≤ s.size → (s.size : Int) - p < n →
  RdTo s (fun k => spec_reader_quoted.l0 k s p) p (fun e => ∃ j, e = j + 1 ∧ p ≤ j ∧ bt s j = 34 ∧ Bod s j p) := by
 intro n
 induction n with
 | zero => intro p h0 h1 h2; omega
 | succ n ih =>
  intro p h0 h1 h2
  by_cases hp : p < (s.size : Int)
  ·have hb := bt_range s p
   by_cases c34 : bt s p = 34
   ·refine RdTo.step (f := fun _ => some (true, s, p + 1)) (fun k => ?_) ⟨true, p + 1, Ev.now _, by omega, by omega, fun _ => ⟨p, rfl, by omega, c34, .nil⟩⟩
    simp only [spec_reader_quoted.l0]; rw [if_pos hp, if_pos h0, if_pos c34, w64 (by omega) (by omega)]
   ·by_cases c32 : bt s p < 32
    ·refine RdTo.step (f := fun _ => some (false, s, p + 1)) (fun k => ?_) (RdTo.no (Ev.now _) (by omega) (by omega))
     simp only [spec_reader_quoted.l0]; rw [if_pos hp, if_pos h0, if_neg c34, if_pos c32, w64 (by omega) (by omega)]
    ·by_cases c92 : bt s p = 92
     ·refine RdTo.step (f := fun k => (spec_reader_escape.f k s (p + 1)).bind fun t => (if t.1 = true then (spec_reader_quoted.l0 k t.2.1 t.2.2) else (some (false, t.2.1, t.2.2)))) (fun k => ?_) ?_
      ·simp only [spec_reader_quoted.l0]; rw [if_pos hp, if_pos h0, if_neg c34, if_neg c32, if_pos c92, w64 (by omega) (by omega)]
      ·obtain ⟨ok, e, he, e0, e1, hG⟩ := esc_ev s hz (p + 1) (by omega) (by omega)
       refine RdTo.bind he ?_
       cases ok with
       | false => exact RdTo.congr (f := fun _ => some (false, s, e)) (fun k => by simp) (RdTo.no (Ev.now _) (by omega) e1)
       | true =>
        refine RdTo.congr (f := fun k => spec_reader_quoted.l0 k s e) (fun k => by simp) ((ih e (by omega) e1 (by omega)).mono (by omega) (fun e' q0 q1 h => ?_))
        obtain ⟨j, r1, r2, r3, r4⟩ := h
        refine ⟨j, r1, by omega, r3, ?_⟩
        rcases hG rfl with ⟨g1, rfl⟩ | ⟨g1, rfl, g3⟩
        ·exact .esc p (by omega) c92 g1 (by rw [show p + 2 = p + 1 + 1 by omega]; exact r4)
        ·exact .uni p (by omega) c92 g1 (fun i a b => g3 i (by omega) (by omega)) (by rw [show p + 6 = p + 1 + 5 by omega]; exact r4)
     ·refine RdTo.step (f := fun k => spec_reader_quoted.l0 k s (p + 1)) (fun k => ?_) ((ih (p + 1) (by omega) (by omega) (by omega)).mono (by omega) (fun e' q0 q1 h => ?_))
      ·simp only [spec_reader_quoted.l0]; rw [if_pos hp, if_pos h0, if_neg c34, if_neg c32, if_neg c92, w64 (by omega) (by omega)]
      ·obtain ⟨j, r1, r2, r3, r4⟩ := h
       exact ⟨j, r1, by omega, r3, .plain p (by omega) c34 c92 (by omega) r4⟩
  ·refine RdTo.step (f := fun _ => some (false, s, p)) (fun k => ?_) (RdTo.no (Ev.now _) (by omega) h1)
   simp only [spec_reader_quoted.l0]; rw [if_neg hp]
def Str (s : ByteArray) (p e : Int) : Prop := 0 ≤ p ∧ bt s p = 34 ∧ ∃ j, e = j + 1 ∧ p + 1 ≤ j ∧ e ≤ s.size ∧ bt s j = 34 ∧ Bod s j (p + 1)
theorem quoted_ev (s : ByteArray) (hz : s.size ≤ 65536) (p : Int) (h0 : 0 ≤ p) (h1 : p < s.size) (h34 : bt s p = 34) : RdTo s (fun k => spec_reader_quoted.f k s p) (p + 1) (Str s p) := by
 refine RdTo.congr (f := fun k => spec_reader_quoted.l0 k s (p + 1)) (fun k => ?_) ((quo_l0 s hz ((s.size : Int) - p + 1).toNat (p + 1) (by omega) (by omega) (by omega)).mono (by omega) (fun e q0 q1 h => ?_))
 ·simp only [spec_reader_quoted.f]; rw [w64 (by omega) (by omega)]
 ·obtain ⟨j, r1, r2, r3, r4⟩ := h
  exact ⟨h0, h34, j, r1, r2, q1, r3, r4⟩
def Wd (s : ByteArray) (p e : Int) (l : ByteArray) : Prop := e = p + l.size ∧ e ≤ s.size ∧ (s.extract p.toNat e.toNat).toList = l.toList
theorem word_ev (s : ByteArray) (hz : s.size ≤ 65536) (p : Int) (l : ByteArray) (h0 : 0 ≤ p) (h1 : p ≤ s.size) (hl : l.size ≤ 10) :
  (spec_reader_word.f s p l = some (true, s, p + l.size) ∧ Wd s p (p + l.size) l) ∨ spec_reader_word.f s p l = some (false, s, p) := by
 unfold spec_reader_word.f
 by_cases c : (s.size : Int) - p < l.size
 ·right; rw [w64 (by omega) (by omega), if_pos c]
 ·rw [w64 (x := (s.size : Int) - p) (by omega) (by omega), if_neg c, if_pos h0, w64 (by omega) (by omega), if_pos (by omega), if_pos (by omega)]
  by_cases e : (s.extract p.toNat (p + (l.size : Int)).toNat).toList = l.toList
  ·left; rw [if_pos e]; exact ⟨rfl, rfl, by omega, e⟩
  ·right; rw [if_neg e]
end Go.Proofs.YtgiioglmkogpkaaGreatDoor.L

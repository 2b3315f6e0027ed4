/-
  The walk of the law.
-/
import Derived.Test.YbulkahzaDoorLawH
import Derived.Deep.CutBlock
import Derived.Deep.CutRange
import Derived.BigQuiet
import Derived.Deep.RegionHeld3
namespace Go.Proofs.YbulkahzaDoor
open Go.RowKit Go.Maps
set_option linter.unusedVariables false
attribute [local go_sem ↓ high] len63 sv87 lv89 sv89 lv93 sv93 ap61 ap66 ap49 run_max
set_option maxHeartbeats 8000000 in
set_option maxRecDepth 1000000 in
theorem law_if {n k y s3 hp hp1 ma mb ma2 mb2 IB E Nn nF : Nat} {p : Pl} {dr np : Bool} {nmk : ByteArray} {gF : Lit → Option Nat} {W1 : World} {c0 c1 c2 c3 c4 c5 c6 c7 c8 c9 c10 c11 c12 c13 c14 c19 c20 c21 c22 c23 c24 c25 c26 c29 c33 c35 c36 c37 c38 c39 c40 c41 c44 c45 c46 c47 c48 c49 c50 c51 c52 c53 c54 c55 c56 c57 c58 c59 c60 c61 c62 c63 c64 c65 c66 c67 c68 c69 c70 c71 c72 c73 c74 c75 c76 c77 c78 c79 c80 c81 c82 c83 c84 c85 c86 c87 c88 c89 c90 c91 c92 c93 c94 c95 c96 c97 c98 c99 c100 c101 c102 c103 c104 c105 c106 c107 c108 c109 c110 c111 c112 c113 c114 c115 c116 c117 c118 c119 c120 c121 c122 c123 c124 c125 c126 c127 c128 c129 c130 c131 c132 c133 c134 c135 c136 c137 c138 c139 c140 c141 c142 c143 c144 c145 c146 c147 c148 c149 c150 c151 c152 c153 c154 c155 c156 c157 c158 c159 c160 c161 c162 c163 c164 c165 c166 c167 c168 c169 c170 c171 c172 c173 c174 c175 c176 c177 c178 c179 c180 c181 c182 c183 c184 c185 c186 c187 c188 c189 c190 c191 c192 c193 c194 c195 c196 c197 c198 c199 c200 c201 c202 c203 c204 c205 c206 c207 c208 c209 c210 c211 c212 c213 c214 c215 c216 c217 c218 c219 c220 c221 c222 c223 c224 c225 c226 c227 c228 c229 c230 c231 c232 c233 c234 c235 c236 c237 c238 c239 c240 c241 c242 c243 c244 c245 c247 c248 c249 c250 c251 c252 c253 c254 c255 c256 c257 c258 c259 c260 c261 c262 c263 c264 c265 c266 c267 c268 c269 c270 c271 c272 c273 c274 c275 c276 c277 c278 c279 c280 c281 c282 c283 c284 c285 c286 c287 c288 c289 c290 c291 c292 c293 c294 c295 c296 c297 c298 c299 c300 c301 c302 c303 c304 c305 : Value} {J K : Act → World → Prop} (hn : n ≤ 300) (hlt : k < n) (hyb : y ≤ 2000) (hs3l : s3 < 3) (hgl : hp < 256) (hp1e : hp1 = hp + 1) (hk4 : W1.cell? ⟨IB, 4, none⟩ = some (.int .u8 (hp : Int))) (hk3 : W1.cell? ⟨IB, 3, none⟩ = some (.bool np)) (hcE : W1.cell? ⟨E, k, none⟩ = some (.int .u64 (y : Int))) (hcN : W1.cell? ⟨Nn, k, none⟩ = some (.string nmk)) (c15 : W1.cell? ⟨p.S, 15, none⟩ = some (.map (some p.F))) (hF2 : Files W1 p.F nF gF) (hgk : gF (kS nmk) = if dr then none else some (if s3 = 2 then y + 1 else y)) (hnml : nmk.size ≤ maxLen) (hma : ma2 = if dr then max ma (if np then 0 else hp1) else ma) (hmb : mb2 = if dr then max mb (if np then hp1 else 0) else mb)
    (hJ : ∀ (a' : Act) (w' : World), (fun (a' : Act) (w' : World) => ∃ u14 u27 u28 u36 u37 u38 u39 u40 u41 u246 u247 u248 u249 u250 u251 u252 u253 u254 u255 u256 u257 u258 u259 u260 u261 u262 u263 u264 u265 u266 u267 u268 u269 u270 u271 u272 u273 u274 u275 u276 u277 u278 u279 u280 u281 u282 u283 u284 u285 u286 u287 u288 u289 u290 u291 u292 u293 u294 u295 u296 u297 u298 u299 u300 : Value, (u27 = .int .u64 (ma2 : Int) ∧ u28 = .int .u64 (mb2 : Int) ∧ Below W1.heap.size W1 w') ∧ a' = ⟨#[c0, c1, c2, c3, c4, c5, c6, c7, c8, c9, c10, c11, c12, c13, u14, .pointer (some ⟨p.S, 0, none⟩), .int .i64 (n : Int), .slice (some ⟨E, 0, none⟩) n n, .slice (some ⟨Nn, 0, none⟩) n n, c19, c20, c21, c22, c23, c24, c25, c26, u27, u28, c29, .int .i64 (k : Int), .pointer (some ⟨IB, 0, none⟩), .int .u8 (s3 : Int), c33, .bool dr, c35, u36, u37, u38, u39, u40, u41, undef, undef, c44, c45, c46, c47, c48, c49, c50, c51, c52, c53, c54, c55, c56, c57, c58, c59, c60, c61, c62, c63, c64, c65, c66, c67, c68, c69, c70, c71, c72, c73, c74, c75, c76, c77, c78, c79, c80, c81, c82, c83, c84, c85, c86, c87, c88, c89, c90, c91, c92, c93, c94, c95, c96, c97, c98, c99, c100, c101, c102, c103, c104, c105, c106, c107, c108, c109, c110, c111, c112, c113, c114, c115, c116, c117, c118, c119, c120, c121, c122, c123, c124, c125, c126, c127, c128, c129, c130, c131, c132, c133, c134, c135, c136, c137, c138, c139, c140, c141, c142, c143, c144, c145, c146, c147, c148, c149, c150, c151, c152, c153, c154, c155, c156, c157, c158, c159, c160, c161, c162, c163, c164, c165, c166, c167, c168, c169, c170, c171, c172, c173, c174, c175, c176, c177, c178, c179, c180, c181, c182, c183, c184, c185, c186, c187, c188, c189, c190, c191, c192, c193, c194, c195, c196, c197, c198, c199, c200, c201, c202, c203, c204, c205, c206, c207, c208, c209, c210, c211, c212, c213, c214, c215, c216, c217, c218, c219, c220, c221, c222, c223, c224, c225, c226, c227, c228, c229, c230, c231, c232, c233, c234, c235, c236, c237, c238, c239, c240, c241, c242, c243, c244, c245, u246, u247, u248, u249, u250, u251, u252, u253, u254, u255, u256, u257, u258, u259, u260, u261, u262, u263, u264, u265, u266, u267, u268, u269, u270, u271, u272, u273, u274, u275, u276, u277, u278, u279, u280, u281, u282, u283, u284, u285, u286, u287, u288, u289, u290, u291, u292, u293, u294, u295, u296, u297, u298, u299, u300, c301, c302, c303, c304, c305, undef, undef, undef, undef, undef, undef, undef, undef, undef, undef, undef, undef, undef, undef, undef, undef, undef, undef, undef, undef, undef, undef, undef, undef, undef, undef, undef, undef, undef, undef, undef, undef, undef, undef, undef, undef, undef, undef, undef, undef, undef, undef, undef, undef, undef, undef, undef, undef, undef, undef, undef, undef, undef, undef, undef, undef, undef, undef, undef, undef, undef, undef, undef, undef, undef, undef, undef, undef, undef, undef, undef, undef, undef, undef, undef, undef, undef, undef, undef, undef, undef, undef, undef, undef, undef, undef, undef, undef, undef, undef, undef, undef, undef, undef, undef, undef, undef, undef, undef, undef], []⟩) a' w' → J a' w') (hK : ∀ (a' : Act) (w' : World), Met J a' w' → K a' w') :
    let Q := (fun _ _ _ => False : Exit → Act → World → Prop)
    Code.wp Ybad.prog (iff 246) (Exit.then K Q) ⟨#[c0, c1, c2, c3, c4, c5, c6, c7, c8, c9, c10, c11, c12, c13, c14, .pointer (some ⟨p.S, 0, none⟩), .int .i64 (n : Int), .slice (some ⟨E, 0, none⟩) n n, .slice (some ⟨Nn, 0, none⟩) n n, c19, c20, c21, c22, c23, c24, c25, c26, .int .u64 (ma : Int), .int .u64 (mb : Int), c29, .int .i64 (k : Int), .pointer (some ⟨IB, 0, none⟩), .int .u8 (s3 : Int), c33, .bool dr, c35, c36, c37, c38, c39, c40, c41, undef, undef, c44, c45, c46, c47, c48, c49, c50, c51, c52, c53, c54, c55, c56, c57, c58, c59, c60, c61, c62, c63, c64, c65, c66, c67, c68, c69, c70, c71, c72, c73, c74, c75, c76, c77, c78, c79, c80, c81, c82, c83, c84, c85, c86, c87, c88, c89, c90, c91, c92, c93, c94, c95, c96, c97, c98, c99, c100, c101, c102, c103, c104, c105, c106, c107, c108, c109, c110, c111, c112, c113, c114, c115, c116, c117, c118, c119, c120, c121, c122, c123, c124, c125, c126, c127, c128, c129, c130, c131, c132, c133, c134, c135, c136, c137, c138, c139, c140, c141, c142, c143, c144, c145, c146, c147, c148, c149, c150, c151, c152, c153, c154, c155, c156, c157, c158, c159, c160, c161, c162, c163, c164, c165, c166, c167, c168, c169, c170, c171, c172, c173, c174, c175, c176, c177, c178, c179, c180, c181, c182, c183, c184, c185, c186, c187, c188, c189, c190, c191, c192, c193, c194, c195, c196, c197, c198, c199, c200, c201, c202, c203, c204, c205, c206, c207, c208, c209, c210, c211, c212, c213, c214, c215, c216, c217, c218, c219, c220, c221, c222, c223, c224, c225, c226, c227, c228, c229, c230, c231, c232, c233, c234, c235, c236, c237, c238, c239, c240, c241, c242, c243, c244, c245, .bool dr, c247, c248, c249, c250, c251, c252, c253, c254, c255, c256, c257, c258, c259, c260, c261, c262, c263, c264, c265, c266, c267, c268, c269, c270, c271, c272, c273, c274, c275, c276, c277, c278, c279, c280, c281, c282, c283, c284, c285, c286, c287, c288, c289, c290, c291, c292, c293, c294, c295, c296, c297, c298, c299, c300, c301, c302, c303, c304, c305, undef, undef, undef, undef, undef, undef, undef, undef, undef, undef, undef, undef, undef, undef, undef, undef, undef, undef, undef, undef, undef, undef, undef, undef, undef, undef, undef, undef, undef, undef, undef, undef, undef, undef, undef, undef, undef, undef, undef, undef, undef, undef, undef, undef, undef, undef, undef, undef, undef, undef, undef, undef, undef, undef, undef, undef, undef, undef, undef, undef, undef, undef, undef, undef, undef, undef, undef, undef, undef, undef, undef, undef, undef, undef, undef, undef, undef, undef, undef, undef, undef, undef, undef, undef, undef, undef, undef, undef, undef, undef, undef, undef, undef, undef, undef, undef, undef, undef, undef, undef], []⟩ W1 := by
  intro Q
  conv => arg 2; whnf
  have hEl := World.block_lt_of_cell? _ _ hcE
  have hNl := World.block_lt_of_cell? _ _ hcN
  have hSl := World.block_lt_of_cell? _ _ c15
  have hsz1 := World.block_lt_of_cell? _ _ hk4
  have hki : (k : Int) < (n : Int) := by omega
  obtain ⟨kd1, hlk1⟩ := hF2.drew.look_ok nmk hnml
  obtain ⟨kd2, hlk2⟩ := (hF2.alloc (.cells zVer 87)).drew.look_ok nmk hnml
  have hs0 : ∀ (m : Nat) (kd : Int), (bigStore 87 ⟨W1.heap.size, 0, none⟩ (.agg (fileC m kd))).run Ybad.prog (W1.alloc (.cells zVer 87)).drew = .ok () (W1.alloc (.cells (fileC m kd) 87)).drew := fun m kd => storeVer W1.drew m kd
  have hx0 : ∀ a b : Value, ([a, b] : List Value)[0]? = some a := fun _ _ => rfl
  have hx1 : ∀ a b : Value, ([a, b] : List Value)[1]? = some b := fun _ _ => rfl
  have HMA := hide hma
  have HMB := hide hmb
  obtain ⟨fe, hfe⟩ : ∃ fe, fe = (if s3 = 2 then y + 1 else y) := ⟨_, rfl⟩
  rw [← hfe] at hgk
  have HFE := hide hfe
  have HGK := hide hgk
  have hh1i : (hp : Int) + 1 = (hp1 : Int) := by omega
  have hw1 : IntKind.u64.wrap (hp : Int) = (hp : Int) := by rw [IntKind.wrap_u64]; omega
  clear hma hmb hfe hgk hF2 hp1e hnml
  have hBf : ∀ (m : Nat) (kd : Int), Hid (Below W1.heap.size W1 (W1.alloc (.cells (fileC m kd) 87)).drew) := fun m kd => hide ((Below.refl _ _).alloc (Nat.le_refl _) _).drew
  cases dr with
  | true =>
    rw [HGK.out] at hlk1 hlk2
    simp only [if_true, Option.isSome_none] at hlk1 hlk2
    generalize (none : Option Nat).getD 0 = z0 at hlk1 hlk2
    have hs1 := hs0 z0 kd1
    have hs2 := hs0 z0 kd2
    clear hs0 hcE hEl
    cases np with
    | true =>
      go_wp2_with fail
      go_region
      all_goals (try go_wp2_with fail)
      all_goals go_meet
      all_goals refine ⟨by rw [HMA.out]; simp, by rw [HMB.out]; simp, (hBf _ _).out⟩
    | false =>
      go_wp2_with fail
      go_region
      all_goals (try go_wp2_with fail)
      all_goals go_meet
      all_goals refine ⟨by rw [HMA.out]; simp, by rw [HMB.out]; simp, (hBf _ _).out⟩
  | false =>
    rw [HGK.out, HFE.out] at hlk1 hlk2
    clear hk3 hk4 hh1i hw1
    have hBf2 : ∀ (m : Nat) (kd : Int), Hid ((W1.alloc (.cells (fileC m kd) 87)).cell? ⟨W1.heap.size, 0, none⟩ = some (.int .u64 (m : Int))) := fun m kd => hide (by rw [World.cell?_alloc_new]; rfl)
    by_cases h2 : s3 = 2
    · subst h2
      simp only [if_true, Bool.false_eq_true, if_false, Option.getD_some, Option.isSome_some] at hlk1 hlk2
      have hs1 := hs0 (y + 1) kd1
      have hs2 := hs0 (y + 1) kd2
      have hy1 : ((y + 1 : Nat) : Int) = (y : Int) + 1 := by omega
      clear hs0
      generalize hyy : y + 1 = y1 at *
      have hy1i : (y : Int) + 1 = (y1 : Int) := by omega
      clear hy1
      go_wp2_with fail
      go_region
      all_goals (try go_wp2_with fail)
      all_goals go_meet
      all_goals refine ⟨by rw [HMA.out]; simp, by rw [HMB.out]; simp, (hBf _ _).out⟩
    · simp only [h2, Bool.false_eq_true, if_false, Option.getD_some, Option.isSome_some] at hlk1 hlk2
      have hs1 := hs0 y kd1
      have hs2 := hs0 y kd2
      have h2b : ((s3 : Int) == 2) = false := beq_eq_false_iff_ne.2 (by omega)
      have h2i : ¬ (s3 : Int) = 2 := by omega
      clear hs0
      go_wp2_with fail
      go_region
      all_goals (try go_wp2_with fail)
      all_goals go_meet
      all_goals refine ⟨by rw [HMA.out]; simp, by rw [HMB.out]; simp, (hBf _ _).out⟩

/-- No way out but the plain one: it serves whatever is asked of the others. -/
theorem then_false {K : Act → World → Prop} {Q : Exit → Act → World → Prop} : ∀ (e : Exit) (a : Act) (w : World), Exit.then K (fun _ _ _ => False) e a w → Exit.then K Q e a w := fun e a w h => by
  cases e <;> first | exact h | exact (h : False).elim
end Go.Proofs.YbulkahzaDoor

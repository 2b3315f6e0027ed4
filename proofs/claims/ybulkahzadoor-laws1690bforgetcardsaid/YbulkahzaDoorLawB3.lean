/-
  The walk of the law.
-/
import Derived.Test.YbulkahzaDoorLawB2
import Derived.Deep.CutBlock
import Derived.Deep.CutRange
import Derived.BigQuiet
import Derived.Deep.RegionHeld3
namespace Go.Proofs.YbulkahzaDoor
open Go.RowKit Go.Maps
set_option linter.unusedVariables false
attribute [local go_sem ↓ high] len63 sv87 lv89 sv89 lv93 sv93 ap61 ap66 ap49 run_max
set_option maxHeartbeats 8000000 in
set_option maxRecDepth 1000000 in
theorem law_loop2 {G : Nat → Itm} {n cap bc off th fo et fo2 et2 ia fa fb : Nat} {a0 : Option Addr} {w wc : World} {p : Pl} {E Nn : Nat} {A2 : Nat → Option Nat} {d : Nat → Bool} {tv : Value} {c19 c20 c21 c22 c23 c24 c25 c26 c44 c45 c46 c47 c48 c49 c50 c51 c52 c53 c54 c55 c56 c57 c58 c59 c60 c61 c62 c63 c64 c65 c66 c67 c68 c69 c70 c71 c72 c73 c74 c75 c76 c77 c78 c79 c80 c81 c82 c83 c84 c85 c86 c87 c88 c89 c90 c91 c92 c93 c94 c95 c96 c97 c98 c99 c100 c101 c102 c103 c104 c105 c106 c107 c108 c109 c110 c111 c112 c113 c114 c115 c116 c117 c118 c119 c120 c121 c122 c123 c124 c125 c126 c127 c128 c129 c130 c131 c132 c133 c134 c135 c136 c137 c138 c139 c140 c141 c142 c143 c144 c145 c146 c147 c148 c149 c150 c151 c152 c153 c154 c155 c156 c157 c158 c159 c160 c161 c162 c163 c164 c165 c166 c167 c168 c169 c170 c171 c172 c173 c174 c175 c176 c177 c178 c179 c180 c181 c182 c183 c184 c185 c186 c187 c188 c189 c190 c191 c192 c193 c194 c195 c196 : Value} {J K : Act → World → Prop} (hn : n ≤ 300) (hin : Inp w a0 n bc off G) (hb : ia < 256 ∧ fa < 256 ∧ fb < 256) (haft : Aft w wc G n p E Nn et2 fo2 th (b0G ia fa fb) A2 d tv)
    (hJ : ∀ (a' : Act) (w' : World), (fun (a' : Act) (w' : World) => ∃ u14 u27 u28 u29 u30 u31 u32 u33 u34 u35 u36 u37 u38 u39 u40 u41 u197 u198 u199 u200 u201 u202 u203 u204 u205 u206 u207 u208 u209 u210 u211 u212 u213 u214 u215 u216 u217 u218 u219 u220 u221 u222 u223 u224 u225 u226 u227 u228 u229 u230 u231 u232 u233 u234 u235 u236 u237 u238 u239 u240 u241 u242 u243 u244 u245 u246 u247 u248 u249 u250 u251 u252 u253 u254 u255 u256 u257 u258 u259 u260 u261 u262 u263 u264 u265 u266 u267 u268 u269 u270 u271 u272 u273 u274 u275 u276 u277 u278 u279 u280 u281 u282 u283 u284 u285 u286 u287 u288 u289 u290 u291 u292 u293 u294 u295 u296 u297 u298 u299 u300 u301 u302 u303 u304 u305 : Value, (u27 = .int .u64 (mxG G (b0G ia fa fb) th kA n : Int) ∧ u28 = .int .u64 (mxG G (b0G ia fa fb) th kB n : Int) ∧ Below wc.heap.size wc w' ∧ w'.ownsRow wc.heap.size 3 1 u29 (wtG G th n).length ((wtG G th n).map (fun j : Nat => Value.int .i64 (j : Int)))) ∧ a' = ⟨#[.slice a0 n cap, .int .u64 (th : Int), .int .u64 (fo : Int), .int .u64 (et : Int), .int .u8 (ia : Int), .int .u8 (fa : Int), .int .u8 (fb : Int), undef, undef, undef, undef, undef, undef, undef, u14, .pointer (some ⟨p.S, 0, none⟩), .int .i64 (n : Int), .slice (some ⟨E, 0, none⟩) n n, .slice (some ⟨Nn, 0, none⟩) n n, c19, c20, c21, c22, c23, c24, c25, c26, u27, u28, u29, u30, u31, u32, u33, u34, u35, u36, u37, u38, u39, u40, u41, undef, undef, c44, c45, c46, c47, c48, c49, c50, c51, c52, c53, c54, c55, c56, c57, c58, c59, c60, c61, c62, c63, c64, c65, c66, c67, c68, c69, c70, c71, c72, c73, c74, c75, c76, c77, c78, c79, c80, c81, c82, c83, c84, c85, c86, c87, c88, c89, c90, c91, c92, c93, c94, c95, c96, c97, c98, c99, c100, c101, c102, c103, c104, c105, c106, c107, c108, c109, c110, c111, c112, c113, c114, c115, c116, c117, c118, c119, c120, c121, c122, c123, c124, c125, c126, c127, c128, c129, c130, c131, c132, c133, c134, c135, c136, c137, c138, c139, c140, c141, c142, c143, c144, c145, c146, c147, c148, c149, c150, c151, c152, c153, c154, c155, c156, c157, c158, c159, c160, c161, c162, c163, c164, c165, c166, c167, c168, c169, c170, c171, c172, c173, c174, c175, c176, c177, c178, c179, c180, c181, c182, c183, c184, c185, c186, c187, c188, c189, c190, c191, c192, c193, c194, c195, c196, u197, u198, u199, u200, u201, u202, u203, u204, u205, u206, u207, u208, u209, u210, u211, u212, u213, u214, u215, u216, u217, u218, u219, u220, u221, u222, u223, u224, u225, u226, u227, u228, u229, u230, u231, u232, u233, u234, u235, u236, u237, u238, u239, u240, u241, u242, u243, u244, u245, u246, u247, u248, u249, u250, u251, u252, u253, u254, u255, u256, u257, u258, u259, u260, u261, u262, u263, u264, u265, u266, u267, u268, u269, u270, u271, u272, u273, u274, u275, u276, u277, u278, u279, u280, u281, u282, u283, u284, u285, u286, u287, u288, u289, u290, u291, u292, u293, u294, u295, u296, u297, u298, u299, u300, u301, u302, u303, u304, u305, undef, undef, undef, undef, undef, undef, undef, undef, undef, undef, undef, undef, undef, undef, undef, undef, undef, undef, undef, undef, undef, undef, undef, undef, undef, undef, undef, undef, undef, undef, undef, undef, undef, undef, undef, undef, undef, undef, undef, undef, undef, undef, undef, undef, undef, undef, undef, undef, undef, undef, undef, undef, undef, undef, undef, undef, undef, undef, undef, undef, undef, undef, undef, undef, undef, undef, undef, undef, undef, undef, undef, undef, undef, undef, undef, undef, undef, undef, undef, undef, undef, undef, undef, undef, undef, undef, undef, undef, undef, undef, undef, undef, undef, undef, undef, undef, undef, undef, undef, undef], []⟩) a' w' → J a' w') (hK : ∀ (a' : Act) (w' : World), Met J a' w' → K a' w') :
    let Q := bodyPost Ybad.prog Ybad.f4 (fun e w' => e = Ending.returned (Value.bool true) ∧ Below w.heap.size w w')
    Code.wp Ybad.prog (blk 2) (Exit.then K Q) ⟨#[.slice a0 n cap, .int .u64 (th : Int), .int .u64 (fo : Int), .int .u64 (et : Int), .int .u8 (ia : Int), .int .u8 (fa : Int), .int .u8 (fb : Int), undef, undef, undef, undef, undef, undef, undef, .bool false, .pointer (some ⟨p.S, 0, none⟩), .int .i64 (n : Int), .slice (some ⟨E, 0, none⟩) n n, .slice (some ⟨Nn, 0, none⟩) n n, c19, c20, c21, c22, c23, c24, c25, c26, .int .u64 ((max ia fa : Nat) : Int), .int .u64 (fb : Int), .slice none 0 0, .int .i64 0, undef, undef, undef, undef, undef, undef, undef, undef, undef, undef, undef, undef, undef, c44, c45, c46, c47, c48, c49, c50, c51, c52, c53, c54, c55, c56, c57, c58, c59, c60, c61, c62, c63, c64, c65, c66, c67, c68, c69, c70, c71, c72, c73, c74, c75, c76, c77, c78, c79, c80, c81, c82, c83, c84, c85, c86, c87, c88, c89, c90, c91, c92, c93, c94, c95, c96, c97, c98, c99, c100, c101, c102, c103, c104, c105, c106, c107, c108, c109, c110, c111, c112, c113, c114, c115, c116, c117, c118, c119, c120, c121, c122, c123, c124, c125, c126, c127, c128, c129, c130, c131, c132, c133, c134, c135, c136, c137, c138, c139, c140, c141, c142, c143, c144, c145, c146, c147, c148, c149, c150, c151, c152, c153, c154, c155, c156, c157, c158, c159, c160, c161, c162, c163, c164, c165, c166, c167, c168, c169, c170, c171, c172, c173, c174, c175, c176, c177, c178, c179, c180, c181, c182, c183, c184, c185, c186, c187, c188, c189, c190, c191, c192, c193, c194, c195, c196, undef, undef, undef, undef, undef, undef, undef, undef, undef, undef, undef, undef, undef, undef, undef, undef, undef, undef, undef, undef, undef, undef, undef, undef, undef, undef, undef, undef, undef, undef, undef, undef, undef, undef, undef, undef, undef, undef, undef, undef, undef, undef, undef, undef, undef, undef, undef, undef, undef, undef, undef, undef, undef, undef, undef, undef, undef, undef, undef, undef, undef, undef, undef, undef, undef, undef, undef, undef, undef, undef, undef, undef, undef, undef, undef, undef, undef, undef, undef, undef, undef, undef, undef, undef, undef, undef, undef, undef, undef, undef, undef, undef, undef, undef, undef, undef, undef, undef, undef, undef, undef, undef, undef, undef, undef, undef, undef, undef, undef, undef, undef, undef, undef, undef, undef, undef, undef, undef, undef, undef, undef, undef, undef, undef, undef, undef, undef, undef, undef, undef, undef, undef, undef, undef, undef, undef, undef, undef, undef, undef, undef, undef, undef, undef, undef, undef, undef, undef, undef, undef, undef, undef, undef, undef, undef, undef, undef, undef, undef, undef, undef, undef, undef, undef, undef, undef, undef, undef, undef, undef, undef, undef, undef, undef, undef, undef, undef, undef, undef, undef, undef, undef, undef, undef, undef, undef, undef, undef, undef, undef, undef, undef, undef, undef, undef, undef, undef, undef, undef, undef, undef, undef, undef, undef, undef, undef, undef, undef, undef], []⟩ wc := by
  intro Q
  conv => arg 2; whnf
  have AF := hide haft
  have HIN := hide hin
  have hbb := hb
  clear haft hin
  go_wp2_with fail
  go_loopw [27, 28, 29, 30] (fun ea eb wt i wr => ∃ k : Nat, k ≤ n ∧ i = .int .i64 k ∧ ea = .int .u64 (mxG G (b0G ia fa fb) th kA k : Int) ∧ eb = .int .u64 (mxG G (b0G ia fa fb) th kB k : Int) ∧ Below wc.heap.size wc wr ∧ wr.ownsRow wc.heap.size 3 1 wt (wtG G th k).length ((wtG G th k).map (fun j : Nat => Value.int .i64 (j : Int)))) (fun _ _ _ i _ => n - (intOf i).toNat)
  case atStart =>
    refine ⟨0, Nat.zero_le _, rfl, ?_, ?_, Below.refl _ _, World.ownsRow_nil _ _ _ _⟩
    · show _ = Value.int .u64 (b0G ia fa fb kA : Int)
      rw [b0G_A]
    · show _ = Value.int .u64 (b0G ia fa fb kB : Int)
      rw [b0G_B]
  case round =>
    obtain ⟨k, hk, rfl, rfl, rfl, hB, hown⟩ := hrel
    have HBr := hide hB
    have HOW := hide hown
    clear hB hown
    by_cases hlt : k < n
    · obtain rfl := HIN.out.at0 (by omega)
      have hbc := World.block_lt_of_cell? _ _ (HIN.out.gap k hlt)
      have hbw := AF.out.bel.trans (HBr.out.mono AF.out.bel.size)
      have hc0 := (hbw.cell (p := ⟨bc, off + k * 5, none⟩) hbc).trans (HIN.out.gap k hlt)
      have hc1 := (hbw.cell (p := ⟨bc, off + k * 5 + 1, none⟩) hbc).trans (HIN.out.st k hlt)
      have hc2 := (hbw.cell (p := ⟨bc, off + k * 5 + 2, none⟩) hbc).trans (HIN.out.listed k hlt)
      have hc3 := (hbw.cell (p := ⟨bc, off + k * 5 + 3, none⟩) hbc).trans (HIN.out.node k hlt)
      have hc4 := (hbw.cell (p := ⟨bc, off + k * 5 + 4, none⟩) hbc).trans (HIN.out.hist k hlt)
      have hki : (k : Int) < (n : Int) := by omega
      have AFr := hide (AF.out.below HBr.out)
      have hgl := HIN.out.lt k hlt
      have hyb := ep_le G (k + 1)
      have hcE : wr.cell? ⟨E, k, none⟩ = some (.int .u64 (ep G (k + 1) : Int)) := AFr.out.rE.cell hlt
      have hEl := AFr.out.rE.lt
      clear hbw
      obtain ⟨hp1, hhp1⟩ : ∃ x, x = (G k).hist + 1 := ⟨_, rfl⟩
      generalize hg : (G k).gap = gp at *
      generalize hs : (G k).st = sp at *
      generalize hl : (G k).listed = lp at *
      generalize hnd : (G k).node = np at *
      generalize hh : (G k).hist = hp at *
      generalize hy : ep G (k + 1) = y at *
      obtain ⟨s3, hs3⟩ : ∃ s3, s3 = sp % 3 := ⟨_, rfl⟩
      have hs3l : s3 < 3 := by rw [hs3]; exact Nat.mod_lt _ (by decide)
      have hs3i : (sp : Int) % 3 = (s3 : Int) := by omega
      obtain ⟨bw, hbw⟩ : ∃ bw, bw = decide (y ≤ th) := ⟨_, rfl⟩
      have hbwi : decide ((y : Int) ≤ (th : Int)) = bw := by rw [hbw, decide_eq_decide]; omega
      have hdrG : drG G th k = ((bw && s3 == 0) || (!bw && (lp && s3 != 2))) := by
        unfold drG
        rw [hy, hs, hl, ← hs3, ← hbw]
      have hstG : stG G th k = ((bw && s3 == 1) || (!bw && !lp)) := by
        unfold stG
        rw [hy, hs, hl, ← hs3, ← hbw]
      have HDR := hide hdrG
      have HSG := hide hstG
      have HGL := hide (And.intro hg (And.intro hs (And.intro hl (And.intro hnd (And.intro hh (And.intro hy (And.intro hs3 hbw)))))))
      have HH1 := hide hhp1
      clear hg hs hl hnd hh hy hs3 hdrG hstG hhp1
      go_upto_region 46 with fail
      go_cut [32] from 206 to 208 (fun v wx => v = .int .u8 (s3 : Int) ∧ wx = wr.alloc (.cells #[.int .u8 (gp : Int), .int .u8 (sp : Int), .bool lp, .bool np, .int .u8 (hp : Int)] 69))
      case first =>
        go_wp2_with fail
        go_meet
        exact ⟨rfl, rfl⟩
      case rest =>
        obtain ⟨rfl, rfl⟩ := hcut
        clear hs3i
        go_upto_region 47 with fail
        go_cut [33] from 209 to 214 (fun v wx => v = .bool bw ∧ wx = wr.alloc (.cells #[.int .u8 (gp : Int), .int .u8 (sp : Int), .bool lp, .bool np, .int .u8 (hp : Int)] 69))
        case first =>
          go_wp2_with fail
          go_meet
          exact ⟨by rw [hbw], rfl⟩
        case rest =>
          obtain ⟨rfl, rfl⟩ := hcut
          clear hbwi hbw
          go_upto_region 48 with fail
          go_cut [34] from 215 to 231 (fun v wx => v = .bool (drG G th k) ∧ wx = wr.alloc (.cells #[.int .u8 (gp : Int), .int .u8 (sp : Int), .bool lp, .bool np, .int .u8 (hp : Int)] 69))
          case first =>
            clear HSG HGL AFr HBr HOW hc0 hc1 hc2 hc3 hc4 hcE hEl
            cases bw with
            | true =>
              by_cases h0 : s3 = 0
              · subst h0
                go_wp2_with fail
                go_meet
                exact ⟨by rw [HDR.out]; rfl, rfl⟩
              · have h0i : ¬ (s3 : Int) = 0 := by omega
                have h0b : ((s3 : Int) == 0) = false := beq_eq_false_iff_ne.2 h0i
                go_wp2_with fail
                go_meet
                exact ⟨by rw [HDR.out]; simp [h0], rfl⟩
            | false =>
              cases lp with
              | false =>
                go_wp2_with fail
                go_meet
                exact ⟨by rw [HDR.out]; rfl, rfl⟩
              | true =>
                by_cases h2 : s3 = 2
                · subst h2
                  go_wp2_with fail
                  go_meet
                  exact ⟨by rw [HDR.out]; rfl, rfl⟩
                · have h2i : ¬ (s3 : Int) = 2 := by omega
                  have h2b : ((s3 : Int) == 2) = false := beq_eq_false_iff_ne.2 h2i
                  have h2n : ((s3 : Int) != 2) = true := bne_iff_ne.2 h2i
                  have h2m : (s3 != 2) = true := bne_iff_ne.2 h2
                  go_wp2_with fail
                  go_meet
                  exact ⟨by rw [HDR.out, h2m]; rfl, rfl⟩
          case rest =>
            obtain ⟨rfl, rfl⟩ := hcut
            go_upto_region 49 with fail
            go_cut [35] from 232 to 245 (fun v wx => v = .bool (stG G th k) ∧ wx = wr.alloc (.cells #[.int .u8 (gp : Int), .int .u8 (sp : Int), .bool lp, .bool np, .int .u8 (hp : Int)] 69))
            case first =>
              generalize drG G th k = dr at *
              clear HDR HGL AFr HBr HOW hc0 hc1 hc2 hc3 hc4 hcE hEl
              cases bw with
              | true =>
                by_cases h1 : s3 = 1
                · subst h1
                  go_wp2_with fail
                  go_meet
                  exact ⟨by rw [HSG.out]; rfl, rfl⟩
                · have h1i : ¬ (s3 : Int) = 1 := by omega
                  have h1b : ((s3 : Int) == 1) = false := beq_eq_false_iff_ne.2 h1i
                  go_wp2_with fail
                  go_meet
                  exact ⟨by rw [HSG.out]; simp [h1], rfl⟩
              | false =>
                cases lp with
                | false =>
                  go_wp2_with fail
                  go_meet
                  exact ⟨by rw [HSG.out]; rfl, rfl⟩
                | true =>
                  go_wp2_with fail
                  go_meet
                  exact ⟨by rw [HSG.out]; rfl, rfl⟩
            case rest =>
              obtain ⟨rfl, rfl⟩ := hcut
              clear hc0 hc1 hc2 hc3 hc4 hbc
              have hit : Hid ((wr.alloc (.cells #[.int .u8 (gp : Int), .int .u8 (sp : Int), .bool lp, .bool np, .int .u8 (hp : Int)] 69)).heap[wr.heap.size]? = some (.cells #[.int .u8 (gp : Int), .int .u8 (sp : Int), .bool lp, .bool np, .int .u8 (hp : Int)] 69 (0, 0))) := hide (MapKept.heap_alloc wr _).1
              have hB1 : Below wr.heap.size wr (wr.alloc (.cells #[.int .u8 (gp : Int), .int .u8 (sp : Int), .bool lp, .bool np, .int .u8 (hp : Int)] 69)) := (Below.refl _ _).alloc (Nat.le_refl _) _
              have hsz1 : wr.heap.size < (wr.alloc (.cells #[.int .u8 (gp : Int), .int .u8 (sp : Int), .bool lp, .bool np, .int .u8 (hp : Int)] 69)).heap.size := by simp
              have AF1 := hide (AFr.out.below hB1)
              have HOW1 := hide (own_keep HOW.out (Frm.of_below (may := fun _ => False) hB1) (fun _ _ e => e))
              have HBr1 := hide (HBr.out.trans (hB1.mono HBr.out.size))
              clear hB1 AFr HBr HOW
              generalize hW1 : wr.alloc (.cells #[.int .u8 (gp : Int), .int .u8 (sp : Int), .bool lp, .bool np, .int .u8 (hp : Int)] 69) = W1 at *
              generalize hIB : wr.heap.size = IB at *
              clear hW1 hcE hEl
              have hk4 : W1.cell? ⟨IB, 4, none⟩ = some (.int .u8 (hp : Int)) := by simp only [World.cell?, hit.out]; rfl
              have hk3 : W1.cell? ⟨IB, 3, none⟩ = some (.bool np) := by simp only [World.cell?, hit.out]; rfl
              have hcE : W1.cell? ⟨E, k, none⟩ = some (.int .u64 (y : Int)) := by have := AF1.out.rE.cell hlt; rw [HGL.out.2.2.2.2.2.1] at this; exact this
              have hcN : W1.cell? ⟨Nn, k, none⟩ = some (.string (nmG k)) := AF1.out.rN.cell hlt
              have hEl := AF1.out.rE.lt
              have hNl := AF1.out.rN.lt
              obtain ⟨⟨mf2, hS2, hV2⟩, ⟨gF, hF2, hgF⟩, _⟩ := AF1.out.st
              have hSl := hS2.lt
              have c15 : W1.cell? ⟨p.S, 15, none⟩ = some (.map (some p.F)) := hS2.cell 15
              have hgk := hgF k hlt
              have hnsz := nmG_size k (by omega)
              have hnml : (nmG k).size ≤ maxLen := by simp only [maxLen]; omega
              have hgk2 : gF (kS (nmG k)) = if drG G th k then none else some (if s3 = 2 then y + 1 else y) := by
                rw [hgk, AF1.out.dr k hlt]
                show (if drG G th k then none else some (feG G k)) = _
                unfold feG
                rw [HGL.out.2.1, ← HGL.out.2.2.2.2.2.2.1, HGL.out.2.2.2.2.2.1]
              have HF2 := hide hF2
              have HGK := hide hgk2
              clear hS2 hV2 hF2 hgF hgk hgk2
              have hmA : mxG G (b0G ia fa fb) th kA (k + 1) = if drG G th k then max (mxG G (b0G ia fa fb) th kA k) (if np then 0 else hp1) else mxG G (b0G ia fa fb) th kA k := by
                show (if drG G th k then max _ (single (ndG (G k)) ((G k).hist + 1) kA) else _) = _
                rw [HGL.out.2.2.2.2.1, ← HH1.out]
                unfold ndG
                rw [HGL.out.2.2.2.1]
                cases np
                · rfl
                · rfl
              have hmB : mxG G (b0G ia fa fb) th kB (k + 1) = if drG G th k then max (mxG G (b0G ia fa fb) th kB k) (if np then hp1 else 0) else mxG G (b0G ia fa fb) th kB k := by
                show (if drG G th k then max _ (single (ndG (G k)) ((G k).hist + 1) kB) else _) = _
                rw [HGL.out.2.2.2.2.1, ← HH1.out]
                unfold ndG
                rw [HGL.out.2.2.2.1]
                cases np
                · rfl
                · rfl
              have HMA := hide hmA
              have HMB := hide hmB
              clear hmA hmB HDR
              generalize hmxa : mxG G (b0G ia fa fb) th kA k = ma at *
              generalize hmxb : mxG G (b0G ia fa fb) th kB k = mb at *
              generalize hmxc : mxG G (b0G ia fa fb) th kA (k + 1) = ma2 at *
              generalize hmxd : mxG G (b0G ia fa fb) th kB (k + 1) = mb2 at *
              have HMC := hide hmxc
              have HMD := hide hmxd
              generalize hnmk : nmG k = nmk at *
              generalize hDR : drG G th k = dr at *
              generalize hSG : stG G th k = sg at *
              have HSGe := hide hSG
              clear hmxa hmxb hmxc hmxd hnmk hDR HSG hSG
              go_upto_if 246 with fail
              go_cut [27, 28] from 246 to 300 (fun ea eb wx => ea = .int .u64 (ma2 : Int) ∧ eb = .int .u64 (mb2 : Int) ∧ Below W1.heap.size W1 wx)
              case first =>
                exact Code.wp_mono then_false (law_if hn hlt (by omega) hs3l hgl.2.2 HH1.out hk4 hk3 hcE hcN c15 HF2.out HGK.out hnml HMA.out HMB.out (by assumption) (by assumption))
              case rest =>
                obtain ⟨rfl, rfl, hB2⟩ := hcut
                have HB2 := hide (HBr1.out.trans (hB2.mono HBr1.out.size))
                have HOW2 := hide (own_keep HOW1.out (Frm.of_below (may := fun _ => False) hB2) (fun _ _ e => e))
                clear hB2 HMA HMB HGK HF2 hk4 hk3 hcE hcN hEl hNl c15 hSl AF1 hit HOW1 HBr1
                have hwl := wtG_le G th k
                cases sg with
                | false =>
                  have ews : wtG G th (k + 1) = wtG G th k := by rw [wtG_succ, HSGe.out]; rfl
                  have HOW3 := HOW2
                  rw [← ews] at HOW3
                  clear ews
                  go_wp2
                  go_roundw
                  case rel => exact ⟨k + 1, by omega, by go_num, by rw [HMC.out], by rw [HMD.out], HB2.out, HOW3.out⟩
                  case measure => simp [intOf]; omega
                | true =>
                  have ews : wtG G th (k + 1) = wtG G th k ++ [k] := by rw [wtG_succ, HSGe.out]; rfl
                  have hb8 : Below wc.heap.size wc (wc.alloc (.cells #[.int .i64 (k : Int)] 3)) := (Below.refl _ _).alloc (Nat.le_refl _) _
                  have hb9 := own_keep HOW2.out (Frm.of_below (may := fun _ => False) hb8) (fun _ _ e => e)
                  have hle9 := HB2.out.size
                  obtain ⟨v', w7, hap, hown, hgr, hat⟩ := append1 49 3 .i64 Ybad.underlying49 (by kernel_rfl) (wc.alloc (.cells #[.int .i64 (k : Int)] 3)) _ 49 u29 ((wtG G th k).map (fun j : Nat => Value.int .i64 (j : Int))) (by rw [List.length_map]; exact hb9) wc.heap.size (k : Int) (by rw [World.cell?_alloc_new]; rfl) (by rw [List.length_map]; omega) (by simp; omega)
                  rw [List.length_map] at hown
                  have HOW3 := hide (show w7.ownsRow _ 3 1 v' (wtG G th (k + 1)).length ((wtG G th (k + 1)).map (fun j : Nat => Value.int .i64 (j : Int))) by rw [ews]; simpa using hown)
                  have HB3 := hide (HB2.out.trans ((hb8.mono hle9).trans (show Below _ (wc.alloc (.cells #[.int .i64 (k : Int)] 3)) w7 from ⟨hgr.os, hgr.tape, hgr.output, hgr.size, fun q hq => hgr.block q (by simp; omega) (fun e => by have := (hb9.lt q e.symm).1; omega)⟩)))
                  clear hb8 hb9 hown hgr hat ews
                  go_wp2
                  go_roundw
                  case rel => exact ⟨k + 1, by omega, by go_num, by rw [HMC.out], by rw [HMD.out], HB3.out, HOW3.out⟩
                  case measure => simp [intOf]; omega
    · obtain rfl : k = n := by omega
      go_wp2
      go_meet
      exact ⟨rfl, rfl, HBr.out, HOW.out⟩
end Go.Proofs.YbulkahzaDoor

/-
  The walk of the law.
-/
import Derived.Test.YbulkahzaDoorLawH
import Derived.Deep.CutBlock
import Derived.Deep.CutRange
import Derived.BigQuiet
import Derived.Deep.RegionHeld3
namespace Go.Proofs.YbulkahzaDoor
open Go.RowKit Go.Maps
set_option linter.unusedVariables false
attribute [local go_sem ↓ high] len63 sv87 lv89 sv89 lv93 sv93 ap61 ap66 ap49 run_max
set_option maxHeartbeats 8000000 in
set_option maxRecDepth 1000000 in
theorem law_loop1 {G : Nat → Itm} {n cap bc off th fo et ia fa fb : Nat} {a0 : Option Addr} {w w0 : World} {p : Pl} {E Nn : Nat} {mf0 : Option Nat} {c44 c45 c46 c47 c48 c49 c50 c51 c52 c53 c54 c55 c56 c57 c58 c59 c60 c61 c62 c63 c64 c65 c66 c67 : Value} {J K : Act → World → Prop} (hn : n ≤ 300) (hin : Inp w a0 n bc off G) (hb : ia < 256 ∧ fa < 256 ∧ fb < 256) (htab : Lib.TabIs Ybad.prog w Ybad.powName .u64 Lib.pow10Tab) (hB0 : Bld w w0 G n p E Nn et fo mf0 (f0G ia) (fun _ => none) 0 0 0 0 0 0 0 (.slice none 0 0) (.slice none 0 0))
    (hJ : ∀ (a' : Act) (w' : World), (fun (a' : Act) (w' : World) => ∃ u19 u20 u21 u22 u23 u24 u25 u68 u69 u70 u71 u72 u73 u74 u75 u76 u77 u78 u79 u80 u81 u82 u83 u84 u85 u86 u87 u88 u89 u90 u91 u92 u93 u94 u95 u96 u97 u98 u99 u100 u101 u102 u103 u104 u105 u106 u107 u108 u109 u110 u111 u112 u113 u114 u115 u116 u117 u118 u119 u120 u121 u122 u123 u124 u125 u126 u127 u128 u129 u130 u131 u132 u133 u134 u135 u136 u137 u138 u139 u140 u141 u142 u143 u144 u145 u146 u147 u148 u149 u150 u151 u152 u153 u154 u155 u156 u157 u158 u159 u160 u161 u162 u163 u164 u165 u166 u167 : Value, (∃ A tv, Bld w w' G n p E Nn et fo mf0 (f0G ia) A n n n n n n n tv u19) ∧ a' = ⟨#[.slice a0 n cap, .int .u64 (th : Int), .int .u64 (fo : Int), .int .u64 (et : Int), .int .u8 (ia : Int), .int .u8 (fa : Int), .int .u8 (fb : Int), undef, undef, undef, undef, undef, undef, undef, .bool false, .pointer (some ⟨p.S, 0, none⟩), .int .i64 (n : Int), .slice (some ⟨E, 0, none⟩) n n, .slice (some ⟨Nn, 0, none⟩) n n, u19, u20, u21, u22, u23, u24, u25, undef, undef, undef, undef, undef, undef, undef, undef, undef, undef, undef, undef, undef, undef, undef, undef, undef, undef, c44, c45, c46, c47, c48, c49, c50, c51, c52, c53, c54, c55, c56, c57, c58, c59, c60, c61, c62, c63, c64, c65, c66, c67, u68, u69, u70, u71, u72, u73, u74, u75, u76, u77, u78, u79, u80, u81, u82, u83, u84, u85, u86, u87, u88, u89, u90, u91, u92, u93, u94, u95, u96, u97, u98, u99, u100, u101, u102, u103, u104, u105, u106, u107, u108, u109, u110, u111, u112, u113, u114, u115, u116, u117, u118, u119, u120, u121, u122, u123, u124, u125, u126, u127, u128, u129, u130, u131, u132, u133, u134, u135, u136, u137, u138, u139, u140, u141, u142, u143, u144, u145, u146, u147, u148, u149, u150, u151, u152, u153, u154, u155, u156, u157, u158, u159, u160, u161, u162, u163, u164, u165, u166, u167, undef, undef, undef, undef, undef, undef, undef, undef, undef, undef, undef, undef, undef, undef, undef, undef, undef, undef, undef, undef, undef, undef, undef, undef, undef, undef, undef, undef, undef, undef, undef, undef, undef, undef, undef, undef, undef, undef, undef, undef, undef, undef, undef, undef, undef, undef, undef, undef, undef, undef, undef, undef, undef, undef, undef, undef, undef, undef, undef, undef, undef, undef, undef, undef, undef, undef, undef, undef, undef, undef, undef, undef, undef, undef, undef, undef, undef, undef, undef, undef, undef, undef, undef, undef, undef, undef, undef, undef, undef, undef, undef, undef, undef, undef, undef, undef, undef, undef, undef, undef, undef, undef, undef, undef, undef, undef, undef, undef, undef, undef, undef, undef, undef, undef, undef, undef, undef, undef, undef, undef, undef, undef, undef, undef, undef, undef, undef, undef, undef, undef, undef, undef, undef, undef, undef, undef, undef, undef, undef, undef, undef, undef, undef, undef, undef, undef, undef, undef, undef, undef, undef, undef, undef, undef, undef, undef, undef, undef, undef, undef, undef, undef, undef, undef, undef, undef, undef, undef, undef, undef, undef, undef, undef, undef, undef, undef, undef, undef, undef, undef, undef, undef, undef, undef, undef, undef, undef, undef, undef, undef, undef, undef, undef, undef, undef, undef, undef, undef, undef, undef, undef, undef, undef, undef, undef, undef, undef, undef, undef, undef, undef, undef, undef, undef, undef, undef, undef, undef, undef, undef, undef, undef, undef, undef, undef, undef, undef, undef, undef, undef, undef, undef, undef, undef, undef, undef, undef, undef], []⟩) a' w' → J a' w') (hK : ∀ (a' : Act) (w' : World), Met J a' w' → K a' w') :
    let Q := bodyPost Ybad.prog Ybad.f4 (fun e w' => e = Ending.returned (Value.bool true) ∧ Below w.heap.size w w')
    Code.wp Ybad.prog (blk 0) (Exit.then K Q) ⟨#[.slice a0 n cap, .int .u64 (th : Int), .int .u64 (fo : Int), .int .u64 (et : Int), .int .u8 (ia : Int), .int .u8 (fa : Int), .int .u8 (fb : Int), undef, undef, undef, undef, undef, undef, undef, .bool false, .pointer (some ⟨p.S, 0, none⟩), .int .i64 (n : Int), .slice (some ⟨E, 0, none⟩) n n, .slice (some ⟨Nn, 0, none⟩) n n, .slice none 0 0, .int .u64 0, .int .i64 0, undef, undef, undef, undef, undef, undef, undef, undef, undef, undef, undef, undef, undef, undef, undef, undef, undef, undef, undef, undef, undef, undef, c44, c45, c46, c47, c48, c49, c50, c51, c52, c53, c54, c55, c56, c57, c58, c59, c60, c61, c62, c63, c64, c65, c66, c67, undef, undef, undef, undef, undef, undef, undef, undef, undef, undef, undef, undef, undef, undef, undef, undef, undef, undef, undef, undef, undef, undef, undef, undef, undef, undef, undef, undef, undef, undef, undef, undef, undef, undef, undef, undef, undef, undef, undef, undef, undef, undef, undef, undef, undef, undef, undef, undef, undef, undef, undef, undef, undef, undef, undef, undef, undef, undef, undef, undef, undef, undef, undef, undef, undef, undef, undef, undef, undef, undef, undef, undef, undef, undef, undef, undef, undef, undef, undef, undef, undef, undef, undef, undef, undef, undef, undef, undef, undef, undef, undef, undef, undef, undef, undef, undef, undef, undef, undef, undef, undef, undef, undef, undef, undef, undef, undef, undef, undef, undef, undef, undef, undef, undef, undef, undef, undef, undef, undef, undef, undef, undef, undef, undef, undef, undef, undef, undef, undef, undef, undef, undef, undef, undef, undef, undef, undef, undef, undef, undef, undef, undef, undef, undef, undef, undef, undef, undef, undef, undef, undef, undef, undef, undef, undef, undef, undef, undef, undef, undef, undef, undef, undef, undef, undef, undef, undef, undef, undef, undef, undef, undef, undef, undef, undef, undef, undef, undef, undef, undef, undef, undef, undef, undef, undef, undef, undef, undef, undef, undef, undef, undef, undef, undef, undef, undef, undef, undef, undef, undef, undef, undef, undef, undef, undef, undef, undef, undef, undef, undef, undef, undef, undef, undef, undef, undef, undef, undef, undef, undef, undef, undef, undef, undef, undef, undef, undef, undef, undef, undef, undef, undef, undef, undef, undef, undef, undef, undef, undef, undef, undef, undef, undef, undef, undef, undef, undef, undef, undef, undef, undef, undef, undef, undef, undef, undef, undef, undef, undef, undef, undef, undef, undef, undef, undef, undef, undef, undef, undef, undef, undef, undef, undef, undef, undef, undef, undef, undef, undef, undef, undef, undef, undef, undef, undef, undef, undef, undef, undef, undef, undef, undef, undef, undef, undef, undef, undef, undef, undef, undef, undef, undef, undef, undef, undef, undef, undef, undef, undef, undef, undef, undef, undef, undef, undef, undef, undef, undef, undef, undef, undef, undef, undef, undef, undef, undef, undef, undef, undef, undef, undef, undef, undef, undef, undef, undef, undef, undef], []⟩ w0 := by
  intro Q
  conv => arg 2; whnf
  have hmk := @run_makeMap Ybad.prog
  have HB0 := hide hB0
  have HIN := hide hin
  have HTAB := hide htab
  have HB := hide hb
  clear hB0 hin htab hb
  go_wp2_with fail
  go_loopw [19, 20, 21] (fun av e i wr => ∃ k : Nat, k ≤ n ∧ i = .int .i64 k ∧ e = .int .u64 (ep G k : Int) ∧ ∃ A tv, Bld w wr G n p E Nn et fo mf0 (f0G ia) A k k k k k k k tv av) (fun _ _ i _ => n - (intOf i).toNat)
  case atStart => exact ⟨0, Nat.zero_le _, rfl, rfl, _, _, HB0.out⟩
  case round =>
    obtain ⟨k, hk, rfl, rfl, A, tv, hbl⟩ := hrel
    clear HB0
    have BL := hide hbl
    by_cases hlt : k < n
    · obtain rfl := HIN.out.at0 (by omega)
      have hbc := World.block_lt_of_cell? _ _ (HIN.out.gap k hlt)
      have hc0 := (hbl.bel.cell (p := ⟨bc, off + k * 5, none⟩) hbc).trans (HIN.out.gap k hlt)
      have hc1 := (hbl.bel.cell (p := ⟨bc, off + k * 5 + 1, none⟩) hbc).trans (HIN.out.st k hlt)
      have hc2 := (hbl.bel.cell (p := ⟨bc, off + k * 5 + 2, none⟩) hbc).trans (HIN.out.listed k hlt)
      have hc3 := (hbl.bel.cell (p := ⟨bc, off + k * 5 + 3, none⟩) hbc).trans (HIN.out.node k hlt)
      have hc4 := (hbl.bel.cell (p := ⟨bc, off + k * 5 + 4, none⟩) hbc).trans (HIN.out.hist k hlt)
      have hki : (k : Int) < (n : Int) := by omega
      have hel := hbl.rE.lt
      have hnl := hbl.rN.lt
      have hce : wr.cell? ⟨E, k, none⟩ = some (.int .u64 0) := by
        have := hbl.rE.cell hlt
        simpa using this
      have hfe := hbl.rE.frozen k
      have hgl := HIN.out.lt k hlt
      have hep := ep_le G k
      have hep1 : Hid (ep G (k + 1) = ep G k + (1 + (G k).gap % 4)) := hide rfl
      clear hbl
      have hd : (Lib.itoa (k : Int)).length ≤ 3 := by rw [itoa_nat]; exact digits300 k (by omega)
      obtain ⟨y, hy⟩ : ∃ y, y = ep G (k + 1) := ⟨_, rfl⟩
      have hyb := ep_le G (k + 1)
      rw [← hy] at hyb hep1
      generalize hg : (G k).gap = gp at *
      generalize hs : (G k).st = sp at *
      generalize hl : (G k).listed = lp at *
      generalize hnd : (G k).node = np at *
      generalize hh : (G k).hist = hp at *
      generalize hx : ep G k = x at *
      have hxe : (x : Int) + (1 + (gp : Int) % 4) = (y : Int) := by rw [hep1.out]; omega
      have hbla := BL.out.setE hlt
      rw [← hy] at hbla
      have BLa := hide (hbla.below (w2 := (wr.setCell ⟨E, k, none⟩ (.int .u64 (y : Int))).alloc (.cells #[.int .u8 (gp : Int), .int .u8 (sp : Int), .bool lp, .bool np, .int .u8 (hp : Int)] 69)) ((Below.refl _ _).alloc (Nat.le_refl _) _))
      clear hbla
      have htb := hide (tabIs_below HTAB.out BLa.out.bel)
      have hit : Hid (((wr.setCell ⟨E, k, none⟩ (.int .u64 (y : Int))).alloc (.cells #[.int .u8 (gp : Int), .int .u8 (sp : Int), .bool lp, .bool np, .int .u8 (hp : Int)] 69)).heap[wr.heap.size]? = some (.cells #[.int .u8 (gp : Int), .int .u8 (sp : Int), .bool lp, .bool np, .int .u8 (hp : Int)] 69 (0, 0))) := hide (by
        have h := (MapKept.heap_alloc (wr.setCell ⟨E, k, none⟩ (.int .u64 (y : Int))) (.cells #[.int .u8 (gp : Int), .int .u8 (sp : Int), .bool lp, .bool np, .int .u8 (hp : Int)] 69)).1
        have e : (wr.setCell ⟨E, k, none⟩ (.int .u64 (y : Int))).heap.size = wr.heap.size := by simp [World.setCell]
        rw [e] at h
        exact h)
      have hsz := hide (Array.getElem?_eq_some_iff.1 hit.out).1
      have HY := hide hy
      have HGL := hide (And.intro hg (And.intro hs (And.intro hl (And.intro hnd hh))))
      clear hg hs hl hnd hh hy
      go_upto_if 95 with (go_at_call 7; (refine (itoa_any k (by omega) _ htb.out).mono ?_; rintro e w1 ⟨rfl, hb1⟩; have BLb := hide (BLa.out.below hb1); have HI1 := hide ((hb1.block wr.heap.size hsz.out).trans hit.out); have hcn : w1.cell? ⟨Nn, k, none⟩ = some (.string eS) := (by have := BLb.out.rN.cell hlt; simpa using this); have hfn := BLb.out.rN.frozen k; have hi3 : w1.cell? ⟨wr.heap.size, 3, none⟩ = some (.bool np) := (by simp only [World.cell?, HI1.out]; rfl); clear hb1))
      go_cut [23] from 94 to 95 (fun nv wx => nv = .string (ndG (G k)) ∧ Bld w wx G n p E Nn et fo mf0 (f0G ia) A (k + 1) (k + 1) k k k k k tv u19 ∧ wx.heap[wr.heap.size]? = some (.cells #[.int .u8 (gp : Int), .int .u8 (sp : Int), .bool lp, .bool np, .int .u8 (hp : Int)] 69 (0, 0)))
      case first =>
        cases np with
        | true =>
          go_wp2_with fail
          go_meet
          refine ⟨?_, BLb.out.setN hlt, (Below.heap_setCell _ _ _ _ (by show wr.heap.size ≠ Nn; omega)).trans HI1.out⟩
          unfold ndG
          rw [HGL.out.2.2.2.1]; rfl
        | false =>
          go_wp2_with fail
          go_meet
          refine ⟨?_, BLb.out.setN hlt, (Below.heap_setCell _ _ _ _ (by show wr.heap.size ≠ Nn; omega)).trans HI1.out⟩
          unfold ndG
          rw [HGL.out.2.2.2.1]; rfl
      case rest =>
        obtain ⟨rfl, hblc, hic⟩ := hcut
        have BC := hide hblc
        have HIC := hide hic
        have hibl : wr.heap.size < wc.heap.size := (Array.getElem?_eq_some_iff.1 hic).1
        clear BL BLa htb hit hsz BLb HI1 hcn hfn hi3 hblc hic hc0 hc1 hc2 hc3 hc4 hce hfe hel hnl hbc
        generalize hIB : wr.heap.size = IB at *
        have hnsz := nmG_size k (by omega)
        go_upto_region 21 with fail
        go_cut [24] from 96 to 110 (fun tp wx => ∃ T b, tp = .pointer (some ⟨T, 0, none⟩) ∧ Bld w wx G n p E Nn et fo mf0 (f0G ia) (fun j => if j = k then some b else A j) (k + 1) (k + 1) (k + 1) k k k k tv u19 ∧ wx.heap[T]? = some (.cells (tombC (nmG k) (ep G (k + 1)) (some b)) 89 (0, 0)) ∧ wx.heap[IB]? = some (.cells #[.int .u8 (gp : Int), .int .u8 (sp : Int), .bool lp, .bool np, .int .u8 (hp : Int)] 69 (0, 0)))
        case first =>
          have hk4 : wc.cell? ⟨IB, 4, none⟩ = some (.int .u8 (hp : Int)) := by simp only [World.cell?, HIC.out]; rfl
          have hcN : wc.cell? ⟨Nn, k, none⟩ = some (.string (nmG k)) := by
            have := BC.out.rN.cell hlt
            simpa using this
          have hnl := BC.out.rN.lt
          have hns := ndG_size (G k)
          have hnk := ndG_key (G k)
          have hz : zTomb = zTomb := rfl
          obtain ⟨w2, hi1, hb1, hs1, hf1⟩ := newT1 wc (ndG (G k)) (nmG k) (hp + 1) y hns (by omega) (by omega) hnk
          obtain ⟨w3, w3', hi2, hb2, hs2, hf2⟩ := newT2 wc (ndG (G k)) (nmG k) (hp + 1) y hns (by omega) (by omega) hnk
          obtain ⟨w4, w4', hi3, hb3, hs3, hf3⟩ := newT3 wc (ndG (G k)) (nmG k) (hp + 1) y hns (by omega) (by omega) hnk
          rw [show ((hp + 1 : Nat) : Int) = (hp : Int) + 1 by omega] at hi1 hi2 hi3
          have fin : Hid (∀ (wf : World) (b T : Nat), Fin3 wc wf b T (ndG (G k)) (nmG k) (hp + 1) y → ∃ T' b', (Value.pointer (some ⟨T, 0, none⟩)) = .pointer (some ⟨T', 0, none⟩) ∧ Bld w wf G n p E Nn et fo mf0 (f0G ia) (fun j => if j = k then some b' else A j) (k + 1) (k + 1) (k + 1) k k k k tv u19 ∧ wf.heap[T']? = some (.cells (tombC (nmG k) (ep G (k + 1)) (some b')) 89 (0, 0)) ∧ wf.heap[IB]? = some (.cells #[.int .u8 (gp : Int), .int .u8 (sp : Int), .bool lp, .bool np, .int .u8 (hp : Int)] 69 (0, 0))) := hide fun wf b T hf => by
            refine ⟨T, b, rfl, BC.out.newA (Nat.le_refl _) hf.lt hf.bel (by rw [HGL.out.2.2.2.2]; exact hf.vec), by rw [← HY.out]; exact hf.tomb, (hf.bel.block _ hibl).trans HIC.out⟩
          have HF1 := hide hf1
          have HF2 := hide hf2
          have HF3 := hide hf3
          have e1 := (Below.cell hb1 (p := ⟨Nn, k, none⟩) hnl).trans hcN
          have i1 := (Below.cell hb1 (p := ⟨IB, 4, none⟩) hibl).trans hk4
          have e2 := (Below.cell hb2 (p := ⟨Nn, k, none⟩) hnl).trans hcN
          have i2 := (Below.cell hb2 (p := ⟨IB, 4, none⟩) hibl).trans hk4
          have e3 := (Below.cell hb3 (p := ⟨Nn, k, none⟩) hnl).trans hcN
          have i3 := (Below.cell hb3 (p := ⟨IB, 4, none⟩) hibl).trans hk4
          have e5 := (Below.cell HF2.out.bel (p := ⟨Nn, k, none⟩) hnl).trans hcN
          have i5 := (Below.cell HF2.out.bel (p := ⟨IB, 4, none⟩) hibl).trans hk4
          have e6 := (Below.cell HF3.out.bel (p := ⟨Nn, k, none⟩) hnl).trans hcN
          have i6 := (Below.cell HF3.out.bel (p := ⟨IB, 4, none⟩) hibl).trans hk4
          have e4 := (Below.cell HF1.out.bel (p := ⟨Nn, k, none⟩) hnl).trans hcN
          have i4 := (Below.cell HF1.out.bel (p := ⟨IB, 4, none⟩) hibl).trans hk4
          have z1 := Nat.lt_of_lt_of_le hnl hb1.size
          have z2 := Nat.lt_of_lt_of_le hibl hb1.size
          have hw1 : IntKind.u64.wrap (hp : Int) = (hp : Int) := by rw [IntKind.wrap_u64]; omega
          have hw2 : IntKind.u64.wrap ((hp : Int) + 1) = (hp : Int) + 1 := by rw [IntKind.wrap_u64]; omega
          clear hf1 hf2 hf3 hns hnk hz hb1 hb2 hb3
          generalize ndG (G k) = nd at *
          generalize hnmk : nmG k = nmk at *
          go_region_held3 (fun w' => w'.cell? ⟨Nn, k, none⟩ = some (.string nmk) ∧ w'.cell? ⟨IB, 4, none⟩ = some (.int .u8 (hp : Int))) (go_keep) (fail)
          all_goals (try go_wp2_with fail)
          all_goals go_meet
          all_goals first | exact fin.out _ _ _ HF1.out | exact fin.out _ _ _ HF2.out | exact fin.out _ _ _ HF3.out
        case rest =>
          obtain ⟨T, b, rfl, hbld, hT, hic⟩ := hcut
          clear BC HIC hibl
          generalize hA' : (fun j => if j = k then some b else A j) = A' at hbld
          have HA' := hide (show A' k = some b by rw [← hA']; simp)
          clear hA'
          have BD := hide hbld
          have HT := hide hT
          have HIC := hide hic
          have hibl : IB < wc.heap.size := (Array.getElem?_eq_some_iff.1 hic).1
          clear hbld hT hic
          go_upto_region 22 with fail
          go_cut [] from 111 to 120 (fun wx => ∃ tv', Bld w wx G n p E Nn et fo mf0 (f0G ia) A' (k + 1) (k + 1) (k + 1) (k + 1) k k k tv' u19 ∧ wx.heap[IB]? = some (.cells #[.int .u8 (gp : Int), .int .u8 (sp : Int), .bool lp, .bool np, .int .u8 (hp : Int)] 69 (0, 0)))
          case first =>
            have c32 : wc.cell? ⟨p.S, 32, none⟩ = some tv := BD.out.st.cell 32
            have hSl := BD.out.st.lt
            have hld := load89_at (w := wc.drew) (b := T) (o := 0) (range_block HT.out)
            have hld2 := load89_at (w := wc) (b := T) (o := 0) (range_block HT.out)
            have hb5 : Below wc.heap.size wc (wc.alloc (.cells (tombC (nmG k) (ep G (k + 1)) (some b)) 89)).drew := ((Below.refl _ _).alloc (Nat.le_refl _) _).drew
            have hb6 := BD.out.below hb5
            obtain ⟨v', w5, hap, hown, hgr⟩ := append89 (wc.alloc (.cells (tombC (nmG k) (ep G (k + 1)) (some b)) 89)).drew (itF G A') w.heap.size 61 tv (List.range k) [k] (by rw [List.length_range]; exact hb6.tomb) (some ⟨wc.heap.size, 0, none⟩) wc.heap.size 0 1 (.inl ⟨_, rfl, fun _ => rfl⟩) (fun r hr => (by
              obtain rfl : r = 0 := by simpa using hr
              have e : (itF G A').tb k = tombC (nmG k) (ep G (k + 1)) (some b) := by show tombC _ _ (A' k) = _; rw [HA'.out]
              show (wc.alloc (.cells (tombC (nmG k) (ep G (k + 1)) (some b)) 89)).rangeAt wc.heap.size 0 ((itF G A').tb k).toList
              rw [e]
              exact range_block (t := 89) (MapKept.heap_alloc wc _).1)) (by simp; omega) hb6.bel.size
            obtain ⟨aV, nV, cV, rfl⟩ : ∃ a n c, v' = .slice a n c := by
              rcases hown.2 with ⟨rfl, _⟩ | ⟨g, cap, cur, rfl, _⟩
              · exact ⟨_, _, _, rfl⟩
              · exact ⟨_, _, _, rfl⟩
            simp only [List.length_cons, List.length_nil, Nat.zero_add] at hap
            have hne : ¬ tv.ownBlock = some p.S := fun e => by
              have h1 := own_knd BD.out.tomb e
              rw [BD.out.st.knd] at h1
              cases h1
            have hS5 : StoreAt w5 p.S et fo p.F p.C tv (.map mf0) := hb6.st.of_block (hgr.block _ hb6.st.lt (fun e => hne e.symm))
            have d32 : w5.cell? ⟨p.S, 32, none⟩ = some tv := hS5.cell 32
            have f32 := hS5.frozen 32
            have HFIN := hide (hb6.tombs (by simpa [List.range_succ] using hown) hgr hgr.size)
            have HI5 : Hid (w5.heap[IB]? = some (.cells #[.int .u8 (gp : Int), .int .u8 (sp : Int), .bool lp, .bool np, .int .u8 (hp : Int)] 69 (0, 0))) := hide (by
              have hl6 : IB < (wc.alloc (.cells (tombC (nmG k) (ep G (k + 1)) (some b)) 89)).drew.heap.size := Nat.lt_of_lt_of_le hibl hb5.size
              have hi6 : (wc.alloc (.cells (tombC (nmG k) (ep G (k + 1)) (some b)) 89)).drew.heap[IB]? = some (.cells #[.int .u8 (gp : Int), .int .u8 (sp : Int), .bool lp, .bool np, .int .u8 (hp : Int)] 69 (0, 0)) := (hb5.block _ hibl).trans HIC.out
              refine (hgr.block _ hl6 (fun e => ?_)).trans hi6
              have h1 := own_knd hb6.tomb e.symm
              rw [knd_cells hi6] at h1
              cases h1)
            have hSI : IB ≠ p.S := ne_of_knd (knd_cells HIC.out) BD.out.st.knd (by simp)
            clear hb5 hb6 hown hgr hS5 hne
            go_region
            all_goals (try go_wp2_with fail)
            all_goals go_meet
            all_goals exact ⟨_, HFIN.out, (Below.heap_setCell _ _ _ _ hSI).trans HI5.out⟩
          case rest =>
            obtain ⟨tv', hbld, hic⟩ := hcut
            clear BD HT HIC hibl HA'
            have BE := hide hbld
            have HIC := hide hic
            have hk1 : wc.cell? ⟨IB, 1, none⟩ = some (.int .u8 (sp : Int)) := by simp only [World.cell?, hic]; rfl
            clear hbld hic
            go_upto_if 125 with fail
            go_cut [] from 124 to 146 (fun wx => Bld w wx G n p E Nn et fo mf0 (f0G ia) A' (k + 1) (k + 1) (k + 1) (k + 1) (k + 1) k k tv' u19 ∧ wx.heap[IB]? = some (.cells #[.int .u8 (gp : Int), .int .u8 (sp : Int), .bool lp, .bool np, .int .u8 (hp : Int)] 69 (0, 0)))
            case first =>
              have c15 : wc.cell? ⟨p.S, 15, none⟩ = some (.map (some p.F)) := BE.out.st.cell 15
              have hcN : wc.cell? ⟨Nn, k, none⟩ = some (.string (nmG k)) := by
                have := BE.out.rN.cell hlt
                simpa using this
              have hIF : IB ≠ p.F := by
                obtain ⟨g, hF, _⟩ := BE.out.files
                exact ne_of_knd (knd_cells HIC.out) hF.knd (by simp)
              have hibl : IB < wc.heap.size := (Array.getElem?_eq_some_iff.1 HIC.out).1
              have hb7 : Below wc.heap.size wc wc.drew := (Below.refl _ _).drew
              have hw1 : IntKind.u64.wrap ((y : Int) + 1) = (y : Int) + 1 := by rw [IntKind.wrap_u64]; omega
              by_cases h2 : sp % 3 = 2
              · obtain ⟨w6, hrun, hbl6, hz6, hk6⟩ := (BE.out.below hb7).file (by omega) 0
                have hfe : feG G k = y + 1 := by
                  unfold feG
                  rw [HGL.out.2.1, if_pos h2, ← HY.out]
                rw [hfe] at hrun
                simp only [fileC] at hrun
                rw [show ((y + 1 : Nat) : Int) = (y : Int) + 1 by omega] at hrun
                have HBL6 := hide hbl6
                have HI6 := hide ((hk6 IB hibl hIF).trans HIC.out)
                have h2i : (sp : Int) % 3 = 2 := by omega
                clear hbl6 hk6 hz6 hfe hb7
                generalize nmG k = nmk at *
                go_wp2_with fail
                go_region
                all_goals (try go_wp2_with fail)
                all_goals go_meet
                all_goals exact ⟨HBL6.out, HI6.out⟩
              · obtain ⟨w6, hrun, hbl6, hz6, hk6⟩ := (BE.out.below hb7).file (by omega) 1
                have hfe : feG G k = y := by
                  unfold feG
                  rw [HGL.out.2.1, if_neg h2, ← HY.out]
                rw [hfe] at hrun
                have HBL6 := hide hbl6
                have HI6 := hide ((hk6 IB hibl hIF).trans HIC.out)
                have h2i : ¬ (sp : Int) % 3 = 2 := by omega
                have h2b : ((sp : Int) % 3 == 2) = false := beq_eq_false_iff_ne.2 h2i
                clear hbl6 hk6 hz6 hfe hb7
                generalize nmG k = nmk at *
                go_wp2_with fail
                go_region
                all_goals (try go_wp2_with fail)
                all_goals go_meet
                all_goals exact ⟨HBL6.out, HI6.out⟩
            case rest =>
              obtain ⟨hbld, hic⟩ := hcut
              clear BE HIC hk1
              have BF := hide hbld
              have HIC := hide hic
              clear hbld hic
              go_upto_if 148 with fail
              go_cut [] from 147 to 161 (fun wx => Bld w wx G n p E Nn et fo mf0 (f0G ia) A' (k + 1) (k + 1) (k + 1) (k + 1) (k + 1) (k + 1) k tv' u19 ∧ wx.heap[IB]? = some (.cells #[.int .u8 (gp : Int), .int .u8 (sp : Int), .bool lp, .bool np, .int .u8 (hp : Int)] 69 (0, 0)))
              case first =>
                have c20 : wc.cell? ⟨p.S, 20, none⟩ = some (.map (some p.C)) := BF.out.st.cell 20
                have hcN : wc.cell? ⟨Nn, k, none⟩ = some (.string (nmG k)) := by
                  have := BF.out.rN.cell hlt
                  simpa using this
                have hIF : IB ≠ p.C := by
                  obtain ⟨g, hF, _⟩ := BF.out.conf
                  exact ne_of_knd (knd_cells HIC.out) hF.knd (by simp)
                have hibl : IB < wc.heap.size := (Array.getElem?_eq_some_iff.1 HIC.out).1
                have hb7 : Below wc.heap.size wc wc.drew := (Below.refl _ _).drew
                by_cases h1 : sp % 3 = 1
                · have hcf : cfG G k = true := by unfold cfG; rw [HGL.out.2.1, h1]; rfl
                  obtain ⟨w6, hrun, hbl6, hz6, hk6⟩ := (BF.out.below hb7).confl (by omega) hcf (nmG k)
                  have HBL6 := hide hbl6
                  have HI6 := hide ((hk6 IB hibl hIF).trans HIC.out)
                  have h1i : (sp : Int) % 3 = 1 := by omega
                  clear hbl6 hk6 hz6 hb7 hcf
                  generalize nmG k = nmk at *
                  go_wp2_with fail
                  go_region
                  all_goals (try go_wp2_with fail)
                  all_goals go_meet
                  all_goals exact ⟨HBL6.out, HI6.out⟩
                · have hcf : cfG G k = false := by unfold cfG; rw [HGL.out.2.1]; exact beq_eq_false_iff_ne.2 h1
                  have HBL6 := hide (BF.out.noConfl hcf)
                  have h1i : ¬ (sp : Int) % 3 = 1 := by omega
                  have h1b : ((sp : Int) % 3 == 1) = false := beq_eq_false_iff_ne.2 h1i
                  clear hb7 hcf
                  go_wp2_with fail
                  go_meet
                  exact ⟨HBL6.out, HIC.out⟩
              case rest =>
                obtain ⟨hbld, hic⟩ := hcut
                clear BF HIC
                have BI := hide hbld
                have hk2 : wc.cell? ⟨IB, 2, none⟩ = some (.bool lp) := by simp only [World.cell?, hic]; rfl
                clear hbld hic
                cases lp with
                | false =>
                  have BJ := hide (BI.out.noListed HGL.out.2.2.1)
                  go_wp2
                  go_roundw
                  case rel => exact ⟨k + 1, by omega, by go_num, by rw [← HY.out], A', tv', BJ.out⟩
                  case measure => simp [intOf]; omega
                | true =>
                  have hb8 : Below wc.heap.size wc (wc.alloc (.cells #[.int .u64 (y : Int)] 22)) := (Below.refl _ _).alloc (Nat.le_refl _) _
                  have hb9 := BI.out.below hb8
                  have hls := lsG_le G k
                  obtain ⟨v', w7, hap, hown, hgr, hat⟩ := append1 66 22 .u64 Ybad.underlying66 (by kernel_rfl) (wc.alloc (.cells #[.int .u64 (y : Int)] 22)) w.heap.size 66 u19 ((lsG G k).map (fun j => Value.int .u64 (ep G (j + 1) : Int))) (by rw [List.length_map]; exact hb9.abv) wc.heap.size (y : Int) (by rw [World.cell?_alloc_new]; rfl) (by rw [List.length_map]; omega) hb9.bel.size
                  have BJ := hide (hb9.listed (av' := v') HGL.out.2.2.1 (by rw [List.length_map] at hown; rw [← HY.out]; exact hown) hgr (by
                    rcases hat with e | e
                    · exact .inl e
                    · exact .inr ⟨_, e, Nat.le_refl _⟩))
                  clear hb8 hb9 hown hgr hat
                  go_wp2
                  go_roundw
                  case rel => exact ⟨k + 1, by omega, by go_num, by rw [← HY.out], A', tv', BJ.out⟩
                  case measure => simp [intOf]; omega
    · obtain rfl : k = n := by omega
      clear hbl
      go_wp2
      go_meet
      exact ⟨A, tv, BL.out⟩
end Go.Proofs.YbulkahzaDoor

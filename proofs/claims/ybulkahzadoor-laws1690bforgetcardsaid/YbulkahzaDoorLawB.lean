/-
  The walk of the law.
-/
import Derived.Test.YbulkahzaDoorLawB1
import Derived.Test.YbulkahzaDoorLawB3
import Derived.Deep.CutBlock
import Derived.Deep.CutRange
import Derived.BigQuiet
import Derived.Deep.RegionHeld3
namespace Go.Proofs.YbulkahzaDoor
open Go.RowKit Go.Maps
set_option linter.unusedVariables false
attribute [local go_sem ↓ high] len63 sv87 lv89 sv89 lv93 sv93 ap61 ap66 ap49 run_max
set_option maxHeartbeats 8000000 in
set_option maxRecDepth 100000 in
theorem law_small {G : Nat → Itm} {n cap bc off th fo et ia fa fb : Nat} {a0 : Option Addr} {w : World} (hn : n ≤ 300) (hin : Inp w a0 n bc off G) (hb : ia < 256 ∧ fa < 256 ∧ fb < 256) (hu : th < 18446744073709551616 ∧ fo < 18446744073709551616 ∧ et < 18446744073709551616) (htab : Lib.TabIs Ybad.prog w Ybad.powName .u64 Lib.pow10Tab) :
    Calls Ybad.prog 4 #[.slice a0 n cap, .int .u64 (th : Int), .int .u64 (fo : Int), .int .u64 (et : Int), .int .u8 (ia : Int), .int .u8 (fa : Int), .int .u8 (fb : Int)] w fun e w' => e = .returned (.bool true) ∧ Below w.heap.size w w' := by
  have hmk := @run_makeMap Ybad.prog
  have hn1 : ¬ ((300 : Int) < (n : Int)) := by omega
  have HIN := hide hin
  have HTAB := hide htab
  have HU := hide hu
  have HB := hide hb
  clear hin htab hu hb
  go_enter Ybad.func4, Ybad.ntmps4
  go_upto_if 54 with fail
  go_cut [] from 47 to 61 (fun wx => ∃ mf0, StoreAt wx (w.heap.size + 1 + 1) et fo w.heap.size (w.heap.size + 1) (.slice none 0 0) (.map mf0) ∧ Vec wx 0 (.map mf0) (f0G ia) ∧ Files wx w.heap.size 0 (fun _ => none) ∧ Confs wx (w.heap.size + 1) 0 (fun _ => false) ∧ Below w.heap.size w wx ∧ mf0 ≠ some w.heap.size ∧ mf0 ≠ some (w.heap.size + 1) ∧ w.heap.size + 3 ≤ wx.heap.size)
  case first =>
    have hF3 : Files (((w.alloc (Obj.map #[] 0)).alloc (Obj.map #[] 0)).alloc (.cells (stC et fo w.heap.size (w.heap.size + 1) (.slice none 0 0) (.map none)) 65)) w.heap.size 0 (fun _ => none) := ((Files.made w).alloc _).alloc _
    have hC3 : Confs (((w.alloc (Obj.map #[] 0)).alloc (Obj.map #[] 0)).alloc (.cells (stC et fo w.heap.size (w.heap.size + 1) (.slice none 0 0) (.map none)) 65)) (w.heap.size + 1) 0 (fun _ => false) := by
      have := (Confs.made (w.alloc (Obj.map #[] 0))).alloc (.cells (stC et fo w.heap.size (w.heap.size + 1) (.slice none 0 0) (.map none)) 65)
      rw [World.size_alloc] at this
      exact this
    have hS3 : StoreAt (((w.alloc (Obj.map #[] 0)).alloc (Obj.map #[] 0)).alloc (.cells (stC et fo w.heap.size (w.heap.size + 1) (.slice none 0 0) (.map none)) 65)) (w.heap.size + 1 + 1) et fo w.heap.size (w.heap.size + 1) (.slice none 0 0) (.map none) := by
      have := (MapKept.heap_alloc ((w.alloc (Obj.map #[] 0)).alloc (Obj.map #[] 0)) (.cells (stC et fo w.heap.size (w.heap.size + 1) (.slice none 0 0) (.map none)) 65)).1
      rw [World.size_alloc, World.size_alloc] at this
      exact this
    have hB3 : Below w.heap.size w (((w.alloc (Obj.map #[] 0)).alloc (Obj.map #[] 0)).alloc (.cells (stC et fo w.heap.size (w.heap.size + 1) (.slice none 0 0) (.map none)) 65)) := (((Below.refl _ _).alloc (Nat.le_refl _) _).alloc (by simp) _).alloc (by simp; omega) _
    have hz3 : (((w.alloc (Obj.map #[] 0)).alloc (Obj.map #[] 0)).alloc (.cells (stC et fo w.heap.size (w.heap.size + 1) (.slice none 0 0) (.map none)) 65)).heap.size = w.heap.size + 1 + 1 + 1 := by simp
    have hiab := HB.out.1
    by_cases hia : 0 < ia
    · obtain ⟨w4, hst, hV4, hg4, hs4⟩ := Vec.single_plain (((w.alloc (Obj.map #[] 0)).alloc (Obj.map #[] 0)).alloc (.cells (stC et fo w.heap.size (w.heap.size + 1) (.slice none 0 0) (.map none)) 65)) 0 (Nat.zero_le _) sA (by decide) ia hia (by omega) (.inl rfl)
      rw [hz3] at hst hV4 hs4
      have hia2 : (0 : Int) < (ia : Int) := by omega
      have hwr : IntKind.u64.wrap (ia : Int) = ia := by rw [IntKind.wrap_u64]; omega
      have hS4 : StoreAt w4 (w.heap.size + 1 + 1) et fo w.heap.size (w.heap.size + 1) (.slice none 0 0) (.map none) := hS3.of_block (hg4.block _ hS3.lt (by simp))
      have c33 : w4.cell? ⟨w.heap.size + 1 + 1, 33, none⟩ = some (.map none) := hS4.cell 33
      have f33 := hS4.frozen 33
      have HS4 := hide hS4
      have HV4 := hide hV4
      have HF4 := hide (hF3.of_block (hg4.block _ hF3.lt (by simp)))
      have HC4 := hide (hC3.of_block (hg4.block _ hC3.lt (by simp)))
      have HB4 := hide (show Below w.heap.size w w4 from hB3.trans ⟨hg4.os, hg4.tape, hg4.output, hg4.size, fun k hk => hg4.block k (by rw [hz3]; omega) (by simp)⟩)
      have HZ4 := hide hs4
      clear hS4 hV4 hF3 hC3 hB3 hS3 hg4 hs4
      go_wp2_with fail
      go_meet
      refine ⟨some (w.heap.size + 1 + 1 + 1), HS4.out.setFloor _, ?_, HF4.out.of_block (Below.heap_setCell _ _ _ _ (by show w.heap.size ≠ w.heap.size + 1 + 1; omega)), HC4.out.of_block (Below.heap_setCell _ _ _ _ (by show w.heap.size + 1 ≠ w.heap.size + 1 + 1; omega)), HB4.out.trans ((Below.refl _ _).setCell (by show w.heap.size ≤ w.heap.size + 1 + 1; omega) _), by simp; omega, by simp; omega, by have := HZ4.out; simp [World.setCell]; omega⟩
      unfold f0G
      rw [if_pos hia]
      exact HV4.out.of_block (fun b hb _ _ => Below.heap_setCell _ _ _ _ (by cases hb; show w.heap.size + 1 + 1 + 1 ≠ w.heap.size + 1 + 1; omega))
    · obtain rfl : ia = 0 := by omega
      have HS3 := hide hS3
      have HF3 := hide hF3
      have HC3 := hide hC3
      have HB3 := hide hB3
      clear hS3 hF3 hC3 hB3
      go_wp2_with fail
      go_meet
      have e0 : f0G 0 = fun _ => 0 := by unfold f0G; rw [if_neg (by omega)]
      exact ⟨none, HS3.out, by rw [e0]; exact ⟨sup_zero, .inl ⟨rfl, fun _ => rfl⟩⟩, HF3.out, HC3.out, HB3.out, by simp, by simp, by simp⟩
  case rest =>
    obtain ⟨mf0, hS, hV, hF, hC, hBw, hm1, hm2, hz⟩ := hcut
    have hmE := mkE n hn
    have hmN := mkN n hn
    have hB0 : Bld w ((wc.alloc (.cells (madeCells #[.int .u64 0] n) 22)).alloc (.cells (madeCells #[.string eS] n) 9)) G n ⟨w.heap.size + 1 + 1, w.heap.size, w.heap.size + 1, n⟩ wc.heap.size (wc.heap.size + 1) et fo mf0 (f0G ia) (fun _ => none) 0 0 0 0 0 0 0 (.slice none 0 0) (.slice none 0 0) := by
      have hb1 : Below wc.heap.size wc ((wc.alloc (.cells (madeCells #[.int .u64 0] n) 22)).alloc (.cells (madeCells #[.string eS] n) 9)) := ((Below.refl _ _).alloc (Nat.le_refl _) _).alloc (by simp) _
      have hf : Frm wc ((wc.alloc (.cells (madeCells #[.int .u64 0] n) 22)).alloc (.cells (madeCells #[.string eS] n) 9)) (fun _ => False) := Frm.of_below hb1
      refine ⟨hS.of_block (hb1.block _ hS.lt), hf.vec hV (fun _ _ e => e), ⟨_, hF.of_block (hb1.block _ hF.lt), fun j hj => by omega⟩, ⟨_, hC.of_block (hb1.block _ hC.lt), fun j => by simp⟩, fun j hj => by omega, fun j hj => by omega, ⟨hm1, hm2⟩, by show w.heap.size + 1 ≠ w.heap.size; omega, World.ownsRow_nil _ _ _ _, World.ownsRow_nil _ _ _ _, ?_, ?_, by simp [Value.ownBlock], hBw.trans (hb1.mono hBw.size), by show w.heap.size ≤ w.heap.size + 1 + 1; omega, by show w.heap.size ≤ w.heap.size; omega, by show w.heap.size ≤ w.heap.size + 1; omega, hBw.size, by have := hBw.size; omega⟩
      · exact ((World.rowIs_made wc (.int .u64 0) n 22).alloc _).congr (fun j _ => by simp)
      · have := World.rowIs_made (wc.alloc (.cells (madeCells #[.int .u64 0] n) 22)) (.string eS) n 9
        rw [World.size_alloc] at this
        exact this.congr (fun j _ => by simp)
    have HB0 := hide hB0
    have HZ := hide hz
    clear hS hV hF hC hBw hm1 hm2 hB0 hz
    generalize hp : (⟨w.heap.size + 1 + 1, w.heap.size, w.heap.size + 1, n⟩ : Pl) = p at HB0
    have HP := hide hp
    clear hp
    go_upto_block 0 with fail
    have hpS : w.heap.size + 1 + 1 = p.S := congrArg Pl.S HP.out
    have hnF : p.nF = n := (congrArg Pl.nF HP.out).symm
    rw [hpS]
    have HNF := hide hnF
    clear hpS hnF HP HZ
    generalize hE : wc.heap.size = E at HB0 ⊢
    generalize hNn : E + 1 = Nn at HB0 ⊢
    have HNE := hide (show E ≠ Nn by omega)
    clear hE hNn hmE hmN
    go_cut [19] from 68 to 69 (fun av wx => ∃ A tv, Bld w wx G n p E Nn et fo mf0 (f0G ia) A n n n n n n n tv av)
    case first =>
      exact law_loop1 hn HIN.out HB.out HTAB.out HB0.out (by assumption) (by assumption)
    case rest =>
      obtain ⟨A, tv, hbl⟩ := hcut
      have BL := hide hbl
      have hbb := HB.out
      clear hbl HB0
      go_upto_region 32 with fail
      go_cut [173] from 168 to 172 (fun c wx => c = .bool (decide (0 < fa) || decide (0 < fb)) ∧ wx = wc)
      case first =>
        by_cases hfa : 0 < fa
        · have hfi : (0 : Int) < (fa : Int) := by omega
          go_wp2_with fail
          go_meet
          exact ⟨by simp [hfa], rfl⟩
        · obtain rfl : fa = 0 := by omega
          by_cases hfb : 0 < fb
          · have hfi : (0 : Int) < (fb : Int) := by omega
            go_wp2_with fail
            go_meet
            exact ⟨by simp [hfb], rfl⟩
          · obtain rfl : fb = 0 := by omega
            go_wp2_with fail
            go_meet
            exact ⟨rfl, rfl⟩
      case rest =>
        obtain ⟨rfl, rfl⟩ := hcut
        go_upto_if 173 with fail
        go_cut [26] from 173 to 184 (fun v wx => ∃ mf1, v = .map mf1 ∧ Vec wx 0 (.map mf1) (f1G fa fb) ∧ Bld w wx G n p E Nn et fo mf0 (f0G ia) A n n n n n n n tv u19)
        case first =>
          have hmade : Vec (wc.alloc (.map #[] 0)) 0 (.map (some wc.heap.size)) (fun _ => 0) := ⟨sup_zero, .inr ⟨_, _, rfl, Nat.zero_le _, (World.ownsMap_made wc _ _ _).mono (by omega), holds_empty⟩⟩
          have hbm : Below wc.heap.size wc (wc.alloc (.map #[] 0)) := (Below.refl _ _).alloc (Nat.le_refl _) _
          have hwa : IntKind.u64.wrap (fa : Int) = (fa : Int) := by rw [IntKind.wrap_u64]; omega
          have hwb : IntKind.u64.wrap (fb : Int) = (fb : Int) := by rw [IntKind.wrap_u64]; omega
          have on : ∀ {a b : World}, a.grownBy b (some wc.heap.size) → Below wc.heap.size wc a → Below wc.heap.size wc b := fun {a} {b} hg hB => hB.trans ⟨hg.os, hg.tape, hg.output, hg.size, fun k hk => hg.block k (Nat.lt_of_lt_of_le hk hB.size) (fun e => by have := Option.some.inj e; omega)⟩
          by_cases hfa : 0 < fa
          · have hfi : (0 : Int) < (fa : Int) := by omega
            have hda : decide (0 < fa) = true := by simp [hfa]
            obtain ⟨x1, hr1, hv1, hg1, hz1⟩ := hmade.put sA (by decide) fa hfa (by omega) (.inl rfl)
            have hB1 := on hg1 hbm
            by_cases hfb : 0 < fb
            · have hfj : (0 : Int) < (fb : Int) := by omega
              obtain ⟨x2, hr2, hv2, hg2, hz2⟩ := hv1.put sB (by decide) fb hfb (by omega) (.inr (.inl rfl))
              have HV := hide hv2
              have HBl := hide (BL.out.below (on hg2 hB1))
              clear hmade hbm on hv1 hg1 hz1 hv2 hg2 hz2 hB1
              go_wp2_with fail
              go_meet
              exact ⟨_, rfl, HV.out, HBl.out⟩
            · obtain rfl : fb = 0 := by omega
              have HV := hide hv1
              have HBl := hide (BL.out.below hB1)
              clear hmade hbm on hv1 hg1 hz1 hB1
              go_wp2_with fail
              go_meet
              exact ⟨_, rfl, by rw [← f1_a]; exact HV.out, HBl.out⟩
          · obtain rfl : fa = 0 := by omega
            by_cases hfb : 0 < fb
            · have hfj : (0 : Int) < (fb : Int) := by omega
              have hdb : decide (0 < fb) = true := by simp [hfb]
              obtain ⟨x1, hr1, hv1, hg1, hz1⟩ := hmade.put sB (by decide) fb hfb (by omega) (.inr (.inl rfl))
              have HV := hide hv1
              have HBl := hide (BL.out.below (on hg1 hbm))
              clear hmade hbm on hv1 hg1 hz1
              go_wp2_with fail
              go_meet
              exact ⟨_, rfl, by rw [← f1_b]; exact HV.out, HBl.out⟩
            · obtain rfl : fb = 0 := by omega
              clear hmade hbm on
              go_wp2_with fail
              go_meet
              exact ⟨none, rfl, ⟨by rw [← f1_none]; exact sup_zero, .inl ⟨rfl, fun k => by rw [← f1_none]⟩⟩, BL.out⟩
        case rest =>
          obtain ⟨mf1, rfl, hv1, hbl⟩ := hcut
          have hbM := b0G_M ia fa fb
          obtain ⟨aT, B, capT, rfl, hpre, hBk⟩ := hbl.pre hn HNF.out hv1 rfl hbM
          obtain ⟨aA, gA, capA, rfl, hab⟩ := hbl.ab hn (fun h => (hBk h).2)
          have hlsn := lsG_le G n
          have hfg := forget_any (capA := capA) hpre hab (fun h => by show 0 < n; omega) ⟨HU.out.2.2, HU.out.2.1, HU.out.1⟩
          have HFG := hide hfg
          have BLd := hide hbl
          have HBK := hide hBk
          have HBM := hide hbM
          clear BL hv1 hbl hpre hBk hab hfg hbM
          go_upto_region 38 with fail
          go_cut [] from 185 to 189 (fun wx => ∃ A d tv, Aft w wx G n p E Nn (max et th) (max fo th) th (b0G ia fa fb) A d tv)
          case first =>
            go_wp2_with (go_at_call 8; (refine HFG.out.mono ?_; intro x wf hp; obtain ⟨rfl, hx⟩ := BLd.out.aft hn HBM.out HBK.out hp; have HX := hide hx; clear hx hp))
            go_meet
            obtain ⟨d, tv', h⟩ := HX.out
            exact ⟨A, d, tv', h⟩
          case rest =>
            obtain ⟨A2, d, tv, haft⟩ := hcut
            have AF := hide haft
            have hbb := HB.out
            clear haft HFG BLd HBK HBM
            have hwa : IntKind.u64.wrap (ia : Int) = (ia : Int) := by rw [IntKind.wrap_u64]; omega
            have hwb : IntKind.u64.wrap (fa : Int) = (fa : Int) := by rw [IntKind.wrap_u64]; omega
            have hwc : IntKind.u64.wrap (fb : Int) = (fb : Int) := by rw [IntKind.wrap_u64]; omega
            go_upto_block 2 with fail
            clear hwa hwb hwc
            go_cut [27, 28, 29] from 197 to 198 (fun ea eb wt wx => ea = .int .u64 (mxG G (b0G ia fa fb) th kA n : Int) ∧ eb = .int .u64 (mxG G (b0G ia fa fb) th kB n : Int) ∧ Below wc.heap.size wc wx ∧ wx.ownsRow wc.heap.size 3 1 wt (wtG G th n).length ((wtG G th n).map (fun j : Nat => Value.int .i64 (j : Int))))
            case first =>
              exact law_loop2 hn HIN.out hbb AF.out (by assumption) (by assumption)
            case rest =>
              obtain ⟨rfl, rfl, hB, hown⟩ := hcut
              have AFr := hide (AF.out.below hB)
              have HOW := hide hown
              clear hB hown AF
              generalize hea : mxG G (b0G ia fa fb) th kA n = ea at *
              generalize heb : mxG G (b0G ia fa fb) th kB n = eb at *
              have HEA := hide hea
              have HEB := hide heb
              obtain ⟨⟨mf2, hS2, hV2⟩, _⟩ := AFr.out.st
              have c32 : wc.cell? ⟨p.S, 32, none⟩ = some tv := hS2.cell 32
              have c31 : wc.cell? ⟨p.S, 31, none⟩ = some (.int .u64 ((max fo th : Nat) : Int)) := hS2.cell 31
              have c13 : wc.cell? ⟨p.S, 13, none⟩ = some (.int .u64 ((max et th : Nat) : Int)) := hS2.cell 13
              have c33 : wc.cell? ⟨p.S, 33, none⟩ = some (.map mf2) := hS2.cell 33
              have eA : (its G n A2 (b0G ia fa fb)).mx d kA = ea := by rw [mxG_eq G A2 _ n th d AFr.out.dr]; exact hea
              have eB : (its G n A2 (b0G ia fa fb)).mx d kB = eb := by rw [mxG_eq G A2 _ n th d AFr.out.dr]; exact heb
              have eM : (its G n A2 (b0G ia fa fb)).mx d kM = 0 := Its.mx_kM _ (its_ok G n A2 _ hn (b0G_M ia fa fb)) d
              have HV := hide hV2
              have HEE := hide (And.intro eA (And.intro eB eM))
              have hba := hV2.1.2 kA
              have hbb2 := hV2.1.2 kB
              rw [eA] at hba
              rw [eB] at hbb2
              clear hea heb eA eB eM hS2 hV2
              obtain ⟨wq, hwq⟩ : ∃ wq : Nat → Nat, ∀ r (h : r < (wtG G th n).length), (wtG G th n)[r] = wq r := ⟨fun r => (wtG G th n).getD r 0, fun r h => by
                show (wtG G th n)[r] = (wtG G th n).getD r 0
                rw [List.getD_eq_getElem?_getD, List.getElem?_eq_getElem h]; rfl⟩
              have hwl : ∀ r, r < (wtG G th n).length → wq r < n := fun r h => by rw [← hwq r h]; exact wtG_lt G th n r h
              obtain ⟨aK, cK, rfl, hrows⟩ : ∃ aK cK, tv = .slice aK (wtG G th n).length cK ∧ ∀ r, r < (wtG G th n).length → ∃ bK, aK = some ⟨bK, 0, none⟩ ∧ wc.cell? ⟨bK, r * 23, none⟩ = some (.string (nmG (wq r))) ∧ wc.cell? ⟨bK, r * 23 + 1, none⟩ = some (.int .u64 (ep G (wq r + 1) : Int)) := by
                have ho := AFr.out.own
                rcases ho.2 with ⟨rfl, h0⟩ | ⟨g, cap, cur, rfl, _⟩
                · exact ⟨none, 0, by rw [h0], fun r hr => by omega⟩
                · refine ⟨some ⟨g, 0, none⟩, cap, rfl, fun r hr => ⟨g, rfl, ?_, ?_⟩⟩
                  · rw [ho.cellAt (r * 23) (by omega)]
                    have := flat_get (itF G A2) (wtG G th n) r hr 0 (by decide)
                    rw [Nat.add_zero] at this
                    rw [this, ← hwq r hr]; rfl
                  · rw [ho.cellAt (r * 23 + 1) (by omega)]
                    have := flat_get (itF G A2) (wtG G th n) r hr 1 (by decide)
                    rw [this, ← hwq r hr]; rfl
              obtain ⟨aW, cW, rfl, hwant⟩ : ∃ aW cW, u29 = .slice aW (wtG G th n).length cW ∧ ∀ r, r < (wtG G th n).length → ∃ bW, aW = some ⟨bW, 0, none⟩ ∧ wc.cell? ⟨bW, r, none⟩ = some (.int .i64 (wq r : Int)) := by
                have ho := HOW.out
                rcases ho.2 with ⟨rfl, h0⟩ | ⟨g, cap, cur, rfl, _⟩
                · exact ⟨none, 0, by rw [h0], fun r hr => by omega⟩
                · refine ⟨some ⟨g, 0, none⟩, cap, rfl, fun r hr => ⟨g, rfl, ?_⟩⟩
                  rw [ho.cellAt r (by omega), List.getElem?_map, List.getElem?_eq_getElem hr, hwq r hr]
                  rfl
              have HRO := hide hrows
              have HWA := hide hwant
              have HWL := hide hwl
              have hwln := wtG_le G th n
              clear hrows hwant HOW hwq hwl
              generalize hm : (wtG G th n).length = m at *
              go_upto_block 4 with fail
              go_cut [] from 314 to 354 (fun wx => Below wc.heap.size wc wx)
              case first =>
                go_wp2_with fail
                go_loopw [42] (fun i wr => ∃ k : Nat, k ≤ m ∧ i = .int .i64 k ∧ Below wc.heap.size wc wr) (fun i _ => m - (intOf i).toNat)
                case atStart => exact ⟨0, Nat.zero_le _, rfl, Below.refl _ _⟩
                case round =>
                  obtain ⟨k, hk, rfl, hB⟩ := hrel
                  have HBr := hide hB
                  by_cases hlt : k < m
                  · obtain ⟨bK, rfl, hn1, he1⟩ := HRO.out k hlt
                    obtain ⟨bW, rfl, hw1⟩ := HWA.out k hlt
                    have hql := HWL.out k hlt
                    have hN1 : wc.cell? ⟨Nn, wq k, none⟩ = some (.string (nmG (wq k))) := AFr.out.rN.cell hql
                    have hE1 : wc.cell? ⟨E, wq k, none⟩ = some (.int .u64 (ep G (wq k + 1) : Int)) := AFr.out.rE.cell hql
                    have d32 := (hB.cell (p := ⟨p.S, 32, none⟩) (World.block_lt_of_cell? _ _ c32)).trans c32
                    have dn1 := (hB.cell (p := ⟨bK, k * 23, none⟩) (World.block_lt_of_cell? _ _ hn1)).trans hn1
                    have de1 := (hB.cell (p := ⟨bK, k * 23 + 1, none⟩) (World.block_lt_of_cell? _ _ he1)).trans he1
                    have dw1 := (hB.cell (p := ⟨bW, k, none⟩) (World.block_lt_of_cell? _ _ hw1)).trans hw1
                    have dN1 := (hB.cell (p := ⟨Nn, wq k, none⟩) (World.block_lt_of_cell? _ _ hN1)).trans hN1
                    have dE1 := (hB.cell (p := ⟨E, wq k, none⟩) (World.block_lt_of_cell? _ _ hE1)).trans hE1
                    have hki : (k : Int) < (m : Int) := by omega
                    clear hn1 he1 hw1 hN1 hE1 hB c32 c31 c13 c33
                    generalize wq k = q at *
                    generalize nmG q = s at *
                    generalize ep G (q + 1) = e at *
                    have hqi : (q : Int) < (n : Int) := by omega
                    have hss : (s.toList != s.toList) = false := by simp
                    go_wp2_with fail
                    go_quiet (fail)
                    all_goals go_wp2
                    all_goals go_roundw
                    case rel => exact ⟨k + 1, by omega, by go_num, ⟨HBr.out.os, HBr.out.tape, HBr.out.output, HBr.out.size, HBr.out.block⟩⟩
                    case measure => simp [intOf]; omega
                  · obtain rfl : k = m := by omega
                    clear hB
                    go_wp2
                    go_meet
                    exact HBr.out
              case rest =>
                have d31 := (hcut.cell (p := ⟨p.S, 31, none⟩) (World.block_lt_of_cell? _ _ c31)).trans c31
                have d13 := (hcut.cell (p := ⟨p.S, 13, none⟩) (World.block_lt_of_cell? _ _ c13)).trans c13
                have d33 := (hcut.cell (p := ⟨p.S, 33, none⟩) (World.block_lt_of_cell? _ _ c33)).trans c33
                have hV3 := HV.out.below hcut
                have hlen := hV3.len 3
                have hlA := hV3.look sA (by decide)
                have hlB := hV3.look sB (by decide)
                rw [HEE.out.1, HEE.out.2.1, HEE.out.2.2, len63] at hlen
                rw [show kS sA = kA from rfl, HEE.out.1] at hlA
                rw [show kS sB = kB from rfl, HEE.out.2.1] at hlB
                have HBF := hide (AFr.out.bel.trans (hcut.mono AFr.out.bel.size))
                clear hV3 HV HEE hcut c31 c13 c33 c32 AFr HRO HWA HWL HEA HEB
                have fin : ∀ a b : Nat, (0 < ea ↔ a = 1) → (0 < eb ↔ b = 1) → a ≤ 1 → b ≤ 1 → (((if 0 < ea then 1 else 0) + (if 0 < eb then 1 else 0) + (if 0 < 0 then 1 else 0) : Nat) : Int) = ((a + b : Nat) : Int) := fun a b h1 h2 h3 h4 => by
                  by_cases hx : 0 < ea <;> by_cases hy : 0 < eb <;> simp [hx, hy] at h1 h2 ⊢ <;> omega
                by_cases hx : 0 < ea
                · have hxi : (0 : Int) < (ea : Int) := by omega
                  by_cases hy : 0 < eb
                  · have hyi : (0 : Int) < (eb : Int) := by omega
                    rw [fin 1 1 (by omega) (by omega) (by omega) (by omega)] at hlen
                    clear fin
                    go_wp2
                    go_ret
                    exact ⟨rfl, HBF.out⟩
                  · obtain rfl : eb = 0 := by omega
                    rw [fin 1 0 (by omega) (by omega) (by omega) (by omega)] at hlen
                    clear fin
                    go_wp2
                    go_ret
                    exact ⟨rfl, HBF.out⟩
                · obtain rfl : ea = 0 := by omega
                  by_cases hy : 0 < eb
                  · have hyi : (0 : Int) < (eb : Int) := by omega
                    rw [fin 0 1 (by omega) (by omega) (by omega) (by omega)] at hlen
                    clear fin
                    go_wp2
                    go_ret
                    exact ⟨rfl, HBF.out⟩
                  · obtain rfl : eb = 0 := by omega
                    rw [fin 0 0 (by omega) (by omega) (by omega) (by omega)] at hlen
                    clear fin
                    go_wp2
                    go_ret
                    exact ⟨rfl, HBF.out⟩
end Go.Proofs.YbulkahzaDoor

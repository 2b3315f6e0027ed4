/-
  'drop'.
-/
import Derived.Test.YbulkahzaDoorBig
import Derived.Deep.Cut
import Derived.Deep.CutRange
import Derived.Deep.RegionHeld3
import Derived.Deep.RegionWith
namespace Go.Proofs.YbulkahzaDoor
open Go.RowKit Go.Maps
set_option linter.unusedVariables false

attribute [local go_sem ↓ high] lv87

theorem less_max {ff fA : Lit → Nat} {e : Nat} (h1 : ff kM = 0) (h2 : fA kM = 0) : less (fun k => max (ff k) (max (fA k) (single sM e k))) sM = fun k => max (ff k) (fA k) := by
  funext k
  unfold less single
  cases hk : k.sameKey (kS sM) with
  | true =>
    have : k = kM := WideAt.sameKey_eq hk
    subst this
    simp [h1, h2]
  | false =>
    simp only [hk]
    simp

theorem vec_mid {w wx : World} {o : Obj} {v : Value} {f : Lit → Nat} (h : Vec w 0 v f) (hM : Below (w.heap.size + 1) (w.alloc o) wx) : Vec wx 0 v f := h.of_block fun b _ _ hlt => (hM.block b (by omega)).trans ((MapKept.heap_alloc w o).2 b hlt)
theorem store_mid {w wx : World} {o : Obj} {S et fo F C : Nat} {tv fv : Value} (h : StoreAt w S et fo F C tv fv) (hM : Below (w.heap.size + 1) (w.alloc o) wx) : StoreAt wx S et fo F C tv fv := (h.alloc o).of_block (hM.block S (by have := h.lt; omega))
theorem mid_on {w wx wy : World} {o : Obj} (hM : Below (w.heap.size + 1) (w.alloc o) wx) (hB : Below wx.heap.size wx wy) : Below (w.heap.size + 1) (w.alloc o) wy := hM.trans (hB.mono (by have := hM.size; simp at this; omega))
theorem md_start (w : World) (o : Obj) : Below (w.heap.size + 1) (w.alloc o) (w.alloc o).drew := (Below.refl _ _).drew
theorem mid_frm {w wx : World} {o : Obj} {may : Nat → Prop} (hM : Below (w.heap.size + 1) (w.alloc o) wx) : Frm w wx may :=
  ⟨hM.os, hM.tape, hM.output, by have := hM.size; simp at this; omega, fun k hk _ => (hM.block k (by omega)).trans ((MapKept.heap_alloc w o).2 k hk)⟩

set_option maxHeartbeats 4000000 in
set_option maxRecDepth 100000 in
theorem drop_any (S et fo F C n e : Nat) (tv : Value) (mf mA : Option Nat) (g : Lit → Option Nat) (ff fA : Lit → Nat) (nm : ByteArray) (hs : nm.size ≤ maxLen) (w : World) (hS : StoreAt w S et fo F C tv (.map mf)) (hF : Files w F n g)
    (hf : Vec w 0 (.map mf) ff) (hA : Vec w 0 (.map mA) fA) (h0 : 0 < e) (he : e < 18446744073709551616) (hm1 : ff kM = 0) (hm2 : fA kM = 0) :
    Calls Ybad.prog 13 #[.pointer (some ⟨S, 0, none⟩), .agg (tombC nm e mA)] w fun x w' => x = .returned (.tuple #[]) ∧ ∃ mf', StoreAt w' S et fo F C tv (.map mf') ∧ Files w' F n (upd g nm none) ∧ Vec w' w.heap.size (.map mf') (fun k => max (ff k) (fA k)) ∧ Frm w w' (fun b => b = S ∨ b = F) := by
  have hSF : S ≠ F := by
    rintro rfl
    obtain ⟨D, ⟨es, clock, h1, _⟩, _⟩ := hF
    unfold StoreAt at hS
    rw [hS] at h1; cases h1
  have HS := hide hS
  have HF := hide hF
  have Hf := hide hf
  have HA := hide hA
  have hSl := hS.lt
  have h33 : w.cell? ⟨S, 33, none⟩ = some (.map mf) := hS.cell 33
  have h3 : w.cell? ⟨S, 3, none⟩ = some (.string sM) := hS.cell 3
  have hld := load87_at (w := (w.alloc (.cells (tombC nm e mA) 89)).drew) (b := w.heap.size) (o := 0) (nm := nm) (e := e) (mA := mA) (range_block (t := 89) (MapKept.heap_alloc w _).1)
  clear hS hF hf hA
  go_enter Ybad.func13, Ybad.ntmps13
  go_upto_region 1 with fail
  go_cut [] from 4 (fun wx => ∃ mf', StoreAt wx S et fo F C tv (.map mf') ∧ Vec wx w.heap.size (.map mf') (fun k => max (ff k) (fA k)) ∧ Frm w wx (fun b => b = S) ∧ wx.heap[w.heap.size]? = some (.cells (tombC nm e mA) 89 (0, 0)))
  case first =>
    go_region_with (first
      | (go_at_call 19; refine (vector_any S e mA fA _ ((store_mid HS.out (md_start _ _)).cell 3) (vec_mid HA.out (md_start _ _)) h0 he).mono ?_; rintro x w2 ⟨m2, rfl, hv2, hB2⟩; have HV2 := hide hv2; have HM2 := hide (mid_on (md_start w _) hB2); have c233 : w2.cell? ⟨S, 33, none⟩ = some (.map mf) := (store_mid HS.out HM2.out).cell 33; have c23 : w2.cell? ⟨S, 3, none⟩ = some (.string sM) := (store_mid HS.out HM2.out).cell 3; clear hv2 hB2)
      | (go_at_call 11; refine (join_any (vec_mid Hf.out HM2.out) (HV2.out.weaken (Nat.zero_le _))).mono ?_; rintro x w3 ⟨m3, rfl, hv3, hB3⟩; have HV3 := hide hv3; have HM3 := hide (mid_on HM2.out hB3); have c33 : w3.cell? ⟨S, 3, none⟩ = some (.string sM) := (store_mid HS.out HM3.out).cell 3; clear hv3 hB3)
      | (go_at_call 20; refine (without_any sM (by decide) (HV3.out.weaken (Nat.zero_le _))).mono ?_; rintro x w4 ⟨m4, rfl, hv4, hB4⟩; have HV4 := hide hv4; have HM4 := hide (mid_on HM3.out hB4); have HL4 : Hid (w.heap.size ≤ w3.heap.size) := hide (by have := HM3.out.size; simp at this; omega); have c433 : w4.cell? ⟨S, 33, none⟩ = some (.map mf) := (store_mid HS.out HM4.out).cell 33; have c43 : w4.cell? ⟨S, 3, none⟩ = some (.string sM) := (store_mid HS.out HM4.out).cell 3; have f433 := (store_mid HS.out HM4.out).frozen 33; have c43s : (w4.setCell ⟨S, 33, none⟩ (.map m4)).cell? ⟨S, 3, none⟩ = some (.string sM) := ((store_mid HS.out HM4.out).setFloor (.map m4)).cell 3; clear hv4 hB4))
    all_goals (try go_wp2_with fail)
    all_goals go_meet
    all_goals exact ⟨m4, (store_mid HS.out HM4.out).setFloor _, ((less_max (e := e) hm1 hm2 ▸ HV4.out.weaken HL4.out : Vec w4 w.heap.size (.map m4) (fun k => max (ff k) (fA k)))).of_block (fun b hb1 hb2 hlt => Below.heap_setCell _ _ _ _ (by show b ≠ S; omega)), (mid_frm HM4.out).setCell _ _ (fun _ => rfl), by rw [Below.heap_setCell _ _ _ _ (by show w.heap.size ≠ S; omega), HM4.out.block _ (by omega)]; exact (MapKept.heap_alloc w _).1⟩
  case rest =>
    obtain ⟨mf', hS', hV', hfr, hT⟩ := hcut
    have hFc : Files wc F n g := HF.out.of_block (hfr.block F HF.out.lt (fun h => hSF h.symm))
    obtain ⟨w5, hdel, hF5, hg5, hs5⟩ := (hFc.drew).del nm hs 0
    have hTl : w.heap.size < wc.heap.size := (Array.getElem?_eq_some_iff.1 hT).1
    have hFl : F < w.heap.size := HF.out.lt
    have k15 : wc.cell? ⟨S, 15, none⟩ = some (.map (some F)) := hS'.cell 15
    have kT0 : wc.cell? ⟨w.heap.size, 0, none⟩ = some (.string nm) := by simp only [World.cell?, hT]; rfl
    have hS5 : StoreAt w5 S et fo F C tv (.map mf') := hS'.of_block (hg5.block S (by show S < wc.heap.size; omega) (fun h => hSF (Option.some.inj h)))
    have hT5 : w5.heap[w.heap.size]? = some (.cells (tombC nm e mA) 89 (0, 0)) := (hg5.block _ hTl (fun h => by have := Option.some.inj h; omega)).trans hT
    have m15 : w5.cell? ⟨S, 15, none⟩ = some (.map (some F)) := hS5.cell 15
    have mT0 : w5.cell? ⟨w.heap.size, 0, none⟩ = some (.string nm) := by simp only [World.cell?, hT5]; rfl
    have mT1 : w5.cell? ⟨w.heap.size, 1, none⟩ = some (.int .u64 (e : Int)) := by simp only [World.cell?, hT5]; rfl
    have hV5 : Vec w5 w.heap.size (.map mf') (fun k => max (ff k) (fA k)) := hV'.of_block (fun b _ hb hlt => hg5.block b hlt (fun h => by have := Option.some.inj h; omega))
    have hf5 : Frm w w5 (fun b => b = S ∨ b = F) := (hfr.mono (fun j _ h => .inl h)).trans (Frm.of_grown (w := wc) (w' := w5) (may := fun b => b = F) ⟨hg5.os, hg5.tape, hg5.output, hg5.size, hg5.block⟩ (fun j hj _ => by cases hj; rfl)) (fun j _ h => .inr h)
    have H5 := hide hS5
    have HF5 := hide hF5
    have HV5 := hide hV5
    have Hf5 := hide hf5
    clear hS' hV' hfr hT hFc hg5 hS5 hF5 hV5 hf5 HS HF Hf HA hT5 hs5
    go_wp2_with fail
    go_region_held3 (fun w' => w'.cell? ⟨S, 15, none⟩ = some (.map (some F)) ∧ w'.cell? ⟨w.heap.size, 0, none⟩ = some (.string nm)) (go_keep) (fail)
    all_goals go_wp2_with fail
    all_goals go_region_held3 (fun w' => w'.cell? ⟨w.heap.size, 1, none⟩ = some (.int .u64 (e : Int))) (first | exact e1 | go_keep) (first | (go_at_call 21; refine (release_empty S e _ (H5.out.drew.cell 16)).mono ?_; rintro x w6 ⟨rfl, hB6⟩; have e1 := (hB6.cell (p := ⟨w.heap.size, 1, none⟩) (World.block_lt_of_cell? _ _ mT1)).trans mT1))
    all_goals go_wp2
    all_goals go_end0
    all_goals exact ⟨rfl, mf', H5.out.of_block (hB6.block S H5.out.lt), HF5.out.of_block (hB6.block F HF5.out.lt), HV5.out.of_block (fun b _ _ hlt => hB6.block b hlt), Hf5.out.trans (Frm.of_below (w := w5) (may := fun _ => False) ⟨hB6.os, hB6.tape, hB6.output, hB6.size, hB6.block⟩) (fun _ _ h => h.elim)⟩
end Go.Proofs.YbulkahzaDoor

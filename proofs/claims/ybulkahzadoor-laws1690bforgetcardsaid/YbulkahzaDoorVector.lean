/-
  The store's 'vector'.
-/
import Derived.Test.YbulkahzaDoorWithout
import Derived.Deep.RegionHeld3
namespace Go.Proofs.YbulkahzaDoor
open Go.RowKit Go.Maps
set_option linter.unusedVariables false

abbrev eS : ByteArray := ⟨#[]⟩
/-- The cells of a version made by a delete at etag e, after the vector in block A. -/
abbrev verC (e : Nat) (mA : Option Nat) : Array Value :=
  #[.int .u64 (e : Int), .int .i64 1, .slice none 0 0, .string eS, .int .u64 0, .string eS, .int .u64 0, .map mA, .int .i64 0, .slice none 0 0, .int .i64 0, .int .i64 0, .int .u64 0, .map none, .string eS, .int .u64 0, .string eS, .string eS, .int .u64 0, .int .u64 0, .int .i64 0, .pointer none]
/-- .. of a tombstone. -/
abbrev tombC (nm : ByteArray) (e : Nat) (mA : Option Nat) : Array Value :=
  #[.string nm, .int .u64 (e : Int), .int .i64 1, .slice none 0 0, .string eS, .int .u64 0, .string eS, .int .u64 0, .map mA, .int .i64 0, .slice none 0 0, .int .i64 0, .int .i64 0, .int .u64 0, .map none, .string eS, .int .u64 0, .string eS, .string eS, .int .u64 0, .int .u64 0, .int .i64 0, .pointer none]

def single (s : ByteArray) (m : Nat) : Lit → Nat := fun k => if k.sameKey (kS s) then m else 0

theorem Vec.single_made (W : World) (base : Nat) (hb : base ≤ W.heap.size) (s : ByteArray) (hs : s.size ≤ maxLen) (m : Nat) (h0 : 0 < m) (hm : m < 18446744073709551616) (hk : kS s = kA ∨ kS s = kB ∨ kS s = kM) :
    ∃ w', (Instr.mapUpdate 63 (.map (some W.heap.size)) (.string s) (.int .u64 (m : Int))).run Ybad.prog (W.alloc (.map #[] 0)).drew = .ok () w' ∧ Vec w' base (.map (some W.heap.size)) (single s m) ∧ W.grownBy w' none ∧ w'.heap.size = W.heap.size + 1 := by
  have h : Vec (W.alloc (.map #[] 0)).drew base (.map (some W.heap.size)) (fun _ => 0) := ⟨sup_zero, .inr ⟨_, _, rfl, hb, ((World.ownsMap_made W _ _ _).mono (by omega)).drew, holds_empty⟩⟩
  obtain ⟨w', hrun, hv, hg, hsz⟩ := h.put s hs m h0 hm hk
  refine ⟨w', hrun, hv, ?_, by rw [hsz]; simp [World.drew]⟩
  have h1 : W.grownBy (W.alloc (.map #[] 0)).drew none := by
    have h2 : W.grownBy (W.alloc (.map #[] 0)) none := World.grownBy_alloc W _ none
    exact ⟨h2.os, h2.tape, h2.output, h2.size, h2.block⟩
  exact ⟨hg.os.trans h1.os, hg.tape.trans h1.tape, hg.output.trans h1.output, Nat.le_trans h1.size hg.size, fun k hk hne => (hg.block k (Nat.lt_of_lt_of_le hk h1.size) (fun e => by have := Option.some.inj e; omega)).trans (h1.block k hk hne)⟩

theorem Vec.single_plain (W : World) (base : Nat) (hb : base ≤ W.heap.size) (s : ByteArray) (hs : s.size ≤ maxLen) (m : Nat) (h0 : 0 < m) (hm : m < 18446744073709551616) (hk : kS s = kA ∨ kS s = kB ∨ kS s = kM) :
    ∃ w', (Instr.mapUpdate 63 (.map (some W.heap.size)) (.string s) (.int .u64 (m : Int))).run Ybad.prog (W.alloc (.map #[] 0)) = .ok () w' ∧ Vec w' base (.map (some W.heap.size)) (single s m) ∧ W.grownBy w' none ∧ w'.heap.size = W.heap.size + 1 := by
  have h : Vec (W.alloc (.map #[] 0)) base (.map (some W.heap.size)) (fun _ => 0) := ⟨sup_zero, .inr ⟨_, _, rfl, hb, (World.ownsMap_made W _ _ _).mono (by omega), holds_empty⟩⟩
  obtain ⟨w', hrun, hv, hg, hsz⟩ := h.put s hs m h0 hm hk
  refine ⟨w', hrun, hv, ?_, by rw [hsz]; simp⟩
  have h1 : W.grownBy (W.alloc (.map #[] 0)) none := World.grownBy_alloc W _ none
  exact ⟨hg.os.trans h1.os, hg.tape.trans h1.tape, hg.output.trans h1.output, Nat.le_trans h1.size hg.size, fun k hk hne => (hg.block k (Nat.lt_of_lt_of_le hk h1.size) (fun e => by have := Option.some.inj e; omega)).trans (h1.block k hk hne)⟩

set_option maxHeartbeats 2000000 in
set_option maxRecDepth 100000 in
theorem vector_any (S e : Nat) (mA : Option Nat) (fA : Lit → Nat) (w : World) (hid : w.cell? ⟨S, 3, none⟩ = some (.string sM)) (hA : Vec w 0 (.map mA) fA) (h0 : 0 < e) (he : e < 18446744073709551616) :
    Calls Ybad.prog 19 #[.pointer (some ⟨S, 0, none⟩), .agg (verC e mA)] w fun x w' => ∃ m, x = .returned (.map m) ∧ Vec w' w.heap.size (.map m) (fun k => max (fA k) (single sM e k)) ∧ Below w.heap.size w w' := by
  have hmk := @run_makeMap Ybad.prog
  have HA := hide hA
  have hSl := World.block_lt_of_cell? _ _ hid
  obtain ⟨w2, hst, hV2, hg2, hs2⟩ := Vec.single_made (w.alloc (.cells (verC e mA) 87)) 0 (Nat.zero_le _) sM (by decide) e h0 he (.inr (.inr rfl))
  have hV := hide hV2
  have hg1 : w.grownBy w2 none := by
    have h1 : w.grownBy (w.alloc (.cells (verC e mA) 87)) none := World.grownBy_alloc w _ none
    exact ⟨hg2.os.trans h1.os, hg2.tape.trans h1.tape, hg2.output.trans h1.output, Nat.le_trans h1.size hg2.size, fun k hk hne => (hg2.block k (Nat.lt_of_lt_of_le hk h1.size) hne).trans (h1.block k hk hne)⟩
  have HG := hide hg1
  have hA2 := hide (HA.out.grown hg1 (fun _ _ _ => by simp))
  have e1 : (w.alloc (.cells (verC e mA) 87)).heap.size = w.heap.size + 1 := by simp
  rw [e1] at hst hV
  have hc7 : w2.cell? ⟨w.heap.size, 7, none⟩ = some (.map mA) := by
    rw [World.cell?_of_block (hg2.block w.heap.size (by simp) (by simp)), World.cell?_alloc_new]; rfl
  have hc0 : w2.cell? ⟨w.heap.size, 0, none⟩ = some (.int .u64 (e : Int)) := by
    rw [World.cell?_of_block (hg2.block w.heap.size (by simp) (by simp)), World.cell?_alloc_new]; rfl
  have hc3 : w2.cell? ⟨S, 3, none⟩ = some (.string sM) := by
    rw [World.cell?_of_block (HG.out.block S hSl (by simp))]; exact hid
  have hgs : w.heap.size < w2.heap.size := by rw [hs2]; simp; omega
  clear hV2 hg2 hg1 hA
  go_enter Ybad.func19, Ybad.ntmps19
  go_wp2
  go_region_held3 (fun w' => w'.cell? ⟨w.heap.size, 7, none⟩ = some (.map mA) ∧ w'.cell? ⟨w.heap.size, 0, none⟩ = some (.int .u64 (e : Int)) ∧ w'.cell? ⟨S, 3, none⟩ = some (.string sM)) (go_keep)
    (first | (go_at_call 11; refine (join_any hA2.out hV.out).mono ?_; rintro x w3 ⟨m, rfl, hu, hB⟩; have HU := hide hu; have HB := hide hB; have d7 := (hB.cell (p := ⟨w.heap.size, 7, none⟩) (by show w.heap.size < w2.heap.size; omega)).trans hc7; have d0 := (hB.cell (p := ⟨w.heap.size, 0, none⟩) (by show w.heap.size < w2.heap.size; omega)).trans hc0; have d3 := (hB.cell (p := ⟨S, 3, none⟩) (by show S < w2.heap.size; omega)).trans hc3; clear hu hB))
  all_goals go_wp2
  all_goals go_ret
  all_goals exact ⟨_, rfl, HU.out.weaken HG.out.size, ((Below.refl _ _).grown HG.out (Nat.le_refl _) (fun j hj => by cases hj)).trans (HB.out.mono HG.out.size)⟩

end Go.Proofs.YbulkahzaDoor

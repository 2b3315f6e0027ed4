/-
  The tied card of 'LawS1690BForget'.
-/
import Derived.Test.YbulkahzaDoorExactProof
import Derived.Test.YbulkahzaDoorLawB
import Derived.Deep.Fields
namespace Go.Proofs.YbulkahzaDoor
open Go.ChangeShapes Go.WideShapes Go.ChangeAt Go.RowKit
set_option linter.unusedVariables false

theorem laidOut : laidOutB Ybad.pinned.checked.prog = true := by kernel_rfl

set_option maxRecDepth 100000 in
theorem law_big (a0 : Option Addr) (n cap : Nat) (x1 x2 x3 x4 x5 x6 : Value) (w : World) (hn : 300 < n) :
    Calls Ybad.prog 4 #[.slice a0 n cap, x1, x2, x3, x4, x5, x6] w fun e w' => e = .returned (.bool true) ∧ Below w.heap.size w w' := by
  have hn1 : ((300 : Int) < (n : Int)) := by omega
  go_enter Ybad.func4, Ybad.ntmps4
  go_wp2
  go_ret
  exact ⟨rfl, Below.refl _ _⟩

theorem law_b {G : Nat → Itm} {n cap bc off th fo et ia fa fb : Nat} {a0 : Option Addr} {w : World} (hin : Inp w a0 n bc off G) (hb : ia < 256 ∧ fa < 256 ∧ fb < 256) (hu : th < 18446744073709551616 ∧ fo < 18446744073709551616 ∧ et < 18446744073709551616) (htab : Lib.TabIs Ybad.prog w Ybad.powName .u64 Lib.pow10Tab) :
    Calls Ybad.prog 4 #[.slice a0 n cap, .int .u64 (th : Int), .int .u64 (fo : Int), .int .u64 (et : Int), .int .u8 (ia : Int), .int .u8 (fa : Int), .int .u8 (fb : Int)] w fun e w' => e = .returned (.bool true) ∧ Below w.heap.size w w' := by
  by_cases hn : n ≤ 300
  · exact law_small hn hin hb hu htab
  · exact law_big a0 n cap _ _ _ _ _ _ w (by omega)

section
variable {H : Type} {enc : TypeId × Value → H} {P : Program} {w : World} {base : Nat} {spare : Nat → Bool} {held : Bool}
theorem trodAll_seven {t0 t1 t2 t3 t4 t5 t6 : TypeId} {args : Array Value} {ds : List (DataW H)} {ps : List MemPlace} (h : DataW.TrodAll enc P w base spare held [t0, t1, t2, t3, t4, t5, t6] args.toList ds ps) :
    ∃ v0 v1 v2 v3 v4 v5 v6 d0 d1 d2 d3 d4 d5 d6 p0 p1 p2 p3 p4 p5 p6, args = #[v0, v1, v2, v3, v4, v5, v6] ∧ ds = [d0, d1, d2, d3, d4, d5, d6] ∧ ps = p0 ++ (p1 ++ (p2 ++ (p3 ++ (p4 ++ (p5 ++ p6))))) ∧
      DataW.Trod enc P w base spare held t0 v0 d0 p0 ∧ DataW.Trod enc P w base spare held t1 v1 d1 p1 ∧ DataW.Trod enc P w base spare held t2 v2 d2 p2 ∧ DataW.Trod enc P w base spare held t3 v3 d3 p3 ∧ DataW.Trod enc P w base spare held t4 v4 d4 p4 ∧ DataW.Trod enc P w base spare held t5 v5 d5 p5 ∧ DataW.Trod enc P w base spare held t6 v6 d6 p6 := by
  obtain ⟨v0, vs0, d0, ds0, p0, q0, hargs, rfl, rfl, h0, r0⟩ := trodAll_cons h
  obtain ⟨v1, vs1, d1, ds1, p1, q1, rfl, rfl, rfl, h1, r1⟩ := trodAll_cons r0
  obtain ⟨v2, vs2, d2, ds2, p2, q2, rfl, rfl, rfl, h2, r2⟩ := trodAll_cons r1
  obtain ⟨v3, vs3, d3, ds3, p3, q3, rfl, rfl, rfl, h3, r3⟩ := trodAll_cons r2
  obtain ⟨v4, vs4, d4, ds4, p4, q4, rfl, rfl, rfl, h4, r4⟩ := trodAll_cons r3
  obtain ⟨v5, vs5, d5, ds5, p5, q5, rfl, rfl, rfl, h5, r5⟩ := trodAll_cons r4
  obtain ⟨v6, vs6, d6, ds6, p6, q6, rfl, rfl, rfl, h6, r6⟩ := trodAll_cons r5
  obtain ⟨rfl, rfl, rfl⟩ := trodAll_nil r6
  exact ⟨v0, v1, v2, v3, v4, v5, v6, d0, d1, d2, d3, d4, d5, d6, p0, p1, p2, p3, p4, p5, p6, by cases args; simp_all, rfl, by simp, h0, h1, h2, h3, h4, h5, h6⟩
end

instance : Inhabited Itm := ⟨⟨0, 0, false, false, 0⟩⟩

theorem cells69 : Ybad.prog.cellsOf 69 = 5 := by kernel_rfl
theorem u8_nat {z : Int} (h : (Lit.int .u8 z).wf = true) : ∃ k : Nat, z = k ∧ k < 256 := by
  have := bounds_u8 h
  exact ⟨z.toNat, by omega, by omega⟩

theorem five {α : Type} {l : List α} (h : l.length = 5) : ∃ a b c d e, l = [a, b, c, d, e] := by
  match l, h with
  | [a, b, c, d, e], _ => exact ⟨a, b, c, d, e, rfl⟩

/-- One item, read. -/
theorem item_of {H : Type} {enc : TypeId × Value → H} {w : World} {base : Nat} {spare : Nat → Bool} {held : Bool} {fuel : Nat} {cs : List Value} {x : DataW H × List MemPlace} (h : DataW.trod enc Ybad.prog w base spare held fuel 69 cs = some x) (hl : cs.length = 5) :
    ∃ t : Itm, cs = [.int .u8 (t.gap : Int), .int .u8 (t.st : Int), .bool t.listed, .bool t.node, .int .u8 (t.hist : Int)] ∧ t.gap < 256 ∧ t.st < 256 ∧ t.hist < 256 := by
  obtain ⟨xs, n, _, _, _, hxl, hf⟩ := DataW.trod_struct Ybad.underlying69 h
  obtain ⟨c0, c1, c2, c3, c4, rfl⟩ := five hl
  have c51 : Ybad.prog.cellsOf 5 = 1 := by kernel_rfl
  have c41 : Ybad.prog.cellsOf 4 = 1 := by kernel_rfl
  have g0 := hf 0 _ rfl
  have g1 := hf 1 _ rfl
  have g2 := hf 2 _ rfl
  have g3 := hf 3 _ rfl
  have g4 := hf 4 _ rfl
  have hs : xs.length = 5 := hxl
  have e0 : ∃ y, xs[0]? = some y := ⟨_, List.getElem?_eq_getElem (by omega)⟩
  have e1 : ∃ y, xs[1]? = some y := ⟨_, List.getElem?_eq_getElem (by omega)⟩
  have e2 : ∃ y, xs[2]? = some y := ⟨_, List.getElem?_eq_getElem (by omega)⟩
  have e3 : ∃ y, xs[3]? = some y := ⟨_, List.getElem?_eq_getElem (by omega)⟩
  have e4 : ∃ y, xs[4]? = some y := ⟨_, List.getElem?_eq_getElem (by omega)⟩
  obtain ⟨y0, e0⟩ := e0
  obtain ⟨y1, e1⟩ := e1
  obtain ⟨y2, e2⟩ := e2
  obtain ⟨y3, e3⟩ := e3
  obtain ⟨y4, e4⟩ := e4
  rw [e0] at g0
  rw [e1] at g1
  rw [e2] at g2
  rw [e3] at g3
  rw [e4] at g4
  obtain ⟨z0, k0, _, w0⟩ := DataW.trod_int Ybad.underlying5 g0
  obtain ⟨z1, k1, _, w1⟩ := DataW.trod_int Ybad.underlying5 g1
  obtain ⟨b2, k2, _⟩ := DataW.trod_bool Ybad.underlying4 g2
  obtain ⟨b3, k3, _⟩ := DataW.trod_bool Ybad.underlying4 g3
  obtain ⟨z4, k4, _, w4⟩ := DataW.trod_int Ybad.underlying5 g4
  replace k0 : List.take (Ybad.prog.cellsOf 5) (List.drop 0 [c0, c1, c2, c3, c4]) = [.int .u8 z0] := k0
  rw [c51] at k0
  replace k0 : c0 = .int .u8 z0 := (List.cons.inj k0).1
  replace k1 : List.take (Ybad.prog.cellsOf 5) (List.drop 1 [c0, c1, c2, c3, c4]) = [.int .u8 z1] := k1
  rw [c51] at k1
  replace k1 : c1 = .int .u8 z1 := (List.cons.inj k1).1
  replace k2 : List.take (Ybad.prog.cellsOf 4) (List.drop 2 [c0, c1, c2, c3, c4]) = [.bool b2] := k2
  rw [c41] at k2
  replace k2 : c2 = .bool b2 := (List.cons.inj k2).1
  replace k3 : List.take (Ybad.prog.cellsOf 4) (List.drop 3 [c0, c1, c2, c3, c4]) = [.bool b3] := k3
  rw [c41] at k3
  replace k3 : c3 = .bool b3 := (List.cons.inj k3).1
  replace k4 : List.take (Ybad.prog.cellsOf 5) (List.drop 4 [c0, c1, c2, c3, c4]) = [.int .u8 z4] := k4
  rw [c51] at k4
  replace k4 : c4 = .int .u8 z4 := (List.cons.inj k4).1
  obtain ⟨n0, rfl, l0⟩ := u8_nat w0
  obtain ⟨n1, rfl, l1⟩ := u8_nat w1
  obtain ⟨n4, rfl, l4⟩ := u8_nat w4
  subst k0 k1 k2 k3 k4
  exact ⟨⟨n0, n1, b2, b3, n4⟩, rfl, l0, l1, l4⟩

theorem inp_of {H : Type} {enc : TypeId × Value → H} {W : World} {fuel : Nat} {a0 : Option Addr} {n cap : Nat} {x : DataW H × List MemPlace} (h : DataW.trod enc Ybad.prog W 0 (fun _ => true) true fuel 28 [.slice a0 n cap] = some x) :
    ∃ G bc off, Inp W a0 n bc off G := by
  rcases Go.Deep.open_slice Ybad.underlying28 h with ⟨hcs, _⟩ | ⟨a, l, c, m, k, D, Pl, hcs, _, hl, hc, hm, _, hx⟩
  · simp at hcs
    obtain ⟨rfl, rfl, rfl⟩ := hcs
    exact ⟨fun _ => default, 0, 0, fun h => by omega, fun i h => by omega, fun i h => by omega, fun i h => by omega, fun i h => by omega, fun i h => by omega, fun i h => by omega⟩
  · simp at hcs
    obtain ⟨rfl, rfl, rfl⟩ := hcs
    have hlm : n ≤ m := by rw [hm]; split <;> omega
    have each : ∀ i, i < m → ∃ t : Itm, (∀ j, j < 5 → W.cell? (a.add (i * 5 + j)) = ([.int .u8 (t.gap : Int), .int .u8 (t.st : Int), .bool t.listed, .bool t.node, .int .u8 (t.hist : Int)] : List Value)[j]?) ∧ t.gap < 256 ∧ t.st < 256 ∧ t.hist < 256 := by
      intro i hi
      obtain ⟨cs', h1, h2⟩ := hx i hi
      rw [cells69] at h1
      obtain ⟨_, hl5, hcell⟩ := World.cells?_some h1
      obtain ⟨t, rfl, hb⟩ := item_of h2 hl5
      exact ⟨t, fun j hj => by rw [← Go.Deep.add_add]; exact hcell j hj, hb⟩
    obtain ⟨G, hG⟩ := Go.Deep.choose_lt each
    by_cases h0 : 0 < n
    · obtain ⟨b, off, spot⟩ := a
      have hspot : spot = none := by simpa [Addr.add] using World.cell?_spot ((hG 0 (by omega)).1 0 (by omega))
      subst hspot
      have hcell : ∀ i, i < n → ∀ j, j < 5 → W.cell? ⟨b, off + i * 5 + j, none⟩ = ([.int .u8 ((G i).gap : Int), .int .u8 ((G i).st : Int), .bool (G i).listed, .bool (G i).node, .int .u8 ((G i).hist : Int)] : List Value)[j]? := fun i hi j hj => by
        rw [Nat.add_assoc, ← Go.WideShapes.add_plain]; exact (hG i (by omega)).1 j hj
      exact ⟨G, b, off, fun _ => rfl, fun i hi => hcell i hi 0 (by omega), fun i hi => hcell i hi 1 (by omega), fun i hi => hcell i hi 2 (by omega), fun i hi => hcell i hi 3 (by omega), fun i hi => hcell i hi 4 (by omega), fun i hi => (hG i (by omega)).2⟩
    · exact ⟨G, 0, 0, fun h => by omega, fun i h => by omega, fun i h => by omega, fun i h => by omega, fun i h => by omega, fun i h => by omega, fun i h => by omega⟩
theorem door_metB (os : Os) (args : Array Value) : laidMetH Ybad.prog laidOf ((World.doorLaid Ybad.prog 24 os).forCall (fun _ _ => 0) ⟨#[], args, []⟩).memory :=
  laidMetH_of_parts3 (fuel := 8) (laidMet_of_run' 8 (by kernel_rfl) (by kernel_rfl)) (by kernel_rfl) (by kernel_rfl)

set_option maxRecDepth 100000 in
theorem forget_lifted (os : Os) (started : os.Started) (H : Type) (enc : TypeId × Value → H) :
    ReturnsInHanded {} Ybad.checked os 4 .any (fun w args => (Rows.lawS1690BForgetSpec.pre enc Ybad.prog Ybad.f4 [] false w args ∧ laidMetH Ybad.prog laidOf w) ∧ sizedMet enc Ybad.prog Ybad.f4 (OpenSpec.ofChange Rows.lawS1690BForgetSpec) false w args)
      (Rows.lawS1690BForgetSpec.post enc Ybad.prog Ybad.f4 false true false false) := by
  refine returnsInHanded_of_change_and (C := Ybad.checked) (X := fun w _ => laidMetH Ybad.prog laidOf w) (fun _ _ _ hh h => h.of_heap hh) own started (by kernel_rfl) Ybad.func4
    (ChangeSpec.witness_shaped (enc := enc) (C := Ybad.checked) (os := os) (X := fun w _ => laidMetH Ybad.prog laidOf w) false (World.doorLaid Ybad.prog 24 os) #[.slice none 0 0, .int .u64 0, .int .u64 0, .int .u64 0, .int .u8 0, .int .u8 0, .int .u8 0] 8 rfl (World.shaped_of_RefB (by kernel_rfl) (by kernel_rfl)) (by kernel_rfl) (by kernel_rfl) (by kernel_rfl) (door_metB os _)) ?_
  intro W base args ds gs before hval0 hW _ hsz0 hL _
  have hval : ∀ (j : Nat) t v, Ybad.f4.params[j]? = some t → args[j]? = some v → Value.okWide Ybad.prog W .any base t v := hval0
  have hW' := hW
  obtain ⟨p, q, hA0, hV, rfl, hfz, hnd⟩ := hW
  have hA : DataW.TrodAll enc Ybad.prog W 0 (fun _ => true) true Ybad.f4.params.toList args.toList ds p := hA0
  rw [Ybad.params4] at hA hval
  obtain ⟨v0, v1, v2, v3, v4, v5, v6, d0, d1, d2, d3, d4, d5, d6, p0, p1, p2, p3, p4, p5, p6, rfl, rfl, rfl, h0, h1, h2, h3, h4, h5, h6⟩ := trodAll_seven hA
  obtain ⟨rfl, rfl⟩ := trodVars_none hV
  obtain ⟨a0, n, cap, rfl⟩ := okWide_slice Ybad.underlying28 (hval 0 28 v0 rfl rfl)
  obtain ⟨z1, rfl, rfl, rfl, w1⟩ := open_int Ybad.underlying22 (hval 1 22 v1 rfl rfl) h1
  obtain ⟨z2, rfl, rfl, rfl, w2⟩ := open_int Ybad.underlying22 (hval 2 22 v2 rfl rfl) h2
  obtain ⟨z3, rfl, rfl, rfl, w3⟩ := open_int Ybad.underlying22 (hval 3 22 v3 rfl rfl) h3
  obtain ⟨z4, rfl, rfl, rfl, w4⟩ := open_int Ybad.underlying5 (hval 4 5 v4 rfl rfl) h4
  obtain ⟨z5, rfl, rfl, rfl, w5⟩ := open_int Ybad.underlying5 (hval 5 5 v5 rfl rfl) h5
  obtain ⟨z6, rfl, rfl, rfl, w6⟩ := open_int Ybad.underlying5 (hval 6 5 v6 rfl rfl) h6
  clear hA0 hval0
  simp only [List.append_nil] at hW'
  have k0 := h0
  have lt0 : ∀ x ∈ p0, x.block < W.heap.size := by obtain ⟨m, hm⟩ := k0; exact DataW.trod_lt m _ _ _ hm
  obtain ⟨G, bc, off, hin⟩ : ∃ G bc off, Inp W a0 n bc off G := by
    obtain ⟨fuel, hf⟩ := h0
    exact inp_of hf
  have b1 : 0 ≤ z1 ∧ z1 ≤ 18446744073709551615 := bounds_u64 w1
  have b2 : 0 ≤ z2 ∧ z2 ≤ 18446744073709551615 := bounds_u64 w2
  have b3 : 0 ≤ z3 ∧ z3 ≤ 18446744073709551615 := bounds_u64 w3
  obtain ⟨n1, rfl⟩ : ∃ u : Nat, z1 = u := ⟨z1.toNat, by omega⟩
  obtain ⟨n2, rfl⟩ : ∃ u : Nat, z2 = u := ⟨z2.toNat, by omega⟩
  obtain ⟨n3, rfl⟩ : ∃ u : Nat, z3 = u := ⟨z3.toNat, by omega⟩
  obtain ⟨n4, rfl, l4⟩ := u8_nat w4
  obtain ⟨n5, rfl, l5⟩ := u8_nat w5
  obtain ⟨n6, rfl, l6⟩ := u8_nat w6
  refine (law_b hin ⟨l4, l5, l6⟩ ⟨by omega, by omega, by omega⟩ (tab_of_laid hL)).mono fun e W' ⟨he, hb⟩ => ?_
  subst he
  exact ⟨_, rfl, _, _, _, [], _, [], hW', trodAll_mk1 (shut_bool Ybad.underlying4 _), trodAll_cons_mk (Below.trod laidOut (by kernel_rfl) (of_decide_eq_true (by kernel_rfl)) k0 hb lt0) (trodAll_cons_mk (shut_int Ybad.underlying22 w1) (trodAll_cons_mk (shut_int Ybad.underlying22 w2) (trodAll_cons_mk (shut_int Ybad.underlying22 w3) (trodAll_cons_mk (shut_int Ybad.underlying5 w4) (trodAll_cons_mk (shut_int Ybad.underlying5 w5) (trodAll_cons_mk (shut_int Ybad.underlying5 w6) trodAll_mk0)))))), rfl, hb.frame _, fun h => by cases h⟩

theorem forget_row : Rows.LawS1690BForgetSaid :=
  OpenClaim.holds_of_wide 4 Ybad.f4 rfl rfl rfl rfl rfl rfl rfl ⟨rfl, rfl, rfl, rfl, rfl⟩ rfl rfl rfl rfl rfl (by kernel_rfl) Ybad.func4 (by kernel_rfl)
    (of_decide_eq_true (by kernel_rfl)) (by unfold Func.isWrapper; first | (rw [if_pos (by decide +kernel)]; kernel_rfl) | (rw [if_neg (by decide +kernel)]; exact ⟨rfl, rfl⟩))
    (fun os started H enc _ => forget_lifted os started H enc)

theorem forget_card : Rows.LawS1690BForgetCardSaid :=
  Claim7.holds_tied_plain_at .later [] [.data, .data, .data] true Rows.lawS1690BForgetCard.stood.harness false
    forget_row (fun _ h => by cases h) (by kernel_rfl) (fun _ h => by cases h) lawS1690BForget_row_tie rfl ⟨rfl, rfl⟩ (by kernel_rfl) rfl
    (fun f fn hf hfn => by
      obtain rfl : f = 4 := Option.some.inj ((show Ybad.prog.funcNamed Rows.lawS1690BForgetRow.func = some 4 by kernel_rfl).symm.trans hf) |>.symm
      obtain rfl : fn = Ybad.f4 := (Option.some.inj (Ybad.func4.symm.trans hfn)).symm
      exact ⟨by kernel_rfl, fun j t ht => by
        rw [Ybad.params4] at ht
        have hm : t ∈ [28, 22, 22, 22, 5, 5, 5] := by simpa using Array.mem_of_getElem? ht
        have hall : ([28, 22, 22, 22, 5, 5, 5].all fun u => !Ybad.prog.wantsStandIn u) = true := by kernel_rfl
        exact (show Ybad.prog.wantsStandIn t = false by simpa using List.all_eq_true.1 hall t hm)⟩)
    (by kernel_rfl)
#print axioms forget_card
end Go.Proofs.YbulkahzaDoor

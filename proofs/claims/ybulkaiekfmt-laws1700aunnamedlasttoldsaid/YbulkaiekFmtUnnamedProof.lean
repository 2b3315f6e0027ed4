/-
  The proof of the statement on unnamed last rooms: a told card.
-/
import Derived.Test.YbulkaiekFmtCards
import Derived.Test.YbulkaiekFmtWalks
import Derived.ProofKit
import Derived.Below
import Derived.Deep.SlicePairs
import Derived.WideKeyMaps2
import Derived.StringKeys
import Derived.Maps.OwnSet
import Derived.OpenShut
import Derived.Stop.JoinedTold
import Derived.SevenToldRow
namespace Go.Proofs.YbulkaiekFmt
open Go.ChangeShapes Go.WideShapes Go.ChangeAt Go.RowKit
open Go.Extern.Stop Go.Stop Go.Extern
set_option linter.unusedVariables false

theorem own : ownKnob Ybaf.prog.godebug = none := by kernel_rfl
theorem laidOut : laidOutB Ybaf.pinned.checked.prog = true := by kernel_rfl
theorem stops : Ybaf.pinned.checked.prog.stops = ["fmt.errorf"] := by kernel_rfl
theorem stopKnobs : Ybaf.pinned.checked.prog.stopKnobs = [] := by kernel_rfl
theorem quiet (os : Os) : Stop.quiet Ybaf.pinned.checked.prog os := by
  intro k hk
  rw [stopKnobs] at hk
  cases hk

/-- What the walk is told of the slice that came in. -/
def IsPairs (w : World) (a : Option Addr) (len : Nat) (ids nms : Nat → ByteArray) (bc off : Nat) : Prop :=
  (0 < len → a = some ⟨bc, off, none⟩) ∧ (∀ i, i < len → w.cell? ⟨bc, off + i * 2, none⟩ = some (.string (ids i))) ∧ (∀ i, i < len → w.cell? ⟨bc, off + i * 2 + 1, none⟩ = some (.string (nms i))) ∧ ∀ i, i < len → (ids i).size ≤ maxLen

theorem zero3 (w : World) : (zeroValue 3).run Ybaf.prog w = .ok (.int .i64 0) w := by kernel_rfl

set_option maxRecDepth 100000 in
theorem lifted (os : Os) (started : os.Started) (H : Type) (enc : TypeId × Value → H) :
    ReturnsInTold none {} Ybaf.checked os 3 .any Input.okWide ((OpenSpec.ofChange Rows.lawS1700AUnnamedLastSpec).preRow enc Ybaf.prog Ybaf.f3 Rows.lawS1700AUnnamedLastRow.domain false []) (fun F => ((OpenSpec.ofChange Rows.lawS1700AUnnamedLastSpec).at F).post enc Ybaf.prog Ybaf.f3 false true false false) (aloneAtReturn Ybaf.prog) nothingAlways := by
  refine returnsInTold_of_row (C := Ybaf.checked) (s := OpenSpec.ofChange Rows.lawS1700AUnnamedLastSpec) (by kernel_rfl) own started (by kernel_rfl) Ybaf.func3
    (OpenSpec.witness_stopped (enc := enc) (C := Ybaf.checked) false ⟨#[], #[.slice none 0 0, .map none], []⟩ 8 (by kernel_rfl) (by kernel_rfl) (by kernel_rfl) (by kernel_rfl)) ?_
  intro F W base args ds gs before _ hF hval0 hW _ _ hsz _ _
  have hval : ∀ (j : Nat) t v, Ybaf.f3.params[j]? = some t → args[j]? = some v → Value.okWide Ybaf.prog W .any base t v := hval0
  have hW' := hW
  obtain ⟨p, q, hA0, hV, rfl, hfz, hnd⟩ := hW
  have hA : DataW.TrodAll enc Ybaf.prog W 0 (fun _ => true) true Ybaf.f3.params.toList args.toList ds p := hA0
  rw [Ybaf.params3] at hA hval
  obtain ⟨v0, v1, d0, d1, p0, p1, rfl, rfl, rfl, h0, h1⟩ := trodAll_two hA
  obtain ⟨rfl, rfl⟩ := trodVars_none hV
  obtain ⟨a0, len0, cap0, rfl⟩ := okWide_slice Ybaf.underlying22 (hval 0 22 v0 rfl rfl)
  obtain ⟨m0, rfl⟩ := okWide_map Ybaf.underlying23 (hval 1 23 v1 rfl rfl)
  have k0 := h0
  have k1 := h1
  have lt0 : ∀ x ∈ p0, x.block < W.heap.size := by obtain ⟨m, hm⟩ := k0; exact DataW.trod_lt m _ _ _ hm
  have lt1 : ∀ x ∈ p1, x.block < W.heap.size := by obtain ⟨m, hm⟩ := k1; exact DataW.trod_lt m _ _ _ hm
  have hlk : ∀ W', Below W.heap.size W W' → ∀ id : ByteArray, id.size ≤ maxLen → ∃ n, (Instr.lookup 23 (.map m0) (.string id) false).run Ybaf.prog W' = .ok (.int .i64 n) W' := by
    intro W' hB id hid
    obtain ⟨fuel, hf⟩ := h1
    have key := Go.WideMaps.keyOf_string_mk (P := Ybaf.prog) (s := id) Ybaf.underlying9 hid
    rcases Go.WideMaps.open_map Ybaf.underlying23 Ybaf.underlying3 hf with ⟨hcs, _⟩ | ⟨b, es, clock, hcs, hb, _, hfit, _⟩
    · simp [Value.cells] at hcs
      subst hcs
      exact ⟨0, by simpa using Maps.look_nil (w := W') false (Maps.string_keyed Ybaf.underlying9) Ybaf.underlying23 (zero3 _) key⟩
    · simp [Value.cells] at hcs
      subst hcs
      have hlt : b < W.heap.size := (Array.getElem?_eq_some_iff.1 hb).1
      obtain ⟨n, hn, _⟩ := Go.WideMaps.fit_lookup (w := W') (Go.WideMaps.string_law Ybaf.underlying9) Ybaf.underlying23 (zero3 _) (by rw [hB.block b hlt]; exact hb) hfit key
      exact ⟨n, hn⟩
  obtain ⟨ids, nms, bc, off, hP⟩ : ∃ ids nms bc off, IsPairs W a0 len0 ids nms bc off := by
    obtain ⟨fuel, hf⟩ := h0
    rcases Go.Deep.open_slice_pairs Ybaf.underlying22 Ybaf.underlying30 (by kernel_rfl) rfl rfl (by kernel_rfl) (by kernel_rfl) hf with ⟨hcs, _⟩ | ⟨a, l, c, m, n, V0, V1, D0, D1, P0, P1, hcs, _, hl, hc, hm, _, hx⟩
    · simp [Value.cells] at hcs
      obtain ⟨rfl, rfl, rfl⟩ := hcs
      exact ⟨fun _ => ⟨#[]⟩, fun _ => ⟨#[]⟩, 0, 0, fun h => absurd h (by omega), fun i h => absurd h (by omega), fun i h => absurd h (by omega), fun i h => absurd h (by omega)⟩
    · simp [Value.cells] at hcs
      obtain ⟨rfl, rfl, rfl⟩ := hcs
      have hlm : len0 ≤ m := by rw [hm]; split <;> omega
      have each : ∀ i, i < m → ∃ s : ByteArray × ByteArray, V0 i = .string s.1 ∧ V1 i = .string s.2 ∧ s.1.size ≤ maxLen := by
        intro i hi
        obtain ⟨e1, e2, e3, e4⟩ := hx i hi
        obtain ⟨s1, g1, _, g2⟩ := DataW.trod_string Ybaf.underlying9 e3
        obtain ⟨s2, g3, _, g4⟩ := DataW.trod_string Ybaf.underlying9 e4
        simp at g1 g3
        exact ⟨(s1, s2), g1, g3, g2⟩
      obtain ⟨q, hq⟩ := Go.Deep.choose_lt each
      have cA : ∀ i, i < m → W.cell? (a.add (i * 2)) = some (.string (q i).1) := fun i hi => by rw [(hx i hi).1, (hq i hi).1]
      have cB : ∀ i, i < m → W.cell? (a.add (i * 2 + 1)) = some (.string (q i).2) := fun i hi => by rw [(hx i hi).2.1, (hq i hi).2.1]
      by_cases h0 : 0 < len0
      · obtain ⟨b, off, spot⟩ := a
        have hspot : spot = none := by simpa [Addr.add] using World.cell?_spot (cA 0 (by omega))
        subst hspot
        refine ⟨fun i => (q i).1, fun i => (q i).2, b, off, fun _ => rfl, fun i hi => ?_, fun i hi => ?_, fun i hi => (hq i (by omega)).2.2⟩
        · rw [← Go.WideShapes.add_plain]; exact cA i (by omega)
        · rw [Nat.add_assoc, ← Go.WideShapes.add_plain]; exact cB i (by omega)
      · exact ⟨fun _ => ⟨#[]⟩, fun _ => ⟨#[]⟩, 0, 0, fun h => absurd h (by omega), fun i h => absurd h (by omega), fun i h => absurd h (by omega), fun i h => absurd h (by omega)⟩
  obtain ⟨hP1, hP2, hP3, hP4⟩ := hP
  clear hA0 hval0
  refine (law_any F.told a0 len0 cap0 ids nms bc off (.map m0) W hF hlk hP1 hP2 hP3 hP4).mono fun e W' ⟨he, bel⟩ => ?_
  subst he
  exact ⟨_, rfl, _, _, _, [], _, [], hW', trodAll_mk1 (shut_bool Ybaf.underlying4 _), (trodAll_cons_mk (Below.trod laidOut (by kernel_rfl) (of_decide_eq_true (by kernel_rfl)) k0 bel lt0) (trodAll_cons_mk (Below.trod laidOut (by kernel_rfl) (of_decide_eq_true (by kernel_rfl)) k1 bel lt1) trodAll_mk0)), rfl, bel.frame _, fun h => by cases h⟩

theorem proved : Rows.LawS1700AUnnamedLastToldSaid :=
  Claim7.holds_of_told_any 3 Ybaf.f3 "fmt.errorf" [] [] _ _ _ (by kernel_rfl) rfl rfl rfl laidOut (by kernel_rfl) rfl ⟨rfl, rfl, rfl, rfl, rfl, rfl, rfl⟩ rfl rfl (by kernel_rfl) (by kernel_rfl) Ybaf.func3 (by kernel_rfl)
    (of_decide_eq_true (by kernel_rfl)) (by unfold Func.isWrapper; first | (rw [if_pos (by decide +kernel)]; kernel_rfl) | (rw [if_neg (by decide +kernel)]; exact ⟨rfl, rfl⟩)) stops.symm rfl stopKnobs.symm (by kernel_rfl)
    (by kernel_rfl) (by kernel_rfl) (by kernel_rfl) (by kernel_rfl) (by kernel_rfl) (by kernel_rfl) (by kernel_rfl) (by kernel_rfl) (by kernel_rfl) rfl (by kernel_rfl) rfl rfl
    rfl rfl
    rfl (by kernel_rfl) (by kernel_rfl) (by kernel_rfl) (by decide) (by kernel_rfl)
    (OpenClaim.moreEntering_of (by kernel_rfl) (by kernel_rfl) (by kernel_rfl) (by kernel_rfl) (by kernel_rfl) (by kernel_rfl) (by kernel_rfl) (by kernel_rfl) (by kernel_rfl) (by kernel_rfl))
    ⟨_, WideRow.started_initial, quiet _⟩
    (fun os started _ H enc _ => lifted os started H enc)
#print axioms proved
end Go.Proofs.YbulkaiekFmt

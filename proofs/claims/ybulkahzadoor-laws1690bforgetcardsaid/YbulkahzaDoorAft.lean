/-
  From the store as it is built to the store as 'forget' leaves it.
-/
import Derived.Test.YbulkahzaDoorNewT
import Derived.Laws.OwnMore
namespace Go.Proofs.YbulkahzaDoor
open Go.RowKit Go.Maps
set_option linter.unusedVariables false

def f0G (ia : Nat) : Lit → Nat := if 0 < ia then single sA ia else fun _ => 0
def f1G (fa fb : Nat) : Lit → Nat := fun k => if k.sameKey kB then fb else if k.sameKey kA then fa else 0
def b0G (ia fa fb : Nat) : Lit → Nat := fun k => max (f0G ia k) (f1G fa fb k)

theorem b0G_A (ia fa fb : Nat) : b0G ia fa fb kA = max ia fa := by
  have h1 : f0G ia kA = ia := by
    unfold f0G
    by_cases h : 0 < ia
    · rw [if_pos h]; unfold single; rw [if_pos (by decide)]
    · rw [if_neg h]; omega
  have h2 : f1G fa fb kA = fa := by
    unfold f1G
    rw [if_neg (by decide), if_pos (by decide)]
  unfold b0G
  rw [h1, h2]
theorem b0G_B (ia fa fb : Nat) : b0G ia fa fb kB = fb := by
  have h1 : f0G ia kB = 0 := by
    unfold f0G
    by_cases h : 0 < ia
    · rw [if_pos h]; unfold single; rw [if_neg (by decide)]
    · rw [if_neg h]
  have h2 : f1G fa fb kB = fb := by
    unfold f1G
    rw [if_pos (by decide)]
  unfold b0G
  rw [h1, h2]; omega
theorem b0G_M (ia fa fb : Nat) : b0G ia fa fb kM = 0 := by
  have h1 : f0G ia kM = 0 := by
    unfold f0G
    by_cases h : 0 < ia
    · rw [if_pos h]; unfold single; rw [if_neg (by decide)]
    · rw [if_neg h]
  have h2 : f1G fa fb kM = 0 := by
    unfold f1G
    rw [if_neg (by decide), if_neg (by decide)]
  unfold b0G
  rw [h1, h2]; rfl

theorem f1_none : (fun _ => 0 : Lit → Nat) = f1G 0 0 := by
  funext k
  unfold f1G
  split
  · rfl
  · split <;> rfl
theorem f1_a (fa : Nat) : (fun k : Lit => if k.sameKey (kS sA) then fa else 0) = f1G fa 0 := by
  funext k
  unfold f1G
  by_cases h : k = kB
  · subst h
    rw [if_neg (by decide), if_pos (by decide)]
  · rw [if_neg (c := k.sameKey kB = true) (by rw [sameKey_ne h]; simp)]
theorem f1_b (fb : Nat) : (fun k : Lit => if k.sameKey (kS sB) then fb else 0) = f1G 0 fb := by
  funext k
  unfold f1G
  by_cases h : k = kB
  · subst h
    rw [if_pos (by decide), if_pos (by decide)]
  · rw [if_neg (c := k.sameKey kB = true) (by rw [sameKey_ne h]; simp), if_neg (c := k.sameKey (kS sB) = true) (by rw [sameKey_ne h]; simp)]
    split <;> rfl
theorem f1_ab (fa fb : Nat) : (fun k : Lit => if k.sameKey (kS sB) then fb else if k.sameKey (kS sA) then fa else 0) = f1G fa fb := rfl

section
variable {W wr w2 : World} {G : Nat → Itm} {n : Nat} {p : Pl} {E Nn et fo : Nat} {mf0 : Option Nat} {f0 : Lit → Nat} {A : Nat → Option Nat} {tv av : Value}

theorem Bld.pre (h : Bld W wr G n p E Nn et fo mf0 f0 A n n n n n n n tv av) (hn : n ≤ 300) (hnF : p.nF = n) {b0 f1 : Lit → Nat} {mf1 : Option Nat} (hv1 : Vec wr 0 (.map mf1) f1) (hb : b0 = fun k => max (f0 k) (f1 k)) (hbM : b0 kM = 0) :
    ∃ aT B capT, tv = .slice aT n capT ∧ Pre wr (its G n A b0) p et fo n (cfG G) aT B capT mf0 mf1 f0 f1 ∧ (0 < n → W.heap.size ≤ B ∧ knd wr B = some (some 89)) := by
  have hok := its_ok G n A b0 hn hbM
  have hfiles : ∃ g, Files wr p.F p.nF g ∧ ∀ i, i < n → g (kS (nmG i)) = some (feG G i) := by rw [hnF]; exact h.files
  have hconf : ∃ g, Confs wr p.C n g ∧ ∀ i, i < n → g (kS (nmG i)) = cfG G i := by
    obtain ⟨g, hC, hg⟩ := h.conf
    exact ⟨g, hC, fun i hi => by rw [hg i]; simp [hi]⟩
  rcases h.tomb.2 with ⟨rfl, hn0⟩ | ⟨g, capT, cur, rfl, hg, hblk, hcap, hcm, hcs, htk⟩
  · subst hn0
    exact ⟨none, 0, 0, rfl, ⟨hok, hn, h.st, h.v0, hv1, hb, hfiles, h.vA, fun i hi => (h.nA i hi).1, hconf, h.CF, Nat.le_refl _, fun h => absurd h (Nat.lt_irrefl 0), fun h => absurd h (Nat.lt_irrefl 0)⟩, fun h => absurd h (Nat.lt_irrefl 0)⟩
  · have hkd : knd wr g = some (some 89) := knd_cells hblk
    refine ⟨some ⟨g, 0, none⟩, g, capT, rfl, ⟨hok, hn, h.st, h.v0, hv1, hb, hfiles, h.vA, fun i hi => (h.nA i hi).1, hconf, h.CF, hcap, fun _ => rfl, fun _ => ⟨ne_of_knd hkd h.st.knd (by simp), ⟨_, _, _, hblk⟩, fun j hj => ?_, fun r hr => by simp at hr, fun q _ hq => ?_⟩⟩, fun _ => ⟨hg, hkd⟩⟩
    · have hj : j < n * 23 := hj
      have hle : n * 23 ≤ capT * 23 := Nat.mul_le_mul_right _ hcap
      rw [Nat.zero_add, cell_of_row wr g j _ 89 (0, 0) hblk]
      refine ⟨?_, ?_⟩
      · rw [Array.getElem?_eq_getElem (show j < cur.size by omega)]; rfl
      · unfold World.frozen?; rw [hblk]; simp
    · intro j v hv
      have hq : q < n := hq
      have hj : j < 23 := by
        have := (List.getElem?_eq_some_iff.1 hv).1
        exact this
      rw [Nat.zero_add, h.tomb.cellAt (q * 23 + j) (by omega)]
      have := flat_get (itF G A) (List.range n) q (by simpa using hq) j hj
      rw [this]
      have e : (List.range n)[q]'(by simpa using hq) = q := by simp
      rw [e]
      exact hv

/-- The list 'above' as 'forget' finds it. -/
theorem Bld.ab (h : Bld W wr G n p E Nn et fo mf0 f0 A n n n n n n n tv av) (hn : n ≤ 300) {B : Nat} (hB : 0 < n → knd wr B = some (some 89)) :
    ∃ aA gA capA, av = .slice aA (lsG G n).length capA ∧ Ab0 wr p B aA gA (lsG G n).length (xsG G n) := by
  have hl := lsG_le G n
  rcases h.abv.2 with ⟨rfl, hn0⟩ | ⟨g, cap, cur, rfl, hg, hblk, hcap, hcm, hcs, htk⟩
  · exact ⟨none, 0, 0, by rw [hn0], by omega, fun h => by omega, fun i hi => by omega, fun i j h1 h2 => by omega⟩
  · have hkd : knd wr g = some (some 22) := knd_cells hblk
    refine ⟨some ⟨g, 0, none⟩, g, cap, rfl, by omega, fun h0 => ⟨rfl, ⟨_, _, _, hblk⟩, ne_of_knd hkd h.st.knd (by simp), ?_⟩, fun i hi => ?_, fun i j h1 h2 => xsG_up G n i j h1 h2⟩
    · exact ne_of_knd hkd (hB (by omega)) (by simp)
    · rw [h.abv.cellAt i (by omega), List.getElem?_map, List.getElem?_eq_getElem hi, xsG_get G n i hi]
      rfl

/-- The store behind 'forget'. -/
structure Aft (W wf : World) (G : Nat → Itm) (n : Nat) (p : Pl) (E Nn et fo th : Nat) (b0 : Lit → Nat) (A : Nat → Option Nat) (d : Nat → Bool) (tv : Value) : Prop where
  st : St wf (its G n A b0) p et fo tv d
  dr : ∀ i, i < n → d i = drG G th i
  own : wf.ownsRow W.heap.size 89 23 tv (wtG G th n).length (flat (itF G A) (wtG G th n))
  rE : wf.rowIs E 22 n (fun j => .int .u64 (ep G (j + 1) : Int))
  rN : wf.rowIs Nn 9 n (fun j => .string (nmG j))
  bel : Below W.heap.size W wf

theorem Aft.below {wf : World} {th : Nat} {b0 : Lit → Nat} {d : Nat → Bool} (h : Aft W wf G n p E Nn et fo th b0 A d tv) (hB : Below wf.heap.size wf w2) : Aft W w2 G n p E Nn et fo th b0 A d tv :=
  ⟨h.st.below hB, h.dr, own_keep h.own (Frm.of_below (may := fun _ => False) hB) (fun _ _ e => e), h.rE.of_block (hB.block _ h.rE.lt), h.rN.of_block (hB.block _ h.rN.lt), h.bel.trans (hB.mono h.bel.size)⟩

theorem Bld.aft {wf : World} (h : Bld W wr G n p E Nn et fo mf0 f0 A n n n n n n n tv av) (hn : n ≤ 300) {B th : Nat} {b0 : Lit → Nat} (hbM : b0 kM = 0) (hB : 0 < n → W.heap.size ≤ B ∧ knd wr B = some (some 89)) {x : Ending} (hp : ForgPost (its G n A b0) p et fo (cfG G) B th (lsG G n).length (xsG G n) wr x wf) :
    x = .returned (.tuple #[]) ∧ ∃ d tv', Aft W wf G n p E Nn (max et th) (max fo th) th b0 A d tv' := by
  obtain ⟨rfl, k, tv', hk, h1, h2, hown, hst, hf⟩ := hp
  have hI := its_ok G n A b0 hn hbM
  have e1 := sty_eq (its G n A b0) hI (cfG G) (lsG G n).length (xsG G n) th k hk h1 h2
  have e2 : (List.range n).filter (sty (its G n A b0) (cfG G) (lsG G n).length (xsG G n) th) = wtG G th n := by
    apply List.filter_congr
    intro i hi
    exact sty_G G A b0 n th i (List.mem_range.1 hi)
  have e3 : (List.range (its G n A b0).N).filter (sty (its G n A b0) (cfG G) (lsG G n).length (xsG G n) th) = wtG G th n := e2
  rw [e1, e3] at hown
  have hne : ∀ {b : Nat} {t : TypeId}, knd wr b = some (some t) → t ≠ 65 → t ≠ 89 → ¬ (b = p.S ∨ b = p.F ∨ (0 < (its G n A b0).N ∧ b = B)) := fun {b} {t} hb h65 h89 e => by
    rcases e with e | e | ⟨e0, e⟩
    · exact ne_of_knd hb h.st.knd (by simpa using h65) e
    · obtain ⟨g, hF, _⟩ := h.files
      exact ne_of_knd hb hF.knd (by simp) e
    · exact ne_of_knd hb (hB e0).2 (by simpa using h89) e
  refine ⟨rfl, _, tv', hst, fun i hi => ?_, own_mono hown h.bel.size, ?_, ?_, ?_⟩
  · rw [drp_eq (its G n A b0) hI (cfG G) (lsG G n).length (xsG G n) th k hk h1 h2 i hi]
    exact drp_G G A b0 n th i hi
  · exact (h.rE.of_block (hf.block _ h.rE.lt (hne (rowIs_knd h.rE) (by decide) (by decide)))).congr (fun j hj => by rw [if_pos hj])
  · exact (h.rN.of_block (hf.block _ h.rN.lt (hne (rowIs_knd h.rN) (by decide) (by decide)))).congr (fun j hj => by rw [if_pos hj])
  · refine ⟨hf.os.trans h.bel.os, hf.tape.trans h.bel.tape, hf.output.trans h.bel.output, Nat.le_trans h.bel.size hf.size, fun j hj => (hf.block j (Nat.lt_of_lt_of_le hj h.bel.size) (fun e => ?_)).trans (h.bel.block j hj)⟩
    have hlo := h.lo
    rcases e with e | e | ⟨e0, e⟩
    · omega
    · omega
    · have := (hB e0).1; omega
end
end Go.Proofs.YbulkahzaDoor

/-
  The store as the law builds it, item by item.
-/
import Derived.Test.YbulkahzaDoorGhost
import Derived.Lib.AppendIntMem
namespace Go.Proofs.YbulkahzaDoor
open Go.RowKit Go.Maps
set_option linter.unusedVariables false

/-- What a block is: a row of this type, or a map. -/
def knd (w : World) (b : Nat) : Option (Option TypeId) :=
  match w.heap[b]? with
  | some (.cells _ t _) => some (some t)
  | some (.map _ _) => some none
  | _ => none

theorem knd_cells {w : World} {b : Nat} {cs : Array Value} {t : TypeId} {fr : Nat × Nat} (h : w.heap[b]? = some (.cells cs t fr)) : knd w b = some (some t) := by unfold knd; rw [h]
theorem knd_map {w : World} {b : Nat} {es : Array MapEntry} {c : Nat} (h : w.heap[b]? = some (.map es c)) : knd w b = some none := by unfold knd; rw [h]
theorem StoreAt.knd {w : World} {S et fo F C : Nat} {tv fv : Value} (h : StoreAt w S et fo F C tv fv) : knd w S = some (some 65) := knd_cells h
theorem rowIs_knd {w : World} {b : Nat} {t : TypeId} {n : Nat} {f : Nat → Value} (h : w.rowIs b t n f) : knd w b = some (some t) := by obtain ⟨c, hb, _⟩ := h; exact knd_cells hb
theorem Files.knd {w : World} {F n : Nat} {g : Lit → Option Nat} (h : Files w F n g) : knd w F = some none := by obtain ⟨D, ⟨es, clock, hb, _⟩, _⟩ := h; exact knd_map hb
theorem Confs.knd {w : World} {C n : Nat} {g : Lit → Bool} (h : Confs w C n g) : knd w C = some none := by obtain ⟨D, ⟨es, clock, hb, _⟩, _⟩ := h; exact knd_map hb
theorem Vec.knd {w : World} {base b : Nat} {f : Lit → Nat} (h : Vec w base (.map (some b)) f) : knd w b = some none := by
  obtain ⟨_, ⟨h1, _⟩ | ⟨b2, D, h1, _, ⟨es, clock, hb, _⟩, _⟩⟩ := h
  · cases h1
  · cases h1; exact knd_map hb
theorem own_knd {w : World} {base : Nat} {e : TypeId} {size : Nat} {v : Value} {n : Nat} {xs : List Value} (h : w.ownsRow base e size v n xs) {g : Nat} (hg : v.ownBlock = some g) : knd w g = some (some e) := by
  rcases h.2 with ⟨rfl, _⟩ | ⟨g2, cap, cur, rfl, _, h2, _⟩
  · cases hg
  · have : g2 = g := by simpa [Value.ownBlock] using hg
    subst this
    exact knd_cells h2
theorem ne_of_knd {w : World} {a b : Nat} {x y : Option TypeId} (h1 : knd w a = some x) (h2 : knd w b = some y) (h : x ≠ y) : a ≠ b := fun e => by
  subst e
  rw [h1] at h2
  exact h (Option.some.inj h2)
theorem own_keep {w w' : World} {base : Nat} {e : TypeId} {size : Nat} {v : Value} {n : Nat} {xs : List Value} {may : Nat → Prop} (h : w.ownsRow base e size v n xs) (hf : Frm w w' may) (hn : ∀ g, v.ownBlock = some g → ¬ may g) : w'.ownsRow base e size v n xs := by
  refine ⟨h.1, ?_⟩
  rcases h.2 with h0 | ⟨g, cap, cur, rfl, h1, h2, r⟩
  · exact .inl h0
  · exact .inr ⟨g, cap, cur, rfl, h1, (hf.block g (Array.getElem?_eq_some_iff.1 h2).1 (hn g rfl)).trans h2, r⟩

abbrev itF (G : Nat → Itm) (A : Nat → Option Nat) : Its := its G 0 A (fun _ => 0)

structure Bld (W wr : World) (G : Nat → Itm) (n : Nat) (p : Pl) (E Nn et fo : Nat) (mf0 : Option Nat) (f0 : Lit → Nat) (A : Nat → Option Nat) (iE iN iA iT iF iC iL : Nat) (tv av : Value) : Prop where
  st : StoreAt wr p.S et fo p.F p.C tv (.map mf0)
  v0 : Vec wr 0 (.map mf0) f0
  files : ∃ g, Files wr p.F iF g ∧ ∀ j, j < iF → g (kS (nmG j)) = some (feG G j)
  conf : ∃ g, Confs wr p.C iC g ∧ ∀ j, g (kS (nmG j)) = (decide (j < iC) && cfG G j)
  vA : ∀ j, j < iA → Vec wr 0 (.map (A j)) (single (ndG (G j)) ((G j).hist + 1))
  nA : ∀ j, j < iA → A j ≠ some p.F ∧ A j ≠ some p.C
  n0 : mf0 ≠ some p.F ∧ mf0 ≠ some p.C
  CF : p.C ≠ p.F
  tomb : wr.ownsRow W.heap.size 89 23 tv iT (flat (itF G A) (List.range iT))
  abv : wr.ownsRow W.heap.size 22 1 av (lsG G iL).length ((lsG G iL).map (fun j => Value.int .u64 (ep G (j + 1) : Int)))
  rE : wr.rowIs E 22 n (fun j => .int .u64 ((if j < iE then ep G (j + 1) else 0 : Nat) : Int))
  rN : wr.rowIs Nn 9 n (fun j => .string (if j < iN then nmG j else eS))
  nE : av.ownBlock ≠ some E
  bel : Below W.heap.size W wr
  lo : W.heap.size ≤ p.S ∧ W.heap.size ≤ p.F ∧ W.heap.size ≤ p.C ∧ W.heap.size ≤ E ∧ W.heap.size ≤ Nn

section
variable {W wr w2 : World} {G : Nat → Itm} {n : Nat} {p : Pl} {E Nn et fo : Nat} {mf0 : Option Nat} {f0 : Lit → Nat} {A : Nat → Option Nat} {iE iN iA iT iF iC iL : Nat} {tv av : Value}

theorem Bld.F_lt (h : Bld W wr G n p E Nn et fo mf0 f0 A iE iN iA iT iF iC iL tv av) : p.F < wr.heap.size := by obtain ⟨g, hF, _⟩ := h.files; exact hF.lt
theorem Bld.C_lt (h : Bld W wr G n p E Nn et fo mf0 f0 A iE iN iA iT iF iC iL tv av) : p.C < wr.heap.size := by obtain ⟨g, hF, _⟩ := h.conf; exact hF.lt

theorem Bld.below (h : Bld W wr G n p E Nn et fo mf0 f0 A iE iN iA iT iF iC iL tv av) (hB : Below wr.heap.size wr w2) : Bld W w2 G n p E Nn et fo mf0 f0 A iE iN iA iT iF iC iL tv av := by
  have hf : Frm wr w2 (fun _ => False) := Frm.of_below hB
  refine ⟨h.st.of_block (hB.block _ h.st.lt), hf.vec h.v0 (fun _ _ e => e), ?_, ?_, fun j hj => hf.vec (h.vA j hj) (fun _ _ e => e), h.nA, h.n0, h.CF, own_keep h.tomb hf (fun _ _ e => e), own_keep h.abv hf (fun _ _ e => e), h.rE.of_block (hB.block _ h.rE.lt), h.rN.of_block (hB.block _ h.rN.lt), h.nE, h.bel.trans (hB.mono h.bel.size), h.lo⟩
  · obtain ⟨g, hF, hg⟩ := h.files; exact ⟨g, hF.of_block (hB.block _ hF.lt), hg⟩
  · obtain ⟨g, hF, hg⟩ := h.conf; exact ⟨g, hF.of_block (hB.block _ hF.lt), hg⟩

/-- Only a row of cells turned: the maps stand. -/
theorem Bld.maps (h : Bld W wr G n p E Nn et fo mf0 f0 A iE iN iA iT iF iC iL tv av) {X : Nat} {t : TypeId} (hX : knd wr X = some (some t)) (hf : Frm wr w2 (fun b => b = X)) :
    Vec w2 0 (.map mf0) f0 ∧ (∃ g, Files w2 p.F iF g ∧ ∀ j, j < iF → g (kS (nmG j)) = some (feG G j)) ∧ (∃ g, Confs w2 p.C iC g ∧ ∀ j, g (kS (nmG j)) = (decide (j < iC) && cfG G j)) ∧ ∀ j, j < iA → Vec w2 0 (.map (A j)) (single (ndG (G j)) ((G j).hist + 1)) := by
  refine ⟨hf.vec h.v0 (fun b hb e => ?_), ?_, ?_, fun j hj => hf.vec (h.vA j hj) (fun b hb e => ?_)⟩
  · have h1 := h.v0
    rw [hb] at h1
    exact ne_of_knd h1.knd hX (by simp) e
  · obtain ⟨g, hF, hg⟩ := h.files; exact ⟨g, hF.of_block (hf.block _ hF.lt (ne_of_knd hF.knd hX (by simp))), hg⟩
  · obtain ⟨g, hF, hg⟩ := h.conf; exact ⟨g, hF.of_block (hf.block _ hF.lt (ne_of_knd hF.knd hX (by simp))), hg⟩
  · have h1 := h.vA j hj
    rw [hb] at h1
    exact ne_of_knd h1.knd hX (by simp) e

theorem bel_frm {X : Nat} (h : Below W.heap.size W wr) (hf : Frm wr w2 (fun b => b = X)) (hX : W.heap.size ≤ X) : Below W.heap.size W w2 :=
  ⟨hf.os.trans h.os, hf.tape.trans h.tape, hf.output.trans h.output, Nat.le_trans h.size hf.size, fun k hk => (hf.block k (Nat.lt_of_lt_of_le hk h.size) (by show k ≠ X; omega)).trans (h.block k hk)⟩

theorem Bld.setE (h : Bld W wr G n p E Nn et fo mf0 f0 A iE iN iA iT iF iC iL tv av) (hi : iE < n) : Bld W (wr.setCell ⟨E, iE, none⟩ (.int .u64 (ep G (iE + 1) : Int))) G n p E Nn et fo mf0 f0 A (iE + 1) iN iA iT iF iC iL tv av := by
  have hf : Frm wr (wr.setCell ⟨E, iE, none⟩ (.int .u64 (ep G (iE + 1) : Int))) (fun b => b = E) := (Frm.refl wr _).setCell _ _ (fun _ => rfl)
  have hX := rowIs_knd h.rE
  obtain ⟨m1, m2, m3, m4⟩ := h.maps hX hf
  refine ⟨h.st.of_block (hf.block _ h.st.lt (ne_of_knd h.st.knd hX (by simp))), m1, m2, m3, m4, h.nA, h.n0, h.CF, own_keep h.tomb hf (fun g hg => ne_of_knd (own_knd h.tomb hg) hX (by simp)), own_keep h.abv hf (fun g hg e => h.nE (e ▸ hg)), (h.rE.set iE _).congr (fun j hj => ?_), h.rN.of_block (hf.block _ h.rN.lt (ne_of_knd (rowIs_knd h.rN) hX (by simp))), h.nE, bel_frm h.bel hf h.lo.2.2.2.1, h.lo⟩
  by_cases e : j = iE
  · subst e; simp
  · rw [if_neg e]
    by_cases hlt : j < iE
    · rw [if_pos hlt, if_pos (by omega)]
    · rw [if_neg hlt, if_neg (by omega)]

theorem Bld.setN (h : Bld W wr G n p E Nn et fo mf0 f0 A iE iN iA iT iF iC iL tv av) (hi : iN < n) : Bld W (wr.setCell ⟨Nn, iN, none⟩ (.string (nmG iN))) G n p E Nn et fo mf0 f0 A iE (iN + 1) iA iT iF iC iL tv av := by
  have hf : Frm wr (wr.setCell ⟨Nn, iN, none⟩ (.string (nmG iN))) (fun b => b = Nn) := (Frm.refl wr _).setCell _ _ (fun _ => rfl)
  have hX := rowIs_knd h.rN
  obtain ⟨m1, m2, m3, m4⟩ := h.maps hX hf
  refine ⟨h.st.of_block (hf.block _ h.st.lt (ne_of_knd h.st.knd hX (by simp))), m1, m2, m3, m4, h.nA, h.n0, h.CF, own_keep h.tomb hf (fun g hg => ne_of_knd (own_knd h.tomb hg) hX (by simp)), own_keep h.abv hf (fun g hg => ne_of_knd (own_knd h.abv hg) hX (by simp)), h.rE.of_block (hf.block _ h.rE.lt (ne_of_knd (rowIs_knd h.rE) hX (by simp))), (h.rN.set iN _).congr (fun j hj => ?_), h.nE, bel_frm h.bel hf h.lo.2.2.2.2, h.lo⟩
  by_cases e : j = iN
  · subst e; simp
  · rw [if_neg e]
    by_cases hlt : j < iN
    · rw [if_pos hlt, if_pos (by omega)]
    · rw [if_neg hlt, if_neg (by omega)]

theorem flat_congr {I J : Its} {ks : List Nat} (h : ∀ i ∈ ks, I.tb i = J.tb i) : flat I ks = flat J ks := by
  unfold flat
  congr 1
  exact List.map_congr_left (fun i hi => by rw [h i hi])

/-- The vector of the next item is made. -/
theorem Bld.newA (h : Bld W wr G n p E Nn et fo mf0 f0 A iE iN iA iT iF iC iL tv av) (hT : iT ≤ iA) {b : Nat} (hb : wr.heap.size ≤ b) (hB : Below wr.heap.size wr w2) (hV : Vec w2 0 (.map (some b)) (single (ndG (G iA)) ((G iA).hist + 1))) :
    Bld W w2 G n p E Nn et fo mf0 f0 (fun j => if j = iA then some b else A j) iE iN (iA + 1) iT iF iC iL tv av := by
  have h2 := h.below hB
  have hF := h.F_lt
  have hC := h.C_lt
  refine ⟨h2.st, h2.v0, h2.files, h2.conf, fun j hj => ?_, fun j hj => ?_, h2.n0, h2.CF, ?_, h2.abv, h2.rE, h2.rN, h2.nE, h2.bel, h2.lo⟩
  · by_cases e : j = iA
    · subst e; simp only [if_true]; exact hV
    · simp only [if_neg e]; exact h2.vA j (by omega)
  · by_cases e : j = iA
    · subst e
      simp only [if_true]
      exact ⟨fun e => by have := Option.some.inj e; omega, fun e => by have := Option.some.inj e; omega⟩
    · simp only [if_neg e]; exact h2.nA j (by omega)
  · have e : flat (itF G (fun j => if j = iA then some b else A j)) (List.range iT) = flat (itF G A) (List.range iT) := flat_congr fun i hi => by
      have := List.mem_range.1 hi
      have e1 : i ≠ iA := by omega
      show tombC _ _ (if i = iA then some b else A i) = tombC _ _ (A i)
      rw [if_neg e1]
    rw [e]
    exact h2.tomb

/-- A tombstone is appended and the slice stored. -/
theorem Bld.tombs (h : Bld W wr G n p E Nn et fo mf0 f0 A iE iN iA iT iF iC iL tv av) {tv' : Value} (hown : w2.ownsRow W.heap.size 89 23 tv' (iT + 1) (flat (itF G A) (List.range (iT + 1)))) (hg : wr.grownBy w2 tv.ownBlock) (hs : wr.heap.size ≤ w2.heap.size) :
    Bld W (w2.setCell ⟨p.S, 32, none⟩ tv') G n p E Nn et fo mf0 f0 A iE iN iA (iT + 1) iF iC iL tv' av := by
  have hf0 : Frm wr w2 (fun b => tv.ownBlock = some b) := Frm.of_grown hg (fun j e _ => e)
  have hk : ∀ {b : Nat} {x : Option TypeId}, knd wr b = some x → x ≠ some 89 → ¬ tv.ownBlock = some b := fun hb hx e => hx (by
    have := own_knd h.tomb e
    rw [hb] at this
    exact Option.some.inj this)
  have hS2 : StoreAt w2 p.S et fo p.F p.C tv (.map mf0) := h.st.of_block (hf0.block _ h.st.lt (hk h.st.knd (by simp)))
  have hX := hS2.knd
  have hf : Frm w2 (w2.setCell ⟨p.S, 32, none⟩ tv') (fun b => b = p.S) := (Frm.refl w2 _).setCell _ _ (fun _ => rfl)
  have hv : ∀ {v : Value} {f : Lit → Nat}, Vec wr 0 v f → Vec (w2.setCell ⟨p.S, 32, none⟩ tv') 0 v f := fun {v} {f} hv => by
    have h1 : Vec w2 0 v f := hf0.vec hv (fun b hb => hk ((hb ▸ hv : Vec wr 0 (.map (some b)) f).knd) (by simp))
    exact hf.vec h1 (fun b hb e => ne_of_knd ((hb ▸ h1 : Vec w2 0 (.map (some b)) f).knd) hX (by simp) e)
  have hr : ∀ {b : Nat} {t : TypeId} {m : Nat} {f : Nat → Value}, wr.rowIs b t m f → t ≠ 89 → t ≠ 65 → (w2.setCell ⟨p.S, 32, none⟩ tv').rowIs b t m f := fun {b} {t} {m} {f} h1 hne1 hne2 => by
    have h2 : w2.rowIs b t m f := h1.of_block (hf0.block _ h1.lt (hk (rowIs_knd h1) (by simpa using hne1)))
    exact h2.of_block (hf.block _ h2.lt (ne_of_knd (rowIs_knd h2) hX (by simpa using hne2)))
  refine ⟨hS2.setTombs tv', hv h.v0, ?_, ?_, fun j hj => hv (h.vA j hj), h.nA, h.n0, h.CF, own_keep hown hf (fun g hg => ne_of_knd (own_knd hown hg) hX (by simp)), ?_, hr h.rE (by decide) (by decide), hr h.rN (by decide) (by decide), h.nE, ?_, h.lo⟩
  · obtain ⟨g, hF, hg⟩ := h.files
    have h2 := hF.of_block (hf0.block _ hF.lt (hk hF.knd (by simp)))
    exact ⟨g, h2.of_block (hf.block _ h2.lt (ne_of_knd h2.knd hX (by simp))), hg⟩
  · obtain ⟨g, hF, hg⟩ := h.conf
    have h2 := hF.of_block (hf0.block _ hF.lt (hk hF.knd (by simp)))
    exact ⟨g, h2.of_block (hf.block _ h2.lt (ne_of_knd h2.knd hX (by simp))), hg⟩
  · have h2 := own_keep h.abv hf0 (fun g hg => hk (own_knd h.abv hg) (by simp))
    exact own_keep h2 hf (fun g hg => ne_of_knd (own_knd h2 hg) hX (by simp))
  · refine bel_frm (wr := w2) ?_ hf h.lo.1
    exact ⟨hf0.os.trans h.bel.os, hf0.tape.trans h.bel.tape, hf0.output.trans h.bel.output, Nat.le_trans h.bel.size hf0.size, fun k hk2 => (hf0.block k (Nat.lt_of_lt_of_le hk2 h.bel.size) (fun e => by have := (h.tomb.lt k e).1; omega)).trans (h.bel.block k hk2)⟩

/-- A map turned: the rows stand, and the maps other than it. -/
theorem Bld.mapTurn (h : Bld W wr G n p E Nn et fo mf0 f0 A iE iN iA iT iF iC iL tv av) {X : Nat} (hX : X = p.F ∨ X = p.C) (hg : wr.grownBy w2 (some X)) {iF' iC' : Nat}
    (hF : ∃ g, Files w2 p.F iF' g ∧ ∀ j, j < iF' → g (kS (nmG j)) = some (feG G j)) (hC : ∃ g, Confs w2 p.C iC' g ∧ ∀ j, g (kS (nmG j)) = (decide (j < iC') && cfG G j)) : Bld W w2 G n p E Nn et fo mf0 f0 A iE iN iA iT iF' iC' iL tv av := by
  have hf : Frm wr w2 (fun b => b = X) := Frm.of_grown hg (fun j e _ => (Option.some.inj e).symm)
  have hkX : knd wr X = some none := by
    rcases hX with rfl | rfl
    · obtain ⟨g, h1, _⟩ := h.files; exact h1.knd
    · obtain ⟨g, h1, _⟩ := h.conf; exact h1.knd
  have hne : ∀ {m : Option Nat}, m ≠ some p.F ∧ m ≠ some p.C → ∀ b, (Value.map m) = .map (some b) → ¬ b = X := fun {m} hm b hb e => by
    cases hb
    subst e
    rcases hX with rfl | rfl
    · exact hm.1 rfl
    · exact hm.2 rfl
  refine ⟨h.st.of_block (hf.block _ h.st.lt (ne_of_knd h.st.knd hkX (by simp))), hf.vec h.v0 (hne h.n0), hF, hC, fun j hj => hf.vec (h.vA j hj) (hne (h.nA j hj)), h.nA, h.n0, h.CF, own_keep h.tomb hf (fun g hg => ne_of_knd (own_knd h.tomb hg) hkX (by simp)), own_keep h.abv hf (fun g hg => ne_of_knd (own_knd h.abv hg) hkX (by simp)), h.rE.of_block (hf.block _ h.rE.lt (ne_of_knd (rowIs_knd h.rE) hkX (by simp))), h.rN.of_block (hf.block _ h.rN.lt (ne_of_knd (rowIs_knd h.rN) hkX (by simp))), h.nE, bel_frm h.bel hf ?_, h.lo⟩
  rcases hX with rfl | rfl
  · exact h.lo.2.1
  · exact h.lo.2.2.1

theorem Bld.file (h : Bld W wr G n p E Nn et fo mf0 f0 A iE iN iA iT iF iC iL tv av) (hi : iF < 1000) (kd : Int) :
    ∃ w', (Instr.mapUpdate 30 (.map (some p.F)) (.string (nmG iF)) (.agg (fileC (feG G iF) kd))).run Ybad.prog wr = .ok () w' ∧ Bld W w' G n p E Nn et fo mf0 f0 A iE iN iA iT (iF + 1) iC iL tv av ∧ w'.heap.size = wr.heap.size ∧ ∀ b, b < wr.heap.size → b ≠ p.F → w'.heap[b]? = wr.heap[b]? := by
  obtain ⟨g, hF, hg⟩ := h.files
  have hs := nmG_size iF hi
  obtain ⟨w', hrun, hF', hgr, hsz⟩ := hF.store (by simp only [maxLen]; omega) (nmG iF) (by simp only [maxLen]; omega) (feG G iF) kd
  refine ⟨w', hrun, h.mapTurn (.inl rfl) hgr ⟨_, hF', fun j hj => ?_⟩ ?_, hsz, fun b hb hne => hgr.block b hb (fun e => hne (Option.some.inj e))⟩
  · by_cases e : j = iF
    · subst e; exact upd_same _ _ _
    · rw [upd_other _ _ _ (fun e2 => e (nmG_inj e2))]; exact hg j (by omega)
  · obtain ⟨g2, hC, hg2⟩ := h.conf
    exact ⟨g2, hC.of_block (hgr.block _ hC.lt (fun e => h.CF (Option.some.inj e))), hg2⟩

theorem Bld.confl (h : Bld W wr G n p E Nn et fo mf0 f0 A iE iN iA iT iF iC iL tv av) (hi : iC < 1000) (hc : cfG G iC = true) (nm : ByteArray) :
    ∃ w', (Instr.mapUpdate 31 (.map (some p.C)) (.string (nmG iC)) (.agg (confC nm))).run Ybad.prog wr = .ok () w' ∧ Bld W w' G n p E Nn et fo mf0 f0 A iE iN iA iT iF (iC + 1) iL tv av ∧ w'.heap.size = wr.heap.size ∧ ∀ b, b < wr.heap.size → b ≠ p.C → w'.heap[b]? = wr.heap[b]? := by
  obtain ⟨g, hC, hg⟩ := h.conf
  have hs := nmG_size iC hi
  obtain ⟨w', hrun, hC', hgr, hsz⟩ := hC.store (by simp only [maxLen]; omega) (nmG iC) (by simp only [maxLen]; omega) nm
  refine ⟨w', hrun, h.mapTurn (.inr rfl) hgr ?_ ⟨_, hC', fun j => ?_⟩, hsz, fun b hb hne => hgr.block b hb (fun e => hne (Option.some.inj e))⟩
  · obtain ⟨g2, hF, hg2⟩ := h.files
    exact ⟨g2, hF.of_block (hgr.block _ hF.lt (fun e => h.CF (Option.some.inj e).symm)), hg2⟩
  · by_cases e : j = iC
    · subst e; rw [upd_same, hc]; simp
    · rw [upd_other _ _ _ (fun e2 => e (nmG_inj e2)), hg j]
      have : decide (j < iC + 1) = decide (j < iC) := by rw [decide_eq_decide]; omega
      rw [this]

theorem Bld.noConfl (h : Bld W wr G n p E Nn et fo mf0 f0 A iE iN iA iT iF iC iL tv av) (hc : cfG G iC = false) : Bld W wr G n p E Nn et fo mf0 f0 A iE iN iA iT iF (iC + 1) iL tv av := by
  refine ⟨h.st, h.v0, h.files, ?_, h.vA, h.nA, h.n0, h.CF, h.tomb, h.abv, h.rE, h.rN, h.nE, h.bel, h.lo⟩
  obtain ⟨g, hC, hg⟩ := h.conf
  refine ⟨g, hC.mono (Nat.le_succ _), fun j => ?_⟩
  rw [hg j]
  by_cases e : j = iC
  · subst e; rw [hc]; simp
  · have : decide (j < iC + 1) = decide (j < iC) := by rw [decide_eq_decide]; omega
    rw [this]

/-- The list 'above' grows. -/
theorem Bld.listed (h : Bld W wr G n p E Nn et fo mf0 f0 A iE iN iA iT iF iC iL tv av) (hl : (G iL).listed = true) {av' : Value} (hown : w2.ownsRow W.heap.size 22 1 av' ((lsG G iL).length + 1) ((lsG G iL).map (fun j => Value.int .u64 (ep G (j + 1) : Int)) ++ [.int .u64 (ep G (iL + 1) : Int)])) (hg : wr.grownBy w2 av.ownBlock)
    (hat : av'.ownBlock = av.ownBlock ∨ ∃ b, av'.ownBlock = some b ∧ wr.heap.size ≤ b) : Bld W w2 G n p E Nn et fo mf0 f0 A iE iN iA iT iF iC (iL + 1) tv av' := by
  have hf : Frm wr w2 (fun b => av.ownBlock = some b) := Frm.of_grown hg (fun j e _ => e)
  have hk : ∀ {b : Nat} {x : Option TypeId}, knd wr b = some x → x ≠ some 22 → ¬ av.ownBlock = some b := fun hb hx e => hx (by
    have := own_knd h.abv e
    rw [hb] at this
    exact Option.some.inj this)
  have els : lsG G (iL + 1) = lsG G iL ++ [iL] := by rw [lsG_succ, if_pos hl]
  refine ⟨h.st.of_block (hf.block _ h.st.lt (hk h.st.knd (by simp))), hf.vec h.v0 (fun b hb => hk ((hb ▸ h.v0 : Vec wr 0 (.map (some b)) f0).knd) (by simp)), ?_, ?_, fun j hj => hf.vec (h.vA j hj) (fun b hb => hk ((hb ▸ h.vA j hj : Vec wr 0 (.map (some b)) _).knd) (by simp)), h.nA, h.n0, h.CF, own_keep h.tomb hf (fun g hg => hk (own_knd h.tomb hg) (by simp)), by rw [els]; simpa using hown, h.rE.of_block (hf.block _ h.rE.lt h.nE), h.rN.of_block (hf.block _ h.rN.lt (hk (rowIs_knd h.rN) (by simp))), ?_, ?_, h.lo⟩
  · obtain ⟨g, hF, hg⟩ := h.files
    exact ⟨g, hF.of_block (hf.block _ hF.lt (hk hF.knd (by simp))), hg⟩
  · obtain ⟨g, hF, hg⟩ := h.conf
    exact ⟨g, hF.of_block (hf.block _ hF.lt (hk hF.knd (by simp))), hg⟩
  · rcases hat with e | ⟨b, e, hb⟩
    · rw [e]; exact h.nE
    · rw [e]
      intro e2
      have := h.rE.lt
      have := Option.some.inj e2
      omega
  · exact ⟨hf.os.trans h.bel.os, hf.tape.trans h.bel.tape, hf.output.trans h.bel.output, Nat.le_trans h.bel.size hf.size, fun k hk2 => (hf.block k (Nat.lt_of_lt_of_le hk2 h.bel.size) (fun e => by have := (h.abv.lt k e).1; omega)).trans (h.bel.block k hk2)⟩

theorem Bld.noListed (h : Bld W wr G n p E Nn et fo mf0 f0 A iE iN iA iT iF iC iL tv av) (hl : (G iL).listed = false) : Bld W wr G n p E Nn et fo mf0 f0 A iE iN iA iT iF iC (iL + 1) tv av := by
  refine ⟨h.st, h.v0, h.files, h.conf, h.vA, h.nA, h.n0, h.CF, h.tomb, ?_, h.rE, h.rN, h.nE, h.bel, h.lo⟩
  have els : lsG G (iL + 1) = lsG G iL := by rw [lsG_succ, hl]; rfl
  rw [els]
  exact h.abv
end

theorem tabIs_below {w w' : World} (h : Lib.TabIs Ybad.prog w Ybad.powName .u64 Lib.pow10Tab) (hB : Below w.heap.size w w') : Lib.TabIs Ybad.prog w' Ybad.powName .u64 Lib.pow10Tab := by
  unfold Lib.TabIs World.var? at *
  cases hg : Ybad.prog.globalNamed Ybad.powName with
  | none => simp [hg] at h
  | some g =>
    simp only [hg, Option.bind_some] at h ⊢
    have hlt : g < w.heap.size := by
      rcases Nat.lt_or_ge g w.heap.size with h' | h'
      · exact h'
      · rw [Array.getElem?_eq_none h'] at h; simp at h
    rw [hB.block g hlt]
    exact h

theorem itoa_any (k : Nat) (hk : k < 1000) (w : World) (htab : Lib.TabIs Ybad.prog w Ybad.powName .u64 Lib.pow10Tab) :
    Calls Ybad.prog 7 #[.int .i64 (k : Int)] w fun e w' => e = .returned (.string ⟨(Lib.itoa (k : Int)).toArray⟩) ∧ Below w.heap.size w w' := by
  refine (Ybad.strconv_Itoa (k : Int) (by omega) (by omega) w htab).mono ?_
  rintro e w' ⟨rfl, kk, os, rfl⟩
  exact ⟨rfl, Lib.below_grow w.heap.size w (Nat.le_refl _) kk os⟩

/-- append of one number onto a row of numbers that the call owns. -/
theorem append1 (t e : TypeId) (q : IntKind) (ht : Ybad.prog.underlying t = some (.slice e)) (hinf : (Ybad.prog.info? e).map (fun i => (i.zero, i.size, i.bytes)) = some (some (.int q 0), 1, 8)) (w : World) (base : Nat) (ty : TypeId) (v : Value) (xs : List Value) (hown : w.ownsRow base e 1 v xs.length xs) (g : Nat) (z : Int)
    (hc : w.cell? ⟨g, 0, none⟩ = some (.int q z)) (h63 : xs.length ≤ 1024) (hbase : base ≤ w.heap.size) :
    ∃ v' w', (bigApp t ty #[v, .slice (some ⟨g, 0, none⟩) 1 1]).run Ybad.prog w = .ok v' w' ∧ w'.ownsRow base e 1 v' (xs.length + 1) (xs ++ [.int q z]) ∧ w.grownBy w' v.ownBlock ∧ (v'.ownBlock = v.ownBlock ∨ v'.ownBlock = some w.heap.size) := by
  obtain ⟨i, hi⟩ : ∃ i, Ybad.prog.info? e = some i := by
    generalize Ybad.prog.info? e = x at hinf
    cases x with
    | none => cases hinf
    | some i => exact ⟨i, rfl⟩
  rw [hi] at hinf
  simp only [Option.map_some, Option.some.injEq, Prod.mk.injEq] at hinf
  obtain ⟨hz, hs, hb⟩ := hinf
  obtain ⟨v', w', h1, h2, h3, _, h5⟩ := run_append_own_at (P := Ybad.prog) w base t ty e i (.int q 0) 1 8 ht hi hz hs hb rfl (by decide) v xs.length xs hown ⟨g, 0, none⟩ 1 1 [.int q z] rfl (fun j u hu => by
    match j, hu with
    | 0, hu =>
      have hadd : (⟨g, 0, none⟩ : Addr).add 0 = ⟨g, 0, none⟩ := by unfold Addr.add; split <;> simp_all
      rw [hadd, hc]; exact hu) (by simp [Value.oneCell']) (by simp only [maxLen]; omega) (by omega) hbase
  exact ⟨v', w', h1, h2, h3, h5⟩

/-- A tombstone stored into a fresh variable, wherever it lies. -/
theorem storeT {w : World} {T : Nat} (h : w.heap[T]? = some (.cells zTomb 89 (0, 0))) (nm : ByteArray) (e : Nat) (mA : Option Nat) :
    ∃ w', (bigStore 89 ⟨T, 0, none⟩ (.agg (tombC nm e mA))).run Ybad.prog w = .ok () w' ∧ w'.heap[T]? = some (.cells (tombC nm e mA) 89 (0, 0)) ∧ Frm w w' (fun b => b = T) := by
  have ht : w.there T 0 (tombC nm e mA).size := fun j hj => by
    have hj : j < 23 := hj
    rw [Nat.zero_add, cell_of_row w T j _ 89 (0, 0) h]
    refine ⟨?_, ?_⟩
    · rw [Array.getElem?_eq_getElem (show j < zTomb.size from hj)]; rfl
    · unfold World.frozen?; rw [h]; simp
  refine ⟨_, run_storeVar_mid _ _ _ _ _ ht (by kernel_rfl) (by simp [Value.oneCell']), ?_, frm_row w T 0 _⟩
  have key : ∀ (l : List Value) (c : Array Value) (i : Nat) (w : World), w.heap[T]? = some (.cells c 89 (0, 0)) → (w.setCells T i l).heap[T]? = some (.cells (lay c i l) 89 (0, 0)) := by
    intro l
    induction l with
    | nil => intro c i w h; exact h
    | cons v r ih =>
      intro c i w h
      exact ih (c.setIfInBounds i v) (i + 1) (w.setCell ⟨T, i, none⟩ v) (heap_setCell_same w T i c 89 v h)
  rw [key _ _ _ _ h, lay_all zTomb (tombC nm e mA) rfl]
end Go.Proofs.YbulkahzaDoor

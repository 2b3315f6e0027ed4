/-
  The items of the law, and the store as 'forget' goes through it.
-/
import Derived.Test.YbulkahzaDoorDrop
import Derived.Test.YbulkahzaDoorMade
import Derived.Test.YbulkahzaDoorBin
namespace Go.Proofs.YbulkahzaDoor
open Go.RowKit Go.Maps
set_option linter.unusedVariables false

/-- N items: name, etag, the etag in 'files', the block of the vector 'After', that vector; and the floor at the start. -/
structure Its where
  N : Nat
  nm : Nat → ByteArray
  e : Nat → Nat
  fe : Nat → Nat
  A : Nat → Option Nat
  fA : Nat → Lit → Nat
  b0 : Lit → Nat

structure Its.Ok (I : Its) : Prop where
  nsz : ∀ i, i < I.N → (I.nm i).size ≤ maxLen
  inj : ∀ i j, i < I.N → j < I.N → kS (I.nm i) = kS (I.nm j) → i = j
  pos : ∀ i, i < I.N → 0 < I.e i ∧ I.e i < 18446744073709551616
  rise : ∀ i j, i < j → j < I.N → I.e i < I.e j
  m0 : ∀ i, i < I.N → I.fA i kM = 0
  b0m : I.b0 kM = 0

abbrev Its.tb (I : Its) (i : Nat) : Array Value := tombC (I.nm i) (I.e i) (I.A i)

def Its.mxTo (I : Its) (d : Nat → Bool) (k : Lit) : Nat → Nat
  | 0 => I.b0 k
  | n + 1 => if d n then max (I.mxTo d k n) (I.fA n k) else I.mxTo d k n
/-- The floor when the items d are dropped. -/
def Its.mx (I : Its) (d : Nat → Bool) : Lit → Nat := fun k => I.mxTo d k I.N

def add (d : Nat → Bool) (j : Nat) : Nat → Bool := fun i => d i || i == j

theorem Its.mxTo_add (I : Its) (d : Nat → Bool) (j : Nat) (k : Lit) : ∀ n, I.mxTo (add d j) k n = if j < n then max (I.mxTo d k n) (I.fA j k) else I.mxTo d k n
  | 0 => by simp [Its.mxTo]
  | n + 1 => by
    have ih := Its.mxTo_add I d j k n
    simp only [Its.mxTo, ih]
    generalize I.mxTo d k n = m
    by_cases e : n = j
    · subst e
      have h1 : add d n n = true := by simp [add]
      rw [h1]
      cases d n <;> simp
    · have h1 : add d j n = d n := by simp [add, e]
      rw [h1]
      by_cases h2 : j < n
      · have h3 : j < n + 1 := by omega
        cases d n <;> simp [h2, h3]
        omega
      · have h3 : ¬ j < n + 1 := by omega
        cases d n <;> simp [h2, h3]

theorem Its.mx_add (I : Its) (d : Nat → Bool) {j : Nat} (hj : j < I.N) : I.mx (add d j) = fun k => max (I.mx d k) (I.fA j k) := by
  funext k
  show I.mxTo (add d j) k I.N = _
  rw [I.mxTo_add, if_pos hj]
  rfl

theorem Its.mx_kM (I : Its) (h : I.Ok) (d : Nat → Bool) : I.mx d kM = 0 := by
  have : ∀ n, n ≤ I.N → I.mxTo d kM n = 0 := by
    intro n
    induction n with
    | zero => intro _; exact h.b0m
    | succ n ih =>
      intro hn
      simp only [Its.mxTo]
      rw [ih (by omega), h.m0 n (by omega)]
      simp
  exact this _ (Nat.le_refl _)

/-- Where the store and its maps lie. -/
structure Pl where
  S : Nat
  F : Nat
  C : Nat
  nF : Nat

/-- The store, the items d dropped. -/
def St (w : World) (I : Its) (p : Pl) (et fo : Nat) (tv : Value) (d : Nat → Bool) : Prop :=
  (∃ mf, StoreAt w p.S et fo p.F p.C tv (.map mf) ∧ Vec w 0 (.map mf) (I.mx d)) ∧
  (∃ g, Files w p.F p.nF g ∧ ∀ i, i < I.N → g (kS (I.nm i)) = if d i then none else some (I.fe i)) ∧
  (∀ i, i < I.N → Vec w 0 (.map (I.A i)) (I.fA i)) ∧ ∀ i, i < I.N → I.A i ≠ some p.F

theorem St.SF {w : World} {I : Its} {p : Pl} {et fo : Nat} {tv : Value} {d : Nat → Bool} (h : St w I p et fo tv d) : p.S ≠ p.F := by
  obtain ⟨⟨mf, hS, _⟩, ⟨g, ⟨D, ⟨es, clock, h1, _⟩, _⟩, _⟩, _, _⟩ := h
  intro e
  unfold StoreAt at hS
  rw [e, h1] at hS
  cases hS

/-- The store stands while none of its blocks turns: only blocks of cells other than the store's may. -/
theorem St.frm {w w' : World} {I : Its} {p : Pl} {et fo : Nat} {tv : Value} {d : Nat → Bool} {may : Nat → Prop} (h : St w I p et fo tv d) (hf : Frm w w' may) (hm : ∀ b, may b → b < w.heap.size → b ≠ p.S ∧ ∃ cs t fr, w.heap[b]? = some (.cells cs t fr)) : St w' I p et fo tv d := by
  obtain ⟨⟨mf, hS, hV⟩, ⟨g, hF, hg⟩, hA, hap⟩ := h
  have keep : ∀ {v : Value} {f : Lit → Nat}, Vec w 0 v f → Vec w' 0 v f := by
    rintro v f ⟨hs, h0 | ⟨b, D, rfl, hb, ho, hd⟩⟩
    · exact ⟨hs, .inl h0⟩
    · refine ⟨hs, .inr ⟨b, D, rfl, hb, ?_, hd⟩⟩
      have hlt := ho.lt
      obtain ⟨es, clock, hbk, r⟩ := ho
      refine ⟨es, clock, (hf.block b hlt fun e => ?_).trans hbk, r⟩
      obtain ⟨_, cs, t, fr, hc⟩ := hm b e hlt
      rw [hbk] at hc; cases hc
  refine ⟨⟨mf, hS.of_block (hf.block _ hS.lt fun e => (hm _ e hS.lt).1 rfl), keep hV⟩, ⟨g, hF.of_block (hf.block _ hF.lt fun e => ?_), hg⟩, fun i hi => keep (hA i hi), hap⟩
  obtain ⟨_, cs, t, fr, hc⟩ := hm _ e hF.lt
  obtain ⟨D, ⟨es, clock, hbk, r⟩, _⟩ := hF
  rw [hbk] at hc; cases hc

theorem St.below {w w' : World} {I : Its} {p : Pl} {et fo : Nat} {tv : Value} {d : Nat → Bool} (h : St w I p et fo tv d) (hB : Below w.heap.size w w') : St w' I p et fo tv d :=
  h.frm (Frm.of_below (may := fun _ => False) hB) (fun b e _ => e.elim)

theorem drop_step {I : Its} (hI : I.Ok) {p : Pl} {et fo : Nat} {tv : Value} {d : Nat → Bool} {w : World} (h : St w I p et fo tv d) {j : Nat} (hj : j < I.N) :
    Calls Ybad.prog 13 #[.pointer (some ⟨p.S, 0, none⟩), .agg (I.tb j)] w fun x w' => x = .returned (.tuple #[]) ∧ St w' I p et fo tv (add d j) ∧ Frm w w' (fun b => b = p.S ∨ b = p.F) := by
  obtain ⟨⟨mf, hS, hV⟩, ⟨g, hF, hg⟩, hA, hap⟩ := h
  refine (drop_any p.S et fo p.F p.C p.nF (I.e j) tv mf (I.A j) g (I.mx d) (I.fA j) (I.nm j) (hI.nsz j hj) w hS hF hV (hA j hj) (hI.pos j hj).1 (hI.pos j hj).2 (I.mx_kM hI d) (hI.m0 j hj)).mono ?_
  rintro x w' ⟨rfl, mf', hS', hF', hV', hfr⟩
  refine ⟨rfl, ⟨⟨mf', hS', ?_⟩, ⟨_, hF', fun i hi => ?_⟩, fun i hi => ?_, hap⟩, hfr⟩
  · rw [I.mx_add d hj]; exact hV'.weaken (Nat.zero_le _)
  · by_cases e : i = j
    · subst e
      rw [upd_same]
      simp [add]
    · rw [upd_other _ _ _ (fun h => e (hI.inj i j hi hj h)), hg i hi]
      simp [add, e]
  · obtain ⟨hs, h0 | ⟨b, D, hb1, hb, ho, hd⟩⟩ := hA i hi
    · exact ⟨hs, .inl h0⟩
    · refine ⟨hs, .inr ⟨b, D, hb1, hb, ?_, hd⟩⟩
      have hlt := ho.lt
      obtain ⟨es, clock, hbk, r⟩ := ho
      refine ⟨es, clock, (hfr.block b hlt ?_).trans hbk, r⟩
      rintro (rfl | rfl)
      · unfold StoreAt at hS; rw [hS] at hbk; cases hbk
      · exact hap i hi (Value.map.inj hb1)

theorem kept_step {I : Its} (hI : I.Ok) {p : Pl} {et fo : Nat} {tv : Value} {d : Nat → Bool} {w : World} (h : St w I p et fo tv d) {j : Nat} (hj : j < I.N) :
    Calls Ybad.prog 12 #[.pointer (some ⟨p.S, 0, none⟩), .agg (I.tb j)] w fun x w' => x = .returned (.bool (!d j && I.fe j == I.e j)) ∧ Below w.heap.size w w' := by
  obtain ⟨⟨mf, hS, hV⟩, ⟨g, hF, hg⟩, hA, hap⟩ := h
  refine (kept_any p.S et fo p.F p.C p.nF (I.e j) tv (.map mf) g (I.nm j) (I.A j) (hI.nsz j hj) w hS hF).mono ?_
  rintro x w' ⟨rfl, hB⟩
  refine ⟨?_, hB⟩
  rw [hg j hj]
  have := (hI.pos j hj).1
  cases hd : d j with
  | true =>
    simp
    omega
  | false => simp
end Go.Proofs.YbulkahzaDoor

/-
  'slices.IndexFunc' at the tombstones, with that closure.
-/
import Derived.Test.YbulkahzaDoorClos
namespace Go.Proofs.YbulkahzaDoor
open Go.RowKit Go.Maps
set_option linter.unusedVariables false
attribute [local go_sem ↓ high] lv89

theorem cells_ne_F {w : World} {I : Its} {p : Pl} {et fo : Nat} {tv : Value} {d : Nat → Bool} (h : St w I p et fo tv d) {b : Nat} {cs : Array Value} {t : TypeId} {fr : Nat × Nat} (hb : w.heap[b]? = some (.cells cs t fr)) : b ≠ p.F := by
  rintro rfl
  obtain ⟨_, ⟨g, ⟨D, ⟨es, clock, hbk, r⟩, _⟩, _⟩, _⟩ := h
  rw [hbk] at hb; cases hb

theorem Abv.frm {w w' : World} {I : Its} {p : Pl} {et fo : Nat} {tv : Value} {d : Nat → Bool} (hst : St w I p et fo tv d) {bA bS g na cap : Nat} {a0 : Option Addr} {xs : Nat → Nat} (h : Abv w p bA bS a0 g na cap xs) (hf : Frm w w' (fun b => b = p.S ∨ b = p.F)) : Abv w' p bA bS a0 g na cap xs := by
  have kb : ∀ {b : Nat} {cs : Array Value} {t : TypeId} {fr : Nat × Nat}, w.heap[b]? = some (.cells cs t fr) → b ≠ p.S → w'.heap[b]? = some (.cells cs t fr) := fun {b} {cs} {t} {fr} hb hne => by
    rw [hf.block b (Array.getElem?_eq_some_iff.1 hb).1 (fun e => e.elim hne (cells_ne_F hst hb))]; exact hb
  refine ⟨kb h.cA h.nA, kb h.cS h.nS, h.len, fun h0 => ?_, fun i hi => ?_, h.up, h.nA, h.nS⟩
  · obtain ⟨e1, cs, t, fr, hg, hne⟩ := h.at0 h0
    exact ⟨e1, cs, t, fr, kb hg hne, hne⟩
  · obtain ⟨e1, cs, t, fr, hg, hne⟩ := h.at0 (by omega)
    rw [World.cell?_of_block ((kb hg hne).trans hg.symm)]
    exact h.row i hi

/-- Position q of the row from offset o of block B on holds the tombstone of item T q. -/
def TRow (w : World) (I : Its) (p : Pl) (B o len : Nat) (T : Nat → Nat) : Prop :=
  B ≠ p.S ∧ (∃ cs t fr, w.heap[B]? = some (.cells cs t fr)) ∧ ∀ q, q < len → w.rangeAt B (o + q * 23) (I.tb (T q)).toList

theorem TRow.of_block {w w' : World} {I : Its} {p : Pl} {B o len : Nat} {T : Nat → Nat} (h : TRow w I p B o len T) (hb : w'.heap[B]? = w.heap[B]?) : TRow w' I p B o len T := by
  obtain ⟨h1, ⟨cs, t, fr, h2⟩, h3⟩ := h
  exact ⟨h1, ⟨cs, t, fr, hb.trans h2⟩, fun q hq j v hv => by rw [World.cell?_of_block hb]; exact h3 q hq j v hv⟩

theorem TRow.frm {w w' : World} {I : Its} {p : Pl} {et fo : Nat} {tv : Value} {d : Nat → Bool} (hst : St w I p et fo tv d) {B o len : Nat} {T : Nat → Nat} (h : TRow w I p B o len T) (hf : Frm w w' (fun b => b = p.S ∨ b = p.F)) : TRow w' I p B o len T := by
  obtain ⟨h1, ⟨cs, t, fr, h2⟩, h3⟩ := h
  exact TRow.of_block ⟨h1, ⟨cs, t, fr, h2⟩, h3⟩ (hf.block B (Array.getElem?_eq_some_iff.1 h2).1 (fun e => e.elim h1 (cells_ne_F hst h2)))

theorem load89_row {w : World} {I : Its} {p : Pl} {B o len : Nat} {T : Nat → Nat} (h : TRow w I p B o len T) {q : Nat} (hq : q < len) : (bigLoad 89 ⟨B, o + q * 23, none⟩).run Ybad.prog w = .ok (.agg (I.tb (T q))) w := load89_at (h.2.2 q hq)

/-- What IndexFunc answers. -/
def IdxPost (I : Its) (p : Pl) (et fo : Nat) (tv : Value) (d : Nat → Bool) (na : Nat) (xs : Nat → Nat) (len : Nat) (T : Nat → Nat) (w : World) (x : Ending) (w' : World) : Prop :=
  Frm w w' (fun b => b = p.S ∨ b = p.F) ∧
  ((x = .returned (.int .i64 (-1)) ∧ St w' I p et fo tv d ∧ ∀ q, q < len → ¬ upTo na xs (I.e (T q))) ∨
   ∃ i : Nat, i < len ∧ x = .returned (.int .i64 (i : Int)) ∧ (∀ q, q < i → ¬ upTo na xs (I.e (T q))) ∧ upTo na xs (I.e (T i)) ∧ St w' I p et fo tv (if (!d (T i) && I.fe (T i) == I.e (T i)) then add d (T i) else d))

set_option maxHeartbeats 2000000 in
set_option maxRecDepth 100000 in
theorem idx_any {I : Its} (hI : I.Ok) {p : Pl} {et fo : Nat} {tv : Value} {d : Nat → Bool} {w : World} (h : St w I p et fo tv d) {bA bS g na cap : Nat} {a0 : Option Addr} {xs : Nat → Nat} (hab : Abv w p bA bS a0 g na cap xs)
    (aR : Option Addr) (B o len capR : Nat) (T : Nat → Nat) (hlen : len ≤ 1024) (hR : 0 < len → aR = some ⟨B, o, none⟩) (hT : TRow w I p B o len T) (hTN : ∀ q, q < len → T q < I.N) :
    Calls Ybad.prog 22 #[.slice aR len capR, .func (.func 15) #[] #[.pointer (some ⟨bA, 0, none⟩), .pointer (some ⟨bS, 0, none⟩)]] w (IdxPost I p et fo tv d na xs len T w) := by
  have H := hide h
  have HAB := hide hab
  have HT := hide hT
  have HTN := hide hTN
  clear h hab hT hTN
  go_enter Ybad.func22, Ybad.ntmps22
  go_wp2
  go_loopw [8] (fun i wr => ∃ k : Nat, k ≤ len ∧ i = .int .i64 k ∧ St wr I p et fo tv d ∧ Frm w wr (fun b => b = p.S ∨ b = p.F) ∧ ∀ q, q < k → ¬ upTo na xs (I.e (T q))) (fun i _ => len - (intOf i).toNat)
  case atStart => exact ⟨0, Nat.zero_le _, rfl, H.out, Frm.refl _ _, fun q hq => by omega⟩
  case round =>
    obtain ⟨k, hk, rfl, hst, hfr, hno⟩ := hrel
    have HST := hide hst
    have HFR := hide hfr
    have HNO := hide hno
    clear hst hfr hno
    by_cases hlt : k < len
    · obtain rfl := hR (by omega)
      have hki : (k : Int) < (len : Int) := by omega
      have hld := load89_row (HT.out.frm H.out HFR.out) hlt
      go_wp2_with fail
      refine (clos_step hI HST.out (HAB.out.frm H.out HFR.out) (HTN.out k hlt)).mono ?_
      rintro x w2 ⟨f, rfl, hf, hst2, hfr2⟩
      have HF := hide hf
      have HS2 := hide hst2
      have HF2 := hide (HFR.out.trans hfr2 (fun _ _ h => h))
      clear hf hst2 hfr2
      cases f with
      | true =>
        go_wp2
        go_ret
        exact ⟨HF2.out, .inr ⟨k, hlt, rfl, HNO.out, HF.out.1 (by trivial), by have := HS2.out; simpa using this⟩⟩
      | false =>
        go_wp2
        go_roundw
        case rel =>
          refine ⟨k + 1, by omega, by go_num, by have := HS2.out; simpa using this, HF2.out, fun q hq => ?_⟩
          by_cases e : q = k
          · subst e; intro hu; have := HF.out.2 hu; simp at this
          · exact HNO.out q (by omega)
        case measure => simp [intOf]; omega
    · have hki : (len : Int) ≤ (k : Int) := by omega
      go_wp2
      go_ret
      exact ⟨HFR.out, .inl ⟨rfl, HST.out, fun q hq => HNO.out q (by omega)⟩⟩
end Go.Proofs.YbulkahzaDoor

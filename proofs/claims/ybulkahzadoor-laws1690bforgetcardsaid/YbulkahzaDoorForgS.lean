/-
  Parts for the walk of 'forget': the state of its loop, and how each way through the body turns it.
-/
import Derived.Test.YbulkahzaDoorPlain
import Derived.Deep.AppendLies
namespace Go.Proofs.YbulkahzaDoor
open Go.RowKit Go.Maps
set_option linter.unusedVariables false

theorem Its.mx_none (I : Its) : I.mx (fun _ => false) = I.b0 := by
  funext k
  have : ∀ n, I.mxTo (fun _ => false) k n = I.b0 k := by
    intro n
    induction n with
    | zero => rfl
    | succ n ih => simp [Its.mxTo, ih]
  exact this _

/-- The store as 'forget' finds it. -/
structure Pre (w : World) (I : Its) (p : Pl) (et fo nC : Nat) (cf : Nat → Bool) (aT : Option Addr) (B capT : Nat) (mf0 mf1 : Option Nat) (f0 f1 : Lit → Nat) : Prop where
  ok : I.Ok
  n : I.N ≤ 300
  st : StoreAt w p.S et fo p.F p.C (.slice aT I.N capT) (.map mf0)
  v0 : Vec w 0 (.map mf0) f0
  v1 : Vec w 0 (.map mf1) f1
  b0 : I.b0 = fun k => max (f0 k) (f1 k)
  files : ∃ g, Files w p.F p.nF g ∧ ∀ i, i < I.N → g (kS (I.nm i)) = some (I.fe i)
  vA : ∀ i, i < I.N → Vec w 0 (.map (I.A i)) (I.fA i)
  nA : ∀ i, i < I.N → I.A i ≠ some p.F
  conf : ∃ g, Confs w p.C nC g ∧ ∀ i, i < I.N → g (kS (I.nm i)) = cf i
  CF : p.C ≠ p.F
  cap : I.N ≤ capT
  at0 : 0 < I.N → aT = some ⟨B, 0, none⟩
  row : 0 < I.N → Mid3 w I p B 0 I.N 0 [] id

/-- The cells of these items' tombstones. -/
def flat (I : Its) (ks : List Nat) : List Value := (ks.map (fun i => (I.tb i).toList)).flatten
theorem flat_snoc (I : Its) (ks : List Nat) (j : Nat) : flat I (ks ++ [j]) = flat I ks ++ (I.tb j).toList := by simp [flat]
theorem flat_app (I : Its) (ks ls : List Nat) : flat I (ks ++ ls) = flat I ks ++ flat I ls := by simp [flat]
theorem flat_len (I : Its) : ∀ ks : List Nat, (flat I ks).length = ks.length * 23
  | [] => rfl
  | k :: r => by
    have ih := flat_len I r
    show ((I.tb k).toList ++ flat I r).length = (r.length + 1) * 23
    rw [List.length_append, ih]
    show 23 + r.length * 23 = _
    omega
theorem flat_get (I : Its) : ∀ (ks : List Nat) (r : Nat) (h : r < ks.length) (j : Nat), j < 23 → (flat I ks)[r * 23 + j]? = (I.tb ks[r]).toList[j]?
  | k :: l, 0, _, j, hj => by
    show ((I.tb k).toList ++ flat I l)[0 * 23 + j]? = _
    rw [Nat.zero_mul, Nat.zero_add, List.getElem?_append_left (by show j < 23; exact hj)]
    rfl
  | k :: l, r + 1, h, j, hj => by
    show ((I.tb k).toList ++ flat I l)[(r + 1) * 23 + j]? = _
    rw [List.getElem?_append_right (by show 23 ≤ _; omega)]
    have e : (r + 1) * 23 + j - (I.tb k).toList.length = r * 23 + j := by show _ - 23 = _; omega
    rw [e]
    exact flat_get I l r (by simpa using h) j hj
theorem flat_one (I : Its) (ks : List Nat) : ∀ u ∈ flat I ks, u.oneCell' = true := by
  intro u hu
  simp only [flat, List.mem_flatten, List.mem_map] at hu
  obtain ⟨l, ⟨i, _, rfl⟩, hu⟩ := hu
  have h : ((I.tb i).toList.all (·.oneCell')) = true := by simp [Value.oneCell']
  rw [List.all_eq_true] at h
  exact h u hu
/-- What the rows hold, cell by cell. -/
theorem flat_rows {w : World} {I : Its} {B o : Nat} {ks : List Nat} (h : ∀ r (hr : r < ks.length), w.rangeAt B (o + r * 23) (I.tb ks[r]).toList) : ∀ j u, (flat I ks)[j]? = some u → w.cell? ⟨B, o + j, none⟩ = some u := by
  intro j u hu
  have hj : j < ks.length * 23 := by
    rw [← flat_len I ks]
    exact (List.getElem?_eq_some_iff.1 hu).1
  have hr : j / 23 < ks.length := by omega
  have hm : j % 23 < 23 := Nat.mod_lt _ (by decide)
  have e : j = j / 23 * 23 + j % 23 := by omega
  rw [e, flat_get I ks (j / 23) hr (j % 23) hm] at hu
  have := h (j / 23) hr (j % 23) u hu
  rw [show o + j / 23 * 23 + j % 23 = o + j by omega] at this
  exact this

/-- In the middle of the first loop: the first k items are through. -/
structure Lp (w wr : World) (I : Its) (p : Pl) (et fo nC : Nat) (cf : Nat → Bool) (tv : Value) (B th : Nat) (vA : Value) (k : Nat) (kv : Value) : Prop where
  st : St wr I p et fo tv (dk I cf k)
  conf : ∃ g, Confs wr p.C nC g ∧ ∀ i, i < I.N → g (kS (I.nm i)) = cf i
  bS : wr.heap[w.heap.size]? = some (.cells #[.pointer (some ⟨p.S, 0, none⟩)] 29 (0, 0))
  bA : wr.heap[w.heap.size + 1]? = some (.cells #[vA] 66 (0, 0))
  row : 0 < I.N → Mid3 wr I p B 0 I.N 0 [] id
  own : wr.ownsRow (w.heap.size + 2) 89 23 kv (kl I cf k).length (flat I (kl I cf k))
  le : ∀ q, q < k → I.e q ≤ th
  frm : Frm w wr (fun b => b = p.S ∨ b = p.F)
  lt : p.S < w.heap.size ∧ p.F < w.heap.size ∧ p.C < w.heap.size ∧ (0 < I.N → B < w.heap.size)
  CF : p.C ≠ p.F

theorem Mid3.lt {w : World} {I : Its} {p : Pl} {B o len m : Nat} {ks : List Nat} {T : Nat → Nat} (h : Mid3 w I p B o len m ks T) : B < w.heap.size := by
  obtain ⟨cs, t, fr, hc⟩ := h.blk
  exact (Array.getElem?_eq_some_iff.1 hc).1

theorem own_block {w w' : World} {base : Nat} {e : TypeId} {size : Nat} {v : Value} {n : Nat} {xs : List Value} (h : w.ownsRow base e size v n xs) (hb : ∀ g, base ≤ g → g < w.heap.size → (∃ cs, w.heap[g]? = some (.cells cs e (0, 0))) → w'.heap[g]? = w.heap[g]?) : w'.ownsRow base e size v n xs := by
  refine ⟨h.1, ?_⟩
  rcases h.2 with h0 | ⟨g, cap, cur, rfl, h1, h2, r⟩
  · exact .inl h0
  · exact .inr ⟨g, cap, cur, rfl, h1, (hb g h1 (Array.getElem?_eq_some_iff.1 h2).1 ⟨_, h2⟩).trans h2, r⟩

section
variable {w wr w1 w2 : World} {I : Its} {p : Pl} {et fo nC : Nat} {cf : Nat → Bool} {tv : Value} {B th : Nat} {vA : Value} {k : Nat} {kv : Value}

/-- Store and items may turn to d', all else as it was, but for the blocks that may. -/
theorem Lp.turn (h : Lp w wr I p et fo nC cf tv B th vA k kv) {k' : Nat} {kv' : Value} {may : Nat → Prop} (hf : Frm wr w2 may) (hm : ∀ b, may b → b = p.S ∨ b = p.F ∨ w.heap.size + 2 ≤ b) (hst : St w2 I p et fo tv (dk I cf k')) (hle : ∀ q, q < k' → I.e q ≤ th)
    (hown : w2.ownsRow (w.heap.size + 2) 89 23 kv' (kl I cf k').length (flat I (kl I cf k'))) : Lp w w2 I p et fo nC cf tv B th vA k' kv' := by
  have hS := h.lt.1
  have hF := h.lt.2.1
  have kb : ∀ {b : Nat} {cs : Array Value} {t : TypeId} {fr : Nat × Nat}, wr.heap[b]? = some (.cells cs t fr) → b < w.heap.size + 2 → b ≠ p.S → w2.heap[b]? = wr.heap[b]? := fun {b} {cs} {t} {fr} hc hl hn => by
    refine hf.block b (Array.getElem?_eq_some_iff.1 hc).1 fun e => ?_
    rcases hm b e with e | e | e
    · exact hn e
    · exact cells_ne_F h.st hc e
    · omega
  refine ⟨hst, ?_, ?_, ?_, fun h0 => (h.row h0).of_block ?_, hown, hle, h.frm.trans hf (fun b hb e => ?_), h.lt, h.CF⟩
  · obtain ⟨g, hC, hg⟩ := h.conf
    refine ⟨g, hC.of_block (hf.block _ hC.lt fun e => ?_), hg⟩
    rcases hm _ e with e | e | e
    · obtain ⟨⟨mf, hS, _⟩, _⟩ := h.st
      obtain ⟨D, ⟨es, clock, h1, _⟩, _⟩ := hC
      unfold StoreAt at hS
      rw [← e, h1] at hS; cases hS
    · exact h.CF e
    · have := h.lt.2.2.1; omega
  · rw [kb h.bS (by omega) (by omega)]; exact h.bS
  · rw [kb h.bA (by omega) (by omega)]; exact h.bA
  · obtain ⟨cs, t, fr, hc⟩ := (h.row h0).blk
    exact kb hc (by have := h.lt.2.2.2 h0; omega) (h.row h0).ne
  · rcases hm b e with e | e | e
    · exact .inl e
    · exact .inr e
    · omega

theorem Lp.below (h : Lp w wr I p et fo nC cf tv B th vA k kv) (hB : Below wr.heap.size wr w1) : Lp w w1 I p et fo nC cf tv B th vA k kv :=
  h.turn (Frm.of_below (may := fun _ => False) hB) (fun b e => e.elim) (h.st.below hB) h.le (own_block h.own fun g _ hl _ => hB.block g hl)

theorem Lp.stay (h : Lp w wr I p et fo nC cf tv B th vA k kv) (hle : I.e k ≤ th) (hfe : (I.fe k == I.e k) = false) : Lp w wr I p et fo nC cf tv B th vA (k + 1) kv := by
  have e1 : dk I cf (k + 1) = dk I cf k := by
    show (if (I.fe k == I.e k && !cf k) = true then _ else _) = _
    rw [hfe]; rfl
  have e2 : kl I cf (k + 1) = kl I cf k := by
    show (if (I.fe k == I.e k && cf k) = true then _ else _) = _
    rw [hfe]; rfl
  refine h.turn (Frm.refl wr (fun _ => False)) (fun b e => e.elim) (by rw [e1]; exact h.st) (fun q hq => ?_) (by rw [e2]; exact h.own)
  by_cases e : q = k
  · subst e; exact hle
  · exact h.le q (by omega)

theorem Lp.drop (h : Lp w wr I p et fo nC cf tv B th vA k kv) (hle : I.e k ≤ th) (hfe : (I.fe k == I.e k) = true) (hcf : cf k = false) (hst : St w2 I p et fo tv (add (dk I cf k) k)) (hf : Frm wr w2 (fun b => b = p.S ∨ b = p.F)) : Lp w w2 I p et fo nC cf tv B th vA (k + 1) kv := by
  have e1 : dk I cf (k + 1) = add (dk I cf k) k := by
    show (if (I.fe k == I.e k && !cf k) = true then _ else _) = _
    rw [hfe, hcf]; rfl
  have e2 : kl I cf (k + 1) = kl I cf k := by
    show (if (I.fe k == I.e k && cf k) = true then _ else _) = _
    rw [hfe, hcf]; rfl
  refine h.turn hf (fun b e => e.elim .inl (fun e => .inr (.inl e))) (by rw [e1]; exact hst) (fun q hq => ?_) (by
    rw [e2]
    refine own_block h.own fun g hg hl _ => hf.block g hl ?_
    have := h.lt
    rintro (rfl | rfl) <;> omega)
  by_cases e : q = k
  · subst e; exact hle
  · exact h.le q (by omega)

theorem Lp.app (h : Lp w wr I p et fo nC cf tv B th vA k kv) (hle : I.e k ≤ th) (hfe : (I.fe k == I.e k) = true) (hcf : cf k = true) {kv' : Value} (hown : w2.ownsRow (w.heap.size + 2) 89 23 kv' ((kl I cf k).length + 1) (flat I (kl I cf k) ++ (I.tb k).toList)) (hg : wr.grownBy w2 kv.ownBlock) : Lp w w2 I p et fo nC cf tv B th vA (k + 1) kv' := by
  have e1 : dk I cf (k + 1) = dk I cf k := by
    show (if (I.fe k == I.e k && !cf k) = true then _ else _) = _
    rw [hfe, hcf]; rfl
  have e2 : kl I cf (k + 1) = kl I cf k ++ [k] := by
    show (if (I.fe k == I.e k && cf k) = true then _ else _) = _
    rw [hfe, hcf]; rfl
  have hf : Frm wr w2 (fun b => kv.ownBlock = some b) := Frm.of_grown hg (fun j e _ => e)
  have hlt := h.own.lt
  refine h.turn hf (fun b e => .inr (.inr (hlt b e).1)) ?_ (fun q hq => ?_) (by rw [e2, flat_snoc, List.length_append]; exact hown)
  · rw [e1]
    refine h.st.frm hf fun b e hb => ⟨?_, ?_⟩
    · have := (hlt b e).1
      have := h.lt.1
      omega
    · rcases h.own.2 with ⟨rfl, _⟩ | ⟨g, cap, cur, rfl, _, h2, _⟩
      · cases e
      · have : b = g := by simpa [Value.ownBlock] using e.symm
        subst this
        exact ⟨_, _, _, h2⟩
  · by_cases e : q = k
    · subst e; exact hle
    · exact h.le q (by omega)
end

/-- append as one instruction. -/
def bigApp (t ty : TypeId) (args : Array Value) : Sem Value := Builtin.append_ #[t, t] ty args
theorem ap61 (ty : TypeId) (args : Array Value) : Builtin.append_ #[61, 61] ty args = bigApp 61 ty args := rfl
theorem ap66 (ty : TypeId) (args : Array Value) : Builtin.append_ #[66, 66] ty args = bigApp 66 ty args := rfl
theorem ap49 (ty : TypeId) (args : Array Value) : Builtin.append_ #[49, 49] ty args = bigApp 49 ty args := rfl

/-- append onto a row of tombstones that the call owns, of tombstones that lie elsewhere. -/
theorem append89 (w : World) (I : Its) (base : Nat) (ty : TypeId) (v : Value) (ks ls : List Nat) (hown : w.ownsRow base 89 23 v ks.length (flat I ks)) (aR : Option Addr) (B o c : Nat) (hR : (∃ ad, aR = some ad ∧ (0 < ls.length → ad = ⟨B, o, none⟩)) ∨ aR = none ∧ ls = [])
    (hrow : ∀ r (hr : r < ls.length), w.rangeAt B (o + r * 23) (I.tb ls[r]).toList) (h63 : ks.length + ls.length ≤ 1024) (hbase : base ≤ w.heap.size) :
    ∃ v' w', (bigApp 61 ty #[v, .slice aR ls.length c]).run Ybad.prog w = .ok v' w' ∧ w'.ownsRow base 89 23 v' (ks.length + ls.length) (flat I (ks ++ ls)) ∧ w.grownBy w' v.ownBlock := by
  have hinf : (Ybad.prog.info? 89).map (fun i => (i.zero, i.size, i.bytes)) = some (some (.agg zTomb), 23, 264) := by kernel_rfl
  obtain ⟨i, hi⟩ : ∃ i, Ybad.prog.info? 89 = some i := by
    generalize Ybad.prog.info? 89 = x at hinf
    cases x with
    | none => cases hinf
    | some i => exact ⟨i, rfl⟩
  rw [hi] at hinf
  simp only [Option.map_some, Option.some.injEq, Prod.mk.injEq] at hinf
  obtain ⟨hz, hs, hb⟩ := hinf
  rcases hR with ⟨ad, rfl, hB⟩ | ⟨rfl, rfl⟩
  · obtain ⟨v', w', h1, h2, h3, _⟩ := run_append_own_at (P := Ybad.prog) w base 61 ty 89 i (.agg zTomb) 23 264 Ybad.underlying61 hi hz hs hb rfl (by decide) v ks.length (flat I ks) hown ad ls.length c (flat I ls) (flat_len I ls) (fun j u hu => by
      have hl : 0 < ls.length := by
        have := (List.getElem?_eq_some_iff.1 hu).1
        rw [flat_len] at this
        omega
      obtain rfl := hB hl
      have hadd : (⟨B, o, none⟩ : Addr).add j = ⟨B, o + j, none⟩ := by unfold Addr.add; split <;> simp_all
      rw [hadd]
      exact flat_rows hrow j u hu) (flat_one I ls) (by simp only [maxLen]; omega) (by omega) hbase
    exact ⟨v', w', h1, by rw [flat_app]; exact h2, h3⟩
  · refine ⟨v, w, ?_, by simpa using hown, ⟨rfl, rfl, rfl, Nat.le_refl _, fun _ _ _ => rfl⟩⟩
    rcases hown.2 with ⟨rfl, h0⟩ | ⟨g, cap, cur, rfl, _, h2, h3, _⟩
    · simp [bigApp, Builtin.append_, run_underlying Ybad.underlying61, sizeOf, typeInfo, hi, Builtin.lenOf, Builtin.firstCells]
    · have : ks.length + ([] : List Nat).length ≤ cap := by simpa using h3
      simp [bigApp, Builtin.append_, run_underlying Ybad.underlying61, sizeOf, typeInfo, hi, Builtin.lenOf, Builtin.firstCells, h3, storeCells]

/-- 's.tombstones[l:]' -/
theorem sl61 (aT : Option Addr) (n cap l B : Nat) (hl : l ≤ n) (hn : n ≤ cap) (hB : 0 < n → aT = some ⟨B, 0, none⟩) : ∃ aR, (l < n → aR = some ⟨B, l * 23, none⟩) ∧ (aR = none → n = 0) ∧
    ∀ W, (Instr.sliceAt 61 (.slice aT n cap) (some (.int .i64 (l : Int))) none none).run Ybad.prog W = .ok (.slice aR (n - l) (cap - l)) W := by
  have hT := Ybad.underlying61
  have he : Ybad.prog.elem 61 = 89 := by simp [Program.elem, hT]
  have hs : ∀ W, (sizeOf 89).run Ybad.prog W = .ok 23 W := fun W => by kernel_rfl
  refine ⟨if cap = l then aT else aT.map (·.add (l * 23)), fun h => ?_, fun h => ?_, fun W => ?_⟩
  · rw [if_neg (by omega), hB (by omega)]
    show some ((⟨B, 0, none⟩ : Addr).add (l * 23)) = _
    have hadd : (⟨B, 0, none⟩ : Addr).add (l * 23) = ⟨B, l * 23, none⟩ := by unfold Addr.add; split <;> simp_all
    rw [hadd]
  · by_cases e : n = 0
    · exact e
    · rw [hB (by omega)] at h
      split at h <;> simp at h
  · rw [run_sliceAt_slice W 61 _ _ _ _ (by rw [he]; exact hT), run_slice_l W 61 aT n cap (by rw [he]; exact hT) .i64 (l : Int) (by omega) (by omega), he, hs]
    simp only [Result.andThen, sliced, Int.toNat_natCast]
end Go.Proofs.YbulkahzaDoor

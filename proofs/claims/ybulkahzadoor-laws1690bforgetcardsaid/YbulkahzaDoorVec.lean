/-
  Version vectors: what a value of type Vector holds, and 'join' and 'without' on it.
-/
import Derived.Test.YbulkahzaDoorRows
import Derived.Maps.RangeWalk
import Derived.Maps.Ext
import Derived.Maps.OwnSet
import Derived.WalkKit
import Derived.LoopTactic
import Derived.LoopN
namespace Go.Proofs.YbulkahzaDoor
open Go.RowKit Go.Maps
set_option linter.unusedVariables false

theorem hide {p : Prop} (h : p) : Hid p := h

theorem skey : Keyed Ybad.prog 9 := string_keyed Ybad.underlying9
theorem zero22 (w : World) : (zeroValue 22).run Ybad.prog w = .ok (.int .u64 0) w := by kernel_rfl

abbrev sA : ByteArray := ⟨#[97]⟩
abbrev sB : ByteArray := ⟨#[98]⟩
abbrev sM : ByteArray := ⟨#[109, 101]⟩
abbrev kS (s : ByteArray) : Lit := .string s.data.toList
abbrev kA : Lit := .string [97]
abbrev kB : Lit := .string [98]
abbrev kM : Lit := .string [109, 101]
noncomputable abbrev pU := plainElem (H := Unit) Ybad.prog 22

/-- Only the three nodes. -/
def Sup (f : Lit → Nat) : Prop := (∀ k, 0 < f k → k = kA ∨ k = kB ∨ k = kM) ∧ ∀ k, f k < 18446744073709551616

/-- The datum D holds the vector f: no entry is nought. -/
def Holds (D : DataW Unit) (f : Lit → Nat) : Prop := (∀ k, Maps.has D k = decide (0 < f k)) ∧ ∀ k, D.atKey k (.lit (.int .u64 0)) = .lit (.int .u64 (f k : Int))

/-- The value v is the vector f; its block, if any, lies at or above base. -/
def Vec (w : World) (base : Nat) (v : Value) (f : Lit → Nat) : Prop :=
  Sup f ∧ ((v = .map none ∧ ∀ k, f k = 0) ∨ ∃ b D, v = .map (some b) ∧ base ≤ b ∧ w.ownsMap Ybad.prog 9 pU b 3 D ∧ Holds D f)

theorem size_three {w : World} {b n : Nat} {D : DataW Unit} {f : Lit → Nat} (h : w.ownsMap Ybad.prog 9 pU b n D) (hf : Sup f) (hd : Holds D f) :
    Maps.size D = (if 0 < f kA then 1 else 0) + (if 0 < f kB then 1 else 0) + (if 0 < f kM then 1 else 0) := by
  have ht := h.tidy skey
  obtain ⟨es, rfl, _, hkey⟩ := h.entries skey
  have e1 := size_del (k := kA) ht
  have e2 := size_del (k := kB) (ht.del kA)
  have e3 := size_del (k := kM) ((ht.del kA).del kB)
  have e4 : Maps.size ((((DataW.map es).del kA).del kB).del kM) = 0 := by
    show ((((es.filter fun p => !p.1.sameKey kA).filter fun p => !p.1.sameKey kB).filter fun p => !p.1.sameKey kM)).length = 0
    rw [List.length_eq_zero_iff, List.eq_nil_iff_forall_not_mem]
    intro p hp
    obtain ⟨hp1, h3⟩ := List.mem_filter.1 hp
    obtain ⟨hp2, h2⟩ := List.mem_filter.1 hp1
    obtain ⟨hp3, h1⟩ := List.mem_filter.1 hp2
    have hk := hkey p hp3
    have hh : Maps.has (DataW.map es) p.1 = true := List.any_eq_true.2 ⟨p, hp3, WideAt.sameKey_self hk⟩
    rw [hd.1] at hh
    have hs := WideAt.sameKey_self hk
    rcases hf.1 p.1 (of_decide_eq_true hh) with e | e | e
    · rw [e] at h1; simp [Lit.sameKey] at h1
    · rw [e] at h2; simp [Lit.sameKey] at h2
    · rw [e] at h3; simp [Lit.sameKey] at h3
  rw [has_del_other (by simp), has_del_other (by simp)] at e3
  rw [has_del_other (by simp)] at e2
  simp only [hd.1] at e1 e2 e3
  simp only [decide_eq_true_eq] at e1 e2 e3
  omega

/-- The bound is the vector's own. -/
theorem three {w : World} {b n : Nat} {D : DataW Unit} {f : Lit → Nat} (h : w.ownsMap Ybad.prog 9 pU b n D) (hf : Sup f) (hd : Holds D f) : w.ownsMap Ybad.prog 9 pU b 3 D := by
  have hs := size_three h hf hd
  obtain ⟨es, clock, hb, F, hn, rfl⟩ := h
  refine ⟨es, clock, hb, F, ?_, rfl⟩
  have e1 : Maps.size (DataW.map ((es.toList.map (WideElems.rg Ybad.prog 9 pU)).foldr DataW.insert [])) = es.size := by simp [Maps.size, length_sorted]
  rw [e1] at hs
  rw [hs]
  split <;> split <;> split <;> omega

theorem Vec.sup {w : World} {base : Nat} {v : Value} {f : Lit → Nat} (h : Vec w base v f) : Sup f := h.1

/-- While its block stands. -/
theorem Vec.of_block {w w' : World} {base : Nat} {v : Value} {f : Lit → Nat} (h : Vec w base v f) (hw : ∀ b, v = .map (some b) → base ≤ b → b < w.heap.size → w'.heap[b]? = w.heap[b]?) : Vec w' base v f := by
  obtain ⟨hs, h0 | ⟨b, D, rfl, hb, ho, hd⟩⟩ := h
  · exact ⟨hs, .inl h0⟩
  · refine ⟨hs, .inr ⟨b, D, rfl, hb, ?_, hd⟩⟩
    have hlt := ho.lt
    obtain ⟨es, clock, hbk, r⟩ := ho
    exact ⟨es, clock, (hw b rfl hb hlt).trans hbk, r⟩

theorem Vec.below {w w' : World} {base : Nat} {v : Value} {f : Lit → Nat} (h : Vec w base v f) (hb : Below w.heap.size w w') : Vec w' base v f := h.of_block fun b _ _ hlt => hb.block b hlt
theorem Vec.weaken {w : World} {base base' : Nat} {v : Value} {f : Lit → Nat} (h : Vec w base v f) (hb : base' ≤ base) : Vec w base' v f := by
  obtain ⟨hs, h0 | ⟨b, D, rfl, hbb, ho, hd⟩⟩ := h
  · exact ⟨hs, .inl h0⟩
  · exact ⟨hs, .inr ⟨b, D, rfl, by omega, ho, hd⟩⟩
theorem Vec.grown {w w' : World} {base : Nat} {v : Value} {f : Lit → Nat} {row : Option Nat} (h : Vec w base v f) (hg : w.grownBy w' row) (hr : ∀ b, v = .map (some b) → base ≤ b → row ≠ some b) : Vec w' base v f :=
  h.of_block fun b e hb hlt => hg.block b hlt (fun e1 => hr b e hb e1.symm)

/-- len of a vector. -/
theorem Vec.len {w : World} {base : Nat} {v : Value} {f : Lit → Nat} (h : Vec w base v f) (ty : TypeId) :
    (Builtin.len_ #[63] ty #[v]).run Ybad.prog w = .ok (.int .i64 (((if 0 < f kA then 1 else 0) + (if 0 < f kB then 1 else 0) + (if 0 < f kM then 1 else 0) : Nat) : Int)) w := by
  obtain ⟨hs, ⟨rfl, h0⟩ | ⟨b, D, rfl, hbb, ho, hd⟩⟩ := h
  · rw [Maps.len_nil Ybad.underlying63]; simp [h0]
  · rw [ho.len Ybad.underlying63, size_three ho hs hd]

theorem keyS (s : ByteArray) (hs : s.size ≤ maxLen) : keyOf Ybad.prog 9 (.string s) = some (kS s) := Go.WideMaps.keyOf_string_mk Ybad.underlying9 hs

/-- v[s]. -/
theorem Vec.look {w : World} {base : Nat} {v : Value} {f : Lit → Nat} (h : Vec w base v f) (s : ByteArray) (hs : s.size ≤ maxLen) :
    (Instr.lookup 63 v (.string s) false).run Ybad.prog w = .ok (.int .u64 (f (kS s) : Int)) w := by
  obtain ⟨hsup, ⟨rfl, h0⟩ | ⟨b, D, rfl, hbb, ho, hd⟩⟩ := h
  · rw [h0]; simpa using Maps.look_nil (w := w) false skey Ybad.underlying63 (zero22 w) (keyS s hs)
  · obtain ⟨c, hrun, hat, _⟩ := ho.lookup_int skey Ybad.underlying63 Ybad.underlying22 (zero22 w) (keyS s hs)
    rw [hd.2] at hat
    rw [hrun]
    cases hat
    rfl

theorem mkHint (n : Int) (W : World) : (Instr.makeMap 63 (some (.int .i64 n))).run Ybad.prog W = .ok (.map (some W.heap.size)) (W.alloc (.map #[] 0)) := by
  simp [Instr.makeMap, run_underlying Ybad.underlying63, asInt, asIntOf, Result.andThen]


/-- 'len' by its run's equation. -/
theorem wpList_len_eq {P : Program} (w : World) {ops : Array Oper} {rest : List Oper} {o : Oper} {a : Act} {Q : Exit → Act → World → Prop} (hg : o.guard = none) (m : Operand) (t : TypeId) (hop : o.op = Op.call { callee := Callee.builtin Builtin.len, args := #[m], argTypes := #[t] })
    (v : Value) (c : Int) (hm : a.eval m = v) (hrun : ∀ ty, (Builtin.len_ #[t] ty #[v]).run P w = .ok (.int .i64 c) w)
    (hK : wpList P ops Q rest (a.put o.dst (.int .i64 c)) w) : wpList P ops Q (o :: rest) a w := by
  refine wpList_plain hg fun K' hK' => ?_
  unfold Oper.wp
  simp [execOp, hop, resolve, invoke, builtin, hm, hrun o.type, Result.andThen]
  exact hK' _ _ hK

theorem run_max (ts : Array TypeId) (ty : TypeId) (a0 c0 : Nat) (P : Program) (w : World) : (Builtin.max_ ts ty #[.int .u64 (a0 : Int), .int .u64 (c0 : Int)]).run P w = .ok (.int .u64 ((max a0 c0 : Nat) : Int)) w := by
  have e : ((max a0 c0 : Nat) : Int) = if (a0 : Int) < (c0 : Int) then (c0 : Int) else (a0 : Int) := by split <;> omega
  rw [e]
  simp only [Builtin.max_, List.foldlM_cons, List.foldlM_nil, Builtin.max2]
  split <;> simp_all

/-- 'max' of two numbers of 64 bits. -/
theorem wpList_max {P : Program} (w : World) {ops : Array Oper} {rest : List Oper} {o : Oper} {a : Act} {Q : Exit → Act → World → Prop} (hg : o.guard = none) (x y : Operand) (t : TypeId) (hop : o.op = Op.call { callee := Callee.builtin Builtin.max, args := #[x, y], argTypes := #[t, t] })
    (a0 c0 : Nat) (hx : a.eval x = .int .u64 (a0 : Int)) (hy : a.eval y = .int .u64 (c0 : Int))
    (hK : wpList P ops Q rest (a.put o.dst (.int .u64 ((max a0 c0 : Nat) : Int))) w) : wpList P ops Q (o :: rest) a w := by
  refine wpList_plain hg fun K' hK' => ?_
  unfold Oper.wp
  simp [execOp, hop, resolve, invoke, builtin, hx, hy, run_max, Result.andThen]
  exact hK' _ _ hK

/-- The step over string keys and numbers of 64 bits. -/
theorem wpList_next_vec (w : World) {ops : Array Oper} {rest : List Oper} {o : Oper} {a : Act} {Q : Exit → Act → World → Prop} (hg : o.guard = none) (it : Operand) (hop : o.op = Op.next it false)
    (b r n : Nat) (D : DataW Unit) (left : Lit → Bool) (cnt : Nat) (hit : a.eval it = .pointer (some ⟨r, 0, none⟩)) (h : w.ranges Ybad.prog 9 pU b r n D left cnt)
    (hDone : cnt = 0 → (∀ kl, left kl = false) → wpList Ybad.prog ops Q rest (a.put o.dst (.tuple #[.bool false])) w)
    (hMore : ∀ (s : ByteArray) (c : Int) (w' : World) (cnt' : Nat), s.size ≤ maxLen → (Lit.int .u64 c).wf = true → left (kS s) = true → (∀ zd, D.atKey (kS s) zd = .lit (.int .u64 c)) → w'.ranges Ybad.prog 9 pU b r n D (fun z => left z && !z.sameKey (kS s)) cnt' → cnt' < cnt →
      w.grownBy w' (some r) → w'.heap.size = w.heap.size → (Instr.entry (.pointer (some ⟨r, 0, none⟩))).run Ybad.prog w' = .ok (.tuple #[.string s, .int .u64 c]) w' → wpList Ybad.prog ops Q rest (a.put o.dst (.tuple #[.bool true, .string s, .int .u64 c])) w') :
    wpList Ybad.prog ops Q (o :: rest) a w :=
  wpList_next_ranges w hg it hop 9 skey pU Value.string (Value.int .u64) (fun key kl hkey => by obtain ⟨s, rfl, _⟩ := Go.WideMaps.string_of_keyOf Ybad.underlying9 hkey; exact ⟨s, rfl⟩) (fun v y hv => by obtain ⟨c, rfl, _⟩ := plainElem_int_inv Ybad.underlying22 hv; exact ⟨c, rfl⟩)
    b r n D left cnt hit h hDone (fun s c kl y w' cnt' hkey hlk hv hat hrg hlt hgr hsz hen => by
      obtain ⟨s', ex, rfl, hss⟩ := Go.WideMaps.string_of_keyOf Ybad.underlying9 hkey
      cases ex
      obtain ⟨c', ec, rfl, hwc⟩ := plainElem_int_inv Ybad.underlying22 hv
      cases ec
      exact hMore s c w' cnt' hss hwc hlk hat hrg hlt hgr hsz hen)

theorem holds_empty : Holds (.map []) (fun _ => 0) := ⟨fun k => rfl, fun k => rfl⟩

theorem key_self (s : ByteArray) : (kS s).sameKey (kS s) = true := WideAt.sameKey_self (a := kS s) (by trivial)

theorem holds_put {D : DataW Unit} {f : Lit → Nat} (h : Holds D f) (hm : IsMap D) (s : ByteArray) (m : Nat) (hpos : 0 < m) : Holds (D.put (kS s) (.lit (.int .u64 (m : Int)))) (fun k => if k.sameKey (kS s) then m else f k) := by
  have hk : WideAt.IsKeyLit (kS s) := by trivial
  refine ⟨fun k => ?_, fun k => ?_⟩
  · show _ = decide (0 < if k.sameKey (kS s) = true then m else f k)
    by_cases e : k = kS s
    · subst e; rw [has_put_same hm hk, key_self]; simp [hpos]
    · rw [has_put_other e, h.1, sameKey_ne e]; rfl
  · show _ = DataW.lit (Lit.int IntKind.u64 ((if k.sameKey (kS s) = true then m else f k : Nat) : Int))
    by_cases e : k = kS s
    · subst e; rw [atKey_put_same hm hk, key_self]; rfl
    · rw [atKey_put_other e, h.2, sameKey_ne e]; rfl

theorem sup_zero : Sup (fun _ => 0) := ⟨fun k h => absurd h (by simp), fun k => by show 0 < 18446744073709551616; decide⟩
theorem sup_max {f g : Lit → Nat} (hf : Sup f) (hg : Sup g) : Sup (fun k => max (f k) (g k)) :=
  ⟨fun k h => by
    by_cases h1 : 0 < f k
    · exact hf.1 k h1
    · exact hg.1 k (by have : 0 < max (f k) (g k) := h; omega), fun k => by have := hf.2 k; have := hg.2 k; show max (f k) (g k) < _; omega⟩

/-- v[s] = m. -/
theorem Vec.put {w : World} {base b : Nat} {f : Lit → Nat} (h : Vec w base (.map (some b)) f) (s : ByteArray) (hs : s.size ≤ maxLen) (m : Nat) (h0 : 0 < m) (hm : m < 18446744073709551616) (hk : kS s = kA ∨ kS s = kB ∨ kS s = kM) :
    ∃ w', (Instr.mapUpdate 63 (.map (some b)) (.string s) (.int .u64 (m : Int))).run Ybad.prog w = .ok () w' ∧ Vec w' base (.map (some b)) (fun k => if k.sameKey (kS s) then m else f k) ∧ w.grownBy w' (some b) ∧ w'.heap.size = w.heap.size := by
  obtain ⟨hsup, ⟨h1, _⟩ | ⟨b2, D, h1, hb, ho, hd⟩⟩ := h
  · cases h1
  · cases h1
    have hwf : (Lit.int .u64 (m : Int)).wf = true := by simp [Lit.wf, IntKind.min, IntKind.max, IntKind.signed, IntKind.bits]; omega
    obtain ⟨w', hrun, ho', ht⟩ := ho.store skey Ybad.underlying63 (by decide) (keyS s hs) (plainElem_int Ybad.underlying22 hwf)
    have hd' := holds_put hd ho.isMap s m h0
    have hs' : Sup (fun k => if k.sameKey (kS s) then m else f k) := by
      refine ⟨fun k hk' => ?_, fun k => ?_⟩
      · by_cases e : k = kS s
        · rw [e]; exact hk
        · have : 0 < f k := by simpa [sameKey_ne e] using hk'
          exact hsup.1 k this
      · show (if k.sameKey (kS s) = true then m else f k) < _
        split
        · exact hm
        · exact hsup.2 k
    refine ⟨w', hrun, ⟨hs', .inr ⟨b, _, rfl, hb, three ho' hs' hd', hd'⟩⟩, ht.grown, ?_⟩
    obtain ⟨_, _, _, _, _, rfl⟩ := ht
    simp [ChangeMaps.setBlock]

end Go.Proofs.YbulkahzaDoor

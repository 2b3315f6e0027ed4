/-
  'without' and the store's 'vector'.
-/
import Derived.Test.YbulkahzaDoorJoin
import Derived.Deep.RegionLaw
import Derived.BigQuiet
namespace Go.Proofs.YbulkahzaDoor
open Go.RowKit Go.Maps
set_option linter.unusedVariables false

theorem join_any {v x : Value} {f g : Lit → Nat} {w : World} (hv : Vec w 0 v f) (hx : Vec w 0 x g) :
    Calls Ybad.prog 11 #[v, x] w fun e w' => ∃ m, e = .returned (.map m) ∧ Vec w' w.heap.size (.map m) (fun k => max (f k) (g k)) ∧ Below w.heap.size w w' := by
  obtain ⟨mv, rfl⟩ := hv.shape
  obtain ⟨mx, rfl⟩ := hx.shape
  refine (join_maps mv mx f g w hv hx).mono ?_
  rintro e w' ⟨u, rfl, hu, hB⟩
  obtain ⟨m, rfl⟩ := hu.shape
  exact ⟨m, rfl, hu, hB⟩

/-- f less one key. -/
def less (f : Lit → Nat) (s : ByteArray) : Lit → Nat := fun k => if k.sameKey (kS s) then 0 else f k

theorem sup_less {f : Lit → Nat} (h : Sup f) (s : ByteArray) : Sup (less f s) := by
  refine ⟨fun k hk => ?_, fun k => ?_⟩
  · unfold less at hk
    split at hk
    · omega
    · exact h.1 k hk
  · unfold less
    split
    · decide
    · exact h.2 k

theorem holds_del {D : DataW Unit} {f : Lit → Nat} (h : Holds D f) (s : ByteArray) : Holds (D.del (kS s)) (less f s) := by
  refine ⟨fun k => ?_, fun k => ?_⟩
  · unfold less
    by_cases e : k = kS s
    · subst e; rw [has_del_same, key_self]; simp
    · rw [has_del_other e, h.1, sameKey_ne e]; rfl
  · unfold less
    by_cases e : k = kS s
    · subst e; rw [atKey_del_same, key_self]; rfl
    · rw [atKey_del_other e, h.2, sameKey_ne e]; rfl

theorem Vec.del {w : World} {base : Nat} {v : Value} {f : Lit → Nat} (h : Vec w base v f) (s : ByteArray) (hs : s.size ≤ maxLen) (ty : TypeId) :
    ∃ w' row, (Builtin.delete_ #[63, 9] ty #[v, .string s]).run Ybad.prog w = .ok (.tuple #[]) w' ∧ Vec w' base v (less f s) ∧ w.grownBy w' row ∧ ∀ j, row = some j → base ≤ j := by
  obtain ⟨hsup, ⟨rfl, h0⟩ | ⟨b, D, rfl, hb, ho, hd⟩⟩ := h
  · refine ⟨w, none, Maps.drop_nil skey Ybad.underlying63 (keyS s hs) ty, ⟨sup_less hsup s, .inl ⟨rfl, fun k => ?_⟩⟩, ⟨rfl, rfl, rfl, Nat.le_refl _, fun _ _ _ => rfl⟩, fun j hj => by cases hj⟩
    unfold less; split
    · rfl
    · exact h0 k
  · obtain ⟨w', hrun, ho', ht⟩ := ho.drop skey Ybad.underlying63 (keyS s hs) ty
    exact ⟨w', some b, hrun, ⟨sup_less hsup s, .inr ⟨b, _, rfl, hb, ho', holds_del hd s⟩⟩, ht.grown, fun j hj => by cases hj; exact hb⟩

theorem Vec.len0 {w : World} {base : Nat} {v : Value} {f : Lit → Nat} (h : Vec w base v f) : ∃ n : Nat, (∀ ty, (Builtin.len_ #[63] ty #[v]).run Ybad.prog w = .ok (.int .i64 (n : Int)) w) ∧ (n = 0 → ∀ k, f k = 0) ∧ n ≤ 3 := by
  refine ⟨_, h.len, fun hn k => ?_, by split <;> split <;> split <;> omega⟩
  cases hk : f k with
  | zero => rfl
  | succ m =>
    exfalso
    rcases h.sup.1 k (by omega) with rfl | rfl | rfl <;> simp [hk] at hn

/-- 'delete' by its run's equation. -/
theorem wpList_delete_eq {P : Program} (w : World) {ops : Array Oper} {rest : List Oper} {o : Oper} {a : Act} {Q : Exit → Act → World → Prop} (hg : o.guard = none) (m x : Operand) (t k : TypeId) (hop : o.op = Op.call { callee := Callee.builtin Builtin.delete, args := #[m, x], argTypes := #[t, k] })
    (v key : Value) (w' : World) (hm : a.eval m = v) (hx : a.eval x = key) (hrun : (Builtin.delete_ #[t, k] o.type #[v, key]).run P w = .ok (.tuple #[]) w')
    (hK : wpList P ops Q rest (a.put o.dst (.tuple #[])) w') : wpList P ops Q (o :: rest) a w := by
  refine wpList_plain hg fun K' hK' => ?_
  unfold Oper.wp
  simp [execOp, hop, resolve, invoke, builtin, hm, hx, hrun, Result.andThen]
  exact hK' _ _ hK

set_option maxHeartbeats 1000000 in
set_option maxRecDepth 100000 in
theorem without_any {v : Value} {f : Lit → Nat} (s : ByteArray) (hs : s.size ≤ maxLen) {w : World} (hv : Vec w 0 v f) :
    Calls Ybad.prog 20 #[v, .string s] w fun e w' => ∃ m, e = .returned (.map m) ∧ Vec w' w.heap.size (.map m) (less f s) ∧ Below w.heap.size w w' := by
  have HV := hide hv
  obtain ⟨mv, rfl⟩ := hv.shape
  clear hv
  go_enter Ybad.func20, Ybad.ntmps20
  go_wp2_with fail
  refine (join_any HV.out (g := fun _ => 0) ⟨sup_zero, .inl ⟨rfl, fun _ => rfl⟩⟩).mono ?_
  rintro e w1 ⟨m, rfl, hu, hB⟩
  have e0 : (fun k => max (f k) ((fun _ => 0 : Lit → Nat) k)) = f := by funext k; simp
  rw [e0] at hu
  obtain ⟨w2, row, hdel, hu2, hg, hrow⟩ := hu.del s hs 0
  obtain ⟨n, hlen, hn0, hn3⟩ := hu2.len0
  have hB2 : Below w.heap.size w w2 := hB.grown hg hB.size hrow
  have HU := hide hu2
  have HN := hide hn0
  clear hu hu2 hB hg hn0 e0
  by_cases hz : n = 0
  · subst hz
    have hall := hide (HN.out rfl)
    clear HN
    go_wp2_with (first
      | (at_delete; refine wpList_delete_eq _ rfl _ _ 63 9 rfl _ _ w2 rfl rfl hdel ?_)
      | (at_len; refine wpList_len_eq _ rfl _ 63 rfl _ _ rfl hlen ?_)
      | go_in)
    go_ret
    exact ⟨_, rfl, ⟨HU.out.sup, .inl ⟨rfl, hall.out⟩⟩, hB2⟩
  · have hni : (n : Int) ≠ 0 := by omega
    clear HN
    go_wp2_with (first
      | (at_delete; refine wpList_delete_eq _ rfl _ _ 63 9 rfl _ _ w2 rfl rfl hdel ?_)
      | (at_len; refine wpList_len_eq _ rfl _ 63 rfl _ _ rfl hlen ?_)
      | go_in)
    go_ret
    exact ⟨_, rfl, HU.out, hB2⟩

end Go.Proofs.YbulkahzaDoor

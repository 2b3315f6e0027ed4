/-
  The store as it lies in memory: its block, its two maps of structs; what stays.
-/
import Derived.Test.YbulkahzaDoorVector
import Derived.Deep.OwnRows
namespace Go.Proofs.YbulkahzaDoor
open Go.RowKit Go.Maps
set_option linter.unusedVariables false

/-- All blocks that were there stand, but those of which 'may' holds. -/
structure Frm (w w' : World) (may : Nat → Prop) : Prop where
  os : w'.os = w.os
  tape : w'.tape = w.tape
  output : w'.output = w.output
  size : w.heap.size ≤ w'.heap.size
  block : ∀ k, k < w.heap.size → ¬ may k → w'.heap[k]? = w.heap[k]?

namespace Frm
variable {w w' w'' : World} {may may' : Nat → Prop}
theorem refl (w : World) (may : Nat → Prop) : Frm w w may := ⟨rfl, rfl, rfl, Nat.le_refl _, fun _ _ _ => rfl⟩
theorem trans (h : Frm w w' may) (k : Frm w' w'' may') (hm : ∀ j, j < w.heap.size → may' j → may j) : Frm w w'' may :=
  ⟨k.os.trans h.os, k.tape.trans h.tape, k.output.trans h.output, Nat.le_trans h.size k.size, fun i hi hn => (k.block i (Nat.lt_of_lt_of_le hi h.size) (fun e => hn (hm i hi e))).trans (h.block i hi hn)⟩
theorem mono (h : Frm w w' may) (hm : ∀ j, j < w.heap.size → may j → may' j) : Frm w w' may' := ⟨h.os, h.tape, h.output, h.size, fun i hi hn => h.block i hi (fun e => hn (hm i hi e))⟩
theorem drew (h : Frm w w' may) : Frm w w'.drew may := ⟨h.os, h.tape, h.output, h.size, h.block⟩
theorem alloc (h : Frm w w' may) (o : Obj) : Frm w (w'.alloc o) may :=
  ⟨h.os, h.tape, h.output, by have := h.size; simp; omega, fun i hi hn => by rw [(MapKept.heap_alloc w' o).2 i (Nat.lt_of_lt_of_le hi h.size)]; exact h.block i hi hn⟩
theorem setCell (h : Frm w w' may) (a : Addr) (v : Value) (ha : a.block < w.heap.size → may a.block) : Frm w (w'.setCell a v) may :=
  ⟨h.os, h.tape, h.output, by have := h.size; simp [World.setCell]; omega, fun i hi hn => by
    by_cases e : i = a.block
    · exact absurd (e ▸ ha (e ▸ hi)) hn
    · rw [Below.heap_setCell _ _ _ _ e]; exact h.block i hi hn⟩
theorem of_below (h : Below w.heap.size w w') : Frm w w' may := ⟨h.os, h.tape, h.output, h.size, fun i hi _ => h.block i hi⟩
theorem of_grown {row : Option Nat} (h : w.grownBy w' row) (hr : ∀ j, row = some j → j < w.heap.size → may j) : Frm w w' may := ⟨h.os, h.tape, h.output, h.size, fun i hi hn => h.block i hi (fun e => hn (hr i e.symm hi))⟩
theorem below {B : Nat} (h : Frm w w' may) (hB : B ≤ w.heap.size) (hm : ∀ j, may j → B ≤ j) : Below B w w' := ⟨h.os, h.tape, h.output, h.size, fun i hi => h.block i (by omega) (fun e => by have := hm i e; omega)⟩
theorem cell (h : Frm w w' may) {a : Addr} (ha : a.block < w.heap.size) (hn : ¬ may a.block) : w'.cell? a = w.cell? a := World.cell?_of_block (h.block _ ha hn)
theorem vec (h : Frm w w' may) {base : Nat} {v : Value} {f : Lit → Nat} (hv : Vec w base v f) (hn : ∀ b, v = .map (some b) → ¬ may b) : Vec w' base v f := hv.of_block fun b e _ hlt => h.block b hlt (hn b e)
end Frm

/-- The cells of the store. -/
abbrev stC (et fo F C : Nat) (tv fv : Value) : Array Value :=
  #[.pointer none, .pointer none, .pointer none, .string sM, .string eS, .int .i32 0, .int .u32 0, .int .u32 0, .int .u32 0, .int .i32 0, .int .i32 0, .int .i64 0, .int .i64 0, .int .u64 (et : Int), .slice none 0 0, .map (some F), .slice none 0 0, .slice none 0 0, .int .i64 0, .map none, .map (some C), .chan none, .nilIface, .map none, .string eS, .map none, .string eS, .map none, .int .i32 0, .int .u32 0, .map none, .int .u64 (fo : Int), tv, fv]

def StoreAt (w : World) (S et fo F C : Nat) (tv fv : Value) : Prop := w.heap[S]? = some (.cells (stC et fo F C tv fv) 65 (0, 0))

namespace StoreAt
variable {w w' : World} {S et fo F C : Nat} {tv fv : Value}
theorem lt (h : StoreAt w S et fo F C tv fv) : S < w.heap.size := (Array.getElem?_eq_some_iff.1 h).1
theorem cell (h : StoreAt w S et fo F C tv fv) (j : Nat) : w.cell? ⟨S, j, none⟩ = (stC et fo F C tv fv)[j]? := by
  unfold StoreAt at h
  simp only [World.cell?, h]
  rfl
theorem frozen (h : StoreAt w S et fo F C tv fv) (j : Nat) : w.frozen? ⟨S, j, none⟩ = false := by
  unfold StoreAt at h
  simp [World.frozen?, h]
theorem of_block (h : StoreAt w S et fo F C tv fv) (hb : w'.heap[S]? = w.heap[S]?) : StoreAt w' S et fo F C tv fv := hb.trans h
theorem alloc (h : StoreAt w S et fo F C tv fv) (o : Obj) : StoreAt (w.alloc o) S et fo F C tv fv := h.of_block ((MapKept.heap_alloc w o).2 S h.lt)
theorem drew (h : StoreAt w S et fo F C tv fv) : StoreAt w.drew S et fo F C tv fv := h
theorem setFloor (h : StoreAt w S et fo F C tv fv) (v : Value) : StoreAt (w.setCell ⟨S, 33, none⟩ v) S et fo F C tv v := heap_setCell_same w S 33 _ 65 v h
theorem setTombs (h : StoreAt w S et fo F C tv fv) (v : Value) : StoreAt (w.setCell ⟨S, 32, none⟩ v) S et fo F C v fv := heap_setCell_same w S 32 _ 65 v h
theorem setForgotten (h : StoreAt w S et fo F C tv fv) (x : Nat) : StoreAt (w.setCell ⟨S, 31, none⟩ (.int .u64 (x : Int))) S et x F C tv fv := heap_setCell_same w S 31 _ 65 _ h
theorem setEtag (h : StoreAt w S et fo F C tv fv) (x : Nat) : StoreAt (w.setCell ⟨S, 13, none⟩ (.int .u64 (x : Int))) S x fo F C tv fv := heap_setCell_same w S 13 _ 65 _ h
theorem setOther (h : StoreAt w S et fo F C tv fv) {a : Addr} (v : Value) (ha : S ≠ a.block) : StoreAt (w.setCell a v) S et fo F C tv fv := h.of_block (Below.heap_setCell _ _ _ _ ha)
end StoreAt

/-- The cells of a version in 'files'. -/
abbrev fileC (n : Nat) (kd : Int) : Array Value :=
  #[.int .u64 (n : Int), .int .i64 kd, .slice none 0 0, .string eS, .int .u64 0, .string eS, .int .u64 0, .map none, .int .i64 0, .slice none 0 0, .int .i64 0, .int .i64 0, .int .u64 0, .map none, .string eS, .int .u64 0, .string eS, .string eS, .int .u64 0, .int .u64 0, .int .i64 0, .pointer none]
/-- The cells of a conflict. -/
abbrev confC (nm : ByteArray) : Array Value :=
  #[.string nm, .string eS, .int .u64 0, .slice none 0 0, .bool false, .string eS, .int .u64 0, .slice none 0 0, .bool false, .int .u64 0, .int .i64 0, .pointer none]

open Classical in
/-- How a version reads: by its etag. -/
noncomputable def verElem (v : Value) : Option (DataW Unit × List MemPlace) :=
  if h : ∃ (n : Nat) (kd : Int), v = .agg (fileC n kd) then some (.lit (.int .u64 (h.choose : Int)), []) else none
open Classical in
noncomputable def confElem (v : Value) : Option (DataW Unit × List MemPlace) :=
  if ∃ nm : ByteArray, v = .agg (confC nm) then some (.agg [], []) else none

theorem verElem_mk (n : Nat) (kd : Int) : verElem (.agg (fileC n kd)) = some (.lit (.int .u64 (n : Int)), []) := by
  have h : ∃ (n' : Nat) (kd' : Int), (Value.agg (fileC n kd)) = .agg (fileC n' kd') := ⟨n, kd, rfl⟩
  unfold verElem
  rw [dif_pos h]
  obtain ⟨kd', hk⟩ := h.choose_spec
  have key : ∀ (c : Nat) (kd' : Int), (Value.agg (fileC n kd)) = .agg (fileC c kd') → n = c := by
    intro c kd' hk
    have := congrArg (fun v => match v with | Value.agg cs => cs[0]? | _ => none) hk
    simp at this
    omega
  have e : n = h.choose := key _ _ hk
  rw [← e]

theorem verElem_inv {v : Value} {y : DataW Unit × List MemPlace} (h : verElem v = some y) : ∃ (n : Nat) (kd : Int), v = .agg (fileC n kd) ∧ y = (.lit (.int .u64 (n : Int)), []) := by
  by_cases hx : ∃ (n : Nat) (kd : Int), v = .agg (fileC n kd)
  · obtain ⟨n, kd, rfl⟩ := hx
    rw [verElem_mk] at h
    exact ⟨n, kd, rfl, (Option.some.inj h).symm⟩
  · unfold verElem at h
    rw [dif_neg hx] at h
    cases h

theorem confElem_mk (nm : ByteArray) : confElem (.agg (confC nm)) = some (.agg [], []) := by
  unfold confElem
  rw [if_pos ⟨nm, rfl⟩]
theorem confElem_inv {v : Value} {y : DataW Unit × List MemPlace} (h : confElem v = some y) : ∃ nm, v = .agg (confC nm) := by
  unfold confElem at h
  split at h
  · assumption
  · cases h

theorem zero87 (w : World) : (zeroValue 87).run Ybad.prog w = .ok (.agg (fileC 0 0)) w := by kernel_rfl
theorem zero93 (w : World) : (zeroValue 93).run Ybad.prog w = .ok (.agg (confC eS)) w := by kernel_rfl

/-- The map of files in block F: at most n entries; g tells the etag at each name. -/
def Files (w : World) (F n : Nat) (g : Lit → Option Nat) : Prop :=
  ∃ D, w.ownsMap Ybad.prog 9 verElem F n D ∧ (∀ k, Maps.has D k = (g k).isSome) ∧ ∀ k, D.atKey k (.lit (.int .u64 0)) = .lit (.int .u64 (((g k).getD 0 : Nat) : Int))
/-- The map of conflicts in block C. -/
def Confs (w : World) (C n : Nat) (g : Lit → Bool) : Prop := ∃ D, w.ownsMap Ybad.prog 9 confElem C n D ∧ ∀ k, Maps.has D k = g k

def upd {α : Type} (g : Lit → α) (s : ByteArray) (x : α) : Lit → α := fun k => if k.sameKey (kS s) then x else g k

theorem upd_same {α : Type} (g : Lit → α) (s : ByteArray) (x : α) : upd g s x (kS s) = x := by simp [upd, key_self]
theorem upd_other {α : Type} (g : Lit → α) (s : ByteArray) (x : α) {k : Lit} (h : k ≠ kS s) : upd g s x k = g k := by simp [upd, sameKey_ne h]

namespace Files
variable {w w' : World} {F n : Nat} {g : Lit → Option Nat}
theorem lt (h : Files w F n g) : F < w.heap.size := by obtain ⟨D, ho, _⟩ := h; exact ho.lt
theorem of_block (h : Files w F n g) (hb : w'.heap[F]? = w.heap[F]?) : Files w' F n g := by
  obtain ⟨D, ⟨es, clock, h1, r⟩, h2⟩ := h
  exact ⟨D, ⟨es, clock, hb.trans h1, r⟩, h2⟩
theorem alloc (h : Files w F n g) (o : Obj) : Files (w.alloc o) F n g := h.of_block ((MapKept.heap_alloc w o).2 F h.lt)
theorem mono (h : Files w F n g) {n' : Nat} (hn : n ≤ n') : Files w F n' g := by obtain ⟨D, ho, r⟩ := h; exact ⟨D, ho.mono hn, r⟩
theorem drew (h : Files w F n g) : Files w.drew F n g := h
theorem made (w : World) : Files (w.alloc (.map #[] 0)) w.heap.size 0 (fun _ => none) := ⟨_, World.ownsMap_made w _ _ _, fun _ => rfl, fun _ => rfl⟩
theorem look (h : Files w F n g) (s : ByteArray) (hs : s.size ≤ maxLen) : ∃ kd, (Instr.lookup 30 (.map (some F)) (.string s) false).run Ybad.prog w = .ok (.agg (fileC ((g (kS s)).getD 0) kd)) w := by
  obtain ⟨D, ho, h1, h2⟩ := h
  obtain ⟨v, ps, hrun, hv⟩ := ho.lookup skey Ybad.underlying30 (zero87 w) (verElem_mk 0 0) (keyS s hs)
  obtain ⟨m, kd, rfl, e⟩ := verElem_inv hv
  have e1 := congrArg Prod.fst e
  have e2 := h2 (kS s)
  simp only at e1
  rw [show ((0 : Nat) : Int) = 0 from rfl] at e1
  rw [e1] at e2
  have : m = (g (kS s)).getD 0 := by
    simp only [DataW.lit.injEq, Lit.int.injEq, true_and] at e2
    exact Int.ofNat.inj e2
  subst this
  exact ⟨kd, hrun⟩
theorem look_ok (h : Files w F n g) (s : ByteArray) (hs : s.size ≤ maxLen) : ∃ kd, (Instr.lookup 30 (.map (some F)) (.string s) true).run Ybad.prog w = .ok (.tuple #[.agg (fileC ((g (kS s)).getD 0) kd), .bool (g (kS s)).isSome]) w := by
  obtain ⟨D, ho, h1, h2⟩ := h
  obtain ⟨v, ps, hrun, hv⟩ := ho.look_ok skey Ybad.underlying30 (zero87 w) (verElem_mk 0 0) (keyS s hs)
  obtain ⟨m, kd, rfl, e⟩ := verElem_inv hv
  have e1 := congrArg Prod.fst e
  have e2 := h2 (kS s)
  simp only at e1
  rw [show ((0 : Nat) : Int) = 0 from rfl] at e1
  rw [e1] at e2
  have : m = (g (kS s)).getD 0 := by
    simp only [DataW.lit.injEq, Lit.int.injEq, true_and] at e2
    exact Int.ofNat.inj e2
  subst this
  rw [h1] at hrun
  exact ⟨kd, hrun⟩
theorem store (h : Files w F n g) (hn : n < maxLen) (s : ByteArray) (hs : s.size ≤ maxLen) (m : Nat) (kd : Int) :
    ∃ w', (Instr.mapUpdate 30 (.map (some F)) (.string s) (.agg (fileC m kd))).run Ybad.prog w = .ok () w' ∧ Files w' F (n + 1) (upd g s (some m)) ∧ w.grownBy w' (some F) ∧ w'.heap.size = w.heap.size := by
  obtain ⟨D, ho, h1, h2⟩ := h
  obtain ⟨w', hrun, ho', ht⟩ := ho.store skey Ybad.underlying30 hn (keyS s hs) (verElem_mk m kd)
  have hk : WideAt.IsKeyLit (kS s) := by trivial
  refine ⟨w', hrun, ⟨_, ho', fun k => ?_, fun k => ?_⟩, ht.grown, ?_⟩
  · by_cases e : k = kS s
    · subst e; rw [has_put_same ho.isMap hk, upd_same]; rfl
    · rw [has_put_other e, h1, upd_other _ _ _ e]
  · by_cases e : k = kS s
    · subst e; rw [atKey_put_same ho.isMap hk, upd_same]; rfl
    · rw [atKey_put_other e, h2, upd_other _ _ _ e]
  · obtain ⟨_, _, _, _, _, rfl⟩ := ht
    simp [ChangeMaps.setBlock]
theorem del (h : Files w F n g) (s : ByteArray) (hs : s.size ≤ maxLen) (ty : TypeId) :
    ∃ w', (Builtin.delete_ #[30, 9] ty #[.map (some F), .string s]).run Ybad.prog w = .ok (.tuple #[]) w' ∧ Files w' F n (upd g s none) ∧ w.grownBy w' (some F) ∧ w'.heap.size = w.heap.size := by
  obtain ⟨D, ho, h1, h2⟩ := h
  obtain ⟨w', hrun, ho', ht⟩ := ho.drop skey Ybad.underlying30 (keyS s hs) ty
  refine ⟨w', hrun, ⟨_, ho', fun k => ?_, fun k => ?_⟩, ht.grown, ?_⟩
  · by_cases e : k = kS s
    · subst e; rw [has_del_same, upd_same]; rfl
    · rw [has_del_other e, h1, upd_other _ _ _ e]
  · by_cases e : k = kS s
    · subst e; rw [atKey_del_same, upd_same]; rfl
    · rw [atKey_del_other e, h2, upd_other _ _ _ e]
  · obtain ⟨_, _, _, _, _, rfl⟩ := ht
    simp [ChangeMaps.setBlock]
end Files

namespace Confs
variable {w w' : World} {C n : Nat} {g : Lit → Bool}
theorem lt (h : Confs w C n g) : C < w.heap.size := by obtain ⟨D, ho, _⟩ := h; exact ho.lt
theorem of_block (h : Confs w C n g) (hb : w'.heap[C]? = w.heap[C]?) : Confs w' C n g := by
  obtain ⟨D, ⟨es, clock, h1, r⟩, h2⟩ := h
  exact ⟨D, ⟨es, clock, hb.trans h1, r⟩, h2⟩
theorem alloc (h : Confs w C n g) (o : Obj) : Confs (w.alloc o) C n g := h.of_block ((MapKept.heap_alloc w o).2 C h.lt)
theorem mono (h : Confs w C n g) {n' : Nat} (hn : n ≤ n') : Confs w C n' g := by obtain ⟨D, ho, r⟩ := h; exact ⟨D, ho.mono hn, r⟩
theorem drew (h : Confs w C n g) : Confs w.drew C n g := h
theorem made (w : World) : Confs (w.alloc (.map #[] 0)) w.heap.size 0 (fun _ => false) := ⟨_, World.ownsMap_made w _ _ _, fun _ => rfl⟩
theorem look_ok (h : Confs w C n g) (s : ByteArray) (hs : s.size ≤ maxLen) : ∃ nm, (Instr.lookup 31 (.map (some C)) (.string s) true).run Ybad.prog w = .ok (.tuple #[.agg (confC nm), .bool (g (kS s))]) w := by
  obtain ⟨D, ho, h1⟩ := h
  obtain ⟨v, ps, hrun, hv⟩ := ho.look_ok skey Ybad.underlying31 (zero93 w) (confElem_mk eS) (keyS s hs)
  obtain ⟨nm, rfl⟩ := confElem_inv hv
  rw [h1] at hrun
  exact ⟨nm, hrun⟩
theorem store (h : Confs w C n g) (hn : n < maxLen) (s : ByteArray) (hs : s.size ≤ maxLen) (nm : ByteArray) :
    ∃ w', (Instr.mapUpdate 31 (.map (some C)) (.string s) (.agg (confC nm))).run Ybad.prog w = .ok () w' ∧ Confs w' C (n + 1) (upd g s true) ∧ w.grownBy w' (some C) ∧ w'.heap.size = w.heap.size := by
  obtain ⟨D, ho, h1⟩ := h
  obtain ⟨w', hrun, ho', ht⟩ := ho.store skey Ybad.underlying31 hn (keyS s hs) (confElem_mk nm)
  have hk : WideAt.IsKeyLit (kS s) := by trivial
  refine ⟨w', hrun, ⟨_, ho', fun k => ?_⟩, ht.grown, ?_⟩
  · by_cases e : k = kS s
    · subst e; rw [has_put_same ho.isMap hk, upd_same]
    · rw [has_put_other e, h1, upd_other _ _ _ e]
  · obtain ⟨_, _, _, _, _, rfl⟩ := ht
    simp [ChangeMaps.setBlock]
end Confs

end Go.Proofs.YbulkahzaDoor

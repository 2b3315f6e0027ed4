/-
  'join' and 'without'.
-/
import Derived.Test.YbulkahzaDoorVec
namespace Go.Proofs.YbulkahzaDoor
open Go.RowKit Go.Maps
set_option linter.unusedVariables false

/-- The vector in the middle of a range. -/
def mid (left : Lit → Bool) (acc h : Lit → Nat) : Lit → Nat := fun k => if left k = true then acc k else max (acc k) (h k)

theorem sup_mid {left : Lit → Bool} {acc h : Lit → Nat} (ha : Sup acc) (hh : Sup h) : Sup (mid left acc h) := by
  have hm := sup_max ha hh
  refine ⟨fun k hk => ?_, fun k => ?_⟩
  · unfold mid at hk
    split at hk
    · exact ha.1 k hk
    · exact hm.1 k hk
  · unfold mid
    split
    · exact ha.2 k
    · exact hm.2 k

theorem mid_start {D : DataW Unit} {acc h : Lit → Nat} (hd : Holds D h) : mid (Maps.has D) acc h = acc := by
  funext k
  unfold mid
  rw [hd.1]
  by_cases e : 0 < h k
  · simp [e]
  · have : h k = 0 := by omega
    simp [this]

theorem mid_end {left : Lit → Bool} {acc h : Lit → Nat} (hl : ∀ k, left k = false) : mid left acc h = fun k => max (acc k) (h k) := by
  funext k
  simp [mid, hl k]

theorem mid_step {left : Lit → Bool} {acc h : Lit → Nat} (s : ByteArray) : mid (fun z => left z && !z.sameKey (kS s)) acc h = fun k => if k.sameKey (kS s) then max (acc (kS s)) (h (kS s)) else mid left acc h k := by
  funext k
  by_cases e : k = kS s
  · subst e
    simp [mid, key_self]
  · simp [mid, sameKey_ne e]

theorem bounds_u64' {a : Int} (h : (Lit.int .u64 a).wf = true) : 0 ≤ a ∧ a ≤ 18446744073709551615 := by
  simp [Lit.wf, IntKind.min, IntKind.max, IntKind.signed, IntKind.bits] at h
  omega

theorem Vec.shape {w : World} {base : Nat} {v : Value} {f : Lit → Nat} (h : Vec w base v f) : ∃ m, v = .map m := by
  obtain ⟨_, ⟨rfl, _⟩ | ⟨b, D, rfl, _⟩⟩ := h
  · exact ⟨_, rfl⟩
  · exact ⟨_, rfl⟩

theorem eql_nn (W : World) : (binOp .eql 63 (.map none) (.map none)).run Ybad.prog W = .ok (.bool true) W := by kernel_rfl
theorem eql_sn (b : Nat) (W : World) : (binOp .eql 63 (.map (some b)) (.map none)).run Ybad.prog W = .ok (.bool false) W := by kernel_rfl

set_option maxHeartbeats 4000000 in
set_option maxRecDepth 100000 in
theorem join_maps (mv mx : Option Nat) (f g : Lit → Nat) (w : World) (hv : Vec w 0 (.map mv) f) (hx : Vec w 0 (.map mx) g) :
    Calls Ybad.prog 11 #[.map mv, .map mx] w fun e w' => ∃ u, e = .returned u ∧ Vec w' w.heap.size u (fun k => max (f k) (g k)) ∧ Below w.heap.size w w' := by
  have hmk := mkHint
  have hnn := eql_nn
  have hsn := eql_sn
  have HV := hide hv
  have HX := hide hx
  clear hv hx
  go_enter Ybad.func11, Ybad.ntmps11
  go_wp2
  go_loopw [5, 14] (fun u i wr => ∃ (k : Nat) (mu : Option Nat), k ≤ 2 ∧ i = .int .i64 k ∧ u = .map mu ∧ Vec wr (w.heap.size + 1) u (fun q => if k = 0 then 0 else if k = 1 then f q else max (f q) (g q)) ∧ wr.heap[w.heap.size]? = some (.cells #[.map mv, .map mx] 63) ∧ Below w.heap.size w wr) (fun _ i _ => 2 - (intOf i).toNat)
  case atStart =>
    refine ⟨0, none, by omega, rfl, rfl, ⟨by simpa using sup_zero, .inl ⟨rfl, fun k => by simp⟩⟩, ?_, (Below.refl _ _).alloc (Nat.le_refl _) _⟩
    exact (MapKept.heap_alloc w _).1
  case round =>
    obtain ⟨k, mu, hk, rfl, rfl, hu, hsl, hB⟩ := hrel
    by_cases hlt : k < 2
    · obtain ⟨my, h, hcell, hy, hnext⟩ : ∃ (my : Option Nat) (h : Lit → Nat), wr.cell? ⟨w.heap.size, k, none⟩ = some (.map my) ∧ Vec w 0 (.map my) h ∧ Hid (∀ q, (if k + 1 = 0 then 0 else if k + 1 = 1 then f q else max (f q) (g q)) = max (if k = 0 then 0 else if k = 1 then f q else max (f q) (g q)) (h q)) := by
        have hc : ∀ j, wr.cell? ⟨w.heap.size, j, none⟩ = (#[.map mv, .map mx] : Array Value)[j]? := fun j => by simp [World.cell?, hsl]
        have hk2 : k = 0 ∨ k = 1 := by omega
        rcases hk2 with rfl | rfl
        · refine ⟨mv, f, by rw [hc]; rfl, HV.out, hide fun q => ?_⟩
          simp
        · refine ⟨mx, g, by rw [hc]; rfl, HX.out, hide fun q => ?_⟩
          simp
      have hki : (k : Int) < 2 := by omega
      have HY := hide hy
      have HU := hide hu
      clear hu hy
      rcases HY.out with ⟨hsup, ⟨hmy, h0⟩ | ⟨b, D, hmy, _, ho, hd⟩⟩
      · cases hmy
        have hrg : ∀ wx : World, (Instr.range 63 (.map none)).run Ybad.prog wx = _ := fun wx => run_range_nilMap wx 63 9 22 Ybad.underlying63
        have hnx : ∀ ty, (Instr.next (.pointer (some ⟨wr.heap.size, 0, none⟩)) false ty).run Ybad.prog (wr.alloc (.mapIter none 0 #[] 0)) = _ := fun ty => run_next_nilMap wr ty 0 0 #[]
        go_wp2
        refine wp_loop_rounds 1 ?_
        rw [rounds_succ]
        go_wp2
        go_roundw
        case rel =>
          refine ⟨k + 1, mu, by omega, by go_num, rfl, ?_, ?_, hB.alloc (by have := hB.size; omega) _⟩
          · have e : (fun q => if k + 1 = 0 then 0 else if k + 1 = 1 then f q else max (f q) (g q)) = (fun q => if k = 0 then 0 else if k = 1 then f q else max (f q) (g q)) := by
              funext q; rw [hnext.out q, h0 q]; simp
            rw [e]
            exact HU.out.below ((Below.refl _ _).alloc (Nat.le_refl _) _)
          · rw [(MapKept.heap_alloc wr _).2 _ (by have := (Array.getElem?_eq_some_iff.1 hsl).1; omega)]; exact hsl
        case measure => simp [intOf]; omega
      · cases hmy
        have hbl := ho.lt
        have hor : wr.ownsMap Ybad.prog 9 pU b 3 D := by
          obtain ⟨es, clock, hbk, r⟩ := ho
          exact ⟨es, clock, (hB.block b hbl).trans hbk, r⟩
        obtain ⟨acc, hacc⟩ : ∃ acc : Lit → Nat, acc = fun q => if k = 0 then 0 else if k = 1 then f q else max (f q) (g q) := ⟨_, rfl⟩
        have hnext2 : Hid (∀ q, (if k + 1 = 0 then 0 else if k + 1 = 1 then f q else max (f q) (g q)) = max (acc q) (h q)) := hide fun q => by rw [hnext.out q, hacc]
        have HU2 : Hid (Vec wr (w.heap.size + 1) (.map mu) acc) := by rw [hacc]; exact HU
        have HD := hide hd
        have HS := hide hsup
        clear hnext HU HY hd ho hsup hacc
        go_wp2_with (first
          | (at_range; refine wpList_range_own _ rfl _ 63 rfl 9 22 skey Ybad.underlying63 _ b 3 D rfl hor ?_; intro w0 hrg0 hg0 hs0)
          | go_in)
        go_frame
        have hsl0 : w0.heap[w.heap.size]? = some (.cells #[.map mv, .map mx] 63) := (hg0.block _ (Array.getElem?_eq_some_iff.1 hsl).1 (by simp)).trans hsl
        have hB0 : Below w.heap.size w w0 := hB.grown hg0 hB.size (fun j hj => by cases hj)
        have HU0 : Hid (Vec w0 (w.heap.size + 1) (.map mu) acc) := hide (HU2.out.grown hg0 (fun _ _ _ => by simp))
        have hne0 : ∀ b', mu = some b' → b' < wr.heap.size := by
          rintro b' rfl
          obtain ⟨_, ⟨h1, _⟩ | ⟨b2, D2, h1, _, h2, _⟩⟩ := HU2.out
          · cases h1
          · cases h1; exact h2.lt
        have hrl : w.heap.size < wr.heap.size := (Array.getElem?_eq_some_iff.1 hsl).1
        clear hsl hB HU2 hg0 hs0 hcell hor
        generalize wr.heap.size = r at hrg0 hne0 hrl ⊢
        clear wr
        go_loopw [5] (fun u wr => ∃ (left : Lit → Bool) (cnt : Nat) (mu' : Option Nat), u = .map mu' ∧ wr.ranges Ybad.prog 9 pU b r 3 D left cnt ∧ Vec wr (w.heap.size + 1) u (mid left acc h) ∧ (∀ b', mu' = some b' → b' ≠ r) ∧ wr.heap[w.heap.size]? = some (.cells #[.map mv, .map mx] 63) ∧ Below w.heap.size w wr) (fun _ wr => wr.rangeLeft b r)
        case atStart =>
          exact ⟨_, _, mu, rfl, hrg0, by rw [mid_start HD.out]; exact HU0.out, fun b' e => by have := hne0 b' e; omega, hsl0, hB0⟩
        case round =>
          clear hrg0 hsl0 hB0 HU0 hne0
          obtain ⟨left, cnt, mu', rfl, hrg, hu, hne, hsl, hB⟩ := hrel
          go_wp2_with (first
            | (at_next; refine wpList_next_vec _ rfl _ rfl b r 3 D left cnt rfl hrg ?_ ?_)
            | go_in)
          · intro hc0 hl0
            have HU := hide hu
            clear hu
            go_wp2
            go_roundw
            case rel =>
              refine ⟨k + 1, mu', by omega, by go_num, rfl, ?_, hsl, hB⟩
              have e : (fun q => if k + 1 = 0 then 0 else if k + 1 = 1 then f q else max (f q) (g q)) = mid left acc h := by
                rw [mid_end hl0]; funext q; exact hnext2.out q
              rw [e]; exact HU.out
            case measure => simp [intOf]; omega
          · intro s c w1 cnt1 hss hwc hlx hat hrg1 hlt1 hg1 hs1 hen
            have hu1 := hu.grown hg1 (fun b' e _ e2 => hne b' (by cases e; rfl) (by cases e2; rfl))
            have hB1 : Below w.heap.size w w1 := hB.grown hg1 hB.size (fun j hj => by cases hj; omega)
            have hsl1 : w1.heap[w.heap.size]? = some (.cells #[.map mv, .map mx] 63) := (hg1.block _ (Array.getElem?_eq_some_iff.1 hsl).1 (fun e => by have := Option.some.inj e; omega)).trans hsl
            obtain ⟨lv, hlv⟩ : ∃ n : Nat, ∀ ty, (Builtin.len_ #[63] ty #[.map mv]).run Ybad.prog w1 = .ok (.int .i64 (n : Int)) w1 := ⟨_, (HV.out.below hB1).len⟩
            obtain ⟨lx, hlx2⟩ : ∃ n : Nat, ∀ ty, (Builtin.len_ #[63] ty #[.map mx]).run Ybad.prog w1 = .ok (.int .i64 (n : Int)) w1 := ⟨_, (HX.out.below hB1).len⟩
            obtain ⟨c, rfl⟩ : ∃ n : Nat, c = n := ⟨c.toNat, by have := bounds_u64' hwc; omega⟩
            have hhc : h (kS s) = c := by
              have e1 := HD.out.2 (kS s)
              rw [hat] at e1
              cases e1; rfl
            have hpos : 0 < h (kS s) := by
              have e1 := HD.out.1 (kS s)
              rw [has_true_of_atKey hat] at e1
              exact of_decide_eq_true e1.symm
            have hmid : mid left acc h (kS s) = acc (kS s) := if_pos hlx
            have hca := hu.sup.2 (kS s)
            have HRL := hide hrg.left_eq
            rw [hmid] at hca
            cases mu' with
            | none =>
              have hz : mid left acc h = fun _ => 0 := by
                funext q
                obtain ⟨_, ⟨_, h0⟩ | ⟨_, _, e, _⟩⟩ := hu1
                · exact h0 q
                · cases e
              have hn1 : Vec (w1.alloc (.map #[] 0)) (w.heap.size + 1) (.map (some wr.heap.size)) (mid left acc h) := by
                rw [hz, ← hs1]
                exact ⟨sup_zero, .inr ⟨_, _, rfl, by have := (Array.getElem?_eq_some_iff.1 hsl1).1; omega, (World.ownsMap_made w1 _ _ _).mono (by omega), holds_empty⟩⟩
              have hlk := hn1.look s hss
              have HU1 := hide hn1
              have HG := hide hg1
              have HRG := hide hrg1
              clear hu hu1 hg1 hrg hrg1 hsl hB hn1
              obtain ⟨w2, hst, hV2, hg2, hs2⟩ := HU1.out.put s hss (max (acc (kS s)) c) (by omega) (by have := HS.out.2 (kS s); omega) (HS.out.1 _ hpos)
              have hbw : w1.heap.size = wr.heap.size := hs1
              have hbsz := hB1.size
              have hrr : r < w1.heap.size := HRG.out.lt
              have RG2 : w2.ranges Ybad.prog 9 pU b r 3 D (fun z => left z && !z.sameKey (kS s)) cnt1 := (HRG.out.alloc _).kept hg2 (fun e => by have := Option.some.inj e; omega) (fun e => by have := Option.some.inj e; omega)
              have SL2 : w2.heap[w.heap.size]? = some (.cells #[.map mv, .map mx] 63) := by
                have hlt2 := (Array.getElem?_eq_some_iff.1 hsl1).1
                rw [hg2.block _ (by simp; omega) (fun e => by have := Option.some.inj e; omega), (MapKept.heap_alloc w1 _).2 _ hlt2]; exact hsl1
              have BB2 : Below w.heap.size w w2 := (hB1.alloc (by omega) _).grown hg2 (by simp; omega) (fun j hj => by cases hj; omega)
              have NEQ : ∀ b', some wr.heap.size = some b' → b' ≠ r := fun b' e => by cases e; omega
              have RGH := hide RG2
              have SLH := hide SL2
              have BBH := hide BB2
              have NEH := hide NEQ
              clear RG2 SL2 BB2 NEQ
              have HV2 := hide hV2
              clear hV2 hg2 hs2
              go_wp2_with (first
                | (at_len; refine wpList_len_eq _ rfl _ 63 rfl (.map mv) _ rfl hlv ?_)
                | (at_len; refine wpList_len_eq _ rfl _ 63 rfl (.map mx) _ rfl hlx2 ?_)
                | (refine wpList_max _ rfl _ _ 22 rfl (acc (kS s)) c rfl rfl ?_)
                | go_in)
              have hVf : Vec w2 (w.heap.size + 1) (.map (some wr.heap.size)) (mid (fun z => left z && !z.sameKey (kS s)) acc h) := by
                rw [mid_step, hhc]; exact HV2.out
              go_roundw
              case rel =>
                refine ⟨_, cnt1, some wr.heap.size, rfl, RGH.out, hVf, NEH.out, SLH.out, BBH.out⟩
              case measure => rw [RGH.out.left_eq, HRL.out]; exact hlt1
            | some bu =>
              have hlk := hu1.look s hss
              have HU1 := hide hu1
              have HG := hide hg1
              have HRG := hide hrg1
              clear hu hu1 hg1 hrg hrg1 hsl hB
              obtain ⟨w2, hst, hV2, hg2, hs2⟩ := HU1.out.put s hss (max (acc (kS s)) c) (by omega) (by have := HS.out.2 (kS s); omega) (HS.out.1 _ hpos)
              have hrr : r < w1.heap.size := HRG.out.lt
              have hbl2 : b < w.heap.size := hbl
              have hbu : w.heap.size + 1 ≤ bu := by
                obtain ⟨_, ⟨h1, _⟩ | ⟨b2, D2, h1, h2, _, _⟩⟩ := HU1.out
                · cases h1
                · cases h1; exact h2
              have hbr := hne bu rfl
              have RG2 : w2.ranges Ybad.prog 9 pU b r 3 D (fun z => left z && !z.sameKey (kS s)) cnt1 := HRG.out.kept hg2 (fun e => by have := Option.some.inj e; omega) (fun e => by cases e; exact hbr rfl)
              have SL2 : w2.heap[w.heap.size]? = some (.cells #[.map mv, .map mx] 63) := by
                have hlt2 := (Array.getElem?_eq_some_iff.1 hsl1).1
                rw [hg2.block _ hlt2 (fun e => by have := Option.some.inj e; omega)]; exact hsl1
              have BB2 : Below w.heap.size w w2 := hB1.grown hg2 hB1.size (fun j hj => by cases hj; omega)
              have RGH := hide RG2
              have SLH := hide SL2
              have BBH := hide BB2
              have NEH := hide hne
              clear RG2 SL2 BB2 hne
              have HV2 := hide hV2
              clear hV2 hg2 hs2
              go_wp2_with (first
                | (refine wpList_max _ rfl _ _ 22 rfl (acc (kS s)) c rfl rfl ?_)
                | go_in)
              have hVf : Vec w2 (w.heap.size + 1) (.map (some bu)) (mid (fun z => left z && !z.sameKey (kS s)) acc h) := by
                rw [mid_step, hhc]; exact HV2.out
              go_roundw
              case rel =>
                refine ⟨_, cnt1, some bu, rfl, RGH.out, hVf, NEH.out, SLH.out, BBH.out⟩
              case measure => rw [RGH.out.left_eq, HRL.out]; exact hlt1
    · obtain rfl : k = 2 := by omega
      have HU := hide hu
      clear hu hsl
      go_wp2
      go_ret
      exact ⟨_, rfl, HU.out.weaken (by omega), hB⟩
end Go.Proofs.YbulkahzaDoor

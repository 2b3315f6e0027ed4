/-
  The removal law, walked.
-/
import Derived.Test.YbulkaiaqRemove
import Derived.OpenShut
namespace Go.Proofs.Ybulkaiaq
open Go.RowKit
set_option linter.unusedVariables false

theorem countP_range_lt (n j : Nat) (p : Nat → Bool) (hj : j ≤ n) (h1 : ∀ i, i < j → p i = true) (h2 : ∀ i, j ≤ i → i < n → p i = false) : (List.range n).countP p = j := by
  induction n with
  | zero => have : j = 0 := by omega
            subst this; rfl
  | succ n ih =>
    rw [List.range_succ, List.countP_append]
    by_cases e : j = n + 1
    · subst e
      have : (List.range n).countP p = n := by
        rw [List.countP_eq_length.2 (fun a ha => h1 a (by have := List.mem_range.1 ha; omega)), List.length_range]
      rw [this]
      simp [h1 n (by omega)]
    · rw [ih (by omega) (fun i h3 h4 => h2 i h3 (by omega))]
      simp [h2 n (by omega) (by omega)]

theorem pos_mem {xs : List Int} (h : Rises xs) {j : Nat} (hj : j < xs.length) : pos xs (xs.getD j 0) = j :=
  countP_range_lt _ _ _ (by omega) (fun i hi => by simpa using h i j hi hj) (fun i h1 h2 => by
    have := h.le j i h1 h2
    simp only [decide_eq_false_iff_not]; omega)

theorem slice_from2 (g n cap l : Nat) (z : Int) (hz : z = l) (hl : l ≤ n) (hn : n ≤ cap) : ∃ ad : Addr, (l < cap → ad = ⟨g, l, none⟩) ∧
    ∀ W, (Instr.sliceAt 24 (.slice (some ⟨g, 0, none⟩) n cap) (some (.int .i64 z)) none none).run Yba.prog W = .ok (.slice (some ad) (n - l) (cap - l)) W := by
  obtain ⟨sa, h1, h2⟩ := slice_from g n cap l z hz hl hn
  by_cases h : l < cap
  · obtain rfl := h1 h
    exact ⟨_, fun _ => rfl, h2⟩
  · have e : cap = l := by omega
    subst hz
    refine ⟨⟨g, 0, none⟩, fun h' => absurd h' h, fun W => ?_⟩
    have hT := Yba.underlying24
    have he : Yba.prog.elem 24 = 26 := by simp [Program.elem, hT]
    rw [run_sliceAt_slice W 24 _ _ _ _ (by rw [he]; exact hT), run_slice_l W 24 (some ⟨g, 0, none⟩) n cap (by rw [he]; exact hT) .i64 (l : Int) (by omega) (by omega), he, Yba.sizeOf26]
    simp only [Result.andThen, sliced, Int.toNat_natCast, if_pos e]

theorem keys_at {w : World} {g cap : Nat} {ks : List Int} (h : Own w g cap ks) (ps : List Int) (o : Nat) (hp : ∀ q, q < ps.length → ps.getD q 0 = ks.getD (o + q) 0) (hl : o + ps.length ≤ ks.length) :
    ∀ i u, (ps.map I)[i]? = some u → w.cell? ⟨g, o + i, none⟩ = some u := by
  intro i u hu
  rw [List.getElem?_map, Option.map_eq_some_iff] at hu
  obtain ⟨z, hz, rfl⟩ := hu
  have hlt := (List.getElem?_eq_some_iff.1 hz).1
  rw [h.cell (by omega), ← hp i hlt, List.getD_eq_getElem?_getD, hz]
  rfl

set_option maxRecDepth 100000 in
theorem remove_long (a0 : Option Addr) (len cap : Nat) (s : Int) (w : World) (hl : 1024 < len) :
    Calls Yba.prog 3 #[.slice a0 len cap, .int .u64 s] w fun e w' => e = .returned (.bool true) ∧ Below w.heap.size w w' := by
  have hi : (1024 : Int) < (len : Int) := by omega
  go_enter Yba.func3, Yba.ntmps3
  go_wp2
  go_ret
  exact ⟨rfl, Below.refl _ _⟩

set_option maxHeartbeats 4000000 in
set_option maxRecDepth 100000 in
theorem remove_short (a0 : Option Addr) (len cap : Nat) (xs : Nat → Int) (bc off : Nat) (s : Nat) (hs64 : s < 18446744073709551616) (w : World) (hl : len ≤ 1024)
    (ha : 0 < len → a0 = some ⟨bc, off, none⟩) (hcell : ∀ i, i < len → w.cell? ⟨bc, off + i, none⟩ = some (.int .i64 (xs i))) :
    Calls Yba.prog 3 #[.slice a0 len cap, .int .u64 (s : Int)] w fun e w' => e = .returned (.bool true) ∧ Below w.heap.size w w' := by
  have hbld := hide (build_any a0 len cap xs bc off w hl ha hcell)
  have hli : ((1024 : Int) < (len : Int)) = False := by simp; omega
  clear ha hcell
  go_enter Yba.func3, Yba.ntmps3
  go_wp2_with fail
  refine hbld.out.mono ?_
  rintro e w1 ⟨g, c, ks, rfl, hks, hR, hg, hO, hB⟩
  by_cases h0 : ks.length = 0
  · rw [h0]
    go_wp2
    go_ret
    exact ⟨rfl, hB⟩
  · obtain ⟨m, hm⟩ : ∃ m, ks.length = m + 1 := ⟨ks.length - 1, by omega⟩
    obtain ⟨j, hj⟩ : ∃ j, j = s % (m + 1) := ⟨_, rfl⟩
    have hjm : j ≤ m := by have := Nat.mod_lt s (show 0 < m + 1 by omega); omega
    have hck : w1.cell? ⟨g, j, none⟩ = some (I (ks.getD j 0)) := hO.cell (by omega)
    rw [hm]
    have hmk : ∀ W, (Instr.makeSlice 24 (.int .i64 0) (.int .i64 ((m : Int) + 1))).run Yba.prog W = .ok (.slice (some ⟨W.heap.size, 0, none⟩) 0 (m + 1)) (W.alloc (.cells (madeCells #[I 0] (m + 1)) 26)) := fun W => by
      have := made24 (m + 1) (by omega) W
      rw [show ((m + 1 : Nat) : Int) = (m : Int) + 1 by omega] at this
      exact this
    obtain ⟨kk, hkk⟩ : ∃ kk, kk = ks.getD j 0 := ⟨_, rfl⟩
    rw [← hkk] at hck
    have HKK := hide hkk
    obtain ⟨i0, hi0, hz0, hz1, hz2⟩ := info26
    obtain ⟨ad, had, hsl2⟩ := slice_from2 g (m + 1) c (j + 1) ((j : Int) + 1) (by omega) (by omega) (by have := hO.le; omega)
    have HAD := hide had
    clear had hkk
    have hwn : IntKind.u64.wrap ((m : Int) + 1) = (m : Int) + 1 := by rw [IntKind.wrap_u64]; omega
    have hmod : (s : Int) % ((m : Int) + 1) = (j : Int) := by rw [hj, Int.natCast_emod]; rfl
    have hm1 : m ≤ 1023 := by omega
    have hjn : (j : Int) < (m : Int) + 1 := by omega
    have HJ := hide hj
    have HO := hide hO
    have HR := hide hR
    have HM := hide hm
    clear hO hR hm h0 hj
    have hown0 := World.ownsRow_made w1 (madeCells #[I 0] (m + 1)) (m + 1) (e := 26) (size := 1) (base := w1.heap.size) (Nat.le_refl _) (by unfold maxLen; omega) (by simp [size_madeCells])
    have hjc : (j : Int) ≤ (c : Int) := by have := HO.out.le; have := HM.out; omega
    obtain ⟨ps, hps⟩ : ∃ ps, ps = ks.take j := ⟨_, rfl⟩
    obtain ⟨qs, hqs⟩ : ∃ qs, qs = ks.drop (j + 1) := ⟨_, rfl⟩
    have HPS := hide hps
    have HQS := hide hqs
    have hpl : Hid (ps.length = j) := by show ps.length = j; rw [hps]; have := HM.out; simp; omega
    have hql : Hid (qs.length = m - j) := by show qs.length = m - j; rw [hqs]; have := HM.out; simp; omega
    clear hps hqs
    go_wp2_with (at_builtin; refine wpList_append_own _ rfl (.tmp 32) (.tmp 35) 24 rfl w1.heap.size 26 i0 (I 0) 1 8 Yba.underlying24 hi0 hz0 hz1 hz2 rfl (by decide) _ _ _ rfl hown0 ⟨g, 0, none⟩ j c (ps.map I) rfl ?a1 ?a2 ?a3 ?a4 ?a5 ?a6 ?_)
    case a1 => rw [List.length_map, hpl.out]; omega
    case a2 =>
      intro i u hu
      rw [addr_plain]
      exact keys_at (HO.out.alloc _) ps 0 (by rw [HPS.out]; intro q hq; rw [Nat.zero_add, List.getD_eq_getElem?_getD, List.getD_eq_getElem?_getD, List.getElem?_take, if_pos (by have := hpl.out; rw [← HPS.out] at hq; omega)]) (by have := hpl.out; have := HM.out; omega) i u hu
    case a3 => intro u hu; simp at hu; obtain ⟨z, _, rfl⟩ := hu; rfl
    case a4 => unfold maxLen; omega
    case a5 => omega
    case a6 => simp
    intro v1 w2 hown1 hgrow1 hnil1
    have hb2 : Below w1.heap.size w1 w2 := ((Below.refl _ _).alloc (Nat.le_refl _) _).grown hgrow1 (by simp) (fun k hk => (hown0.lt k hk).1)
    clear hgrow1 hown0
    go_wp2_with (at_builtin; refine wpList_append_own _ rfl (.tmp 37) (.tmp 41) 24 rfl w1.heap.size 26 i0 (I 0) 1 8 Yba.underlying24 hi0 hz0 hz1 hz2 rfl (by decide) _ _ _ rfl hown1 ad (m - j) (c - (j + 1)) (qs.map I) rfl ?a1 ?a2 ?a3 ?a4 ?a5 ?a6 ?_)
    case a1 => rw [List.length_map, hql.out]; omega
    case a2 =>
      intro i u hu
      have hlt : i < qs.length := by have := (List.getElem?_eq_some_iff.1 hu).1; simpa using this
      have hcap := HO.out.le
      have hql' := hql.out
      have hM := HM.out
      rw [HAD.out (by omega), addr_plain]
      exact keys_at (HO.out.below hb2) qs (j + 1) (by rw [HQS.out]; intro q hq; rw [List.getD_eq_getElem?_getD, List.getD_eq_getElem?_getD, List.getElem?_drop]) (by omega) i u hu
    case a3 => intro u hu; simp at hu; obtain ⟨z, _, rfl⟩ := hu; rfl
    case a4 => unfold maxLen; omega
    case a5 => omega
    case a6 => exact hb2.size
    intro v2 w3 hown2 hgrow2 hnil2
    have hb3 : Below w1.heap.size w1 w3 := hb2.grown hgrow2 hb2.size (fun k hk => (hown1.lt k hk).1)
    have hnil3 : v2 ≠ .slice none 0 0 := hnil2
    have hown3 : w3.ownsRow w1.heap.size 26 1 v2 m ((ps ++ qs).map I) := by rw [List.map_append]; exact hown2
    clear hgrow2 hown1 hown2 hnil1 hnil2
    obtain ⟨h, cw, rfl, hh, hW⟩ := own_of hown3 hnil3
    have hO3 := hide (HO.out.below hb3)
    have HW := hide hW
    have hwl : Hid ((ps ++ qs).length = m) := by show (ps ++ qs).length = m; have := hpl.out; have := hql.out; simp; omega
    clear hown3 hnil3 hW hsl2 hmk
    rw [hwl.out]
    go_wp2_with fail
    have hgl := HO.out.lt
    have hb3s := hb3.size
    have hNg : w3.heap.size ≠ g := by omega
    have hhl := HW.out.lt
    refine (remove_any w3.heap.size g c m j ks kk (w3.alloc (.cells #[.slice (some ⟨g, 0, none⟩) (m + 1) c] 28)) HM.out (by omega) (by rw [HKK.out]; exact pos_mem HR.out (by have := HM.out; omega)) hjm HR.out.le (hO3.out.alloc _) (heap_alloc_new w3 _) hNg).mono ?_
    rintro e w5 ⟨rfl, hA5, hO5, hK5⟩
    have hW5 : Own w5 h cw (ps ++ qs) := (HW.out.alloc _).of_block (hK5.block h (by simp; omega) (by omega) (by omega))
    have hB5 : Below w.heap.size w w5 := (hB.trans ((hb3.mono hB.size).alloc (by have := hB.size; omega) _)).trans (hK5.toBelow (by have := hB.size; omega) hg (by have := hB.size; simp; omega))
    rw [← HPS.out, ← HQS.out] at hO5
    have hc5 : w5.cell? ⟨w3.heap.size, 0, none⟩ = some (.slice (some ⟨g, 0, none⟩) m c) := hA5.cell
    have hlast : w5.cell? ⟨g, m, none⟩ = some (I 0) := by
      rw [hO5.cell (by have := hwl.out; simp at this ⊢; omega)]
      have e1 : (ps ++ qs ++ [0]).getD m 0 = 0 := by
        rw [List.getD_eq_getElem?_getD, List.getElem?_append_right (by rw [hwl.out]; omega), hwl.out, Nat.sub_self]; rfl
      rw [e1]
    have hsame : ∀ i, i < m → w5.cell? ⟨g, i, none⟩ = some (I ((ps ++ qs).getD i 0)) := fun i hi => by
      rw [hO5.cell (by have := hwl.out; simp at this ⊢; omega)]
      congr 2
      rw [List.getD_eq_getElem?_getD, List.getD_eq_getElem?_getD, List.getElem?_append_left (by rw [hwl.out]; exact hi)]
    have hwant : ∀ i, i < m → w5.cell? ⟨h, i, none⟩ = some (I ((ps ++ qs).getD i 0)) := fun i hi => hW5.cell (by rw [hwl.out]; exact hi)
    have HL := hide hlast
    have HSA := hide hsame
    have HWA := hide hwant
    have HB5 := hide hB5
    clear hlast hsame hwant hB5 hO5 hW5 hK5 hA5
    go_wp2
    go_loopw [11] (fun i wq => ∃ (q t : Nat), t ≤ m ∧ i = .int .i64 t ∧ wq = w5.drewN q) (fun i _ => m - (intOf i).toNat)
    case atStart => exact ⟨0, 0, Nat.zero_le _, rfl, rfl⟩
    case round =>
      obtain ⟨q, t, ht, rfl, rfl⟩ := hrel
      by_cases hlt : t < m
      · have ht1 : w5.cell? ⟨g, t, none⟩ = some (I ((ps ++ qs).getD t 0)) := HSA.out t hlt
        have ht2 : w5.cell? ⟨h, t, none⟩ = some (I ((ps ++ qs).getD t 0)) := HWA.out t hlt
        generalize (ps ++ qs).getD t 0 = z at ht1 ht2
        have hti : (t : Int) < (m : Int) := by omega
        go_wp2
        go_quiet (fail)
        go_wp2
        go_roundw
        case rel => exact ⟨q + nq, t + 1, by omega, by go_num, by simp⟩
        case measure => simp [intOf]; omega
      · have hge : (m : Int) ≤ (t : Int) := by omega
        have hlast : w5.cell? ⟨g, m, none⟩ = some (I 0) := HL.out
        go_wp2
        go_ret
        exact ⟨rfl, ⟨HB5.out.os, HB5.out.tape, HB5.out.output, HB5.out.size, HB5.out.block⟩⟩
end Go.Proofs.Ybulkaiaq

/-
  The law on inserting and removing, walked.
-/
import Derived.Test.YbulkaiaqInsert
import Derived.Test.YbulkaiaqLawR
import Derived.Shelf.SlicesG.Turned
namespace Go.Proofs.Ybulkaiaq
open Go.RowKit
set_option linter.unusedVariables false

theorem exists_cut (p : Nat → Bool) : ∀ n, (∀ a b, a ≤ b → b < n → p b = true → p a = true) → ∃ j, j ≤ n ∧ (∀ i, i < j → p i = true) ∧ ∀ i, j ≤ i → i < n → p i = false
  | 0, _ => ⟨0, Nat.le_refl _, fun i h => by omega, fun i _ h => by omega⟩
  | n + 1, hm => by
    obtain ⟨j, hj, h1, h2⟩ := exists_cut p n (fun a b hab hb => hm a b hab (by omega))
    by_cases e : j = n
    · subst e
      cases hp : p j
      · exact ⟨j, by omega, h1, fun i h3 h4 => by
          have : i = j := by omega
          subst this; exact hp⟩
      · exact ⟨j + 1, by omega, fun i h3 => by
          rcases Nat.lt_or_ge i j with h | h
          · exact h1 i h
          · have : i = j := by omega
            subst this; exact hp, fun i h3 h4 => by omega⟩
    · refine ⟨j, by omega, h1, fun i h3 h4 => ?_⟩
      rcases Nat.lt_or_ge i n with h | h
      · exact h2 i h3 h
      · have : i = n := by omega
        subst this
        cases hp : p i
        · rfl
        · have := hm j i (by omega) (by omega) hp
          rw [h2 j (Nat.le_refl _) (by omega)] at this
          exact absurd this (by simp)

theorem pos_cut {xs : List Int} (h : Rises xs) (k : Int) : pos xs k ≤ xs.length ∧ (∀ a, a < pos xs k → xs.getD a 0 < k) ∧ ∀ a, pos xs k ≤ a → a < xs.length → k ≤ xs.getD a 0 := by
  obtain ⟨j, hj, h1, h2⟩ := exists_cut (fun i => decide (xs.getD i 0 < k)) xs.length (fun a b hab hb hp => by
    have := h.le a b hab hb
    simp only [decide_eq_true_eq] at hp ⊢
    omega)
  have e : pos xs k = j := countP_range_lt _ _ _ hj h1 h2
  rw [e]
  exact ⟨hj, fun a ha => by simpa using h1 a ha, fun a h3 h4 => by have := h2 a h3 h4; simp only [decide_eq_false_iff_not] at this; omega⟩

theorem ins_get {xs : List Int} {i : Nat} {k : Int} (hi : i ≤ xs.length) (a : Nat) : (xs.take i ++ k :: xs.drop i).getD a 0 = if a < i then xs.getD a 0 else if a = i then k else xs.getD (a - 1) 0 := by
  have hl : (xs.take i).length = i := by simp; omega
  rw [List.getD_eq_getElem?_getD]
  by_cases h1 : a < i
  · rw [if_pos h1, List.getElem?_append_left (by omega), List.getElem?_take, if_pos h1, List.getD_eq_getElem?_getD]
  · rw [if_neg h1, List.getElem?_append_right (by omega), hl]
    by_cases h2 : a = i
    · subst h2; rw [if_pos rfl, Nat.sub_self]; rfl
    · rw [if_neg h2, show a - i = (a - i - 1) + 1 by omega, List.getElem?_cons_succ, List.getElem?_drop, show i + (a - i - 1) = a - 1 by omega, List.getD_eq_getElem?_getD]

theorem ins_rises {xs : List Int} (h : Rises xs) {k : Int} (hk : k ∉ xs) : Rises (xs.take (pos xs k) ++ k :: xs.drop (pos xs k)) := by
  obtain ⟨hp, h1, h2⟩ := pos_cut h k
  generalize pos xs k = i at hp h1 h2
  have hlen : (xs.take i ++ k :: xs.drop i).length = xs.length + 1 := by simp; omega
  have hne : ∀ a, a < xs.length → xs.getD a 0 ≠ k := fun a ha e => hk (by
    rw [← e, List.getD_eq_getElem?_getD, List.getElem?_eq_getElem ha]; exact List.getElem_mem ha)
  intro a b hab hb
  rw [hlen] at hb
  rw [ins_get hp, ins_get hp]
  by_cases a1 : a < i
  · rw [if_pos a1]
    by_cases b1 : b < i
    · rw [if_pos b1]; exact h a b hab (by omega)
    · rw [if_neg b1]
      by_cases b2 : b = i
      · rw [if_pos b2]; exact h1 a a1
      · rw [if_neg b2]; exact h a (b - 1) (by omega) (by omega)
  · rw [if_neg a1, if_neg (show ¬ b < i by omega), if_neg (show ¬ b = i by omega)]
    by_cases a2 : a = i
    · rw [if_pos a2]
      have u := h2 (b - 1) (by omega) (by omega)
      have v := hne (b - 1) (by omega)
      omega
    · rw [if_neg a2]; exact h (a - 1) (b - 1) (by omega) (by omega)

theorem ins_pos {xs : List Int} (h : Rises xs) {k : Int} (hk : k ∉ xs) : pos (xs.take (pos xs k) ++ k :: xs.drop (pos xs k)) k = pos xs k := by
  have hr := ins_rises h hk
  have hp := (pos_cut h k).1
  have hlt : pos xs k < (xs.take (pos xs k) ++ k :: xs.drop (pos xs k)).length := by simp; omega
  have hg : (xs.take (pos xs k) ++ k :: xs.drop (pos xs k)).getD (pos xs k) 0 = k := by
    rw [ins_get hp, if_neg (by omega), if_pos rfl]
  have := pos_mem hr hlt
  rw [hg] at this
  exact this

theorem ins_rem {xs : List Int} {i : Nat} {k : Int} (hi : i ≤ xs.length) : (xs.take i ++ k :: xs.drop i).take i ++ (xs.take i ++ k :: xs.drop i).drop (i + 1) = xs := by
  have hl : (xs.take i).length = i := by simp; omega
  rw [List.take_left' hl, List.drop_append, hl, List.drop_of_length_le (by omega), show i + 1 - i = 1 by omega, List.nil_append, List.drop_succ_cons, List.drop_zero]
  exact List.take_append_drop i xs
set_option maxRecDepth 100000 in
theorem ins_long (a0 : Option Addr) (len cap : Nat) (x : Int) (w : World) (hl : 1024 < len) :
    Calls Yba.prog 4 #[.slice a0 len cap, .int .i64 x] w fun e w' => e = .returned (.bool true) ∧ Below w.heap.size w w' := by
  have hi : (1024 : Int) < (len : Int) := by omega
  go_enter Yba.func4, Yba.ntmps4
  go_wp2
  go_ret
  exact ⟨rfl, Below.refl _ _⟩

theorem contains7 (g c : Nat) (ks : List Int) (x : Int) (w : World) (hO : Own w g c ks) (hl : ks.length ≤ 1024) :
    Calls Yba.prog 7 #[.slice (some ⟨g, 0, none⟩) ks.length c, I x] w fun e w' => e = .returned (.bool (ks.contains x)) ∧ w' = w := by
  have := AnyG.slices_Contains_int Yba.lcontains g 0 ks.length c ks x w (Nat.le_refl _) (by omega) (fun j hj => by rw [Nat.zero_add]; exact hO.cell hj)
  rw [List.take_length] at this
  exact this

theorem clone8 (g c : Nat) (ks : List Int) (w : World) (hO : Own w g c ks) (hl : ks.length ≤ 1024) :
    Calls Yba.prog 8 #[.slice (some ⟨g, 0, none⟩) ks.length c] w fun e w' => ∃ h cw, e = .returned (.slice (some ⟨h, 0, none⟩) ks.length cw) ∧ w.heap.size ≤ h ∧ Own w' h cw ks ∧ Below w.heap.size w w' := by
  have := AnyG.slices_Clone_int Yba.lclone g 0 ks.length c ks w (Nat.le_refl _) (by omega) (fun j hj => by rw [Nat.zero_add]; exact hO.cell hj)
  refine Calls.mono this ?_
  rintro e w' ⟨v', rfl, hown, hv, hb⟩
  rw [List.take_length] at hown
  obtain ⟨h, cw, rfl, hh, hW⟩ := own_of hown hv
  exact ⟨h, cw, rfl, hh, hW, hb⟩

set_option maxHeartbeats 4000000 in
set_option maxRecDepth 100000 in
theorem ins_short (a0 : Option Addr) (len cap : Nat) (xs : Nat → Int) (bc off : Nat) (x : Int) (w : World) (hl : len ≤ 1024)
    (ha : 0 < len → a0 = some ⟨bc, off, none⟩) (hcell : ∀ i, i < len → w.cell? ⟨bc, off + i, none⟩ = some (.int .i64 (xs i))) :
    Calls Yba.prog 4 #[.slice a0 len cap, .int .i64 x] w fun e w' => e = .returned (.bool true) ∧ Below w.heap.size w w' := by
  have hbld := hide (build_any a0 len cap xs bc off w hl ha hcell)
  have hli : ((1024 : Int) < (len : Int)) = False := by simp; omega
  clear ha hcell
  go_enter Yba.func4, Yba.ntmps4
  go_wp2_with fail
  refine hbld.out.mono ?_
  rintro e w1 ⟨g, c, ks, rfl, hks, hR, hg, hO, hB⟩
  have hcon := contains7 g c ks x w1 hO (by omega)
  by_cases hk : ks.contains x = true
  · rw [hk] at hcon
    have HC := hide hcon
    clear hcon hk hO hR
    go_wp2_with fail
    refine HC.out.mono ?_
    rintro e w2 ⟨rfl, rfl⟩
    go_wp2
    go_ret
    exact ⟨rfl, hB⟩
  · have hkf : ks.contains x = false := by simpa using hk
    have hnm : x ∉ ks := by simpa using hkf
    rw [hkf] at hcon
    have HC := hide hcon
    have hcl := hide (clone8 g c ks w1 hO (by omega))
    obtain ⟨n, hn⟩ : ∃ n, ks.length = n := ⟨_, rfl⟩
    have HO := hide hO
    have HR := hide hR
    have hn1 : n ≤ 1024 := by omega
    have HN := hide hn
    have HX := hide hnm
    rw [hn] at HC hcl ⊢
    clear hcon hk hkf hnm hO hR hn
    go_wp2_with fail
    refine HC.out.mono ?_
    rintro e w2 ⟨rfl, rfl⟩
    go_wp2_with fail
    refine hcl.out.mono ?_
    rintro e w2 ⟨h, cw, rfl, hh, hW, hb2⟩
    have HW := hide hW
    have hO2 := hide (HO.out.below hb2)
    have hgl := HO.out.lt
    have hhl := HW.out.lt
    have hb2s := hb2.size
    clear hW HC hcl
    go_wp2_with fail
    have hNg : w2.heap.size ≠ g := by omega
    obtain ⟨hp, _, _⟩ := pos_cut HR.out x
    refine (insert_any w2.heap.size g c n (pos ks x) ks x (w2.alloc (.cells #[.slice (some ⟨g, 0, none⟩) n c] 28)) HN.out (by omega) rfl (by have := HN.out; omega) HR.out.le (hO2.out.alloc _) (heap_alloc_new w2 _) hNg).mono ?_
    rintro e w3 ⟨rfl, g', c', hA3, hO3, hgg, hNg', hK3⟩
    have hgg2 : g' ≠ h := by rw [World.size_alloc] at hgg; omega
    have hgl' : w.heap.size ≤ g' := by have := hB.size; rw [World.size_alloc] at hgg; omega
    have hW3 : Own w3 h cw ks := (HW.out.alloc _).of_block (hK3.block h (by simp; omega) (by omega) (by omega))
    have hB3 : Below w.heap.size w w3 := (hB.trans ((hb2.mono hB.size).alloc (by have := hB.size; omega) _)).trans (hK3.toBelow (by have := hB.size; omega) hg (by have := hB.size; simp; omega))
    have HA3 := hide hA3
    have HO3 := hide hO3
    have HW3 := hide hW3
    have HB3 := hide hB3
    have hlen3 : Hid ((ks.take (pos ks x) ++ x :: ks.drop (pos ks x)).length = n + 1) := by
      show (ks.take (pos ks x) ++ x :: ks.drop (pos ks x)).length = n + 1
      have := HN.out; simp; omega
    clear hA3 hO3 hK3 hW3 hB3
    go_wp2_with fail
    refine (remove_any w2.heap.size g' c' n (pos ks x) (ks.take (pos ks x) ++ x :: ks.drop (pos ks x)) x w3 hlen3.out (by omega) (ins_pos HR.out HX.out) (by have := HN.out; omega) (ins_rises HR.out HX.out).le HO3.out HA3.out hNg').mono ?_
    rintro e w5 ⟨rfl, hA5, hO5, hK5⟩
    rw [ins_rem hp] at hO5
    have hs3 := HA3.out.lt
    have hW5 : Own w5 h cw ks := HW3.out.of_block (hK5.block h HW3.out.lt (by omega) (Ne.symm hgg2))
    have hB5 : Below w.heap.size w w5 := HB3.out.trans (hK5.toBelow (by have := hB.size; omega) hgl' HB3.out.size)
    have hc5 : w5.cell? ⟨w2.heap.size, 0, none⟩ = some (.slice (some ⟨g', 0, none⟩) n c') := hA5.cell
    have hsame : ∀ i, i < n → w5.cell? ⟨g', i, none⟩ = some (I (ks.getD i 0)) := fun i hi => by
      rw [hO5.cell (by have := HN.out; simp; omega)]
      congr 2
      rw [List.getD_eq_getElem?_getD, List.getD_eq_getElem?_getD, List.getElem?_append_left (by rw [HN.out]; exact hi)]
    have hwant : ∀ i, i < n → w5.cell? ⟨h, i, none⟩ = some (I (ks.getD i 0)) := fun i hi => hW5.cell (by rw [HN.out]; exact hi)
    have HSA := hide hsame
    have HWA := hide hwant
    have HB5 := hide hB5
    clear hsame hwant hB5 hO5 hW5 hK5 hA5
    go_wp2
    go_loopw [9] (fun i wq => ∃ (q t : Nat), t ≤ n ∧ i = .int .i64 t ∧ wq = w5.drewN q) (fun i _ => n - (intOf i).toNat)
    case atStart => exact ⟨0, 0, Nat.zero_le _, rfl, rfl⟩
    case round =>
      obtain ⟨q, t, ht, rfl, rfl⟩ := hrel
      by_cases hlt : t < n
      · have ht1 : w5.cell? ⟨g', t, none⟩ = some (I (ks.getD t 0)) := HSA.out t hlt
        have ht2 : w5.cell? ⟨h, t, none⟩ = some (I (ks.getD t 0)) := HWA.out t hlt
        generalize ks.getD t 0 = z at ht1 ht2
        have hti : (t : Int) < (n : Int) := by omega
        go_wp2
        go_quiet (fail)
        go_wp2
        go_roundw
        case rel => exact ⟨q + nq, t + 1, by omega, by go_num, by simp⟩
        case measure => simp [intOf]; omega
      · have hge : (n : Int) ≤ (t : Int) := by omega
        go_wp2
        go_ret
        exact ⟨rfl, ⟨HB5.out.os, HB5.out.tape, HB5.out.output, HB5.out.size, HB5.out.block⟩⟩

end Go.Proofs.Ybulkaiaq

/-
  The walk of 'slices.DeleteFunc' at the tombstones, with that closure.
-/
import Derived.Test.YbulkahzaDoorDel
namespace Go.Proofs.YbulkahzaDoor
open Go.RowKit Go.Maps
set_option linter.unusedVariables false
attribute [local go_sem ↓ high] lv89 sv89

/-- What DeleteFunc leaves. -/
def DelPost (I : Its) (p : Pl) (et fo : Nat) (tv : Value) (d : Nat → Bool) (na : Nat) (xs : Nat → Nat) (aR : Option Addr) (B o len capR : Nat) (T : Nat → Nat) (w : World) (x : Ending) (w' : World) : Prop :=
  x = .returned (.slice aR (kp I na xs T len).length capR) ∧ St w' I p et fo tv (dd I na xs T d len) ∧ Frm w w' (fun b => b = p.S ∨ b = p.F ∨ b = B) ∧
  ∀ r (h : r < (kp I na xs T len).length), w'.rangeAt B (o + r * 23) (I.tb (kp I na xs T len)[r]).toList

theorem Abv.below {w w' : World} {p : Pl} {bA bS g na cap : Nat} {a0 : Option Addr} {xs : Nat → Nat} (h : Abv w p bA bS a0 g na cap xs) (hb : Below w.heap.size w w') : Abv w' p bA bS a0 g na cap xs := by
  have kb : ∀ {b : Nat} {cs : Array Value} {t : TypeId} {fr : Nat × Nat}, w.heap[b]? = some (.cells cs t fr) → w'.heap[b]? = some (.cells cs t fr) := fun {b} {cs} {t} {fr} hc => by
    rw [hb.block b (Array.getElem?_eq_some_iff.1 hc).1]; exact hc
  refine ⟨kb h.cA, kb h.cS, h.len, fun h0 => ?_, fun i hi => ?_, h.up, h.nA, h.nS⟩
  · obtain ⟨e1, cs, t, fr, hg, hne⟩ := h.at0 h0
    exact ⟨e1, cs, t, fr, kb hg, hne⟩
  · obtain ⟨e1, cs, t, fr, hg, hne⟩ := h.at0 (by omega)
    rw [World.cell?_of_block ((kb hg).trans hg.symm)]
    exact h.row i hi

theorem Abv.off {w w' : World} {p : Pl} {bA bS g na cap : Nat} {a0 : Option Addr} {xs : Nat → Nat} {may : Nat → Prop} (h : Abv w p bA bS a0 g na cap xs) (hf : Frm w w' may) (h1 : ¬ may bA) (h2 : ¬ may bS) (h3 : ¬ may g) : Abv w' p bA bS a0 g na cap xs := by
  have kb : ∀ {b : Nat} {cs : Array Value} {t : TypeId} {fr : Nat × Nat}, w.heap[b]? = some (.cells cs t fr) → ¬ may b → w'.heap[b]? = some (.cells cs t fr) := fun {b} {cs} {t} {fr} hc hn => by
    rw [hf.block b (Array.getElem?_eq_some_iff.1 hc).1 hn]; exact hc
  refine ⟨kb h.cA h1, kb h.cS h2, h.len, fun h0 => ?_, fun i hi => ?_, h.up, h.nA, h.nS⟩
  · obtain ⟨e1, cs, t, fr, hg, hne⟩ := h.at0 h0
    exact ⟨e1, cs, t, fr, kb hg h3, hne⟩
  · obtain ⟨e1, cs, t, fr, hg, hne⟩ := h.at0 (by omega)
    rw [World.cell?_of_block ((kb hg h3).trans hg.symm)]
    exact h.row i hi

theorem frm_row (w : World) (B o : Nat) (vs : List Value) : Frm w (w.setCells B o vs) (fun b => b = B) := Frm.setCells (may := fun b => b = B) (fun _ => rfl) vs o w (Frm.refl _ _)

set_option maxHeartbeats 4000000 in
set_option maxRecDepth 100000 in
theorem del_any {I : Its} (hI : I.Ok) {p : Pl} {et fo : Nat} {tv : Value} {d : Nat → Bool} {w : World} (h : St w I p et fo tv d) {bA bS g na cap : Nat} {a0 : Option Addr} {xs : Nat → Nat} (hab : Abv w p bA bS a0 g na cap xs)
    (aR : Option Addr) (B o len capR : Nat) (T : Nat → Nat) (hlen : len ≤ 1024) (hcap : len ≤ capR) (hR : 0 < len → aR = some ⟨B, o, none⟩) (hM : Mid3 w I p B o len 0 [] T) (hTN : ∀ q, q < len → T q < I.N)
    (hnb : bA ≠ B ∧ bS ≠ B ∧ g ≠ B) :
    Calls Ybad.prog 14 #[.slice aR len capR, .func (.func 15) #[] #[.pointer (some ⟨bA, 0, none⟩), .pointer (some ⟨bS, 0, none⟩)]] w (DelPost I p et fo tv d na xs aR B o len capR T w) := by
  have H := hide h
  have HAB := hide hab
  have HM := hide hM
  have HTN := hide hTN
  clear h hab hM hTN
  go_enter Ybad.func14, Ybad.ntmps14
  go_wp2_with fail
  refine (idx_any hI H.out HAB.out aR B o len capR T hlen hR ⟨HM.out.ne, HM.out.blk, fun q hq => HM.out.back q (Nat.zero_le _) hq⟩ HTN.out).mono ?_
  rintro x w1 ⟨hf1, ⟨rfl, hs1, hno⟩ | ⟨i, hi, rfl, hno, hup, hs1⟩⟩
  · have HS1 := hide hs1
    have HF1 := hide hf1
    have HNO := hide hno
    clear hs1 hf1 hno
    go_wp2
    go_ret
    have e1 := kp_all I na xs T len HNO.out
    have e2 := dd_none I na xs T d len HNO.out
    have hM1 := HM.out.frm H.out HF1.out
    refine ⟨?_, ?_, HF1.out.mono (fun j _ h => h.elim .inl (fun h => .inr (.inl h))), fun r hr => ?_⟩
    · rw [e1]; simp
    · rw [e2]; exact HS1.out
    · have hr' : r < len := by rw [e1] at hr; simpa using hr
      have e3 : (kp I na xs T len)[r] = T r := by simp only [e1]; simp
      rw [e3]
      exact hM1.back r (Nat.zero_le _) hr'
  · obtain rfl := hR (by omega)
    have hli : lst na xs (I.e (T i)) = true := (lst_iff _ _ _).2 hup
    have ek : kp I na xs T (i + 1) = (List.range i).map T := by
      show (if lst na xs (I.e (T i)) = true then _ else _) = _
      rw [if_pos hli]; exact kp_all I na xs T i hno
    have ed : dd I na xs T d (i + 1) = (if (!d (T i) && I.fe (T i) == I.e (T i)) then add d (T i) else d) := by
      show (if (lst na xs (I.e (T i)) && _) = true then _ else _) = _
      rw [dd_none I na xs T d i hno, hli]
      rfl
    rw [← ed] at hs1
    have hM1 : Mid3 w1 I p B o len (i + 1) (kp I na xs T (i + 1)) T := by
      have := HM.out.frm H.out hf1
      refine ⟨this.ne, this.blk, this.there, fun r hr => ?_, fun q _ h2 => this.back q (Nat.zero_le _) h2⟩
      have hr' : r < i := by rw [ek] at hr; simpa using hr
      have e3 : (kp I na xs T (i + 1))[r] = T r := by simp only [ek]; simp
      rw [e3]
      exact this.back r (Nat.zero_le _) (by omega)
    have HS1 := hide hs1
    have HF1 := hide (hf1.mono (may' := fun b => b = p.S ∨ b = p.F ∨ b = B) (fun j _ h => h.elim .inl (fun h => .inr (.inl h))))
    have HAB1 := hide (HAB.out.frm H.out hf1)
    have HM1 := hide hM1
    have hkl : (kp I na xs T (i + 1)).length = i := by rw [ek]; simp
    have HKL := hide hkl
    have hii : (i : Int) < (len : Int) := by omega
    have hib : ((i : Int) == -1) = false := beq_eq_false_iff_ne.2 (by omega)
    clear hs1 hf1 hM1 hno hup hli ek ed hkl HM HAB
    go_wp2
    go_loopw [5, 6] (fun a j wr => ∃ m : Nat, i + 1 ≤ m ∧ m ≤ len ∧ j = .int .i64 m ∧ a = .int .i64 ((kp I na xs T m).length : Nat) ∧ (kp I na xs T m).length < m ∧ St wr I p et fo tv (dd I na xs T d m) ∧ Abv wr p bA bS a0 g na cap xs ∧ Mid3 wr I p B o len m (kp I na xs T m) T ∧ Frm w wr (fun b => b = p.S ∨ b = p.F ∨ b = B)) (fun _ j _ => len - (intOf j).toNat)
    case atStart => exact ⟨i + 1, Nat.le_refl _, by omega, by go_num, by rw [HKL.out], by rw [HKL.out]; omega, HS1.out, HAB1.out, HM1.out, HF1.out⟩
    case round =>
      obtain ⟨m, h1, h2, rfl, rfl, h3, hst, hab, hm, hfr⟩ := hrel
      have HST := hide hst
      have HABr := hide hab
      have HMr := hide hm
      have HFR := hide hfr
      clear hst hab hm hfr HS1 HF1 HAB1 HM1 HKL
      by_cases hlt : m < len
      · have hmi : (m : Int) < (len : Int) := by omega
        have hld := load89_at (HMr.out.back m (Nat.le_refl _) hlt)
        have hsn := storeTomb wr (I.nm (T m)) (I.e (T m)) (I.A (T m))
        have hl2 := load89_at (w := wr.alloc (.cells (I.tb (T m)) 89)) (b := wr.heap.size) (o := 0) (range_block (t := 89) (MapKept.heap_alloc wr _).1)
        generalize hK : kp I na xs T m = ks at h3
        have HK := hide hK
        clear hK
        have hBw : Below wr.heap.size wr (wr.alloc (.cells (I.tb (T m)) 89)) := (Below.refl _ _).alloc (Nat.le_refl _) _
        have hab2 := hide (HABr.out.below hBw)
        have hst2 := hide (HST.out.below hBw)
        have hmB := hide (HMr.out.of_block (hBw.block B (by obtain ⟨cs, t, fr, hc⟩ := HMr.out.blk; exact (Array.getElem?_eq_some_iff.1 hc).1)))
        have HBW := hide hBw
        clear hBw
        go_wp2_with fail
        refine (clos_step hI hst2.out hab2.out (HTN.out m hlt)).mono ?_
        rintro x w2 ⟨f, rfl, hf, hst3, hfr3⟩
        have hfl : f = lst na xs (I.e (T m)) := by
          cases f
          · cases hh : lst na xs (I.e (T m))
            · rfl
            · exact absurd (hf.2 ((lst_iff _ _ _).1 hh)) (by simp)
          · exact ((lst_iff _ _ _).2 (hf.1 rfl)).symm
        have hdd : dd I na xs T d (m + 1) = (if (f && (!(dd I na xs T d m) (T m) && I.fe (T m) == I.e (T m))) = true then add (dd I na xs T d m) (T m) else dd I na xs T d m) := by rw [hfl]; rfl
        rw [← hdd] at hst3
        have hm2 := hmB.out.frm hst2.out hfr3
        have hab3 := hab2.out.frm hst2.out hfr3
        have hT2 : w2.heap[wr.heap.size]? = some (.cells (I.tb (T m)) 89 (0, 0)) := by
          have h0 : (wr.alloc (.cells (I.tb (T m)) 89)).heap[wr.heap.size]? = some (.cells (I.tb (T m)) 89 (0, 0)) := (MapKept.heap_alloc wr _).1
          rw [hfr3.block wr.heap.size (by simp) (fun e => e.elim (fun e => by
            obtain ⟨⟨mf, hS, _⟩, _⟩ := HST.out
            have := hS.lt; omega) (cells_ne_F hst2.out h0))]
          exact h0
        have hfrm : Frm w w2 (fun b => b = p.S ∨ b = p.F ∨ b = B) := (HFR.out.trans (Frm.of_below (may := fun _ => False) HBW.out) (fun _ _ h => h.elim)).trans hfr3 (fun j _ h => h.elim .inl (fun h => .inr (.inl h)))
        have hl3 := load89_at (w := w2) (b := wr.heap.size) (o := 0) (range_block hT2)
        have H3 := hide hst3
        have HM2 := hide hm2
        have HAB3 := hide hab3
        have HF3 := hide hfrm
        have HFL := hide hfl
        clear hst3 hm2 hab3 hfrm hfl hf hfr3 hdd hT2
        cases f with
        | true =>
          go_wp2
          go_roundw
          case rel =>
            have ek : kp I na xs T (m + 1) = ks := by
              show (if lst na xs (I.e (T m)) = true then _ else _) = _
              rw [if_pos HFL.out.symm]; exact HK.out
            refine ⟨m + 1, by omega, by omega, by go_num, by rw [ek], by rw [ek]; omega, H3.out, HAB3.out, ?_, HF3.out⟩
            rw [ek]
            have := HM2.out.pass
            rw [HK.out] at this
            exact this
          case measure => simp [intOf]; omega
        | false =>
          have hput := HM2.out
          rw [HK.out] at hput
          obtain ⟨hst4, hm4⟩ := hput.put (by omega) hlt (T m)
          have HM4 := hide hm4
          clear hput hm4
          have hki : (ks.length : Int) < (len : Int) := by omega
          go_wp2
          go_roundw
          case rel =>
            have ek : kp I na xs T (m + 1) = ks ++ [T m] := by
              show (if lst na xs (I.e (T m)) = true then _ else _) = _
              rw [if_neg (by rw [← HFL.out]; simp), HK.out]
            have hrow := frm_row w2 B (o + ks.length * 23) (I.tb (T m)).toList
            refine ⟨m + 1, by omega, by omega, by go_num, by rw [ek]; simp, by rw [ek]; simp; omega, H3.out.frm hrow (fun b hb _ => by subst hb; exact ⟨HM2.out.ne, HM2.out.blk⟩), HAB3.out.off hrow hnb.1 hnb.2.1 hnb.2.2, ?_, HF3.out.trans hrow (fun _ _ h => .inr (.inr h))⟩
            rw [ek]; exact HM4.out
          case measure => simp [intOf]; omega
      · obtain rfl : m = len := by omega
        generalize hK : kp I na xs T m = ks at h3
        have HK := hide hK
        clear hK
        have hth : wr.there B (o + ks.length * 23) ((m - ks.length) * 23) := fun q hq => by
          have := HMr.out.there (ks.length * 23 + q) (by omega)
          rw [← Nat.add_assoc] at this
          exact this
        have hcl := clear61 wr B (o + ks.length * 23) (m - ks.length) (capR - ks.length) (by omega) hth 0
        have hki : (ks.length : Int) < (m : Int) := by omega
        have hkc : (ks.length : Int) < (capR : Int) := by omega
        have HTH := hide hth
        clear hth
        go_wp2
        go_ret
        have hrow := frm_row wr B (o + ks.length * 23) (Builtin.zeroCells zTomb (m - ks.length)).toList
        refine ⟨?_, HST.out.frm hrow (fun b hb _ => by subst hb; exact ⟨HMr.out.ne, HMr.out.blk⟩), HFR.out.trans hrow (fun _ _ h => .inr (.inr h)), fun r hr => ?_⟩
        · rw [HK.out]; rfl
        · have hr2 : r < ks.length := by rw [HK.out] at hr; exact hr
          exact World.rangeAt_setCells_apart (HMr.out.front r hr) _ _ _ (.inr (.inl (by show o + r * 23 + 23 ≤ _; omega)))
end Go.Proofs.YbulkahzaDoor

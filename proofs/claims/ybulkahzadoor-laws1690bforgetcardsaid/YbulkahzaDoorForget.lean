/-
  The walk of 'forget'.
-/
import Derived.Test.YbulkahzaDoorForgS
import Derived.Deep.RegionLaw
import Derived.Deep.CutBlock
import Derived.Deep.CutRange
namespace Go.Proofs.YbulkahzaDoor
open Go.RowKit Go.Maps
set_option linter.unusedVariables false
attribute [local go_sem ↓ high] lv89 sv89 lv93 sv93 ap61 run_max

/-- The list 'above' as it comes in. -/
structure Ab0 (w : World) (p : Pl) (B : Nat) (aA : Option Addr) (gA na : Nat) (xs : Nat → Nat) : Prop where
  len : na ≤ 1024
  at0 : 0 < na → aA = some ⟨gA, 0, none⟩ ∧ (∃ cs t fr, w.heap[gA]? = some (.cells cs t fr)) ∧ gA ≠ p.S ∧ gA ≠ B
  row : ∀ i, i < na → w.cell? ⟨gA, i, none⟩ = some (.int .u64 (xs i : Int))
  up : ∀ i j, i < j → j < na → xs i < xs j

/-- What 'forget' leaves. -/
def ForgPost (I : Its) (p : Pl) (et fo : Nat) (cf : Nat → Bool) (B th na : Nat) (xs : Nat → Nat) (w : World) (x : Ending) (w' : World) : Prop :=
  x = .returned (.tuple #[]) ∧ ∃ n tv, n ≤ I.N ∧ (∀ q, q < n → I.e q ≤ th) ∧ (n < I.N → th < I.e n) ∧
    w'.ownsRow w.heap.size 89 23 tv (kl I cf n ++ kp I na xs (fun q => n + q) (I.N - n)).length (flat I (kl I cf n ++ kp I na xs (fun q => n + q) (I.N - n))) ∧
    St w' I p (max et th) (max fo th) tv (dd I na xs (fun q => n + q) (dk I cf n) (I.N - n)) ∧ Frm w w' (fun b => b = p.S ∨ b = p.F ∨ (0 < I.N ∧ b = B))

/-- Behind the call of DeleteFunc, made or not. -/
structure R15 (w wx : World) (I : Its) (p : Pl) (et fo : Nat) (cf : Nat → Bool) (tv : Value) (B na : Nat) (xs : Nat → Nat) (k : Nat) (kv : Value) (aR : Option Addr) (capR : Nat) (rv : Value) : Prop where
  eq : rv = .slice aR (kp I na xs (fun q => k + q) (I.N - k)).length capR
  st : St wx I p et fo tv (dd I na xs (fun q => k + q) (dk I cf k) (I.N - k))
  bS : wx.heap[w.heap.size]? = some (.cells #[.pointer (some ⟨p.S, 0, none⟩)] 29 (0, 0))
  own : wx.ownsRow (w.heap.size + 2) 89 23 kv (kl I cf k).length (flat I (kl I cf k))
  rows : ∀ r (h : r < (kp I na xs (fun q => k + q) (I.N - k)).length), wx.rangeAt B (k * 23 + r * 23) (I.tb (kp I na xs (fun q => k + q) (I.N - k))[r]).toList
  frm : Frm w wx (fun b => b = p.S ∨ b = p.F ∨ (0 < I.N ∧ b = B))
  big : w.heap.size + 2 ≤ wx.heap.size

/-- A store into the store's own block. -/
theorem St.setS {w : World} {I : Its} {p : Pl} {et fo et' fo' : Nat} {tv tv' : Value} {d : Nat → Bool} (h : St w I p et fo tv d) (j : Nat) (v : Value) (hS' : ∀ mf, StoreAt w p.S et fo p.F p.C tv (.map mf) → StoreAt (w.setCell ⟨p.S, j, none⟩ v) p.S et' fo' p.F p.C tv' (.map mf)) : St (w.setCell ⟨p.S, j, none⟩ v) I p et' fo' tv' d := by
  have hSF := h.SF
  obtain ⟨⟨mf, hS, hV⟩, ⟨g, hF, hg⟩, hA, hap⟩ := h
  have keep : ∀ {x : Value} {f : Lit → Nat}, Vec w 0 x f → Vec (w.setCell ⟨p.S, j, none⟩ v) 0 x f := by
    rintro x f ⟨hs, h0 | ⟨b, D, rfl, hb, ho, hd⟩⟩
    · exact ⟨hs, .inl h0⟩
    · refine ⟨hs, .inr ⟨b, D, rfl, hb, ?_, hd⟩⟩
      obtain ⟨es, clock, hbk, r⟩ := ho
      refine ⟨es, clock, (Below.heap_setCell _ _ _ _ fun e => ?_).trans hbk, r⟩
      unfold StoreAt at hS
      have e : b = p.S := e
      rw [e, hS] at hbk; cases hbk
  exact ⟨⟨mf, hS' mf hS, keep hV⟩, ⟨g, hF.of_block (Below.heap_setCell _ _ _ _ (fun e => hSF e.symm)), hg⟩, fun i hi => keep (hA i hi), hap⟩

theorem own_mono {w : World} {base base' : Nat} {e : TypeId} {size : Nat} {v : Value} {n : Nat} {xs : List Value} (h : w.ownsRow base e size v n xs) (hb : base' ≤ base) : w.ownsRow base' e size v n xs := by
  refine ⟨h.1, ?_⟩
  rcases h.2 with h0 | ⟨g, cap, cur, rfl, h1, r⟩
  · exact .inl h0
  · exact .inr ⟨g, cap, cur, rfl, by omega, r⟩

set_option maxHeartbeats 4000000 in
set_option maxRecDepth 100000 in
theorem forget_any {I : Its} {p : Pl} {et fo nC th na capA gA : Nat} {cf : Nat → Bool} {aT aA : Option Addr} {B capT : Nat} {mf0 mf1 : Option Nat} {f0 f1 : Lit → Nat} {xs : Nat → Nat} {w : World} (h : Pre w I p et fo nC cf aT B capT mf0 mf1 f0 f1) (hab : Ab0 w p B aA gA na xs) (hn0 : 0 < na → 0 < I.N) (het : et < 18446744073709551616 ∧ fo < 18446744073709551616 ∧ th < 18446744073709551616) :
    Calls Ybad.prog 8 #[.pointer (some ⟨p.S, 0, none⟩), .int .u64 (th : Int), .slice aA na capA, .map mf1] w (ForgPost I p et fo cf B th na xs w) := by
  have H := hide h
  have HAB := hide hab
  have HET := hide het
  have HN0 := hide hn0
  have hSl := h.st.lt
  have c33 : w.cell? ⟨p.S, 33, none⟩ = some (.map mf0) := h.st.cell 33
  clear h hab het hn0
  go_enter Ybad.func8, Ybad.ntmps8
  go_upto_region 1 with fail
  go_cut [] from 14 (fun wx => ∃ mf, StoreAt wx p.S et fo p.F p.C (.slice aT I.N capT) (.map mf) ∧ Vec wx w.heap.size (.map mf) I.b0 ∧ Frm w wx (fun b => b = p.S) ∧ wx.heap[w.heap.size]? = some (.cells #[.pointer (some ⟨p.S, 0, none⟩)] 29 (0, 0)) ∧ wx.heap[w.heap.size + 1]? = some (.cells #[.slice aA na capA] 66 (0, 0)))
  case first =>
    have hB2 : Hid (Below w.heap.size w ((w.alloc (.cells #[.pointer (some ⟨p.S, 0, none⟩)] 29)).alloc (.cells #[.slice aA na capA] 66)).drew) := hide (((Below.refl _ _).alloc (Nat.le_refl _) _).alloc (by simp) _).drew
    have hbS : Hid (((w.alloc (.cells #[.pointer (some ⟨p.S, 0, none⟩)] 29)).alloc (.cells #[.slice aA na capA] 66)).drew.heap[w.heap.size]? = some (.cells #[.pointer (some ⟨p.S, 0, none⟩)] 29 (0, 0))) := hide (by
      show ((w.alloc (.cells #[.pointer (some ⟨p.S, 0, none⟩)] 29)).alloc (.cells #[.slice aA na capA] 66)).heap[w.heap.size]? = _
      rw [(MapKept.heap_alloc _ _).2 _ (by simp)]; exact (MapKept.heap_alloc w _).1)
    have hbA : Hid (((w.alloc (.cells #[.pointer (some ⟨p.S, 0, none⟩)] 29)).alloc (.cells #[.slice aA na capA] 66)).drew.heap[w.heap.size + 1]? = some (.cells #[.slice aA na capA] 66 (0, 0))) := hide (by
      have := (MapKept.heap_alloc (w.alloc (.cells #[.pointer (some ⟨p.S, 0, none⟩)] 29)) (.cells #[.slice aA na capA] 66)).1
      rw [World.size_alloc] at this
      exact this)
    have hl2 := Nat.lt_of_lt_of_le hSl hB2.out.size
    have hS2 := hide (H.out.st.of_block (hB2.out.block _ hSl))
    have hl3 := (Array.getElem?_eq_some_iff.1 hbS.out).1
    go_region_with (go_at_call 11; (refine (join_any (H.out.v0.below hB2.out) (H.out.v1.below hB2.out)).mono ?_; rintro x w3 ⟨m3, rfl, hv3, hB3⟩; have HV3 := hide hv3; have HS3 := hide (hS2.out.of_block (hB3.block p.S hl2)); have HB3 := hide hB3; have d33 : w3.cell? ⟨p.S, 33, none⟩ = some (.map mf0) := HS3.out.cell 33; have f33 := HS3.out.frozen 33; have dS : w3.cell? ⟨w.heap.size, 0, none⟩ = some (.pointer (some ⟨p.S, 0, none⟩)) := (by simp only [World.cell?, (hB3.block w.heap.size hl3).trans hbS.out]; rfl); clear hv3 hB3))
    all_goals (try go_wp2_with fail)
    all_goals go_meet
    all_goals refine ⟨m3, HS3.out.setFloor _, (H.out.b0 ▸ HV3.out.weaken hB2.out.size : Vec w3 w.heap.size (.map m3) I.b0).of_block (fun b _ hb2 _ => Below.heap_setCell _ _ _ _ (by show b ≠ p.S; omega)), ((Frm.of_below (may := fun b => b = p.S) hB2.out).trans (Frm.of_below (may := fun _ => False) HB3.out) (fun _ _ h => h.elim)).setCell _ _ (fun _ => rfl), (Below.heap_setCell _ _ _ _ (by show w.heap.size ≠ p.S; omega)).trans ((HB3.out.block _ hl3).trans hbS.out), (Below.heap_setCell _ _ _ _ (by show w.heap.size + 1 ≠ p.S; omega)).trans ((HB3.out.block _ (Array.getElem?_eq_some_iff.1 hbA.out).1).trans hbA.out)⟩
  case rest =>
    obtain ⟨mf, hS, hV, hfr, hbS, hbA⟩ := hcut
    have hSF : p.S ≠ p.F := by
      intro e
      obtain ⟨g, ⟨D, ⟨es, clock, h1, _⟩, _⟩, _⟩ := H.out.files
      have h2 := H.out.st
      unfold StoreAt at h2
      rw [e, h1] at h2
      cases h2
    have hst : St wc I p et fo (.slice aT I.N capT) (dk I cf 0) := by
      refine ⟨⟨mf, hS, by show Vec wc 0 _ (I.mx (fun _ => false)); rw [I.mx_none]; exact hV.weaken (Nat.zero_le _)⟩, ?_, fun i hi => ?_, H.out.nA⟩
      · obtain ⟨g, hF, hg⟩ := H.out.files
        exact ⟨g, hF.of_block (hfr.block _ hF.lt (fun e => hSF e.symm)), fun i hi => by rw [hg i hi]; rfl⟩
      · exact hfr.vec (H.out.vA i hi) (fun b hb e => by
          obtain ⟨_, ⟨h1, _⟩ | ⟨b2, D, h1, _, ⟨es, clock, h2, _⟩, _⟩⟩ := H.out.vA i hi
          · rw [h1] at hb; cases hb
          · rw [h1] at hb; cases hb
            have h3 := H.out.st
            unfold StoreAt at h3
            subst e
            rw [h2] at h3; cases h3)
    have hlp : Lp w wc I p et fo nC cf (.slice aT I.N capT) B th (.slice aA na capA) 0 (.slice none 0 0) := by
      refine ⟨hst, ?_, hbS, hbA, fun h0 => ?_, World.ownsRow_nil _ _ _ _, fun q hq => by omega, hfr.mono (fun _ _ h => .inl h), ⟨hSl, ?_, ?_, fun h0 => (H.out.row h0).lt⟩, H.out.CF⟩
      · obtain ⟨g, hC, hg⟩ := H.out.conf
        refine ⟨g, hC.of_block (hfr.block _ hC.lt (fun e => ?_)), hg⟩
        obtain ⟨D, ⟨es, clock, h1, _⟩, _⟩ := hC
        have h2 := H.out.st
        unfold StoreAt at h2
        rw [← e, h1] at h2
        cases h2
      · have hrow := H.out.row h0
        exact hrow.of_block (hfr.block B hrow.lt hrow.ne)
      · obtain ⟨g, hF, _⟩ := H.out.files; exact hF.lt
      · obtain ⟨g, hC, _⟩ := H.out.conf; exact hC.lt
    have HLP := hide hlp
    clear hS hV hfr hbS hbA hst hlp c33
    go_upto_block 0 with fail
    go_cut [8, 9] from 14 (fun kv n wx => ∃ k : Nat, k ≤ I.N ∧ n = .int .i64 k ∧ Lp w wx I p et fo nC cf (.slice aT I.N capT) B th (.slice aA na capA) k kv ∧ (k < I.N → th < I.e k))
    case first =>
      go_wp2_with fail
      go_loopw [8, 9] (fun kv n wr => ∃ k : Nat, k ≤ I.N ∧ n = .int .i64 k ∧ Lp w wr I p et fo nC cf (.slice aT I.N capT) B th (.slice aA na capA) k kv) (fun _ n _ => I.N - (intOf n).toNat)
      case atStart => exact ⟨0, Nat.zero_le _, rfl, HLP.out⟩
      case round =>
        obtain ⟨k, hk, rfl, hlp⟩ := hrel
        clear HLP
        have L := hide hlp
        have cS : wr.cell? ⟨w.heap.size, 0, none⟩ = some (.pointer (some ⟨p.S, 0, none⟩)) := by simp only [World.cell?, hlp.bS]; rfl
        obtain ⟨⟨mf, hS, hV⟩, hst2⟩ := hlp.st
        have hSl : p.S < wr.heap.size := hS.lt
        have hbl : w.heap.size < wr.heap.size := (Array.getElem?_eq_some_iff.1 hlp.bS).1
        have c32 : wr.cell? ⟨p.S, 32, none⟩ = some (.slice aT I.N capT) := hS.cell 32
        have c20 : wr.cell? ⟨p.S, 20, none⟩ = some (.map (some p.C)) := hS.cell 20
        have hN := H.out.n
        clear hlp hS hV hst2
        by_cases hlt : k < I.N
        · have hrow := (L.out.row (by omega)).back k (Nat.zero_le _) hlt
          rw [Nat.zero_add] at hrow
          have ce : wr.cell? ⟨B, k * 23 + 1, none⟩ = some (.int .u64 (I.e k : Int)) := hrow 1 _ rfl
          have hki : (k : Int) < (I.N : Int) := by omega
          obtain rfl := H.out.at0 (by omega)
          by_cases hle : I.e k ≤ th
          · have hlei : (I.e k : Int) ≤ (th : Int) := by omega
            have hld := load89_at hrow
            have hsn := storeTomb wr (I.nm k) (I.e k) (I.A k)
            clear hrow
            go_wp2_with fail
            go_cut [12] from 52 to 61 (fun c wx => c = .bool (cf k) ∧ Below wr.heap.size wr wx ∧ wx.heap[wr.heap.size]? = some (.cells (I.tb k) 89 (0, 0)))
            case first =>
              have hnm : (wr.alloc (.cells (I.tb k) 89)).cell? ⟨wr.heap.size, 0, none⟩ = some (.string (I.nm k)) := by rw [World.cell?_alloc_new]; rfl
              obtain ⟨g, hC, hg⟩ := L.out.conf
              have hC1 := (hC.alloc (.cells (I.tb k) 89)).drew
              obtain ⟨m1, hl1⟩ := hC1.look_ok (I.nm k) (H.out.ok.nsz k hlt)
              obtain ⟨m2, hl2⟩ := ((hC.alloc (.cells (I.tb k) 89)).alloc (.cells (confC eS) 93)).drew.look_ok (I.nm k) (H.out.ok.nsz k hlt)
              rw [hg k hlt] at hl1 hl2
              have hs0 : ∀ m, (bigStore 93 ⟨wr.heap.size + 1, 0, none⟩ (.agg (confC m))).run Ybad.prog ((wr.alloc (.cells (I.tb k) 89)).alloc (.cells (confC eS) 93)).drew = .ok () ((wr.alloc (.cells (I.tb k) 89)).alloc (.cells (confC m) 93)).drew := fun m => by
                have := storeConf (wr.alloc (.cells (I.tb k) 89)).drew m
                have e1 : (wr.alloc (.cells (I.tb k) 89)).drew.heap.size = wr.heap.size + 1 := by simp [World.drew]
                rw [e1] at this
                exact this
              have hs1 := hs0 m1
              have hs2 := hs0 m2
              clear hs0
              have hx0 : ∀ a b : Value, ([a, b] : List Value)[0]? = some a := fun _ _ => rfl
              have hx1 : ∀ a b : Value, ([a, b] : List Value)[1]? = some b := fun _ _ => rfl
              clear hC hC1 hg hld hsn
              go_region
              all_goals (try go_wp2_with fail)
              all_goals go_meet
              all_goals exact ⟨rfl, (((Below.refl _ _).alloc (Nat.le_refl _) _).alloc (by simp) _).drew, by
                show ((wr.alloc (.cells (I.tb k) 89)).alloc _).heap[wr.heap.size]? = _
                rw [(MapKept.heap_alloc _ _).2 _ (by simp)]; exact (MapKept.heap_alloc wr _).1⟩
            case rest =>
              obtain ⟨rfl, hB, hT⟩ := hcut
              have L1 := hide (L.out.below hB)
              have HB := hide hB
              have HT := hide hT
              have hdS : wc.cell? ⟨w.heap.size, 0, none⟩ = some (.pointer (some ⟨p.S, 0, none⟩)) := by simp only [World.cell?, L1.out.bS]; rfl
              have hl2 := load89_at (w := wc) (b := wr.heap.size) (o := 0) (range_block hT)
              clear hB hT L cS c32 c20 ce hld hsn
              cases hfe : (I.fe k == I.e k) with
              | false =>
                have HFE := hide hfe
                clear hfe
                go_wp2_with (go_at_call 12; (refine (kept_step H.out.ok L1.out.st hlt).mono ?_; rintro x w2 ⟨rfl, hB2⟩; rw [dk_self, HFE.out]; have HB2 := hide hB2; clear hB2))
                go_roundw
                case rel =>
                  exact ⟨k + 1, by omega, by go_num, (L1.out.below HB2.out).stay hle HFE.out⟩
                case measure => simp [intOf]; omega
              | true =>
                have HFE := hide hfe
                clear hfe
                cases hcf : cf k with
                | true =>
                  have HCF := hide hcf
                  go_wp2_with (go_at_call 12; (refine (kept_step H.out.ok L1.out.st hlt).mono ?_; rintro x w2 ⟨rfl, hB2⟩; rw [dk_self, HFE.out]; have HB2 := hide hB2; have hl3 := load89_at (w := w2) (b := wr.heap.size) (o := 0) (range_block ((hB2.block wr.heap.size (Array.getElem?_eq_some_iff.1 HT.out).1).trans HT.out)); have L2 := hide ((L1.out.below hB2).below ((Below.refl _ _).alloc (Nat.le_refl _) (.cells (I.tb k) 89))); obtain ⟨v', w3, hap, hown, hgr⟩ := append89 (w2.alloc (.cells (I.tb k) 89)) I (w.heap.size + 2) 61 u8 (kl I cf k) [k] L2.out.own (some ⟨w2.heap.size, 0, none⟩) w2.heap.size 0 1 (.inl ⟨_, rfl, fun _ => rfl⟩) (fun r hr => (by obtain rfl : r = 0 := (by simpa using hr); exact range_block (t := 89) (MapKept.heap_alloc w2 _).1)) (by have := kl_le I cf k; simp; omega) (by have := (Array.getElem?_eq_some_iff.1 L2.out.bA).1; omega); have HO := hide hown; have HG := hide hgr; clear hown hgr hB2; simp only [List.length_cons, List.length_nil, Nat.zero_add] at hap))
                  go_roundw
                  case rel =>
                    exact ⟨k + 1, by omega, by go_num, L2.out.app hle HFE.out HCF.out (by have := HO.out; rw [flat_app] at this; simpa [flat] using this) HG.out⟩
                  case measure => simp [intOf]; omega
                | false =>
                  have HCF := hide hcf
                  go_wp2_with (first
                    | (go_at_call 12; (refine (kept_step H.out.ok L1.out.st hlt).mono ?_; rintro x w2 ⟨rfl, hB2⟩; rw [dk_self, HFE.out]; have HB2 := hide hB2; have hl3 := load89_at (w := w2) (b := wr.heap.size) (o := 0) (range_block ((hB2.block wr.heap.size (Array.getElem?_eq_some_iff.1 HT.out).1).trans HT.out)); have hd2 : w2.cell? ⟨w.heap.size, 0, none⟩ = some (.pointer (some ⟨p.S, 0, none⟩)) := (by simp only [World.cell?, (L1.out.below hB2).bS]; rfl); clear hB2))
                    | (go_at_call 13; (refine (drop_step H.out.ok (L1.out.st.below HB2.out) hlt).mono ?_; rintro x w3 ⟨rfl, h3, hf3⟩; have H3 := hide h3; have HF3 := hide hf3; clear h3 hf3)))
                  go_roundw
                  case rel =>
                    exact ⟨k + 1, by omega, by go_num, (L1.out.below HB2.out).drop hle HFE.out HCF.out H3.out HF3.out⟩
                  case measure => simp [intOf]; omega
          · have hgt : (th : Int) < (I.e k : Int) := by omega
            have hne : ¬ ((I.e k : Int) ≤ (th : Int)) := by omega
            go_wp2
            go_meet
            exact ⟨k, hk, rfl, L.out, fun _ => by omega⟩
        · obtain rfl : k = I.N := by omega
          go_wp2
          go_meet
          exact ⟨I.N, hk, rfl, L.out, fun h => by omega⟩
    case rest =>
      obtain ⟨k, hk, rfl, hlp, hgt⟩ := hcut
      have L := hide hlp
      have HGT := hide hgt
      have HLE := hide hlp.le
      have hbl : w.heap.size + 1 < wc.heap.size := (Array.getElem?_eq_some_iff.1 hlp.bA).1
      have cS : wc.cell? ⟨w.heap.size, 0, none⟩ = some (.pointer (some ⟨p.S, 0, none⟩)) := by simp only [World.cell?, hlp.bS]; rfl
      have cA : wc.cell? ⟨w.heap.size + 1, 0, none⟩ = some (.slice aA na capA) := by simp only [World.cell?, hlp.bA]; rfl
      obtain ⟨⟨mf, hS, hV⟩, hst2⟩ := hlp.st
      have c32 : wc.cell? ⟨p.S, 32, none⟩ = some (.slice aT I.N capT) := hS.cell 32
      have hN := H.out.n
      obtain ⟨aR, hR1, hR2, hsl⟩ := sl61 aT I.N capT k B hk H.out.cap H.out.at0
      have HR1 := hide hR1
      have HR2 := hide hR2
      have hSFC := L.out.lt
      have HLT := hide hSFC
      clear hlp hS hV hst2 HLP hgt hR1 hR2 hSFC
      go_upto_if 84 with fail
      go_cut [13] from 82 (fun rv wx => R15 w wx I p et fo cf (.slice aT I.N capT) B na xs k u8 aR (capT - k) rv)
      case first =>
        by_cases hna : 0 < na
        · have hnai : (0 : Int) < (na : Int) := by omega
          obtain ⟨eA, ⟨csA, tA, frA, hgA⟩, hneS, hneB⟩ := HAB.out.at0 hna
          have hgAw : wc.heap[gA]? = some (.cells csA tA frA) := by
            rw [L.out.frm.block gA (Array.getElem?_eq_some_iff.1 hgA).1]
            · exact hgA
            · rintro (e | e)
              · exact hneS e
              · obtain ⟨g, ⟨D, ⟨es, clock, h1, _⟩, _⟩, _⟩ := H.out.files
                rw [← e, hgA] at h1; cases h1
          have hAbv : Abv wc p (w.heap.size + 1) w.heap.size aA gA na capA xs := by
            refine ⟨L.out.bA, L.out.bS, HAB.out.len, fun _ => ⟨eA, csA, tA, frA, hgAw, hneS⟩, fun i hi => ?_, HAB.out.up, ?_, ?_⟩
            · rw [World.cell?_of_block (w := w) (w' := wc) (a := ⟨gA, i, none⟩) (hgAw.trans hgA.symm)]; exact HAB.out.row i hi
            · omega
            · omega
          have HABV := hide hAbv
          clear hAbv hgAw hgA eA
          have hN0 := HN0.out hna
          have hrow := L.out.row hN0
          have hM : Mid3 wc I p B (k * 23) (I.N - k) 0 [] (fun q => k + q) := by
            refine ⟨hrow.ne, hrow.blk, fun q hq => ?_, fun r hr => ?_, fun q _ hq => ?_⟩
            · have := hrow.there (k * 23 + q) (by omega)
              rw [Nat.zero_add] at this
              exact this
            · simp at hr
            · have := hrow.back (k + q) (Nat.zero_le _) (by omega)
              rw [show 0 + (k + q) * 23 = k * 23 + q * 23 by omega] at this
              exact this
          have hB := HLT.out.2.2.2 hN0
          have hcap := H.out.cap
          have HM := hide hM
          have HROW := hide hrow
          clear hM hrow
          go_wp2_with (go_at_call 14; (refine (del_any H.out.ok L.out.st HABV.out aR B (k * 23) (I.N - k) (capT - k) (fun q => k + q) (by omega) (by omega) (fun _ => HR1.out (by omega)) HM.out (fun q hq => by omega) ⟨by omega, by omega, hneB⟩).mono ?_; rintro x w3 ⟨rfl, hst3, hf3, hr3⟩; have HST3 := hide hst3; have HF3 := hide hf3; have HRR := hide hr3; clear hst3 hf3 hr3))
          go_meet
          have hSl2 := HLT.out
          have keep : ∀ {b : Nat} {cs : Array Value} {t : TypeId} {fr : Nat × Nat}, wc.heap[b]? = some (.cells cs t fr) → w.heap.size ≤ b → w3.heap[b]? = wc.heap[b]? := fun {b} {cs} {t} {fr} hc hl => by
            refine HF3.out.block b (Array.getElem?_eq_some_iff.1 hc).1 ?_
            rintro (e | e | e) <;> omega
          exact ⟨rfl, HST3.out, (keep L.out.bS (Nat.le_refl _)).trans L.out.bS, own_block L.out.own (fun g h1 _ ⟨cs, hc⟩ => keep hc (by omega)), HRR.out, (L.out.frm.mono (fun _ _ h => h.elim .inl (fun h => .inr (.inl h)))).trans HF3.out (fun _ _ h => h.elim .inl (fun h => .inr (h.elim .inl (fun h => .inr ⟨hN0, h⟩)))), by have := HF3.out.size; omega⟩
        · obtain rfl : na = 0 := by omega
          go_wp2
          go_meet
          have hno : ∀ q, q < I.N - k → ¬ upTo 0 xs (I.e ((fun q => k + q) q)) := by
            rintro q _ ⟨i, hi, _⟩; omega
          have e1 := kp_all I 0 xs (fun q => k + q) (I.N - k) hno
          have e2 := dd_none I 0 xs (fun q => k + q) (dk I cf k) (I.N - k) hno
          refine ⟨by rw [e1]; simp, by rw [e2]; exact L.out.st, L.out.bS, L.out.own, fun r hr => ?_, L.out.frm.mono (fun _ _ h => h.elim .inl (fun h => .inr (.inl h))), by omega⟩
          have hr' : r < I.N - k := by rw [e1] at hr; simpa using hr
          have e3 : (kp I 0 xs (fun q => k + q) (I.N - k))[r] = k + r := by simp only [e1]; simp
          rw [e3]
          have := (L.out.row (by omega)).back (k + r) (Nat.zero_le _) (by omega)
          rw [show 0 + (k + r) * 23 = k * 23 + r * 23 by omega] at this
          exact this
      case rest =>
        obtain ⟨rfl, hst, hbS, hown, hrows, hfrm, hbig⟩ := hcut
        have hkp := kp_le I na xs (fun q => k + q) (I.N - k)
        have hkl := kl_le I cf k
        have HA := hide (show (∃ ad, aR = some ad ∧ (0 < (kp I na xs (fun q => k + q) (I.N - k)).length → ad = ⟨B, k * 23, none⟩)) ∨ aR = none ∧ kp I na xs (fun q => k + q) (I.N - k) = [] by
          cases haR : aR with
          | none =>
            have := HR2.out haR
            exact .inr ⟨rfl, List.eq_nil_of_length_eq_zero (by omega)⟩
          | some ad =>
            refine .inl ⟨ad, rfl, fun h0 => ?_⟩
            have := HR1.out (by omega)
            rw [haR] at this
            exact Option.some.inj this)
        generalize hKP : kp I na xs (fun q => k + q) (I.N - k) = ls at *
        generalize hKL : kl I cf k = ks at *
        have HKP := hide hKP
        have HKL := hide hKL
        clear hKP hKL
        obtain ⟨v', w4, hap, hown4, hgr4⟩ := append89 (wc.drew) I (w.heap.size + 2) 61 u8 ks ls hown aR B (k * 23) (capT - k) HA.out hrows (by omega) hbig
        obtain ⟨aV, nV, cV, rfl⟩ : ∃ a n c, v' = .slice a n c := by
          rcases hown4.2 with ⟨rfl, _⟩ | ⟨g, cap, cur, rfl, _⟩
          · exact ⟨_, _, _, rfl⟩
          · exact ⟨_, _, _, rfl⟩
        have hSl2 := HLT.out
        have hne : ∀ b, b < w.heap.size + 2 → some b ≠ u8.ownBlock := fun b hb e => by
          have := (hown.lt b e.symm).1
          omega
        have hf4 : Frm wc w4 (fun b => u8.ownBlock = some b) := by
          have h := Frm.of_grown (w := wc.drew) (may := fun b => u8.ownBlock = some b) hgr4 (fun j e _ => e)
          exact ⟨h.os, h.tape, h.output, h.size, h.block⟩
        have hst4 : St w4 I p et fo (.slice aT I.N capT) (dd I na xs (fun q => k + q) (dk I cf k) (I.N - k)) := by
          refine hst.frm hf4 fun b e hb => ⟨?_, ?_⟩
          · have := (hown.lt b e).1
            omega
          · rcases hown.2 with ⟨rfl, _⟩ | ⟨g, cap, cur, rfl, _, h2, _⟩
            · cases e
            · have : b = g := by simpa [Value.ownBlock] using e.symm
              subst this
              exact ⟨_, _, _, h2⟩
        have hbS4 : w4.heap[w.heap.size]? = some (.cells #[.pointer (some ⟨p.S, 0, none⟩)] 29 (0, 0)) :=
          (hgr4.block w.heap.size (by show w.heap.size < wc.heap.size; omega) (hne _ (by omega))).trans hbS
        have hc1 : wc.cell? ⟨w.heap.size, 0, none⟩ = some (.pointer (some ⟨p.S, 0, none⟩)) := by simp only [World.cell?, hbS]; rfl
        have hc4 : w4.cell? ⟨w.heap.size, 0, none⟩ = some (.pointer (some ⟨p.S, 0, none⟩)) := by simp only [World.cell?, hbS4]; rfl
        have HST4 := hide hst4
        obtain ⟨⟨mf4, hS4, _⟩, _⟩ := hst4
        have c432 : w4.cell? ⟨p.S, 32, none⟩ = some (.slice aT I.N capT) := hS4.cell 32
        have f432 := hS4.frozen 32
        have HB4 := hide hbS4
        have HO4 := hide hown4
        have HF4 := hide ((hfrm.trans hf4 (fun b hb e => by have := (hown.lt b e).1; omega)).setCell ⟨p.S, 32, none⟩ (.slice aV nV cV) (fun _ => .inl rfl))
        have HNE := hide hne
        clear hst hbS hown hrows hfrm hown4 hgr4 hSl2 hne hf4 hbS4 hS4 HA L HR1 HR2 cS cA c32 hsl
        go_upto_region 15 with fail
        go_cut [] from 88 (fun wx => ∃ tv, St wx I p et fo tv (dd I na xs (fun q => k + q) (dk I cf k) (I.N - k)) ∧ wx.heap[w.heap.size]? = some (.cells #[.pointer (some ⟨p.S, 0, none⟩)] 29 (0, 0)) ∧ wx.ownsRow (w.heap.size + 2) 89 23 tv (ks ++ ls).length (flat I (ks ++ ls)) ∧ Frm w wx (fun b => b = p.S ∨ b = p.F ∨ (0 < I.N ∧ b = B)))
        case first =>
          go_region
          all_goals (try go_wp2_with fail)
          all_goals go_meet
          all_goals refine ⟨.slice aV nV cV, HST4.out.setS 32 _ (fun mf h => h.setTombs _), (Below.heap_setCell _ _ _ _ (by show w.heap.size ≠ p.S; omega)).trans HB4.out, ?_, HF4.out⟩
          all_goals rw [List.length_append]
          all_goals exact own_block HO4.out (fun g h1 _ _ => Below.heap_setCell _ _ _ _ (by show g ≠ p.S; omega))
        case rest =>
          obtain ⟨tv, hst, hbS, hown, hfrm⟩ := hcut
          have HST := hide hst
          have HB := hide hbS
          have HO := hide hown
          have HF := hide hfrm
          obtain ⟨⟨mf5, hS5, _⟩, _⟩ := hst
          have hc1 : wc.cell? ⟨w.heap.size, 0, none⟩ = some (.pointer (some ⟨p.S, 0, none⟩)) := by simp only [World.cell?, hbS]; rfl
          have d31 : wc.cell? ⟨p.S, 31, none⟩ = some (.int .u64 (fo : Int)) := hS5.cell 31
          have d13 : wc.cell? ⟨p.S, 13, none⟩ = some (.int .u64 (et : Int)) := hS5.cell 13
          have f31 := hS5.frozen 31
          have f13 := hS5.frozen 13
          have hneS : w.heap.size ≠ p.S := by omega
          clear hbS hown hfrm hS5 HST4 HB4 HO4 HF4 HNE hc4 c432 f432 hap
          go_wp2_with fail
          go_region
          go_wp2_with fail
          go_region
          go_wp2_with fail
          go_end0
          refine ⟨rfl, k, tv, hk, HLE.out, HGT.out, ?_, ?_, ?_⟩
          · rw [HKP.out, HKL.out]
            refine own_mono (own_block HO.out (fun g h1 _ _ => ?_)) (Nat.le_add_right _ 2)
            exact (Below.heap_setCell _ _ _ _ (by show g ≠ p.S; omega)).trans (Below.heap_setCell _ _ _ _ (by show g ≠ p.S; omega))
          · exact (HST.out.setS 31 (.int .u64 ((max fo th : Nat) : Int)) (fun mf h => h.setForgotten _)).setS 13 (.int .u64 ((max et th : Nat) : Int)) (fun mf h => h.setEtag _)
          · exact ((HF.out.setCell ⟨p.S, 31, none⟩ _ (fun _ => .inl rfl)).setCell ⟨p.S, 13, none⟩ _ (fun _ => .inl rfl)).drew.drew
end Go.Proofs.YbulkahzaDoor

/-
  The items of the law as plain data, and what the checks ask of them.
-/
import Derived.Test.YbulkahzaDoorForget
import Derived.Test.YbulkahzaDoorShelf
namespace Go.Proofs.YbulkahzaDoor
open Go.RowKit Go.Maps
set_option linter.unusedVariables false

structure Itm where
  gap : Nat
  st : Nat
  listed : Bool
  node : Bool
  hist : Nat

/-- The etag behind the first i items. -/
def ep (G : Nat → Itm) : Nat → Nat
  | 0 => 0
  | i + 1 => ep G i + (1 + (G i).gap % 4)
def nmG (i : Nat) : ByteArray := ⟨#[110]⟩ ++ ⟨(Lib.itoa (i : Int)).toArray⟩
def ndG (t : Itm) : ByteArray := if t.node then sB else sA
def cfG (G : Nat → Itm) (i : Nat) : Bool := (G i).st % 3 == 1
def feG (G : Nat → Itm) (i : Nat) : Nat := if (G i).st % 3 = 2 then ep G (i + 1) + 1 else ep G (i + 1)
abbrev its (G : Nat → Itm) (N : Nat) (A : Nat → Option Nat) (b0 : Lit → Nat) : Its :=
  { N := N, nm := nmG, e := fun i => ep G (i + 1), fe := feG G, A := A, fA := fun i => single (ndG (G i)) ((G i).hist + 1), b0 := b0 }

theorem ep_le (G : Nat → Itm) : ∀ i, i ≤ ep G i ∧ ep G i ≤ 4 * i
  | 0 => ⟨Nat.le_refl _, Nat.le_refl _⟩
  | i + 1 => by
    have := ep_le G i
    have h : (G i).gap % 4 < 4 := Nat.mod_lt _ (by decide)
    show i + 1 ≤ ep G i + (1 + (G i).gap % 4) ∧ ep G i + (1 + (G i).gap % 4) ≤ _
    omega
theorem ep_lt (G : Nat → Itm) (i : Nat) : ∀ j, i < j → ep G i < ep G j
  | j + 1, h => by
    show ep G i < ep G j + (1 + (G j).gap % 4)
    by_cases e : i = j
    · subst e; omega
    · have := ep_lt G i j (by omega); omega

/-! The names are distinct. -/
def dval (l : List UInt8) : Nat := l.foldl (fun a b => a * 10 + (b.toNat - 48)) 0
theorem dval_snoc (l : List UInt8) (b : UInt8) : dval (l ++ [b]) = dval l * 10 + (b.toNat - 48) := by simp [dval]
theorem dig_nat (d : Nat) (h : d < 10) : (UInt8.ofNat (48 + d)).toNat - 48 = d := by
  rw [UInt8.toNat_ofNat']
  omega
theorem dval_dec : ∀ u : Nat, dval (Lib.decDigits u) = u := by
  intro u
  induction u using Nat.strongRecOn with
  | ind u ih =>
    unfold Lib.decDigits
    split
    · rename_i h
      show 0 * 10 + ((UInt8.ofNat (48 + u)).toNat - 48) = u
      rw [dig_nat u h]; omega
    · rename_i h
      rw [dval_snoc, ih (u / 10) (by omega), dig_nat _ (Nat.mod_lt _ (by decide))]
      omega
theorem itoa_nat (i : Nat) : Lib.itoa (i : Int) = Lib.decDigits i := by
  unfold Lib.itoa
  rw [if_neg (by omega)]
  simp
theorem nmG_data (i : Nat) : (nmG i).data.toList = 110 :: Lib.decDigits i := by
  unfold nmG
  rw [itoa_nat]
  simp [ByteArray.data_append]
theorem nmG_inj {i j : Nat} (h : kS (nmG i) = kS (nmG j)) : i = j := by
  have h1 : (nmG i).data.toList = (nmG j).data.toList := Lit.string.inj h
  rw [nmG_data, nmG_data] at h1
  have h2 := congrArg dval (List.cons.inj h1).2
  rw [dval_dec, dval_dec] at h2
  exact h2
theorem digits300 : ∀ i, i < 1000 → (Lib.decDigits i).length ≤ 3 := by
  intro i hi
  unfold Lib.decDigits
  split
  · simp
  · rw [List.length_append]
    unfold Lib.decDigits
    split
    · simp
    · rw [List.length_append]
      unfold Lib.decDigits
      rw [dif_pos (by omega)]
      simp
theorem nmG_size (i : Nat) (hi : i < 1000) : (nmG i).size ≤ 4 := by
  have h := congrArg List.length (nmG_data i)
  have h2 := digits300 i hi
  have e : (nmG i).size = (nmG i).data.toList.length := Array.length_toList.symm
  rw [e, h]
  simp; omega

theorem ndG_key (t : Itm) : kS (ndG t) = kA ∨ kS (ndG t) = kB := by
  unfold ndG
  cases t.node
  · exact .inl rfl
  · exact .inr rfl
theorem ndG_size (t : Itm) : (ndG t).size ≤ maxLen := by
  unfold ndG
  cases t.node <;> decide

theorem its_ok (G : Nat → Itm) (N : Nat) (A : Nat → Option Nat) (b0 : Lit → Nat) (hN : N ≤ 300) (hb : b0 kM = 0) : (its G N A b0).Ok := by
  refine ⟨fun i hi => ?_, fun i j _ _ h => nmG_inj h, fun i hi => ?_, fun i j hij _ => ep_lt G (i + 1) (j + 1) (by omega), fun i hi => ?_, hb⟩
  · have hi : i < N := hi
    have := nmG_size i (by omega)
    show (nmG i).size ≤ maxLen
    simp only [maxLen]; omega
  · have hi : i < N := hi
    have := ep_le G (i + 1)
    show 0 < ep G (i + 1) ∧ ep G (i + 1) < _
    omega
  · show single (ndG (G i)) _ kM = 0
    unfold single
    rw [if_neg]
    rcases ndG_key (G i) with h | h <;> rw [h] <;> decide

/-- The listed ones among the first i. -/
def lsG (G : Nat → Itm) (i : Nat) : List Nat := (List.range i).filter (fun j => (G j).listed)
theorem lsG_succ (G : Nat → Itm) (i : Nat) : lsG G (i + 1) = if (G i).listed then lsG G i ++ [i] else lsG G i := by
  unfold lsG
  rw [List.range_succ, List.filter_append]
  cases h : (G i).listed <;> simp [h]
theorem lsG_le (G : Nat → Itm) (i : Nat) : (lsG G i).length ≤ i := by
  have := List.length_filter_le (fun j => (G j).listed) (List.range i)
  rw [List.length_range] at this
  exact this
def xsG (G : Nat → Itm) (n : Nat) (k : Nat) : Nat := ((lsG G n).map (fun i => ep G (i + 1))).getD k 0

theorem xsG_get (G : Nat → Itm) (n k : Nat) (h : k < (lsG G n).length) : xsG G n k = ep G ((lsG G n)[k] + 1) := by
  unfold xsG
  rw [List.getD_eq_getElem?_getD, List.getElem?_map, List.getElem?_eq_getElem h]
  rfl
theorem lsG_pair (G : Nat → Itm) (n : Nat) : (lsG G n).Pairwise (· < ·) := List.Pairwise.filter _ List.pairwise_lt_range
theorem xsG_up (G : Nat → Itm) (n i j : Nat) (h1 : i < j) (h2 : j < (lsG G n).length) : xsG G n i < xsG G n j := by
  rw [xsG_get G n i (by omega), xsG_get G n j h2]
  refine ep_lt G _ _ ?_
  have := List.pairwise_iff_getElem.1 (lsG_pair G n) i j (by omega) h2 h1
  omega
theorem ep_inj (G : Nat → Itm) {i j : Nat} (h : ep G i = ep G j) : i = j := by
  rcases Nat.lt_trichotomy i j with h1 | h1 | h1
  · have := ep_lt G i j h1; omega
  · exact h1
  · have := ep_lt G j i h1; omega
theorem lst_G (G : Nat → Itm) (n i : Nat) (hi : i < n) : lst (lsG G n).length (xsG G n) (ep G (i + 1)) = (G i).listed := by
  cases h : (G i).listed
  · cases hl : lst (lsG G n).length (xsG G n) (ep G (i + 1))
    · rfl
    · obtain ⟨k, hk, he⟩ := (lst_iff _ _ _).1 hl
      rw [xsG_get G n k hk] at he
      have e := ep_inj G he
      have hm : (lsG G n)[k] ∈ lsG G n := List.getElem_mem hk
      have e2 : (lsG G n)[k] = i := by omega
      rw [e2] at hm
      have : (G i).listed = true := (List.mem_filter.1 hm).2
      rw [h] at this; cases this
  · apply (lst_iff _ _ _).2
    have hm : i ∈ lsG G n := List.mem_filter.2 ⟨List.mem_range.2 hi, h⟩
    obtain ⟨k, hk, e⟩ := List.getElem_of_mem hm
    exact ⟨k, hk, by rw [xsG_get G n k hk, e]⟩

/-! What the checks compute. -/
def drG (G : Nat → Itm) (th i : Nat) : Bool :=
  (decide (ep G (i + 1) ≤ th) && (G i).st % 3 == 0) || (!decide (ep G (i + 1) ≤ th) && ((G i).listed && (G i).st % 3 != 2))
def stG (G : Nat → Itm) (th i : Nat) : Bool :=
  (decide (ep G (i + 1) ≤ th) && (G i).st % 3 == 1) || (!decide (ep G (i + 1) ≤ th) && !(G i).listed)

theorem fe_e (G : Nat → Itm) (i : Nat) : (feG G i == ep G (i + 1)) = ((G i).st % 3 != 2) := by
  unfold feG
  by_cases h : (G i).st % 3 = 2
  · rw [if_pos h, h]
    simp
  · rw [if_neg h]
    simp [h]

theorem drp_G (G : Nat → Itm) (A : Nat → Option Nat) (b0 : Lit → Nat) (n th i : Nat) (hi : i < n) : drp (its G n A b0) (cfG G) (lsG G n).length (xsG G n) th i = drG G th i := by
  have h1 : (its G n A b0).e i = ep G (i + 1) := rfl
  have h2 : (its G n A b0).fe i = feG G i := rfl
  have h3 : (G i).st % 3 < 3 := Nat.mod_lt _ (by decide)
  unfold drp drG cfG
  rw [h1, h2, lst_G G n i hi, fe_e]
  by_cases h : ep G (i + 1) ≤ th
  · rw [if_pos h]
    simp only [h, decide_true, Bool.true_and, Bool.not_true, Bool.false_and, Bool.or_false]
    generalize (G i).st % 3 = x at h3
    match x, h3 with
    | 0, _ => rfl
    | 1, _ => rfl
    | 2, _ => rfl
  · rw [if_neg h]
    simp only [h, decide_false, Bool.false_and, Bool.not_false, Bool.true_and, Bool.false_or]

theorem sty_G (G : Nat → Itm) (A : Nat → Option Nat) (b0 : Lit → Nat) (n th i : Nat) (hi : i < n) : sty (its G n A b0) (cfG G) (lsG G n).length (xsG G n) th i = stG G th i := by
  have h1 : (its G n A b0).e i = ep G (i + 1) := rfl
  have h2 : (its G n A b0).fe i = feG G i := rfl
  have h3 : (G i).st % 3 < 3 := Nat.mod_lt _ (by decide)
  unfold sty stG cfG
  rw [h1, h2, lst_G G n i hi, fe_e]
  by_cases h : ep G (i + 1) ≤ th
  · rw [if_pos h]
    simp only [h, decide_true, Bool.true_and, Bool.not_true, Bool.false_and, Bool.or_false]
    generalize (G i).st % 3 = x at h3
    match x, h3 with
    | 0, _ => rfl
    | 1, _ => rfl
    | 2, _ => rfl
  · rw [if_neg h]
    simp only [h, decide_false, Bool.false_and, Bool.not_false, Bool.true_and, Bool.false_or]

/-- The indices that stay, among the first i. -/
def wtG (G : Nat → Itm) (th i : Nat) : List Nat := (List.range i).filter (stG G th)
theorem wtG_succ (G : Nat → Itm) (th i : Nat) : wtG G th (i + 1) = if stG G th i then wtG G th i ++ [i] else wtG G th i := by
  unfold wtG
  rw [List.range_succ, List.filter_append]
  cases h : stG G th i <;> simp [h]
theorem wtG_le (G : Nat → Itm) (th i : Nat) : (wtG G th i).length ≤ i := by
  have := List.length_filter_le (stG G th) (List.range i)
  rw [List.length_range] at this
  exact this
theorem wtG_lt (G : Nat → Itm) (th n k : Nat) (h : k < (wtG G th n).length) : (wtG G th n)[k] < n :=
  List.mem_range.1 (List.mem_filter.1 (List.getElem_mem h)).1

/-- The floor's entry at k behind the first i items. -/
def mxG (G : Nat → Itm) (b0 : Lit → Nat) (th : Nat) (k : Lit) : Nat → Nat
  | 0 => b0 k
  | i + 1 => if drG G th i then max (mxG G b0 th k i) (single (ndG (G i)) ((G i).hist + 1) k) else mxG G b0 th k i
theorem mxG_eq (G : Nat → Itm) (A : Nat → Option Nat) (b0 : Lit → Nat) (n th : Nat) (d : Nat → Bool) (hd : ∀ i, i < n → d i = drG G th i) (k : Lit) : (its G n A b0).mx d k = mxG G b0 th k n := by
  have : ∀ i, i ≤ n → (its G n A b0).mxTo d k i = mxG G b0 th k i := by
    intro i
    induction i with
    | zero => intro _; rfl
    | succ i ih =>
      intro hi
      have ih := ih (by omega)
      simp only [Its.mxTo, mxG, hd i (by omega), ih]
  exact this n (Nat.le_refl _)
end Go.Proofs.YbulkahzaDoor

/-
  The law's own digit loop ('zzs1690adec') returns the decimal numeral.
-/
import Derived.Test.YbulkahzaDoorNums
import Derived.Deep.RegionWith
import Derived.Deep.QuietTactic
import Derived.BigQuiet
import Derived.Laws.Concat
namespace Go.Proofs.YbulkahzaDoor
open Go.RowKit Go.Lib

/-- The digits still to be laid ahead of what lies: none for 0. -/
def front (v : Nat) : List UInt8 := if v = 0 then [] else decDigits v

theorem front_step (v : Nat) (hv : 0 < v) : front v = front (v / 10) ++ [UInt8.ofNat (48 + v % 10)] := by
  unfold front
  rw [if_neg (by omega)]
  by_cases h : v < 10
  · rw [if_pos (by omega), decDigits, dif_pos h, Nat.mod_eq_of_lt h]; rfl
  · rw [if_neg (by omega), decDigits, dif_neg h]

theorem drop_set_self (l : List Value) (m : Nat) (x : Value) (h : m < l.length) : (l.set m x).drop m = x :: l.drop (m + 1) := by
  rw [List.drop_eq_getElem_cons (by simpa using h)]
  simp [List.drop_set]

theorem wrap_quo (v : Nat) (h : v < 18446744073709551616) : IntKind.u64.wrap ((v : Int) / 10) = ((v / 10 : Nat) : Int) := by
  rw [IntKind.wrap_u64]; omega
theorem digit_nat (v : Nat) : ((UInt8.ofNat (48 + v % 10)).toNat : Int) = 48 + (v : Int) % 10 := by
  rw [UInt8.toNat_ofNat']; omega

def cell8 (b : UInt8) : Value := .int .u8 (b.toNat : Int)

set_option maxHeartbeats 4000000 in
set_option maxRecDepth 100000 in
theorem dec_pos (u : Nat) (hu : 0 < u) (hu64 : u < 18446744073709551616) (w : World) :
    Calls Ybad.prog 6 #[.int .u64 u] w fun e w' => e = .returned (.string ⟨(Lib.decDigits u).toArray⟩) ∧ Below w.heap.size w w' := by
  have hu0 : ((u : Int) == 0) = false := by simp; omega
  go_enter Ybad.func6, Ybad.ntmps6
  go_wp2
  go_loopw [0, 4] (fun n i wr => ∃ (v j : Nat) (C : Array Value) (ds : List UInt8), n = .int .u64 v ∧ v ≤ u ∧ i = .int .i64 j ∧ j ≤ 20 ∧ C.size = 20 ∧ C.toList.drop j = ds.map cell8 ∧ Hid (v < 10 ^ j) ∧ Hid (front v ++ ds = decDigits u) ∧ wr = w.alloc (.cells C 98)) (fun _ i _ => (RowKit.intOf i).toNat)
  case atStart =>
    refine ⟨u, 20, _, [], rfl, Nat.le_refl _, rfl, Nat.le_refl _, rfl, rfl, ?_, ?_, rfl⟩
    · show u < 10 ^ 20
      omega
    · show front u ++ [] = _
      rw [front, if_neg (by omega), List.append_nil]
  case round =>
    obtain ⟨v, j, C, ds, rfl, hvu, rfl, hj, hC, hdrop, hlt, hfront, rfl⟩ := hrel
    have hlen : 20 - j = ds.length := by have := congrArg List.length hdrop; simpa [hC] using this
    by_cases hv : 0 < v
    · obtain ⟨m, rfl⟩ : ∃ m, j = m + 1 := ⟨j - 1, by have := hlt.out; cases j with | zero => simp at this; omega | succ n => rfl⟩
      obtain ⟨c0, hc0⟩ : ∃ c, C[m]? = some c := ⟨C[m], by simp [show m < C.size by omega]⟩
      have HC : Hid (C.size = 20) := hC
      have HD : Hid (List.drop (m + 1) C.toList = ds.map cell8) := hdrop
      clear hdrop hlen
      go_wp2
      go_roundw
      case rel =>
        refine ⟨v / 10, m, _, UInt8.ofNat (48 + v % 10) :: ds, by simp, by omega, by simp, by omega, ?_, ?_, ?_, ?_, rfl⟩
        · simpa using HC.out
        · rw [Array.toList_setIfInBounds, drop_set_self _ _ _ (by rw [Array.length_toList, HC.out]; omega), HD.out, List.map_cons, cell8, digit_nat]
        · have := hlt.out
          show v / 10 < 10 ^ m
          rw [Nat.pow_succ] at this
          omega
        · have := hfront.out
          rw [front_step v hv] at this
          show front (v / 10) ++ (_ :: ds) = _
          rw [← this]; simp
      case measure => simp [RowKit.intOf]
    · have hj20 : j < 20 := by
        have h1 := hfront.out
        have h2 : v = 0 := by omega
        rw [h2] at h1
        simp [front] at h1
        have h3 := nDigits_pos u
        rw [← decDigits_length, ← h1] at h3
        omega
      have hal : Ybad.prog.arrayLen 98 = 20 := by kernel_rfl
      have hsl : ∀ W, (Instr.sliceAt 98 (.pointer (some ⟨w.heap.size, 0, none⟩)) (some (.int .i64 (j : Int))) none none).run Ybad.prog W = .ok (.slice (some ⟨w.heap.size, j, none⟩) ds.length (20 - j)) W := fun W => by
        rw [run_sliceAt_array_l W 98 ⟨w.heap.size, 0, none⟩ (by simp [Program.arrayLen, Program.elem, Ybad.underlying98]) .i64 (j : Int) (by omega) (by rw [hal]; omega)]
        rw [← hlen]
        go_simp
        omega
      have hcv : ∀ c, (convert 74 9 (.slice (some ⟨w.heap.size, j, none⟩) ds.length c)).run Ybad.prog (w.alloc (.cells C 98)) = .ok (.string ⟨ds.toArray⟩) (w.alloc (.cells C 98)) := fun c =>
        run_convert_bytes_back (P := Ybad.prog) (w.alloc (.cells C 98)) 74 9 5 ⟨w.heap.size, j, none⟩ c ds Ybad.underlying74 Ybad.underlying5 Ybad.underlying9 (fun i hi => by
          rw [Lib.add_plain, World.cell?_alloc_new]
          have := congrArg (·[i]?) hdrop
          simp only [List.getElem?_drop, List.getElem?_map] at this
          rw [← Array.getElem?_toList, this]
          simp [hi, cell8])
      have hds : Hid (ds = decDigits u) := by
        have h1 := hfront.out
        have h2 : v = 0 := by omega
        rw [h2] at h1
        show ds = decDigits u
        simpa [front] using h1
      clear hal hdrop hlen
      go_wp2
      go_ret
      refine ⟨?_, (Below.refl _ _).alloc (Nat.le_refl _) _⟩
      show Ending.returned (.string ⟨ds.toArray⟩) = _
      rw [hds.out]
set_option maxRecDepth 100000 in
theorem dec_zero (w : World) :
    Calls Ybad.prog 6 #[.int .u64 0] w fun e w' => e = .returned (.string ⟨(Lib.decDigits 0).toArray⟩) ∧ Below w.heap.size w w' := by
  go_enter Ybad.func6, Ybad.ntmps6
  go_wp2
  go_ret
  refine ⟨?_, Below.refl _ _⟩
  rw [decDigits_one (by omega)]
  rfl

theorem dec_any (u : Nat) (hu64 : u < 18446744073709551616) (w : World) :
    Calls Ybad.prog 6 #[.int .u64 u] w fun e w' => e = .returned (.string ⟨(Lib.decDigits u).toArray⟩) ∧ Below w.heap.size w w' := by
  rcases Nat.eq_zero_or_pos u with rfl | h
  · exact dec_zero w
  · exact dec_pos u h hu64 w

/-- The field: the numeral, and behind it, where the run is not empty, "@" and the run. -/
def fieldOf (run : ByteArray) (u : Nat) : ByteArray := if run.toList.isEmpty then ⟨(decDigits u).toArray⟩ else ⟨(decDigits u).toArray⟩ ++ ⟨#[64]⟩ ++ run

theorem digits_le (u : Nat) (hu64 : u < 18446744073709551616) : nDigits u ≤ 20 := by
  rcases Nat.eq_zero_or_pos u with rfl | h
  · rw [nDigits_small (by omega)]; omega
  · have := numDigits_eq u h hu64; split at this <;> omega

theorem digits_size (u : Nat) : (⟨(decDigits u).toArray⟩ : ByteArray).size = nDigits u := by simp [ByteArray.size, decDigits_length]

set_option maxHeartbeats 1000000 in
set_option maxRecDepth 100000 in
theorem stamp_none (run : ByteArray) (hr : run.toList.isEmpty = true) (u : Nat) (hu64 : u < 18446744073709551616) (w : World) (htab : Lib.TabIs Ybad.prog w Ybad.powName .u64 Lib.pow10Tab) :
    Calls Ybad.prog 5 #[.agg #[.string run, .int .u64 u]] w fun e w' => e = .returned (.string (fieldOf run u)) ∧ Below w.heap.size w w' := by
  go_enter Ybad.func5, Ybad.ntmps5
  go_wp2_with (go_at_call 9; refine (fmt_any u hu64 _ (Lib.tabIs_alloc htab _)).mono ?_; rintro e w' ⟨rfl, hb⟩)
  go_ret
  refine ⟨?_, ((Below.refl _ _).alloc (Nat.le_refl _) _).trans (hb.mono (by simp))⟩
  rw [fieldOf, if_pos hr]
  rfl

set_option maxHeartbeats 1000000 in
set_option maxRecDepth 100000 in
theorem stamp_some (run : ByteArray) (hr : run.toList.isEmpty = false) (hrs : run.size ≤ 140737488355328) (u : Nat) (hu64 : u < 18446744073709551616) (w : World) (htab : Lib.TabIs Ybad.prog w Ybad.powName .u64 Lib.pow10Tab) :
    Calls Ybad.prog 5 #[.agg #[.string run, .int .u64 u]] w fun e w' => e = .returned (.string (fieldOf run u)) ∧ Below w.heap.size w w' := by
  have hd : (decDigits u).length ≤ 20 := by rw [decDigits_length]; exact digits_le u hu64
  have hbox : (w.alloc (.cells #[.string run, .int .u64 u] 25)).cell? ⟨w.heap.size, 0, none⟩ = some (.string run) := by
    rw [World.cell?_alloc_new]; rfl
  go_enter Ybad.func5, Ybad.ntmps5
  go_wp2
  go_region_with (go_at_call 9; refine (fmt_any u hu64 _ ?_).mono ?_; exact Lib.tabIs_alloc htab _; rintro e w1 ⟨rfl, hb⟩; have hc1 : w1.cell? ⟨w.heap.size, 0, none⟩ = some (.string run) := (hb.cell (p := ⟨w.heap.size, 0, none⟩) (by simp)).trans hbox)
  all_goals go_wp2
  all_goals go_ret
  all_goals
    refine ⟨?_, ((Below.refl _ _).alloc (Nat.le_refl _) _).drew.trans (hb.mono (by simp))⟩
    rw [fieldOf, if_neg (by simp [hr])]
    rfl

theorem stamp_any (run : ByteArray) (hrs : run.size ≤ 140737488355328) (u : Nat) (hu64 : u < 18446744073709551616) (w : World) (htab : Lib.TabIs Ybad.prog w Ybad.powName .u64 Lib.pow10Tab) :
    Calls Ybad.prog 5 #[.agg #[.string run, .int .u64 u]] w fun e w' => e = .returned (.string (fieldOf run u)) ∧ Below w.heap.size w w' := by
  cases hr : run.toList.isEmpty
  · exact stamp_some run hr hrs u hu64 w htab
  · exact stamp_none run hr u hu64 w htab

set_option maxHeartbeats 1000000 in
set_option maxRecDepth 100000 in
theorem law_none (run : ByteArray) (hr : run.toList.isEmpty = true) (hrs : run.size ≤ 140737488355328) (u : Nat) (hu64 : u < 18446744073709551616) (w : World) (htab : Lib.TabIs Ybad.prog w Ybad.powName .u64 Lib.pow10Tab) :
    Calls Ybad.prog 3 #[.string run, .int .u64 u] w fun e w' => e = .returned (.bool true) ∧ Below w.heap.size w w' := by
  have HF : Hid (fieldOf run u = ⟨(decDigits u).toArray⟩) := by
    show fieldOf run u = _
    rw [fieldOf, if_pos hr]
  go_enter Ybad.func3, Ybad.ntmps3
  go_wp2_with (first
    | (go_at_call 5; refine (stamp_any run hrs u hu64 _ htab).mono ?_; rintro e w1 ⟨rfl, hb1⟩)
    | (go_at_call 6; refine (dec_any u hu64 _).mono ?_; rintro e w2 ⟨rfl, hb2⟩))
  go_ret
  refine ⟨?_, hb1.trans (hb2.mono hb1.size)⟩
  have e : ((fieldOf run u).toList == decDigits u) = true := by rw [HF.out]; simp [go_sem]
  exact congrArg (fun b => Ending.returned (.bool b)) e

set_option maxHeartbeats 1000000 in
set_option maxRecDepth 100000 in
theorem law_some (run : ByteArray) (hr : run.toList.isEmpty = false) (hrs : run.size ≤ 140737488355328) (u : Nat) (hu64 : u < 18446744073709551616) (w : World) (htab : Lib.TabIs Ybad.prog w Ybad.powName .u64 Lib.pow10Tab) :
    Calls Ybad.prog 3 #[.string run, .int .u64 u] w fun e w' => e = .returned (.bool true) ∧ Below w.heap.size w w' := by
  have hd : (decDigits u).length ≤ 20 := by rw [decDigits_length]; exact digits_le u hu64
  have HF : Hid (fieldOf run u = ⟨(decDigits u).toArray⟩ ++ ⟨#[64]⟩ ++ run) := by
    show fieldOf run u = _
    rw [fieldOf, if_neg (by simp [hr])]
  go_enter Ybad.func3, Ybad.ntmps3
  go_wp2_with (first
    | (go_at_call 5; refine (stamp_any run hrs u hu64 _ htab).mono ?_; rintro e w1 ⟨rfl, hb1⟩)
    | (go_at_call 6; refine (dec_any u hu64 _).mono ?_; rintro e w2 ⟨rfl, hb2⟩))
  go_ret
  refine ⟨?_, hb1.trans (hb2.mono hb1.size)⟩
  have e : ((fieldOf run u).toList == ((⟨(decDigits u).toArray⟩ : ByteArray) ++ ⟨#[64]⟩ ++ run).toList) = true := by rw [HF.out]; exact beq_self_eq_true _
  exact congrArg (fun b => Ending.returned (.bool b)) e

theorem law_any (run : ByteArray) (hrs : run.size ≤ 140737488355328) (u : Nat) (hu64 : u < 18446744073709551616) (w : World) (htab : Lib.TabIs Ybad.prog w Ybad.powName .u64 Lib.pow10Tab) :
    Calls Ybad.prog 3 #[.string run, .int .u64 u] w fun e w' => e = .returned (.bool true) ∧ Below w.heap.size w w' := by
  cases hr : run.toList.isEmpty
  · exact law_some run hr hrs u hu64 w htab
  · exact law_none run hr hrs u hu64 w htab

end Go.Proofs.YbulkahzaDoor

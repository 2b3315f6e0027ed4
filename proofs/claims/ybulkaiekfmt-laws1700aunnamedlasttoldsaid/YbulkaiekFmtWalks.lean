/-
  The walks of the law on unnamed last rooms.
-/
import Derived.Test.YbulkaiekFmtFacts
import Derived.Test.YbulkaiekFmtRows
import Derived.Deep.OwnRows
import Derived.Deep.RegionLaw
import Derived.Lib.LazyBuf
import Derived.LoopTactic
import Derived.Deep.QuietTactic
import Derived.BigQuiet
namespace Go.Proofs.YbulkaiekFmt
open Go.RowKit Go.Extern.Stop Go.Stop Go.Extern
set_option linter.unusedVariables false

theorem addr_plain (b o j : Nat) : (⟨b, o, none⟩ : Addr).add j = ⟨b, o + j, none⟩ := by simp [Addr.add]

theorem hide {p : Prop} (h : p) : Hid p := h

/-- The rooms that the law lays: block B, len rooms of five cells; the first k have these ids and names. -/
def Rooms (w : World) (B len k : Nat) (ids nms : Nat → ByteArray) : Prop :=
  ∃ f, w.rowIs B 35 (len * 5) f ∧ ∀ i, i < k → f (i * 5) = .string (ids i) ∧ f (i * 5 + 1) = .string (nms i)

theorem Rooms.id {w : World} {B len k : Nat} {ids nms : Nat → ByteArray} (h : Rooms w B len k ids nms) {i : Nat} (hi : i < k) (hk : k ≤ len) : w.cell? ⟨B, i * 5, none⟩ = some (.string (ids i)) := by
  obtain ⟨f, hr, hf⟩ := h
  rw [hr.cell (by omega), (hf i hi).1]
theorem Rooms.nm {w : World} {B len k : Nat} {ids nms : Nat → ByteArray} (h : Rooms w B len k ids nms) {i : Nat} (hi : i < k) (hk : k ≤ len) : w.cell? ⟨B, i * 5 + 1, none⟩ = some (.string (nms i)) := by
  obtain ⟨f, hr, hf⟩ := h
  rw [hr.cell (by omega), (hf i hi).2]
theorem Rooms.below {w w' : World} {B len k : Nat} {ids nms : Nat → ByteArray} (h : Rooms w B len k ids nms) (hb : Below w.heap.size w w') : Rooms w' B len k ids nms := by
  obtain ⟨f, hr, hf⟩ := h
  exact ⟨f, hr.of_block (hb.block B hr.lt), hf⟩

theorem check_none (a : Option Addr) (c : Nat) (mv : Value) (w : World) :
    Calls Ybaf.prog 6 #[.slice a 0 c, mv] w fun e w' => e = .returned .nilIface ∧ w' = w := by
  go_enter Ybaf.func6, Ybaf.ntmps6
  go_wp2
  go_ret
  exact ⟨rfl, rfl⟩

set_option maxHeartbeats 1000000 in
set_option maxRecDepth 100000 in
theorem check_named (B m : Nat) (hm : m < 1024) (mv : Value) (ids nms : Nat → ByteArray) (w : World) (hR : Rooms w B (m + 1) (m + 1) ids nms) (hn : (nms m).toList.isEmpty = false) :
    Calls Ybaf.prog 6 #[.slice (some ⟨B, 0, none⟩) (m + 1) (m + 1), mv] w fun e w' => e = .returned .nilIface ∧ w' = w := by
  have h1 := hR.nm (i := m) (by omega) (by omega)
  generalize nms m = nm at hn h1
  clear hR
  go_enter Ybaf.func6, Ybaf.ntmps6
  go_wp2
  go_ret
  exact ⟨rfl, rfl⟩

set_option maxHeartbeats 1000000 in
set_option maxRecDepth 100000 in
theorem check_unnamed (F : Interp) (B m : Nat) (hm : m < 1024) (mv : Value) (ids nms : Nat → ByteArray) (w : World) (hF : F.answers w.tape) (hR : Rooms w B (m + 1) (m + 1) ids nms) (hn : (nms m).toList.isEmpty = true) (hsz : (ids m).size ≤ maxLen)
    (hlk : ∀ W', Below w.heap.size w W' → ∀ id : ByteArray, id.size ≤ maxLen → ∃ n, (Instr.lookup 23 mv (.string id) false).run Ybaf.prog W' = .ok (.int .i64 n) W') :
    Calls Ybaf.prog 6 #[.slice (some ⟨B, 0, none⟩) (m + 1) (m + 1), mv] w fun e w' => (∃ a, e = .returned (.iface 41 (.pointer (some a)))) ∧ Below w.heap.size w w' := by
  have h1 := hR.nm (i := m) (by omega) (by omega)
  have h0 := hR.id (i := m) (by omega) (by omega)
  generalize nms m = nm at hn h1
  generalize ids m = id at h0 hsz
  obtain ⟨n, hlook⟩ := hlk w (Below.refl _ _) id hsz
  clear hR hlk hsz
  go_enter Ybaf.func6, Ybaf.ntmps6
  go_wp2_with fail
  refine (errorf_any F n id w.heap.size (w.alloc (.cells #[.iface 3 (.int .i64 n), .iface 9 (.string id)] 20)) hF (by rw [World.cell?_alloc_new]; rfl) (by rw [World.cell?_alloc_new]; rfl)).mono ?_
  rintro e w' ⟨⟨a, rfl⟩, hb⟩
  go_wp2
  go_ret
  exact ⟨⟨a, rfl⟩, ((Below.refl _ _).alloc (Nat.le_refl _) _).trans (hb.mono (by simp))⟩

abbrev z5 : Array Value := #[.string ⟨#[]⟩, .string ⟨#[]⟩, .int .i64 0, .int .i64 0, .int .i64 0]

theorem made24 (len : Nat) (hl : len ≤ 1024) (W : World) :
    (Instr.makeSlice 24 (.int .i64 0) (.int .i64 (len : Int))).run Ybaf.prog W = .ok (.slice (some ⟨W.heap.size, 0, none⟩) 0 len) (W.alloc (.cells (madeCells z5 (len * 5)) 35)) := by
  obtain ⟨i, hi, h1, h2, h3⟩ : ∃ i, Ybaf.prog.info? 35 = some i ∧ i.zero = some (.agg z5) ∧ i.size = 5 ∧ i.bytes = 56 := ⟨_, rfl, rfl, rfl, rfl⟩
  have h := run_make (P := Ybaf.prog) W 24 35 i (.agg z5) Ybaf.underlying24 hi h1 .i64 .i64 0 len (by omega) (by omega) (by rw [h3]; omega) (by omega)
  rw [h2, show (Value.agg z5).cells = z5 from rfl] at h
  simpa using h

theorem rooms_zero (len : Nat) (ids nms : Nat → ByteArray) (w : World) : Rooms (w.alloc (.cells (madeCells z5 (len * 5)) 35)) w.heap.size len 0 ids nms := by
  refine ⟨fun j => z5[j % 5]!, ?_, fun i hi => by omega⟩
  have h := World.rowIs_alloc w (madeCells z5 (len * 5)) 35 (fun j => z5[j % 5]!) (fun i hi => by
    rw [size_madeCells] at hi
    simp [madeCells, hi])
  rw [size_madeCells] at h
  exact h

theorem rooms_step {w : World} {B len k : Nat} {ids nms : Nat → ByteArray} (h : Rooms w B len k ids nms) (x : Value) (y z : Value) : Rooms (w.setCells B (k * 5) [.string (ids k), .string (nms k), x, y, z]) B len (k + 1) ids nms := by
  obtain ⟨f, hr, hf⟩ := h
  refine ⟨_, rowIs_setCells [.string (ids k), .string (nms k), x, y, z] (k * 5) w f hr, fun i hi => ?_⟩
  by_cases e : i = k
  · subst e
    constructor
    · simp
    · rw [if_pos ⟨by omega, by simp⟩, show i * 5 + 1 - i * 5 = 1 by omega]; rfl
  · obtain ⟨h1, h2⟩ := hf i (by omega)
    constructor
    · rw [if_neg (by simp; omega), h1]
    · rw [if_neg (by simp; omega), h2]

theorem Rooms.alloc {w : World} {B len k : Nat} {ids nms : Nat → ByteArray} (h : Rooms w B len k ids nms) (o : Obj) : Rooms (w.alloc o) B len k ids nms := by
  obtain ⟨f, hr, hf⟩ := h
  exact ⟨f, hr.alloc o, hf⟩
theorem Rooms.drew {w : World} {B len k : Nat} {ids nms : Nat → ByteArray} (h : Rooms w B len k ids nms) : Rooms w.drew B len k ids nms := h
theorem Rooms.lt {w : World} {B len k : Nat} {ids nms : Nat → ByteArray} (h : Rooms w B len k ids nms) : B < w.heap.size := by
  obtain ⟨f, hr, hf⟩ := h
  exact hr.lt
theorem Rooms.there {w : World} {B len k : Nat} {ids nms : Nat → ByteArray} (h : Rooms w B len k ids nms) (j : Nat) (hj : j < len * 5) : (w.cell? ⟨B, j, none⟩).isSome = true ∧ w.frozen? ⟨B, j, none⟩ = false := by
  obtain ⟨f, hr, hf⟩ := h
  exact ⟨by rw [hr.cell hj]; rfl, hr.frozen j⟩

set_option maxHeartbeats 2000000 in
set_option maxRecDepth 100000 in
theorem build_any (a0 : Option Addr) (len cap : Nat) (ids nms : Nat → ByteArray) (bc off : Nat) (w : World) (hl : len ≤ 1024)
    (ha : 0 < len → a0 = some ⟨bc, off, none⟩) (hid : ∀ i, i < len → w.cell? ⟨bc, off + i * 2, none⟩ = some (.string (ids i))) (hnm : ∀ i, i < len → w.cell? ⟨bc, off + i * 2 + 1, none⟩ = some (.string (nms i))) :
    Calls Ybaf.prog 5 #[.slice a0 len cap] w fun e w' => e = .returned (.slice (some ⟨w.heap.size, 0, none⟩) len len) ∧ Rooms w' w.heap.size len len ids nms ∧ Below w.heap.size w w' := by
  have hmk := made24 len hl
  obtain ⟨i0, hi0, hz0, hz1, hz2⟩ : ∃ i, Ybaf.prog.info? 35 = some i ∧ i.zero = some (.agg z5) ∧ i.size = 5 ∧ i.bytes = 56 := ⟨_, rfl, rfl, rfl, rfl⟩
  go_enter Ybaf.func5, Ybaf.ntmps5
  go_wp2
  clear hmk
  go_loopw [3, 4] (fun v i wr => ∃ k : Nat, k ≤ len ∧ i = .int .i64 k ∧ v = .slice (some ⟨w.heap.size, 0, none⟩) k len ∧ Rooms wr w.heap.size len k ids nms ∧ Below w.heap.size w wr) (fun _ i _ => len - (intOf i).toNat)
  case atStart => exact ⟨0, Nat.zero_le _, rfl, rfl, rooms_zero len ids nms w, (Below.refl _ _).alloc (Nat.le_refl _) _⟩
  case round =>
    obtain ⟨k, hk, rfl, rfl, hR, Bw⟩ := hrel
    by_cases hlt : k < len
    · obtain rfl := ha (by omega)
      have h1 := hid k hlt
      have h2 := hnm k hlt
      have hb := World.block_lt_of_cell? _ _ h1
      have hc1 : wr.cell? ⟨bc, off + k * 2, none⟩ = some (.string (ids k)) := (Bw.cell (p := ⟨bc, off + k * 2, none⟩) hb).trans h1
      have hc2 : wr.cell? ⟨bc, off + k * 2 + 1, none⟩ = some (.string (nms k)) := (Bw.cell (p := ⟨bc, off + k * 2 + 1, none⟩) hb).trans h2
      have hki : (k : Int) < (len : Int) := by omega
      have HR := hide hR
      clear hid hnm h1 h2 hR
      go_wp2
      have hf0 : (wr.alloc (.cells #[.string (ids k), .string (nms k), .int .i64 0, .int .i64 0, .int .i64 300000000000] 35)).drew.heap.size = wr.heap.size + 1 := by simp [World.drew]
      have s1 : Hid (∀ j u, ([.string (ids k), .string (nms k), .int .i64 0, .int .i64 0, .int .i64 300000000000] : List Value)[j]? = some u → (wr.alloc (.cells #[.string (ids k), .string (nms k), .int .i64 0, .int .i64 0, .int .i64 300000000000] 35)).drew.cell? ((⟨wr.heap.size, 0, none⟩ : Addr).add j) = some u) := by
        refine hide fun j u hj => ?_
        rw [addr_plain]
        show (wr.alloc (.cells #[.string (ids k), .string (nms k), .int .i64 0, .int .i64 0, .int .i64 300000000000] 35)).cell? ⟨wr.heap.size, 0 + j, none⟩ = some u
        rw [World.cell?_alloc_new, Nat.zero_add, ← hj]
        simp [List.getElem?_toArray]
      have s2 : Hid (∀ j, j < ([.string (ids k), .string (nms k), .int .i64 0, .int .i64 0, .int .i64 300000000000] : List Value).length → ((wr.alloc (.cells #[.string (ids k), .string (nms k), .int .i64 0, .int .i64 0, .int .i64 300000000000] 35)).drew.cell? ⟨w.heap.size, 0 + k * 5 + j, none⟩).isSome = true ∧ (wr.alloc (.cells #[.string (ids k), .string (nms k), .int .i64 0, .int .i64 0, .int .i64 300000000000] 35)).drew.frozen? ⟨w.heap.size, 0 + k * 5 + j, none⟩ = false) := by
        refine hide fun j hj => ?_
        simp only [List.length_cons, List.length_nil] at hj
        exact ((HR.out.alloc _).drew).there _ (by omega)
      have s3 : Hid (k + 1 ≤ len) := hide (by omega)
      have s4 : Hid (∀ u ∈ ([.string (ids k), .string (nms k), .int .i64 0, .int .i64 0, .int .i64 300000000000] : List Value), u.oneCell' = true) := hide (by simp [Value.oneCell'])
      have HK := hide (show k < len from hlt)
      clear hf0
      go_region_law (refine step_append_room rfl (.tmp 14) (.tmp 26) 24 rfl 35 i0 5 Ybaf.underlying24 hi0 hz1 w.heap.size 0 k len rfl ⟨wr.heap.size, 0, none⟩ 1 1 [.string (ids k), .string (nms k), .int .i64 0, .int .i64 0, .int .i64 300000000000] rfl rfl s1.out s4.out s3.out s2.out ?_)
      all_goals go_wp2
      all_goals go_roundw
      case rel =>
        refine ⟨k + 1, HK.out, by go_num, rfl, ?_, ?_⟩
        · exact rooms_step ((HR.out.alloc _).drew) _ _ _
        · exact below_setCells (Nat.le_refl _) _ _ _ (Bw.alloc (by have := Bw.size; omega) _).drew
      case measure => have := HK.out; simp [intOf]; omega
      case rel =>
        refine ⟨k + 1, HK.out, by go_num, rfl, ?_, ?_⟩
        · exact rooms_step ((HR.out.alloc _).drew) _ _ _
        · exact below_setCells (Nat.le_refl _) _ _ _ (Bw.alloc (by have := Bw.size; omega) _).drew
      case measure => have := HK.out; simp [intOf]; omega
    · obtain rfl : k = len := by omega
      have HR := hide hR
      clear hR
      go_wp2
      go_ret
      exact ⟨rfl, HR.out, Bw⟩

theorem law_big (a0 : Option Addr) (len cap : Nat) (mv : Value) (w : World) (hb : 1024 < len) : Calls Ybaf.prog 3 #[.slice a0 len cap, mv] w fun e w' => e = .returned (.bool true) ∧ w' = w := by
  go_enter Ybaf.func3, Ybaf.ntmps3
  go_wp2
  go_ret
  exact ⟨rfl, rfl⟩

set_option maxHeartbeats 2000000 in
set_option maxRecDepth 100000 in
theorem law_zero (a0 : Option Addr) (cap : Nat) (mv : Value) (w : World) : Calls Ybaf.prog 3 #[.slice a0 0 cap, mv] w fun e w' => e = .returned (.bool true) ∧ Below w.heap.size w w' := by
  go_enter Ybaf.func3, Ybaf.ntmps3
  go_wp2_with fail
  refine (build_any a0 0 cap (fun _ => ⟨#[]⟩) (fun _ => ⟨#[]⟩) 0 0 w (by omega) (fun h => by omega) (fun i h => by omega) (fun i h => by omega)).mono ?_
  rintro e w1 ⟨rfl, hR, hB⟩
  clear hR
  go_wp2_with fail
  refine (check_none _ _ _ w1).mono ?_
  rintro e w2 ⟨rfl, rfl⟩
  go_wp2
  go_loopw [8] (fun i wq => i = .int .i64 0 ∧ wq = w2) (fun i _ => 0)
  case atStart => exact ⟨rfl, rfl⟩
  case round =>
    obtain ⟨rfl, rfl⟩ := hrel
    go_wp2
    go_ret
    exact ⟨rfl, hB⟩

set_option maxHeartbeats 2000000 in
set_option maxRecDepth 100000 in
theorem law_named (m cap : Nat) (ids nms : Nat → ByteArray) (bc off : Nat) (mv : Value) (w : World) (hl : m + 1 ≤ 1024)
    (hid : ∀ i, i < m + 1 → w.cell? ⟨bc, off + i * 2, none⟩ = some (.string (ids i))) (hnm : ∀ i, i < m + 1 → w.cell? ⟨bc, off + i * 2 + 1, none⟩ = some (.string (nms i))) (hn : (nms m).toList.isEmpty = false) :
    Calls Ybaf.prog 3 #[.slice (some ⟨bc, off, none⟩) (m + 1) cap, mv] w fun e w' => e = .returned (.bool true) ∧ Below w.heap.size w w' := by
  go_enter Ybaf.func3, Ybaf.ntmps3
  go_wp2_with fail
  refine (build_any (some ⟨bc, off, none⟩) (m + 1) cap ids nms bc off w (by omega) (fun h => rfl) hid hnm).mono ?_
  rintro e w1 ⟨rfl, hR, hB⟩
  have HR := hide hR
  have hlast : w1.cell? ⟨bc, off + m * 2 + 1, none⟩ = some (.string (nms m)) := (hB.cell (p := ⟨bc, off + m * 2 + 1, none⟩) (World.block_lt_of_cell? _ _ (hnm m (by omega)))).trans (hnm m (by omega))
  have HID := hide hid
  have HNM := hide hnm
  clear hR hid hnm
  go_wp2_with fail
  refine (check_named w.heap.size m (by omega) mv ids nms w1 HR.out hn).mono ?_
  rintro e w2 ⟨rfl, rfl⟩
  go_wp2
  clear hlast
  go_loopw [8] (fun i wq => ∃ (q t : Nat), t ≤ m + 1 ∧ i = .int .i64 t ∧ wq = w2.drewN q) (fun i _ => m + 1 - (intOf i).toNat)
  case atStart => exact ⟨0, 0, Nat.zero_le _, rfl, rfl⟩
  case round =>
    obtain ⟨q, t, ht, rfl, rfl⟩ := hrel
    by_cases hlt : t < m + 1
    · have r1 : w2.cell? ⟨w.heap.size, t * 5, none⟩ = some (.string (ids t)) := HR.out.id hlt (Nat.le_refl _)
      have r2 : w2.cell? ⟨w.heap.size, t * 5 + 1, none⟩ = some (.string (nms t)) := HR.out.nm hlt (Nat.le_refl _)
      have r3 : w2.cell? ⟨bc, off + t * 2, none⟩ = some (.string (ids t)) := (hB.cell (p := ⟨bc, off + t * 2, none⟩) (World.block_lt_of_cell? _ _ (HID.out t hlt))).trans (HID.out t hlt)
      have r4 : w2.cell? ⟨bc, off + t * 2 + 1, none⟩ = some (.string (nms t)) := (hB.cell (p := ⟨bc, off + t * 2 + 1, none⟩) (World.block_lt_of_cell? _ _ (HNM.out t hlt))).trans (HNM.out t hlt)
      generalize ids t = id at r1 r3
      generalize nms t = nm at r2 r4
      have hti : (t : Int) < (m : Int) + 1 := by omega
      go_wp2
      go_quiet (fail)
      go_wp2
      go_roundw
      case rel => exact ⟨q + nq, t + 1, by omega, by go_num, by simp⟩
      case measure => simp [intOf]; omega
    · have hge : (m : Int) + 1 ≤ (t : Int) := by omega
      go_wp2
      go_ret
      exact ⟨rfl, hB.os, hB.tape, hB.output, hB.size, hB.block⟩

set_option maxHeartbeats 2000000 in
set_option maxRecDepth 100000 in
theorem law_unnamed (F : Interp) (m cap : Nat) (ids nms : Nat → ByteArray) (bc off : Nat) (mv : Value) (w : World) (hl : m + 1 ≤ 1024) (hF : F.answers w.tape)
    (hlk : ∀ W', Below w.heap.size w W' → ∀ id : ByteArray, id.size ≤ maxLen → ∃ n, (Instr.lookup 23 mv (.string id) false).run Ybaf.prog W' = .ok (.int .i64 n) W')
    (hid : ∀ i, i < m + 1 → w.cell? ⟨bc, off + i * 2, none⟩ = some (.string (ids i))) (hnm : ∀ i, i < m + 1 → w.cell? ⟨bc, off + i * 2 + 1, none⟩ = some (.string (nms i))) (hn : (nms m).toList.isEmpty = true) (hsz : Hid ((ids m).size ≤ maxLen)) :
    Calls Ybaf.prog 3 #[.slice (some ⟨bc, off, none⟩) (m + 1) cap, mv] w fun e w' => e = .returned (.bool true) ∧ Below w.heap.size w w' := by
  have HLK := hide hlk
  clear hlk
  go_enter Ybaf.func3, Ybaf.ntmps3
  go_wp2_with fail
  refine (build_any (some ⟨bc, off, none⟩) (m + 1) cap ids nms bc off w (by omega) (fun h => rfl) hid hnm).mono ?_
  rintro e w1 ⟨rfl, hR, hB1⟩
  have HR1 := hide hR
  have HID := hide hid
  have HNM := hide hnm
  clear hR hid hnm
  go_wp2_with fail
  refine (check_unnamed F w.heap.size m (by omega) mv ids nms w1 (by rw [hB1.tape]; exact hF) HR1.out hn hsz.out (fun W' hW' => HLK.out W' (hB1.trans (hW'.mono hB1.size)))).mono ?_
  rintro e w2 ⟨⟨a, rfl⟩, hB2⟩
  have HR := hide (HR1.out.below hB2)
  have hB := hB1.trans (hB2.mono hB1.size)
  have hlast : w2.cell? ⟨bc, off + m * 2 + 1, none⟩ = some (.string (nms m)) := (hB.cell (p := ⟨bc, off + m * 2 + 1, none⟩) (World.block_lt_of_cell? _ _ (HNM.out m (by omega)))).trans (HNM.out m (by omega))
  clear HR1 hB1 hB2 HLK
  go_wp2
  clear hlast
  go_loopw [8] (fun i wq => ∃ (q t : Nat), t ≤ m + 1 ∧ i = .int .i64 t ∧ wq = w2.drewN q) (fun i _ => m + 1 - (intOf i).toNat)
  case atStart => exact ⟨0, 0, Nat.zero_le _, rfl, rfl⟩
  case round =>
    obtain ⟨q, t, ht, rfl, rfl⟩ := hrel
    by_cases hlt : t < m + 1
    · have r1 : w2.cell? ⟨w.heap.size, t * 5, none⟩ = some (.string (ids t)) := HR.out.id hlt (Nat.le_refl _)
      have r2 : w2.cell? ⟨w.heap.size, t * 5 + 1, none⟩ = some (.string (nms t)) := HR.out.nm hlt (Nat.le_refl _)
      have r3 : w2.cell? ⟨bc, off + t * 2, none⟩ = some (.string (ids t)) := (hB.cell (p := ⟨bc, off + t * 2, none⟩) (World.block_lt_of_cell? _ _ (HID.out t hlt))).trans (HID.out t hlt)
      have r4 : w2.cell? ⟨bc, off + t * 2 + 1, none⟩ = some (.string (nms t)) := (hB.cell (p := ⟨bc, off + t * 2 + 1, none⟩) (World.block_lt_of_cell? _ _ (HNM.out t hlt))).trans (HNM.out t hlt)
      generalize ids t = id at r1 r3
      generalize nms t = nm at r2 r4
      have hti : (t : Int) < (m : Int) + 1 := by omega
      go_wp2
      go_quiet (fail)
      go_wp2
      go_roundw
      case rel => exact ⟨q + nq, t + 1, by omega, by go_num, by simp⟩
      case measure => simp [intOf]; omega
    · have hge : (m : Int) + 1 ≤ (t : Int) := by omega
      go_wp2
      go_ret
      exact ⟨rfl, hB.os, hB.tape, hB.output, hB.size, hB.block⟩

/-- The law on any slice of pairs, whatever the map. -/
theorem law_any (F : Interp) (a0 : Option Addr) (len cap : Nat) (ids nms : Nat → ByteArray) (bc off : Nat) (mv : Value) (w : World) (hF : F.answers w.tape)
    (hlk : ∀ W', Below w.heap.size w W' → ∀ id : ByteArray, id.size ≤ maxLen → ∃ n, (Instr.lookup 23 mv (.string id) false).run Ybaf.prog W' = .ok (.int .i64 n) W')
    (ha : 0 < len → a0 = some ⟨bc, off, none⟩) (hid : ∀ i, i < len → w.cell? ⟨bc, off + i * 2, none⟩ = some (.string (ids i))) (hnm : ∀ i, i < len → w.cell? ⟨bc, off + i * 2 + 1, none⟩ = some (.string (nms i))) (hsz : ∀ i, i < len → (ids i).size ≤ maxLen) :
    Calls Ybaf.prog 3 #[.slice a0 len cap, mv] w fun e w' => e = .returned (.bool true) ∧ Below w.heap.size w w' := by
  by_cases hb : 1024 < len
  · exact (law_big a0 len cap mv w hb).mono (by rintro e w' ⟨rfl, rfl⟩; exact ⟨rfl, Below.refl _ _⟩)
  · cases len with
    | zero => exact law_zero a0 cap mv w
    | succ m =>
      obtain rfl := ha (by omega)
      cases hn : (nms m).toList.isEmpty with
      | false => exact law_named m cap ids nms bc off mv w (by omega) hid hnm hn
      | true => exact law_unnamed F m cap ids nms bc off mv w (by omega) hF hlk hid hnm hn (hide (hsz m (by omega)))
end Go.Proofs.YbulkaiekFmt

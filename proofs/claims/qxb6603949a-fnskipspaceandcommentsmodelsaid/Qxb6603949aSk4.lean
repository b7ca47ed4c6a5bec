/-
  The forwarder (7), the copy (6), zzIsSpace (11), the bounds (5, 10).
-/
import Derived.Test.Qxb6603949aSk3
namespace Go.Proofs.Qxb6603949a
open Go.RowKit
set_option linter.unusedVariables false

@[go_sem] theorem run_eql_slice_none {P : Program} (w : World) (t e : TypeId) (a : Option Addr) (l c : Nat) (h : P.underlying t = some (.slice e)) : (binOp .eql t (.slice a l c) (.slice none 0 0)).run P w = .ok (.bool a.isNone) w := by
  simp only [binOp]
  simp [run_equal_slice_nil w t e a l c h]

/-- The bytes z, n of them, at a. -/
def SrcIn (w : World) (a : Option Addr) (n : Nat) (z : Nat → Int) : Prop := 0 < n → ∃ x, a = some x ∧ x.block < w.heap.size ∧ ∀ i, i < n → w.cell? (x.add i) = some (.int .u8 (z i))

theorem SrcIn.below {w w' : World} {a : Option Addr} {n : Nat} {z : Nat → Int} (h : SrcIn w a n z) (hb : Below w.heap.size w w') : SrcIn w' a n z := by
  intro h0
  obtain ⟨x, h1, h2, h3⟩ := h h0
  exact ⟨x, h1, Nat.lt_of_lt_of_le h2 hb.size, fun i hi => (hb.cell (by rw [add_blk]; exact h2)).trans (h3 i hi)⟩

theorem size_alloc (w : World) (o : Obj) : (w.alloc o).heap.size = w.heap.size + 1 := by
  show (Array.push _ _).size = _
  rw [Array.size_push]
theorem below_alloc (w : World) (o : Obj) : Below w.heap.size w (w.alloc o) := (Below.refl _ _).alloc (Nat.le_refl _) _

def Answer (z : Nat → Int) (n o : Nat) (p : Int × Int) (w : World) (e : Ending) (w' : World) : Prop := ∃ K, Ends z n o K ∧ e = .returned (.tuple #[.int .i64 ((o + K : Nat) : Int), .int .i64 (pos z o p K).1, .int .i64 (pos z o p K).2]) ∧ Below w.heap.size w w'

set_option maxHeartbeats 1000000 in
set_option maxRecDepth 100000 in
theorem skip7 (z : Nat → Int) (a : Option Addr) (n cap o : Nat) (l c : Int) (w : World) (hn : n ≤ 1048576) (ho : o ≤ 9223372036854775807) (hz : Hid (∀ i, i < n → 0 ≤ z i ∧ z i < 256)) (HX : Hid (SrcIn w a n z)) :
    Calls Try.prog 7 #[.slice a n cap, .int .i64 o, .int .i64 l, .int .i64 c] w (Answer z n o (l, c) w) := by
  have H12 : Hid _ := skip12 z w.heap.size a n cap o l c (w.alloc (.cells #[.slice a n cap, .int .i64 o, .int .i64 l, .int .i64 c] 32)) (heap_alloc_new w _) hn ho hz (fun h0 => by
    obtain ⟨x, h1, h2, h3⟩ := HX.out h0
    refine ⟨x, h1, by omega, by rw [size_alloc]; omega, fun i hi => ?_⟩
    exact (World.cell?_of_block (w := w) (Below.heap_alloc _ _ _ (by rw [add_blk]; exact h2))).trans (h3 i hi))
  have HB : Hid (∀ W, (w.alloc (.cells #[.slice a n cap, .int .i64 o, .int .i64 l, .int .i64 c] 32)).grownBy W (some w.heap.size) → Below w.heap.size w W) := fun W h => (below_alloc w _).grown h (by rw [size_alloc]; omega) (fun k hk => by cases hk; exact Nat.le_refl _)
  clear HX
  go_enter Try.func7, Try.ntmps7
  go_wp2_with fail
  refine Calls.mono H12.out ?_
  rintro e W ⟨rfl, K, hK, hS, hg⟩
  obtain ⟨c0, c1, c2, c3⟩ := hS.cells
  have HA : Hid (∀ V, SameMem W V → Answer z n o (l, c) w (.returned (.tuple #[.int .i64 ((o + K : Nat) : Int), .int .i64 (pos z o (l, c) K).1, .int .i64 (pos z o (l, c) K).2])) V) := by
    intro V hV
    have hb := HB.out W hg
    exact ⟨K, hK, rfl, hV.2.1.trans hb.os, hV.2.2.1.trans hb.tape, hV.2.2.2.trans hb.output, by rw [hV.1]; exact hb.size, fun k hk => by rw [hV.1]; exact hb.block k hk⟩
  clear hK hS hg
  generalize ((o + K : Nat) : Int) = t1 at *
  generalize (pos z o (l, c) K).1 = t2 at *
  generalize (pos z o (l, c) K).2 = t3 at *
  go_wp2
  go_quiet (fail)
  go_wp2
  go_ret3
  exact HA.out _ (by exact ⟨rfl, rfl, rfl, rfl⟩)

theorem info5 : (Try.prog.info? 5).map (fun i => (i.zero, i.size, i.bytes)) = some (some (.int .u8 0), 1, 1) := by kernel_rfl

theorem mkbytes (n : Nat) (hn : n ≤ 1048576) :
    ∃ Z : Array Value, (∀ w : World, (Instr.makeSlice 22 (.int .i64 (n : Int)) (.int .i64 (n : Int))).run Try.prog w = .ok (.slice (some ⟨w.heap.size, 0, none⟩) n n) (w.alloc (.cells Z 5))) ∧ Z.size = n := by
  obtain ⟨i0, hi0, hz0, hzs, hzb⟩ := info_parts info5
  refine ⟨madeCells (Value.int .u8 0).cells n, fun w => ?_, size_madeCells _ _⟩
  have := run_make (P := Try.prog) w 22 5 i0 _ Try.underlying22 hi0 hz0 .i64 .i64 (n : Int) (n : Int) (by omega) (by omega) (by rw [hzb]; omega) (by omega)
  rw [hzs] at this
  simpa using this

def Half (w : World) (g n j : Nat) (z : Nat → Int) : Prop := ∃ cur : Array Value, w.heap[g]? = some (.cells cur 5 (0, 0)) ∧ cur.size = n ∧ ∀ i, i < j → cur[i]? = some (.int .u8 (z i))

theorem Half.at {w : World} {g n j i : Nat} {z : Nat → Int} (h : Half w g n j z) (hi : i < n) : ∃ v, w.cell? ⟨g, i, none⟩ = some v ∧ w.frozen? ⟨g, i, none⟩ = false := by
  obtain ⟨cur, h1, h2, h3⟩ := h
  refine ⟨cur[i], ?_, frozen_heap h1 i⟩
  rw [cell_heap h1, Array.getElem?_eq_getElem]

theorem Half.step {w : World} {g n j : Nat} {z : Nat → Int} (h : Half w g n j z) (hj : j < n) : Half (w.setCell ⟨g, j, none⟩ (.int .u8 (z j))) g n (j + 1) z := by
  obtain ⟨cur, h1, h2, h3⟩ := h
  refine ⟨_, heap_setCell_same h1, by simpa using h2, fun i hi => ?_⟩
  rw [Array.getElem?_setIfInBounds]
  by_cases e : j = i
  · subst e
    rw [if_pos rfl, if_pos (by omega)]
  · rw [if_neg e]
    exact h3 i (by omega)

theorem add_zero_off (g j : Nat) : (⟨g, 0, none⟩ : Addr).add j = ⟨g, j, none⟩ := by
  unfold Addr.add
  by_cases h : j = 0
  · subst h; simp
  · simp [h]

theorem Half.done {w : World} {g n : Nat} {z : Nat → Int} (h : Half w g n n z) : SrcIn w (some ⟨g, 0, none⟩) n z := by
  obtain ⟨cur, h1, h2, h3⟩ := h
  intro _
  refine ⟨_, rfl, lt_of_heap h1, fun i hi => ?_⟩
  rw [add_zero_off, cell_heap h1]
  exact h3 i hi

def Copy (w : World) (n : Nat) (z : Nat → Int) (e : Ending) (w' : World) : Prop := ∃ (a : Option Addr) (c : Nat), e = .returned (.slice a n c) ∧ SrcIn w' a n z ∧ Below w.heap.size w w'

set_option maxHeartbeats 1000000 in
set_option maxRecDepth 100000 in
theorem clone6 (z : Nat → Int) (a : Option Addr) (n c : Nat) (w : World) (hn : n ≤ 1048576) (H : Hid (SrcIn w a n z)) : Calls Try.prog 6 #[.slice a n c] w (Copy w n z) := by
  cases a with
  | none =>
    have hn0 : n = 0 := by
      by_cases h : 0 < n
      · obtain ⟨x, hx, _⟩ := H.out h
        cases hx
      · omega
    subst hn0
    go_enter Try.func6, Try.ntmps6
    go_wp2
    go_ret
    exact ⟨none, 0, rfl, fun h => absurd h (Nat.lt_irrefl 0), Below.refl _ _⟩
  | some x =>
    obtain ⟨Z, hmk, hZ⟩ := mkbytes n hn
    have H0 : Hid (Half (w.alloc (.cells Z 5)) w.heap.size n 0 z ∧ Below w.heap.size w (w.alloc (.cells Z 5))) := ⟨⟨Z, heap_alloc_new w _, hZ, fun i hi => by omega⟩, below_alloc _ _⟩
    have HX : Hid (∀ j, j < n → x.block < w.heap.size ∧ w.cell? (x.add j) = some (.int .u8 (z j))) := fun j hj => by
      obtain ⟨x', h1, h2, h3⟩ := H.out (by omega)
      cases h1
      exact ⟨h2, h3 j hj⟩
    clear hZ H
    go_enter Try.func6, Try.ntmps6
    go_wp2
    generalize hG : w.heap.size = G at *
    have HG : Hid (w.heap.size = G) := hG
    clear hG
    go_loopw [4] (fun s4 wr => ∃ j : Nat, s4 = .int .i64 j ∧ j ≤ n ∧ Hid (Half wr G n j z ∧ Below G w wr)) (fun s4 _ => n - (intOf s4).toNat)
    case atStart => exact ⟨0, by go_num, Nat.zero_le _, H0⟩
    case round =>
      obtain ⟨j, rfl, hj, HJ⟩ := hrel
      by_cases hlt : j < n
      · obtain ⟨hb, hz⟩ := HX.out j hlt
        have hz' : wr.cell? (x.add j) = some (.int .u8 (z j)) := (HJ.out.2.cell (by rw [add_blk]; exact hb)).trans hz
        obtain ⟨v, c1, c2⟩ := HJ.out.1.at hlt
        have HN : Hid (Half (wr.setCell ⟨G, j, none⟩ (.int .u8 (z j))) G n (j + 1) z ∧ Below G w (wr.setCell ⟨G, j, none⟩ (.int .u8 (z j)))) := ⟨HJ.out.1.step hlt, HJ.out.2.setCell (p := ⟨G, j, none⟩) (Nat.le_refl _) _⟩
        clear hz hb
        generalize z j = zj at *
        go_wp2
        go_roundw
        case rel => exact ⟨j + 1, by go_num, by omega, HN⟩
        case measure => simp [intOf]; omega
      · obtain rfl : j = n := by omega
        have HQ : Hid (Copy w j z (.returned (.slice (some ⟨G, 0, none⟩) j j)) wr) := ⟨_, _, rfl, HJ.out.1.done, by rw [HG.out]; exact HJ.out.2⟩
        go_wp2
        go_ret
        exact HQ.out

theorem space11 (b : Int) (w : World) : Calls Try.prog 11 #[.int .u8 b] w fun e w' => e = .returned (.bool (blank b)) ∧ w' = w := by
  by_cases h1 : b = 32
  · subst h1
    go_enter Try.func11, Try.ntmps11
    go_wp2
    go_ret
    exact ⟨rfl, rfl⟩
  by_cases h2 : b = 9
  · subst h2
    go_enter Try.func11, Try.ntmps11
    go_wp2
    go_ret
    exact ⟨rfl, rfl⟩
  by_cases h3 : b = 13
  · subst h3
    go_enter Try.func11, Try.ntmps11
    go_wp2
    go_ret
    exact ⟨rfl, rfl⟩
  by_cases h4 : b = 10
  · subst h4
    go_enter Try.func11, Try.ntmps11
    go_wp2
    go_ret
    exact ⟨rfl, rfl⟩
  have t1 : (b == 32) = false := by rw [beq_eq_false_iff_ne]; exact h1
  have t2 : (b == 9) = false := by rw [beq_eq_false_iff_ne]; exact h2
  have t3 : (b == 13) = false := by rw [beq_eq_false_iff_ne]; exact h3
  have t4 : (b == 10) = false := by rw [beq_eq_false_iff_ne]; exact h4
  have hb : blank b = false := by unfold blank; rw [t1, t2, t3, t4]; rfl
  clear h1 h2 h3 h4
  rw [hb]
  go_enter Try.func11, Try.ntmps11
  go_wp2
  go_ret
  exact ⟨rfl, rfl⟩

theorem bound10 (a : Option Addr) (n c : Nat) (o l k : Int) (w : World) (hn : n ≤ 9223372036854775807) : Calls Try.prog 10 #[.slice a n c, .int .i64 o, .int .i64 l, .int .i64 k] w fun e w' => e = .returned (.bool (decide (n ≤ 1048576))) ∧ w' = w := by
  by_cases h : 1048576 < n
  · have e : decide (n ≤ 1048576) = false := by simp; omega
    rw [e]
    clear e
    go_enter Try.func10, Try.ntmps10
    go_wp2
    go_ret
    exact ⟨rfl, rfl⟩
  · have e : decide (n ≤ 1048576) = true := by simp; omega
    rw [e]
    clear e
    go_enter Try.func10, Try.ntmps10
    go_wp2
    go_ret
    exact ⟨rfl, rfl⟩

theorem bound5 (a : Option Addr) (n c : Nat) (o l k : Int) (w : World) (hn : n ≤ 9223372036854775807) : Calls Try.prog 5 #[.slice a n c, .int .i64 o, .int .i64 l, .int .i64 k] w fun e w' => e = .returned (.bool (decide (n ≤ 1048576))) ∧ w' = w := by
  by_cases h : 1048576 < n
  · have e : decide (n ≤ 1048576) = false := by simp; omega
    rw [e]
    clear e
    go_enter Try.func5, Try.ntmps5
    go_wp2
    go_ret
    exact ⟨rfl, rfl⟩
  · have e : decide (n ≤ 1048576) = true := by simp; omega
    rw [e]
    clear e
    go_enter Try.func5, Try.ntmps5
    go_wp2
    go_ret
    exact ⟨rfl, rfl⟩

theorem same_of {P : Program} {f : FuncId} {args : Array Value} {w : World} {r : Ending} {R : Ending → World → Prop} (h : Calls P f args w fun e w' => e = r ∧ w' = w) (k : R r w) : Calls P f args w R :=
  h.mono (by rintro e w' ⟨rfl, rfl⟩; exact k)
end Go.Proofs.Qxb6603949a

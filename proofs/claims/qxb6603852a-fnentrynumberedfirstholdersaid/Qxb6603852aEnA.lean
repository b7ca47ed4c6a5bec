/-
  entryNumbered (27), its forwarder (11), ZZLogEntryParts (12).
-/
import Derived.Test.Qxb6603852aEn8
import Derived.BigQuiet
namespace Go.Proofs.Qxb6603852a
open Go.RowKit
set_option linter.unusedVariables false

/-- How far q lies behind f, modulo 2^64. -/
def off (q f : Int) : Nat := ((q - f) % 18446744073709551616).toNat

theorem off_wrap (q f : Int) : IntKind.u64.wrap (q - f) = (off q f : Int) := by
  rw [IntKind.wrap_u64]
  unfold off
  omega

/-- The answer: the first run that holds q, and the entry there; or none. -/
def Ans (n : Nat) (b : Nat → BR) (q : Int) (d : Int) (m : Option Nat) (ok : Bool) : Prop :=
  (∃ i, i < n ∧ off q (b i).f < (b i).s.n ∧ (∀ k, k < i → (b k).s.n ≤ off q (b k).f) ∧ (d, m) = (b i).le (off q (b i).f) ∧ ok = true) ∨ ((∀ k, k < n → (b k).s.n ≤ off q (b k).f) ∧ d = 0 ∧ m = none ∧ ok = false)

def Found (w : World) (n : Nat) (b : Nat → BR) (q : Int) (e : Ending) (w' : World) : Prop := ∃ d m ok, e = .returned (.tuple #[.agg #[.int .u32 d, .map m], .bool ok]) ∧ Ans n b q d m ok ∧ Below w.heap.size w w'

theorem cell_old (w : World) (o : Obj) {p : Addr} {v : Value} (h : w.cell? p = some v) : (w.alloc o).cell? p = some v :=
  (World.cell?_of_block (w := w) (Below.heap_alloc _ _ _ (World.block_lt_of_cell? _ _ h))).trans h

theorem two_cells {w : World} {B : Nat} {T : TypeId} {cur : Array Value} (hr : w.heap[B]? = some (.cells cur T (0, 0))) (hs : cur.size = 2) (u v : Value) :
    ((w.setCell ⟨B, 0, none⟩ u).setCell ⟨B, 1, none⟩ v).cell? ⟨B, 0, none⟩ = some u ∧ ((w.setCell ⟨B, 0, none⟩ u).setCell ⟨B, 1, none⟩ v).cell? ⟨B, 1, none⟩ = some v := by
  have h1 := heap_setCell_same (o := 1) (v := v) (heap_setCell_same (o := 0) (v := u) hr)
  rw [cell_heap h1, cell_heap h1]
  constructor
  · rw [Array.getElem?_setIfInBounds, if_neg (by omega), Array.getElem?_setIfInBounds, if_pos rfl, if_pos (by omega)]
  · rw [Array.getElem?_setIfInBounds, if_pos rfl, if_pos (by simp; omega)]

set_option maxHeartbeats 2000000 in
set_option maxRecDepth 100000 in
theorem number27 (a : Option Addr) (n c : Nat) (b : Nat → BR) (q : Int) (w : World) (HL : Hid (LogsAt w (· < w.heap.size) ⟨a, n, c⟩ b)) (HF : Hid (∀ i, i < n → (b i).s.n ≤ 1048576)) (hn : n ≤ 1048576) : Calls Try.prog 27 #[.slice a n c, .int .u64 q] w (Found w n b q) := by
  generalize hB : w.heap.size = B at *
  have HB : Hid (w.heap.size = B) := hB
  have H0 : Hid (Below B w (w.alloc (.cells #[.int .u32 0, .map none] 39)) ∧ (w.alloc (.cells #[.int .u32 0, .map none] 39)).heap[B]? = some (.cells #[.int .u32 0, .map none] 39 (0, 0))) := by
    subst hB
    exact ⟨below_alloc _ _, heap_alloc_new w _⟩
  go_enter Try.func27, Try.ntmps27
  go_wp2
  clear hB
  go_loopw [10] (fun s10 wr => ∃ i : Nat, s10 = .int .i64 i ∧ i ≤ n ∧ Hid ((∀ k, k < i → (b k).s.n ≤ off q (b k).f) ∧ Below B w wr ∧ wr.heap[B]? = some (.cells #[.int .u32 0, .map none] 39 (0, 0)))) (fun s10 _ => n - (intOf s10).toNat)
  case atStart => exact ⟨0, by go_num, Nat.zero_le _, fun k hk => absurd hk (Nat.not_lt_zero _), H0⟩
  case round =>
    obtain ⟨i, rfl, hi, HI⟩ := hrel
    obtain ⟨l0, b0, hr⟩ := HI.out
    have e0 : wr.cell? ⟨B, 0, none⟩ = some (.int .u32 0) := by rw [cell_heap hr]; rfl
    have e1 : wr.cell? ⟨B, 1, none⟩ = some (.map none) := by rw [cell_heap hr]; rfl
    have f0 : wr.frozen? ⟨B, 0, none⟩ = false := frozen_heap hr 0
    have f1 : wr.frozen? ⟨B, 1, none⟩ = false := frozen_heap hr 1
    have hBl := lt_of_heap hr
    by_cases hlt : i < n
    · have hL := HL.out.same (ok' := (· < B)) (fun k hk => b0.block k hk) (fun _ h => h)
      obtain ⟨x, rfl, _⟩ := hL.1.1 (show 0 < n by omega)
      obtain ⟨c0, c1, c2, c3, c4⟩ := (hL.2 i hlt).1 x rfl
      have HLI : Hid (LogIn wr (· < B) (b i).s (b i).le) := (hL.2 i hlt).2
      have hF := HF.out i hlt
      have hoff := off_wrap q (b i).f
      have HA : Hid (∀ d m w', off q (b i).f < (b i).s.n → (d, m) = (b i).le (off q (b i).f) → Below B w w' → Found w n b q (.returned (.tuple #[.agg #[.int .u32 d, .map m], .bool true])) w') := fun d m w' h1 h2 h3 => ⟨d, m, true, rfl, .inl ⟨i, hlt, h1, l0, h2, rfl⟩, by rw [HB.out]; exact h3⟩
      have HN : Hid ((b i).s.n ≤ off q (b i).f → ∀ k, k < i + 1 → (b k).s.n ≤ off q (b k).f) := by
        intro h k hk
        by_cases e : k = i
        · rw [e]; exact h
        · exact l0 k (by omega)
      have HW : Hid (∀ o : Obj, Below B w (wr.alloc o) ∧ (wr.alloc o).heap[B]? = some (.cells #[.int .u32 0, .map none] 39 (0, 0))) := fun o => ⟨b0.alloc (Nat.le_of_lt hBl) o, (Below.heap_alloc _ _ _ hBl).trans hr⟩
      have HRR : Hid _ := hr
      have HBB : Hid _ := b0
      clear hL l0 b0 hr HI
      generalize hk : off q (b i).f = k at *
      clear hk
      generalize b i = bi at *
      obtain ⟨nm, ⟨ha, hn', hc'⟩, f, ⟨ea, en, ec⟩, le, ed⟩ := bi
      simp only at c0 c1 c2 c3 c4 hF hoff
      by_cases hk2 : k < en
      · obtain ⟨y, hy, hyb⟩ := HLI.out.1.1 (show 0 < en by omega)
        simp only at hy
        subst hy
        obtain ⟨d0, d1⟩ := HLI.out.2 k hk2 y rfl
        simp only at d0 d1
        have hyl : (y.add (k * 2)).block < wr.heap.size := by rw [add_blk]; omega
        obtain ⟨r0, r1⟩ := two_cells HRR.out rfl (.int .u32 (le k).1) (.map (le k).2)
        have HE : Hid (∀ o, Found w n b q (.returned (.tuple #[.agg #[.int .u32 (le k).1, .map (le k).2], .bool true])) (((wr.setCell ⟨B, 0, none⟩ (.int .u32 (le k).1)).setCell ⟨B, 1, none⟩ (.map (le k).2)).alloc o)) := by
          intro o
          refine HA.out _ _ _ hk2 rfl ?_
          refine ((HBB.out.setCell (p := ⟨B, 0, none⟩) (Nat.le_refl _) _).setCell (p := ⟨B, 1, none⟩) (Nat.le_refl _) _).alloc ?_ _
          simp [World.setCell]
          omega
        have r2 : ∀ o, (((wr.setCell ⟨B, 0, none⟩ (.int .u32 (le k).1)).setCell ⟨B, 1, none⟩ (.map (le k).2)).alloc o).cell? ⟨B, 0, none⟩ = some (.int .u32 (le k).1) := fun o => (cell_old _ _ r0)
        have r3 : ∀ o, (((wr.setCell ⟨B, 0, none⟩ (.int .u32 (le k).1)).setCell ⟨B, 1, none⟩ (.map (le k).2)).alloc o).cell? ⟨B, 1, none⟩ = some (.map (le k).2) := fun o => (cell_old _ _ r1)
        clear r0 r1
        go_wp2
        refine bodyPost_ret (v := .tuple #[.agg #[.int .u32 (le k).1, .map (le k).2], .bool true]) (by simp [results, Try.results27, go_sem, r2, r3]) rfl ?_
        exact HE.out _
      · go_wp2
        go_roundw
        case rel => exact ⟨i + 1, by go_num, by omega, HN.out (by show en ≤ k; omega), HW.out _⟩
        case measure => simp [intOf]; omega
    · obtain rfl : i = n := by omega
      obtain ⟨r0, r1⟩ := two_cells hr rfl (.int .u32 0) (.map none)
      have HE : Hid (Found w i b q (.returned (.tuple #[.agg #[.int .u32 0, .map none], .bool false])) ((wr.setCell ⟨B, 0, none⟩ (.int .u32 0)).setCell ⟨B, 1, none⟩ (.map none))) := ⟨0, none, false, rfl, .inr ⟨l0, rfl, rfl, rfl⟩, by rw [HB.out]; exact (b0.setCell (p := ⟨B, 0, none⟩) (Nat.le_refl _) _).setCell (p := ⟨B, 1, none⟩) (Nat.le_refl _) _⟩
      clear l0 b0 hr HI
      go_wp2
      refine bodyPost_ret (v := .tuple #[.agg #[.int .u32 0, .map none], .bool false]) (by simp [results, Try.results27, go_sem, r0, r1]) rfl ?_
      exact HE.out

set_option maxHeartbeats 2000000 in
set_option maxRecDepth 100000 in
theorem number11 (a : Option Addr) (n c : Nat) (b : Nat → BR) (q : Int) (w : World) (HL : Hid (LogsAt w (· < w.heap.size) ⟨a, n, c⟩ b)) (HF : Hid (∀ i, i < n → (b i).s.n ≤ 1048576)) (hn : n ≤ 1048576) : Calls Try.prog 11 #[.slice a n c, .int .u64 q] w (Found w n b q) := by
  have H27 : Hid _ := number27 a n c b q (w.alloc (.cells #[.int .u32 0, .map none] 39)) (HL.out.same (fun k hk => Below.heap_alloc _ _ _ hk) (fun k hk => by rw [size_alloc]; omega)) HF hn
  have HN : Hid (∀ W, Below (w.alloc (.cells #[.int .u32 0, .map none] 39)).heap.size (w.alloc (.cells #[.int .u32 0, .map none] 39)) W → W.heap[w.heap.size]? = some (.cells #[.int .u32 0, .map none] 39 (0, 0)) ∧ Below w.heap.size w W) := by
    intro W h
    rw [size_alloc] at h
    exact ⟨(h.block _ (Nat.lt_succ_self _)).trans (heap_alloc_new w _), (below_alloc w _).trans (h.mono (Nat.le_succ _))⟩
  go_enter Try.func11, Try.ntmps11
  go_wp2_with fail
  refine Calls.mono H27.out ?_
  rintro e W ⟨d, m, ok, rfl, hans, hbw⟩
  obtain ⟨hr, hb⟩ := HN.out W hbw
  have e0 : W.cell? ⟨w.heap.size, 0, none⟩ = some (.int .u32 0) := by rw [cell_heap hr]; rfl
  have e1 : W.cell? ⟨w.heap.size, 1, none⟩ = some (.map none) := by rw [cell_heap hr]; rfl
  have f0 : W.frozen? ⟨w.heap.size, 0, none⟩ = false := frozen_heap hr 0
  have f1 : W.frozen? ⟨w.heap.size, 1, none⟩ = false := frozen_heap hr 1
  obtain ⟨r0, r1⟩ := two_cells hr rfl (.int .u32 d) (.map m)
  have HE : Hid (Found w n b q (.returned (.tuple #[.agg #[.int .u32 d, .map m], .bool ok])) ((W.setCell ⟨w.heap.size, 0, none⟩ (.int .u32 d)).setCell ⟨w.heap.size, 1, none⟩ (.map m))) := ⟨d, m, ok, rfl, hans, (hb.setCell (p := ⟨w.heap.size, 0, none⟩) (Nat.le_refl _) _).setCell (p := ⟨w.heap.size, 1, none⟩) (Nat.le_refl _) _⟩
  clear hans hbw hr hb
  go_wp2
  refine bodyPost_ret (v := .tuple #[.agg #[.int .u32 d, .map m], .bool ok]) (by simp [results, Try.results11, go_sem, r0, r1]) rfl ?_
  exact HE.out

theorem parts12 (d : Int) (m : Option Nat) (w : World) : Calls Try.prog 12 #[.agg #[.int .u32 d, .map m]] w fun e w' => e = .returned (.tuple #[.int .u32 d, .map m]) ∧ Below w.heap.size w w' := by
  go_enter Try.func12, Try.ntmps12
  go_wp2
  go_quiet (fail)
  go_wp2
  go_ret2
  have h := below_alloc w (.cells #[.int .u32 d, .map m] 39)
  exact ⟨rfl, h.os, h.tape, h.output, h.size, h.block⟩
end Go.Proofs.Qxb6603852a

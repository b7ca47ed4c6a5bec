/-
  add, where a new block is wanted.
-/
import Derived.Test.Qxb6603852aKi1
import Derived.Test.Qxb6603852aHeap
import Derived.Deep.RegionLaw
import Derived.Deep.AppendLies
namespace Go.Proofs.Qxb6603852a
open Go.RowKit
set_option linter.unusedVariables false

theorem infoB : (Try.prog.info? 54).map (fun i => (i.zero, i.size, i.bytes)) = some (some (.slice none 0 0), 1, 24) := by kernel_rfl
theorem infoL : (Try.prog.info? 57).map (fun i => (i.zero, i.size, i.bytes)) = some (some (.agg #[.int .u64 0, .int .i64 0]), 2, 16) := by kernel_rfl

theorem mk4096 : ∃ Z : Array Value, (∀ w : World, (Instr.makeSlice 54 (.int .i64 4096) (.int .i64 4096)).run Try.prog w = .ok (.slice (some ⟨w.heap.size, 0, none⟩) 4096 4096) (w.alloc (.cells Z 57))) ∧ Z.size = 8192 ∧ ∀ j, j < 4096 → Z[j * 2]? = some (.int .u64 0) ∧ Z[j * 2 + 1]? = some (.int .i64 0) := by
  obtain ⟨i0, hi0, hz0, hzs, hzb⟩ := info_parts infoL
  refine ⟨madeCells (Value.agg #[.int .u64 0, .int .i64 0]).cells (4096 * 2), fun w => ?_, ?_, ?_⟩
  · have := run_make (P := Try.prog) w 54 57 i0 _ Try.underlying54 hi0 hz0 .i64 .i64 4096 4096 (by omega) (by omega) (by rw [hzb]; omega) (by omega)
    rw [hzs] at this
    exact this
  · rw [size_madeCells]
  · intro j hj
    have e : (Value.agg #[.int .u64 0, .int .i64 0]).cells = #[.int .u64 0, .int .i64 0] := rfl
    have h1 : j * 2 % 2 = 0 := by omega
    have h2 : (j * 2 + 1) % 2 = 1 := by omega
    have h3 : j * 2 < 8192 := by omega
    have h4 : j * 2 + 1 < 8192 := by omega
    rw [e]
    unfold madeCells
    constructor
    · simp [h1, h3]
    · simp [h2, h4]

/-- What the append of a new block leaves. -/
structure AddFacts (w : World) (B m : Nat) (bv : Value) (xs : List Value) (Z : Array Value) (h o : Int) (g cap : Nat) (w1 : World) : Prop where
  own : w1.ownsRow B 54 1 (.slice (some ⟨g, 0, none⟩) (m + 1) cap) (m + 1) (xs ++ [.slice (some ⟨w.heap.size + 1, 0, none⟩) 4096 4096])
  turned : Turned w w1 bv.ownBlock.toList
  new : g ∈ bv.ownBlock.toList ∨ w.heap.size + 3 ≤ g
  box : w1.heap[w.heap.size]? = some (.cells #[.int .u64 h, .int .i64 o] 57 (0, 0))
  zero : w1.heap[w.heap.size + 1]? = some (.cells Z 57 (0, 0))
  lt : g < w1.heap.size

def ThreeMore (w : World) (Z : Array Value) (h o : Int) (W' : World) : Prop := W'.heap = ((w.heap.push (.cells #[.int .u64 h, .int .i64 o] 57)).push (.cells Z 57)).push (.cells #[.slice (some ⟨w.heap.size + 1, 0, none⟩) 4096 4096] 54)

theorem three_at {w W' : World} {Z : Array Value} {h o : Int} (hW : ThreeMore w Z h o W') : W'.heap.size = w.heap.size + 3 ∧ (∀ k, k < w.heap.size → W'.heap[k]? = w.heap[k]?) ∧ W'.heap[w.heap.size]? = some (.cells #[.int .u64 h, .int .i64 o] 57 (0, 0)) ∧ W'.heap[w.heap.size + 1]? = some (.cells Z 57 (0, 0)) ∧ W'.heap[w.heap.size + 2]? = some (.cells #[.slice (some ⟨w.heap.size + 1, 0, none⟩) 4096 4096] 54 (0, 0)) := by
  unfold ThreeMore at hW
  rw [hW]
  refine ⟨by simp, ?_, ?_, ?_, ?_⟩
  · intro k hk
    rw [Array.getElem?_push, if_neg (by simp; omega), Array.getElem?_push, if_neg (by simp; omega), Array.getElem?_push, if_neg (by omega)]
  · rw [Array.getElem?_push, if_neg (by simp; omega), Array.getElem?_push, if_neg (by simp), Array.getElem?_push, if_pos rfl]
  · rw [Array.getElem?_push, if_neg (by simp), Array.getElem?_push, if_pos (by simp)]
  · rw [Array.getElem?_push, if_pos (by simp)]

theorem add_facts {w W' w1 : World} {B m g cap : Nat} {bv : Value} {xs : List Value} {Z : Array Value} {h o : Int} (hgr : W'.grownBy w1 bv.ownBlock) (ho : Own w B 54 bv xs)
    (hW : ThreeMore w Z h o W') (hos : W'.os = w.os ∧ W'.tape = w.tape ∧ W'.output = w.output)
    (hown : w1.ownsRow B 54 1 (.slice (some ⟨g, 0, none⟩) (m + 1) cap) (m + 1) (xs ++ [.slice (some ⟨w.heap.size + 1, 0, none⟩) 4096 4096])) (hat : bv.ownBlock = some g ∨ g = w.heap.size + 3) (hlt : g < w1.heap.size) : AddFacts w B m bv xs Z h o g cap w1 := by
  obtain ⟨hsz, hk, hb, hz, _⟩ := three_at hW
  have T1 : Turned w W' bv.ownBlock.toList := ⟨hos.1, hos.2.1, hos.2.2, by omega, fun k h1 _ => hk k h1⟩
  have T2 : Turned W' w1 bv.ownBlock.toList := Turned.grown hgr (fun x hx => .inl (by rw [hx]; simp))
  have old : ∀ k, w.heap.size ≤ k → k < w.heap.size + 3 → w1.heap[k]? = W'.heap[k]? := by
    intro k h1 h2
    refine T2.block k (by omega) ?_
    intro hk
    have := (own_mem_lt ho k hk).1
    omega
  refine ⟨hown, T1.trans T2 (fun x hx => .inl hx), ?_, ?_, ?_, hlt⟩
  · rcases hat with e | e
    · exact .inl (by rw [e]; simp)
    · exact .inr (by omega)
  · rw [old _ (by omega) (by omega), hb]
  · rw [old _ (by omega) (by omega), hz]

def NewPost (w : World) (B X n m : Nat) (bv : Value) (xs : List Value) (Z : Array Value) (h o : Int) (e : Ending) (w' : World) : Prop :=
  e = .returned (.tuple #[]) ∧ ∃ g cap w1 q, AddFacts w B m bv xs Z h o g cap w1 ∧
    w' = ((((w1.setCell ⟨X, 0, none⟩ (.slice (some ⟨g, 0, none⟩) (m + 1) cap)).setCell ⟨w.heap.size + 1, 0, none⟩ (.int .u64 h)).setCell ⟨w.heap.size + 1, 1, none⟩ (.int .i64 o)).setCell ⟨X, 1, none⟩ (.int .i64 ((n : Int) + 1))).drewN q

set_option maxHeartbeats 1000000 in
set_option maxRecDepth 100000 in
theorem add_new (B X n m : Nat) (bv : Value) (s : Bool) (xs : List Value) (Z : Array Value) (h o : Int) (w : World) (hB : B ≤ w.heap.size) (hx : w.heap[X]? = some (.cells #[bv, .int .i64 n, .bool s] 81 (0, 0))) (hXb : ∀ x ∈ bv.ownBlock.toList, x ≠ X) (hn : n ≤ 1000000) (hr : (n : Int) % 4096 = 0) (hq : (n : Int) / 4096 = m)
    (ho : Own w B 54 bv xs) (hm : xs.length = m) (hl : m ≤ 1000) (hZ : Z.size = 8192) (hmk : ∀ w : World, (Instr.makeSlice 54 (.int .i64 4096) (.int .i64 4096)).run Try.prog w = .ok (.slice (some ⟨w.heap.size, 0, none⟩) 4096 4096) (w.alloc (.cells Z 57))) :
    Calls Try.prog 29 #[.pointer (some ⟨X, 0, none⟩), .agg #[.int .u64 h, .int .i64 o]] w (NewPost w B X n m bv xs Z h o) := by
  obtain ⟨i0, hi0, hz0, hzs, hzb⟩ := info_parts infoB
  have hX : X < w.heap.size := lt_of_heap hx
  have hX1 : X < w.heap.size + 1 := by omega
  have hX2 : X < w.heap.size + 1 + 1 := by omega
  have hX3 : X < w.heap.size + 2 := by omega
  have h0 : w.cell? ⟨X, 0, none⟩ = some bv := by rw [cell_heap hx]; rfl
  have h1 : w.cell? ⟨X, 1, none⟩ = some (.int .i64 n) := by rw [cell_heap hx]; rfl
  have HO : Hid (∀ W' : World, ThreeMore w Z h o W' → W'.ownsRow B 54 1 bv m xs) := by
    intro W' hW
    have h2 := own_keptL ho (w' := W') (fun x hx => (three_at hW).2.1 x (own_mem_lt ho x hx).1)
    unfold Own at h2
    rwa [hm] at h2
  have HN : Hid (∀ W' : World, ThreeMore w Z h o W' → ∀ j u, [Value.slice (some ⟨w.heap.size + 1, 0, none⟩) 4096 4096][j]? = some u → W'.cell? ((⟨w.heap.size + 2, 0, none⟩ : Addr).add j) = some u) := by
    intro W' hW j u hj
    rw [Addr.add_lit, Nat.zero_add, cell_heap (three_at hW).2.2.2.2]
    cases j with
    | zero => simpa using hj
    | succ j => simp at hj
  have HS : Hid (∀ W' : World, ThreeMore w Z h o W' → W'.heap.size = w.heap.size + 3) := fun W' hW => (three_at hW).1
  have HB : Hid (∀ W' : World, ThreeMore w Z h o W' → B ≤ W'.heap.size) := by
    intro W' hW
    rw [(three_at hW).1]
    omega
  have HW : Hid (Own w B 54 bv xs) := ho
  obtain ⟨z0, z1, hz⟩ : ∃ z0 z1, Z[0]? = some z0 ∧ Z[1]? = some z1 := ⟨_, _, Array.getElem?_eq_getElem (by omega), Array.getElem?_eq_getElem (by omega)⟩
  have HX : Hid (∀ g cap w1, AddFacts w B m bv xs Z h o g cap w1 → w1.cell? ⟨X, 0, none⟩ = some bv ∧ w1.cell? ⟨X, 1, none⟩ = some (.int .i64 n) ∧ w1.frozen? ⟨X, 0, none⟩ = false ∧ w1.frozen? ⟨X, 1, none⟩ = false ∧
      w1.cell? ⟨g, m, none⟩ = some (.slice (some ⟨w.heap.size + 1, 0, none⟩) 4096 4096) ∧ w1.cell? ⟨w.heap.size, 0, none⟩ = some (.int .u64 h) ∧ w1.cell? ⟨w.heap.size, 1, none⟩ = some (.int .i64 o) ∧
      w1.cell? ⟨w.heap.size + 1, 0, none⟩ = some z0 ∧ w1.cell? ⟨w.heap.size + 1, 1, none⟩ = some z1 ∧ w1.frozen? ⟨w.heap.size + 1, 0, none⟩ = false ∧ w1.frozen? ⟨w.heap.size + 1, 1, none⟩ = false ∧ ¬ g = X ∧ ¬ g = w.heap.size + 1 ∧ ¬ X = g ∧ w.heap.size + 1 < w1.heap.size) := by
    intro g cap w1 F
    have hx1 : w1.heap[X]? = some (.cells #[bv, .int .i64 n, .bool s] 81 (0, 0)) := (F.turned.block X hX (fun e => hXb X e rfl)).trans hx
    have hgX : ¬ g = X := by
      rcases F.new with e | e
      · exact hXb g e
      · omega
    have hgn : ¬ g = w.heap.size + 1 := by
      rcases F.new with e | e
      · have := (own_mem_lt ho g e).1
        omega
      · omega
    have hO : Own w1 B 54 (.slice (some ⟨g, 0, none⟩) (m + 1) cap) (xs ++ [.slice (some ⟨w.heap.size + 1, 0, none⟩) 4096 4096]) := by
      unfold Own
      have := F.own
      rwa [List.length_append, hm]
    refine ⟨by rw [cell_heap hx1]; rfl, by rw [cell_heap hx1]; rfl, frozen_heap hx1 0, frozen_heap hx1 1, (own_cell hO (by rw [← hm]; simp)).1, by rw [cell_heap F.box]; rfl, by rw [cell_heap F.box]; rfl, by rw [cell_heap F.zero]; exact hz.1, by rw [cell_heap F.zero]; exact hz.2, frozen_heap F.zero 0, frozen_heap F.zero 1, hgX, hgn, fun e => hgX e.symm, lt_of_heap F.zero⟩
  clear ho hx
  go_enter Try.func29, Try.ntmps29
  go_wp2
  go_region_law (refine step_append_lies _ rfl (.tmp 14) (.tmp 16) 53 rfl B 54 i0 _ 1 24 Try.underlying53 hi0 hz0 hzs hzb rfl (by omega) bv m xs (by simp [Act.eval]) (HO.out _ rfl) ⟨w.heap.size + 2, 0, none⟩ 1 1 [.slice (some ⟨w.heap.size + 1, 0, none⟩) 4096 4096] (by simp [Act.eval]) rfl (HN.out _ rfl) (fun u hu => by rw [List.mem_singleton.1 hu]; rfl) (by omega) (by unfold maxLen; omega) (by omega) (HB.out _ rfl) (w.heap.size + 3) (HS.out _ rfl) ?_; intro g cap w1 hown hgr hat hlt; have HF : Hid (AddFacts w B m bv xs Z h o g cap w1) := add_facts hgr HW.out rfl ⟨rfl, rfl, rfl⟩ hown hat hlt; clear hown hgr hat hlt; obtain ⟨c1, c2, c3, c4, c5, c6, c7, c8, c9, c10, c11, c12, c13, c14, c15⟩ := HX.out g cap w1 HF.out)
  all_goals
    go_wp2
    go_region
    go_wp2
    refine bodyPost_end (v := .tuple #[]) (by simp [results, Try.results29, go_sem]) rfl ?_
    exact ⟨rfl, g, cap, w1, 1, HF.out, rfl⟩
end Go.Proofs.Qxb6603852a

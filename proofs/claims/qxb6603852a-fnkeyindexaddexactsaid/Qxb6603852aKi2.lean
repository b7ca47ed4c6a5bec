/-
  add, where the block is there.
-/
import Derived.Test.Qxb6603852aKi1
import Derived.Test.Qxb6603852aHeap
import Derived.Deep.RegionLaw
namespace Go.Proofs.Qxb6603852a
open Go.RowKit
set_option linter.unusedVariables false

set_option maxHeartbeats 1000000 in
set_option maxRecDepth 100000 in
theorem add_there (X bv cap m n g : Nat) (h o : Int) (w : World) (hX : X < w.heap.size) (hbv : bv < w.heap.size) (hg : g < w.heap.size) (hXg : ¬ X = g) (h0 : w.cell? ⟨X, 0, none⟩ = some (.slice (some ⟨bv, 0, none⟩) m cap)) (h1 : w.cell? ⟨X, 1, none⟩ = some (.int .i64 n)) (hn : n ≤ 1000000) (hr : n % 4096 ≠ 0) (hc : n / 4096 < m)
    (h2 : w.cell? ⟨bv, n / 4096, none⟩ = some (.slice (some ⟨g, 0, none⟩) 4096 4096)) (v1 v2 : Value) (h3 : w.cell? ⟨g, n % 4096 * 2, none⟩ = some v1) (h4 : w.cell? ⟨g, n % 4096 * 2 + 1, none⟩ = some v2) (f3 : w.frozen? ⟨g, n % 4096 * 2, none⟩ = false) (f4 : w.frozen? ⟨g, n % 4096 * 2 + 1, none⟩ = false) (fX : w.frozen? ⟨X, 1, none⟩ = false) :
    Calls Try.prog 29 #[.pointer (some ⟨X, 0, none⟩), .agg #[.int .u64 h, .int .i64 o]] w fun e w' => e = .returned (.tuple #[]) ∧ w' = ((((w.setCell ⟨g, n % 4096 * 2, none⟩ (.int .u64 h)).setCell ⟨g, n % 4096 * 2 + 1, none⟩ (.int .i64 o)).setCell ⟨X, 1, none⟩ (.int .i64 ((n : Int) + 1))).alloc (.cells #[.int .u64 h, .int .i64 o] 57)).drew := by
  have e1 : ((n : Int) / 4096) = ((n / 4096 : Nat) : Int) := by omega
  have e2 : ((n : Int) % 4096) = ((n % 4096 : Nat) : Int) := by omega
  have l2 : n % 4096 < 4096 := by omega
  have l3 : 0 < n % 4096 := by omega
  generalize n / 4096 = c at *
  generalize n % 4096 = r at *
  go_enter Try.func29, Try.ntmps29
  go_wp2
  go_region
  go_wp2
  refine bodyPost_end (v := .tuple #[]) (by simp [results, Try.results29, go_sem]) rfl ?_
  exact ⟨rfl, rfl⟩
end Go.Proofs.Qxb6603852a

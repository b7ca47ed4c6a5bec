/-
  The key index: makers and readers.
-/
import Derived.Test.Qxb6603852aRows
import Derived.WalkKit
import Derived.ProofKit
import Derived.BigQuiet
import Derived.Below
namespace Go.Proofs.Qxb6603852a
open Go.RowKit

theorem mkline (h o : Int) (w : World) : Calls Try.prog 16 #[.int .u64 h, .int .i64 o] w fun e w' => e = .returned (.agg #[.int .u64 h, .int .i64 o]) ∧ w' = w.alloc (.cells #[.int .u64 h, .int .i64 o] 57) := by
  go_enter Try.func16, Try.ntmps16
  go_wp2
  refine bodyPost_ret (v := .agg #[.int .u64 h, .int .i64 o]) (by simp [results, Try.results16, go_sem]) rfl ?_
  exact ⟨rfl, rfl⟩

theorem mkindex (a : Option Addr) (l c : Nat) (n : Int) (s : Bool) (w : World) : Calls Try.prog 17 #[.slice a l c, .int .i64 n, .bool s] w fun e w' => e = .returned (.pointer (some ⟨w.heap.size, 0, none⟩)) ∧ w' = w.alloc (.cells #[.slice a l c, .int .i64 n, .bool s] 81) := by
  go_enter Try.func17, Try.ntmps17
  go_wp2
  go_ret
  exact ⟨rfl, rfl⟩

theorem parts (X : Nat) (v : Value) (n : Int) (s : Bool) (w : World) (h0 : w.cell? ⟨X, 0, none⟩ = some v) (h1 : w.cell? ⟨X, 1, none⟩ = some (.int .i64 n)) (h2 : w.cell? ⟨X, 2, none⟩ = some (.bool s)) : Calls Try.prog 19 #[.pointer (some ⟨X, 0, none⟩)] w fun e w' => e = .returned (.tuple #[v, .int .i64 n, .bool s]) ∧ ∃ q, w' = w.drewN q := by
  go_enter Try.func19, Try.ntmps19
  go_wp2
  go_quiet (fail)
  go_wp2
  go_ret3
  exact ⟨rfl, _, rfl⟩

theorem lineparts (h o : Int) (w : World) : Calls Try.prog 20 #[.agg #[.int .u64 h, .int .i64 o]] w fun e w' => e = .returned (.tuple #[.int .u64 h, .int .i64 o]) ∧ ∃ q, w' = (w.alloc (.cells #[.int .u64 h, .int .i64 o] 57)).drewN q := by
  go_enter Try.func20, Try.ntmps20
  go_wp2
  go_quiet (fail)
  go_wp2
  go_ret2
  exact ⟨rfl, _, rfl⟩

def SomeBool (w : World) (e : Ending) (w' : World) : Prop := ∃ bb : Bool, e = .returned (.bool bb) ∧ w' = w

theorem bytes21 (a : Option Addr) (n c : Nat) (w : World) (_hn : n ≤ 9223372036854775807) : Calls Try.prog 21 #[.slice a n c] w (SomeBool w) := by
  by_cases hb : 1048576 < n
  · go_enter Try.func21, Try.ntmps21
    go_wp2
    go_ret
    exact ⟨false, rfl, rfl⟩
  · go_enter Try.func21, Try.ntmps21
    go_wp2
    go_ret
    exact ⟨true, rfl, rfl⟩
end Go.Proofs.Qxb6603852a

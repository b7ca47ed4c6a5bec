/-
  leaf, size and find, said of a node's two cells.
-/
import Derived.Test.Qxb6603837aSearch
import Derived.Test.Qxb6603837aCut
import Derived.WalkLawsBesides
namespace Go.Proofs.Qxb6603837a
open Go.RowKit

theorem q56 (w : World) (a : Option Addr) (n c n' c' : Nat) : (binOp .eql 56 (.slice a n c) (.slice none n' c')).run Try.prog w = .ok (.bool a.isNone) w := Lib.run_eql_slice_nil w _ _ a n c n' c' Try.underlying56

theorem leaf_true (b : Nat) (w : World) (h1 : w.cell? ⟨b, 1, none⟩ = some (.slice none 0 0)) :
    Calls Try.prog 35 #[.pointer (some ⟨b, 0, none⟩)] w fun e w' => e = .returned (.bool true) ∧ w' = w := by
  have q := q56
  go_enter Try.func35, Try.ntmps35
  go_wp2
  go_ret
  exact ⟨rfl, rfl⟩

theorem leaf_false (b n c : Nat) (a : Addr) (w : World) (h1 : w.cell? ⟨b, 1, none⟩ = some (.slice (some a) n c)) :
    Calls Try.prog 35 #[.pointer (some ⟨b, 0, none⟩)] w fun e w' => e = .returned (.bool false) ∧ w' = w := by
  have q := q56
  go_enter Try.func35, Try.ntmps35
  go_wp2
  go_ret
  exact ⟨rfl, rfl⟩

theorem size_leaf (b n c : Nat) (a : Option Addr) (w : World) (h0 : w.cell? ⟨b, 0, none⟩ = some (.slice a n c)) (h1 : w.cell? ⟨b, 1, none⟩ = some (.slice none 0 0)) :
    Calls Try.prog 39 #[.pointer (some ⟨b, 0, none⟩)] w fun e w' => e = .returned (.int .i64 n) ∧ w' = w := by
  go_enter Try.func39, Try.ntmps39
  go_wp2_with (go_at_call 35; refine (leaf_true _ _ h1).mono ?_; rintro e w' ⟨rfl, rfl⟩)
  go_ret
  exact ⟨rfl, rfl⟩

theorem size_inner (b n c : Nat) (a : Addr) (w : World) (h1 : w.cell? ⟨b, 1, none⟩ = some (.slice (some a) n c)) :
    Calls Try.prog 39 #[.pointer (some ⟨b, 0, none⟩)] w fun e w' => e = .returned (.int .i64 n) ∧ w' = w := by
  go_enter Try.func39, Try.ntmps39
  go_wp2_with (go_at_call 35; refine (leaf_false _ _ _ _ _ h1).mono ?_; rintro e w' ⟨rfl, rfl⟩)
  go_ret
  exact ⟨rfl, rfl⟩

set_option maxHeartbeats 400000 in
theorem find_leaf (B b : Nat) (kv : Value) (ks : List ByteArray) (k : ByteArray) (w : World) (h0 : w.cell? ⟨b, 0, none⟩ = some kv) (h1 : w.cell? ⟨b, 1, none⟩ = some (.slice none 0 0))
    (ho : Own w B 9 kv (ks.map Value.string)) (ha : Asc ks) (hl : ks.length ≤ 100000) :
    Calls Try.prog 36 #[.pointer (some ⟨b, 0, none⟩), .string k] w fun e w' => e = .returned (.tuple #[.int .i64 (lb k ks : Nat), .bool (has k ks)]) ∧ ∃ q, w' = w.drewN q := by
  have hb := bs_own B kv ks k w ho ha hl
  have HB : Hid _ := hb
  clear hb ho
  cases hh : has k ks
  all_goals
    rw [hh] at HB
    go_enter Try.func36, Try.ntmps36
    go_wp2_with fail
    refine Calls.mono HB.out ?_
    rintro e w' ⟨rfl, q, rfl⟩
    go_wp2_with (go_at_call 35; refine (leaf_true _ _ (by exact h1)).mono ?_; rintro e w' ⟨rfl, rfl⟩)
    go_ret2
    exact ⟨rfl, q, rfl⟩

set_option maxHeartbeats 400000 in
theorem find_inner (B b n c : Nat) (a : Addr) (kv : Value) (ks : List ByteArray) (k : ByteArray) (w : World) (h0 : w.cell? ⟨b, 0, none⟩ = some kv) (h1 : w.cell? ⟨b, 1, none⟩ = some (.slice (some a) n c))
    (ho : Own w B 9 kv (ks.map Value.string)) (ha : Asc ks) (hl : ks.length ≤ 100000) :
    Calls Try.prog 36 #[.pointer (some ⟨b, 0, none⟩), .string k] w fun e w' => e = .returned (.tuple #[.int .i64 (ub k ks : Nat), .bool false]) ∧ ∃ q, w' = w.drewN q := by
  have hb := bs_own B kv ks k w ho ha hl
  have hlb := lb_le k ks
  have HB : Hid _ := hb
  have hu := ub_eq k ks ha
  have HU : Hid _ := hu
  clear hb ho hu
  cases hh : has k ks
  all_goals
    rw [hh] at HB HU
    go_enter Try.func36, Try.ntmps36
    go_wp2_with fail
    refine Calls.mono HB.out ?_
    rintro e w' ⟨rfl, q, rfl⟩
    go_wp2_with (go_at_call 35; refine (leaf_false _ _ _ _ _ (by exact h1)).mono ?_; rintro e w' ⟨rfl, rfl⟩)
    go_ret2
    refine ⟨?_, q, rfl⟩
    rw [HU.out]
    rfl
end Go.Proofs.Qxb6603837a

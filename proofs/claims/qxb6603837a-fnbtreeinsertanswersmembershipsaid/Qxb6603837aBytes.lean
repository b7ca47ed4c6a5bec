/-
  zzBytes and zzKeyBytes: both answer, and write nothing.
-/
import Derived.Test.Qxb6603837aHolds
namespace Go.Proofs.Qxb6603837a
open Go.RowKit

def SomeBool (w : World) (e : Ending) (w' : World) : Prop := ∃ bb : Bool, e = .returned (.bool bb) ∧ w' = w
def SomeInt (w : World) (e : Ending) (w' : World) : Prop := ∃ r : Nat, r ≤ 10000000 ∧ e = .returned (.int .i64 r) ∧ w' = w

theorem bytes8_nil (w : World) : Calls Try.prog 8 #[.slice none 0 0] w fun e w' => e = .returned (.bool true) ∧ w' = w := by
  go_enter Try.func8, Try.ntmps8
  go_wp2
  go_loop [3, 4] (fun a b => a = .int .i64 0 ∧ b = .int .i64 0) (fun _ _ => 0)
  case atStart => exact ⟨rfl, rfl⟩
  case round =>
    obtain ⟨rfl, rfl⟩ := hrel
    go_wp2
    go_ret
    exact ⟨rfl, rfl⟩

set_option maxHeartbeats 1000000 in
set_option maxRecDepth 100000 in
theorem bytes8_row (x : Addr) (cap : Nat) (ks : List ByteArray) (w : World) (HC : Hid (∀ i (hi : i < ks.length), w.cell? (x.add i) = some (.string ks[i]))) :
    Calls Try.prog 8 #[.slice (some x) ks.length cap] w (SomeBool w) := by
  by_cases hn : 1048576 < ks.length
  · go_enter Try.func8, Try.ntmps8
    go_wp2
    go_ret
    exact ⟨false, rfl, rfl⟩
  · go_enter Try.func8, Try.ntmps8
    go_wp2
    go_loop [3, 4] (fun a b => ∃ i T : Nat, a = .int .i64 T ∧ b = .int .i64 i ∧ i ≤ ks.length ∧ T ≤ 1048576) (fun _ b => ks.length - (intOf b).toNat)
    case atStart => exact ⟨0, ks.length, by go_num, by go_num, Nat.zero_le _, by omega⟩
    case round =>
      obtain ⟨i, T, rfl, rfl, hi, hT⟩ := hrel
      by_cases hlt : i < ks.length
      · have hc := HC.out i hlt
        generalize ks[i] = X at *
        by_cases hX : 1048576 < X.size
        · go_wp2
          go_ret
          exact ⟨false, rfl, rfl⟩
        · by_cases hS : 1048576 < T + X.size
          · go_wp2
            go_ret
            exact ⟨false, rfl, rfl⟩
          · go_wp2
            go_round
            case rel => exact ⟨i + 1, T + X.size, by go_num, by go_num, by omega, by omega⟩
            case measure => simp [intOf]; omega
      · obtain rfl : i = ks.length := by omega
        go_wp2
        go_ret
        exact ⟨true, rfl, rfl⟩

theorem keybytes_nil (T : Nat) (w : World) : Calls Try.prog 9 #[.slice none 0 0, .int .i64 T] w fun e w' => e = .returned (.int .i64 T) ∧ w' = w := by
  go_enter Try.func9, Try.ntmps9
  go_wp2
  go_loop [1, 5] (fun a b => a = .int .i64 T ∧ b = .int .i64 0) (fun _ _ => 0)
  case atStart => exact ⟨rfl, rfl⟩
  case round =>
    obtain ⟨rfl, rfl⟩ := hrel
    go_wp2
    go_ret
    exact ⟨rfl, rfl⟩

set_option maxHeartbeats 1000000 in
set_option maxRecDepth 100000 in
theorem keybytes_row (x : Addr) (cap T0 : Nat) (ks : List ByteArray) (w : World) (hl : ks.length ≤ 16384) (hT0 : T0 ≤ 1048576) (HC : Hid (∀ i (hi : i < ks.length), w.cell? (x.add i) = some (.string ks[i]))) :
    Calls Try.prog 9 #[.slice (some x) ks.length cap, .int .i64 T0] w (SomeInt w) := by
  go_enter Try.func9, Try.ntmps9
  go_wp2
  go_loop [1, 5] (fun a b => ∃ i T : Nat, a = .int .i64 T ∧ b = .int .i64 i ∧ i ≤ ks.length ∧ T ≤ 4000000) (fun _ b => ks.length - (intOf b).toNat)
  case atStart => exact ⟨0, T0, by go_num, by go_num, Nat.zero_le _, by omega⟩
  case round =>
    obtain ⟨i, T, rfl, rfl, hi, hT⟩ := hrel
    by_cases hlt : i < ks.length
    · have hc := HC.out i hlt
      generalize ks[i] = X at *
      by_cases hS : 1048576 < T
      · go_wp2
        go_ret
        exact ⟨1048577, by omega, rfl, rfl⟩
      · by_cases hX : 1048576 < X.size
        · go_wp2
          go_ret
          exact ⟨1048577, by omega, rfl, rfl⟩
        · go_wp2
          go_round
          case rel => exact ⟨i + 1, T + (X.size + 16), by go_num, by go_num, by omega, by omega⟩
          case measure => simp [intOf]; omega
    · obtain rfl : i = ks.length := by omega
      go_wp2
      go_ret
      exact ⟨T, by omega, rfl, rfl⟩
end Go.Proofs.Qxb6603837a

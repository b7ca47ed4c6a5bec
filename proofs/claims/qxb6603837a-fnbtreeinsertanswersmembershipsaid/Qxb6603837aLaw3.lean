/-
  FnBtreeInsertMatchesSortedSet: the walk.
-/
import Derived.Test.Qxb6603837aBytes
namespace Go.Proofs.Qxb6603837a
open Go.RowKit

theorem bytes8_zero (a : Option Addr) (c : Nat) (w : World) : Calls Try.prog 8 #[.slice a 0 c] w fun e w' => e = .returned (.bool true) ∧ w' = w := by
  go_enter Try.func8, Try.ntmps8
  go_wp2
  go_loop [3, 4] (fun a b => a = .int .i64 0 ∧ b = .int .i64 0) (fun _ _ => 0)
  case atStart => exact ⟨rfl, rfl⟩
  case round =>
    obtain ⟨rfl, rfl⟩ := hrel
    go_wp2
    go_ret
    exact ⟨rfl, rfl⟩

theorem keybytes_zero (a : Option Addr) (c T : Nat) (w : World) : Calls Try.prog 9 #[.slice a 0 c, .int .i64 T] w fun e w' => e = .returned (.int .i64 T) ∧ w' = w := by
  go_enter Try.func9, Try.ntmps9
  go_wp2
  go_loop [1, 5] (fun a b => a = .int .i64 T ∧ b = .int .i64 0) (fun _ _ => 0)
  case atStart => exact ⟨rfl, rfl⟩
  case round =>
    obtain ⟨rfl, rfl⟩ := hrel
    go_wp2
    go_ret
    exact ⟨rfl, rfl⟩

theorem build_zero (a : Option Addr) (c : Nat) (w : World) : Calls Try.prog 10 #[.slice a 0 c] w (BuildPost w) := by
  go_enter Try.func10, Try.ntmps10
  go_wp2_with fail
  refine (newleaf_any w).mono ?_
  rintro e W0 ⟨rfl, rfl⟩
  go_wp2
  go_loop [5, 6, 7] (fun a b c => a = .pointer (some ⟨w.heap.size, 0, none⟩) ∧ b = .slice none 0 0 ∧ c = .int .i64 0) (fun _ _ _ => 0)
  case atStart => exact ⟨rfl, rfl, rfl⟩
  case round =>
    obtain ⟨rfl, rfl, rfl⟩ := hrel
    go_wp2
    go_ret3
    exact ⟨_, _, [], _, rfl, ⟨newleaf_tree w _ (Nat.le_refl _), ⟨rfl, .inl ⟨rfl, rfl⟩⟩, List.Pairwise.nil, (fun x hx => by simp [Value.ownBlock] at hx), (Turned.alloc w _ []).size⟩, (Below.refl _ _).alloc (Nat.le_refl _) _, Nat.zero_le _⟩

set_option maxHeartbeats 1000000 in
set_option maxRecDepth 100000 in
theorem law3_zero (a : Option Addr) (c : Nat) (w : World) : Calls Try.prog 3 #[.slice a 0 c] w fun e w' => e = .returned (.bool true) ∧ Below w.heap.size w w' := by
  go_enter Try.func3, Try.ntmps3
  go_wp2_with fail
  refine same_of (bytes8_zero a c w) ?_
  go_wp2_with fail
  refine same_of (keybytes_zero a c 0 w) ?_
  go_wp2_with fail
  refine (build_zero a c w).mono ?_
  rintro e W1 ⟨b, mv, m, fp, rfl, q1, q2, q3⟩
  have HH : Hid _ := holds_any _ b mv m fp W1 q1 (by omega)
  have HB : Hid (Below w.heap.size w W1) := q2
  clear q1 q2 q3
  go_wp2_with fail
  refine Calls.mono HH.out ?_
  rintro e W2 ⟨rfl, ht⟩
  have H2 : Hid (Below w.heap.size w W2) := HB.out.trans (ht.toBelow (fun x hx => by simp at hx) HB.out.size)
  clear ht HH
  go_wp2
  go_ret
  exact ⟨rfl, H2.out⟩

set_option maxHeartbeats 1000000 in
set_option maxRecDepth 100000 in
theorem law3_row (x : Addr) (cap : Nat) (ks : List ByteArray) (w : World) (hr : InRow w w.heap.size x ks) (hm : ks.length ≤ maxLen) : Calls Try.prog 3 #[.slice (some x) ks.length cap] w fun e w' => e = .returned (.bool true) ∧ Below w.heap.size w w' := by
  have hm' : ks.length ≤ 9223372036854775807 := by unfold maxLen at hm; omega
  have H8 : Hid _ := bytes8_row x cap ks w hr.cell
  by_cases hl : ks.length ≤ 16384
  · have H9 : Hid _ := keybytes_row x cap 0 ks w hl (by omega) hr.cell
    have H10 : Hid _ := build_row x cap ks w hr hl
    clear hr hm
    go_enter Try.func3, Try.ntmps3
    go_wp2_with fail
    refine Calls.mono H8.out ?_
    rintro e W0 ⟨bb, rfl, rfl⟩
    cases bb
    · go_wp2
      go_ret
      exact ⟨rfl, Below.refl _ _⟩
    · go_wp2_with fail
      refine Calls.mono H9.out ?_
      rintro e W0 ⟨r, hr, rfl, rfl⟩
      by_cases hrb : 1048576 < r
      · go_wp2
        go_ret
        exact ⟨rfl, Below.refl _ _⟩
      · go_wp2_with fail
        refine Calls.mono H10.out ?_
        rintro e W1 ⟨b, mv, m, fp, rfl, q1, q2, q3⟩
        have HH : Hid _ := holds_any _ b mv m fp W1 q1 (by omega)
        have HB : Hid (Below W0.heap.size W0 W1) := q2
        clear q1 q2 q3
        go_wp2_with fail
        refine Calls.mono HH.out ?_
        rintro e W2 ⟨rfl, ht⟩
        have H2 : Hid (Below W0.heap.size W0 W2) := HB.out.trans (ht.toBelow (fun x hx => by simp at hx) HB.out.size)
        clear ht HH
        go_wp2
        go_ret
        exact ⟨rfl, H2.out⟩
  · clear hr hm
    go_enter Try.func3, Try.ntmps3
    go_wp2_with fail
    refine Calls.mono H8.out ?_
    rintro e W0 ⟨bb, rfl, rfl⟩
    cases bb
    · go_wp2
      go_ret
      exact ⟨rfl, Below.refl _ _⟩
    · go_wp2
      go_ret
      exact ⟨rfl, Below.refl _ _⟩
end Go.Proofs.Qxb6603837a

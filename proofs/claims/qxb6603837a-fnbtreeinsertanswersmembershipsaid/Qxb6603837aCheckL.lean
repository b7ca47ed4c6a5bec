/-
  zzCheck at a leaf.
-/
import Derived.Test.Qxb6603837aBuild
import Derived.BigQuiet
namespace Go.Proofs.Qxb6603837a
open Go.RowKit

theorem zzleaf_true (b : Nat) (w : World) (h1 : w.cell? ⟨b, 1, none⟩ = some (.slice none 0 0)) :
    Calls Try.prog 28 #[.pointer (some ⟨b, 0, none⟩)] w fun e w' => e = .returned (.bool true) ∧ w' = w := by
  go_enter Try.func28, Try.ntmps28
  go_wp2_with fail
  refine same_of (leaf_true b w h1) ?_
  go_wp2
  go_ret
  exact ⟨rfl, rfl⟩

theorem zzleaf_false (b n c : Nat) (a : Addr) (w : World) (h1 : w.cell? ⟨b, 1, none⟩ = some (.slice (some a) n c)) :
    Calls Try.prog 28 #[.pointer (some ⟨b, 0, none⟩)] w fun e w' => e = .returned (.bool false) ∧ w' = w := by
  go_enter Try.func28, Try.ntmps28
  go_wp2_with fail
  refine same_of (leaf_false b n c a w h1) ?_
  go_wp2
  go_ret
  exact ⟨rfl, rfl⟩

theorem zzkeys (b : Nat) (v : Value) (w : World) (h0 : w.cell? ⟨b, 0, none⟩ = some v) :
    Calls Try.prog 29 #[.pointer (some ⟨b, 0, none⟩)] w fun e w' => e = .returned v ∧ w' = w := by
  go_enter Try.func29, Try.ntmps29
  go_wp2
  go_ret
  exact ⟨rfl, rfl⟩

theorem zzkids (b : Nat) (v : Value) (w : World) (h0 : w.cell? ⟨b, 1, none⟩ = some v) :
    Calls Try.prog 32 #[.pointer (some ⟨b, 0, none⟩)] w fun e w' => e = .returned v ∧ w' = w := by
  go_enter Try.func32, Try.ntmps32
  go_wp2
  go_ret
  exact ⟨rfl, rfl⟩

set_option maxHeartbeats 1000000 in
set_option maxRecDepth 100000 in
theorem check_nil (b d : Nat) (r cl ch : Bool) (ls hs : ByteArray) (w : World) (h0 : w.cell? ⟨b, 0, none⟩ = some (.slice none 0 0)) (h1 : w.cell? ⟨b, 1, none⟩ = some (.slice none 0 0)) (hd : d ≤ 40) (hr : r = true) :
    Calls Try.prog 30 #[.pointer (some ⟨b, 0, none⟩), .bool r, .bool cl, .string ls, .bool ch, .string hs, .int .i64 d] w fun e w' => e = .returned (.tuple #[.bool true, .int .i64 1]) ∧ ∃ q, w' = w.drewN q := by
  subst hr
  go_enter Try.func30, Try.ntmps30
  go_wp2_with fail
  refine same_of (zzkeys b _ w h0) ?_
  go_wp2_with fail
  refine same_of (zzleaf_true b w h1) ?_
  go_wp2
  go_loop [17] (fun a => a = .int .i64 0) (fun _ => 0)
  case atStart => rfl
  case round =>
    obtain rfl := hrel
    go_wp2
    go_ret2
    exact ⟨rfl, 0, rfl⟩

set_option maxHeartbeats 2000000 in
set_option maxRecDepth 100000 in
theorem check_row (b d B g cap : Nat) (ks : List ByteArray) (r cl ch : Bool) (ls hs : ByteArray) (w : World) (h0 : w.cell? ⟨b, 0, none⟩ = some (.slice (some ⟨g, 0, none⟩) ks.length cap)) (h1 : w.cell? ⟨b, 1, none⟩ = some (.slice none 0 0)) (hd : d ≤ 40)
    (ho : Own w B 9 (.slice (some ⟨g, 0, none⟩) ks.length cap) (ks.map Value.string)) (hr : r = true ∨ 32 ≤ ks.length) (hm : ks.length ≤ 64) (ha : Asc ks) (hcl : cl = true → ∀ x ∈ ks, lt x ls = false) (hch : ch = true → ∀ x ∈ ks, lt x hs = true) :
    Calls Try.prog 30 #[.pointer (some ⟨b, 0, none⟩), .bool r, .bool cl, .string ls, .bool ch, .string hs, .int .i64 d] w fun e w' => e = .returned (.tuple #[.bool true, .int .i64 1]) ∧ ∃ q, w' = w.drewN q := by
  have HA : Hid (∀ i (hi : i + 1 < ks.length), Op.bytesLess (ks[i]'(by omega)).toList ks[i + 1].toList = true) := fun i hi => List.pairwise_iff_getElem.1 ha i (i + 1) (by omega) hi (by omega)
  have HL : Hid (cl = true → ∀ i (hi : i < ks.length), Op.bytesLess ks[i].toList ls.toList = false) := fun e i hi => hcl e _ (List.getElem_mem hi)
  have HH : Hid (ch = true → ∀ i (hi : i < ks.length), Op.bytesLess ks[i].toList hs.toList = true) := fun e i hi => hch e _ (List.getElem_mem hi)
  have HC : Hid (∀ i (hi : i < ks.length), w.cell? ⟨g, i, none⟩ = some (.string ks[i])) := fun i hi => str_cell ho hi
  have hr' : r = false → 32 ≤ ks.length := by
    intro e
    rcases hr with h | h
    · rw [h] at e; cases e
    · exact h
  clear ha hcl hch ho hr
  cases r
  all_goals
    try replace hr' := hr' rfl
    go_enter Try.func30, Try.ntmps30
    go_wp2_with fail
    refine same_of (zzkeys b _ w h0) ?_
    go_wp2_with fail
    refine same_of (zzleaf_true b w h1) ?_
    go_wp2
    go_loopw [17] (fun a wr => ∃ i q : Nat, a = .int .i64 i ∧ i ≤ ks.length ∧ wr = w.drewN q) (fun a _ => ks.length - (intOf a).toNat)
    case atStart => exact ⟨0, 0, by go_num, Nat.zero_le _, rfl⟩
    case round =>
      obtain ⟨i, q, rfl, hi, rfl⟩ := hrel
      by_cases hlt : i < ks.length
      · have c0 : w.cell? ⟨g, i, none⟩ = some (.string ks[i]) := HC.out i hlt
        have l0 : cl = true → Op.bytesLess ks[i].toList ls.toList = false := fun e => HL.out e i hlt
        have u0 : ch = true → Op.bytesLess ks[i].toList hs.toList = true := fun e => HH.out e i hlt
        have a0 : ∀ j, i = j + 1 → ∃ Y : ByteArray, w.cell? ⟨g, j, none⟩ = some (.string Y) ∧ Op.bytesLess Y.toList ks[i].toList = true := by
          rintro j rfl
          exact ⟨_, HC.out j (by omega), HA.out j hlt⟩
        generalize ks[i] = X at *
        rcases i with _ | j
        · clear a0
          cases cl <;> cases ch
          all_goals
            try have l1 := l0 rfl
            try have u1 := u0 rfl
            clear l0 u0
            go_wp2
            go_quiet (fail)
            go_wp2
            go_roundw
            case rel => exact ⟨1, _, by go_num, by omega, rfl⟩
            case measure => simp [intOf]; omega
        · obtain ⟨Y, cY, lY⟩ := a0 j rfl
          have hg : decide ((0 : Int) < (j : Int) + 1) = true := by rw [decide_eq_true_iff]; omega
          clear a0
          cases cl <;> cases ch
          all_goals
            try have l1 := l0 rfl
            try have u1 := u0 rfl
            clear l0 u0
            go_wp2
            go_quiet (fail)
            go_wp2
            go_roundw
            case rel => exact ⟨j + 2, _, by go_num, by omega, rfl⟩
            case measure => simp [intOf]; omega
      · obtain rfl : i = ks.length := by omega
        go_wp2
        go_ret2
        exact ⟨rfl, q, rfl⟩
end Go.Proofs.Qxb6603837a

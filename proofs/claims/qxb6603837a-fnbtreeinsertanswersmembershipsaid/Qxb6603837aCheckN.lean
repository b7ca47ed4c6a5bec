/-
  zzCheck at an inner node.
-/
import Derived.Test.Qxb6603837aCheckL
namespace Go.Proofs.Qxb6603837a
open Go.RowKit

set_option maxHeartbeats 2000000 in
set_option maxRecDepth 100000 in
theorem check_inner (b d g cap gc capc H : Nat) (ks : List ByteArray) (bs : Nat → Nat) (r cl ch : Bool) (ls hs : ByteArray) (w : World) (h0 : w.cell? ⟨b, 0, none⟩ = some (.slice (some ⟨g, 0, none⟩) ks.length cap)) (h1 : w.cell? ⟨b, 1, none⟩ = some (.slice (some ⟨gc, 0, none⟩) (ks.length + 1) capc)) (hd : d + 1 ≤ 40)
    (HC : Hid (∀ i (hi : i < ks.length), w.cell? ⟨g, i, none⟩ = some (.string ks[i]))) (HK : Hid (∀ i (_hi : i < (ks.length + 1)), w.cell? ⟨gc, i, none⟩ = some (.pointer (some ⟨bs i, 0, none⟩))))
    (hr : r = true ∨ 32 ≤ (ks.length + 1)) (hm : (ks.length + 1) ≤ 64) (hm2 : 2 ≤ (ks.length + 1)) (hH : H ≤ 1000)
    (IH : Hid (∀ i (hi : i < (ks.length + 1)) q, Calls Try.prog 30 #[.pointer (some ⟨bs i, 0, none⟩), .bool false, .bool (if i = 0 then cl else true), .string (if i = 0 then ls else ks.getD (i - 1) ⟨#[]⟩), .bool (if i < ks.length then true else ch), .string (if i < ks.length then ks.getD i ⟨#[]⟩ else hs), .int .i64 (d + 1)] (w.drewN q)
      fun e w' => e = .returned (.tuple #[.bool true, .int .i64 H]) ∧ ∃ q', w' = w.drewN q')) :
    Calls Try.prog 30 #[.pointer (some ⟨b, 0, none⟩), .bool r, .bool cl, .string ls, .bool ch, .string hs, .int .i64 d] w fun e w' => e = .returned (.tuple #[.bool true, .int .i64 (H + 1)]) ∧ ∃ q, w' = w.drewN q := by
  have hr' : r = false → 32 ≤ (ks.length + 1) := by
    intro e
    rcases hr with h | h
    · rw [h] at e; cases e
    · exact h
  clear hr
  cases r
  all_goals
    try replace hr' := hr' rfl
    go_enter Try.func30, Try.ntmps30
    go_wp2_with fail
    refine same_of (zzkeys b _ w h0) ?_
    go_wp2_with fail
    refine same_of (zzleaf_false b _ _ _ w h1) ?_
    go_wp2_with fail
    refine same_of (zzkids b _ w h1) ?_
    go_wp2
    go_loopw [19, 20] (fun s19 s20 wr => ∃ i hh q : Nat, s19 = .int .i64 hh ∧ s20 = .int .i64 i ∧ i ≤ (ks.length + 1) ∧ (0 < i → hh = H) ∧ wr = w.drewN q) (fun _ s20 _ => (ks.length + 1) - (intOf s20).toNat)
    case atStart => exact ⟨0, 0, 0, by go_num, by go_num, Nat.zero_le _, (fun h => by omega), rfl⟩
    case round =>
      obtain ⟨i, hh, q, rfl, rfl, hi, hhh, rfl⟩ := hrel
      by_cases hlt : i < (ks.length + 1)
      · have ck : w.cell? ⟨gc, i, none⟩ = some (.pointer (some ⟨bs i, 0, none⟩)) := HK.out i hlt
        have hcall := IH.out i hlt q
        generalize bs i = bc at *
        rcases i with _ | j
        · have hk0 : 0 < ks.length := by omega
          have c0 : w.cell? ⟨g, 0, none⟩ = some (.string ks[0]) := HC.out 0 hk0
          rw [if_pos rfl, if_pos rfl, if_pos hk0, if_pos hk0, List.getD_eq_getElem?_getD, List.getElem?_eq_getElem hk0] at hcall
          have hG : Hid _ := hcall
          clear hcall hhh
          generalize ks[0] = X at *
          go_wp2_with fail
          refine Calls.mono hG.out ?_
          rintro e W1 ⟨rfl, q', rfl⟩
          go_wp2
          go_roundw
          case rel => exact ⟨1, H, q', by go_num, by go_num, by omega, (fun _ => rfl), rfl⟩
          case measure => simp [intOf]
        · have hj : j < ks.length := by omega
          have c1 : w.cell? ⟨g, j, none⟩ = some (.string ks[j]) := HC.out j hj
          obtain rfl := hhh (by omega)
          rw [if_neg (by omega), if_neg (by omega), Nat.add_sub_cancel, List.getD_eq_getElem?_getD, List.getElem?_eq_getElem hj] at hcall
          by_cases hk1 : j + 1 < ks.length
          · have c2 : w.cell? ⟨g, j + 1, none⟩ = some (.string ks[j + 1]) := HC.out (j + 1) hk1
            rw [if_pos hk1, if_pos hk1, List.getD_eq_getElem?_getD, List.getElem?_eq_getElem hk1] at hcall
            have hG : Hid _ := hcall
            clear hcall hhh
            generalize ks[j] = Y at *
            generalize ks[j + 1] = X at *
            go_wp2_with fail
            refine Calls.mono hG.out ?_
            rintro e W1 ⟨rfl, q', rfl⟩
            go_wp2
            go_roundw
            case rel => exact ⟨j + 2, hh, q', by go_num, by go_num, by omega, (fun _ => rfl), rfl⟩
            case measure => simp [intOf]; omega
          · rw [if_neg hk1, if_neg hk1] at hcall
            have hG : Hid _ := hcall
            clear hcall hhh
            generalize ks[j] = Y at *
            go_wp2_with fail
            refine Calls.mono hG.out ?_
            rintro e W1 ⟨rfl, q', rfl⟩
            go_wp2
            go_roundw
            case rel => exact ⟨j + 2, hh, q', by go_num, by go_num, by omega, (fun _ => rfl), rfl⟩
            case measure => simp [intOf]; omega
      · obtain rfl : i = ks.length + 1 := by omega
        obtain rfl := hhh (by omega)
        go_wp2
        go_ret2
        exact ⟨rfl, q, rfl⟩
end Go.Proofs.Qxb6603837a

/-
  zzSameStrings and zzHolds.
-/
import Derived.Test.Qxb6603837aCollect
namespace Go.Proofs.Qxb6603837a
open Go.RowKit

theorem same_empty (a1 a2 : Option Addr) (c1 c2 : Nat) (w : World) : Calls Try.prog 17 #[.slice a1 0 c1, .slice a2 0 c2] w fun e w' => e = .returned (.bool true) ∧ ∃ q, w' = w.drewN q := by
  go_enter Try.func17, Try.ntmps17
  go_wp2
  go_loop [5] (fun a => a = .int .i64 0) (fun _ => 0)
  case atStart => rfl
  case round =>
    obtain rfl := hrel
    go_wp2
    go_ret
    exact ⟨rfl, 0, rfl⟩

set_option maxHeartbeats 1000000 in
set_option maxRecDepth 100000 in
theorem same_row (g1 c1 g2 c2 : Nat) (ks : List ByteArray) (w : World) (hl : ks.length ≤ 100000) (H1 : Hid (∀ i (hi : i < ks.length), w.cell? ⟨g1, i, none⟩ = some (.string ks[i]))) (H2 : Hid (∀ i (hi : i < ks.length), w.cell? ⟨g2, i, none⟩ = some (.string ks[i]))) :
    Calls Try.prog 17 #[.slice (some ⟨g1, 0, none⟩) ks.length c1, .slice (some ⟨g2, 0, none⟩) ks.length c2] w fun e w' => e = .returned (.bool true) ∧ ∃ q, w' = w.drewN q := by
  go_enter Try.func17, Try.ntmps17
  go_wp2
  go_loopw [5] (fun a wr => ∃ i q : Nat, a = .int .i64 i ∧ i ≤ ks.length ∧ wr = w.drewN q) (fun a _ => ks.length - (intOf a).toNat)
  case atStart => exact ⟨0, 0, by go_num, Nat.zero_le _, rfl⟩
  case round =>
    obtain ⟨i, q, rfl, hi, rfl⟩ := hrel
    by_cases hlt : i < ks.length
    · have k1 := H1.out i hlt
      have k2 := H2.out i hlt
      generalize ks[i] = X at *
      go_wp2
      go_quiet (fail)
      go_wp2
      go_roundw
      case rel => exact ⟨i + 1, _, by go_num, by omega, rfl⟩
      case measure => simp [intOf]; omega
    · obtain rfl : i = ks.length := by omega
      go_wp2
      go_ret
      exact ⟨rfl, q, rfl⟩

theorem same_any (B : Nat) (v1 v2 : Value) (ks : List ByteArray) (w : World) (hl : ks.length ≤ 100000) (h1 : Own w B 9 v1 (ks.map Value.string)) (h2 : Own w B 9 v2 (ks.map Value.string)) :
    Calls Try.prog 17 #[v1, v2] w fun e w' => e = .returned (.bool true) ∧ ∃ q, w' = w.drewN q := by
  rcases Nat.eq_zero_or_pos ks.length with e | e
  · have : ∀ v, Own w B 9 v (ks.map Value.string) → ∃ a c, v = .slice a 0 c := by
      intro v hv
      rcases own_open hv with ⟨q1, q2⟩ | ⟨g, cap, cur, q1, _⟩
      · exact ⟨_, _, q1⟩
      · rw [List.length_map, e] at q1
        exact ⟨_, _, q1⟩
    obtain ⟨a1, c1, rfl⟩ := this v1 h1
    obtain ⟨a2, c2, rfl⟩ := this v2 h2
    exact same_empty a1 a2 c1 c2 w
  · obtain ⟨g1, c1, rfl⟩ := own_some h1 (by rwa [List.length_map])
    obtain ⟨g2, c2, rfl⟩ := own_some h2 (by rwa [List.length_map])
    rw [List.length_map] at h1 h2 ⊢
    exact same_row g1 c1 g2 c2 ks w hl (fun i hi => str_cell h1 hi) (fun i hi => str_cell h2 hi)

set_option maxHeartbeats 1000000 in
set_option maxRecDepth 100000 in
theorem holds_any (B b : Nat) (mv : Value) (m : List ByteArray) (fp : List Nat) (w : World) (h : Both w B b mv m fp) (hl : m.length ≤ 16385) :
    Calls Try.prog 11 #[.pointer (some ⟨b, 0, none⟩), mv] w fun e w' => e = .returned (.bool true) ∧ Turned w w' [] := by
  obtain ⟨ht, ho, ha, hap, hs⟩ := h
  obtain ⟨n, t, hr, hn, g, rfl⟩ := ht
  have HC : Hid _ := check_any n B b 0 t fp w true false false ⟨#[]⟩ ⟨#[]⟩ none none hr g rfl rfl (by have := good_height n t g hl; omega)
  have HR : Hid (Rep w B n b t fp ∧ Good n true none none t ∧ Own w B 9 mv ((flat n t).map Value.string) ∧ B ≤ w.heap.size ∧ (flat n t).length ≤ 16385) := ⟨hr, g, ho, hs, hl⟩
  clear hr g ho ha hap hs hn hl
  go_enter Try.func11, Try.ntmps11
  go_wp2_with fail
  refine Calls.mono HC.out ?_
  rintro e W1 ⟨rfl, q, hW1⟩
  have HT : Hid (Turned w W1 []) := by rw [hW1]; exact Turned.drewN w q []
  have HD : Hid (Calls Try.prog 31 #[.pointer (some ⟨b, 0, none⟩), .slice none 0 0] W1 (CollectPost W1 B (.slice none 0 0) ([] ++ flat n t))) := by
    obtain ⟨r1, r2, r3, r4, r5⟩ := HR.out
    exact collect_any n B b t fp W1 true none none (.slice none 0 0) [] (Nat.le_trans r4 HT.out.size) (rep_turned r1 HT.out (fun x _ e => by simp at e)) r2 ⟨rfl, .inl ⟨rfl, rfl⟩⟩ (fun x hx => by simp [Value.ownBlock] at hx) (by simp; omega)
  clear hW1 HC
  go_wp2_with fail
  refine Calls.mono HD.out ?_
  rintro e W2 ⟨v', rfl, q1, q2, q3⟩
  have HT2 : Hid (Turned w W2 []) := HT.out.trans q2 (fun x hx => by simp [Value.ownBlock] at hx)
  have HE : Hid (Calls Try.prog 17 #[v', mv] W2 fun e w' => e = .returned (.bool true) ∧ ∃ q, w' = W2.drewN q) := by
    obtain ⟨r1, r2, r3, r4, r5⟩ := HR.out
    exact same_any B v' mv (flat n t) W2 (by omega) (by simpa using q1) (own_keptL r3 (fun x hx => HT2.out.block x (own_mem_lt r3 x hx).1 (by simp)))
  clear q1 q2 q3 HT HD
  go_wp2_with fail
  refine Calls.mono HE.out ?_
  rintro e W3 ⟨rfl, q', rfl⟩
  go_wp2
  go_ret
  exact ⟨rfl, HT2.out.trans (Turned.drewN W2 q' []) (fun x hx => .inl hx)⟩
end Go.Proofs.Qxb6603837a

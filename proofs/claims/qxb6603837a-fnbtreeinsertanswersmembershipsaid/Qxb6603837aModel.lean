/-
  zzSearch over an owned row of ascending strings.
-/
import Derived.Test.Qxb6603837aGrow
import Derived.Deep.AppendLies
namespace Go.Proofs.Qxb6603837a
open Go.RowKit

theorem own_cell {w : World} {B g n cap : Nat} {e : TypeId} {xs : List Value} (h : Own w B e (.slice (some ⟨g, 0, none⟩) n cap) xs) {j : Nat} {x : Value} (hj : xs[j]? = some x) : w.cell? ⟨g, j, none⟩ = some x ∧ w.frozen? ⟨g, j, none⟩ = false := by
  rcases own_open h with ⟨h, _⟩ | ⟨g', cap', cur, h, _, h3, _, _, _, h7⟩
  · cases h
  · simp only [Value.slice.injEq, Option.some.injEq, Addr.mk.injEq, and_true] at h
    obtain ⟨rfl, _, rfl⟩ := h
    refine ⟨?_, frozen_heap h3 j⟩
    rw [cell_heap h3, h7 j (List.getElem?_eq_some_iff.1 hj).1, hj]

theorem str_cell {w : World} {B g n cap : Nat} {ks : List ByteArray} (h : Own w B 9 (.slice (some ⟨g, 0, none⟩) n cap) (ks.map Value.string)) {j : Nat} (hj : j < ks.length) : w.cell? ⟨g, j, none⟩ = some (.string ks[j]) :=
  (own_cell h (x := .string ks[j]) (by simp [hj])).1

set_option maxHeartbeats 1000000 in
set_option maxRecDepth 100000 in
theorem search_row (B g cap : Nat) (ks : List ByteArray) (k : ByteArray) (w : World) (ho : Own w B 9 (.slice (some ⟨g, 0, none⟩) ks.length cap) (ks.map Value.string)) (ha : Asc ks) (hl : ks.length ≤ 100000) :
    Calls Try.prog 13 #[.slice (some ⟨g, 0, none⟩) ks.length cap, .string k] w fun e w' => e = .returned (.tuple #[.int .i64 (lb k ks : Nat), .bool (has k ks)]) ∧ ∃ q, w' = w.drewN q := by
  have HO : Hid (Own w B 9 (.slice (some ⟨g, 0, none⟩) ks.length cap) (ks.map Value.string)) := ho
  have HA : Hid (Asc ks) := ha
  have hlb := lb_le k ks
  clear ho ha
  go_enter Try.func13, Try.ntmps13
  go_wp2
  go_loop [6, 7] (fun a b => ∃ lo hi : Nat, a = .int .i64 lo ∧ b = .int .i64 hi ∧ lo ≤ lb k ks ∧ lb k ks ≤ hi ∧ hi ≤ ks.length) (fun a b => ((intOf b) - (intOf a)).toNat)
  case atStart => exact ⟨0, ks.length, rfl, rfl, Nat.zero_le _, hlb, Nat.le_refl _⟩
  case round =>
    obtain ⟨lo, hi, rfl, rfl, h1, h2, h3⟩ := hrel
    by_cases hlt : lo < hi
    · have hm : lo + (hi - lo) / 2 < ks.length := by omega
      have hc := str_cell HO.out hm
      have hmid : ((lo : Int) + ((hi : Int) - (lo : Int)) / 2) = ((lo + (hi - lo) / 2 : Nat) : Int) := by omega
      have HM : Hid (((lo : Int) + ((hi : Int) - (lo : Int)) / 2) = ((lo + (hi - lo) / 2 : Nat) : Int)) := hmid
      by_cases hb : lo + (hi - lo) / 2 < lb k ks
      · have ht : Op.bytesLess ks[lo + (hi - lo) / 2].toList k.toList = true := lb_below k ks _ hm hb
        have hg1 : lo + (hi - lo) / 2 < hi := by omega
        have hg2 : lo ≤ lo + (hi - lo) / 2 := by omega
        generalize ks[lo + (hi - lo) / 2] = X at *
        generalize lo + (hi - lo) / 2 = mid at *
        go_wp2
        go_round
        case rel => exact ⟨mid + 1, hi, by go_num, rfl, by omega, h2, h3⟩
        case measure => simp [intOf]; omega
      · have ht : Op.bytesLess ks[lo + (hi - lo) / 2].toList k.toList = false := lb_above k ks HA.out _ hm (by omega)
        have hg1 : lo + (hi - lo) / 2 < hi := by omega
        have hg2 : lo ≤ lo + (hi - lo) / 2 := by omega
        generalize ks[lo + (hi - lo) / 2] = X at *
        generalize lo + (hi - lo) / 2 = mid at *
        go_wp2
        go_round
        case rel => exact ⟨lo, mid, rfl, by go_num, h1, by omega, by omega⟩
        case measure => simp [intOf]; omega
    · obtain ⟨L, hL⟩ : ∃ L, lb k ks = L := ⟨_, rfl⟩
      obtain rfl : lo = L := by omega
      obtain rfl : hi = lo := by omega
      have HL : Hid (lb k ks = hi) := hL
      clear h1 h2 hL hlt hlb
      by_cases hn : hi < ks.length
      · have hc := str_cell HO.out hn
        have hi1 : (hi : Int) < (ks.length : Int) := by omega
        have HX : Hid ((ks[hi].toList == k.toList) = has k ks) := by
          show _ = _
          rw [Bool.eq_iff_iff, has_iff, beq_iff_eq]
          constructor
          · intro e
            rw [← toList_inj e]
            exact List.getElem_mem _
          · intro hm
            obtain ⟨e1, e2⟩ := asc_mem_lt HA.out hm
            simp only [HL.out] at e2
            rw [e2]
        generalize ks[hi] = X at *
        go_wp2_with fail
        go_quiet (fail)
        go_wp2
        go_ret2
        refine ⟨?_, nq, rfl⟩
        rw [HL.out, ← HX.out]
        rfl
      · have hf : has k ks = false := by
          rw [has_false]
          intro hm
          obtain ⟨e1, _⟩ := asc_mem_lt HA.out hm
          rw [HL.out] at e1
          exact hn e1
        have HF : Hid (has k ks = false) := hf
        have hi1 : decide ((hi : Int) < (ks.length : Int)) = false := by rw [decide_eq_false_iff_not]; omega
        clear hf
        go_wp2_with fail
        go_quiet (fail)
        go_wp2
        go_ret2
        refine ⟨?_, nq, rfl⟩
        rw [HL.out, HF.out]
        rfl

set_option maxHeartbeats 1000000 in
set_option maxRecDepth 100000 in
theorem search_nil (k : ByteArray) (w : World) :
    Calls Try.prog 13 #[.slice none 0 0, .string k] w fun e w' => e = .returned (.tuple #[.int .i64 0, .bool false]) ∧ ∃ q, w' = w.drewN q := by
  go_enter Try.func13, Try.ntmps13
  go_wp2
  go_loop [6, 7] (fun a b => a = .int .i64 0 ∧ b = .int .i64 0) (fun _ _ => 0)
  case atStart => exact ⟨rfl, rfl⟩
  case round =>
    obtain ⟨rfl, rfl⟩ := hrel
    go_wp2_with fail
    go_quiet (fail)
    go_wp2
    go_ret2
    exact ⟨rfl, nq, rfl⟩

theorem search_any (B : Nat) (v : Value) (ks : List ByteArray) (k : ByteArray) (w : World) (ho : Own w B 9 v (ks.map Value.string)) (ha : Asc ks) (hl : ks.length ≤ 100000) :
    Calls Try.prog 13 #[v, .string k] w fun e w' => e = .returned (.tuple #[.int .i64 (lb k ks : Nat), .bool (has k ks)]) ∧ ∃ q, w' = w.drewN q := by
  rcases own_open ho with ⟨rfl, hk⟩ | ⟨g, cap, cur, rfl, _⟩
  · obtain rfl : ks = [] := by simpa using hk
    exact search_nil k w
  · rw [List.length_map] at ho ⊢
    exact search_row B g cap ks k w ho ha hl
end Go.Proofs.Qxb6603837a

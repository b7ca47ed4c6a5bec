/-
  The small readers of the round-trip law: zzNoSpace, zzHasPrefix, zzToken, each walked once.
-/
import Derived.Test.Qxb6603837aDoorRows
import Derived.Test.Qxb6603837aDoorPlain
import Derived.WalkKit
import Derived.WalkSpells
import Derived.WalkLawsBesides
namespace Go.Proofs.Qxb6603837aDoor
open Go.RowKit

set_option maxHeartbeats 400000 in
theorem nosp_any (s : ByteArray) (w : World) (hs : s.size ≤ 1048576) :
    Calls Tryd.prog 5 #[.string s] w fun e w' => e = .returned (.bool (nosp s.data.toList)) ∧ w' = w := by
  go_enter Tryd.func5, Tryd.ntmps5
  go_wp2
  go_loop [3] (fun i => ∃ k : Nat, k ≤ s.size ∧ i = .int .i64 k ∧ Hid (nosp (s.data.toList.take k) = true)) (fun i => s.size - (intOf i).toNat)
  case atStart => exact ⟨0, Nat.zero_le _, rfl, by show nosp _ = true; rfl⟩
  case round =>
    obtain ⟨k, hk, rfl, H⟩ := hrel
    by_cases hlt : k < s.size
    · have hkl : k < s.data.toList.length := by rw [← Lib.size_eq]; exact hlt
      go_wp2
      · have h1 : ((s[k].toNat : Int) == 32) = true := by assumption
        have h2 : nosp s.data.toList = false := nosp_hit hkl (byte_eq_of_toNat h1)
        go_ret
        exact ⟨by rw [h2]; rfl, rfl⟩
      · have h1 : ((s[k].toNat : Int) == 32) = false := by assumption
        go_round
        case rel => exact ⟨k + 1, by omega, by go_num, nosp_take_succ hkl H.out (byte_ne_of_toNat h1)⟩
        case measure => simp [intOf]; omega
    · have h2 : nosp s.data.toList = true := by
        have := H.out
        rwa [List.take_of_length_le (by rw [← Lib.size_eq]; omega)] at this
      have H2 : Hid (nosp s.data.toList = true) := h2
      clear h2
      go_wp2
      go_ret
      exact ⟨by rw [H2.out]; rfl, rfl⟩

/-- zzToken: where the field that begins at p ends. -/
theorem token_any (s : ByteArray) (p j : Nat) (w : World) (hs : s.size ≤ 1048576) (h : Tok s.data.toList p j) :
    Calls Tryd.prog 9 #[.string s, .int .i64 p] w fun e w' => e = .returned (.int .i64 j) ∧ w' = w := by
  have hpj := h.pj
  have hjl := h.jl
  rw [← Lib.size_eq] at hjl
  have H : Hid (Tok s.data.toList p j) := h
  clear h
  go_enter Tryd.func9, Tryd.ntmps9
  go_wp2
  go_loop [5] (fun i => ∃ k : Nat, p ≤ k ∧ k ≤ j ∧ i = .int .i64 k) (fun i => s.size - (intOf i).toNat)
  case atStart => exact ⟨p, Nat.le_refl _, hpj, rfl⟩
  case round =>
    obtain ⟨k, hpk, hk, rfl⟩ := hrel
    by_cases hlt : k < j
    · have hks : k < s.size := by omega
      have h1 : ((s[k].toNat : Int) != 32) = true := by
        have := H.out.no k (by rw [← Lib.size_eq]; exact hks) hpk hlt
        rw [bne_iff_ne]
        intro e
        exact this (byte_eq_of_toNat (beq_iff_eq.2 e))
      go_wp2
      go_round
      case rel => exact ⟨k + 1, by omega, by omega, by go_num⟩
      case measure => simp [intOf]; omega
    · obtain rfl : k = j := by omega
      by_cases hks : k < s.size
      · have h1 : ((s[k].toNat : Int) != 32) = false := by
          have e : s[k] = 32 := H.out.fin (by rw [← Lib.size_eq]; exact hks)
          rw [e]; decide
        go_wp2
        go_ret
        exact ⟨rfl, rfl⟩
      · go_wp2
        go_ret
        exact ⟨rfl, rfl⟩

/-- The same, the place said as an int of whatever spelling. -/
theorem token_at (s : ByteArray) (p j : Nat) (i : Int) (w : World) (hs : s.size ≤ 1048576) (h : Tok s.data.toList p j) (hi : i = p) :
    Calls Tryd.prog 9 #[.string s, .int .i64 i] w fun e w' => e = .returned (.int .i64 j) ∧ w' = w := by
  subst hi
  exact token_any s p j w hs h

theorem pre_true (s t : ByteArray) (w : World) (_hs : s.size ≤ 1048576) (h : t.data.toList <+: s.data.toList) :
    Calls Tryd.prog 8 #[.string s, .string t] w fun e w' => e = .returned (.bool true) ∧ w' = w := by
  have hl : t.size ≤ s.size := by rw [Lib.size_eq, Lib.size_eq]; exact h.length_le
  have he : s.extract 0 t.size = t := by
    obtain ⟨r, hr⟩ := h
    have := cut_eq (s := s) (t := t) (a := []) (r := r) (by simpa using hr.symm)
    simpa using this
  go_enter Tryd.func8, Tryd.ntmps8
  go_wp2
  go_ret
  exact ⟨by simp, rfl⟩

theorem pre_false (s t : ByteArray) (w : World) (_hs : s.size ≤ 1048576) (_ht : t.size ≤ 4) (h : ¬ t.data.toList <+: s.data.toList) :
    Calls Tryd.prog 8 #[.string s, .string t] w fun e w' => e = .returned (.bool false) ∧ w' = w := by
  by_cases hl : t.size ≤ s.size
  · have he : ((s.extract 0 t.size).toList == t.toList) = false := by
      rw [beq_eq_false_iff_ne, Lib.extract_toList, Lib.toList_data]
      intro e
      refine h ⟨s.data.toList.drop t.size, ?_⟩
      rw [← e]
      simp
    go_enter Tryd.func8, Tryd.ntmps8
    go_wp2
    go_ret
    exact ⟨rfl, rfl⟩
  · go_enter Tryd.func8, Tryd.ntmps8
    go_wp2
    go_ret
    exact ⟨rfl, rfl⟩
end Go.Proofs.Qxb6603837aDoor

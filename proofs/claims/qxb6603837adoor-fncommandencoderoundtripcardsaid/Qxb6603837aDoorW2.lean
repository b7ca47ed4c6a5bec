/-
  zzDecimal at a canonical decimal numeral.
-/
import Derived.Test.Qxb6603837aDoorW1
import Derived.Test.Qxb6603837aDoorPlain2
namespace Go.Proofs.Qxb6603837aDoor
open Go.RowKit

set_option maxHeartbeats 1000000 in
theorem dec_any (t : ByteArray) (n : Nat) (w : World) (hs : t.size ≤ 1048576) (h : t.data.toList = Lib.decDigits n) (hn : n < 18446744073709551616) :
    Calls Tryd.prog 10 #[.string t] w fun e w' => e = .returned (.tuple #[.int .u64 n, .bool true]) ∧ w' = w := by
  have hpos : 0 < t.size := by
    rw [Lib.size_eq, h]
    exact List.length_pos_iff.2 (dec_ne_nil n)
  have hdig : ∀ k (hk : k < t.size), 48 ≤ t[k].toNat ∧ t[k].toNat ≤ 57 := by
    intro k hk
    refine dec_digit n t[k] ?_
    rw [← h]
    exact List.getElem_mem (by rw [← Lib.size_eq]; exact hk)
  have hval : Hid (∀ k (hk : k < t.size), val (t.data.toList.take (k + 1)) = val (t.data.toList.take k) * 10 + (t[k].toNat - 48) ∧ val (t.data.toList.take (k + 1)) ≤ n) := by
    intro k hk
    refine ⟨val_take_succ _ _ (by rw [← Lib.size_eq]; exact hk), ?_⟩
    have := val_mono t.data.toList (k + 1)
    rw [h, val_decDigits] at this
    rw [h]
    exact this
  have hfin : Hid (val (t.data.toList.take t.size) = n) := by
    show _ = _
    rw [List.take_of_length_le (by rw [← Lib.size_eq]; exact Nat.le_refl _), h, val_decDigits]
  have hhead : 1 < t.size → ((t[0].toNat : Int) == 48) = false := by
    intro h1
    rw [beq_eq_false_iff_ne]
    intro e
    have e1 : t[0].toNat = 48 := by omega
    have e2 : t[0] = 48 := UInt8.toNat_inj.1 e1
    have hlen : 0 < (Lib.decDigits n).length := List.length_pos_iff.2 (dec_ne_nil n)
    refine dec_head n (by rw [← h, ← Lib.size_eq]; exact h1) hlen ?_
    have : ∀ (l m : List UInt8) (hl : 0 < l.length) (hm : 0 < m.length), l = m → l[0] = m[0] := by
      intro l m hl hm e; subst e; rfl
    rw [this _ _ hlen (by rw [← Lib.size_eq]; exact hpos) h.symm]
    exact e2
  clear h
  have HN : Hid (n < 18446744073709551616) := hn
  clear hn
  have HD : Hid (∀ k (hk : k < t.size), 48 ≤ t[k].toNat ∧ t[k].toNat ≤ 57) := hdig
  clear hdig
  have hz : ((t.size : Int) == 0) = false := by rw [beq_eq_false_iff_ne]; omega
  have hhd : (1 < t.size ∧ ((t[0].toNat : Int) == 48) = false) ∨ ¬ 1 < t.size := by
    by_cases h1 : 1 < t.size
    · exact .inl ⟨h1, hhead h1⟩
    · exact .inr h1
  clear hhead
  rcases hhd with ⟨h1, hh⟩ | h1
  all_goals
    go_enter Tryd.func10, Tryd.ntmps10
    go_wp2
    go_loop [4, 5] (fun v i => ∃ k : Nat, ∃ a : Int, k ≤ t.size ∧ i = .int .i64 k ∧ v = .int .u64 a ∧ Hid (a = val (t.data.toList.take k))) (fun _ i => t.size - (intOf i).toNat)
    case atStart => exact ⟨0, 0, Nat.zero_le _, rfl, rfl, by show (0 : Int) = _; rfl⟩
    case round =>
      obtain ⟨k, a, hk, rfl, rfl, ha⟩ := hrel
      by_cases hlt : k < t.size
      · obtain ⟨hv1, hv2⟩ := hval.out k hlt
        obtain ⟨hd1, hd2⟩ := HD.out k hlt
        have hA := ha.out
        have hN := HN.out
        have c1 : (48 : Int) ≤ (t[k].toNat : Int) := by omega
        have c2 : (t[k].toNat : Int) ≤ 57 := by omega
        have a0 : 0 ≤ a := by omega
        have a1 : a ≤ 1844674407370955161 := by omega
        have a2 : a * 10 + ((t[k].toNat : Int) - 48) ≤ 18446744073709551615 := by omega
        have a3 : Hid (a * 10 + ((t[k].toNat : Int) - 48) = val (t.data.toList.take (k + 1))) := by show _ = _; omega
        clear hv1 hv2 hd1 hd2 hA hN
        go_wp2
        all_goals
          go_round
          case rel => exact ⟨k + 1, _, by omega, by go_num, rfl, by show _ = _; have := a3.out; omega⟩
          case measure => simp [intOf]; omega
      · obtain rfl : k = t.size := by omega
        have hA := ha.out
        rw [hfin.out] at hA
        have HA : Hid (a = n) := hA
        clear hA
        go_wp2
        go_ret2
        exact ⟨by rw [HA.out]; rfl, rfl⟩
end Go.Proofs.Qxb6603837aDoor

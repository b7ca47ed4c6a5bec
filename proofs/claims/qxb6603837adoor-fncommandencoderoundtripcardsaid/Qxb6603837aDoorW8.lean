/-
  The law's own walk, over the contracts of what it calls.
-/
import Derived.Test.Qxb6603837aDoorW5
import Derived.Test.Qxb6603837aDoorW6
import Derived.Lib.AppendIntMem
import Derived.Test.Qxb6603837aDoorShelf
namespace Go.Proofs.Qxb6603837aDoor
open Go.RowKit

/-- What Encode's walk says. -/
def EncodeSaid : Prop := ∀ (op id req key value : ByteArray) (c : Bool) (rev : Nat) (w : World), Lib.TabIs Tryd.prog w powName .u64 Lib.pow10Tab →
    op.size + id.size + req.size + key.size + value.size ≤ 1048576 → rev < 18446744073709551616 →
    Calls Tryd.prog 7 #[.agg #[.string op, .string id, .string req, .string key, .string value, .bool c, .int .u64 rev]] w fun e w' =>
      e = .returned (.string (mk (enc op.data.toList id.data.toList req.data.toList key.data.toList value.data.toList c rev))) ∧ Below w.heap.size w w'

set_option maxRecDepth 100000 in
set_option maxHeartbeats 2000000 in
theorem law_op (_hE : EncodeSaid) (op id req key value : ByteArray) (c : Bool) (rev : Nat) (w : World) (_hT : Lib.TabIs Tryd.prog w powName .u64 Lib.pow10Tab) (_hrev : rev < 18446744073709551616)
    (ha : op.size ≤ maxLen) (hb : id.size ≤ maxLen) (hc : req.size ≤ maxLen) (hd : key.size ≤ maxLen) (he : value.size ≤ maxLen)
    (n1 : nosp op.data.toList = false) :
    Calls Tryd.prog 3 #[.string op, .string id, .string req, .string key, .string value, .bool c, .int .u64 rev] w fun e w' => e = .returned (.bool true) ∧ Below w.heap.size w w' := by
  go_enter Tryd.func3, Tryd.ntmps3
  go_wp2_with fail
  refine (bytes_any _ _ _ _ _ _ _ _ ha hb hc hd he).mono ?_
  rintro x w' ⟨hx, rfl⟩
  unfold maxLen at ha hb hc hd he
  rcases hx with rfl | ⟨rfl, hsum⟩
  · go_wp2
    go_ret
    exact ⟨rfl, Below.refl _ _⟩
  · by_cases hL : op.size ≤ 131072 ∧ id.size ≤ 131072 ∧ req.size ≤ 131072 ∧ key.size ≤ 131072 ∧ value.size ≤ 131072
    · obtain ⟨q1, q2, q3, q4, q5⟩ := hL
      have g1 : decide (131072 < (op.size : Int)) = false := by rw [decide_eq_false_iff_not]; omega
      have g2 : decide (131072 < (id.size : Int)) = false := by rw [decide_eq_false_iff_not]; omega
      have g3 : decide (131072 < (req.size : Int)) = false := by rw [decide_eq_false_iff_not]; omega
      have g4 : decide (131072 < (key.size : Int)) = false := by rw [decide_eq_false_iff_not]; omega
      have g5 : decide (131072 < (value.size : Int)) = false := by rw [decide_eq_false_iff_not]; omega
      go_wp2_with (go_at_call 5; refine (nosp_any _ _ (by omega)).mono ?_; rintro e w' ⟨rfl, rfl⟩)
      go_ret
      exact ⟨rfl, Below.refl _ _⟩
    · go_wp2
      all_goals go_ret
      all_goals exact ⟨rfl, Below.refl _ _⟩

set_option maxRecDepth 100000 in
set_option maxHeartbeats 2000000 in
theorem law_id (_hE : EncodeSaid) (op id req key value : ByteArray) (c : Bool) (rev : Nat) (w : World) (_hT : Lib.TabIs Tryd.prog w powName .u64 Lib.pow10Tab) (_hrev : rev < 18446744073709551616)
    (ha : op.size ≤ maxLen) (hb : id.size ≤ maxLen) (hc : req.size ≤ maxLen) (hd : key.size ≤ maxLen) (he : value.size ≤ maxLen)
    (n1 : nosp op.data.toList = true) (n2 : nosp id.data.toList = false) :
    Calls Tryd.prog 3 #[.string op, .string id, .string req, .string key, .string value, .bool c, .int .u64 rev] w fun e w' => e = .returned (.bool true) ∧ Below w.heap.size w w' := by
  go_enter Tryd.func3, Tryd.ntmps3
  go_wp2_with fail
  refine (bytes_any _ _ _ _ _ _ _ _ ha hb hc hd he).mono ?_
  rintro x w' ⟨hx, rfl⟩
  unfold maxLen at ha hb hc hd he
  rcases hx with rfl | ⟨rfl, hsum⟩
  · go_wp2
    go_ret
    exact ⟨rfl, Below.refl _ _⟩
  · by_cases hL : op.size ≤ 131072 ∧ id.size ≤ 131072 ∧ req.size ≤ 131072 ∧ key.size ≤ 131072 ∧ value.size ≤ 131072
    · obtain ⟨q1, q2, q3, q4, q5⟩ := hL
      have g1 : decide (131072 < (op.size : Int)) = false := by rw [decide_eq_false_iff_not]; omega
      have g2 : decide (131072 < (id.size : Int)) = false := by rw [decide_eq_false_iff_not]; omega
      have g3 : decide (131072 < (req.size : Int)) = false := by rw [decide_eq_false_iff_not]; omega
      have g4 : decide (131072 < (key.size : Int)) = false := by rw [decide_eq_false_iff_not]; omega
      have g5 : decide (131072 < (value.size : Int)) = false := by rw [decide_eq_false_iff_not]; omega
      go_wp2_with (go_at_call 5; refine (nosp_any _ _ (by omega)).mono ?_; rintro e w' ⟨rfl, rfl⟩)
      go_ret
      exact ⟨rfl, Below.refl _ _⟩
    · go_wp2
      all_goals go_ret
      all_goals exact ⟨rfl, Below.refl _ _⟩

set_option maxRecDepth 100000 in
set_option maxHeartbeats 2000000 in
theorem law_req (_hE : EncodeSaid) (op id req key value : ByteArray) (c : Bool) (rev : Nat) (w : World) (_hT : Lib.TabIs Tryd.prog w powName .u64 Lib.pow10Tab) (_hrev : rev < 18446744073709551616)
    (ha : op.size ≤ maxLen) (hb : id.size ≤ maxLen) (hc : req.size ≤ maxLen) (hd : key.size ≤ maxLen) (he : value.size ≤ maxLen)
    (n1 : nosp op.data.toList = true) (n2 : nosp id.data.toList = true) (n3 : nosp req.data.toList = false) (hop : (op.toList == [110, 111, 111, 112]) = false) :
    Calls Tryd.prog 3 #[.string op, .string id, .string req, .string key, .string value, .bool c, .int .u64 rev] w fun e w' => e = .returned (.bool true) ∧ Below w.heap.size w w' := by
  go_enter Tryd.func3, Tryd.ntmps3
  go_wp2_with fail
  refine (bytes_any _ _ _ _ _ _ _ _ ha hb hc hd he).mono ?_
  rintro x w' ⟨hx, rfl⟩
  unfold maxLen at ha hb hc hd he
  rcases hx with rfl | ⟨rfl, hsum⟩
  · go_wp2
    go_ret
    exact ⟨rfl, Below.refl _ _⟩
  · by_cases hL : op.size ≤ 131072 ∧ id.size ≤ 131072 ∧ req.size ≤ 131072 ∧ key.size ≤ 131072 ∧ value.size ≤ 131072
    · obtain ⟨q1, q2, q3, q4, q5⟩ := hL
      have g1 : decide (131072 < (op.size : Int)) = false := by rw [decide_eq_false_iff_not]; omega
      have g2 : decide (131072 < (id.size : Int)) = false := by rw [decide_eq_false_iff_not]; omega
      have g3 : decide (131072 < (req.size : Int)) = false := by rw [decide_eq_false_iff_not]; omega
      have g4 : decide (131072 < (key.size : Int)) = false := by rw [decide_eq_false_iff_not]; omega
      have g5 : decide (131072 < (value.size : Int)) = false := by rw [decide_eq_false_iff_not]; omega
      go_wp2_with (go_at_call 5; refine (nosp_any _ _ (by omega)).mono ?_; rintro e w' ⟨rfl, rfl⟩)
      go_ret
      exact ⟨rfl, Below.refl _ _⟩
    · go_wp2
      all_goals go_ret
      all_goals exact ⟨rfl, Below.refl _ _⟩

set_option maxRecDepth 100000 in
set_option maxHeartbeats 2000000 in
theorem law_noop (hE : EncodeSaid) (op id req key value : ByteArray) (c : Bool) (rev : Nat) (w : World) (hT : Lib.TabIs Tryd.prog w powName .u64 Lib.pow10Tab) (hrev : rev < 18446744073709551616)
    (ha : op.size ≤ maxLen) (hb : id.size ≤ maxLen) (hc : req.size ≤ maxLen) (hd : key.size ≤ maxLen) (he : value.size ≤ maxLen)
    (n1 : nosp op.data.toList = true) (n2 : nosp id.data.toList = true) (hop : op.data.toList = noopB) :
    Calls Tryd.prog 3 #[.string op, .string id, .string req, .string key, .string value, .bool c, .int .u64 rev] w fun e w' => e = .returned (.bool true) ∧ Below w.heap.size w w' := by
  have HT : Hid (Lib.TabIs Tryd.prog w powName .u64 Lib.pow10Tab) := hT
  have HR : Hid (rev < 18446744073709551616) := hrev
  have hz := enc_len op.data.toList id.data.toList req.data.toList key.data.toList value.data.toList c rev hrev
  simp only [← Lib.size_eq] at hz
  have HN : Hid (op.data.toList = noopB) := hop
  have hn : op.toList = [110, 111, 111, 112] := by rw [Lib.toList_data]; exact hop
  clear hT hrev hop
  go_enter Tryd.func3, Tryd.ntmps3
  go_wp2_with fail
  refine (bytes_any _ _ _ _ _ _ _ _ ha hb hc hd he).mono ?_
  rintro x w' ⟨hx, rfl⟩
  unfold maxLen at ha hb hc hd he
  rcases hx with rfl | ⟨rfl, hsum⟩
  · go_wp2
    go_ret
    exact ⟨rfl, Below.refl _ _⟩
  · by_cases hL : op.size ≤ 131072 ∧ id.size ≤ 131072 ∧ req.size ≤ 131072 ∧ key.size ≤ 131072 ∧ value.size ≤ 131072
    · obtain ⟨q1, q2, q3, q4, q5⟩ := hL
      have g1 : decide (131072 < (op.size : Int)) = false := by rw [decide_eq_false_iff_not]; omega
      have g2 : decide (131072 < (id.size : Int)) = false := by rw [decide_eq_false_iff_not]; omega
      have g3 : decide (131072 < (req.size : Int)) = false := by rw [decide_eq_false_iff_not]; omega
      have g4 : decide (131072 < (key.size : Int)) = false := by rw [decide_eq_false_iff_not]; omega
      have g5 : decide (131072 < (value.size : Int)) = false := by rw [decide_eq_false_iff_not]; omega
      go_wp2_with (go_at_call 5; refine (nosp_any _ _ (by omega)).mono ?_; rintro e w' ⟨rfl, rfl⟩)
      refine (hE op id req key value c rev _ (Lib.tabBelow_of_tabIs HT.out _ ((Below.refl _ _).alloc (Nat.le_refl _) _)) hsum HR.out).mono ?_
      rintro e W1 ⟨rfl, c1⟩
      have hz2 := hz (by omega)
      go_wp2_with fail
      refine (parse_enc_noop _ op id req.data.toList key.data.toList value.data.toList c rev _ (by rw [mk_size]; omega) rfl n1 n2 HN.out).mono ?_
      rintro e W2 ⟨rfl, c2⟩
      go_wp2
      go_ret
      have hz3 := c1.size
      have hz4 := c2.size
      simp at hz3
      exact ⟨rfl, ((((Below.refl _ _).alloc (Nat.le_refl _) _).trans (c1.mono (by simp))).trans (c2.mono (by omega))).alloc (by omega) _⟩
    · go_wp2
      all_goals go_ret
      all_goals exact ⟨rfl, Below.refl _ _⟩

set_option maxRecDepth 100000 in
set_option maxHeartbeats 4000000 in
theorem law_other (hE : EncodeSaid) (op id req key value : ByteArray) (c : Bool) (rev : Nat) (w : World) (hT : Lib.TabIs Tryd.prog w powName .u64 Lib.pow10Tab) (hrev : rev < 18446744073709551616)
    (ha : op.size ≤ maxLen) (hb : id.size ≤ maxLen) (hc : req.size ≤ maxLen) (hd : key.size ≤ maxLen) (he : value.size ≤ maxLen)
    (n1 : nosp op.data.toList = true) (n2 : nosp id.data.toList = true) (n3 : nosp req.data.toList = true) (hop : ¬ op.data.toList = noopB) (value' : ByteArray) (hv : value' = if op.data.toList = putB then value else ⟨#[]⟩)
    (hpv : (op.toList = [112, 117, 116] ∧ value' = value) ∨ ((op.toList == [112, 117, 116]) = false ∧ value' = ⟨#[]⟩)) :
    Calls Tryd.prog 3 #[.string op, .string id, .string req, .string key, .string value, .bool c, .int .u64 rev] w fun e w' => e = .returned (.bool true) ∧ Below w.heap.size w w' := by
  have HT : Hid (Lib.TabIs Tryd.prog w powName .u64 Lib.pow10Tab) := hT
  have HR : Hid (rev < 18446744073709551616) := hrev
  have hz := enc_len op.data.toList id.data.toList req.data.toList key.data.toList value.data.toList c rev hrev
  simp only [← Lib.size_eq] at hz
  have HN : Hid (¬ op.data.toList = noopB) := hop
  have HV : Hid (value' = if op.data.toList = putB then value else ⟨#[]⟩) := hv
  have hn : (op.toList == [110, 111, 111, 112]) = false := by rw [beq_eq_false_iff_ne, Lib.toList_data]; exact hop
  clear hT hrev hop hv
  go_enter Tryd.func3, Tryd.ntmps3
  go_wp2_with fail
  refine (bytes_any _ _ _ _ _ _ _ _ ha hb hc hd he).mono ?_
  rintro x w' ⟨hx, rfl⟩
  unfold maxLen at ha hb hc hd he
  rcases hx with rfl | ⟨rfl, hsum⟩
  · go_wp2
    go_ret
    exact ⟨rfl, Below.refl _ _⟩
  · by_cases hL : op.size ≤ 131072 ∧ id.size ≤ 131072 ∧ req.size ≤ 131072 ∧ key.size ≤ 131072 ∧ value.size ≤ 131072
    · obtain ⟨q1, q2, q3, q4, q5⟩ := hL
      have g1 : decide (131072 < (op.size : Int)) = false := by rw [decide_eq_false_iff_not]; omega
      have g2 : decide (131072 < (id.size : Int)) = false := by rw [decide_eq_false_iff_not]; omega
      have g3 : decide (131072 < (req.size : Int)) = false := by rw [decide_eq_false_iff_not]; omega
      have g4 : decide (131072 < (key.size : Int)) = false := by rw [decide_eq_false_iff_not]; omega
      have g5 : decide (131072 < (value.size : Int)) = false := by rw [decide_eq_false_iff_not]; omega
      go_wp2_with (go_at_call 5; refine (nosp_any _ _ (by omega)).mono ?_; rintro e w' ⟨rfl, rfl⟩)
      refine (hE op id req key value c rev _ (Lib.tabBelow_of_tabIs HT.out _ ((Below.refl _ _).alloc (Nat.le_refl _) _)) hsum HR.out).mono ?_
      rintro e W1 ⟨rfl, c1⟩
      have hz2 := hz (by omega)
      go_wp2_with fail
      refine (parse_enc _ op id req key value value' c rev _ (by rw [mk_size]; omega) HR.out rfl n1 n2 n3 HN.out HV.out).mono ?_
      rintro e W2 ⟨rfl, c2⟩
      clear HV
      rcases hpv with ⟨hp, rfl⟩ | ⟨hp, rfl⟩
      all_goals
       cases c
       all_goals
        go_wp2
        go_ret
        have hz3 := c1.size
        have hz4 := c2.size
        simp at hz3
        exact ⟨rfl, ((((Below.refl _ _).alloc (Nat.le_refl _) _).trans (c1.mono (by simp))).trans (c2.mono (by omega))).alloc (by omega) _⟩
    · go_wp2
      all_goals go_ret
      all_goals exact ⟨rfl, Below.refl _ _⟩

end Go.Proofs.Qxb6603837aDoor

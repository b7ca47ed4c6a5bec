/-
  Encode's contract whole, and the law's walk for every input.
-/
import Derived.Test.Qxb6603837aDoorW8
import Derived.Test.Qxb6603837aDoorW10
namespace Go.Proofs.Qxb6603837aDoor
open Go.RowKit

theorem isEmpty_of {r : ByteArray} (h : r.data.toList = []) : r.toList.isEmpty = true := by rw [Lib.toList_data, h]; rfl
theorem not_isEmpty_of {r : ByteArray} (h : ¬ r.data.toList = []) : r.toList.isEmpty = false := by
  rw [Lib.toList_data]
  cases e : r.data.toList with
  | nil => exact absurd e h
  | cons a l => rfl
theorem not_eq_of {r : ByteArray} {l : List UInt8} (h : ¬ r.data.toList = l) : (r.toList == l) = false := by
  rw [beq_eq_false_iff_ne, Lib.toList_data]
  exact h
theorem eq_of {r : ByteArray} {l : List UInt8} (h : r.data.toList = l) : r.toList = l := by rw [Lib.toList_data]; exact h

theorem encode_any : EncodeSaid := by
  intro op id req key value c rev w hT hsz hrev
  by_cases hn : op.data.toList = noopB
  · exact encode_noop op id req key value c rev w hsz (eq_of hn)
  · have hput : (op.toList = [112, 117, 116] ∧ Hid (op.data.toList = putB)) ∨ ((op.toList == [112, 117, 116]) = false ∧ Hid (¬ op.data.toList = putB)) := by
      by_cases hp : op.data.toList = putB
      · exact .inl ⟨eq_of hp, hp⟩
      · exact .inr ⟨not_eq_of hp, hp⟩
    by_cases hq : req.data.toList = []
    · cases c
      · exact encode_plain op id req key value rev w hsz hrev hT (not_eq_of hn) hn (isEmpty_of hq) hq hput
      · exact encode_if op id req key value rev w hsz hrev hT (not_eq_of hn) hn (isEmpty_of hq) hq hput
    · cases c
      · exact encode_req op id req key value rev w hsz hrev hT (not_eq_of hn) hn (not_isEmpty_of hq) hq hput
      · exact encode_both op id req key value rev w hsz hrev hT (not_eq_of hn) hn (not_isEmpty_of hq) hq hput

/-- For every input the law answers true and turns nothing that was there. -/
theorem law_any (op id req key value : ByteArray) (c : Bool) (rev : Nat) (w : World) (hT : Lib.TabIs Tryd.prog w powName .u64 Lib.pow10Tab) (hrev : rev < 18446744073709551616)
    (ha : op.size ≤ maxLen) (hb : id.size ≤ maxLen) (hc : req.size ≤ maxLen) (hd : key.size ≤ maxLen) (he : value.size ≤ maxLen) :
    Calls Tryd.prog 3 #[.string op, .string id, .string req, .string key, .string value, .bool c, .int .u64 rev] w fun e w' => e = .returned (.bool true) ∧ Below w.heap.size w w' := by
  cases n1 : nosp op.data.toList
  · exact law_op encode_any op id req key value c rev w hT hrev ha hb hc hd he n1
  cases n2 : nosp id.data.toList
  · exact law_id encode_any op id req key value c rev w hT hrev ha hb hc hd he n1 n2
  by_cases hn : op.data.toList = noopB
  · exact law_noop encode_any op id req key value c rev w hT hrev ha hb hc hd he n1 n2 hn
  cases n3 : nosp req.data.toList
  · exact law_req encode_any op id req key value c rev w hT hrev ha hb hc hd he n1 n2 n3 (not_eq_of hn)
  by_cases hp : op.data.toList = putB
  · exact law_other encode_any op id req key value c rev w hT hrev ha hb hc hd he n1 n2 n3 hn value (by rw [if_pos hp]) (.inl ⟨eq_of hp, rfl⟩)
  · exact law_other encode_any op id req key value c rev w hT hrev ha hb hc hd he n1 n2 n3 hn ⟨#[]⟩ (by rw [if_neg hp]) (.inr ⟨not_eq_of hp, rfl⟩)
end Go.Proofs.Qxb6603837aDoor

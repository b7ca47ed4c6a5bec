/-
  zzParse gives back what Encode wrote.
-/
import Derived.Test.Qxb6603837aDoorW4
import Derived.Test.Qxb6603837aDoorPlain3
namespace Go.Proofs.Qxb6603837aDoor
open Go.RowKit

theorem parse_enc_noop (s op id : ByteArray) (req key value : List UInt8) (c : Bool) (rev : Nat) (w : World) (hs : s.size ≤ 1048576)
    (h : s.data.toList = enc op.data.toList id.data.toList req key value c rev) (ho : nosp op.data.toList = true) (hi : nosp id.data.toList = true) (hn : op.data.toList = noopB) :
    Calls Tryd.prog 6 #[.string s] w fun e w' => e = parsed op id ⟨#[]⟩ false 0 ⟨#[]⟩ ⟨#[]⟩ ∧ Below w.heap.size w w' := by
  unfold enc at h
  rw [if_pos hn] at h
  obtain ⟨t1, h1, e1, g1, l1⟩ := field h rfl ho
  obtain ⟨t2, e2⟩ := field_end (t := id) (by rw [g1]; simp) l1 hi
  exact parse_noop s op id _ w hs (h ▸ List.prefix_append preB _) t1 h1 e1 t2 e2 (by rw [Lib.toList_data]; exact hn)

theorem tail_of (s op key value : ByteArray) (a : List UInt8) (q : Nat) (h : s.data.toList = a ++ (key.data.toList ++ (if op.data.toList = putB then 32 :: value.data.toList else []))) (hq : a.length = q) (value' : ByteArray) (hv : value' = if op.data.toList = putB then value else ⟨#[]⟩) :
    Tail s op key value' q := by
  subst hq
  have hsz : s.size = a.length + key.size + (if op.data.toList = putB then 32 :: value.data.toList else []).length := by
    rw [Lib.size_eq, Lib.size_eq, h]
    simp [Nat.add_assoc]
  refine ⟨by omega, cut_eq h, ?_⟩
  by_cases hp : op.data.toList = putB
  · rw [if_pos hp] at hv h hsz
    subst hv
    left
    simp only [List.length_cons] at hsz
    have hlt : a.length + key.size < s.size := by omega
    refine ⟨by rw [Lib.toList_data]; exact hp, ⟨hlt, ?_⟩, ?_⟩
    · have e : ∀ (l : List UInt8) (i : Nat) (hi : i < l.length) (x y : List UInt8), l = x ++ 32 :: y → i = x.length → l[i] = 32 := by
        intro l i hi x y e1 e2
        subst e1 e2
        simp
      exact e s.data.toList _ (by rw [← Lib.size_eq]; exact hlt) (a ++ key.data.toList) value'.data.toList (by rw [h]; simp) (by rw [List.length_append, ← Lib.size_eq])
    · have h' : s.data.toList = (a ++ (key.data.toList ++ [32])) ++ (value'.data.toList ++ []) := by rw [h]; simp
      have := cut_eq h'
      have e2 : (a ++ (key.data.toList ++ [32])).length = a.length + key.size + 1 := by
        rw [List.length_append, List.length_append, ← Lib.size_eq]; simp; omega
      rw [e2] at this
      rw [show s.size = a.length + key.size + 1 + value'.size from by rw [Lib.size_eq value']; omega]
      exact this
  · rw [if_neg hp] at hv hsz
    right
    refine ⟨?_, by simpa using hsz.symm, hv⟩
    rw [beq_eq_false_iff_ne, Lib.toList_data]
    exact hp

theorem parse_enc (s op id req key value value' : ByteArray) (c : Bool) (rev : Nat) (w : World) (hs : s.size ≤ 1048576) (hrev : rev < 18446744073709551616)
    (h : s.data.toList = enc op.data.toList id.data.toList req.data.toList key.data.toList value.data.toList c rev)
    (ho : nosp op.data.toList = true) (hi : nosp id.data.toList = true) (hr : nosp req.data.toList = true) (hn : ¬ op.data.toList = noopB)
    (hv : value' = if op.data.toList = putB then value else ⟨#[]⟩) :
    Calls Tryd.prog 6 #[.string s] w fun e w' => e = parsed op id req c (if c = true then rev else 0) key value' ∧ Below w.heap.size w w' := by
  have hnb : (op.toList == [110, 111, 111, 112]) = false := by rw [beq_eq_false_iff_ne, Lib.toList_data]; exact hn
  have hpre : ([0, 107, 118, 32] : List UInt8) <+: s.data.toList := h ▸ List.prefix_append preB _
  unfold enc at h
  rw [if_neg hn] at h
  obtain ⟨t1, h1, e1, g1, l1⟩ := field h rfl ho
  by_cases hq : req.data.toList = []
  · have hqe : req = ⟨#[]⟩ := ext_bytes hq
    unfold encReq at g1
    rw [if_pos hq] at g1
    cases c with
    | false =>
      unfold encIf at g1
      rw [if_neg (by decide)] at g1
      obtain ⟨t2, h2, e2, g2, l2⟩ := field g1 l1 hi
      unfold encTail at g2
      obtain ⟨t3, h3, e3, g3, l3⟩ := field (t := mk (Lib.decDigits key.data.toList.length)) g2 l2 (dec_nosp _)
      rw [hqe]
      exact parse_plain s op id key value' _ _ _ _ w hs hpre t1 h1 e1 t2 h2 e2 hnb t3 h3 e3 (by rw [mk_list, ← Lib.size_eq]) (tail_of s op key value _ _ g3 l3 value' hv)
    | true =>
      unfold encIf at g1
      rw [if_pos rfl] at g1
      obtain ⟨t2, h2, e2, g2, l2⟩ := field g1 l1 hi
      obtain ⟨t3, h3, e3, g3, l3⟩ := field (t := mk (ifB ++ Lib.decDigits rev)) (r := encTail op.data.toList key.data.toList value.data.toList) (by rw [g2, mk_list]; simp) l2 (nosp_append (by decide) (dec_nosp _))
      unfold encTail at g3
      obtain ⟨t4, h4, e4, g4, l4⟩ := field (t := mk (Lib.decDigits key.data.toList.length)) g3 l3 (dec_nosp _)
      rw [hqe]
      exact parse_if s op id key value' _ _ (mk (Lib.decDigits rev)) _ _ _ _ rev w hs hpre t1 h1 e1 t2 h2 e2 hnb t3 h3 e3 rfl rfl hrev t4 h4 e4 (by rw [mk_list, ← Lib.size_eq]) (tail_of s op key value _ _ g4 l4 value' hv)
  · have hq0 : req.size ≠ 0 := by
      rw [Lib.size_eq]
      intro e
      exact hq (List.length_eq_zero_iff.1 e)
    unfold encReq at g1
    rw [if_neg hq] at g1
    cases c with
    | false =>
      unfold encIf at g1
      rw [if_neg (by decide)] at g1
      obtain ⟨t2, h2, e2, g2, l2⟩ := field g1 l1 hi
      obtain ⟨t3, h3, e3, g3, l3⟩ := field (t := mk (reqB ++ req.data.toList)) (r := encTail op.data.toList key.data.toList value.data.toList) (by rw [g2, mk_list]; simp) l2 (nosp_append (by decide) hr)
      unfold encTail at g3
      obtain ⟨t4, h4, e4, g4, l4⟩ := field (t := mk (Lib.decDigits key.data.toList.length)) g3 l3 (dec_nosp _)
      exact parse_req s op id key value' _ _ req _ _ _ _ w hs hpre t1 h1 e1 t2 h2 e2 hnb t3 h3 e3 rfl hq0 t4 h4 e4 (by rw [mk_list, ← Lib.size_eq]) (tail_of s op key value _ _ g4 l4 value' hv)
    | true =>
      unfold encIf at g1
      rw [if_pos rfl] at g1
      obtain ⟨t2, h2, e2, g2, l2⟩ := field g1 l1 hi
      obtain ⟨t3, h3, e3, g3, l3⟩ := field (t := mk (reqB ++ req.data.toList)) (r := ifB ++ (Lib.decDigits rev ++ 32 :: encTail op.data.toList key.data.toList value.data.toList)) (by rw [g2, mk_list]; simp) l2 (nosp_append (by decide) hr)
      obtain ⟨t4, h4, e4, g4, l4⟩ := field (t := mk (ifB ++ Lib.decDigits rev)) (r := encTail op.data.toList key.data.toList value.data.toList) (by rw [g3]; simp only [mk_list, List.append_assoc]) l3 (nosp_append (by decide) (dec_nosp _))
      unfold encTail at g4
      obtain ⟨t5, h5, e5, g5, l5⟩ := field (t := mk (Lib.decDigits key.data.toList.length)) g4 l4 (dec_nosp _)
      exact parse_both s op id key value' _ _ _ req (mk (Lib.decDigits rev)) _ _ _ _ _ rev w hs hpre t1 h1 e1 t2 h2 e2 hnb t3 h3 e3 rfl hq0 t4 h4 e4 rfl rfl hrev t5 h5 e5 (by rw [mk_list, ← Lib.size_eq]) (tail_of s op key value _ _ g5 l5 value' hv)
end Go.Proofs.Qxb6603837aDoor

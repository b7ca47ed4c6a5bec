/-
  Encode, the other roads.
-/
import Derived.Test.Qxb6603837aDoorW9
namespace Go.Proofs.Qxb6603837aDoor
open Go.RowKit

set_option maxRecDepth 100000 in
set_option maxHeartbeats 4000000 in
theorem encode_req (op id req key value : ByteArray) (rev : Nat) (w : World)
    (hsz : op.size + id.size + req.size + key.size + value.size ≤ 1048576) (hrev : rev < 18446744073709551616) (hT : Lib.TabIs Tryd.prog w powName .u64 Lib.pow10Tab)
    (hop : (op.toList == [110, 111, 111, 112]) = false) (HO : Hid (¬ op.data.toList = noopB)) (hq : req.toList.isEmpty = false) (HQ : Hid (¬ req.data.toList = []))
    (hput : (op.toList = [112, 117, 116] ∧ Hid (op.data.toList = putB)) ∨ ((op.toList == [112, 117, 116]) = false ∧ Hid (¬ op.data.toList = putB))) :
    Calls Tryd.prog 7 #[.agg #[.string op, .string id, .string req, .string key, .string value, .bool false, .int .u64 rev]] w fun e w' =>
      e = .returned (.string (mk (enc op.data.toList id.data.toList req.data.toList key.data.toList value.data.toList false rev))) ∧ Below w.heap.size w w' := by
  have HR : Hid (rev < 18446744073709551616) := hrev
  have HT : Hid (Lib.TabIs Tryd.prog w powName .u64 Lib.pow10Tab) := hT
  clear hrev hT
  have f0 : Below (w.heap.size + 1) (w.alloc (.cells #[.string op, .string id, .string req, .string key, .string value, .bool false, .int .u64 rev] 29)) ((w.alloc (.cells #[.string op, .string id, .string req, .string key, .string value, .bool false, .int .u64 rev] 29)).alloc (.cells #[.pointer none, .slice none 0 0] 42)) := (Below.refl _ _).alloc (by simp) _
  go_enter Tryd.func7, Tryd.ntmps7
  go_wp2_with fail
  refine (grow_b (w.heap.size + 1) (op.size + id.size + req.size + key.size + value.size + 52) _ _ (by omega) (by omega) (alloc2 _ _ _) (by simp)).mono ?_
  rintro e W1 ⟨rfl, h1, q1⟩
  have f1 : Below (w.heap.size + 1) (w.alloc (.cells #[.string op, .string id, .string req, .string key, .string value, .bool false, .int .u64 rev] 29)) W1 := f0.trans q1
  clear q1
  obtain ⟨x0, x1, x2, x3, x4, x5, x6⟩ := box_cells f1
  go_wp2_with fail
  refine (ws_b (w.heap.size + 1) _ 4 _ (mk preB) _ h1 (Nat.le_refl 0) (by decide) (by omega)).mono ?_
  rintro e W2 ⟨rfl, h2, n2, q2⟩
  have f2 : Below (w.heap.size + 1) (w.alloc (.cells #[.string op, .string id, .string req, .string key, .string value, .bool false, .int .u64 rev] 29)) W2 := f1.trans q2
  clear q2 x0 x1 x2 x3 x4 x5 x6
  obtain ⟨x0, x1, x2, x3, x4, x5, x6⟩ := box_cells f2
  go_wp2_with fail
  refine (ws_b (w.heap.size + 1) _ op.size _ op _ h2 n2 (Nat.le_refl _) (by omega)).mono ?_
  rintro e W3 ⟨rfl, h3, n3, q3⟩
  have f3 : Below (w.heap.size + 1) (w.alloc (.cells #[.string op, .string id, .string req, .string key, .string value, .bool false, .int .u64 rev] 29)) W3 := f2.trans q3
  clear q3 x0 x1 x2 x3 x4 x5 x6
  obtain ⟨x0, x1, x2, x3, x4, x5, x6⟩ := box_cells f3
  go_wp2_with fail
  refine (wb_b (w.heap.size + 1) _ _ _ h3 n3 (by omega)).mono ?_
  rintro e W4 ⟨rfl, h4, n4, q4⟩
  have f4 : Below (w.heap.size + 1) (w.alloc (.cells #[.string op, .string id, .string req, .string key, .string value, .bool false, .int .u64 rev] 29)) W4 := f3.trans q4
  clear q4 x0 x1 x2 x3 x4 x5 x6
  obtain ⟨x0, x1, x2, x3, x4, x5, x6⟩ := box_cells f4
  go_wp2_with fail
  refine (ws_b (w.heap.size + 1) _ id.size _ id _ h4 n4 (Nat.le_refl _) (by omega)).mono ?_
  rintro e W5 ⟨rfl, h5, n5, q5⟩
  have f5 : Below (w.heap.size + 1) (w.alloc (.cells #[.string op, .string id, .string req, .string key, .string value, .bool false, .int .u64 rev] 29)) W5 := f4.trans q5
  clear q5 x0 x1 x2 x3 x4 x5 x6
  obtain ⟨x0, x1, x2, x3, x4, x5, x6⟩ := box_cells f5
  go_wp2_with fail
  refine (wb_b (w.heap.size + 1) _ _ _ h5 n5 (by omega)).mono ?_
  rintro e W6 ⟨rfl, h6, n6, q6⟩
  have f6 : Below (w.heap.size + 1) (w.alloc (.cells #[.string op, .string id, .string req, .string key, .string value, .bool false, .int .u64 rev] 29)) W6 := f5.trans q6
  clear q6 x0 x1 x2 x3 x4 x5 x6
  obtain ⟨x0, x1, x2, x3, x4, x5, x6⟩ := box_cells f6
  go_wp2_with fail
  refine (ws_b (w.heap.size + 1) _ 4 _ (mk reqB) _ h6 n6 (by decide) (by omega)).mono ?_
  rintro e W7 ⟨rfl, h7, n7, q7⟩
  have f7 : Below (w.heap.size + 1) (w.alloc (.cells #[.string op, .string id, .string req, .string key, .string value, .bool false, .int .u64 rev] 29)) W7 := f6.trans q7
  clear q7 x0 x1 x2 x3 x4 x5 x6
  obtain ⟨x0, x1, x2, x3, x4, x5, x6⟩ := box_cells f7
  go_wp2_with fail
  refine (ws_b (w.heap.size + 1) _ req.size _ req _ h7 n7 (Nat.le_refl _) (by omega)).mono ?_
  rintro e W8 ⟨rfl, h8, n8, q8⟩
  have f8 : Below (w.heap.size + 1) (w.alloc (.cells #[.string op, .string id, .string req, .string key, .string value, .bool false, .int .u64 rev] 29)) W8 := f7.trans q8
  clear q8 x0 x1 x2 x3 x4 x5 x6
  obtain ⟨x0, x1, x2, x3, x4, x5, x6⟩ := box_cells f8
  go_wp2_with fail
  refine (wb_b (w.heap.size + 1) _ _ _ h8 n8 (by omega)).mono ?_
  rintro e W9 ⟨rfl, h9, n9, q9⟩
  have f9 : Below (w.heap.size + 1) (w.alloc (.cells #[.string op, .string id, .string req, .string key, .string value, .bool false, .int .u64 rev] 29)) W9 := f8.trans q9
  clear q9 x0 x1 x2 x3 x4 x5 x6
  obtain ⟨x0, x1, x2, x3, x4, x5, x6⟩ := box_cells f9
  go_wp2_with fail
  refine (itoa_b (w.heap.size + 1) key.size _ _ h9 (by omega) (Lib.tabBelow_of_tabIs HT.out _ (((Below.refl _ _).alloc (Nat.le_refl _) _).trans (f9.mono (by omega))))).mono ?_
  rintro e W10 ⟨rfl, h10, q10⟩
  have f10 : Below (w.heap.size + 1) (w.alloc (.cells #[.string op, .string id, .string req, .string key, .string value, .bool false, .int .u64 rev] 29)) W10 := f9.trans q10
  clear q10 x0 x1 x2 x3 x4 x5 x6
  obtain ⟨x0, x1, x2, x3, x4, x5, x6⟩ := box_cells f10
  go_wp2_with fail
  refine (ws_b (w.heap.size + 1) _ 20 _ (mk (Lib.decDigits key.size)) _ h10 n9 (dec_len _ (by omega)) (by omega)).mono ?_
  rintro e W11 ⟨rfl, h11, n11, q11⟩
  have f11 : Below (w.heap.size + 1) (w.alloc (.cells #[.string op, .string id, .string req, .string key, .string value, .bool false, .int .u64 rev] 29)) W11 := f10.trans q11
  clear q11 x0 x1 x2 x3 x4 x5 x6
  obtain ⟨x0, x1, x2, x3, x4, x5, x6⟩ := box_cells f11
  go_wp2_with fail
  refine (wb_b (w.heap.size + 1) _ _ _ h11 n11 (by omega)).mono ?_
  rintro e W12 ⟨rfl, h12, n12, q12⟩
  have f12 : Below (w.heap.size + 1) (w.alloc (.cells #[.string op, .string id, .string req, .string key, .string value, .bool false, .int .u64 rev] 29)) W12 := f11.trans q12
  clear q12 x0 x1 x2 x3 x4 x5 x6
  obtain ⟨x0, x1, x2, x3, x4, x5, x6⟩ := box_cells f12
  go_wp2_with fail
  refine (ws_b (w.heap.size + 1) _ key.size _ key _ h12 n12 (Nat.le_refl _) (by omega)).mono ?_
  rintro e W13 ⟨rfl, h13, n13, q13⟩
  have f13 : Below (w.heap.size + 1) (w.alloc (.cells #[.string op, .string id, .string req, .string key, .string value, .bool false, .int .u64 rev] 29)) W13 := f12.trans q13
  clear q13 x0 x1 x2 x3 x4 x5 x6
  obtain ⟨x0, x1, x2, x3, x4, x5, x6⟩ := box_cells f13
  rcases hput with ⟨hp, HP⟩ | ⟨hp, HP⟩
  · go_wp2_with fail
    refine (wb_b (w.heap.size + 1) _ _ _ h13 n13 (by omega)).mono ?_
    rintro e W14 ⟨rfl, h14, n14, q14⟩
    have f14 : Below (w.heap.size + 1) (w.alloc (.cells #[.string op, .string id, .string req, .string key, .string value, .bool false, .int .u64 rev] 29)) W14 := f13.trans q14
    clear q14 x0 x1 x2 x3 x4 x5 x6
    obtain ⟨x0, x1, x2, x3, x4, x5, x6⟩ := box_cells f14
    go_wp2_with fail
    refine (ws_b (w.heap.size + 1) _ value.size _ value _ h14 n14 (Nat.le_refl _) (by omega)).mono ?_
    rintro e W15 ⟨rfl, h15, n15, q15⟩
    have f15 : Below (w.heap.size + 1) (w.alloc (.cells #[.string op, .string id, .string req, .string key, .string value, .bool false, .int .u64 rev] 29)) W15 := f14.trans q15
    clear q15 x0 x1 x2 x3 x4 x5 x6
    obtain ⟨x0, x1, x2, x3, x4, x5, x6⟩ := box_cells f15
    go_wp2_with fail
    refine (str_b (w.heap.size + 1) _ _ h15).mono ?_
    rintro e WL ⟨rfl, qL⟩
    go_wp2
    go_ret
    refine ⟨?_, ((Below.refl _ _).alloc (Nat.le_refl _) _).trans ((f15.trans qL).mono (by omega))⟩
    exact congrArg (fun l => Ending.returned (.string (mk l))) (by unfold enc encTail encReq encIf; rw [if_neg HO.out, if_neg HQ.out, if_neg (by decide), if_pos HP.out]; simp [mk_list])
  · go_wp2_with fail
    refine (str_b (w.heap.size + 1) _ _ h13).mono ?_
    rintro e WL ⟨rfl, qL⟩
    go_wp2
    go_ret
    refine ⟨?_, ((Below.refl _ _).alloc (Nat.le_refl _) _).trans ((f13.trans qL).mono (by omega))⟩
    exact congrArg (fun l => Ending.returned (.string (mk l))) (by unfold enc encTail encReq encIf; rw [if_neg HO.out, if_neg HQ.out, if_neg (by decide), if_neg HP.out]; simp [mk_list])

set_option maxRecDepth 100000 in
set_option maxHeartbeats 4000000 in
theorem encode_if (op id req key value : ByteArray) (rev : Nat) (w : World)
    (hsz : op.size + id.size + req.size + key.size + value.size ≤ 1048576) (hrev : rev < 18446744073709551616) (hT : Lib.TabIs Tryd.prog w powName .u64 Lib.pow10Tab)
    (hop : (op.toList == [110, 111, 111, 112]) = false) (HO : Hid (¬ op.data.toList = noopB)) (hq : req.toList.isEmpty = true) (HQ : Hid (req.data.toList = []))
    (hput : (op.toList = [112, 117, 116] ∧ Hid (op.data.toList = putB)) ∨ ((op.toList == [112, 117, 116]) = false ∧ Hid (¬ op.data.toList = putB))) :
    Calls Tryd.prog 7 #[.agg #[.string op, .string id, .string req, .string key, .string value, .bool true, .int .u64 rev]] w fun e w' =>
      e = .returned (.string (mk (enc op.data.toList id.data.toList req.data.toList key.data.toList value.data.toList true rev))) ∧ Below w.heap.size w w' := by
  have HR : Hid (rev < 18446744073709551616) := hrev
  have HT : Hid (Lib.TabIs Tryd.prog w powName .u64 Lib.pow10Tab) := hT
  clear hrev hT
  have f0 : Below (w.heap.size + 1) (w.alloc (.cells #[.string op, .string id, .string req, .string key, .string value, .bool true, .int .u64 rev] 29)) ((w.alloc (.cells #[.string op, .string id, .string req, .string key, .string value, .bool true, .int .u64 rev] 29)).alloc (.cells #[.pointer none, .slice none 0 0] 42)) := (Below.refl _ _).alloc (by simp) _
  go_enter Tryd.func7, Tryd.ntmps7
  go_wp2_with fail
  refine (grow_b (w.heap.size + 1) (op.size + id.size + req.size + key.size + value.size + 52) _ _ (by omega) (by omega) (alloc2 _ _ _) (by simp)).mono ?_
  rintro e W1 ⟨rfl, h1, q1⟩
  have f1 : Below (w.heap.size + 1) (w.alloc (.cells #[.string op, .string id, .string req, .string key, .string value, .bool true, .int .u64 rev] 29)) W1 := f0.trans q1
  clear q1
  obtain ⟨x0, x1, x2, x3, x4, x5, x6⟩ := box_cells f1
  go_wp2_with fail
  refine (ws_b (w.heap.size + 1) _ 4 _ (mk preB) _ h1 (Nat.le_refl 0) (by decide) (by omega)).mono ?_
  rintro e W2 ⟨rfl, h2, n2, q2⟩
  have f2 : Below (w.heap.size + 1) (w.alloc (.cells #[.string op, .string id, .string req, .string key, .string value, .bool true, .int .u64 rev] 29)) W2 := f1.trans q2
  clear q2 x0 x1 x2 x3 x4 x5 x6
  obtain ⟨x0, x1, x2, x3, x4, x5, x6⟩ := box_cells f2
  go_wp2_with fail
  refine (ws_b (w.heap.size + 1) _ op.size _ op _ h2 n2 (Nat.le_refl _) (by omega)).mono ?_
  rintro e W3 ⟨rfl, h3, n3, q3⟩
  have f3 : Below (w.heap.size + 1) (w.alloc (.cells #[.string op, .string id, .string req, .string key, .string value, .bool true, .int .u64 rev] 29)) W3 := f2.trans q3
  clear q3 x0 x1 x2 x3 x4 x5 x6
  obtain ⟨x0, x1, x2, x3, x4, x5, x6⟩ := box_cells f3
  go_wp2_with fail
  refine (wb_b (w.heap.size + 1) _ _ _ h3 n3 (by omega)).mono ?_
  rintro e W4 ⟨rfl, h4, n4, q4⟩
  have f4 : Below (w.heap.size + 1) (w.alloc (.cells #[.string op, .string id, .string req, .string key, .string value, .bool true, .int .u64 rev] 29)) W4 := f3.trans q4
  clear q4 x0 x1 x2 x3 x4 x5 x6
  obtain ⟨x0, x1, x2, x3, x4, x5, x6⟩ := box_cells f4
  go_wp2_with fail
  refine (ws_b (w.heap.size + 1) _ id.size _ id _ h4 n4 (Nat.le_refl _) (by omega)).mono ?_
  rintro e W5 ⟨rfl, h5, n5, q5⟩
  have f5 : Below (w.heap.size + 1) (w.alloc (.cells #[.string op, .string id, .string req, .string key, .string value, .bool true, .int .u64 rev] 29)) W5 := f4.trans q5
  clear q5 x0 x1 x2 x3 x4 x5 x6
  obtain ⟨x0, x1, x2, x3, x4, x5, x6⟩ := box_cells f5
  go_wp2_with fail
  refine (wb_b (w.heap.size + 1) _ _ _ h5 n5 (by omega)).mono ?_
  rintro e W6 ⟨rfl, h6, n6, q6⟩
  have f6 : Below (w.heap.size + 1) (w.alloc (.cells #[.string op, .string id, .string req, .string key, .string value, .bool true, .int .u64 rev] 29)) W6 := f5.trans q6
  clear q6 x0 x1 x2 x3 x4 x5 x6
  obtain ⟨x0, x1, x2, x3, x4, x5, x6⟩ := box_cells f6
  go_wp2_with fail
  refine (ws_b (w.heap.size + 1) _ 3 _ (mk ifB) _ h6 n6 (by decide) (by omega)).mono ?_
  rintro e W7 ⟨rfl, h7, n7, q7⟩
  have f7 : Below (w.heap.size + 1) (w.alloc (.cells #[.string op, .string id, .string req, .string key, .string value, .bool true, .int .u64 rev] 29)) W7 := f6.trans q7
  clear q7 x0 x1 x2 x3 x4 x5 x6
  obtain ⟨x0, x1, x2, x3, x4, x5, x6⟩ := box_cells f7
  go_wp2_with fail
  refine (fmt_b (w.heap.size + 1) rev _ _ h7 HR.out (Lib.tabBelow_of_tabIs HT.out _ (((Below.refl _ _).alloc (Nat.le_refl _) _).trans (f7.mono (by omega))))).mono ?_
  rintro e W8 ⟨rfl, h8, q8⟩
  have f8 : Below (w.heap.size + 1) (w.alloc (.cells #[.string op, .string id, .string req, .string key, .string value, .bool true, .int .u64 rev] 29)) W8 := f7.trans q8
  clear q8 x0 x1 x2 x3 x4 x5 x6
  obtain ⟨x0, x1, x2, x3, x4, x5, x6⟩ := box_cells f8
  go_wp2_with fail
  refine (ws_b (w.heap.size + 1) _ 20 _ (mk (Lib.decDigits rev)) _ h8 n7 (dec_len _ HR.out) (by omega)).mono ?_
  rintro e W9 ⟨rfl, h9, n9, q9⟩
  have f9 : Below (w.heap.size + 1) (w.alloc (.cells #[.string op, .string id, .string req, .string key, .string value, .bool true, .int .u64 rev] 29)) W9 := f8.trans q9
  clear q9 x0 x1 x2 x3 x4 x5 x6
  obtain ⟨x0, x1, x2, x3, x4, x5, x6⟩ := box_cells f9
  go_wp2_with fail
  refine (wb_b (w.heap.size + 1) _ _ _ h9 n9 (by omega)).mono ?_
  rintro e W10 ⟨rfl, h10, n10, q10⟩
  have f10 : Below (w.heap.size + 1) (w.alloc (.cells #[.string op, .string id, .string req, .string key, .string value, .bool true, .int .u64 rev] 29)) W10 := f9.trans q10
  clear q10 x0 x1 x2 x3 x4 x5 x6
  obtain ⟨x0, x1, x2, x3, x4, x5, x6⟩ := box_cells f10
  go_wp2_with fail
  refine (itoa_b (w.heap.size + 1) key.size _ _ h10 (by omega) (Lib.tabBelow_of_tabIs HT.out _ (((Below.refl _ _).alloc (Nat.le_refl _) _).trans (f10.mono (by omega))))).mono ?_
  rintro e W11 ⟨rfl, h11, q11⟩
  have f11 : Below (w.heap.size + 1) (w.alloc (.cells #[.string op, .string id, .string req, .string key, .string value, .bool true, .int .u64 rev] 29)) W11 := f10.trans q11
  clear q11 x0 x1 x2 x3 x4 x5 x6
  obtain ⟨x0, x1, x2, x3, x4, x5, x6⟩ := box_cells f11
  go_wp2_with fail
  refine (ws_b (w.heap.size + 1) _ 20 _ (mk (Lib.decDigits key.size)) _ h11 n10 (dec_len _ (by omega)) (by omega)).mono ?_
  rintro e W12 ⟨rfl, h12, n12, q12⟩
  have f12 : Below (w.heap.size + 1) (w.alloc (.cells #[.string op, .string id, .string req, .string key, .string value, .bool true, .int .u64 rev] 29)) W12 := f11.trans q12
  clear q12 x0 x1 x2 x3 x4 x5 x6
  obtain ⟨x0, x1, x2, x3, x4, x5, x6⟩ := box_cells f12
  go_wp2_with fail
  refine (wb_b (w.heap.size + 1) _ _ _ h12 n12 (by omega)).mono ?_
  rintro e W13 ⟨rfl, h13, n13, q13⟩
  have f13 : Below (w.heap.size + 1) (w.alloc (.cells #[.string op, .string id, .string req, .string key, .string value, .bool true, .int .u64 rev] 29)) W13 := f12.trans q13
  clear q13 x0 x1 x2 x3 x4 x5 x6
  obtain ⟨x0, x1, x2, x3, x4, x5, x6⟩ := box_cells f13
  go_wp2_with fail
  refine (ws_b (w.heap.size + 1) _ key.size _ key _ h13 n13 (Nat.le_refl _) (by omega)).mono ?_
  rintro e W14 ⟨rfl, h14, n14, q14⟩
  have f14 : Below (w.heap.size + 1) (w.alloc (.cells #[.string op, .string id, .string req, .string key, .string value, .bool true, .int .u64 rev] 29)) W14 := f13.trans q14
  clear q14 x0 x1 x2 x3 x4 x5 x6
  obtain ⟨x0, x1, x2, x3, x4, x5, x6⟩ := box_cells f14
  rcases hput with ⟨hp, HP⟩ | ⟨hp, HP⟩
  · go_wp2_with fail
    refine (wb_b (w.heap.size + 1) _ _ _ h14 n14 (by omega)).mono ?_
    rintro e W15 ⟨rfl, h15, n15, q15⟩
    have f15 : Below (w.heap.size + 1) (w.alloc (.cells #[.string op, .string id, .string req, .string key, .string value, .bool true, .int .u64 rev] 29)) W15 := f14.trans q15
    clear q15 x0 x1 x2 x3 x4 x5 x6
    obtain ⟨x0, x1, x2, x3, x4, x5, x6⟩ := box_cells f15
    go_wp2_with fail
    refine (ws_b (w.heap.size + 1) _ value.size _ value _ h15 n15 (Nat.le_refl _) (by omega)).mono ?_
    rintro e W16 ⟨rfl, h16, n16, q16⟩
    have f16 : Below (w.heap.size + 1) (w.alloc (.cells #[.string op, .string id, .string req, .string key, .string value, .bool true, .int .u64 rev] 29)) W16 := f15.trans q16
    clear q16 x0 x1 x2 x3 x4 x5 x6
    obtain ⟨x0, x1, x2, x3, x4, x5, x6⟩ := box_cells f16
    go_wp2_with fail
    refine (str_b (w.heap.size + 1) _ _ h16).mono ?_
    rintro e WL ⟨rfl, qL⟩
    go_wp2
    go_ret
    refine ⟨?_, ((Below.refl _ _).alloc (Nat.le_refl _) _).trans ((f16.trans qL).mono (by omega))⟩
    exact congrArg (fun l => Ending.returned (.string (mk l))) (by unfold enc encTail encReq encIf; rw [if_neg HO.out, if_pos HQ.out, if_pos rfl, if_pos HP.out]; simp [mk_list])
  · go_wp2_with fail
    refine (str_b (w.heap.size + 1) _ _ h14).mono ?_
    rintro e WL ⟨rfl, qL⟩
    go_wp2
    go_ret
    refine ⟨?_, ((Below.refl _ _).alloc (Nat.le_refl _) _).trans ((f14.trans qL).mono (by omega))⟩
    exact congrArg (fun l => Ending.returned (.string (mk l))) (by unfold enc encTail encReq encIf; rw [if_neg HO.out, if_pos HQ.out, if_pos rfl, if_neg HP.out]; simp [mk_list])

set_option maxRecDepth 100000 in
set_option maxHeartbeats 4000000 in
theorem encode_both (op id req key value : ByteArray) (rev : Nat) (w : World)
    (hsz : op.size + id.size + req.size + key.size + value.size ≤ 1048576) (hrev : rev < 18446744073709551616) (hT : Lib.TabIs Tryd.prog w powName .u64 Lib.pow10Tab)
    (hop : (op.toList == [110, 111, 111, 112]) = false) (HO : Hid (¬ op.data.toList = noopB)) (hq : req.toList.isEmpty = false) (HQ : Hid (¬ req.data.toList = []))
    (hput : (op.toList = [112, 117, 116] ∧ Hid (op.data.toList = putB)) ∨ ((op.toList == [112, 117, 116]) = false ∧ Hid (¬ op.data.toList = putB))) :
    Calls Tryd.prog 7 #[.agg #[.string op, .string id, .string req, .string key, .string value, .bool true, .int .u64 rev]] w fun e w' =>
      e = .returned (.string (mk (enc op.data.toList id.data.toList req.data.toList key.data.toList value.data.toList true rev))) ∧ Below w.heap.size w w' := by
  have HR : Hid (rev < 18446744073709551616) := hrev
  have HT : Hid (Lib.TabIs Tryd.prog w powName .u64 Lib.pow10Tab) := hT
  clear hrev hT
  have f0 : Below (w.heap.size + 1) (w.alloc (.cells #[.string op, .string id, .string req, .string key, .string value, .bool true, .int .u64 rev] 29)) ((w.alloc (.cells #[.string op, .string id, .string req, .string key, .string value, .bool true, .int .u64 rev] 29)).alloc (.cells #[.pointer none, .slice none 0 0] 42)) := (Below.refl _ _).alloc (by simp) _
  go_enter Tryd.func7, Tryd.ntmps7
  go_wp2_with fail
  refine (grow_b (w.heap.size + 1) (op.size + id.size + req.size + key.size + value.size + 52) _ _ (by omega) (by omega) (alloc2 _ _ _) (by simp)).mono ?_
  rintro e W1 ⟨rfl, h1, q1⟩
  have f1 : Below (w.heap.size + 1) (w.alloc (.cells #[.string op, .string id, .string req, .string key, .string value, .bool true, .int .u64 rev] 29)) W1 := f0.trans q1
  clear q1
  obtain ⟨x0, x1, x2, x3, x4, x5, x6⟩ := box_cells f1
  go_wp2_with fail
  refine (ws_b (w.heap.size + 1) _ 4 _ (mk preB) _ h1 (Nat.le_refl 0) (by decide) (by omega)).mono ?_
  rintro e W2 ⟨rfl, h2, n2, q2⟩
  have f2 : Below (w.heap.size + 1) (w.alloc (.cells #[.string op, .string id, .string req, .string key, .string value, .bool true, .int .u64 rev] 29)) W2 := f1.trans q2
  clear q2 x0 x1 x2 x3 x4 x5 x6
  obtain ⟨x0, x1, x2, x3, x4, x5, x6⟩ := box_cells f2
  go_wp2_with fail
  refine (ws_b (w.heap.size + 1) _ op.size _ op _ h2 n2 (Nat.le_refl _) (by omega)).mono ?_
  rintro e W3 ⟨rfl, h3, n3, q3⟩
  have f3 : Below (w.heap.size + 1) (w.alloc (.cells #[.string op, .string id, .string req, .string key, .string value, .bool true, .int .u64 rev] 29)) W3 := f2.trans q3
  clear q3 x0 x1 x2 x3 x4 x5 x6
  obtain ⟨x0, x1, x2, x3, x4, x5, x6⟩ := box_cells f3
  go_wp2_with fail
  refine (wb_b (w.heap.size + 1) _ _ _ h3 n3 (by omega)).mono ?_
  rintro e W4 ⟨rfl, h4, n4, q4⟩
  have f4 : Below (w.heap.size + 1) (w.alloc (.cells #[.string op, .string id, .string req, .string key, .string value, .bool true, .int .u64 rev] 29)) W4 := f3.trans q4
  clear q4 x0 x1 x2 x3 x4 x5 x6
  obtain ⟨x0, x1, x2, x3, x4, x5, x6⟩ := box_cells f4
  go_wp2_with fail
  refine (ws_b (w.heap.size + 1) _ id.size _ id _ h4 n4 (Nat.le_refl _) (by omega)).mono ?_
  rintro e W5 ⟨rfl, h5, n5, q5⟩
  have f5 : Below (w.heap.size + 1) (w.alloc (.cells #[.string op, .string id, .string req, .string key, .string value, .bool true, .int .u64 rev] 29)) W5 := f4.trans q5
  clear q5 x0 x1 x2 x3 x4 x5 x6
  obtain ⟨x0, x1, x2, x3, x4, x5, x6⟩ := box_cells f5
  go_wp2_with fail
  refine (wb_b (w.heap.size + 1) _ _ _ h5 n5 (by omega)).mono ?_
  rintro e W6 ⟨rfl, h6, n6, q6⟩
  have f6 : Below (w.heap.size + 1) (w.alloc (.cells #[.string op, .string id, .string req, .string key, .string value, .bool true, .int .u64 rev] 29)) W6 := f5.trans q6
  clear q6 x0 x1 x2 x3 x4 x5 x6
  obtain ⟨x0, x1, x2, x3, x4, x5, x6⟩ := box_cells f6
  go_wp2_with fail
  refine (ws_b (w.heap.size + 1) _ 4 _ (mk reqB) _ h6 n6 (by decide) (by omega)).mono ?_
  rintro e W7 ⟨rfl, h7, n7, q7⟩
  have f7 : Below (w.heap.size + 1) (w.alloc (.cells #[.string op, .string id, .string req, .string key, .string value, .bool true, .int .u64 rev] 29)) W7 := f6.trans q7
  clear q7 x0 x1 x2 x3 x4 x5 x6
  obtain ⟨x0, x1, x2, x3, x4, x5, x6⟩ := box_cells f7
  go_wp2_with fail
  refine (ws_b (w.heap.size + 1) _ req.size _ req _ h7 n7 (Nat.le_refl _) (by omega)).mono ?_
  rintro e W8 ⟨rfl, h8, n8, q8⟩
  have f8 : Below (w.heap.size + 1) (w.alloc (.cells #[.string op, .string id, .string req, .string key, .string value, .bool true, .int .u64 rev] 29)) W8 := f7.trans q8
  clear q8 x0 x1 x2 x3 x4 x5 x6
  obtain ⟨x0, x1, x2, x3, x4, x5, x6⟩ := box_cells f8
  go_wp2_with fail
  refine (wb_b (w.heap.size + 1) _ _ _ h8 n8 (by omega)).mono ?_
  rintro e W9 ⟨rfl, h9, n9, q9⟩
  have f9 : Below (w.heap.size + 1) (w.alloc (.cells #[.string op, .string id, .string req, .string key, .string value, .bool true, .int .u64 rev] 29)) W9 := f8.trans q9
  clear q9 x0 x1 x2 x3 x4 x5 x6
  obtain ⟨x0, x1, x2, x3, x4, x5, x6⟩ := box_cells f9
  go_wp2_with fail
  refine (ws_b (w.heap.size + 1) _ 3 _ (mk ifB) _ h9 n9 (by decide) (by omega)).mono ?_
  rintro e W10 ⟨rfl, h10, n10, q10⟩
  have f10 : Below (w.heap.size + 1) (w.alloc (.cells #[.string op, .string id, .string req, .string key, .string value, .bool true, .int .u64 rev] 29)) W10 := f9.trans q10
  clear q10 x0 x1 x2 x3 x4 x5 x6
  obtain ⟨x0, x1, x2, x3, x4, x5, x6⟩ := box_cells f10
  go_wp2_with fail
  refine (fmt_b (w.heap.size + 1) rev _ _ h10 HR.out (Lib.tabBelow_of_tabIs HT.out _ (((Below.refl _ _).alloc (Nat.le_refl _) _).trans (f10.mono (by omega))))).mono ?_
  rintro e W11 ⟨rfl, h11, q11⟩
  have f11 : Below (w.heap.size + 1) (w.alloc (.cells #[.string op, .string id, .string req, .string key, .string value, .bool true, .int .u64 rev] 29)) W11 := f10.trans q11
  clear q11 x0 x1 x2 x3 x4 x5 x6
  obtain ⟨x0, x1, x2, x3, x4, x5, x6⟩ := box_cells f11
  go_wp2_with fail
  refine (ws_b (w.heap.size + 1) _ 20 _ (mk (Lib.decDigits rev)) _ h11 n10 (dec_len _ HR.out) (by omega)).mono ?_
  rintro e W12 ⟨rfl, h12, n12, q12⟩
  have f12 : Below (w.heap.size + 1) (w.alloc (.cells #[.string op, .string id, .string req, .string key, .string value, .bool true, .int .u64 rev] 29)) W12 := f11.trans q12
  clear q12 x0 x1 x2 x3 x4 x5 x6
  obtain ⟨x0, x1, x2, x3, x4, x5, x6⟩ := box_cells f12
  go_wp2_with fail
  refine (wb_b (w.heap.size + 1) _ _ _ h12 n12 (by omega)).mono ?_
  rintro e W13 ⟨rfl, h13, n13, q13⟩
  have f13 : Below (w.heap.size + 1) (w.alloc (.cells #[.string op, .string id, .string req, .string key, .string value, .bool true, .int .u64 rev] 29)) W13 := f12.trans q13
  clear q13 x0 x1 x2 x3 x4 x5 x6
  obtain ⟨x0, x1, x2, x3, x4, x5, x6⟩ := box_cells f13
  go_wp2_with fail
  refine (itoa_b (w.heap.size + 1) key.size _ _ h13 (by omega) (Lib.tabBelow_of_tabIs HT.out _ (((Below.refl _ _).alloc (Nat.le_refl _) _).trans (f13.mono (by omega))))).mono ?_
  rintro e W14 ⟨rfl, h14, q14⟩
  have f14 : Below (w.heap.size + 1) (w.alloc (.cells #[.string op, .string id, .string req, .string key, .string value, .bool true, .int .u64 rev] 29)) W14 := f13.trans q14
  clear q14 x0 x1 x2 x3 x4 x5 x6
  obtain ⟨x0, x1, x2, x3, x4, x5, x6⟩ := box_cells f14
  go_wp2_with fail
  refine (ws_b (w.heap.size + 1) _ 20 _ (mk (Lib.decDigits key.size)) _ h14 n13 (dec_len _ (by omega)) (by omega)).mono ?_
  rintro e W15 ⟨rfl, h15, n15, q15⟩
  have f15 : Below (w.heap.size + 1) (w.alloc (.cells #[.string op, .string id, .string req, .string key, .string value, .bool true, .int .u64 rev] 29)) W15 := f14.trans q15
  clear q15 x0 x1 x2 x3 x4 x5 x6
  obtain ⟨x0, x1, x2, x3, x4, x5, x6⟩ := box_cells f15
  go_wp2_with fail
  refine (wb_b (w.heap.size + 1) _ _ _ h15 n15 (by omega)).mono ?_
  rintro e W16 ⟨rfl, h16, n16, q16⟩
  have f16 : Below (w.heap.size + 1) (w.alloc (.cells #[.string op, .string id, .string req, .string key, .string value, .bool true, .int .u64 rev] 29)) W16 := f15.trans q16
  clear q16 x0 x1 x2 x3 x4 x5 x6
  obtain ⟨x0, x1, x2, x3, x4, x5, x6⟩ := box_cells f16
  go_wp2_with fail
  refine (ws_b (w.heap.size + 1) _ key.size _ key _ h16 n16 (Nat.le_refl _) (by omega)).mono ?_
  rintro e W17 ⟨rfl, h17, n17, q17⟩
  have f17 : Below (w.heap.size + 1) (w.alloc (.cells #[.string op, .string id, .string req, .string key, .string value, .bool true, .int .u64 rev] 29)) W17 := f16.trans q17
  clear q17 x0 x1 x2 x3 x4 x5 x6
  obtain ⟨x0, x1, x2, x3, x4, x5, x6⟩ := box_cells f17
  rcases hput with ⟨hp, HP⟩ | ⟨hp, HP⟩
  · go_wp2_with fail
    refine (wb_b (w.heap.size + 1) _ _ _ h17 n17 (by omega)).mono ?_
    rintro e W18 ⟨rfl, h18, n18, q18⟩
    have f18 : Below (w.heap.size + 1) (w.alloc (.cells #[.string op, .string id, .string req, .string key, .string value, .bool true, .int .u64 rev] 29)) W18 := f17.trans q18
    clear q18 x0 x1 x2 x3 x4 x5 x6
    obtain ⟨x0, x1, x2, x3, x4, x5, x6⟩ := box_cells f18
    go_wp2_with fail
    refine (ws_b (w.heap.size + 1) _ value.size _ value _ h18 n18 (Nat.le_refl _) (by omega)).mono ?_
    rintro e W19 ⟨rfl, h19, n19, q19⟩
    have f19 : Below (w.heap.size + 1) (w.alloc (.cells #[.string op, .string id, .string req, .string key, .string value, .bool true, .int .u64 rev] 29)) W19 := f18.trans q19
    clear q19 x0 x1 x2 x3 x4 x5 x6
    obtain ⟨x0, x1, x2, x3, x4, x5, x6⟩ := box_cells f19
    go_wp2_with fail
    refine (str_b (w.heap.size + 1) _ _ h19).mono ?_
    rintro e WL ⟨rfl, qL⟩
    go_wp2
    go_ret
    refine ⟨?_, ((Below.refl _ _).alloc (Nat.le_refl _) _).trans ((f19.trans qL).mono (by omega))⟩
    exact congrArg (fun l => Ending.returned (.string (mk l))) (by unfold enc encTail encReq encIf; rw [if_neg HO.out, if_neg HQ.out, if_pos rfl, if_pos HP.out]; simp [mk_list])
  · go_wp2_with fail
    refine (str_b (w.heap.size + 1) _ _ h17).mono ?_
    rintro e WL ⟨rfl, qL⟩
    go_wp2
    go_ret
    refine ⟨?_, ((Below.refl _ _).alloc (Nat.le_refl _) _).trans ((f17.trans qL).mono (by omega))⟩
    exact congrArg (fun l => Ending.returned (.string (mk l))) (by unfold enc encTail encReq encIf; rw [if_neg HO.out, if_neg HQ.out, if_pos rfl, if_neg HP.out]; simp [mk_list])

end Go.Proofs.Qxb6603837aDoor

/-
  Encode, over the library's contracts.
-/
import Derived.Test.Qxb6603837aDoorW7
import Derived.Test.Qxb6603837aDoorPlain3
import Derived.WalkSpells
import Derived.WalkLawsBesides
namespace Go.Proofs.Qxb6603837aDoor
open Go.RowKit

/-- The builder in block b holds just the bytes l. -/
def IsB (b : Nat) (l : List UInt8) (w : World) : Prop := Lib.IsBuilder 42 5 b b (Lib.byteCells l) w ∧ b ≤ w.heap.size

theorem grow_b (b n : Nat) (m : Int) (w : World) (hm : m = n) (hn : n ≤ 2000000) (hb : w.heap[b]? = some (.cells #[.pointer none, .slice none 0 0] 42 (0, 0))) (hB : b ≤ w.heap.size) :
    Calls Tryd.prog 11 #[.pointer (some ⟨b, 0, none⟩), .int .i64 m] w fun e w' => e = .returned (.tuple #[]) ∧ IsB b [] w' ∧ Below b w w' := by
  subst hm
  refine (Tryd.Builder_Grow_fresh b b n w (Nat.le_refl _) hb hB (by omega)).mono ?_
  rintro e w' ⟨rfl, h1, h2⟩
  exact ⟨rfl, ⟨.inr h1, Nat.le_trans hB h2.size⟩, h2⟩

theorem ws_b (b n m : Nat) (l : List UInt8) (s : ByteArray) (w : World) (h : IsB b l w) (hl : l.length ≤ n) (hm : s.size ≤ m) (hn : n + m ≤ 2000000) :
    Calls Tryd.prog 12 #[.pointer (some ⟨b, 0, none⟩), .string s] w fun e w' => e = .returned (.tuple #[.int .i64 s.size, .nilIface]) ∧ IsB b (l ++ s.data.toList) w' ∧ (l ++ s.data.toList).length ≤ n + m ∧ Below b w w' := by
  refine (Tryd.Builder_WriteString b b _ s w h.1 (by rw [Lib.byteCells_length]; omega) h.2).mono ?_
  rintro e w' ⟨rfl, h1, h2⟩
  rw [Lib.strCells_eq, ← Lib.byteCells_append] at h1
  exact ⟨rfl, ⟨.inr h1, Nat.le_trans h.2 h2.size⟩, by rw [List.length_append, ← Lib.size_eq]; omega, h2⟩

theorem wb_b (b n : Nat) (l : List UInt8) (w : World) (h : IsB b l w) (hl : l.length ≤ n) (hn : n + 1 ≤ 2000000) :
    Calls Tryd.prog 13 #[.pointer (some ⟨b, 0, none⟩), .int .u8 32] w fun e w' => e = .returned .nilIface ∧ IsB b (l ++ [32]) w' ∧ (l ++ [32]).length ≤ n + 1 ∧ Below b w w' := by
  refine (Tryd.Builder_WriteByte b b _ 32 w h.1 (by rw [Lib.byteCells_length]; omega) h.2).mono ?_
  rintro e w' ⟨rfl, h1, h2⟩
  have e1 : Lib.byteCells l ++ [.int .u8 32] = Lib.byteCells (l ++ [32]) := by rw [Lib.byteCells_append]; rfl
  rw [e1] at h1
  exact ⟨rfl, ⟨.inr h1, Nat.le_trans h.2 h2.size⟩, by rw [List.length_append, List.length_singleton]; omega, h2⟩

theorem str_b (b : Nat) (l : List UInt8) (w : World) (h : IsB b l w) :
    Calls Tryd.prog 14 #[.pointer (some ⟨b, 0, none⟩)] w fun e w' => e = .returned (.string (mk l)) ∧ Below b w w' :=
  Tryd.Builder_String_any b b l w h.1 h.2

theorem box_cells {w W : World} {c0 c1 c2 c3 c4 c5 c6 : Value} (hb : Below (w.heap.size + 1) (w.alloc (.cells #[c0, c1, c2, c3, c4, c5, c6] 29)) W) :
    W.cell? ⟨w.heap.size, 0, none⟩ = some c0 ∧ W.cell? ⟨w.heap.size, 1, none⟩ = some c1 ∧ W.cell? ⟨w.heap.size, 2, none⟩ = some c2 ∧ W.cell? ⟨w.heap.size, 3, none⟩ = some c3 ∧
    W.cell? ⟨w.heap.size, 4, none⟩ = some c4 ∧ W.cell? ⟨w.heap.size, 5, none⟩ = some c5 ∧ W.cell? ⟨w.heap.size, 6, none⟩ = some c6 := by
  refine ⟨?_, ?_, ?_, ?_, ?_, ?_, ?_⟩ <;> (rw [hb.cell (by simp), World.cell?_alloc_new]; rfl)

theorem alloc2 (w : World) (o1 o2 : Obj) : ((w.alloc o1).alloc o2).heap[w.heap.size + 1]? = some o2 := by
  have := heap_alloc_new (w.alloc o1) o2
  simpa using this

theorem BuilderAt_old {T e : TypeId} {B b : Nat} {p : Value} {bs : List Value} {w w' : World} (h : Lib.BuilderAt T e B b p bs w) (hb : Below w.heap.size w w') : Lib.BuilderAt T e B b p bs w' := by
  have hlt := h.lt
  obtain ⟨h1, v, h2, h3, h4⟩ := h
  refine ⟨h1, v, (hb.block b hlt).trans h2, h3.kept (row := some w.heap.size) ⟨hb.os, hb.tape, hb.output, hb.size, fun k hk _ => hb.block k hk⟩ ?_, h4⟩
  rcases h3.2 with ⟨rfl, _⟩ | ⟨g, cap, cur, rfl, _, hg, _⟩
  · exact .inl rfl
  · right
    intro e
    simp only [Value.ownBlock, Option.some.injEq] at e
    subst e
    rw [Array.getElem?_eq_none (Nat.le_refl _)] at hg
    simp at hg

theorem IsB.old {b : Nat} {l : List UInt8} {w w' : World} (h : IsB b l w) (hb : Below w.heap.size w w') : IsB b l w' := by
  obtain ⟨h1, h2⟩ := h
  refine ⟨?_, Nat.le_trans h2 hb.size⟩
  rcases h1 with h1 | h1
  · exact .inl (BuilderAt_old h1 hb)
  · exact .inr (BuilderAt_old h1 hb)

theorem dec_len (u : Nat) (hu : u < 18446744073709551616) : (mk (Lib.decDigits u)).size ≤ 20 := by
  rw [mk_size, Lib.decDigits_length]
  rcases Nat.eq_zero_or_pos u with h | h
  · subst h; rw [Lib.nDigits_small (by decide)]; decide
  · have := Lib.numDigits_eq u h hu
    split at this <;> omega

theorem fmt_b (b u : Nat) (l : List UInt8) (w : World) (h : IsB b l w) (hu : u < 18446744073709551616) (htab : Lib.TabIs Tryd.prog w powName .u64 Lib.pow10Tab) :
    Calls Tryd.prog 15 #[.int .u64 u, .int .i64 10] w fun e w' => e = .returned (.string (mk (Lib.decDigits u))) ∧ IsB b l w' ∧ Below b w w' := by
  refine (fmt_any u w hu htab).mono ?_
  rintro e w' ⟨rfl, hb⟩
  exact ⟨rfl, h.old hb, hb.mono h.2⟩

theorem itoa_b (b u : Nat) (l : List UInt8) (w : World) (h : IsB b l w) (hu : u ≤ 1048576) (htab : Lib.TabIs Tryd.prog w powName .u64 Lib.pow10Tab) :
    Calls Tryd.prog 16 #[.int .i64 u] w fun e w' => e = .returned (.string (mk (Lib.decDigits u))) ∧ IsB b l w' ∧ Below b w w' := by
  refine (Tryd.strconv_Itoa u (by omega) (by omega) w htab).mono ?_
  rintro e w' ⟨rfl, k, os, rfl⟩
  have hb := Lib.below_grow w.heap.size w (Nat.le_refl _) k os
  rw [Lib.itoa_nonneg]
  exact ⟨rfl, h.old hb, hb.mono h.2⟩

set_option maxRecDepth 100000 in
set_option maxHeartbeats 4000000 in
theorem encode_noop (op id req key value : ByteArray) (c : Bool) (rev : Nat) (w : World)
    (hsz : op.size + id.size + req.size + key.size + value.size ≤ 1048576) (hop : op.toList = [110, 111, 111, 112]) :
    Calls Tryd.prog 7 #[.agg #[.string op, .string id, .string req, .string key, .string value, .bool c, .int .u64 rev]] w fun e w' =>
      e = .returned (.string (mk (enc op.data.toList id.data.toList req.data.toList key.data.toList value.data.toList c rev))) ∧ Below w.heap.size w w' := by
  have hop' : op.data.toList = noopB := by rw [← Lib.toList_data]; exact hop
  have HO : Hid (op.data.toList = noopB) := hop'
  clear hop'
  have f0 : Below (w.heap.size + 1) (w.alloc (.cells #[.string op, .string id, .string req, .string key, .string value, .bool c, .int .u64 rev] 29)) ((w.alloc (.cells #[.string op, .string id, .string req, .string key, .string value, .bool c, .int .u64 rev] 29)).alloc (.cells #[.pointer none, .slice none 0 0] 42)) := (Below.refl _ _).alloc (by simp) _
  go_enter Tryd.func7, Tryd.ntmps7
  go_wp2_with fail
  refine (grow_b (w.heap.size + 1) (op.size + id.size + req.size + key.size + value.size + 52) _ _ (by omega) (by omega) (alloc2 _ _ _) (by simp)).mono ?_
  rintro e W1 ⟨rfl, h1, q1⟩
  have f1 : Below (w.heap.size + 1) (w.alloc (.cells #[.string op, .string id, .string req, .string key, .string value, .bool c, .int .u64 rev] 29)) W1 := f0.trans q1
  clear q1
  obtain ⟨x0, x1, x2, x3, x4, x5, x6⟩ := box_cells f1
  go_wp2_with fail
  refine (ws_b (w.heap.size + 1) _ 4 _ (mk preB) _ h1 (Nat.le_refl 0) (by decide) (by omega)).mono ?_
  rintro e W2 ⟨rfl, h2, n2, q2⟩
  have f2 : Below (w.heap.size + 1) (w.alloc (.cells #[.string op, .string id, .string req, .string key, .string value, .bool c, .int .u64 rev] 29)) W2 := f1.trans q2
  clear q2 x0 x1 x2 x3 x4 x5 x6
  obtain ⟨x0, x1, x2, x3, x4, x5, x6⟩ := box_cells f2
  go_wp2_with fail
  refine (ws_b (w.heap.size + 1) _ op.size _ op _ h2 n2 (Nat.le_refl _) (by omega)).mono ?_
  rintro e W3 ⟨rfl, h3, n3, q3⟩
  have f3 : Below (w.heap.size + 1) (w.alloc (.cells #[.string op, .string id, .string req, .string key, .string value, .bool c, .int .u64 rev] 29)) W3 := f2.trans q3
  clear q3 x0 x1 x2 x3 x4 x5 x6
  obtain ⟨x0, x1, x2, x3, x4, x5, x6⟩ := box_cells f3
  go_wp2_with fail
  refine (wb_b (w.heap.size + 1) _ _ _ h3 n3 (by omega)).mono ?_
  rintro e W4 ⟨rfl, h4, n4, q4⟩
  have f4 : Below (w.heap.size + 1) (w.alloc (.cells #[.string op, .string id, .string req, .string key, .string value, .bool c, .int .u64 rev] 29)) W4 := f3.trans q4
  clear q4 x0 x1 x2 x3 x4 x5 x6
  obtain ⟨x0, x1, x2, x3, x4, x5, x6⟩ := box_cells f4
  go_wp2_with fail
  refine (ws_b (w.heap.size + 1) _ id.size _ id _ h4 n4 (Nat.le_refl _) (by omega)).mono ?_
  rintro e W5 ⟨rfl, h5, n5, q5⟩
  have f5 : Below (w.heap.size + 1) (w.alloc (.cells #[.string op, .string id, .string req, .string key, .string value, .bool c, .int .u64 rev] 29)) W5 := f4.trans q5
  clear q5 x0 x1 x2 x3 x4 x5 x6
  obtain ⟨x0, x1, x2, x3, x4, x5, x6⟩ := box_cells f5
  go_wp2_with fail
  refine (str_b (w.heap.size + 1) _ _ h5).mono ?_
  rintro e WL ⟨rfl, qL⟩
  go_wp2
  go_ret
  refine ⟨?_, ((Below.refl _ _).alloc (Nat.le_refl _) _).trans ((f5.trans qL).mono (by omega))⟩
  exact congrArg (fun l => Ending.returned (.string (mk l))) (by unfold enc; rw [if_pos HO.out]; simp [mk_list])

set_option maxRecDepth 100000 in
set_option maxHeartbeats 4000000 in
theorem encode_plain (op id req key value : ByteArray) (rev : Nat) (w : World)
    (hsz : op.size + id.size + req.size + key.size + value.size ≤ 1048576) (hrev : rev < 18446744073709551616) (hT : Lib.TabIs Tryd.prog w powName .u64 Lib.pow10Tab)
    (hop : (op.toList == [110, 111, 111, 112]) = false) (HO : Hid (¬ op.data.toList = noopB)) (hq : req.toList.isEmpty = true) (HQ : Hid (req.data.toList = []))
    (hput : (op.toList = [112, 117, 116] ∧ Hid (op.data.toList = putB)) ∨ ((op.toList == [112, 117, 116]) = false ∧ Hid (¬ op.data.toList = putB))) :
    Calls Tryd.prog 7 #[.agg #[.string op, .string id, .string req, .string key, .string value, .bool false, .int .u64 rev]] w fun e w' =>
      e = .returned (.string (mk (enc op.data.toList id.data.toList req.data.toList key.data.toList value.data.toList false rev))) ∧ Below w.heap.size w w' := by
  have HR : Hid (rev < 18446744073709551616) := hrev
  have HT : Hid (Lib.TabIs Tryd.prog w powName .u64 Lib.pow10Tab) := hT
  clear hrev hT
  have f0 : Below (w.heap.size + 1) (w.alloc (.cells #[.string op, .string id, .string req, .string key, .string value, .bool false, .int .u64 rev] 29)) ((w.alloc (.cells #[.string op, .string id, .string req, .string key, .string value, .bool false, .int .u64 rev] 29)).alloc (.cells #[.pointer none, .slice none 0 0] 42)) := (Below.refl _ _).alloc (by simp) _
  go_enter Tryd.func7, Tryd.ntmps7
  go_wp2_with fail
  refine (grow_b (w.heap.size + 1) (op.size + id.size + req.size + key.size + value.size + 52) _ _ (by omega) (by omega) (alloc2 _ _ _) (by simp)).mono ?_
  rintro e W1 ⟨rfl, h1, q1⟩
  have f1 : Below (w.heap.size + 1) (w.alloc (.cells #[.string op, .string id, .string req, .string key, .string value, .bool false, .int .u64 rev] 29)) W1 := f0.trans q1
  clear q1
  obtain ⟨x0, x1, x2, x3, x4, x5, x6⟩ := box_cells f1
  go_wp2_with fail
  refine (ws_b (w.heap.size + 1) _ 4 _ (mk preB) _ h1 (Nat.le_refl 0) (by decide) (by omega)).mono ?_
  rintro e W2 ⟨rfl, h2, n2, q2⟩
  have f2 : Below (w.heap.size + 1) (w.alloc (.cells #[.string op, .string id, .string req, .string key, .string value, .bool false, .int .u64 rev] 29)) W2 := f1.trans q2
  clear q2 x0 x1 x2 x3 x4 x5 x6
  obtain ⟨x0, x1, x2, x3, x4, x5, x6⟩ := box_cells f2
  go_wp2_with fail
  refine (ws_b (w.heap.size + 1) _ op.size _ op _ h2 n2 (Nat.le_refl _) (by omega)).mono ?_
  rintro e W3 ⟨rfl, h3, n3, q3⟩
  have f3 : Below (w.heap.size + 1) (w.alloc (.cells #[.string op, .string id, .string req, .string key, .string value, .bool false, .int .u64 rev] 29)) W3 := f2.trans q3
  clear q3 x0 x1 x2 x3 x4 x5 x6
  obtain ⟨x0, x1, x2, x3, x4, x5, x6⟩ := box_cells f3
  go_wp2_with fail
  refine (wb_b (w.heap.size + 1) _ _ _ h3 n3 (by omega)).mono ?_
  rintro e W4 ⟨rfl, h4, n4, q4⟩
  have f4 : Below (w.heap.size + 1) (w.alloc (.cells #[.string op, .string id, .string req, .string key, .string value, .bool false, .int .u64 rev] 29)) W4 := f3.trans q4
  clear q4 x0 x1 x2 x3 x4 x5 x6
  obtain ⟨x0, x1, x2, x3, x4, x5, x6⟩ := box_cells f4
  go_wp2_with fail
  refine (ws_b (w.heap.size + 1) _ id.size _ id _ h4 n4 (Nat.le_refl _) (by omega)).mono ?_
  rintro e W5 ⟨rfl, h5, n5, q5⟩
  have f5 : Below (w.heap.size + 1) (w.alloc (.cells #[.string op, .string id, .string req, .string key, .string value, .bool false, .int .u64 rev] 29)) W5 := f4.trans q5
  clear q5 x0 x1 x2 x3 x4 x5 x6
  obtain ⟨x0, x1, x2, x3, x4, x5, x6⟩ := box_cells f5
  go_wp2_with fail
  refine (wb_b (w.heap.size + 1) _ _ _ h5 n5 (by omega)).mono ?_
  rintro e W6 ⟨rfl, h6, n6, q6⟩
  have f6 : Below (w.heap.size + 1) (w.alloc (.cells #[.string op, .string id, .string req, .string key, .string value, .bool false, .int .u64 rev] 29)) W6 := f5.trans q6
  clear q6 x0 x1 x2 x3 x4 x5 x6
  obtain ⟨x0, x1, x2, x3, x4, x5, x6⟩ := box_cells f6
  go_wp2_with fail
  refine (itoa_b (w.heap.size + 1) key.size _ _ h6 (by omega) (Lib.tabBelow_of_tabIs HT.out _ (((Below.refl _ _).alloc (Nat.le_refl _) _).trans (f6.mono (by omega))))).mono ?_
  rintro e W7 ⟨rfl, h7, q7⟩
  have f7 : Below (w.heap.size + 1) (w.alloc (.cells #[.string op, .string id, .string req, .string key, .string value, .bool false, .int .u64 rev] 29)) W7 := f6.trans q7
  clear q7 x0 x1 x2 x3 x4 x5 x6
  obtain ⟨x0, x1, x2, x3, x4, x5, x6⟩ := box_cells f7
  go_wp2_with fail
  refine (ws_b (w.heap.size + 1) _ 20 _ (mk (Lib.decDigits key.size)) _ h7 n6 (dec_len _ (by omega)) (by omega)).mono ?_
  rintro e W8 ⟨rfl, h8, n8, q8⟩
  have f8 : Below (w.heap.size + 1) (w.alloc (.cells #[.string op, .string id, .string req, .string key, .string value, .bool false, .int .u64 rev] 29)) W8 := f7.trans q8
  clear q8 x0 x1 x2 x3 x4 x5 x6
  obtain ⟨x0, x1, x2, x3, x4, x5, x6⟩ := box_cells f8
  go_wp2_with fail
  refine (wb_b (w.heap.size + 1) _ _ _ h8 n8 (by omega)).mono ?_
  rintro e W9 ⟨rfl, h9, n9, q9⟩
  have f9 : Below (w.heap.size + 1) (w.alloc (.cells #[.string op, .string id, .string req, .string key, .string value, .bool false, .int .u64 rev] 29)) W9 := f8.trans q9
  clear q9 x0 x1 x2 x3 x4 x5 x6
  obtain ⟨x0, x1, x2, x3, x4, x5, x6⟩ := box_cells f9
  go_wp2_with fail
  refine (ws_b (w.heap.size + 1) _ key.size _ key _ h9 n9 (Nat.le_refl _) (by omega)).mono ?_
  rintro e W10 ⟨rfl, h10, n10, q10⟩
  have f10 : Below (w.heap.size + 1) (w.alloc (.cells #[.string op, .string id, .string req, .string key, .string value, .bool false, .int .u64 rev] 29)) W10 := f9.trans q10
  clear q10 x0 x1 x2 x3 x4 x5 x6
  obtain ⟨x0, x1, x2, x3, x4, x5, x6⟩ := box_cells f10
  rcases hput with ⟨hp, HP⟩ | ⟨hp, HP⟩
  · go_wp2_with fail
    refine (wb_b (w.heap.size + 1) _ _ _ h10 n10 (by omega)).mono ?_
    rintro e W11 ⟨rfl, h11, n11, q11⟩
    have f11 : Below (w.heap.size + 1) (w.alloc (.cells #[.string op, .string id, .string req, .string key, .string value, .bool false, .int .u64 rev] 29)) W11 := f10.trans q11
    clear q11 x0 x1 x2 x3 x4 x5 x6
    obtain ⟨x0, x1, x2, x3, x4, x5, x6⟩ := box_cells f11
    go_wp2_with fail
    refine (ws_b (w.heap.size + 1) _ value.size _ value _ h11 n11 (Nat.le_refl _) (by omega)).mono ?_
    rintro e W12 ⟨rfl, h12, n12, q12⟩
    have f12 : Below (w.heap.size + 1) (w.alloc (.cells #[.string op, .string id, .string req, .string key, .string value, .bool false, .int .u64 rev] 29)) W12 := f11.trans q12
    clear q12 x0 x1 x2 x3 x4 x5 x6
    obtain ⟨x0, x1, x2, x3, x4, x5, x6⟩ := box_cells f12
    go_wp2_with fail
    refine (str_b (w.heap.size + 1) _ _ h12).mono ?_
    rintro e WL ⟨rfl, qL⟩
    go_wp2
    go_ret
    refine ⟨?_, ((Below.refl _ _).alloc (Nat.le_refl _) _).trans ((f12.trans qL).mono (by omega))⟩
    exact congrArg (fun l => Ending.returned (.string (mk l))) (by unfold enc encTail encReq encIf; rw [if_neg HO.out, if_pos HQ.out, if_neg (by decide), if_pos HP.out]; simp [mk_list])
  · go_wp2_with fail
    refine (str_b (w.heap.size + 1) _ _ h10).mono ?_
    rintro e WL ⟨rfl, qL⟩
    go_wp2
    go_ret
    refine ⟨?_, ((Below.refl _ _).alloc (Nat.le_refl _) _).trans ((f10.trans qL).mono (by omega))⟩
    exact congrArg (fun l => Ending.returned (.string (mk l))) (by unfold enc encTail encReq encIf; rw [if_neg HO.out, if_pos HQ.out, if_neg (by decide), if_neg HP.out]; simp [mk_list])

end Go.Proofs.Qxb6603837aDoor

/-
  slices.Clone and truncate at []string and at []*btreeNode, said of owned rows.
-/
import Derived.Test.Qxb6603837aOwn
import Derived.Lib.SliceRun
import Derived.Lib.Walk
import Derived.WalkSpells
set_option linter.unusedVariables false
set_option linter.unusedSimpArgs false
namespace Go.Proofs.Qxb6603837a
open Go.Shelf Go.RowKit Go.Lib

set_option maxHeartbeats 2000000 in
set_option maxRecDepth 100000 in
theorem clS (b off n c : Nat) (news : List Value) (w : World) (hl : news.length = n) (hn : n ≤ 100000)
    (hc : ∀ j u, news[j]? = some u → w.cell? ⟨b, off + j, none⟩ = some u) (h1 : ∀ u ∈ news, u.oneCell' = true) :
    Calls Try.prog 48 #[.slice (some ⟨b, off, none⟩) n c] w fun e w' => ∃ v', e = .returned v' ∧ Own w' w.heap.size 9 v' news ∧ v' ≠ .slice none 0 0 ∧ Below w.heap.size w w' := by
  obtain ⟨i0, hi0, hz0, hzs, hzb⟩ := info_parts infoS
  have q22 : ∀ (w : World) (a : Option Addr) (n c n' c' : Nat), (binOp .eql 22 (.slice a n c) (.slice none n' c')).run Try.prog w = .ok (.bool a.isNone) w := fun w a n c n' c' => Lib.run_eql_slice_nil w _ _ a n c n' c' Try.underlying22
  have A : Hid (∀ j u, news[j]? = some u → w.cell? ⟨b, off + j, none⟩ = some u) := hc
  clear hc
  go_enter Try.func48, Try.ntmps48
  go_wp2_with (at_builtin; refine wpList_append_own _ rfl _ _ 22 rfl w.heap.size 9 i0 _ 1 16 Try.underlying22 hi0 hz0 hzs hzb rfl (by omega) _ _ _ rfl (World.ownsRow_made w #[] 0 (Nat.le_refl _) (Nat.zero_le _) (by simp)) ⟨b, off, none⟩ n c news rfl ?qc1 ?qc2 ?qc3 ?qc4 ?qc5 ?qc6 ?_)
  case qc1 => rw [Nat.mul_one]; exact hl
  case qc2 =>
    intro j u hj
    rw [Addr.add_lit]
    exact Lib.cell?_alloc_some _ (A.out j u hj)
  case qc3 => exact h1
  case qc4 => unfold maxLen; omega
  case qc5 => omega
  case qc6 => simp
  intro v' w1 hown hgrow hnil
  go_wp2
  go_ret
  refine ⟨v', rfl, ?_, hnil, ?_⟩
  · unfold Own
    rw [hl]
    simpa using hown
  · exact ((Below.refl _ w).alloc (Nat.le_refl _) _).grown hgrow (by simp) (by intro k hk; simp [Value.ownBlock] at hk; omega)

/-- slices.Clone(s[h:]) of an owned row. -/
theorem clS_own (B h : Nat) (g cap : Nat) (xs : List Value) (w : World) (ho : Own w B 9 (.slice (some ⟨g, 0, none⟩) xs.length cap) xs) (hl : xs.length ≤ 100000) (hh : h < xs.length) (h1 : ∀ u ∈ xs, u.oneCell' = true) :
    Calls Try.prog 48 #[.slice (some ⟨g, h, none⟩) (xs.length - h) (cap - h)] w fun e w' => ∃ v', e = .returned v' ∧ Own w' w.heap.size 9 v' (xs.drop h) ∧ v' ≠ .slice none 0 0 ∧ Below w.heap.size w w' := by
  rcases own_open ho with ⟨h2, _⟩ | ⟨g', cap', cur, h2, hBg, hg, hn, hm, hs, hc⟩
  · cases h2
  · cases h2
    refine clS g h (xs.length - h) (cap - h) (xs.drop h) w (by simp) (by omega) ?_ (fun u hu => h1 u (List.mem_of_mem_drop hu))
    intro j u hj
    rw [cell_heap hg]
    rw [List.getElem?_drop] at hj
    rw [hc _ (List.getElem?_eq_some_iff.1 hj).1]
    exact hj

set_option maxHeartbeats 2000000 in
set_option maxRecDepth 100000 in
/-- truncate: the row cut to its first h elements. -/
theorem trS_own (B h : Nat) (g cap : Nat) (xs : List Value) (w : World) (ho : Own w B 9 (.slice (some ⟨g, 0, none⟩) xs.length cap) xs) (hl : xs.length ≤ 100000) (hh : h < xs.length) (h0 : 0 < h) :
    Calls Try.prog 49 #[.slice (some ⟨g, 0, none⟩) xs.length cap, .int .i64 h] w fun e w' => e = .returned (.slice (some ⟨g, 0, none⟩) h cap) ∧ Own w' B 9 (.slice (some ⟨g, 0, none⟩) h cap) (xs.take h) ∧ w.grownBy w' (some g) := by
  rcases own_open ho with ⟨h2, _⟩ | ⟨g', cap', cur, h2, hBg, hg, hn, hm, hs, hc⟩
  · cases h2
  · cases h2
    have hcl : ∀ ty, (Builtin.clear_ #[22] ty #[.slice (some ⟨g, h, none⟩) (xs.length - h) (cap - h)]).run Try.prog w = .ok (.tuple #[]) (w.setCells g h (List.replicate (xs.length - h) (Value.string ⟨#[]⟩))) :=
      fun ty => Lib.run_clear_slice w 22 9 ty _ Try.underlying22 Try.zeroValue9 rfl rfl g h _ _ (by omega) (fun t ht => by rw [cell_heap hg, Array.getElem?_eq_getElem (by omega)]; rfl) (fun t ht => frozen_heap hg _)
    have hm' : cap ≤ 9223372036854775807 := by unfold maxLen at hm; omega
    have hhc : h ≤ cap := by omega
    have hhl : h ≤ xs.length := by omega
    have hne : ¬ (cap = h) := by omega
    obtain ⟨W, hW⟩ : ∃ W, W = w.setCells g h (List.replicate (xs.length - h) (Value.string ⟨#[]⟩)) := ⟨_, rfl⟩
    have HW : Hid (W = w.setCells g h (List.replicate (xs.length - h) (Value.string ⟨#[]⟩))) := hW
    rw [← hW] at hcl
    have HC : Hid (∀ j, j < xs.length → cur[j]? = xs[j]?) := hc
    have HG : Hid (w.heap[g]? = some (.cells cur 9 (0, 0))) := hg
    clear hW hc hg ho
    go_enter Try.func49, Try.ntmps49
    go_wp2
    go_ret
    refine ⟨rfl, ?_, ?_⟩
    · rw [HW.out]
      obtain ⟨c1, k1, k2, k3⟩ := heap_setCells (List.replicate (xs.length - h) (Value.string ⟨#[]⟩)) h w cur HG.out
      have hlen : (xs.take h).length = h := by simp; omega
      have := own_mk (xs := xs.take h) hBg k1 (by omega) (by omega) hm (by
        intro j hj
        rw [k3 j, if_neg (by omega), HC.out j (by omega), List.getElem?_take, if_pos (by omega)])
      rw [hlen] at this
      exact this
    · rw [HW.out]
      exact grown_setCells _ _ _ _

set_option maxHeartbeats 2000000 in
set_option maxRecDepth 100000 in
theorem clP (b off n c : Nat) (news : List Value) (w : World) (hl : news.length = n) (hn : n ≤ 100000)
    (hc : ∀ j u, news[j]? = some u → w.cell? ⟨b, off + j, none⟩ = some u) (h1 : ∀ u ∈ news, u.oneCell' = true) :
    Calls Try.prog 50 #[.slice (some ⟨b, off, none⟩) n c] w fun e w' => ∃ v', e = .returned v' ∧ Own w' w.heap.size 25 v' news ∧ v' ≠ .slice none 0 0 ∧ Below w.heap.size w w' := by
  obtain ⟨i0, hi0, hz0, hzs, hzb⟩ := info_parts infoP
  have q22 : ∀ (w : World) (a : Option Addr) (n c n' c' : Nat), (binOp .eql 56 (.slice a n c) (.slice none n' c')).run Try.prog w = .ok (.bool a.isNone) w := fun w a n c n' c' => Lib.run_eql_slice_nil w _ _ a n c n' c' Try.underlying56
  have A : Hid (∀ j u, news[j]? = some u → w.cell? ⟨b, off + j, none⟩ = some u) := hc
  clear hc
  go_enter Try.func50, Try.ntmps50
  go_wp2_with (at_builtin; refine wpList_append_own _ rfl _ _ 56 rfl w.heap.size 25 i0 _ 1 8 Try.underlying56 hi0 hz0 hzs hzb rfl (by omega) _ _ _ rfl (World.ownsRow_made w #[] 0 (Nat.le_refl _) (Nat.zero_le _) (by simp)) ⟨b, off, none⟩ n c news rfl ?qc1 ?qc2 ?qc3 ?qc4 ?qc5 ?qc6 ?_)
  case qc1 => rw [Nat.mul_one]; exact hl
  case qc2 =>
    intro j u hj
    rw [Addr.add_lit]
    exact Lib.cell?_alloc_some _ (A.out j u hj)
  case qc3 => exact h1
  case qc4 => unfold maxLen; omega
  case qc5 => omega
  case qc6 => simp
  intro v' w1 hown hgrow hnil
  go_wp2
  go_ret
  refine ⟨v', rfl, ?_, hnil, ?_⟩
  · unfold Own
    rw [hl]
    simpa using hown
  · exact ((Below.refl _ w).alloc (Nat.le_refl _) _).grown hgrow (by simp) (by intro k hk; simp [Value.ownBlock] at hk; omega)

/-- slices.Clone(s[h:]) of an owned row. -/
theorem clP_own (B h : Nat) (g cap : Nat) (xs : List Value) (w : World) (ho : Own w B 25 (.slice (some ⟨g, 0, none⟩) xs.length cap) xs) (hl : xs.length ≤ 100000) (hh : h < xs.length) (h1 : ∀ u ∈ xs, u.oneCell' = true) :
    Calls Try.prog 50 #[.slice (some ⟨g, h, none⟩) (xs.length - h) (cap - h)] w fun e w' => ∃ v', e = .returned v' ∧ Own w' w.heap.size 25 v' (xs.drop h) ∧ v' ≠ .slice none 0 0 ∧ Below w.heap.size w w' := by
  rcases own_open ho with ⟨h2, _⟩ | ⟨g', cap', cur, h2, hBg, hg, hn, hm, hs, hc⟩
  · cases h2
  · cases h2
    refine clP g h (xs.length - h) (cap - h) (xs.drop h) w (by simp) (by omega) ?_ (fun u hu => h1 u (List.mem_of_mem_drop hu))
    intro j u hj
    rw [cell_heap hg]
    rw [List.getElem?_drop] at hj
    rw [hc _ (List.getElem?_eq_some_iff.1 hj).1]
    exact hj

set_option maxHeartbeats 2000000 in
set_option maxRecDepth 100000 in
/-- truncate: the row cut to its first h elements. -/
theorem trP_own (B h : Nat) (g cap : Nat) (xs : List Value) (w : World) (ho : Own w B 25 (.slice (some ⟨g, 0, none⟩) xs.length cap) xs) (hl : xs.length ≤ 100000) (hh : h < xs.length) (h0 : 0 < h) :
    Calls Try.prog 51 #[.slice (some ⟨g, 0, none⟩) xs.length cap, .int .i64 h] w fun e w' => e = .returned (.slice (some ⟨g, 0, none⟩) h cap) ∧ Own w' B 25 (.slice (some ⟨g, 0, none⟩) h cap) (xs.take h) ∧ w.grownBy w' (some g) := by
  rcases own_open ho with ⟨h2, _⟩ | ⟨g', cap', cur, h2, hBg, hg, hn, hm, hs, hc⟩
  · cases h2
  · cases h2
    have hcl : ∀ ty, (Builtin.clear_ #[56] ty #[.slice (some ⟨g, h, none⟩) (xs.length - h) (cap - h)]).run Try.prog w = .ok (.tuple #[]) (w.setCells g h (List.replicate (xs.length - h) (Value.pointer none))) :=
      fun ty => Lib.run_clear_slice w 56 25 ty _ Try.underlying56 Try.zeroValue25 rfl rfl g h _ _ (by omega) (fun t ht => by rw [cell_heap hg, Array.getElem?_eq_getElem (by omega)]; rfl) (fun t ht => frozen_heap hg _)
    have hm' : cap ≤ 9223372036854775807 := by unfold maxLen at hm; omega
    have hhc : h ≤ cap := by omega
    have hhl : h ≤ xs.length := by omega
    have hne : ¬ (cap = h) := by omega
    obtain ⟨W, hW⟩ : ∃ W, W = w.setCells g h (List.replicate (xs.length - h) (Value.pointer none)) := ⟨_, rfl⟩
    have HW : Hid (W = w.setCells g h (List.replicate (xs.length - h) (Value.pointer none))) := hW
    rw [← hW] at hcl
    have HC : Hid (∀ j, j < xs.length → cur[j]? = xs[j]?) := hc
    have HG : Hid (w.heap[g]? = some (.cells cur 25 (0, 0))) := hg
    clear hW hc hg ho
    go_enter Try.func51, Try.ntmps51
    go_wp2
    go_ret
    refine ⟨rfl, ?_, ?_⟩
    · rw [HW.out]
      obtain ⟨c1, k1, k2, k3⟩ := heap_setCells (List.replicate (xs.length - h) (Value.pointer none)) h w cur HG.out
      have hlen : (xs.take h).length = h := by simp; omega
      have := own_mk (xs := xs.take h) hBg k1 (by omega) (by omega) hm (by
        intro j hj
        rw [k3 j, if_neg (by omega), HC.out j (by omega), List.getElem?_take, if_pos (by omega)])
      rw [hlen] at this
      exact this
    · rw [HW.out]
      exact grown_setCells _ _ _ _
end Go.Proofs.Qxb6603837a

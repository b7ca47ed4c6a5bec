/-
  zzModelInsert over an owned row of ascending strings.
-/
import Derived.Test.Qxb6603837aModel
namespace Go.Proofs.Qxb6603837a
open Go.RowKit

/-- A store into an owned row. -/
theorem own_set {w : World} {B g n cap : Nat} {e : TypeId} {xs : List Value} (h : Own w B e (.slice (some ⟨g, 0, none⟩) n cap) xs) {j : Nat} (_hj : j < n) (x : Value) : Own (w.setCell ⟨g, j, none⟩ x) B e (.slice (some ⟨g, 0, none⟩) n cap) (xs.set j x) := by
  rcases own_open h with ⟨h, _⟩ | ⟨g', cap', cur, h, h2, h3, h4, h5, h6, h7⟩
  · cases h
  · simp only [Value.slice.injEq, Option.some.injEq, Addr.mk.injEq, and_true] at h
    obtain ⟨rfl, rfl, rfl⟩ := h
    have := own_mk (xs := xs.set j x) (w := w.setCell ⟨g, j, none⟩ x) h2 (heap_setCell_same h3) (by simpa using h6) (by simpa using h4) h5 (by
      intro i hi
      rw [List.length_set] at hi
      rw [Array.getElem?_setIfInBounds, List.getElem?_set]
      by_cases e : j = i
      · subst e
        rw [if_pos rfl, if_pos rfl, if_pos (by omega), if_pos (by omega)]
      · rw [if_neg e, if_neg e, h7 i hi])
    rwa [List.length_set] at this

/-- The row behind the shifts down to place j. -/
def shifted (ks : List ByteArray) (j : Nat) : List ByteArray := (ks ++ [(⟨#[]⟩ : ByteArray)]).take (j + 1) ++ ks.drop j

theorem shifted_length (ks : List ByteArray) (j : Nat) (h : j ≤ ks.length) : (shifted ks j).length = ks.length + 1 := by
  unfold shifted
  simp
  omega

theorem shifted_at (ks : List ByteArray) (j i : Nat) (h : j ≤ ks.length) : (shifted ks j)[i]? = if i ≤ j then (ks ++ [(⟨#[]⟩ : ByteArray)])[i]? else ks[i - 1]? := by
  unfold shifted
  by_cases e : i ≤ j
  · rw [if_pos e, List.getElem?_append_left (by simp; omega), List.getElem?_take, if_pos (by omega)]
  · rw [if_neg e, List.getElem?_append_right (by simp; omega), List.getElem?_drop]
    congr 1
    simp
    omega

theorem shifted_start (ks : List ByteArray) : shifted ks ks.length = ks ++ [(⟨#[]⟩ : ByteArray)] := by
  unfold shifted
  rw [List.take_of_length_le (by simp), List.drop_length, List.append_nil]

theorem shifted_step (ks : List ByteArray) (j : Nat) (h : j + 1 ≤ ks.length) (hj : j < ks.length) : (shifted ks (j + 1)).set (j + 1) ks[j] = shifted ks j := by
  apply List.ext_getElem?
  intro i
  rw [List.getElem?_set, shifted_at ks j i (by omega), shifted_at ks (j + 1) i h, shifted_length ks (j + 1) h]
  by_cases e : j + 1 = i
  · subst e
    rw [if_pos rfl, if_pos (by omega), if_neg (by omega), Nat.add_sub_cancel, List.getElem?_eq_getElem hj]
  · rw [if_neg e]
    by_cases e2 : i ≤ j
    · rw [if_pos (by omega), if_pos e2]
    · rw [if_neg (by omega), if_neg e2]

theorem shifted_end (ks : List ByteArray) (k : ByteArray) : (shifted ks (lb k ks)).set (lb k ks) k = ins k ks := by
  have hl := lb_le k ks
  apply List.ext_getElem?
  intro i
  unfold ins
  rw [List.getElem?_set, shifted_at ks _ i hl, take_cons_drop _ _ _ hl, shifted_length ks _ hl]
  by_cases e : lb k ks = i
  · rw [if_pos e, if_pos (by omega), if_neg (by omega), if_pos e.symm]
  · rw [if_neg e]
    by_cases e2 : i < lb k ks
    · rw [if_pos (by omega), if_pos e2, List.getElem?_append_left (by omega)]
    · rw [if_neg (by omega), if_neg e2, if_neg (by omega)]

set_option maxHeartbeats 1000000 in
set_option maxRecDepth 100000 in
theorem minsert_old (B : Nat) (v : Value) (ks : List ByteArray) (k : ByteArray) (w : World) (ho : Own w B 9 v (ks.map Value.string)) (ha : Asc ks) (hl : ks.length ≤ 100000) (hh : has k ks = true) :
    Calls Try.prog 19 #[v, .string k] w fun e w' => e = .returned (.tuple #[v, .bool false]) ∧ ∃ q, w' = w.drewN q := by
  have hs := search_any B v ks k w ho ha hl
  rw [hh] at hs
  have HS : Hid _ := hs
  clear hs ho ha hh
  go_enter Try.func19, Try.ntmps19
  go_wp2_with fail
  refine Calls.mono HS.out ?_
  rintro e W0 ⟨rfl, q, rfl⟩
  go_wp2
  go_ret2
  exact ⟨rfl, q, rfl⟩

set_option maxHeartbeats 2000000 in
set_option maxRecDepth 100000 in
theorem minsert_new (B : Nat) (v : Value) (ks : List ByteArray) (k : ByteArray) (w : World) (hB : B ≤ w.heap.size) (ho : Own w B 9 v (ks.map Value.string)) (ha : Asc ks) (hl : ks.length ≤ 100000) (hh : has k ks = false) :
    Calls Try.prog 19 #[v, .string k] w fun e w' => ∃ v', e = .returned (.tuple #[v', .bool true]) ∧ Own w' B 9 v' ((ins k ks).map Value.string) ∧ Turned w w' v.ownBlock.toList ∧ ∀ x ∈ v'.ownBlock.toList, x ∈ v.ownBlock.toList ∨ w.heap.size ≤ x := by
  have hs := search_any B v ks k w ho ha hl
  rw [hh] at hs
  have HS : Hid _ := hs
  have HO : Hid (Own w B 9 v (ks.map Value.string)) := ho
  have hlb := lb_le k ks
  obtain ⟨i0, hi0, hz0, hzs, hzb⟩ := info_parts infoS
  clear hs ho ha hh
  go_enter Try.func19, Try.ntmps19
  go_wp2_with fail
  refine Calls.mono HS.out ?_
  rintro e W0 ⟨rfl, q, hW0⟩
  have T0 : Hid (∀ fp, Turned w W0 fp) := by rw [hW0]; exact fun fp => Turned.drewN w q fp
  have z0 : W0.heap.size = w.heap.size := by rw [hW0]; rfl
  have O0 : Own W0 B 9 v (ks.map Value.string) := by rw [hW0]; exact own_kept HO.out (fun _ _ => rfl)
  have O1 : (W0.alloc (.cells #[.string ⟨#[]⟩] 9)).ownsRow B 9 1 v ks.length (ks.map Value.string) := by
    have := own_kept (w' := W0.alloc (.cells #[.string ⟨#[]⟩] 9)) O0 (fun g hg => Below.heap_alloc _ _ _ (own_block_lt O0 hg))
    unfold Own at this
    rwa [List.length_map] at this
  have HO1 : Hid _ := O1
  have Z0 : Hid (W0.heap.size = w.heap.size) := z0
  have hB0 : B ≤ W0.heap.size := by omega
  have hcell : W0.heap.size = W0.heap.size := rfl
  clear hW0 O0 O1 HS z0 hcell
  go_wp2_with (at_builtin; refine wpList_append_lies _ rfl _ _ 22 rfl B 9 i0 _ 1 16 Try.underlying22 hi0 hz0 hzs hzb rfl (by omega) v ks.length (ks.map Value.string) rfl HO1.out ⟨W0.heap.size, 0, none⟩ 1 1 [.string ⟨#[]⟩] rfl rfl ?ha ?hb (by omega) ?hc ?hd ?he (W0.heap.size + 1) ?hf ?_)
  case ha =>
    intro j u hj
    rw [Addr.add_lit, Nat.zero_add, cell_heap (heap_alloc_new W0 _)]
    cases j with
    | zero => simpa using hj
    | succ j => simp at hj
  case hb => exact fun u hu => by rw [List.mem_singleton.1 hu]; rfl
  case hc => unfold maxLen; omega
  case hd => omega
  case he => simp; omega
  case hf => simp
  intro g cap W1 hown hgr hat hlt
  have hO1 : Hid (Own W1 B 9 (.slice (some ⟨g, 0, none⟩) (ks.length + 1) cap) ((shifted ks ks.length).map Value.string)) := by
    show Own _ _ _ _ _
    rw [shifted_start]
    unfold Own
    simpa using hown
  have hz1 := hgr.size
  simp only [World.alloc, Array.size_push] at hz1
  obtain ⟨_, hcap, hcap2, _, _⟩ := own_slice hO1.out
  have HT1 : Hid (Turned w W1 v.ownBlock.toList) := ((T0.out _).trans (Turned.alloc W0 (.cells #[.string ⟨#[]⟩] 9) v.ownBlock.toList) (fun x hx => .inl hx)).trans (Turned.grown hgr (fp := v.ownBlock.toList) (fun x hx => .inl (by rw [hx]; simp))) (fun x hx => .inl hx)
  have HG : Hid (g ∈ v.ownBlock.toList ∨ w.heap.size ≤ g) := by
    rcases hat with e | e
    · exact .inl (by rw [e]; simp)
    · right
      rw [← Z0.out]
      omega
  have hgW1 : g < W1.heap.size := hlt
  clear hown hgr hat hlt HO1 T0 HO
  go_wp2
  go_loopw [8] (fun s8 wr => ∃ j : Nat, lb k ks ≤ j ∧ j ≤ ks.length ∧ s8 = .int .i64 j ∧ Hid (Own wr B 9 (.slice (some ⟨g, 0, none⟩) (ks.length + 1) cap) ((shifted ks j).map Value.string)) ∧ Hid (Turned W1 wr [g])) (fun s8 _ => (intOf s8).toNat)
  case atStart => exact ⟨ks.length, hlb, Nat.le_refl _, by go_num, hO1, Turned.refl _ _⟩
  case round =>
    obtain ⟨j, hj1, hj2, rfl, ho, hT⟩ := hrel
    by_cases hlt : lb k ks < j
    · obtain ⟨i, rfl⟩ : ∃ i, j = i + 1 := ⟨j - 1, by omega⟩
      have hik : i < ks.length := by omega
      have e1 : ((shifted ks (i + 1)).map Value.string)[i]? = some (.string ks[i]) := by
        rw [List.getElem?_map, shifted_at ks _ i (by omega), if_pos (by omega), List.getElem?_append_left hik, List.getElem?_eq_getElem hik]
        rfl
      obtain ⟨x, e2⟩ : ∃ x, ((shifted ks (i + 1)).map Value.string)[i + 1]? = some x := ⟨_, List.getElem?_eq_getElem (by rw [List.length_map, shifted_length ks _ (by omega)]; omega)⟩
      obtain ⟨c1, _⟩ := own_cell ho.out e1
      obtain ⟨c2, f2⟩ := own_cell ho.out e2
      have hset := own_set ho.out (j := i + 1) (by omega) (.string ks[i])
      have hstep : ((shifted ks (i + 1)).map Value.string).set (i + 1) (.string ks[i]) = (shifted ks i).map Value.string := by
        rw [← shifted_step ks i (by omega) hik, List.map_set]
      rw [hstep] at hset
      have HS : Hid _ := hset
      have hT2 : Hid (Turned W1 (wr.setCell ⟨g, i + 1, none⟩ (.string ks[i])) [g]) := hT.out.trans (Turned.setCell wr ⟨g, i + 1, none⟩ _ (fp := [g]) (.inl (by simp))) (fun x hx => .inl hx)
      generalize ks[i] = X at *
      clear hset hstep e1 e2
      go_wp2
      go_roundw
      case rel => exact ⟨i, by omega, by omega, by go_num, HS, hT2⟩
      case measure => simp [intOf]
    · obtain rfl : j = lb k ks := by omega
      obtain ⟨x, e2⟩ : ∃ x, ((shifted ks (lb k ks)).map Value.string)[lb k ks]? = some x := ⟨_, List.getElem?_eq_getElem (by rw [List.length_map, shifted_length ks _ hlb]; omega)⟩
      obtain ⟨c2, f2⟩ := own_cell ho.out e2
      have hset := own_set ho.out (j := lb k ks) (by omega) (.string k)
      have hstep : ((shifted ks (lb k ks)).map Value.string).set (lb k ks) (.string k) = (ins k ks).map Value.string := by
        rw [← shifted_end ks k, List.map_set]
      rw [hstep] at hset
      have HS : Hid _ := hset
      have hT2 : Hid (Turned W1 (wr.setCell ⟨g, lb k ks, none⟩ (.string k)) [g]) := hT.out.trans (Turned.setCell wr ⟨g, lb k ks, none⟩ _ (fp := [g]) (.inl (by simp))) (fun x hx => .inl hx)
      clear hset hstep e2
      go_wp2
      go_ret2
      refine ⟨_, rfl, HS.out, HT1.out.trans hT2.out ?_, ?_⟩
      · intro x hx
        rw [List.mem_singleton.1 hx]
        exact HG.out
      · intro x hx
        have hx' : x = g := by simpa [Value.ownBlock] using hx
        rw [hx']
        exact HG.out

/-- zzModelInsert: the sorted set with one key more. -/
theorem minsert_any (B : Nat) (v : Value) (ks : List ByteArray) (k : ByteArray) (w : World) (hB : B ≤ w.heap.size) (ho : Own w B 9 v (ks.map Value.string)) (ha : Asc ks) (hl : ks.length ≤ 100000) :
    Calls Try.prog 19 #[v, .string k] w fun e w' => ∃ v', e = .returned (.tuple #[v', .bool (!has k ks)]) ∧ Own w' B 9 v' ((put k ks).map Value.string) ∧ Turned w w' v.ownBlock.toList ∧ ∀ x ∈ v'.ownBlock.toList, x ∈ v.ownBlock.toList ∨ w.heap.size ≤ x := by
  unfold put
  cases hh : has k ks with
  | false =>
    refine (minsert_new B v ks k w hB ho ha hl hh).mono ?_
    rintro e w' ⟨v', rfl, h1, h2, h3⟩
    exact ⟨v', rfl, h1, h2, h3⟩
  | true =>
    refine (minsert_old B v ks k w ho ha hl hh).mono ?_
    rintro e w' ⟨rfl, q, rfl⟩
    exact ⟨v, rfl, own_kept ho (fun _ _ => rfl), Turned.drewN _ _ _, fun x hx => .inl hx⟩
end Go.Proofs.Qxb6603837a

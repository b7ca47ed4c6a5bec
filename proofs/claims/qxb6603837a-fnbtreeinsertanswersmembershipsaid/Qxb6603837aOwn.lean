/-
  slices.Insert of one value, said of owned rows.
-/
import Derived.Test.Qxb6603837aHeap
import Derived.Test.Qxb6603837aInsP
set_option linter.unusedVariables false
set_option linter.unusedSimpArgs false
namespace Go.Proofs.Qxb6603837a
open Go.Shelf Go.RowKit Go.Lib

theorem cell_heap {w : World} {b : Nat} {cs : Array Value} {T : TypeId} {fr : Nat × Nat} (hb : w.heap[b]? = some (.cells cs T fr)) (j : Nat) : w.cell? ⟨b, j, none⟩ = cs[j]? := by
  simp [World.cell?, hb]
theorem frozen_heap {w : World} {b : Nat} {cs : Array Value} {T : TypeId} (hb : w.heap[b]? = some (.cells cs T (0, 0))) (j : Nat) : w.frozen? ⟨b, j, none⟩ = false := by
  simp [World.frozen?, hb]
theorem shape_heap {w : World} {b : Nat} {cs : Array Value} {T : TypeId} {fr : Nat × Nat} (hb : w.heap[b]? = some (.cells cs T fr)) : w.shape? b = some (T, cs.size) := by
  simp [World.shape?, hb]

theorem hlist (i : Nat) (x : Value) (xs : List Value) (hi : i ≤ xs.length) (j : Nat) : (xs.take i ++ x :: xs.drop i)[j]? = if j < i then xs[j]? else if j = i then some x else xs[j - 1]? := by
  by_cases h : j < i
  · rw [if_pos h, List.getElem?_append_left (by simp; omega), List.getElem?_take, if_pos h]
  · rw [if_neg h, List.getElem?_append_right (by simp; omega), List.length_take, Nat.min_eq_left hi]
    by_cases e : j = i
    · subst e
      rw [if_pos rfl, Nat.sub_self]
      rfl
    · rw [if_neg e]
      obtain ⟨t, ht⟩ : ∃ t, j - i = t + 1 := ⟨j - i - 1, by omega⟩
      rw [ht, List.getElem?_cons_succ, List.getElem?_drop]
      congr 1
      omega

theorem own_new_row {w : World} {B G : Nat} {e : TypeId} {z : Value} {xs : List Value} (hB : B ≤ w.heap.size) (hn : xs.length ≤ G) (hm : G ≤ maxLen) (hz : z.cells.size = 1) :
    Own (w.drew.alloc (.cells (xs.toArray ++ Builtin.zeroCells z.cells (G - xs.length)) e)) B e (.slice (some ⟨w.heap.size, 0, none⟩) xs.length G) xs := by
  refine own_mk (cur := xs.toArray ++ Builtin.zeroCells z.cells (G - xs.length)) hB (heap_alloc_new w.drew _) ?_ hn hm ?_
  · simp [Builtin.zeroCells, hz]
    omega
  · intro j hj
    rw [Array.getElem?_append_left (by simpa using hj)]
    simp

/-- What turns no old block at all. -/
theorem grown_new {w w1 : World} (h : w.grownBy w1 none) (w2 : World) (ho : w2.os = w1.os) (ht : w2.tape = w1.tape) (hp : w2.output = w1.output) (hs : w2.heap.size = w1.heap.size) (hk : ∀ k, k < w.heap.size → w2.heap[k]? = w1.heap[k]?) (row : Option Nat) : w.grownBy w2 row :=
  ⟨ho.trans h.os, ht.trans h.tape, hp.trans h.output, by rw [hs]; exact h.size, fun k hk' _ => (hk k hk').trans (h.block k hk' (by simp))⟩

set_option maxHeartbeats 1000000 in
theorem insS_own (B i vb : Nat) (v x : Value) (xs : List Value) (T : TypeId) (w : World) (hB : B ≤ w.heap.size) (ho : Own w B 9 v xs) (hi : i ≤ xs.length) (hl : xs.length ≤ 100000)
    (h1 : ∀ u ∈ xs, u.oneCell' = true) (hx : x.oneCell' = true) (hv : w.heap[vb]? = some (.cells #[x] T (0, 0))) (hne : v.ownBlock ≠ some vb) :
    Calls Try.prog 37 #[v, .int .i64 i, .slice (some ⟨vb, 0, none⟩) 1 1] w fun e w' =>
      ∃ v', e = .returned v' ∧ Own w' B 9 v' (xs.take i ++ x :: xs.drop i) ∧ w.grownBy w' v.ownBlock ∧ (v'.ownBlock = v.ownBlock ∨ v'.ownBlock = some w.heap.size) ∧ v'.ownBlock.isSome = true := by
  have hvs : ∀ j u, [x][j]? = some u → w.cell? ⟨vb, 0 + j, none⟩ = some u := fun j u hj => by
    rw [Nat.zero_add, cell_heap hv]
    cases j with
    | zero => simpa using hj
    | succ j => simp at hj
  have h1v : ∀ u ∈ [x], u.oneCell' = true := fun u hu => by rw [List.mem_singleton.1 hu]; exact hx
  rcases own_open ho with ⟨rfl, rfl⟩ | ⟨g, cap, cur, rfl, hBg, hg, hn, hm, hs, hc⟩
  · obtain rfl : i = 0 := by simpa using hi
    refine (insS_end_grow none 0 0 vb 0 1 1 [] [x] w (by omega) (by omega) (by omega) (by omega) rfl rfl (fun _ => rfl) (fun _ h => by cases h) hvs h1v).mono ?_
    rintro e w' ⟨rfl, rfl⟩
    have hge := grownCap_ge w (0 + 1) 0 9
    refine ⟨_, rfl, ?_, grown_trans (grown_drew _ _) (World.grownBy_alloc _ _ _), .inr rfl, rfl⟩
    refine own_new_row (xs := [x]) (B := B) hB (by omega) (grownCap_le_maxLen w (0 + 1) 0 9 (by unfold maxLen; omega)) rfl
  · have hcs : ∀ j u, xs[j]? = some u → w.cell? ⟨g, 0 + j, none⟩ = some u := fun j u hj => by
      rw [Nat.zero_add, cell_heap hg, hc j (List.getElem?_eq_some_iff.1 hj).1]
      exact hj
    have hsp : ∀ j, j < cap → (w.cell? ⟨g, j, none⟩).isSome = true := fun j hj => by
      rw [cell_heap hg, Array.getElem?_eq_getElem (by omega)]
      rfl
    have hfz : ∀ j, w.frozen? ⟨g, j, none⟩ = false := fun j => frozen_heap hg j
    have hgv : vb ≠ g := fun e => hne (by rw [e]; rfl)
    have hm' : cap ≤ 9223372036854775807 := by unfold maxLen at hm; omega
    by_cases hin : i < xs.length
    · by_cases hroom : xs.length + 1 ≤ cap
      · refine (insS_shift g 0 xs.length cap i vb 0 1 1 xs [x] w hin (by omega) hroom hm' hgv rfl rfl hcs (fun j hj => by rw [Nat.zero_add]; exact hsp j (by omega)) (fun j _ => hfz _) hvs h1 h1v T 9 1 cap (shape_heap hv) (by rw [shape_heap hg, hs]) (by omega) (frozen_heap hv _) (frozen_heap hv _)).mono ?_
        rintro e w' ⟨rfl, rfl⟩
        simp only [Nat.zero_add]
        obtain ⟨c1, k1, k2, k3⟩ := heap_setCells (xs.drop i) (i + 1) w.drew cur hg
        obtain ⟨c2, m1, m2, m3⟩ := heap_setCells [x] i _ c1 k1
        refine ⟨_, rfl, ?_, grown_trans (grown_trans (grown_drew _ _) (grown_setCells _ _ _ _)) (grown_setCells _ _ _ _), .inl rfl, rfl⟩
        have hlen : (xs.take i ++ x :: xs.drop i).length = xs.length + 1 := by simp; omega
        rw [← hlen]
        refine own_mk hBg m1 (by omega) (by omega) hm ?_
        intro j hj
        rw [m3 j, k3 j, hlist i x xs (by omega) j]
        simp only [List.length_singleton, List.length_drop]
        by_cases e1 : j < i
        · rw [if_neg (by omega), if_neg (by omega), if_pos e1, hc j (by omega)]
        · by_cases e2 : j = i
          · subst e2
            rw [if_pos (by omega), if_neg (by omega), if_pos rfl]
            simp
          · rw [if_neg (by omega), if_pos (by omega), if_neg e1, if_neg e2, List.getElem?_drop]
            congr 1
            omega
      · refine (insS_grow g 0 xs.length cap i vb 0 1 1 xs [x] w hin (by omega) hn (by omega) (by omega) rfl rfl hcs hvs h1 h1v).mono ?_
        rintro e w' ⟨rfl, rfl⟩
        have hge := grownCap_ge w (xs.length + 1) cap 9
        have hgm := grownCap_le_maxLen w (xs.length + 1) cap 9 (by unfold maxLen; omega)
        generalize grownCap w (xs.length + 1) cap 9 = G at *
        generalize hR : ((xs.take i).toArray ++ Builtin.zeroCells (Value.string ⟨#[]⟩).cells (xs.length + 1 - i) ++ Builtin.zeroCells (Value.string ⟨#[]⟩).cells (G - (xs.length + 1))) = R
        have hRs : R.size = G := by
          rw [← hR]
          simp [Builtin.zeroCells, Value.cells]
          omega
        have hR0 : ∀ j, j < i → R[j]? = xs[j]? := by
          intro j hj
          rw [← hR, Array.append_assoc, Array.getElem?_append_left (by simp; omega)]
          simp [List.getElem?_take, hj]
        have hn0 : (w.alloc (.cells R 9)).heap[w.heap.size]? = some (.cells R 9 (0, 0)) := heap_alloc_new w _
        obtain ⟨c1, k1, k2, k3⟩ := heap_setCells [x] i (w.alloc (.cells R 9)).drew R hn0
        obtain ⟨c2, m1, m2, m3⟩ := heap_setCells (xs.drop i) (i + 1) (((w.alloc (.cells R 9)).drew.setCells w.heap.size i [x]).drew) c1 k1
        have gr : w.grownBy ((((w.alloc (.cells R 9)).drew.setCells w.heap.size i [x]).drew).setCells w.heap.size (i + 1) (xs.drop i)) (some g) := by
          obtain ⟨p1, p2, p3⟩ := tape_setCells w.heap.size (xs.drop i) (i + 1) (((w.alloc (.cells R 9)).drew.setCells w.heap.size i [x]).drew)
          obtain ⟨q1, q2, q3⟩ := tape_setCells w.heap.size [x] i ((w.alloc (.cells R 9)).drew)
          refine grown_new (World.grownBy_alloc w (.cells R 9) none) _ (p2.trans q2) (p1.trans q1) (p3.trans q3) ?_ ?_ (some g)
          · rw [size_setCells]
            exact size_setCells _ _ _ _
          · intro k hk
            rw [other_setCells _ _ _ _ _ (by omega)]
            exact other_setCells _ _ _ _ _ (by omega)
        refine ⟨_, rfl, ?_, gr, .inr rfl, rfl⟩
        have hlen : (xs.take i ++ x :: xs.drop i).length = xs.length + 1 := by simp; omega
        rw [← hlen]
        refine own_mk hB m1 (by omega) (by omega) hgm ?_
        intro j hj
        rw [m3 j, k3 j, hlist i x xs (by omega) j]
        simp only [List.length_singleton, List.length_drop]
        by_cases e1 : j < i
        · rw [if_neg (by omega), if_neg (by omega), if_pos e1, hR0 j e1]
        · by_cases e2 : j = i
          · subst e2
            rw [if_neg (by omega), if_pos (by omega), if_neg e1, if_pos rfl]
            simp
          · rw [if_pos (by omega), if_neg e1, if_neg e2, List.getElem?_drop]
            congr 1
            omega
    · obtain rfl : i = xs.length := by omega
      have hlist' : xs.take xs.length ++ x :: xs.drop xs.length = xs ++ [x] := by simp
      rw [hlist']
      by_cases hroom : xs.length + 1 ≤ cap
      · refine (insS_end_room g 0 xs.length cap vb 0 1 1 [x] w (by omega) hroom hm' rfl (fun j hj => by rw [Nat.zero_add]; exact hsp _ (by omega)) (fun j _ => hfz _) hvs h1v).mono ?_
        rintro e w' ⟨rfl, rfl⟩
        simp only [Nat.zero_add]
        obtain ⟨c1, k1, k2, k3⟩ := heap_setCells [x] xs.length w cur hg
        refine ⟨_, rfl, ?_, grown_setCells _ _ _ _, .inl rfl, rfl⟩
        have hlen : (xs ++ [x]).length = xs.length + 1 := by simp
        rw [← hlen]
        refine own_mk hBg k1 (by omega) (by omega) hm ?_
        intro j hj
        rw [k3 j]
        simp only [List.length_singleton]
        by_cases e1 : j < xs.length
        · rw [if_neg (by omega), List.getElem?_append_left e1, hc j e1]
        · rw [if_pos (by omega), List.getElem?_append_right (by omega)]
      · refine (insS_end_grow (some ⟨g, 0, none⟩) xs.length cap vb 0 1 1 xs [x] w (by omega) hn (by omega) (by omega) rfl rfl (fun h => by cases h) (fun a ha j u hj => by cases ha; rw [Addr.add_lit]; exact hcs j u hj) hvs h1v).mono ?_
        rintro e w' ⟨rfl, rfl⟩
        have hge := grownCap_ge w (xs.length + 1) cap 9
        refine ⟨_, rfl, ?_, grown_trans (grown_drew _ _) (World.grownBy_alloc _ _ _), .inr rfl, rfl⟩
        have hlen : (xs ++ [x]).length = xs.length + 1 := by simp
        have := own_new_row (xs := xs ++ [x]) (w := w) (B := B) (e := 9) (z := Value.string ⟨#[]⟩) (G := grownCap w (xs.length + 1) cap 9) hB (by omega) (grownCap_le_maxLen w (xs.length + 1) cap 9 (by unfold maxLen; omega)) rfl
        rw [hlen] at this
        rw [← hlen] at *
        simpa using this

set_option maxHeartbeats 1000000 in
theorem insP_own (B i vb : Nat) (v x : Value) (xs : List Value) (T : TypeId) (w : World) (hB : B ≤ w.heap.size) (ho : Own w B 25 v xs) (hi : i ≤ xs.length) (hl : xs.length ≤ 100000)
    (h1 : ∀ u ∈ xs, u.oneCell' = true) (hx : x.oneCell' = true) (hv : w.heap[vb]? = some (.cells #[x] T (0, 0))) (hne : v.ownBlock ≠ some vb) :
    Calls Try.prog 38 #[v, .int .i64 i, .slice (some ⟨vb, 0, none⟩) 1 1] w fun e w' =>
      ∃ v', e = .returned v' ∧ Own w' B 25 v' (xs.take i ++ x :: xs.drop i) ∧ w.grownBy w' v.ownBlock ∧ (v'.ownBlock = v.ownBlock ∨ v'.ownBlock = some w.heap.size) ∧ v'.ownBlock.isSome = true := by
  have hvs : ∀ j u, [x][j]? = some u → w.cell? ⟨vb, 0 + j, none⟩ = some u := fun j u hj => by
    rw [Nat.zero_add, cell_heap hv]
    cases j with
    | zero => simpa using hj
    | succ j => simp at hj
  have h1v : ∀ u ∈ [x], u.oneCell' = true := fun u hu => by rw [List.mem_singleton.1 hu]; exact hx
  rcases own_open ho with ⟨rfl, rfl⟩ | ⟨g, cap, cur, rfl, hBg, hg, hn, hm, hs, hc⟩
  · obtain rfl : i = 0 := by simpa using hi
    refine (insP_end_grow none 0 0 vb 0 1 1 [] [x] w (by omega) (by omega) (by omega) (by omega) rfl rfl (fun _ => rfl) (fun _ h => by cases h) hvs h1v).mono ?_
    rintro e w' ⟨rfl, rfl⟩
    have hge := grownCap_ge w (0 + 1) 0 25
    refine ⟨_, rfl, ?_, grown_trans (grown_drew _ _) (World.grownBy_alloc _ _ _), .inr rfl, rfl⟩
    refine own_new_row (xs := [x]) (B := B) hB (by omega) (grownCap_le_maxLen w (0 + 1) 0 25 (by unfold maxLen; omega)) rfl
  · have hcs : ∀ j u, xs[j]? = some u → w.cell? ⟨g, 0 + j, none⟩ = some u := fun j u hj => by
      rw [Nat.zero_add, cell_heap hg, hc j (List.getElem?_eq_some_iff.1 hj).1]
      exact hj
    have hsp : ∀ j, j < cap → (w.cell? ⟨g, j, none⟩).isSome = true := fun j hj => by
      rw [cell_heap hg, Array.getElem?_eq_getElem (by omega)]
      rfl
    have hfz : ∀ j, w.frozen? ⟨g, j, none⟩ = false := fun j => frozen_heap hg j
    have hgv : vb ≠ g := fun e => hne (by rw [e]; rfl)
    have hm' : cap ≤ 9223372036854775807 := by unfold maxLen at hm; omega
    by_cases hin : i < xs.length
    · by_cases hroom : xs.length + 1 ≤ cap
      · refine (insP_shift g 0 xs.length cap i vb 0 1 1 xs [x] w hin (by omega) hroom hm' hgv rfl rfl hcs (fun j hj => by rw [Nat.zero_add]; exact hsp j (by omega)) (fun j _ => hfz _) hvs h1 h1v T 25 1 cap (shape_heap hv) (by rw [shape_heap hg, hs]) (by omega) (frozen_heap hv _) (frozen_heap hv _)).mono ?_
        rintro e w' ⟨rfl, rfl⟩
        simp only [Nat.zero_add]
        obtain ⟨c1, k1, k2, k3⟩ := heap_setCells (xs.drop i) (i + 1) w.drew cur hg
        obtain ⟨c2, m1, m2, m3⟩ := heap_setCells [x] i _ c1 k1
        refine ⟨_, rfl, ?_, grown_trans (grown_trans (grown_drew _ _) (grown_setCells _ _ _ _)) (grown_setCells _ _ _ _), .inl rfl, rfl⟩
        have hlen : (xs.take i ++ x :: xs.drop i).length = xs.length + 1 := by simp; omega
        rw [← hlen]
        refine own_mk hBg m1 (by omega) (by omega) hm ?_
        intro j hj
        rw [m3 j, k3 j, hlist i x xs (by omega) j]
        simp only [List.length_singleton, List.length_drop]
        by_cases e1 : j < i
        · rw [if_neg (by omega), if_neg (by omega), if_pos e1, hc j (by omega)]
        · by_cases e2 : j = i
          · subst e2
            rw [if_pos (by omega), if_neg (by omega), if_pos rfl]
            simp
          · rw [if_neg (by omega), if_pos (by omega), if_neg e1, if_neg e2, List.getElem?_drop]
            congr 1
            omega
      · refine (insP_grow g 0 xs.length cap i vb 0 1 1 xs [x] w hin (by omega) hn (by omega) (by omega) rfl rfl hcs hvs h1 h1v).mono ?_
        rintro e w' ⟨rfl, rfl⟩
        have hge := grownCap_ge w (xs.length + 1) cap 25
        have hgm := grownCap_le_maxLen w (xs.length + 1) cap 25 (by unfold maxLen; omega)
        generalize grownCap w (xs.length + 1) cap 25 = G at *
        generalize hR : ((xs.take i).toArray ++ Builtin.zeroCells (Value.pointer none).cells (xs.length + 1 - i) ++ Builtin.zeroCells (Value.pointer none).cells (G - (xs.length + 1))) = R
        have hRs : R.size = G := by
          rw [← hR]
          simp [Builtin.zeroCells, Value.cells]
          omega
        have hR0 : ∀ j, j < i → R[j]? = xs[j]? := by
          intro j hj
          rw [← hR, Array.append_assoc, Array.getElem?_append_left (by simp; omega)]
          simp [List.getElem?_take, hj]
        have hn0 : (w.alloc (.cells R 25)).heap[w.heap.size]? = some (.cells R 25 (0, 0)) := heap_alloc_new w _
        obtain ⟨c1, k1, k2, k3⟩ := heap_setCells [x] i (w.alloc (.cells R 25)).drew R hn0
        obtain ⟨c2, m1, m2, m3⟩ := heap_setCells (xs.drop i) (i + 1) (((w.alloc (.cells R 25)).drew.setCells w.heap.size i [x]).drew) c1 k1
        have gr : w.grownBy ((((w.alloc (.cells R 25)).drew.setCells w.heap.size i [x]).drew).setCells w.heap.size (i + 1) (xs.drop i)) (some g) := by
          obtain ⟨p1, p2, p3⟩ := tape_setCells w.heap.size (xs.drop i) (i + 1) (((w.alloc (.cells R 25)).drew.setCells w.heap.size i [x]).drew)
          obtain ⟨q1, q2, q3⟩ := tape_setCells w.heap.size [x] i ((w.alloc (.cells R 25)).drew)
          refine grown_new (World.grownBy_alloc w (.cells R 25) none) _ (p2.trans q2) (p1.trans q1) (p3.trans q3) ?_ ?_ (some g)
          · rw [size_setCells]
            exact size_setCells _ _ _ _
          · intro k hk
            rw [other_setCells _ _ _ _ _ (by omega)]
            exact other_setCells _ _ _ _ _ (by omega)
        refine ⟨_, rfl, ?_, gr, .inr rfl, rfl⟩
        have hlen : (xs.take i ++ x :: xs.drop i).length = xs.length + 1 := by simp; omega
        rw [← hlen]
        refine own_mk hB m1 (by omega) (by omega) hgm ?_
        intro j hj
        rw [m3 j, k3 j, hlist i x xs (by omega) j]
        simp only [List.length_singleton, List.length_drop]
        by_cases e1 : j < i
        · rw [if_neg (by omega), if_neg (by omega), if_pos e1, hR0 j e1]
        · by_cases e2 : j = i
          · subst e2
            rw [if_neg (by omega), if_pos (by omega), if_neg e1, if_pos rfl]
            simp
          · rw [if_pos (by omega), if_neg e1, if_neg e2, List.getElem?_drop]
            congr 1
            omega
    · obtain rfl : i = xs.length := by omega
      have hlist' : xs.take xs.length ++ x :: xs.drop xs.length = xs ++ [x] := by simp
      rw [hlist']
      by_cases hroom : xs.length + 1 ≤ cap
      · refine (insP_end_room g 0 xs.length cap vb 0 1 1 [x] w (by omega) hroom hm' rfl (fun j hj => by rw [Nat.zero_add]; exact hsp _ (by omega)) (fun j _ => hfz _) hvs h1v).mono ?_
        rintro e w' ⟨rfl, rfl⟩
        simp only [Nat.zero_add]
        obtain ⟨c1, k1, k2, k3⟩ := heap_setCells [x] xs.length w cur hg
        refine ⟨_, rfl, ?_, grown_setCells _ _ _ _, .inl rfl, rfl⟩
        have hlen : (xs ++ [x]).length = xs.length + 1 := by simp
        rw [← hlen]
        refine own_mk hBg k1 (by omega) (by omega) hm ?_
        intro j hj
        rw [k3 j]
        simp only [List.length_singleton]
        by_cases e1 : j < xs.length
        · rw [if_neg (by omega), List.getElem?_append_left e1, hc j e1]
        · rw [if_pos (by omega), List.getElem?_append_right (by omega)]
      · refine (insP_end_grow (some ⟨g, 0, none⟩) xs.length cap vb 0 1 1 xs [x] w (by omega) hn (by omega) (by omega) rfl rfl (fun h => by cases h) (fun a ha j u hj => by cases ha; rw [Addr.add_lit]; exact hcs j u hj) hvs h1v).mono ?_
        rintro e w' ⟨rfl, rfl⟩
        have hge := grownCap_ge w (xs.length + 1) cap 25
        refine ⟨_, rfl, ?_, grown_trans (grown_drew _ _) (World.grownBy_alloc _ _ _), .inr rfl, rfl⟩
        have hlen : (xs ++ [x]).length = xs.length + 1 := by simp
        have := own_new_row (xs := xs ++ [x]) (w := w) (B := B) (e := 25) (z := Value.pointer none) (G := grownCap w (xs.length + 1) cap 25) hB (by omega) (grownCap_le_maxLen w (xs.length + 1) cap 25 (by unfold maxLen; omega)) rfl
        rw [hlen] at this
        rw [← hlen] at *
        simpa using this
end Go.Proofs.Qxb6603837a

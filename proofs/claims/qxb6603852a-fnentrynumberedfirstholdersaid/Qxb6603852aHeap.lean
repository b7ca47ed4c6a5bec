/-
  Rows of cells that the call owns, and worlds of which only some blocks have turned. Of no program.
-/
import Derived.WalkKit
import Derived.Deep.Upon
import Derived.Deep.Draws
import Derived.Below
namespace Go.Proofs.Qxb6603852a
open Go.RowKit


/-- The slice value v is a row of the call's own (a block from B on), of element type e, holding just xs. -/
def Own (w : World) (B : Nat) (e : TypeId) (v : Value) (xs : List Value) : Prop := w.ownsRow B e 1 v xs.length xs

theorem heap_setCell_same {w : World} {g o : Nat} {v : Value} {cur : Array Value} {e : TypeId} {fr : Nat × Nat} (h : w.heap[g]? = some (.cells cur e fr)) :
    (w.setCell ⟨g, o, none⟩ v).heap[g]? = some (.cells (cur.setIfInBounds o v) e fr) := by
  simp [World.setCell, Array.getElem?_modify, h]

theorem heap_setCells {g : Nat} {e : TypeId} {fr : Nat × Nat} : ∀ (vs : List Value) (o : Nat) (w : World) (cur : Array Value), w.heap[g]? = some (.cells cur e fr) →
    ∃ cur', (w.setCells g o vs).heap[g]? = some (.cells cur' e fr) ∧ cur'.size = cur.size ∧ ∀ j, cur'[j]? = if o ≤ j ∧ j < o + vs.length ∧ j < cur.size then vs[j - o]? else cur[j]?
  | [], o, w, cur, h => ⟨cur, h, rfl, fun j => by rw [if_neg (by simp; omega)]⟩
  | v :: r, o, w, cur, h => by
    obtain ⟨cur', h1, h2, h3⟩ := heap_setCells r (o + 1) (w.setCell ⟨g, o, none⟩ v) _ (heap_setCell_same h)
    refine ⟨cur', h1, by rw [h2]; simp, fun j => ?_⟩
    rw [h3 j]
    simp only [List.length_cons, Array.size_setIfInBounds]
    by_cases hj : j = o
    · subst hj
      rw [if_neg (by omega)]
      by_cases hs : j < cur.size
      · rw [if_pos (by omega), Array.getElem?_setIfInBounds, if_pos rfl, if_pos hs]
        simp
      · rw [if_neg (by omega), Array.getElem?_setIfInBounds, if_pos rfl, if_neg hs, Array.getElem?_eq_none (by omega)]
    · have hset : (cur.setIfInBounds o v)[j]? = cur[j]? := by rw [Array.getElem?_setIfInBounds, if_neg (by omega)]
      rw [hset]
      by_cases hc : o + 1 ≤ j ∧ j < o + 1 + r.length ∧ j < cur.size
      · rw [if_pos hc, if_pos (by omega)]
        obtain ⟨t, ht⟩ : ∃ t, j - o = t + 1 := ⟨j - o - 1, by omega⟩
        rw [ht, show j - (o + 1) = t by omega]
        simp
      · rw [if_neg hc, if_neg (by omega)]

theorem size_setCells (g : Nat) : ∀ (vs : List Value) (o : Nat) (w : World), (w.setCells g o vs).heap.size = w.heap.size
  | [], _, _ => rfl
  | v :: r, o, w => by
    show ((w.setCell ⟨g, o, none⟩ v).setCells g (o + 1) r).heap.size = _
    rw [size_setCells g r]
    simp [World.setCell]

theorem tape_setCells (g : Nat) : ∀ (vs : List Value) (o : Nat) (w : World), (w.setCells g o vs).tape = w.tape ∧ (w.setCells g o vs).os = w.os ∧ (w.setCells g o vs).output = w.output
  | [], _, _ => ⟨rfl, rfl, rfl⟩
  | v :: r, o, w => by
    have := tape_setCells g r (o + 1) (w.setCell ⟨g, o, none⟩ v)
    exact this

theorem other_setCells (g : Nat) : ∀ (vs : List Value) (o : Nat) (w : World) (k : Nat), k ≠ g → (w.setCells g o vs).heap[k]? = w.heap[k]?
  | [], _, _, _, _ => rfl
  | v :: r, o, w, k, hk => by
    show ((w.setCell ⟨g, o, none⟩ v).setCells g (o + 1) r).heap[k]? = _
    rw [other_setCells g r _ _ k hk]
    exact Below.heap_setCell _ _ _ _ hk

theorem grown_setCells (g : Nat) (vs : List Value) (o : Nat) (w : World) : w.grownBy (w.setCells g o vs) (some g) := by
  obtain ⟨h1, h2, h3⟩ := tape_setCells g vs o w
  exact ⟨h2, h1, h3, by rw [size_setCells]; exact Nat.le_refl _, fun k _ hk => other_setCells g vs o w k (fun e => hk (by rw [e]))⟩

theorem grown_refl (w : World) (row : Option Nat) : w.grownBy w row := ⟨rfl, rfl, rfl, Nat.le_refl _, fun _ _ _ => rfl⟩
theorem grown_drew (w : World) (row : Option Nat) : w.grownBy w.drew row := ⟨rfl, rfl, rfl, Nat.le_refl _, fun _ _ _ => rfl⟩
theorem grown_drewN (w : World) (q : Nat) (row : Option Nat) : w.grownBy (w.drewN q) row := ⟨rfl, rfl, rfl, Nat.le_refl _, fun _ _ _ => rfl⟩
theorem grown_trans {a b c : World} {row : Option Nat} (h : a.grownBy b row) (k : b.grownBy c row) : a.grownBy c row :=
  ⟨k.os.trans h.os, k.tape.trans h.tape, k.output.trans h.output, Nat.le_trans h.size k.size, fun i hi hr => (k.block i (Nat.lt_of_lt_of_le hi h.size) hr).trans (h.block i hi hr)⟩

/-- An owned row, made from its block. -/
theorem own_mk {w : World} {B g cap : Nat} {e : TypeId} {cur : Array Value} {xs : List Value} (hB : B ≤ g) (hg : w.heap[g]? = some (.cells cur e (0, 0))) (hs : cur.size = cap) (hn : xs.length ≤ cap) (hm : cap ≤ maxLen)
    (hx : ∀ j, j < xs.length → cur[j]? = xs[j]?) : Own w B e (.slice (some ⟨g, 0, none⟩) xs.length cap) xs := by
  refine ⟨by simp, .inr ⟨g, cap, cur, rfl, hB, hg, hn, hm, by simpa using hs, ?_⟩⟩
  apply List.ext_getElem?
  intro j
  rw [List.getElem?_take, Nat.mul_one]
  by_cases hj : j < xs.length
  · rw [if_pos hj, ← hx j hj]
    simp
  · rw [if_neg hj, List.getElem?_eq_none (by omega)]

/-- An owned row, opened. -/
theorem own_open {w : World} {B : Nat} {e : TypeId} {v : Value} {xs : List Value} (h : Own w B e v xs) :
    (v = .slice none 0 0 ∧ xs = []) ∨ ∃ g cap cur, v = .slice (some ⟨g, 0, none⟩) xs.length cap ∧ B ≤ g ∧ w.heap[g]? = some (.cells cur e (0, 0)) ∧ xs.length ≤ cap ∧ cap ≤ maxLen ∧ cur.size = cap ∧ ∀ j, j < xs.length → cur[j]? = xs[j]? := by
  obtain ⟨_, h⟩ := h
  rcases h with ⟨h1, h2⟩ | ⟨g, cap, cur, h1, h2, h3, h4, h5, h6, h7⟩
  · exact .inl ⟨h1, List.length_eq_zero_iff.1 h2⟩
  · refine .inr ⟨g, cap, cur, h1, h2, h3, h4, h5, by simpa using h6, fun j hj => ?_⟩
    rw [← h7, List.getElem?_take, Nat.mul_one, if_pos hj]
    simp

theorem own_block_lt {w : World} {B g : Nat} {e : TypeId} {v : Value} {xs : List Value} (h : Own w B e v xs) (hg : v.ownBlock = some g) : g < w.heap.size := by
  rcases own_open h with ⟨rfl, _⟩ | ⟨g', cap, cur, rfl, _, h3, _⟩
  · simp [Value.ownBlock] at hg
  · simp only [Value.ownBlock, Option.some.injEq] at hg
    subst hg
    exact (Array.getElem?_eq_some_iff.1 h3).1

/-- Kept, where the row's block stands. -/
theorem own_kept {w w' : World} {B : Nat} {e : TypeId} {v : Value} {xs : List Value} (h : Own w B e v xs) (hk : ∀ g, v.ownBlock = some g → w'.heap[g]? = w.heap[g]?) : Own w' B e v xs := by
  rcases own_open h with ⟨rfl, rfl⟩ | ⟨g, cap, cur, rfl, h2, h3, h4, h5, h6, h7⟩
  · exact ⟨rfl, .inl ⟨rfl, rfl⟩⟩
  · exact own_mk h2 ((hk g rfl).trans h3) h6 h4 h5 h7

theorem cell_heap {w : World} {b : Nat} {cs : Array Value} {T : TypeId} {fr : Nat × Nat} (hb : w.heap[b]? = some (.cells cs T fr)) (j : Nat) : w.cell? ⟨b, j, none⟩ = cs[j]? := by
  simp [World.cell?, hb]

theorem frozen_heap {w : World} {b : Nat} {cs : Array Value} {T : TypeId} (hb : w.heap[b]? = some (.cells cs T (0, 0))) (j : Nat) : w.frozen? ⟨b, j, none⟩ = false := by
  simp [World.frozen?, hb]

theorem shape_heap {w : World} {b : Nat} {cs : Array Value} {T : TypeId} {fr : Nat × Nat} (hb : w.heap[b]? = some (.cells cs T fr)) : w.shape? b = some (T, cs.size) := by
  simp [World.shape?, hb]

/-- Only the blocks of fp, and new ones, may have turned. -/
structure Turned (w w' : World) (fp : List Nat) : Prop where
  os : w'.os = w.os
  tape : w'.tape = w.tape
  output : w'.output = w.output
  size : w.heap.size ≤ w'.heap.size
  block : ∀ k, k < w.heap.size → k ∉ fp → w'.heap[k]? = w.heap[k]?

theorem Turned.refl (w : World) (fp : List Nat) : Turned w w fp := ⟨rfl, rfl, rfl, Nat.le_refl _, fun _ _ _ => rfl⟩
theorem Turned.trans {a b c : World} {fp fq : List Nat} (h : Turned a b fp) (k : Turned b c fq) (hs : ∀ x ∈ fq, x ∈ fp ∨ a.heap.size ≤ x) : Turned a c fp :=
  ⟨k.os.trans h.os, k.tape.trans h.tape, k.output.trans h.output, Nat.le_trans h.size k.size, fun i hi hn => (k.block i (Nat.lt_of_lt_of_le hi h.size) (fun hm => by
    rcases hs i hm with e | e
    · exact hn e
    · omega)).trans (h.block i hi hn)⟩
theorem Turned.grown {w w' : World} {row : Option Nat} {fp : List Nat} (h : w.grownBy w' row) (hr : ∀ g, row = some g → g ∈ fp ∨ w.heap.size ≤ g) : Turned w w' fp :=
  ⟨h.os, h.tape, h.output, h.size, fun k hk hn => h.block k hk (fun e => by
    rcases hr k e.symm with e | e
    · exact hn e
    · omega)⟩
theorem Turned.below {w w' : World} (h : Below w.heap.size w w') (fp : List Nat) : Turned w w' fp := ⟨h.os, h.tape, h.output, h.size, fun k hk _ => h.block k hk⟩
theorem Turned.alloc (w : World) (o : Obj) (fp : List Nat) : Turned w (w.alloc o) fp := .grown (World.grownBy_alloc w o none) (fun _ h => by cases h)
theorem Turned.setCell (w : World) (a : Addr) (v : Value) {fp : List Nat} (h : a.block ∈ fp ∨ w.heap.size ≤ a.block) : Turned w (w.setCell a v) fp :=
  ⟨rfl, rfl, rfl, by simp [World.setCell], fun k hk hn => Below.heap_setCell _ _ _ _ (fun e => by
    subst e
    rcases h with h | h
    · exact hn h
    · omega)⟩
theorem Turned.drewN (w : World) (q : Nat) (fp : List Nat) : Turned w (w.drewN q) fp := ⟨rfl, rfl, rfl, Nat.le_refl _, fun _ _ _ => rfl⟩
theorem Turned.mono {w w' : World} {fp fq : List Nat} (h : Turned w w' fp) (hs : ∀ x ∈ fp, x ∈ fq ∨ w.heap.size ≤ x) : Turned w w' fq :=
  ⟨h.os, h.tape, h.output, h.size, fun k hk hn => h.block k hk (fun e => by
    rcases hs k e with e | e
    · exact hn e
    · omega)⟩
theorem Turned.toBelow {w w' : World} {fp : List Nat} {B : Nat} (h : Turned w w' fp) (hB : ∀ x ∈ fp, B ≤ x) (hs : B ≤ w.heap.size) : Below B w w' :=
  ⟨h.os, h.tape, h.output, h.size, fun k hk => h.block k (by omega) (fun e => by have := hB k e; omega)⟩

theorem same_of {P : Program} {f : FuncId} {args : Array Value} {w : World} {r : Ending} {R : Ending → World → Prop} (h : Calls P f args w fun e w' => e = r ∧ w' = w) (k : R r w) : Calls P f args w R :=
  h.mono (by rintro e w' ⟨rfl, rfl⟩; exact k)


theorem lt_of_heap {w : World} {b : Nat} {o : Obj} (h : w.heap[b]? = some o) : b < w.heap.size := (Array.getElem?_eq_some_iff.1 h).1

theorem own_ge {w : World} {B g : Nat} {e : TypeId} {v : Value} {xs : List Value} (h : Own w B e v xs) (hg : v.ownBlock = some g) : B ≤ g := by
  rcases own_open h with ⟨rfl, rfl⟩ | ⟨g', cap, cur, rfl, h2, h3, h4, h5, h6, h7⟩
  · cases hg
  · cases hg; exact h2

theorem own_slice {w : World} {B g n cap : Nat} {e : TypeId} {xs : List Value} (h : Own w B e (.slice (some ⟨g, 0, none⟩) n cap) xs) : xs.length = n ∧ n ≤ cap ∧ cap ≤ 9223372036854775807 ∧ B ≤ g ∧ g < w.heap.size := by
  rcases own_open h with ⟨h, _⟩ | ⟨g', cap', cur, h, h2, h3, h4, h5, _, h7⟩
  · cases h
  · simp only [Value.slice.injEq, Option.some.injEq, Addr.mk.injEq, and_true] at h
    obtain ⟨rfl, rfl, rfl⟩ := h
    unfold maxLen at h5
    exact ⟨rfl, h4, by omega, h2, lt_of_heap h3⟩

theorem own_mem_lt {w : World} {B : Nat} {e : TypeId} {v : Value} {xs : List Value} (h : Own w B e v xs) : ∀ x ∈ v.ownBlock.toList, x < w.heap.size ∧ B ≤ x := by
  intro x hx
  have hx' : v.ownBlock = some x := by simpa using hx
  exact ⟨own_block_lt h hx', own_ge h hx'⟩

theorem own_keptL {w w' : World} {B : Nat} {e : TypeId} {v : Value} {xs : List Value} (h : Own w B e v xs) (hk : ∀ x ∈ v.ownBlock.toList, w'.heap[x]? = w.heap[x]?) : Own w' B e v xs :=
  own_kept h (fun g hg => hk g (by simp [hg]))

theorem own_cell {w : World} {B g n cap : Nat} {e : TypeId} {xs : List Value} (h : Own w B e (.slice (some ⟨g, 0, none⟩) n cap) xs) {j : Nat} {x : Value} (hj : xs[j]? = some x) : w.cell? ⟨g, j, none⟩ = some x ∧ w.frozen? ⟨g, j, none⟩ = false := by
  rcases own_open h with ⟨h, _⟩ | ⟨g', cap', cur, h, _, h3, _, _, _, h7⟩
  · cases h
  · simp only [Value.slice.injEq, Option.some.injEq, Addr.mk.injEq, and_true] at h
    obtain ⟨rfl, _, rfl⟩ := h
    refine ⟨?_, frozen_heap h3 j⟩
    rw [cell_heap h3, h7 j (List.getElem?_eq_some_iff.1 hj).1, hj]

/-- An owned row that holds something is a slice at its block's start. -/
theorem own_some {w : World} {B : Nat} {e : TypeId} {v : Value} {xs : List Value} (h : Own w B e v xs) (hx : 0 < xs.length) : ∃ g cap, v = .slice (some ⟨g, 0, none⟩) xs.length cap := by
  rcases own_open h with ⟨_, h2⟩ | ⟨g, cap, cur, h1, _⟩
  · rw [h2] at hx
    simp at hx
  · exact ⟨g, cap, h1⟩

end Go.Proofs.Qxb6603852a

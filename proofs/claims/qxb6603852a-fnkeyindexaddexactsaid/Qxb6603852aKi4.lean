/-
  The key index in memory, and what add leaves of it.
-/
import Derived.Test.Qxb6603852aKi2
import Derived.Test.Qxb6603852aKi3
namespace Go.Proofs.Qxb6603852a
open Go.RowKit

def blk (g : Nat) : Value := .slice (some ⟨g, 0, none⟩) 4096 4096

/-- The block g holds the lines f. -/
def BlockAt (w : World) (g : Nat) (f : Nat → Int × Int) : Prop := ∃ cur : Array Value, w.heap[g]? = some (.cells cur 57 (0, 0)) ∧ cur.size = 8192 ∧ ∀ j, j < 4096 → cur[j * 2]? = some (.int .u64 (f j).1) ∧ cur[j * 2 + 1]? = some (.int .i64 (f j).2)

structure Idx (w : World) (B X : Nat) (bv : Value) (bs : List Nat) (n : Nat) (s : Bool) (val : Nat → Int × Int) : Prop where
  head : w.heap[X]? = some (.cells #[bv, .int .i64 n, .bool s] 81 (0, 0))
  geX : B ≤ X
  row : Own w B 54 bv (bs.map blk)
  nodup : bs.Nodup
  apart : ∀ x ∈ bv.ownBlock.toList, x ≠ X ∧ x ∉ bs
  xbs : X ∉ bs
  ge : ∀ g ∈ bs, B ≤ g
  blocks : ∀ i g, bs[i]? = some g → BlockAt w g (fun j => val (i * 4096 + j))
  size : B ≤ w.heap.size
  count : bs.length = (n + 4095) / 4096

/-- The lines behind add. -/
def put (val : Nat → Int × Int) (n m : Nat) (k : Int × Int) : Nat → Int × Int := fun p => if p = n then k else if p < m * 4096 then val p else (0, 0)

theorem block_kept {w w' : World} {g : Nat} {f f' : Nat → Int × Int} (h : BlockAt w g f) (hk : w'.heap[g]? = w.heap[g]?) (hf : ∀ j, j < 4096 → f' j = f j) : BlockAt w' g f' := by
  obtain ⟨cur, h1, h2, h3⟩ := h
  exact ⟨cur, hk.trans h1, h2, fun j hj => by rw [hf j hj]; exact h3 j hj⟩

theorem block_set {w w' : World} {g r : Nat} {f f' : Nat → Int × Int} {cur : Array Value} {h o : Int} (h1 : w.heap[g]? = some (.cells cur 57 (0, 0))) (h2 : cur.size = 8192) (h3 : ∀ j, j < 4096 → cur[j * 2]? = some (.int .u64 (f j).1) ∧ cur[j * 2 + 1]? = some (.int .i64 (f j).2))
    (hr : r < 4096) (hw : w'.heap[g]? = ((w.setCell ⟨g, r * 2, none⟩ (.int .u64 h)).setCell ⟨g, r * 2 + 1, none⟩ (.int .i64 o)).heap[g]?) (hf : ∀ j, j < 4096 → f' j = if j = r then (h, o) else f j) : BlockAt w' g f' := by
  have k1 := heap_setCell_same (o := r * 2) (v := .int .u64 h) h1
  have k2 := heap_setCell_same (o := r * 2 + 1) (v := .int .i64 o) k1
  refine ⟨_, hw.trans k2, by simpa using h2, ?_⟩
  intro j hj
  rw [hf j hj]
  obtain ⟨q1, q2⟩ := h3 j hj
  simp only [Array.getElem?_setIfInBounds, Array.size_setIfInBounds]
  by_cases e : j = r
  · subst e
    simp only [if_true]
    constructor
    · rw [if_neg (by omega), if_pos (by omega)]
    · rw [if_pos (by omega)]
  · rw [if_neg e]
    constructor
    · rw [if_neg (by omega), if_neg (by omega), q1]
    · rw [if_neg (by omega), if_neg (by omega), q2]

theorem cell_at {w : World} {g : Nat} {f : Nat → Int × Int} (h : BlockAt w g f) (j : Nat) (hj : j < 4096) : w.cell? ⟨g, j * 2, none⟩ = some (.int .u64 (f j).1) ∧ w.cell? ⟨g, j * 2 + 1, none⟩ = some (.int .i64 (f j).2) ∧ w.frozen? ⟨g, j * 2, none⟩ = false ∧ w.frozen? ⟨g, j * 2 + 1, none⟩ = false := by
  obtain ⟨cur, h1, h2, h3⟩ := h
  exact ⟨by rw [cell_heap h1]; exact (h3 j hj).1, by rw [cell_heap h1]; exact (h3 j hj).2, frozen_heap h1 _, frozen_heap h1 _⟩

def AddPost (w : World) (B X : Nat) (bs : List Nat) (n : Nat) (s : Bool) (val : Nat → Int × Int) (k : Int × Int) (e : Ending) (w' : World) : Prop :=
  e = .returned (.tuple #[]) ∧ ∃ bv' bs', Idx w' B X bv' bs' (n + 1) s (put val n bs.length k) ∧ (∃ ex, bs' = bs ++ ex) ∧ Below B w w'

theorem add_any (B X : Nat) (bv : Value) (bs : List Nat) (n : Nat) (s : Bool) (val : Nat → Int × Int) (h o : Int) (w : World) (H : Idx w B X bv bs n s val) (hn : n ≤ 1000000) :
    Calls Try.prog 29 #[.pointer (some ⟨X, 0, none⟩), .agg #[.int .u64 h, .int .i64 o]] w (AddPost w B X bs n s val (h, o)) := by
  have hX : X < w.heap.size := lt_of_heap H.head
  have hcnt := H.count
  have hbl : ∀ g ∈ bs, g < w.heap.size := by
    intro g hg
    obtain ⟨i, hi, e⟩ := List.getElem_of_mem hg
    obtain ⟨cur, h1, _⟩ := H.blocks i g (by rw [List.getElem?_eq_getElem hi, e])
    exact lt_of_heap h1
  by_cases hr : n % 4096 = 0
  · obtain ⟨Z, hmk, hZ, hZ0⟩ := mk4096
    refine (add_new B X n bs.length bv s (bs.map blk) Z h o w H.size H.head (fun x hx => (H.apart x hx).1) hn (by omega) (by omega) H.row (by rw [List.length_map]) (by omega) hZ hmk).mono ?_
    rintro e w' ⟨rfl, g, cap, w1, q, F, rfl⟩
    have hx1 : w1.heap[X]? = some (.cells #[bv, .int .i64 n, .bool s] 81 (0, 0)) := (F.turned.block X hX (fun e => (H.apart X e).1 rfl)).trans H.head
    have hgX : ¬ g = X := by
      rcases F.new with e | e
      · exact (H.apart g e).1
      · omega
    have hgn : ¬ g = w.heap.size + 1 := by
      rcases F.new with e | e
      · have := (own_mem_lt H.row g e).1
        omega
      · omega
    have hgb : g ∉ bs := by
      intro hm
      rcases F.new with e | e
      · exact (H.apart g e).2 hm
      · have := hbl g hm
        omega
    have hGb : w.heap.size + 1 ∉ bs := fun hm => by have := hbl _ hm; omega
    have hO : Own w1 B 54 (.slice (some ⟨g, 0, none⟩) (bs.length + 1) cap) ((bs ++ [w.heap.size + 1]).map blk) := by
      unfold Own
      have := F.own
      rw [List.map_append, List.length_append, List.length_map]
      exact this
    have hz1 := F.turned.size
    have hGlt := lt_of_heap F.zero
    have hB1 : B ≤ w1.heap.size := Nat.le_trans H.size hz1
    have hgB : B ≤ g := own_ge hO rfl
    refine ⟨rfl, .slice (some ⟨g, 0, none⟩) (bs.length + 1) cap, bs ++ [w.heap.size + 1], ⟨?_, H.geX, ?_, ?_, ?_, ?_, ?_, ?_, ?_, ?_⟩, ⟨_, rfl⟩, ?_⟩
    · have k1 := heap_setCell_same (o := 0) (v := .slice (some ⟨g, 0, none⟩) (bs.length + 1) cap) hx1
      have k2 : (((w1.setCell ⟨X, 0, none⟩ (.slice (some ⟨g, 0, none⟩) (bs.length + 1) cap)).setCell ⟨w.heap.size + 1, 0, none⟩ (.int .u64 h)).setCell ⟨w.heap.size + 1, 1, none⟩ (.int .i64 o)).heap[X]? = (w1.setCell ⟨X, 0, none⟩ (.slice (some ⟨g, 0, none⟩) (bs.length + 1) cap)).heap[X]? := by
        rw [Below.heap_setCell _ _ _ _ (by show X ≠ w.heap.size + 1; omega), Below.heap_setCell _ _ _ _ (by show X ≠ w.heap.size + 1; omega)]
      have k3 := heap_setCell_same (o := 1) (v := .int .i64 ((n : Int) + 1)) (k2.trans k1)
      exact k3
    · refine own_keptL hO ?_
      intro x hx
      have hx' : x = g := by simpa [Value.ownBlock] using hx
      subst hx'
      show (World.setCell _ _ _).heap[x]? = _
      rw [Below.heap_setCell _ _ _ _ hgX, Below.heap_setCell _ _ _ _ hgn, Below.heap_setCell _ _ _ _ hgn, Below.heap_setCell _ _ _ _ hgX]
    · rw [List.nodup_append]
      refine ⟨H.nodup, by simp, ?_⟩
      intro a ha b hb
      rw [List.mem_singleton.1 hb]
      intro e
      subst e
      exact hGb ha
    · intro x hx
      have hx' : x = g := by simpa [Value.ownBlock] using hx
      subst hx'
      refine ⟨hgX, ?_⟩
      intro hm
      rcases List.mem_append.1 hm with hm | hm
      · exact hgb hm
      · exact hgn (List.mem_singleton.1 hm)
    · intro hm
      rcases List.mem_append.1 hm with hm | hm
      · exact H.xbs hm
      · have := List.mem_singleton.1 hm
        omega
    · intro y hy
      rcases List.mem_append.1 hy with hy | hy
      · exact H.ge y hy
      · rw [List.mem_singleton.1 hy]
        have := H.size
        omega
    · intro i y hy
      by_cases hi : i < bs.length
      · rw [List.getElem?_append_left hi] at hy
        have hyb : y ∈ bs := List.mem_of_getElem? hy
        have hyX : y ≠ X := fun e => H.xbs (e ▸ hyb)
        have hyG : y ≠ w.heap.size + 1 := fun e => hGb (e ▸ hyb)
        refine block_kept (H.blocks i y hy) ?_ ?_
        · show (World.setCell _ _ _).heap[y]? = _
          rw [Below.heap_setCell _ _ _ _ hyX, Below.heap_setCell _ _ _ _ hyG, Below.heap_setCell _ _ _ _ hyG, Below.heap_setCell _ _ _ _ hyX]
          exact F.turned.block y (hbl y hyb) (fun e => (H.apart y e).2 hyb)
        · intro j hj
          unfold put
          rw [if_neg (by omega), if_pos (by omega)]
      · have hil : i = bs.length := by
          have := (List.getElem?_eq_some_iff.1 hy).1
          simp at this
          omega
        subst hil
        have hyG : y = w.heap.size + 1 := by simpa using hy.symm
        subst hyG
        refine block_set (w := w1) (r := 0) F.zero hZ (f := fun _ => (0, 0)) hZ0 (by omega) (h := h) (o := o) ?_ ?_
        · show (World.setCell _ _ _).heap[_]? = _
          rw [Below.heap_setCell _ _ _ _ (by show w.heap.size + 1 ≠ X; omega)]
          have hz' : (w1.setCell ⟨X, 0, none⟩ (.slice (some ⟨g, 0, none⟩) (bs.length + 1) cap)).heap[w.heap.size + 1]? = some (.cells Z 57 (0, 0)) := by
            rw [Below.heap_setCell _ _ _ _ (by show w.heap.size + 1 ≠ X; omega)]
            exact F.zero
          rw [heap_setCell_same (heap_setCell_same hz'), heap_setCell_same (heap_setCell_same F.zero)]
        · intro j hj
          unfold put
          by_cases e : j = 0
          · rw [if_pos e, if_pos (by omega)]
          · rw [if_neg e, if_neg (by omega), if_neg (by omega)]
    · show B ≤ (World.setCell _ _ _).heap.size
      simp [World.setCell]
      omega
    · rw [List.length_append, List.length_singleton]
      omega
    · have b1 : Below B w w1 := F.turned.toBelow (fun x hx => (own_mem_lt H.row x hx).2) H.size
      have hsz := H.size
      have b2 := ((((b1.setCell (p := ⟨X, 0, none⟩) H.geX (.slice (some ⟨g, 0, none⟩) (bs.length + 1) cap)).setCell (p := ⟨w.heap.size + 1, 0, none⟩) (by show B ≤ w.heap.size + 1; omega) (.int .u64 h)).setCell (p := ⟨w.heap.size + 1, 1, none⟩) (by show B ≤ w.heap.size + 1; omega) (.int .i64 o)).setCell (p := ⟨X, 1, none⟩) H.geX (.int .i64 ((n : Int) + 1)))
      exact ⟨b2.os, b2.tape, b2.output, b2.size, b2.block⟩
  · have hc : n / 4096 < bs.length := by omega
    have hg : bs[n / 4096]? = some bs[n / 4096] := List.getElem?_eq_getElem hc
    have hmem : bs[n / 4096] ∈ bs := List.getElem_mem hc
    obtain ⟨c1, c2, f1, f2⟩ := cell_at (H.blocks _ _ hg) (n % 4096) (by omega)
    obtain ⟨cur, hb1, hb2, hb3⟩ := H.blocks _ _ hg
    obtain ⟨gr, cap, hbv⟩ := own_some H.row (by rw [List.length_map]; omega)
    rw [List.length_map] at hbv
    have hrow := H.row
    have hap := H.apart
    have hhead := H.head
    rw [hbv] at hrow hap hhead
    have hgr : gr < w.heap.size := own_block_lt hrow rfl
    have hXg : ¬ X = bs[n / 4096] := fun e => H.xbs (e ▸ hmem)
    have hgg := hbl _ hmem
    refine (add_there X gr cap bs.length n bs[n / 4096] h o w hX hgr hgg hXg (by rw [cell_heap hhead]; rfl) (by rw [cell_heap hhead]; rfl) hn hr hc (own_cell hrow (by simp [blk, hc])).1 _ _ c1 c2 f1 f2 (frozen_heap hhead 1)).mono ?_
    rintro e w' ⟨rfl, rfl⟩
    generalize hgd : bs[n / 4096] = g at *
    have hold : ∀ x, x < w.heap.size → x ≠ g → x ≠ X → (((((w.setCell ⟨g, n % 4096 * 2, none⟩ (.int .u64 h)).setCell ⟨g, n % 4096 * 2 + 1, none⟩ (.int .i64 o)).setCell ⟨X, 1, none⟩ (.int .i64 ((n : Int) + 1))).alloc (.cells #[.int .u64 h, .int .i64 o] 57)).drew).heap[x]? = w.heap[x]? := by
      intro x h1 h2 h3
      show (World.alloc _ _).heap[x]? = _
      rw [Below.heap_alloc _ _ _ (by simpa [World.setCell] using h1), Below.heap_setCell _ _ _ _ h3, Below.heap_setCell _ _ _ _ h2, Below.heap_setCell _ _ _ _ h2]
    refine ⟨rfl, bv, bs, ⟨?_, H.geX, ?_, H.nodup, H.apart, H.xbs, H.ge, ?_, ?_, by omega⟩, ⟨[], by simp⟩, ?_⟩
    · show (World.alloc _ _).heap[X]? = _
      rw [Below.heap_alloc _ _ _ (by simpa [World.setCell] using hX)]
      have k2 : (((w.setCell ⟨g, n % 4096 * 2, none⟩ (.int .u64 h)).setCell ⟨g, n % 4096 * 2 + 1, none⟩ (.int .i64 o))).heap[X]? = w.heap[X]? := by
        rw [Below.heap_setCell _ _ _ _ hXg, Below.heap_setCell _ _ _ _ hXg]
      exact heap_setCell_same (o := 1) (v := .int .i64 ((n : Int) + 1)) (k2.trans H.head)
    · refine own_keptL H.row ?_
      intro x hx
      exact hold x (own_mem_lt H.row x hx).1 (fun e => (H.apart x hx).2 (e ▸ hmem)) (H.apart x hx).1
    · intro i y hy
      have hyb : y ∈ bs := List.mem_of_getElem? hy
      have hyX : y ≠ X := fun e => H.xbs (e ▸ hyb)
      obtain ⟨hi, hyi⟩ := List.getElem?_eq_some_iff.1 hy
      by_cases hic : i = n / 4096
      · subst hic
        have hyg : y = g := by rw [← hyi, hgd]
        subst hyg
        refine block_set (w := w) (r := n % 4096) hb1 hb2 hb3 (by omega) (h := h) (o := o) ?_ ?_
        · show (World.alloc _ _).heap[y]? = _
          rw [Below.heap_alloc _ _ _ (by simpa [World.setCell] using hgg), Below.heap_setCell _ _ _ _ hyX]
        · intro j hj
          unfold put
          by_cases e : j = n % 4096
          · rw [if_pos e, if_pos (by omega)]
          · rw [if_neg e, if_neg (by omega), if_pos (by omega)]
      · refine block_kept (H.blocks i y hy) (hold y (hbl y hyb) ?_ hyX) ?_
        · intro e
          have := (List.getElem_inj (h₀ := hi) (h₁ := hc) H.nodup).1 (by rw [hyi, hgd, e])
          exact hic this
        · intro j hj
          unfold put
          rw [if_neg (by omega), if_pos (by omega)]
    · show B ≤ (World.alloc _ _).heap.size
      have := H.size
      simp [World.setCell, World.alloc]
      omega
    · have hgB := H.ge g hmem
      have hsz := H.size
      exact ((((Below.refl B w).setCell (p := ⟨g, n % 4096 * 2, none⟩) hgB _).setCell (p := ⟨g, n % 4096 * 2 + 1, none⟩) hgB _).setCell (p := ⟨X, 1, none⟩) H.geX _).alloc (by simpa [World.setCell] using hsz) _ |>.drew
end Go.Proofs.Qxb6603852a

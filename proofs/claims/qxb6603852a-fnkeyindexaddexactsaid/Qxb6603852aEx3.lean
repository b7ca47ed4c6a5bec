/-
  FnKeyIndexAddExact: the copy of the blocks, and the index made of it.
-/
import Derived.Test.Qxb6603852aEx1
import Derived.Test.Qxb6603852aEx2
namespace Go.Proofs.Qxb6603852a
open Go.RowKit
set_option linter.unusedVariables false

/-- The lines of the blocks that came in, by position. -/
def valB (bl : List Bl) : Nat → Int × Int := fun p => match bl[p / 4096]? with | some b => b.L.getD (p % 4096) (0, 0) | none => (0, 0)

theorem valB_at (bl : List Bl) (i j : Nat) (hi : i < bl.length) (hj : j < 4096) (hL : j < bl[i].L.length) : valB bl (i * 4096 + j) = bl[i].L[j] := by
  have h1 : (i * 4096 + j) / 4096 = i := by omega
  have h2 : (i * 4096 + j) % 4096 = j := by omega
  unfold valB
  rw [h1, h2, List.getElem?_eq_getElem hi]
  show bl[i].L.getD j (0, 0) = _
  rw [List.getD_eq_getElem?_getD, List.getElem?_eq_getElem hL]
  rfl

theorem infoR : (Try.prog.info? 54).map (fun i => (i.zero, i.size, i.bytes)) = some (some (.slice none 0 0), 1, 24) := infoB

theorem mkrow (n : Nat) (hn : n ≤ 100000) : ∃ Z : Array Value, (∀ w : World, (Instr.makeSlice 53 (.int .i64 (n : Int)) (.int .i64 (n : Int))).run Try.prog w = .ok (.slice (some ⟨w.heap.size, 0, none⟩) n n) (w.alloc (.cells Z 54))) ∧ Z.size = n ∧ Z.toList = List.replicate n (.slice none 0 0) := by
  obtain ⟨i0, hi0, hz0, hzs, hzb⟩ := info_parts infoB
  have e : (Value.slice none 0 0).cells = #[.slice none 0 0] := rfl
  refine ⟨madeCells (Value.slice none 0 0).cells n, fun w => ?_, ?_, ?_⟩
  · have := run_make (P := Try.prog) w 53 54 i0 _ Try.underlying53 hi0 hz0 .i64 .i64 (n : Int) (n : Int) (by omega) (by omega) (by rw [hzb]; omega) (by omega)
    rw [hzs] at this
    simpa using this
  · rw [size_madeCells]
  · rw [e, toList_madeCells_one]

/-- The copy as far as it goes: i blocks. -/
structure Copied (w : World) (B R : Nat) (bl : List Bl) (gs : List Nat) : Prop where
  row : Own w B 54 (.slice (some ⟨R, 0, none⟩) bl.length bl.length) (gs.map blk ++ List.replicate (bl.length - gs.length) (.slice none 0 0))
  le : gs.length ≤ bl.length
  nodup : gs.Nodup
  apart : R ∉ gs
  ge : ∀ g ∈ gs, B ≤ g
  blocks : ∀ i g, gs[i]? = some g → BlockAt w g (fun j => valB bl (i * 4096 + j))
  size : B ≤ w.heap.size

theorem Copied.lt {w : World} {B R : Nat} {bl : List Bl} {gs : List Nat} (h : Copied w B R bl gs) : ∀ g ∈ gs, g < w.heap.size := by
  intro g hg
  obtain ⟨i, hi, e⟩ := List.getElem_of_mem hg
  obtain ⟨cur, h1, _⟩ := h.blocks i g (by rw [List.getElem?_eq_getElem hi, e])
  exact lt_of_heap h1

theorem own_set {w : World} {B g n cap : Nat} {e : TypeId} {xs : List Value} (h : Own w B e (.slice (some ⟨g, 0, none⟩) n cap) xs) (j : Nat) (x : Value) : Own (w.setCell ⟨g, j, none⟩ x) B e (.slice (some ⟨g, 0, none⟩) n cap) (xs.set j x) := by
  rcases own_open h with ⟨h, _⟩ | ⟨g', cap', cur, h, h2, h3, h4, h5, h6, h7⟩
  · cases h
  · simp only [Value.slice.injEq, Option.some.injEq, Addr.mk.injEq, and_true] at h
    obtain ⟨rfl, rfl, rfl⟩ := h
    have := own_mk (xs := xs.set j x) (w := w.setCell ⟨g, j, none⟩ x) h2 (heap_setCell_same h3) (by simpa using h6) (by simpa using h4) h5 (by
      intro i hi
      rw [List.length_set] at hi
      rw [Array.getElem?_setIfInBounds, List.getElem?_set]
      by_cases e : j = i
      · subst e
        rw [if_pos rfl, if_pos rfl, if_pos (by omega), if_pos (by omega)]
      · rw [if_neg e, if_neg e, h7 i hi])
    rwa [List.length_set] at this

/-- One block more. -/
theorem Copied.step {w V : World} {B R g : Nat} {bl : List Bl} {gs : List Nat} (h : Copied w B R bl gs) (hR : R < w.heap.size) (hlt : gs.length < bl.length) (hg : w.heap.size ≤ g) (ht : Turned w V []) (hb : BlockAt V g (fun j => valB bl (gs.length * 4096 + j))) : Copied (V.setCell ⟨R, gs.length, none⟩ (blk g)) B R bl (gs ++ [g]) := by
  have hlt' := h.lt
  have hgg : g ∉ gs := fun hm => by have := hlt' g hm; omega
  have keep : ∀ x, x < w.heap.size → x ≠ R → (V.setCell ⟨R, gs.length, none⟩ (blk g)).heap[x]? = w.heap[x]? := fun x h1 h2 => (Below.heap_setCell _ _ _ _ h2).trans (ht.block x h1 (by simp))
  have hO : Own V B 54 (.slice (some ⟨R, 0, none⟩) bl.length bl.length) (gs.map blk ++ List.replicate (bl.length - gs.length) (.slice none 0 0)) := own_keptL h.row (fun x hx => ht.block x (own_mem_lt h.row x hx).1 (by simp))
  have hsz := h.size
  have hsz2 := ht.size
  refine ⟨?_, by rw [List.length_append]; simp; omega, ?_, ?_, ?_, ?_, ?_⟩
  · have := own_set hO gs.length (blk g)
    have e : (gs.map blk ++ List.replicate (bl.length - gs.length) (Value.slice none 0 0)).set gs.length (blk g) = (gs ++ [g]).map blk ++ List.replicate (bl.length - (gs ++ [g]).length) (Value.slice none 0 0) := by
      obtain ⟨d, hd⟩ : ∃ d, bl.length - gs.length = d + 1 := ⟨bl.length - gs.length - 1, by omega⟩
      have hd2 : bl.length - (gs ++ [g]).length = d := by rw [List.length_append]; simp; omega
      rw [hd, hd2, List.set_append_right _ _ (by simp), List.length_map, Nat.sub_self, List.replicate_succ, List.set_cons_zero, List.map_append, List.append_assoc]
      rfl
    rwa [e] at this
  · rw [List.nodup_append]
    refine ⟨h.nodup, by simp, ?_⟩
    intro a ha b hb' e
    rw [List.mem_singleton.1 hb'] at e
    exact hgg (e ▸ ha)
  · intro hm
    rcases List.mem_append.1 hm with hm | hm
    · exact h.apart hm
    · have := List.mem_singleton.1 hm
      omega
  · intro y hy
    rcases List.mem_append.1 hy with hy | hy
    · exact h.ge y hy
    · rw [List.mem_singleton.1 hy]
      omega
  · intro i y hy
    by_cases hi : i < gs.length
    · rw [List.getElem?_append_left hi] at hy
      have hyb : y ∈ gs := List.mem_of_getElem? hy
      exact block_kept (h.blocks i y hy) (keep y (hlt' y hyb) (fun e => h.apart (e ▸ hyb))) (fun _ _ => rfl)
    · have hil : i = gs.length := by
        have := (List.getElem?_eq_some_iff.1 hy).1
        simp at this
        omega
      subst hil
      have hyg : y = g := by simpa using hy.symm
      subst hyg
      exact block_kept hb (Below.heap_setCell _ _ _ _ (by show y ≠ R; omega)) (fun _ _ => rfl)
  · show B ≤ (World.setCell _ _ _).heap.size
    simp [World.setCell]
    omega

/-- The index made of the copy. -/
theorem Copied.index {w : World} {B R : Nat} {bl : List Bl} {gs : List Nat} (h : Copied w B R bl gs) (hR : R < w.heap.size) (hall : gs.length = bl.length) (k : Nat) (s : Bool) (hk : bl.length = (k + 4095) / 4096) :
    Idx (w.alloc (.cells #[.slice (some ⟨R, 0, none⟩) bl.length bl.length, .int .i64 k, .bool s] 81)) B w.heap.size (.slice (some ⟨R, 0, none⟩) bl.length bl.length) gs k s (valB bl) := by
  have hlt := h.lt
  have hsz := h.size
  refine ⟨heap_alloc_new w _, hsz, ?_, h.nodup, ?_, ?_, h.ge, ?_, by have := (Turned.alloc w (.cells #[.slice (some ⟨R, 0, none⟩) bl.length bl.length, .int .i64 k, .bool s] 81) []).size; omega, by omega⟩
  · have := h.row
    rw [hall, Nat.sub_self, List.replicate_zero, List.append_nil] at this
    exact own_keptL this (fun x hx => Below.heap_alloc _ _ _ (own_mem_lt this x hx).1)
  · intro x hx
    have hx' : x = R := by simpa [Value.ownBlock] using hx
    subst hx'
    exact ⟨by omega, h.apart⟩
  · intro hm
    have := hlt _ hm
    omega
  · intro i g hg
    exact block_kept (h.blocks i g hg) (Below.heap_alloc _ _ _ (hlt g (List.mem_of_getElem? hg))) (fun _ _ => rfl)

theorem zzadd_anyF (B X : Nat) (bv : Value) (bs : List Nat) (n : Nat) (s : Bool) (val : Nat → Int × Int) (h o : Int) (w : World) (H : Idx w B X bv bs n s val) (ao : Option Addr) (hfull : bv = .slice ao bs.length bs.length) (hn : n ≤ 1000000) :
    Calls Try.prog 18 #[.pointer (some ⟨X, 0, none⟩), .agg #[.int .u64 h, .int .i64 o]] w (AddPostF w B X bv bs n s val (h, o)) := by
  have HA : Hid _ := add_anyF B X bv bs n s val h o (w.alloc (.cells #[.int .u64 h, .int .i64 o] 57)) (H.turned (Turned.alloc w _ [])) ao hfull hn
  have HB : Hid (B ≤ w.heap.size ∧ ∀ x ∈ bv.ownBlock.toList, x < w.heap.size) := ⟨H.size, fun x hx => (own_mem_lt H.row x hx).1⟩
  clear H hfull
  go_enter Try.func18, Try.ntmps18
  go_wp2_with fail
  refine Calls.mono HA.out ?_
  rintro e W1 ⟨rfl, bv', bs', q1, q2, q3, q4⟩
  have HQ : Hid (AddPostF w B X bv bs n s val (h, o) (.returned (.tuple #[])) W1) := ⟨rfl, bv', bs', q1, q2, ((Below.refl B w).alloc HB.out.1 _).trans q3, fun x hx => (q4 x hx).trans (Below.heap_alloc _ _ _ (HB.out.2 x hx))⟩
  clear q1 q2 q3 q4
  go_wp2
  refine bodyPost_end (v := .tuple #[]) (by simp [results, Try.results18, go_sem]) rfl ?_
  exact HQ.out
end Go.Proofs.Qxb6603852a

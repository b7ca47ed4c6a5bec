/-
  split, at a leaf of 65 strings.
-/
import Derived.Test.Qxb6603837aNode
import Derived.Deep.QuietTactic
import Derived.BigQuiet
namespace Go.Proofs.Qxb6603837a
open Go.RowKit

/-- Only the blocks of fp, and new ones, may have turned. -/
structure Turned (w w' : World) (fp : List Nat) : Prop where
  os : w'.os = w.os
  tape : w'.tape = w.tape
  output : w'.output = w.output
  size : w.heap.size ≤ w'.heap.size
  block : ∀ k, k < w.heap.size → k ∉ fp → w'.heap[k]? = w.heap[k]?

theorem Turned.refl (w : World) (fp : List Nat) : Turned w w fp := ⟨rfl, rfl, rfl, Nat.le_refl _, fun _ _ _ => rfl⟩
theorem Turned.trans {a b c : World} {fp fq : List Nat} (h : Turned a b fp) (k : Turned b c fq) (hs : ∀ x ∈ fq, x ∈ fp ∨ a.heap.size ≤ x) : Turned a c fp :=
  ⟨k.os.trans h.os, k.tape.trans h.tape, k.output.trans h.output, Nat.le_trans h.size k.size, fun i hi hn => (k.block i (Nat.lt_of_lt_of_le hi h.size) (fun hm => by
    rcases hs i hm with e | e
    · exact hn e
    · omega)).trans (h.block i hi hn)⟩
theorem Turned.grown {w w' : World} {row : Option Nat} {fp : List Nat} (h : w.grownBy w' row) (hr : ∀ g, row = some g → g ∈ fp ∨ w.heap.size ≤ g) : Turned w w' fp :=
  ⟨h.os, h.tape, h.output, h.size, fun k hk hn => h.block k hk (fun e => by
    rcases hr k e.symm with e | e
    · exact hn e
    · omega)⟩
theorem Turned.below {w w' : World} (h : Below w.heap.size w w') (fp : List Nat) : Turned w w' fp := ⟨h.os, h.tape, h.output, h.size, fun k hk _ => h.block k hk⟩
theorem Turned.alloc (w : World) (o : Obj) (fp : List Nat) : Turned w (w.alloc o) fp := .grown (World.grownBy_alloc w o none) (fun _ h => by cases h)
theorem Turned.setCell (w : World) (a : Addr) (v : Value) {fp : List Nat} (h : a.block ∈ fp ∨ w.heap.size ≤ a.block) : Turned w (w.setCell a v) fp :=
  ⟨rfl, rfl, rfl, by simp [World.setCell], fun k hk hn => Below.heap_setCell _ _ _ _ (fun e => by
    subst e
    rcases h with h | h
    · exact hn h
    · omega)⟩
theorem Turned.drewN (w : World) (q : Nat) (fp : List Nat) : Turned w (w.drewN q) fp := ⟨rfl, rfl, rfl, Nat.le_refl _, fun _ _ _ => rfl⟩
theorem Turned.mono {w w' : World} {fp fq : List Nat} (h : Turned w w' fp) (hs : ∀ x ∈ fp, x ∈ fq ∨ w.heap.size ≤ x) : Turned w w' fq :=
  ⟨h.os, h.tape, h.output, h.size, fun k hk hn => h.block k hk (fun e => by
    rcases hs k e with e | e
    · exact hn e
    · omega)⟩
theorem Turned.toBelow {w w' : World} {fp : List Nat} {B : Nat} (h : Turned w w' fp) (hB : ∀ x ∈ fp, B ≤ x) (hs : B ≤ w.heap.size) : Below B w w' :=
  ⟨h.os, h.tape, h.output, h.size, fun k hk => h.block k (by omega) (fun e => by have := hB k e; omega)⟩

theorem same_of {P : Program} {f : FuncId} {args : Array Value} {w : World} {r : Ending} {R : Ending → World → Prop} (h : Calls P f args w fun e w' => e = r ∧ w' = w) (k : R r w) : Calls P f args w R :=
  h.mono (by rintro e w' ⟨rfl, rfl⟩; exact k)

theorem one_strings (ks : List ByteArray) : ∀ u ∈ ks.map Value.string, u.oneCell' = true := by
  intro u hu
  obtain ⟨x, _, rfl⟩ := List.mem_map.1 hu
  rfl

theorem heap_setCell0 {w : World} {b : Nat} {x y v : Value} {T : TypeId} (h : w.heap[b]? = some (.cells #[x, y] T (0, 0))) : (w.setCell ⟨b, 0, none⟩ v).heap[b]? = some (.cells #[v, y] T (0, 0)) := by
  rw [heap_setCell_same h]; rfl
theorem heap_setCell1 {w : World} {b : Nat} {x y v : Value} {T : TypeId} (h : w.heap[b]? = some (.cells #[x, y] T (0, 0))) : (w.setCell ⟨b, 1, none⟩ v).heap[b]? = some (.cells #[x, v] T (0, 0)) := by
  rw [heap_setCell_same h]; rfl
theorem cell0 {w : World} {b : Nat} {x y : Value} {T : TypeId} {fr : Nat × Nat} (h : w.heap[b]? = some (.cells #[x, y] T fr)) : w.cell? ⟨b, 0, none⟩ = some x := by rw [cell_heap h]; rfl
theorem cell1 {w : World} {b : Nat} {x y : Value} {T : TypeId} {fr : Nat × Nat} (h : w.heap[b]? = some (.cells #[x, y] T fr)) : w.cell? ⟨b, 1, none⟩ = some y := by rw [cell_heap h]; rfl
theorem lt_of_heap {w : World} {b : Nat} {o : Obj} (h : w.heap[b]? = some o) : b < w.heap.size := (Array.getElem?_eq_some_iff.1 h).1
theorem own_up {w w' : World} {B : Nat} {e : TypeId} {v : Value} {xs : List Value} (h : Own w B e v xs) (B' : Nat) (hB : B' ≤ B) (hw : w' = w) : Own w' B' e v xs := by
  subst hw
  rcases own_open h with ⟨rfl, rfl⟩ | ⟨g, cap, cur, rfl, h2, h3, h4, h5, h6, h7⟩
  · exact ⟨rfl, .inl ⟨rfl, rfl⟩⟩
  · exact own_mk (Nat.le_trans hB h2) h3 h6 h4 h5 h7
theorem own_ge {w : World} {B g : Nat} {e : TypeId} {v : Value} {xs : List Value} (h : Own w B e v xs) (hg : v.ownBlock = some g) : B ≤ g := by
  rcases own_open h with ⟨rfl, rfl⟩ | ⟨g', cap, cur, rfl, h2, h3, h4, h5, h6, h7⟩
  · cases hg
  · cases hg; exact h2

theorem own_slice {w : World} {B g n cap : Nat} {e : TypeId} {xs : List Value} (h : Own w B e (.slice (some ⟨g, 0, none⟩) n cap) xs) : xs.length = n ∧ n ≤ cap ∧ cap ≤ 9223372036854775807 ∧ B ≤ g ∧ g < w.heap.size := by
  rcases own_open h with ⟨h, _⟩ | ⟨g', cap', cur, h, h2, h3, h4, h5, _, h7⟩
  · cases h
  · simp only [Value.slice.injEq, Option.some.injEq, Addr.mk.injEq, and_true] at h
    obtain ⟨rfl, rfl, rfl⟩ := h
    unfold maxLen at h5
    exact ⟨rfl, h4, by omega, h2, lt_of_heap h3⟩

theorem ownBlock_slice {g n cap x : Nat} (h : (Value.slice (some ⟨g, 0, none⟩) n cap).ownBlock = some x) : x = g := by
  simpa [Value.ownBlock] using h.symm

/-- The first cell of an owned row that is not empty. -/
theorem own_first {w : World} {B : Nat} {e : TypeId} {v x : Value} {xs : List Value} (h : Own w B e v (x :: xs)) : ∃ g cap, v = .slice (some ⟨g, 0, none⟩) (xs.length + 1) cap ∧ w.cell? ⟨g, 0, none⟩ = some x ∧ cap ≤ 9223372036854775807 ∧ xs.length + 1 ≤ cap := by
  rcases own_open h with ⟨_, h⟩ | ⟨g, cap, cur, h, _, h3, h4, h5, _, h7⟩
  · cases h
  · refine ⟨g, cap, h, ?_, by unfold maxLen at h5; omega, h4⟩
    rw [cell_heap h3, h7 0 (by simp)]
    rfl

set_option maxRecDepth 100000 in
set_option maxHeartbeats 1000000 in
theorem split_leaf (B b g cap : Nat) (ks : List ByteArray) (w : World) (hB : B ≤ w.heap.size) (hb : w.heap[b]? = some (.cells #[.slice (some ⟨g, 0, none⟩) 65 cap, .slice none 0 0] 60 (0, 0))) (hbg : b ≠ g)
    (hl : ks.length = 65) (ho : Own w B 9 (.slice (some ⟨g, 0, none⟩) 65 cap) (ks.map Value.string)) :
    Calls Try.prog 40 #[.pointer (some ⟨b, 0, none⟩)] w fun e w' => ∃ br rv, e = .returned (.tuple #[.pointer (some ⟨br, 0, none⟩), .string (ks.getD 32 ⟨#[]⟩)]) ∧
      w'.heap[b]? = some (.cells #[.slice (some ⟨g, 0, none⟩) 32 cap, .slice none 0 0] 60 (0, 0)) ∧ Own w' B 9 (.slice (some ⟨g, 0, none⟩) 32 cap) ((ks.take 32).map Value.string) ∧
      w'.heap[br]? = some (.cells #[rv, .slice none 0 0] 60 (0, 0)) ∧ Own w' B 9 rv ((ks.drop 32).map Value.string) ∧ Turned w w' [b, g] ∧ w.heap.size ≤ br ∧ ∀ x, rv.ownBlock = some x → w.heap.size ≤ x ∧ x ≠ br := by
  have h0 := cell0 hb
  have h1 := cell1 hb
  have hbw := lt_of_heap hb
  have hlen : (ks.map Value.string).length = 65 := by rw [List.length_map, hl]
  have hgw : g < w.heap.size := own_block_lt ho rfl
  have hBg : B ≤ g := own_ge ho rfl
  obtain ⟨_, hcap1, hcap2, _, _⟩ := own_slice ho
  have hcap3 : ¬ (cap = 32) := by omega
  have hcl := clS_own B 32 g cap (ks.map Value.string) w (by rw [hlen]; exact ho) (by omega) (by omega) (one_strings ks)
  rw [hlen] at hcl
  have HCL : Hid _ := hcl
  have HO : Hid (Own w B 9 (.slice (some ⟨g, 0, none⟩) 65 cap) (ks.map Value.string)) := ho
  have HB : Hid (w.heap[b]? = some (.cells #[.slice (some ⟨g, 0, none⟩) 65 cap, .slice none 0 0] 60 (0, 0))) := hb
  have HL : Hid (ks.length = 65) := hl
  have HLM : Hid ((ks.map Value.string).length = 65) := hlen
  clear hcl ho hb hl hlen
  go_enter Try.func40, Try.ntmps40
  go_wp2_with (first | (go_at_call 39; refine same_of (size_leaf _ _ _ _ _ h0 h1) ?_) | (go_at_call 35; refine same_of (leaf_true _ _ h1) ?_))
  refine Calls.mono HCL.out ?_
  rintro e W1 ⟨rv, rfl, hown, hnil, hbel⟩
  have hz1 := hbel.size
  have c0 : W1.cell? ⟨b, 0, none⟩ = some (.slice (some ⟨g, 0, none⟩) 65 cap) := (hbel.cell (p := ⟨b, 0, none⟩) hbw).trans h0
  have c1 : W1.cell? ⟨b, 1, none⟩ = some (.slice none 0 0) := (hbel.cell (p := ⟨b, 1, none⟩) hbw).trans h1
  have hbW : b < W1.heap.size := by omega
  have e32 : (ks.map Value.string).drop 32 = .string (ks.getD 32 ⟨#[]⟩) :: ((ks.map Value.string).drop 33) := by
    have hlt : 32 < ks.length := by rw [HL.out]; omega
    rw [List.drop_eq_getElem_cons (by rw [HLM.out]; omega)]
    simp [List.getD, hlt]
  have hown' := hown
  rw [e32] at hown'
  obtain ⟨gr, capr, hrv, hrc, hrm, hrl⟩ := own_first hown'
  have hgr : w.heap.size ≤ gr := own_ge hown (by rw [hrv]; rfl)
  have hgrW : gr < W1.heap.size := own_block_lt hown (by rw [hrv]; rfl)
  have hl33 : ((ks.map Value.string).drop 33).length + 1 = 33 := by rw [List.length_drop, HLM.out]
  rw [hl33] at hrv hrl
  have HOW : Hid (Own W1 w.heap.size 9 rv ((ks.map Value.string).drop 32)) := hown
  have HBel : Hid (Below w.heap.size w W1) := hbel
  clear hown hown' hbel hnil h0 h1 HCL e32 hl33
  subst hrv
  have hbne : ¬ (b = W1.heap.size) := by omega
  go_wp2_with fail
  have hO1 : Own (W1.alloc (.cells #[.slice (some ⟨gr, 0, none⟩) 33 capr, .slice none 0 0] 60)) B 9 (.slice (some ⟨g, 0, none⟩) (ks.map Value.string).length cap) (ks.map Value.string) := by
    rw [HLM.out]
    refine own_kept HO.out ?_
    intro x hx
    rw [ownBlock_slice hx, Below.heap_alloc _ _ _ (by omega)]
    exact HBel.out.block g hgw
  have htr := trS_own B 32 g cap (ks.map Value.string) _ hO1 (by rw [HLM.out]; omega) (by rw [HLM.out]; omega) (by omega)
  rw [HLM.out] at htr
  refine Calls.mono htr ?_
  rintro e W2 ⟨rfl, hO2, hg2⟩
  have hz2 := hg2.size
  simp only [World.alloc, Array.size_push] at hz2
  have hb2 : W2.heap[b]? = some (.cells #[.slice (some ⟨g, 0, none⟩) 65 cap, .slice none 0 0] 60 (0, 0)) := by
    rw [hg2.block b (by simp; omega) (by simpa using hbg), Below.heap_alloc _ _ _ hbW, HBel.out.block b hbw]
    exact HB.out
  have hr2 : W2.heap[W1.heap.size]? = some (.cells #[.slice (some ⟨gr, 0, none⟩) 33 capr, .slice none 0 0] 60 (0, 0)) := by
    rw [hg2.block W1.heap.size (by simp) (by simp; omega)]
    exact heap_alloc_new W1 _
  have hx2 : W2.heap[gr]? = W1.heap[gr]? := by
    rw [hg2.block gr (by simp; omega) (by simp; omega), Below.heap_alloc _ _ _ hgrW]
  have d0 := cell0 hb2
  have d1 := frozen_heap hb2 0
  have r0 := cell0 hr2
  have x0 : W2.cell? ⟨gr, 0, none⟩ = some (.string (ks.getD 32 ⟨#[]⟩)) := by rw [World.cell?_of_block (w := W1) hx2]; exact hrc
  have HB2 : Hid _ := hb2
  have HR2 : Hid _ := hr2
  have HX2 : Hid _ := hx2
  have HO2 : Hid _ := hO2
  have HG2 : Hid _ := hg2
  clear hb2 hr2 hx2 hO2 hg2 hO1 htr c0 c1 hrc
  have n1 : ¬ (b = gr) := by omega
  go_wp2
  go_quiet (fail)
  go_wp2
  go_ret2
  refine ⟨W1.heap.size, .slice (some ⟨gr, 0, none⟩) 33 capr, by rw [List.getD_eq_getElem?_getD]; rfl, heap_setCell0 HB2.out, ?_, ?_, ?_, ?_, hz1, ?_⟩
  · rw [List.map_take]
    refine own_kept HO2.out (fun x hx => ?_)
    rw [ownBlock_slice hx]
    exact Below.heap_setCell _ _ _ _ (fun e => hbg e.symm)
  · exact (Below.heap_setCell _ _ _ _ (fun e => hbne e.symm)).trans HR2.out
  · rw [List.map_drop]
    refine own_kept (own_up HOW.out B hB rfl) (fun x hx => ?_)
    rw [ownBlock_slice hx]
    exact (Below.heap_setCell _ _ _ _ (fun e => n1 e.symm)).trans HX2.out
  · refine Turned.trans (fq := []) ?_ (Turned.drewN _ nq []) (fun x hx => by cases hx)
    refine (((Turned.below HBel.out [b, g]).trans (Turned.alloc W1 _ [b, g]) (fun x hx => .inl hx)).trans (Turned.grown HG2.out (fp := [b, g]) (fun x hx => by cases hx; exact .inl (by simp))) (fun x hx => .inl hx)).trans (Turned.setCell W2 ⟨b, 0, none⟩ _ (fp := [b, g]) (.inl (by simp))) (fun x hx => .inl hx)
  · intro x hx
    rw [ownBlock_slice hx]
    exact ⟨hgr, by omega⟩
end Go.Proofs.Qxb6603837a

/-
  split, at an inner node of 65 children.
-/
import Derived.Test.Qxb6603837aSplit
import Derived.Deep.RegionHeld3
import Derived.Deep.RegionWith
import Derived.Deep.DrawnRows
import Derived.BigRegion
namespace Go.Proofs.Qxb6603837a
open Go.RowKit
attribute [local go_sem ↓] Go.wp_at_zero Go.wp_at_succ

def ptrs (bs : List Nat) : List Value := bs.map fun b => Value.pointer (some ⟨b, 0, none⟩)
theorem one_ptrs (bs : List Nat) : ∀ u ∈ ptrs bs, u.oneCell' = true := by
  intro u hu
  obtain ⟨x, _, rfl⟩ := List.mem_map.1 hu
  rfl

/-- Nothing that lay in w has turned. -/
def Since (w w' : World) : Prop := Below w.heap.size w w'
theorem Since.refl (w : World) : Since w w := Below.refl _ _
theorem Since.step {w w1 w2 : World} (h : Since w w1) (k : Below w1.heap.size w1 w2) : Since w w2 := Below.trans h (k.mono (Below.size h))
theorem Since.alloc {w w1 : World} (h : Since w w1) (o : Obj) : Since w (w1.alloc o) := Below.alloc h (Below.size h) o
theorem Since.drew {w w1 : World} (h : Since w w1) : Since w w1.drew := Below.drew h
theorem Since.cellEq {w w' : World} (h : Since w w') {b o : Nat} (hb : b < w.heap.size) : w'.cell? ⟨b, o, none⟩ = w.cell? ⟨b, o, none⟩ := Below.cell h (p := ⟨b, o, none⟩) hb
theorem Since.own {w w' : World} (h : Since w w') {B : Nat} {e : TypeId} {v : Value} {xs : List Value} (ho : Own w B e v xs) : Own w' B e v xs :=
  own_kept ho (fun g hg => Below.block h g (own_block_lt ho hg))

/-- The clone, at a world that has only grown, with what the walk's region wants behind it. -/
theorem clS_since (B g cap n h m : Nat) (xs : List Value) (w W : World) (hl : xs.length = n) (ho : Own w B 9 (.slice (some ⟨g, 0, none⟩) n cap) xs) (hn : n ≤ 100000) (hh : h < n) (hm : n - h = m) (h1 : ∀ u ∈ xs, u.oneCell' = true) (b : Nat) (x y : Value) (hb : b < w.heap.size)
    (hx : w.cell? ⟨b, 0, none⟩ = some x) (hy : w.cell? ⟨b, 1, none⟩ = some y) (hS : Since w W) :
    Calls Try.prog 48 #[.slice (some ⟨g, h, none⟩) m (cap - h)] W fun e W' => ∃ gr capr, e = .returned (.slice (some ⟨gr, 0, none⟩) m capr) ∧ Own W' W.heap.size 9 (.slice (some ⟨gr, 0, none⟩) m capr) (xs.drop h) ∧ W'.cell? ⟨b, 0, none⟩ = some x ∧ W'.cell? ⟨b, 1, none⟩ = some y ∧ Since w W' ∧ Hid (Since W W') := by
  subst hl hm
  refine (clS_own B h g cap xs W (hS.own ho) hn hh h1).mono ?_
  rintro e W' ⟨v', rfl, ho', hnil, hb'⟩
  have hS' := hS.step hb'
  rcases own_open ho' with ⟨hv, _⟩ | ⟨gr, capr, cur, hv, _⟩
  · exact absurd hv hnil
  · rw [List.length_drop] at hv
    subst hv
    exact ⟨gr, capr, rfl, ho', (hS'.cellEq hb).trans hx, (hS'.cellEq hb).trans hy, hS', hb'⟩

theorem clP_since (B g cap n h m : Nat) (xs : List Value) (w W : World) (hl : xs.length = n) (ho : Own w B 25 (.slice (some ⟨g, 0, none⟩) n cap) xs) (hn : n ≤ 100000) (hh : h < n) (hm : n - h = m) (h1 : ∀ u ∈ xs, u.oneCell' = true) (b : Nat) (x y : Value) (hb : b < w.heap.size)
    (hx : w.cell? ⟨b, 0, none⟩ = some x) (hy : w.cell? ⟨b, 1, none⟩ = some y) (hS : Since w W) :
    Calls Try.prog 50 #[.slice (some ⟨g, h, none⟩) m (cap - h)] W fun e W' => ∃ gr capr, e = .returned (.slice (some ⟨gr, 0, none⟩) m capr) ∧ Own W' W.heap.size 25 (.slice (some ⟨gr, 0, none⟩) m capr) (xs.drop h) ∧ W'.cell? ⟨b, 0, none⟩ = some x ∧ W'.cell? ⟨b, 1, none⟩ = some y ∧ Since w W' ∧ Hid (Since W W') := by
  subst hl hm
  refine (clP_own B h g cap xs W (hS.own ho) hn hh h1).mono ?_
  rintro e W' ⟨v', rfl, ho', hnil, hb'⟩
  have hS' := hS.step hb'
  rcases own_open ho' with ⟨hv, _⟩ | ⟨gr, capr, cur, hv, _⟩
  · exact absurd hv hnil
  · rw [List.length_drop] at hv
    subst hv
    exact ⟨gr, capr, rfl, ho', (hS'.cellEq hb).trans hx, (hS'.cellEq hb).trans hy, hS', hb'⟩

/-- truncate of the keys, with what the walk's region wants behind it. -/
theorem trS_mid (B g cap b gc capc : Nat) (x y : Value) (xs ys : List Value) (W : World) (ho : Own W B 9 (.slice (some ⟨g, 0, none⟩) 64 cap) xs) (hoc : Own W B 25 (.slice (some ⟨gc, 0, none⟩) 65 capc) ys) (hb : W.heap[b]? = some (.cells #[x, y] 60 (0, 0))) (hbg : b ≠ g) (hgc : g ≠ gc) :
    Calls Try.prog 49 #[.slice (some ⟨g, 0, none⟩) 64 cap, .int .i64 31] W fun e W' => e = .returned (.slice (some ⟨g, 0, none⟩) 31 cap) ∧ Hid (Own W' B 9 (.slice (some ⟨g, 0, none⟩) 31 cap) (xs.take 31)) ∧
      Hid (Own W' B 25 (.slice (some ⟨gc, 0, none⟩) 65 capc) ys) ∧ Hid (W'.heap[b]? = some (.cells #[x, y] 60 (0, 0))) ∧ Hid (W.grownBy W' (some g)) ∧ W'.cell? ⟨b, 0, none⟩ = some x ∧ W'.cell? ⟨b, 1, none⟩ = some y ∧ W'.frozen? ⟨b, 0, none⟩ = false ∧ W'.frozen? ⟨b, 1, none⟩ = false := by
  obtain ⟨hl, _, _, _, _⟩ := own_slice ho
  obtain ⟨_, _, _, _, hgcw⟩ := own_slice hoc
  have h := trS_own B 31 g cap xs W (by rw [hl]; exact ho) (by omega) (by omega) (by omega)
  rw [hl] at h
  refine h.mono ?_
  rintro e W' ⟨rfl, ho', hg'⟩
  have hb' : W'.heap[b]? = some (.cells #[x, y] 60 (0, 0)) := (hg'.block b (lt_of_heap hb) (by simpa using hbg)).trans hb
  exact ⟨rfl, ho', own_kept hoc (fun z hz => by rw [ownBlock_slice hz]; exact hg'.block gc hgcw (by simpa using fun e => hgc e.symm)), hb', hg', cell0 hb', cell1 hb', frozen_heap hb' 0, frozen_heap hb' 1⟩

theorem trP_mid (B g cap b gc capc : Nat) (x y : Value) (xs ys : List Value) (W : World) (ho : Own W B 9 (.slice (some ⟨g, 0, none⟩) 31 cap) xs) (hoc : Own W B 25 (.slice (some ⟨gc, 0, none⟩) 65 capc) ys) (hb : W.heap[b]? = some (.cells #[x, y] 60 (0, 0))) (hbg : b ≠ gc) (hgc : g ≠ gc) :
    Calls Try.prog 51 #[.slice (some ⟨gc, 0, none⟩) 65 capc, .int .i64 32] W fun e W' => e = .returned (.slice (some ⟨gc, 0, none⟩) 32 capc) ∧ Hid (Own W' B 9 (.slice (some ⟨g, 0, none⟩) 31 cap) xs) ∧
      Hid (Own W' B 25 (.slice (some ⟨gc, 0, none⟩) 32 capc) (ys.take 32)) ∧ Hid (W'.heap[b]? = some (.cells #[x, y] 60 (0, 0))) ∧ Hid (W.grownBy W' (some gc)) ∧ W'.cell? ⟨b, 0, none⟩ = some x ∧ W'.cell? ⟨b, 1, none⟩ = some y ∧ W'.frozen? ⟨b, 0, none⟩ = false ∧ W'.frozen? ⟨b, 1, none⟩ = false := by
  obtain ⟨_, _, _, _, hgw⟩ := own_slice ho
  obtain ⟨hl, _, _, _, hgcw⟩ := own_slice hoc
  have h := trP_own B 32 gc capc ys W (by rw [hl]; exact hoc) (by omega) (by omega) (by omega)
  rw [hl] at h
  refine h.mono ?_
  rintro e W' ⟨rfl, ho', hg'⟩
  have hb' : W'.heap[b]? = some (.cells #[x, y] 60 (0, 0)) := (hg'.block b (lt_of_heap hb) (by simpa using hbg)).trans hb
  exact ⟨rfl, own_kept ho (fun z hz => by rw [ownBlock_slice hz]; exact hg'.block g hgw (by simpa using hgc)), ho', hb', hg', cell0 hb', cell1 hb', frozen_heap hb' 0, frozen_heap hb' 1⟩

/-- What stands behind the two stores. -/
theorem split_fin (B b g cap gc capc gr capr gq capq br : Nat) (ks : List ByteArray) (bs : List Nat) (w W3 W4 W5 : World) (x y : Value) (hbg : b ≠ g) (hbc : b ≠ gc) (hbw : b < w.heap.size) (hgw : g < w.heap.size) (hgcw : gc < w.heap.size)
    (hS : Since w W3) (hr3 : W3.heap[br]? = some (.cells #[.slice (some ⟨gr, 0, none⟩) 32 capr, .slice (some ⟨gq, 0, none⟩) 33 capq] 60 (0, 0)))
    (R3 : Own W3 B 9 (.slice (some ⟨gr, 0, none⟩) 32 capr) ((ks.map Value.string).drop 32)) (Q3 : Own W3 B 25 (.slice (some ⟨gq, 0, none⟩) 33 capq) ((ptrs bs).drop 32))
    (hbr : w.heap.size ≤ br) (hgr : w.heap.size ≤ gr) (hgq : gr < gq) (hq : gq < br)
    (t4 : W3.grownBy W4 (some g)) (u1 : Own W5 B 9 (.slice (some ⟨g, 0, none⟩) 31 cap) ((ks.map Value.string).take 31)) (u2 : Own W5 B 25 (.slice (some ⟨gc, 0, none⟩) 32 capc) ((ptrs bs).take 32))
    (u3 : W5.heap[b]? = some (.cells #[x, y] 60 (0, 0))) (u4 : W4.grownBy W5 (some gc)) (w' : World) (hw' : w' = (W5.setCell ⟨b, 0, none⟩ (.slice (some ⟨g, 0, none⟩) 31 cap)).setCell ⟨b, 1, none⟩ (.slice (some ⟨gc, 0, none⟩) 32 capc)) :
      w'.heap[b]? = some (.cells #[.slice (some ⟨g, 0, none⟩) 31 cap, .slice (some ⟨gc, 0, none⟩) 32 capc] 60 (0, 0)) ∧ Own w' B 9 (.slice (some ⟨g, 0, none⟩) 31 cap) ((ks.take 31).map Value.string) ∧ Own w' B 25 (.slice (some ⟨gc, 0, none⟩) 32 capc) (ptrs (bs.take 32)) ∧
      w'.heap[br]? = some (.cells #[.slice (some ⟨gr, 0, none⟩) 32 capr, .slice (some ⟨gq, 0, none⟩) 33 capq] 60 (0, 0)) ∧ Own w' B 9 (.slice (some ⟨gr, 0, none⟩) 32 capr) ((ks.drop 32).map Value.string) ∧ Own w' B 25 (.slice (some ⟨gq, 0, none⟩) 33 capq) (ptrs (bs.drop 32)) ∧ Turned w w' [b, g, gc] ∧ w.heap.size ≤ br ∧
      (∀ x, (Value.slice (some ⟨gr, 0, none⟩) 32 capr).ownBlock = some x → w.heap.size ≤ x ∧ x ≠ br) ∧ (∀ x, (Value.slice (some ⟨gq, 0, none⟩) 33 capq).ownBlock = some x → w.heap.size ≤ x ∧ x ≠ br ∧ (Value.slice (some ⟨gr, 0, none⟩) 32 capr).ownBlock ≠ some x) := by
  subst hw'
  have hother : ∀ k, k ≠ b → ((W5.setCell ⟨b, 0, none⟩ (.slice (some ⟨g, 0, none⟩) 31 cap)).setCell ⟨b, 1, none⟩ (.slice (some ⟨gc, 0, none⟩) 32 capc)).heap[k]? = W5.heap[k]? := fun k hk =>
    (Below.heap_setCell _ ⟨b, 1, none⟩ _ _ hk).trans (Below.heap_setCell _ ⟨b, 0, none⟩ _ _ hk)
  have hbrl : br < W3.heap.size := lt_of_heap hr3
  have hnew : ∀ k, k < W3.heap.size → k ≠ g → k ≠ gc → W5.heap[k]? = W3.heap[k]? := fun k hk h1 h2 =>
    (u4.block k (Nat.lt_of_lt_of_le hk t4.size) (by simpa using h2)).trans (t4.block k hk (by simpa using h1))
  refine ⟨heap_setCell1 (heap_setCell0 u3), ?_, ?_, ?_, ?_, ?_, ?_, hbr, ?_, ?_⟩
  · rw [List.map_take]
    exact own_kept u1 (fun z hz => by rw [ownBlock_slice hz]; exact hother g (fun e => hbg e.symm))
  · unfold ptrs at u2 ⊢
    rw [List.map_take]
    exact own_kept u2 (fun z hz => by rw [ownBlock_slice hz]; exact hother gc (fun e => hbc e.symm))
  · rw [hother br (by omega), hnew br hbrl (by omega) (by omega)]
    exact hr3
  · rw [List.map_drop]
    exact own_kept R3 (fun z hz => by rw [ownBlock_slice hz, hother gr (by omega), hnew gr (by omega) (by omega) (by omega)])
  · unfold ptrs at Q3 ⊢
    rw [List.map_drop]
    exact own_kept Q3 (fun z hz => by rw [ownBlock_slice hz, hother gq (by omega), hnew gq (by omega) (by omega) (by omega)])
  · refine ((((Turned.below hS [b, g, gc]).trans (Turned.grown t4 (fp := [b, g, gc]) (fun x hx => by cases hx; exact .inl (by simp))) (fun x hx => .inl hx)).trans (Turned.grown u4 (fp := [b, g, gc]) (fun x hx => by cases hx; exact .inl (by simp))) (fun x hx => .inl hx)).trans (Turned.setCell W5 ⟨b, 0, none⟩ _ (fp := [b, g, gc]) (.inl (by simp))) (fun x hx => .inl hx)).trans (Turned.setCell _ ⟨b, 1, none⟩ _ (fp := [b, g, gc]) (.inl (by simp))) (fun x hx => .inl hx)
  · intro x hx
    rw [ownBlock_slice hx]
    omega
  · intro x hx
    have hx' := ownBlock_slice hx
    subst hx'
    refine ⟨by omega, by omega, ?_⟩
    intro e
    have := ownBlock_slice e
    omega

set_option maxRecDepth 100000 in
set_option maxHeartbeats 4000000 in
theorem split_inner (B b g cap gc capc : Nat) (ks : List ByteArray) (bs : List Nat) (w : World) (hB : B ≤ w.heap.size) (hb : w.heap[b]? = some (.cells #[.slice (some ⟨g, 0, none⟩) 64 cap, .slice (some ⟨gc, 0, none⟩) 65 capc] 60 (0, 0)))
    (hbg : b ≠ g) (hbc : b ≠ gc) (hgc : g ≠ gc) (hl : ks.length = 64) (hlc : bs.length = 65) (ho : Own w B 9 (.slice (some ⟨g, 0, none⟩) 64 cap) (ks.map Value.string)) (hoc : Own w B 25 (.slice (some ⟨gc, 0, none⟩) 65 capc) (ptrs bs)) :
    Calls Try.prog 40 #[.pointer (some ⟨b, 0, none⟩)] w fun e w' => ∃ br rv cv, e = .returned (.tuple #[.pointer (some ⟨br, 0, none⟩), .string (ks.getD 31 ⟨#[]⟩)]) ∧
      w'.heap[b]? = some (.cells #[.slice (some ⟨g, 0, none⟩) 31 cap, .slice (some ⟨gc, 0, none⟩) 32 capc] 60 (0, 0)) ∧ Own w' B 9 (.slice (some ⟨g, 0, none⟩) 31 cap) ((ks.take 31).map Value.string) ∧ Own w' B 25 (.slice (some ⟨gc, 0, none⟩) 32 capc) (ptrs (bs.take 32)) ∧
      w'.heap[br]? = some (.cells #[rv, cv] 60 (0, 0)) ∧ Own w' B 9 rv ((ks.drop 32).map Value.string) ∧ Own w' B 25 cv (ptrs (bs.drop 32)) ∧ Turned w w' [b, g, gc] ∧ w.heap.size ≤ br ∧
      (∀ x, rv.ownBlock = some x → w.heap.size ≤ x ∧ x ≠ br) ∧ (∀ x, cv.ownBlock = some x → w.heap.size ≤ x ∧ x ≠ br ∧ rv.ownBlock ≠ some x) := by
  have h0 := cell0 hb
  have h1 := cell1 hb
  have hbw := lt_of_heap hb
  obtain ⟨hlen, hcap1, hcap2, hBg, hgw⟩ := own_slice ho
  obtain ⟨hlenc, hcapc1, hcapc2, hBgc, hgcw⟩ := own_slice hoc
  have hcap3 : ¬ (cap = 32) := by omega
  have hcap4 : ¬ (cap = 31) := by omega
  have hcapc3 : ¬ (capc = 32) := by omega
  have x31 : w.cell? ⟨g, 31, none⟩ = some (.string (ks.getD 31 ⟨#[]⟩)) := by
    rcases own_open ho with ⟨h, _⟩ | ⟨g', cap', cur, h, _, h3, _, _, _, h7⟩
    · cases h
    · simp only [Value.slice.injEq, Option.some.injEq, Addr.mk.injEq, and_true] at h
      obtain ⟨rfl, _, rfl⟩ := h
      rw [cell_heap h3, h7 31 (by omega)]
      simp [List.getD, show 31 < ks.length by omega]
  have HO : Hid (Own w B 9 (.slice (some ⟨g, 0, none⟩) 64 cap) (ks.map Value.string)) := ho
  have HOC : Hid (Own w B 25 (.slice (some ⟨gc, 0, none⟩) 65 capc) (ptrs bs)) := hoc
  have HB : Hid (w.heap[b]? = some (.cells #[.slice (some ⟨g, 0, none⟩) 64 cap, .slice (some ⟨gc, 0, none⟩) 65 capc] 60 (0, 0))) := hb
  have HLM : Hid ((ks.map Value.string).length = 64) := hlen
  have HLC : Hid ((ptrs bs).length = 65) := hlenc
  have HL : Hid (ks.length = 64 ∧ bs.length = 65) := ⟨hl, hlc⟩
  clear ho hoc hb hlen hlenc hl hlc
  go_enter Try.func40, Try.ntmps40
  go_wp2_with (first | (go_at_call 39; refine same_of (size_inner _ _ _ _ _ h1) ?_) | (go_at_call 35; refine same_of (leaf_false _ _ _ _ _ h1) ?_))
  have hS := Since.refl w
  go_region_held3 (fun w' => w'.cell? ⟨b, 0, none⟩ = some (.slice (some ⟨g, 0, none⟩) 64 cap) ∧ w'.cell? ⟨b, 1, none⟩ = some (.slice (some ⟨gc, 0, none⟩) 65 capc) ∧ Since w w')
    (first | (refine ⟨?_, ?_, ?_⟩ <;> assumption) | (refine ⟨h0, h1, Since.drew (Since.refl _)⟩) | (refine ⟨Lib.cell?_alloc_some _ (by assumption), Lib.cell?_alloc_some _ (by assumption), Since.alloc (by assumption) _⟩))
    (first
      | (go_at_call 48; refine (clS_since B g cap 64 32 32 (ks.map Value.string) w _ HLM.out HO.out (by omega) (by omega) rfl (one_strings ks) b _ _ hbw h0 h1 (by first | assumption | exact Since.drew (Since.refl _))).mono ?_; rintro e W1 ⟨gr, capr, rfl, o1, p1, p2, s1, k1⟩)
      | (go_at_call 50; refine (clP_since B gc capc 65 32 33 (ptrs bs) w _ HLC.out HOC.out (by omega) (by omega) rfl (one_ptrs bs) b _ _ hbw h0 h1 (by first | assumption | exact Since.drew (Since.refl _))).mono ?_; rintro e W2 ⟨gq, capq, rfl, o2, p3, p4, s2, k2⟩))
  have s3 := s2.alloc (.cells #[.slice (some ⟨gr, 0, none⟩) 32 capr, .slice (some ⟨gq, 0, none⟩) 33 capq] 60)
  have hr3 : (W2.alloc (.cells #[.slice (some ⟨gr, 0, none⟩) 32 capr, .slice (some ⟨gq, 0, none⟩) 33 capq] 60)).heap[W2.heap.size]? = some (.cells #[.slice (some ⟨gr, 0, none⟩) 32 capr, .slice (some ⟨gq, 0, none⟩) 33 capq] 60 (0, 0)) := heap_alloc_new W2 _
  have hz2 := Below.size s2
  have hz1 := Below.size s1
  have hz12 := Below.size k2.out
  have hk3 : ∀ k, k < W2.heap.size → (W2.alloc (.cells #[.slice (some ⟨gr, 0, none⟩) 32 capr, .slice (some ⟨gq, 0, none⟩) 33 capq] 60)).heap[k]? = W2.heap[k]? := fun k hk => Below.heap_alloc _ _ _ hk
  have hz3 : (W2.alloc (.cells #[.slice (some ⟨gr, 0, none⟩) 32 capr, .slice (some ⟨gq, 0, none⟩) 33 capq] 60)).heap.size = W2.heap.size + 1 := by simp
  generalize hW3 : W2.alloc (.cells #[.slice (some ⟨gr, 0, none⟩) 32 capr, .slice (some ⟨gq, 0, none⟩) 33 capq] 60) = W3 at *
  have O3 : Hid (Own W3 B 9 (.slice (some ⟨g, 0, none⟩) 64 cap) (ks.map Value.string)) := s3.own HO.out
  have OC3 : Hid (Own W3 B 25 (.slice (some ⟨gc, 0, none⟩) 65 capc) (ptrs bs)) := s3.own HOC.out
  have hb3 : W3.heap[b]? = some (.cells #[.slice (some ⟨g, 0, none⟩) 64 cap, .slice (some ⟨gc, 0, none⟩) 65 capc] 60 (0, 0)) := (Below.block s3 b hbw).trans HB.out
  have c0 := cell0 hb3
  have c1 := cell1 hb3
  have y31 : W3.cell? ⟨g, 31, none⟩ = some (.string (ks.getD 31 ⟨#[]⟩)) := (s3.cellEq hgw).trans x31
  obtain ⟨_, _, _, hgr, hgrW⟩ := own_slice o1
  obtain ⟨_, _, _, hgq, hgqW⟩ := own_slice o2
  have R3 : Hid (Own W3 B 9 (.slice (some ⟨gr, 0, none⟩) 32 capr) ((ks.map Value.string).drop 32)) :=
    own_kept (own_up (Since.own k2.out o1) B hB rfl) (fun x hx => by rw [ownBlock_slice hx]; exact hk3 gr (by omega))
  have Q3 : Hid (Own W3 B 25 (.slice (some ⟨gq, 0, none⟩) 33 capq) ((ptrs bs).drop 32)) :=
    own_kept (own_up o2 B (by omega) rfl) (fun x hx => by rw [ownBlock_slice hx]; exact hk3 gq (by omega))
  have HB3 : Hid _ := hb3
  have HR3 : Hid _ := hr3
  have HS3 : Hid (Since w W3) := s3
  have hgr' : w.heap.size ≤ gr := hgr
  clear hb3 hr3 s3 hk3 hW3 o1 o2 p1 p2 p3 p4 s1 s2 k1 k2 x31 h0 h1 hS hgr
  go_wp2_with fail
  go_region_with (first
    | (go_at_call 49; refine (trS_mid B g cap b gc capc _ _ _ _ _ (by exact O3.out) (by exact OC3.out) (by exact HB3.out) hbg hgc).mono ?_; rintro e W4 ⟨rfl, t1, t2, t3, t4, t5, t6, t7, t8⟩)
    | (go_at_call 51; refine (trP_mid B g cap b gc capc _ _ _ _ _ (by exact t1.out) (by exact t2.out) (by exact t3.out) hbc hgc).mono ?_; rintro e W5 ⟨rfl, u1, u2, u3, u4, u5, u6, u7, u8⟩))
  all_goals
    go_wp2
    go_ret2
    exact ⟨W2.heap.size, _, _, by rw [List.getD_eq_getElem?_getD]; rfl, split_fin B b g cap gc capc gr capr gq capq W2.heap.size ks bs w W3 W4 W5 _ _ hbg hbc hbw hgw hgcw HS3.out HR3.out R3.out Q3.out hz2 hgr' (by omega) hgqW (grown_trans (grown_drew _ _) t4.out) u1.out u2.out u3.out u4.out _ rfl⟩
end Go.Proofs.Qxb6603837a

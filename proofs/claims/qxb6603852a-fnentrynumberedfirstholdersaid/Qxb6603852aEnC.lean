/-
  What the row's reading says of the runs that came in.
-/
import Derived.Test.Qxb6603852aEn1
import Derived.ProofKit
import Derived.OpenShut
import Derived.Deep.SlicePairs
namespace Go.Proofs.Qxb6603852a
open Go.ChangeShapes Go.WideShapes Go.RowKit
set_option linter.unusedVariables false

section
variable {H : Type} {enc : TypeId × Value → H} {W : World} {base : Nat} {spare : Nat → Bool} {held : Bool} {fuel : Nat} {cs : List Value} {x : DataW H × List MemPlace}

theorem lies_mk {y : Addr} {l c : Nat} (hm : c ≤ maxLen) (hl : l ≤ c) (h : 0 < l → ∃ v, W.cell? y = some v) : Lies (· < W.heap.size) ⟨some y, l, c⟩ := by
  refine ⟨fun h0 => ⟨y, rfl, ?_⟩, ?_⟩
  · obtain ⟨v, hv⟩ := h h0
    exact World.block_lt_of_cell? _ _ hv
  · unfold maxLen at hm
    show l ≤ _
    omega

theorem lies_nil : Lies (· < W.heap.size) ⟨none, 0, 0⟩ := ⟨fun h => absurd h (Nat.lt_irrefl 0), Nat.zero_le _⟩

theorem add_z (y : Addr) : y.add 0 = y := by
  unfold Addr.add
  simp

theorem add_s (p : Addr) (t : Nat) : p.add (t + 1) = ⟨p.block, p.off + (t + 1), none⟩ := by
  unfold Addr.add
  simp

theorem read32 (h : DataW.trod enc Try.prog W base spare held fuel 32 cs = some x) : ∃ s : Sl, cs = [.slice s.a s.n s.c] ∧ BytesAt W (· < W.heap.size) s := by
  rcases Go.Deep.open_slice1 Try.underlying32 (by kernel_rfl) h with ⟨rfl, _⟩ | ⟨y, l, c, m, n, V, D, Pl, rfl, _, hl, hm, hmm, _, hx⟩
  · exact ⟨⟨none, 0, 0⟩, rfl, lies_nil, fun y hy => by cases hy⟩
  · have hlm : l ≤ m := by rw [hmm]; split <;> omega
    refine ⟨⟨some y, l, c⟩, rfl, lies_mk hm hl (fun h0 => ⟨V 0, by have := (hx 0 (by omega)).1; rwa [add_z] at this⟩), fun y' hy j hj => ?_⟩
    cases hy
    have hj' : j < l := hj
    obtain ⟨c1, t1⟩ := hx j (by omega)
    obtain ⟨z, e, _⟩ := DataW.trod_int Try.underlying5 t1
    simp only [List.cons.injEq, and_true] at e
    exact ⟨z, by rw [c1, e]⟩

theorem read44 (h : DataW.trod enc Try.prog W base spare held fuel 44 cs = some x) : ∃ s : Sl, cs = [.slice s.a s.n s.c] ∧ OffsAt W (· < W.heap.size) s := by
  rcases Go.Deep.open_slice1 Try.underlying44 (by kernel_rfl) h with ⟨rfl, _⟩ | ⟨y, l, c, m, n, V, D, Pl, rfl, _, hl, hm, hmm, _, hx⟩
  · exact ⟨⟨none, 0, 0⟩, rfl, lies_nil, fun y hy => by cases hy⟩
  · have hlm : l ≤ m := by rw [hmm]; split <;> omega
    refine ⟨⟨some y, l, c⟩, rfl, lies_mk hm hl (fun h0 => ⟨V 0, by have := (hx 0 (by omega)).1; rwa [add_z] at this⟩), fun y' hy j hj => ?_⟩
    cases hy
    have hj' : j < l := hj
    obtain ⟨c1, t1⟩ := hx j (by omega)
    obtain ⟨z, e, _, hw⟩ := DataW.trod_int Try.underlying2 t1
    simp only [List.cons.injEq, and_true] at e
    exact ⟨z, by rw [c1, e], hw⟩

theorem choose_below {α : Type} (d : α) {m : Nat} {p : Nat → α → Prop} (h : ∀ i, i < m → ∃ v, p i v) : ∃ f : Nat → α, ∀ i, i < m → p i (f i) := by
  have h2 : ∀ i, ∃ v, i < m → p i v := fun i => by
    by_cases hi : i < m
    · obtain ⟨v, hv⟩ := h i hi
      exact ⟨v, fun _ => hv⟩
    · exact ⟨d, fun h => absurd h hi⟩
  obtain ⟨f, hf⟩ := Classical.skolem.1 h2
  exact ⟨f, hf⟩

theorem read45 (h : DataW.trod enc Try.prog W base spare held fuel 45 cs = some x) : ∃ (s : Sl) (pg : Nat → Sl), cs = [.slice s.a s.n s.c] ∧ PagesAt W (· < W.heap.size) s pg := by
  rcases Go.Deep.open_slice1 Try.underlying45 (by kernel_rfl) h with ⟨rfl, _⟩ | ⟨y, l, c, m, n, V, D, Pl, rfl, _, hl, hm, hmm, _, hx⟩
  · exact ⟨⟨none, 0, 0⟩, fun _ => ⟨none, 0, 0⟩, rfl, lies_nil, fun j hj => absurd hj (Nat.not_lt_zero _)⟩
  · have hlm : l ≤ m := by rw [hmm]; split <;> omega
    obtain ⟨pg, hpg⟩ := choose_below (m := m) (⟨none, 0, 0⟩ : Sl) (p := fun i s => W.cell? (y.add i) = some (.slice s.a s.n s.c) ∧ BytesAt W (· < W.heap.size) s) (fun i hi => by
      obtain ⟨c1, t1⟩ := hx i hi
      obtain ⟨s, e, hs⟩ := read32 t1
      simp only [List.cons.injEq, and_true] at e
      exact ⟨s, by rw [c1, e], hs⟩)
    refine ⟨⟨some y, l, c⟩, pg, rfl, lies_mk hm hl (fun h0 => ⟨V 0, by have := (hx 0 (by omega)).1; rwa [add_z] at this⟩), fun j hj => ?_⟩
    have hj' : j < l := hj
    exact ⟨fun y' hy => by cases hy; exact (hpg j (by omega)).1, (hpg j (by omega)).2⟩

theorem c47 : Try.prog.cellsOf 47 = 3 := by kernel_rfl
theorem c35 : Try.prog.cellsOf 35 = 5 := by kernel_rfl
theorem c36 : Try.prog.cellsOf 36 = 1 := by kernel_rfl
theorem c44 : Try.prog.cellsOf 44 = 1 := by kernel_rfl
theorem c45 : Try.prog.cellsOf 45 = 1 := by kernel_rfl
theorem c9 : Try.prog.cellsOf 9 = 1 := by kernel_rfl
theorem c32 : Try.prog.cellsOf 32 = 1 := by kernel_rfl
theorem c23 : Try.prog.cellsOf 23 = 1 := by kernel_rfl
theorem c33 : Try.prog.cellsOf 33 = 1 := by kernel_rfl

theorem some_of {α : Type} {o : Option α} {l : List α} {i : Nat} (h : o = l[i]?) (hi : i < l.length) : ∃ v, o = some v := ⟨l[i], by rw [h, List.getElem?_eq_getElem hi]⟩

theorem read47 {p : Addr} (hc : W.cells? base p 3 = some cs) (h : DataW.trod enc Try.prog W base spare held fuel 47 cs = some x) : ∃ e : Ent, EntAt W (· < W.heap.size) e p ∧ EntIn W (· < W.heap.size) e := by
  obtain ⟨_, hlen, hcell⟩ := World.cells?_some hc
  obtain ⟨xs, k, rfl, _, _, hxl, hf⟩ := DataW.trod_struct Try.underlying47 h
  match cs, hlen with
  | [v0, v1, v2], _ =>
    have g0 := hf 0 _ rfl
    have g1 := hf 1 _ rfl
    have g2 := hf 2 _ rfl
    simp [c36, c44, c45] at g0 g1 g2
    have hl3 : xs.length = 3 := hxl
    obtain ⟨z0, g0⟩ := some_of g0 (by omega)
    obtain ⟨z1, g1⟩ := some_of g1 (by omega)
    obtain ⟨z2, g2⟩ := some_of g2 (by omega)
    obtain ⟨d, e0, _⟩ := DataW.trod_int Try.underlying36 g0
    obtain ⟨o, e1, ho⟩ := read44 g1
    obtain ⟨s, pg, e2, hp⟩ := read45 g2
    simp only [List.cons.injEq, and_true] at e0 e1 e2
    subst e0 e1 e2
    have q0 := hcell 0 (by omega)
    have q1 := hcell 1 (by omega)
    have q2 := hcell 2 (by omega)
    rw [add_z] at q0
    rw [add_s] at q1 q2
    exact ⟨⟨d, o, s, pg⟩, ⟨q0, q1, q2⟩, ho, hp⟩

theorem read33 (h : DataW.trod enc Try.prog W base spare held fuel 33 cs = some x) : ∃ (s : Sl) (e : Nat → Ent), cs = [.slice s.a s.n s.c] ∧ EntsAt W (· < W.heap.size) s e := by
  rcases Go.Deep.open_slice Try.underlying33 h with ⟨rfl, _⟩ | ⟨y, l, c, m, n, D, Pl, rfl, _, hl, hm, hmm, _, hx⟩
  · exact ⟨⟨none, 0, 0⟩, fun _ => ⟨0, ⟨none, 0, 0⟩, ⟨none, 0, 0⟩, fun _ => ⟨none, 0, 0⟩⟩, rfl, lies_nil, fun j hj => absurd hj (Nat.not_lt_zero _)⟩
  · have hlm : l ≤ m := by rw [hmm]; split <;> omega
    rw [c47] at hx
    obtain ⟨e, he⟩ := choose_below (m := m) (⟨0, ⟨none, 0, 0⟩, ⟨none, 0, 0⟩, fun _ => ⟨none, 0, 0⟩⟩ : Ent) (p := fun i e => EntAt W (· < W.heap.size) e (y.add (i * 3)) ∧ EntIn W (· < W.heap.size) e) (fun i hi => by
      obtain ⟨cs', c1, t1⟩ := hx i hi
      exact read47 c1 t1)
    refine ⟨⟨some y, l, c⟩, e, rfl, lies_mk hm hl (fun h0 => ⟨_, by have := (he 0 (by omega)).1.1; rwa [Nat.zero_mul, add_z] at this⟩), fun j hj => ?_⟩
    have hj' : j < l := hj
    exact ⟨fun y' hy => by cases hy; exact (he j (by omega)).1, (he j (by omega)).2⟩

theorem read35 {p : Addr} (hc : W.cells? base p 5 = some cs) (h : DataW.trod enc Try.prog W base spare held fuel 35 cs = some x) : ∃ r : Rn, RnAt W (· < W.heap.size) r p ∧ RnIn W (· < W.heap.size) r := by
  obtain ⟨_, hlen, hcell⟩ := World.cells?_some hc
  obtain ⟨xs, k, rfl, _, _, hxl, hf⟩ := DataW.trod_struct Try.underlying35 h
  match cs, hlen with
  | [v0, v1, v2, v3, v4], _ =>
    have g0 := hf 0 _ rfl
    have g1 := hf 1 _ rfl
    have g2 := hf 2 _ rfl
    have g3 := hf 3 _ rfl
    have g4 := hf 4 _ rfl
    simp [c9, c32, c23, c33] at g0 g1 g2 g3 g4
    have hl5 : xs.length = 5 := hxl
    obtain ⟨z0, g0⟩ := some_of g0 (by omega)
    obtain ⟨z1, g1⟩ := some_of g1 (by omega)
    obtain ⟨z2, g2⟩ := some_of g2 (by omega)
    obtain ⟨z3, g3⟩ := some_of g3 (by omega)
    obtain ⟨z4, g4⟩ := some_of g4 (by omega)
    obtain ⟨nm, e0, _, hnm⟩ := DataW.trod_string Try.underlying9 g0
    obtain ⟨hd, e1, hh⟩ := read32 g1
    obtain ⟨f, e2, _, hf2⟩ := DataW.trod_int Try.underlying23 g2
    obtain ⟨s, e, e3, hs⟩ := read33 g3
    obtain ⟨en, e4, _, hen⟩ := DataW.trod_string Try.underlying9 g4
    simp only [List.cons.injEq, and_true] at e0 e1 e2 e3 e4
    subst e0 e1 e2 e3 e4
    have q0 := hcell 0 (by omega)
    have q1 := hcell 1 (by omega)
    have q2 := hcell 2 (by omega)
    have q3 := hcell 3 (by omega)
    have q4 := hcell 4 (by omega)
    rw [add_z] at q0
    rw [add_s] at q1 q2 q3 q4
    have hfr : 0 ≤ f ∧ f < 18446744073709551616 := by
      simp [Lit.wf] at hf2
      have m1 : IntKind.u64.min = 0 := by decide
      have m2 : IntKind.u64.max = 18446744073709551615 := by decide
      omega
    unfold maxLen at hnm hen
    exact ⟨⟨nm, hd, f, s, e, en⟩, ⟨q0, q1, q2, q3, q4⟩, hh, hs, hfr, by show nm.size ≤ _; omega, by show en.size ≤ _; omega⟩

theorem read22 (h : DataW.trod enc Try.prog W base spare held fuel 22 cs = some x) : ∃ (s : Sl) (r : Nat → Rn), cs = [.slice s.a s.n s.c] ∧ RunsAt W (· < W.heap.size) s r := by
  rcases Go.Deep.open_slice Try.underlying22 h with ⟨rfl, _⟩ | ⟨y, l, c, m, n, D, Pl, rfl, _, hl, hm, hmm, _, hx⟩
  · exact ⟨⟨none, 0, 0⟩, fun _ => ⟨ByteArray.empty, ⟨none, 0, 0⟩, 0, ⟨none, 0, 0⟩, fun _ => ⟨0, ⟨none, 0, 0⟩, ⟨none, 0, 0⟩, fun _ => ⟨none, 0, 0⟩⟩, ByteArray.empty⟩, rfl, lies_nil, fun j hj => absurd hj (Nat.not_lt_zero _)⟩
  · have hlm : l ≤ m := by rw [hmm]; split <;> omega
    rw [c35] at hx
    obtain ⟨r, hr⟩ := choose_below (m := m) (⟨ByteArray.empty, ⟨none, 0, 0⟩, 0, ⟨none, 0, 0⟩, fun _ => ⟨0, ⟨none, 0, 0⟩, ⟨none, 0, 0⟩, fun _ => ⟨none, 0, 0⟩⟩, ByteArray.empty⟩ : Rn) (p := fun i r => RnAt W (· < W.heap.size) r (y.add (i * 5)) ∧ RnIn W (· < W.heap.size) r) (fun i hi => by
      obtain ⟨cs', c1, t1⟩ := hx i hi
      exact read35 c1 t1)
    refine ⟨⟨some y, l, c⟩, r, rfl, lies_mk hm hl (fun h0 => ⟨_, by have := (hr 0 (by omega)).1.1; rwa [Nat.zero_mul, add_z] at this⟩), fun j hj => ?_⟩
    have hj' : j < l := hj
    exact ⟨fun y' hy => by cases hy; exact (hr j (by omega)).1, (hr j (by omega)).2⟩
end
end Go.Proofs.Qxb6603852a

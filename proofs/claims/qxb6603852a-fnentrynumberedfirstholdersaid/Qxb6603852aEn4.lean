/-
  Rows of the call's own, filled element by element; what they hold in the end.
-/
import Derived.Test.Qxb6603852aEn1
namespace Go.Proofs.Qxb6603852a
open Go.RowKit
set_option linter.unusedVariables false

/-- A kind of element: its cells, and when what it leads to is good. -/
structure Kd (α : Type) where
  T : TypeId
  size : Nat
  cells : α → List Value
  good : World → (Nat → Prop) → α → Prop
  len : ∀ x, (cells x).length = size
  same : ∀ {w w' : World} {ok ok' : Nat → Prop} {x : α}, good w ok x → (∀ k, ok k → w'.heap[k]? = w.heap[k]?) → (∀ k, ok k → ok' k) → good w' ok' x

def Filled {α : Type} (K : Kd α) (w : World) (g n j : Nat) (f : Nat → α) : Prop :=
  ∃ cur : Array Value, w.heap[g]? = some (.cells cur K.T (0, 0)) ∧ cur.size = n * K.size ∧ ∀ i, i < j → (∀ t v, (K.cells (f i))[t]? = some v → cur[i * K.size + t]? = some v) ∧ K.good w (fun b => g < b ∧ b < w.heap.size) (f i)

section
variable {α : Type} {K : Kd α} {w W : World} {g n j : Nat} {f : Nat → α}

theorem Filled.lt (h : Filled K w g n j f) : g < w.heap.size := by
  obtain ⟨cur, h1, _⟩ := h
  exact lt_of_heap h1

theorem idx_lt {i n size t : Nat} (hi : i < n) (ht : t < size) : i * size + t < n * size := by
  have := Nat.mul_le_mul_right size (show i + 1 ≤ n by omega)
  rw [Nat.add_mul] at this
  omega

theorem Filled.cell (h : Filled K w g n j f) (ht : Below w.heap.size w W) {i t : Nat} (hi : i < n) (hs : t < K.size) : ∃ v, W.cell? ⟨g, i * K.size + t, none⟩ = some v ∧ W.frozen? ⟨g, i * K.size + t, none⟩ = false := by
  have hlt := h.lt
  obtain ⟨cur, h1, h2, _⟩ := h
  have h1' : W.heap[g]? = some (.cells cur K.T (0, 0)) := (ht.block g hlt).trans h1
  have hl : i * K.size + t < cur.size := by rw [h2]; exact idx_lt hi hs
  refine ⟨cur[i * K.size + t], ?_, frozen_heap h1' _⟩
  rw [cell_heap h1', Array.getElem?_eq_getElem hl]

theorem Filled.step (h : Filled K w g n j f) (hj : j < n) (ht : Below w.heap.size w W) (x : α) (hx : K.good W (fun b => g < b ∧ b < W.heap.size) x) : Filled K (W.setCells g (j * K.size) (K.cells x)) g n (j + 1) (fun i => if i = j then x else f i) := by
  have hlt := h.lt
  obtain ⟨cur, h1, h2, h3⟩ := h
  have h1' : W.heap[g]? = some (.cells cur K.T (0, 0)) := (ht.block g hlt).trans h1
  obtain ⟨cur', c1, c2, c3⟩ := heap_setCells (K.cells x) (j * K.size) W cur h1'
  have hsz := size_setCells g (K.cells x) (j * K.size) W
  refine ⟨cur', c1, by rw [c2, h2], fun i hi => ?_⟩
  rw [hsz]
  by_cases e : i = j
  · subst e
    simp only [↓reduceIte]
    refine ⟨fun t v hv => ?_, K.same hx (fun k hk => other_setCells g _ _ W k (by omega)) (fun k hk => hk)⟩
    have htl := (List.getElem?_eq_some_iff.1 hv).1
    have htl' : t < K.size := by rw [K.len] at htl; exact htl
    have hb := idx_lt hj htl'
    rw [c3, if_pos ⟨by omega, by omega, by omega⟩, ← hv]
    congr 1
    omega
  · simp only [if_neg e]
    obtain ⟨p1, p2⟩ := h3 i (by omega)
    refine ⟨fun t v hv => ?_, K.same p2 (fun k hk => (other_setCells g _ _ W k (by omega)).trans (ht.block k hk.2)) (fun k hk => ⟨hk.1, by have := ht.size; omega⟩)⟩
    have htl := (List.getElem?_eq_some_iff.1 hv).1
    have htl' : t < K.size := by rw [K.len] at htl; exact htl
    have hb := idx_lt (show i < j by omega) htl'
    rw [c3, if_neg (by omega)]
    exact p1 t v hv

theorem Filled.start {Z : Array Value} (hZ : Z.size = n * K.size) (f : Nat → α) : Filled K (w.alloc (.cells Z K.T)) w.heap.size n 0 f :=
  ⟨Z, heap_alloc_new w _, hZ, fun i hi => by omega⟩

theorem Filled.kept (h : Filled K w g n j f) (ht : Below w.heap.size w W) : Filled K W g n j f := by
  have hlt := h.lt
  obtain ⟨cur, h1, h2, h3⟩ := h
  exact ⟨cur, (ht.block g hlt).trans h1, h2, fun i hi => ⟨(h3 i hi).1, K.same (h3 i hi).2 (fun k hk => ht.block k hk.2) (fun k hk => ⟨hk.1, by have := ht.size; omega⟩)⟩⟩

theorem Filled.at (h : Filled K w g n n f) {i : Nat} (hi : i < n) : (∀ t v, (K.cells (f i))[t]? = some v → w.cell? ⟨g, i * K.size + t, none⟩ = some v) ∧ K.good w (fun b => g < b ∧ b < w.heap.size) (f i) := by
  obtain ⟨cur, h1, h2, h3⟩ := h
  refine ⟨fun t v hv => ?_, (h3 i hi).2⟩
  rw [cell_heap h1]
  exact (h3 i hi).1 t v hv
end

def kP : Kd Sl where
  T := 32
  size := 1
  cells s := [.slice s.a s.n s.c]
  good w ok s := BytesAt w ok s ∧ s.n ≤ 1048576
  len _ := rfl
  same h hs hm := ⟨h.1.same hs hm, h.2⟩

def kE : Kd Ent where
  T := 47
  size := 3
  cells e := [.int .u32 e.d, .slice e.o.a e.o.n e.o.c, .slice e.p.a e.p.n e.p.c]
  good w ok e := EntIn w ok e ∧ EntFit e
  len _ := rfl
  same h hs hm := ⟨h.1.same hs hm, h.2⟩

def kR : Kd Rn where
  T := 35
  size := 5
  cells r := [.string r.nm, .slice r.h.a r.h.n r.h.c, .int .u64 r.f, .slice r.s.a r.s.n r.s.c, .string r.en]
  good w ok r := RnIn w ok r ∧ RnFit r
  len _ := rfl
  same h hs hm := ⟨h.1.same hs hm, h.2⟩

theorem pages_done {w : World} {P n : Nat} {pg : Nat → Sl} (h : Filled kP w P n n pg) (hn : n ≤ 1048576) : PagesAt w (fun b => P ≤ b ∧ b < w.heap.size) ⟨some ⟨P, 0, none⟩, n, n⟩ pg ∧ ∀ k, k < n → (pg k).n ≤ 1048576 := by
  refine ⟨⟨⟨fun _ => ⟨_, rfl, Nat.le_refl _, h.lt⟩, by show n ≤ _; omega⟩, fun j hj => ⟨fun y hy => ?_, (h.at hj).2.1.same (fun k hk => rfl) (fun k hk => ⟨by omega, hk.2⟩)⟩⟩, fun k hk => (h.at hk).2.2⟩
  cases hy
  rw [add_zero_off]
  have := (h.at hj).1 0 _ rfl
  have e : kP.size = 1 := rfl
  rw [e, Nat.mul_one] at this
  exact this

theorem ents_done {w : World} {P n : Nat} {e : Nat → Ent} (h : Filled kE w P n n e) (hn : n ≤ 1048576) : EntsAt w (fun b => P ≤ b ∧ b < w.heap.size) ⟨some ⟨P, 0, none⟩, n, n⟩ e ∧ ∀ k, k < n → EntFit (e k) := by
  refine ⟨⟨⟨fun _ => ⟨_, rfl, Nat.le_refl _, h.lt⟩, by show n ≤ _; omega⟩, fun j hj => ⟨fun y hy => ?_, (h.at hj).2.1.same (fun k hk => rfl) (fun k hk => ⟨by omega, hk.2⟩)⟩⟩, fun k hk => (h.at hk).2.2⟩
  cases hy
  rw [add_zero_off]
  exact ⟨(h.at hj).1 0 _ rfl, (h.at hj).1 1 _ rfl, (h.at hj).1 2 _ rfl⟩

theorem runs_done {w : World} {P n : Nat} {r : Nat → Rn} (h : Filled kR w P n n r) (hn : n ≤ 1048576) : RunsAt w (fun b => P ≤ b ∧ b < w.heap.size) ⟨some ⟨P, 0, none⟩, n, n⟩ r ∧ RunsFit ⟨some ⟨P, 0, none⟩, n, n⟩ r := by
  refine ⟨⟨⟨fun _ => ⟨_, rfl, Nat.le_refl _, h.lt⟩, by show n ≤ _; omega⟩, fun j hj => ⟨fun y hy => ?_, (h.at hj).2.1.same (fun k hk => rfl) (fun k hk => ⟨by omega, hk.2⟩)⟩⟩, hn, fun k hk => (h.at hk).2.2⟩
  cases hy
  rw [add_zero_off]
  exact ⟨(h.at hj).1 0 _ rfl, (h.at hj).1 1 _ rfl, (h.at hj).1 2 _ rfl, (h.at hj).1 3 _ rfl, (h.at hj).1 4 _ rfl⟩

/-- The same memory, but for the draws. -/
def SameMem (w0 w : World) : Prop := w.heap = w0.heap ∧ w.os = w0.os ∧ w.tape = w0.tape ∧ w.output = w0.output

theorem SameMem.below {w0 w w' : World} (h : SameMem w0 w) (hb : Below w.heap.size w w') : Below w0.heap.size w0 w' := by
  obtain ⟨h1, h2, h3, h4⟩ := h
  refine ⟨hb.os.trans h2, hb.tape.trans h3, hb.output.trans h4, by rw [← h1]; exact hb.size, fun k hk => ?_⟩
  rw [← h1]
  exact hb.block k (by rw [h1]; exact hk)

theorem clone22d (s : Sl) (w0 w : World) (hw : SameMem w0 w) (H : Hid (BytesAt w0 (· < w0.heap.size) s)) (hn : s.n ≤ 1048576) : Calls Try.prog 22 #[.slice s.a s.n s.c] w (ClonedB w0) := by
  refine (clone22 s w (H.out.same (fun k _ => by rw [hw.1]) (fun k hk => by rw [hw.1]; exact hk)) hn).mono ?_
  rintro e w' ⟨s', h1, h2, h3, h4⟩
  exact ⟨s', h1, h2, h3.same (fun _ _ => rfl) (fun k hk => ⟨by rw [← hw.1]; exact hk.1, hk.2⟩), hw.below h4⟩

theorem clone23d (s : Sl) (w0 w : World) (hw : SameMem w0 w) (H : Hid (OffsAt w0 (· < w0.heap.size) s)) (hn : s.n ≤ 1048576) : Calls Try.prog 23 #[.slice s.a s.n s.c] w (ClonedO w0) := by
  refine (clone23 s w (H.out.same (fun k _ => by rw [hw.1]) (fun k hk => by rw [hw.1]; exact hk)) hn).mono ?_
  rintro e w' ⟨s', h1, h2, h3, h4⟩
  exact ⟨s', h1, h2, h3.same (fun _ _ => rfl) (fun k hk => ⟨by rw [← hw.1]; exact hk.1, hk.2⟩), hw.below h4⟩

theorem info32 : (Try.prog.info? 32).map (fun i => (i.zero, i.size, i.bytes)) = some (some (.slice none 0 0), 1, 24) := by kernel_rfl
theorem info47 : (Try.prog.info? 47).map (fun i => (i.zero, i.size, i.bytes)) = some (some (.agg #[.int .u32 0, .slice none 0 0, .slice none 0 0]), 3, 56) := by kernel_rfl
theorem info35 : (Try.prog.info? 35).map (fun i => (i.zero, i.size, i.bytes)) = some (some (.agg #[.string ByteArray.empty, .slice none 0 0, .int .u64 0, .slice none 0 0, .string ByteArray.empty]), 5, 88) := by kernel_rfl
end Go.Proofs.Qxb6603852a

/-
  Runs of log entries, as they lie in memory; the copies of bytes and offsets.
-/
import Derived.Test.Qxb6603852aKi1
import Derived.Test.Qxb6603852aHeap
import Derived.Laws.Cover3
namespace Go.Proofs.Qxb6603852a
open Go.RowKit
set_option linter.unusedVariables false

@[go_sem] theorem run_eql_slice_none {P : Program} (w : World) (t e : TypeId) (a : Option Addr) (l c : Nat) (h : P.underlying t = some (.slice e)) : (binOp .eql t (.slice a l c) (.slice none 0 0)).run P w = .ok (.bool a.isNone) w := by
  simp only [binOp]
  simp [run_equal_slice_nil w t e a l c h]

/-- A slice: where it begins, its length, its room. -/
structure Sl where
  a : Option Addr
  n : Nat
  c : Nat

/-- A slice that holds something lies in a block of which ok speaks. -/
def Lies (ok : Nat → Prop) (s : Sl) : Prop := (0 < s.n → ∃ y, s.a = some y ∧ ok y.block) ∧ s.n ≤ 9223372036854775807

theorem Lies.mono {ok ok' : Nat → Prop} {s : Sl} (h : Lies ok s) (hm : ∀ k, ok k → ok' k) : Lies ok' s := ⟨fun h0 => by obtain ⟨y, h1, h2⟩ := h.1 h0; exact ⟨y, h1, hm _ h2⟩, h.2⟩

theorem Lies.at {ok : Nat → Prop} {s : Sl} (h : Lies ok s) {y : Addr} (hy : s.a = some y) {j : Nat} (hj : j < s.n) : ok y.block := by
  obtain ⟨z, h1, h2⟩ := h.1 (by omega)
  rw [hy] at h1
  cases h1
  exact h2

theorem add_blk (x : Addr) (i : Nat) : (x.add i).block = x.block := by
  unfold Addr.add
  split <;> rfl

def BytesAt (w : World) (ok : Nat → Prop) (s : Sl) : Prop := Lies ok s ∧ ∀ y, s.a = some y → ∀ j, j < s.n → ∃ z, w.cell? (y.add j) = some (.int .u8 z)
def OffsAt (w : World) (ok : Nat → Prop) (s : Sl) : Prop := Lies ok s ∧ ∀ y, s.a = some y → ∀ j, j < s.n → ∃ z, w.cell? (y.add j) = some (.int .i64 z) ∧ (Lit.int .i64 z).wf = true
def PagesAt (w : World) (ok : Nat → Prop) (s : Sl) (pg : Nat → Sl) : Prop := Lies ok s ∧ ∀ j, j < s.n → (∀ y, s.a = some y → w.cell? (y.add j) = some (.slice (pg j).a (pg j).n (pg j).c)) ∧ BytesAt w ok (pg j)

/-- One entry: its size, its offsets, its pages. -/
structure Ent where
  d : Int
  o : Sl
  p : Sl
  pg : Nat → Sl

def EntAt (w : World) (ok : Nat → Prop) (e : Ent) (x : Addr) : Prop :=
  w.cell? x = some (.int .u32 e.d) ∧ w.cell? ⟨x.block, x.off + 1, none⟩ = some (.slice e.o.a e.o.n e.o.c) ∧ w.cell? ⟨x.block, x.off + 2, none⟩ = some (.slice e.p.a e.p.n e.p.c)
def EntIn (w : World) (ok : Nat → Prop) (e : Ent) : Prop := OffsAt w ok e.o ∧ PagesAt w ok e.p e.pg
def EntsAt (w : World) (ok : Nat → Prop) (s : Sl) (e : Nat → Ent) : Prop := Lies ok s ∧ ∀ j, j < s.n → (∀ y, s.a = some y → EntAt w ok (e j) (y.add (j * 3))) ∧ EntIn w ok (e j)

/-- One run. -/
structure Rn where
  nm : ByteArray
  h : Sl
  f : Int
  s : Sl
  e : Nat → Ent
  en : ByteArray

def RnAt (w : World) (ok : Nat → Prop) (r : Rn) (x : Addr) : Prop :=
  w.cell? x = some (.string r.nm) ∧ w.cell? ⟨x.block, x.off + 1, none⟩ = some (.slice r.h.a r.h.n r.h.c) ∧ w.cell? ⟨x.block, x.off + 2, none⟩ = some (.int .u64 r.f) ∧ w.cell? ⟨x.block, x.off + 3, none⟩ = some (.slice r.s.a r.s.n r.s.c) ∧ w.cell? ⟨x.block, x.off + 4, none⟩ = some (.string r.en)
def RnIn (w : World) (ok : Nat → Prop) (r : Rn) : Prop := BytesAt w ok r.h ∧ EntsAt w ok r.s r.e ∧ (0 ≤ r.f ∧ r.f < 18446744073709551616) ∧ r.nm.size ≤ 9223372036854775807 ∧ r.en.size ≤ 9223372036854775807
def RunsAt (w : World) (ok : Nat → Prop) (s : Sl) (r : Nat → Rn) : Prop := Lies ok s ∧ ∀ i, i < s.n → (∀ y, s.a = some y → RnAt w ok (r i) (y.add (i * 5))) ∧ RnIn w ok (r i)

section
variable {w w' : World} {ok ok' : Nat → Prop}

theorem cellSame (hs : ∀ k, ok k → w'.heap[k]? = w.heap[k]?) {p : Addr} (hp : ok p.block) : w'.cell? p = w.cell? p := World.cell?_of_block (w := w) (hs _ hp)

theorem BytesAt.same {s : Sl} (h : BytesAt w ok s) (hs : ∀ k, ok k → w'.heap[k]? = w.heap[k]?) (hm : ∀ k, ok k → ok' k) : BytesAt w' ok' s :=
  ⟨h.1.mono hm, fun y hy j hj => by obtain ⟨z, hz⟩ := h.2 y hy j hj; exact ⟨z, (cellSame hs (by rw [add_blk]; exact h.1.at hy hj)).trans hz⟩⟩
theorem OffsAt.same {s : Sl} (h : OffsAt w ok s) (hs : ∀ k, ok k → w'.heap[k]? = w.heap[k]?) (hm : ∀ k, ok k → ok' k) : OffsAt w' ok' s :=
  ⟨h.1.mono hm, fun y hy j hj => by obtain ⟨z, hz, hw⟩ := h.2 y hy j hj; exact ⟨z, (cellSame hs (by rw [add_blk]; exact h.1.at hy hj)).trans hz, hw⟩⟩
theorem PagesAt.same {s : Sl} {pg : Nat → Sl} (h : PagesAt w ok s pg) (hs : ∀ k, ok k → w'.heap[k]? = w.heap[k]?) (hm : ∀ k, ok k → ok' k) : PagesAt w' ok' s pg :=
  ⟨h.1.mono hm, fun j hj => ⟨fun y hy => (cellSame hs (by rw [add_blk]; exact h.1.at hy hj)).trans ((h.2 j hj).1 y hy), (h.2 j hj).2.same hs hm⟩⟩
theorem EntAt.same {e : Ent} {x : Addr} (h : EntAt w ok e x) (hs : ∀ k, ok k → w'.heap[k]? = w.heap[k]?) (hx : ok x.block) : EntAt w' ok' e x :=
  ⟨(cellSame hs hx).trans h.1, (cellSame hs (by exact hx)).trans h.2.1, (cellSame hs (by exact hx)).trans h.2.2⟩
theorem EntIn.same {e : Ent} (h : EntIn w ok e) (hs : ∀ k, ok k → w'.heap[k]? = w.heap[k]?) (hm : ∀ k, ok k → ok' k) : EntIn w' ok' e := ⟨h.1.same hs hm, h.2.same hs hm⟩
theorem EntsAt.same {s : Sl} {e : Nat → Ent} (h : EntsAt w ok s e) (hs : ∀ k, ok k → w'.heap[k]? = w.heap[k]?) (hm : ∀ k, ok k → ok' k) : EntsAt w' ok' s e :=
  ⟨h.1.mono hm, fun j hj => ⟨fun y hy => ((h.2 j hj).1 y hy).same hs (by rw [add_blk]; exact h.1.at hy hj), (h.2 j hj).2.same hs hm⟩⟩
theorem RnAt.same {r : Rn} {x : Addr} (h : RnAt w ok r x) (hs : ∀ k, ok k → w'.heap[k]? = w.heap[k]?) (hx : ok x.block) : RnAt w' ok' r x :=
  ⟨(cellSame hs hx).trans h.1, (cellSame hs (by exact hx)).trans h.2.1, (cellSame hs (by exact hx)).trans h.2.2.1, (cellSame hs (by exact hx)).trans h.2.2.2.1, (cellSame hs (by exact hx)).trans h.2.2.2.2⟩
theorem RnIn.same {r : Rn} (h : RnIn w ok r) (hs : ∀ k, ok k → w'.heap[k]? = w.heap[k]?) (hm : ∀ k, ok k → ok' k) : RnIn w' ok' r := ⟨h.1.same hs hm, h.2.1.same hs hm, h.2.2⟩
theorem RunsAt.same {s : Sl} {r : Nat → Rn} (h : RunsAt w ok s r) (hs : ∀ k, ok k → w'.heap[k]? = w.heap[k]?) (hm : ∀ k, ok k → ok' k) : RunsAt w' ok' s r :=
  ⟨h.1.mono hm, fun j hj => ⟨fun y hy => ((h.2 j hj).1 y hy).same hs (by rw [add_blk]; exact h.1.at hy hj), (h.2 j hj).2.same hs hm⟩⟩
end

/-- No length beyond the limit. -/
def EntFit (e : Ent) : Prop := e.o.n ≤ 1048576 ∧ e.p.n ≤ 1048576 ∧ ∀ k, k < e.p.n → (e.pg k).n ≤ 1048576
def RnFit (r : Rn) : Prop := r.nm.size ≤ 1048576 ∧ r.h.n ≤ 1048576 ∧ r.s.n ≤ 1048576 ∧ r.en.size ≤ 1048576 ∧ ∀ j, j < r.s.n → EntFit (r.e j)
def RunsFit (s : Sl) (r : Nat → Rn) : Prop := s.n ≤ 1048576 ∧ ∀ i, i < s.n → RnFit (r i)

/-- 'make' of n elements. -/
theorem mkZ (T E : TypeId) (z : Value) (size bytes : Nat) (hT : Try.prog.underlying T = some (.slice E)) (hI : (Try.prog.info? E).map (fun i => (i.zero, i.size, i.bytes)) = some (some z, size, bytes)) (n : Nat) (hn : n ≤ 1048576) (hb : bytes ≤ 1000) :
    ∃ Z : Array Value, (∀ w : World, (Instr.makeSlice T (.int .i64 (n : Int)) (.int .i64 (n : Int))).run Try.prog w = .ok (.slice (some ⟨w.heap.size, 0, none⟩) n n) (w.alloc (.cells Z E))) ∧ Z.size = n * size := by
  obtain ⟨i0, hi0, hz0, hzs, hzb⟩ := info_parts hI
  refine ⟨madeCells z.cells (n * size), fun w => ?_, size_madeCells _ _⟩
  have h1 : (bytes : Int) * n ≤ 1000 * 1048576 := by
    have : bytes * n ≤ 1000 * 1048576 := Nat.mul_le_mul hb hn
    have h2 : ((bytes * n : Nat) : Int) ≤ ((1000 * 1048576 : Nat) : Int) := Int.ofNat_le.2 this
    rw [Int.natCast_mul] at h2
    exact h2
  have := run_make (P := Try.prog) w T E i0 z hT hi0 hz0 .i64 .i64 (n : Int) (n : Int) (by omega) (by omega) (by rw [hzb]; omega) (by omega)
  rw [hzs] at this
  simpa using this

def New (w w' : World) (k : Nat) : Prop := w.heap.size ≤ k ∧ k < w'.heap.size
def ClonedB (w : World) (e : Ending) (w' : World) : Prop := ∃ s' : Sl, e = .returned (.slice s'.a s'.n s'.c) ∧ s'.n ≤ 1048576 ∧ BytesAt w' (New w w') s' ∧ Below w.heap.size w w'
def ClonedO (w : World) (e : Ending) (w' : World) : Prop := ∃ s' : Sl, e = .returned (.slice s'.a s'.n s'.c) ∧ s'.n ≤ 1048576 ∧ OffsAt w' (New w w') s' ∧ Below w.heap.size w w'

theorem info5 : (Try.prog.info? 5).map (fun i => (i.zero, i.size, i.bytes)) = some (some (.int .u8 0), 1, 1) := by kernel_rfl
theorem info2 : (Try.prog.info? 2).map (fun i => (i.zero, i.size, i.bytes)) = some (some (.int .i64 0), 1, 8) := by kernel_rfl

/-- A row of the call's own of which the first j cells are good. -/
def Half (w : World) (g : Nat) (T : TypeId) (n j : Nat) (Q : Value → Prop) : Prop := ∃ cur : Array Value, w.heap[g]? = some (.cells cur T (0, 0)) ∧ cur.size = n ∧ ∀ i, i < j → ∃ v, cur[i]? = some v ∧ Q v

theorem Half.at {w : World} {g n j : Nat} {T : TypeId} {Q : Value → Prop} (h : Half w g T n j Q) {i : Nat} (hi : i < n) : ∃ v, w.cell? ⟨g, i, none⟩ = some v ∧ w.frozen? ⟨g, i, none⟩ = false := by
  obtain ⟨cur, h1, h2, h3⟩ := h
  refine ⟨cur[i], ?_, frozen_heap h1 i⟩
  rw [cell_heap h1, Array.getElem?_eq_getElem]

theorem Half.step {w : World} {g n j : Nat} {T : TypeId} {Q : Value → Prop} (h : Half w g T n j Q) (hj : j < n) {v : Value} (hv : Q v) : Half (w.setCell ⟨g, j, none⟩ v) g T n (j + 1) Q := by
  obtain ⟨cur, h1, h2, h3⟩ := h
  refine ⟨_, heap_setCell_same h1, by simpa using h2, fun i hi => ?_⟩
  rw [Array.getElem?_setIfInBounds]
  by_cases e : j = i
  · subst e
    exact ⟨v, by rw [if_pos rfl, if_pos (by omega)], hv⟩
  · obtain ⟨u, hu⟩ := h3 i (by omega)
    exact ⟨u, by rw [if_neg e]; exact hu.1, hu.2⟩

theorem Half.lt {w : World} {g n j : Nat} {T : TypeId} {Q : Value → Prop} (h : Half w g T n j Q) : g < w.heap.size := by
  obtain ⟨cur, h1, _⟩ := h
  exact lt_of_heap h1

theorem add_zero_off (g j : Nat) : (⟨g, 0, none⟩ : Addr).add j = ⟨g, j, none⟩ := by
  unfold Addr.add
  by_cases h : j = 0
  · subst h; simp
  · simp [h]

theorem Half.bytes {w : World} {g n : Nat} {Q : Value → Prop} (h : Half w g 5 n n Q) (hQ : ∀ v, Q v → ∃ z, v = .int .u8 z) (hn : n ≤ 1048576) (ok : Nat → Prop) (hok : ok g) : BytesAt w ok ⟨some ⟨g, 0, none⟩, n, n⟩ := by
  obtain ⟨cur, h1, h2, h3⟩ := h
  refine ⟨⟨fun _ => ⟨_, rfl, hok⟩, by show n ≤ _; omega⟩, fun y hy j hj => ?_⟩
  cases hy
  obtain ⟨v, e1, e2⟩ := h3 j hj
  obtain ⟨z, rfl⟩ := hQ v e2
  exact ⟨z, by rw [add_zero_off, cell_heap h1, e1]⟩

theorem Half.offs {w : World} {g n : Nat} {Q : Value → Prop} (h : Half w g 2 n n Q) (hQ : ∀ v, Q v → ∃ z, v = .int .i64 z ∧ (Lit.int .i64 z).wf = true) (hn : n ≤ 1048576) (ok : Nat → Prop) (hok : ok g) : OffsAt w ok ⟨some ⟨g, 0, none⟩, n, n⟩ := by
  obtain ⟨cur, h1, h2, h3⟩ := h
  refine ⟨⟨fun _ => ⟨_, rfl, hok⟩, by show n ≤ _; omega⟩, fun y hy j hj => ?_⟩
  cases hy
  obtain ⟨v, e1, e2⟩ := h3 j hj
  obtain ⟨z, rfl, hz⟩ := hQ v e2
  exact ⟨z, by rw [add_zero_off, cell_heap h1, e1], hz⟩

def IsU8 (v : Value) : Prop := ∃ z, v = .int .u8 z
def IsI64 (v : Value) : Prop := ∃ z, v = .int .i64 z ∧ (Lit.int .i64 z).wf = true

set_option maxHeartbeats 1000000 in
set_option maxRecDepth 100000 in
theorem clone22 (s : Sl) (w : World) (H : Hid (BytesAt w (· < w.heap.size) s)) (hn : s.n ≤ 1048576) : Calls Try.prog 22 #[.slice s.a s.n s.c] w (ClonedB w) := by
  obtain ⟨a, n, c⟩ := s
  cases a with
  | none =>
    go_enter Try.func22, Try.ntmps22
    go_wp2
    go_ret
    exact ⟨⟨none, 0, 0⟩, rfl, Nat.zero_le _, ⟨⟨fun h => absurd h (Nat.lt_irrefl 0), Nat.zero_le _⟩, fun y hy => by cases hy⟩, Below.refl _ _⟩
  | some x =>
    have hn' : n ≤ 1048576 := hn
    obtain ⟨Z, hmk, hZ⟩ := mkZ 32 5 _ 1 1 Try.underlying32 info5 n hn' (by omega)
    have H0 : Hid (Half (w.alloc (.cells Z 5)) w.heap.size 5 n 0 IsU8 ∧ Below w.heap.size w (w.alloc (.cells Z 5))) := ⟨⟨Z, heap_alloc_new w _, by rw [hZ, Nat.mul_one], fun i hi => by omega⟩, (Below.refl _ _).alloc (Nat.le_refl _) _⟩
    have HX : Hid (∀ j, j < n → x.block < w.heap.size ∧ ∃ z, w.cell? (x.add j) = some (.int .u8 z)) := fun j hj => ⟨H.out.1.at rfl hj, H.out.2 x rfl j hj⟩
    clear hZ H hn
    go_enter Try.func22, Try.ntmps22
    go_wp2
    generalize hG : w.heap.size = G at *
    have HG : Hid (w.heap.size = G) := hG
    clear hG
    go_loopw [4] (fun s4 wr => ∃ j : Nat, s4 = .int .i64 j ∧ j ≤ n ∧ Hid (Half wr G 5 n j IsU8 ∧ Below G w wr)) (fun s4 _ => n - (intOf s4).toNat)
    case atStart => exact ⟨0, by go_num, Nat.zero_le _, H0⟩
    case round =>
      obtain ⟨j, rfl, hj, HJ⟩ := hrel
      by_cases hlt : j < n
      · obtain ⟨hb, z, hz⟩ := HX.out j hlt
        have hz' : wr.cell? (x.add j) = some (.int .u8 z) := (HJ.out.2.cell (by rw [add_blk]; exact hb)).trans hz
        obtain ⟨v, c1, c2⟩ := HJ.out.1.at hlt
        have HN : Hid (Half (wr.setCell ⟨G, j, none⟩ (.int .u8 z)) G 5 n (j + 1) IsU8 ∧ Below G w (wr.setCell ⟨G, j, none⟩ (.int .u8 z))) := ⟨HJ.out.1.step hlt ⟨z, rfl⟩, HJ.out.2.setCell (p := ⟨G, j, none⟩) (Nat.le_refl _) _⟩
        clear hz hb
        go_wp2
        go_roundw
        case rel => exact ⟨j + 1, by go_num, by omega, HN⟩
        case measure => simp [intOf]; omega
      · obtain rfl : j = n := by omega
        go_wp2
        go_ret
        refine ⟨⟨some ⟨G, 0, none⟩, j, j⟩, rfl, hn', HJ.out.1.bytes (fun v h => h) hn' _ ⟨Nat.le_of_eq HG.out, HJ.out.1.lt⟩, by rw [HG.out]; exact HJ.out.2⟩

set_option maxHeartbeats 1000000 in
set_option maxRecDepth 100000 in
theorem clone23 (s : Sl) (w : World) (H : Hid (OffsAt w (· < w.heap.size) s)) (hn : s.n ≤ 1048576) : Calls Try.prog 23 #[.slice s.a s.n s.c] w (ClonedO w) := by
  obtain ⟨a, n, c⟩ := s
  cases a with
  | none =>
    go_enter Try.func23, Try.ntmps23
    go_wp2
    go_ret
    exact ⟨⟨none, 0, 0⟩, rfl, Nat.zero_le _, ⟨⟨fun h => absurd h (Nat.lt_irrefl 0), Nat.zero_le _⟩, fun y hy => by cases hy⟩, Below.refl _ _⟩
  | some x =>
    have hn' : n ≤ 1048576 := hn
    obtain ⟨Z, hmk, hZ⟩ := mkZ 44 2 _ 1 8 Try.underlying44 info2 n hn' (by omega)
    have H0 : Hid (Half (w.alloc (.cells Z 2)) w.heap.size 2 n 0 IsI64 ∧ Below w.heap.size w (w.alloc (.cells Z 2))) := ⟨⟨Z, heap_alloc_new w _, by rw [hZ, Nat.mul_one], fun i hi => by omega⟩, (Below.refl _ _).alloc (Nat.le_refl _) _⟩
    have HX : Hid (∀ j, j < n → x.block < w.heap.size ∧ ∃ z, w.cell? (x.add j) = some (.int .i64 z) ∧ (Lit.int .i64 z).wf = true) := fun j hj => ⟨H.out.1.at rfl hj, H.out.2 x rfl j hj⟩
    clear hZ H hn
    go_enter Try.func23, Try.ntmps23
    go_wp2
    generalize hG : w.heap.size = G at *
    have HG : Hid (w.heap.size = G) := hG
    clear hG
    go_loopw [4] (fun s4 wr => ∃ j : Nat, s4 = .int .i64 j ∧ j ≤ n ∧ Hid (Half wr G 2 n j IsI64 ∧ Below G w wr)) (fun s4 _ => n - (intOf s4).toNat)
    case atStart => exact ⟨0, by go_num, Nat.zero_le _, H0⟩
    case round =>
      obtain ⟨j, rfl, hj, HJ⟩ := hrel
      by_cases hlt : j < n
      · obtain ⟨hb, z, hz, hwf⟩ := HX.out j hlt
        have hz' : wr.cell? (x.add j) = some (.int .i64 z) := (HJ.out.2.cell (by rw [add_blk]; exact hb)).trans hz
        obtain ⟨v, c1, c2⟩ := HJ.out.1.at hlt
        have HN : Hid (Half (wr.setCell ⟨G, j, none⟩ (.int .i64 z)) G 2 n (j + 1) IsI64 ∧ Below G w (wr.setCell ⟨G, j, none⟩ (.int .i64 z))) := ⟨HJ.out.1.step hlt ⟨z, rfl, hwf⟩, HJ.out.2.setCell (p := ⟨G, j, none⟩) (Nat.le_refl _) _⟩
        clear hz hb hwf
        go_wp2
        go_roundw
        case rel => exact ⟨j + 1, by go_num, by omega, HN⟩
        case measure => simp [intOf]; omega
      · obtain rfl : j = n := by omega
        go_wp2
        go_ret
        refine ⟨⟨some ⟨G, 0, none⟩, j, j⟩, rfl, hn', HJ.out.1.offs (fun v h => h) hn' _ ⟨Nat.le_of_eq HG.out, HJ.out.1.lt⟩, by rw [HG.out]; exact HJ.out.2⟩
end Go.Proofs.Qxb6603852a

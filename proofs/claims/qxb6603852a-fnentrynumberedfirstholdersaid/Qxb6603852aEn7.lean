/-
  regB1Build (10): the runs built hold the same firsts, lengths, sizes and maps.
-/
import Derived.Test.Qxb6603852aEn6
import Derived.Deep.RegionLaw
namespace Go.Proofs.Qxb6603852a
open Go.RowKit
set_option linter.unusedVariables false

theorem mkent25 (V w : World) (hw : SameMem V w) (d : Int) (m : Option Nat) : Calls Try.prog 25 #[.int .u32 d, .map m] w fun e w' => e = .returned (.agg #[.int .u32 d, .map m]) ∧ Below V.heap.size V w' := by
  go_enter Try.func25, Try.ntmps25
  go_wp2
  refine bodyPost_ret (v := .agg #[.int .u32 d, .map m]) (by simp [results, Try.results25, go_sem]) rfl ?_
  exact ⟨rfl, hw.below (below_alloc _ _)⟩

theorem mkrun26 (V w : World) (hw : SameMem V w) (nm en : ByteArray) (h s : Sl) (f : Int) : Calls Try.prog 26 #[.string nm, .slice h.a h.n h.c, .int .u64 f, .slice s.a s.n s.c, .string en] w fun e w' => e = .returned (.agg #[.string nm, .slice h.a h.n h.c, .int .u64 f, .slice s.a s.n s.c, .string en]) ∧ Below V.heap.size V w' := by
  go_enter Try.func26, Try.ntmps26
  go_wp2
  refine bodyPost_ret (v := .agg #[.string nm, .slice h.a h.n h.c, .int .u64 f, .slice s.a s.n s.c, .string en]) (by simp [results, Try.results26, go_sem]) rfl ?_
  exact ⟨rfl, hw.below (below_alloc _ _)⟩

/-- 'make' of no elements, with room for n. -/
theorem mkZ0 (T E : TypeId) (z : Value) (size bytes : Nat) (hT : Try.prog.underlying T = some (.slice E)) (hI : (Try.prog.info? E).map (fun i => (i.zero, i.size, i.bytes)) = some (some z, size, bytes)) (n : Nat) (hn : n ≤ 1048576) (hb : bytes ≤ 1000) :
    ∃ Z : Array Value, (∀ w : World, (Instr.makeSlice T (.int .i64 0) (.int .i64 (n : Int))).run Try.prog w = .ok (.slice (some ⟨w.heap.size, 0, none⟩) 0 n) (w.alloc (.cells Z E))) ∧ Z.size = n * size := by
  obtain ⟨i0, hi0, hz0, hzs, hzb⟩ := info_parts hI
  refine ⟨madeCells z.cells (n * size), fun w => ?_, size_madeCells _ _⟩
  have h1 : (bytes : Int) * n ≤ 1000 * 1048576 := by
    have : bytes * n ≤ 1000 * 1048576 := Nat.mul_le_mul hb hn
    have h2 : ((bytes * n : Nat) : Int) ≤ ((1000 * 1048576 : Nat) : Int) := Int.ofNat_le.2 this
    rw [Int.natCast_mul] at h2
    exact h2
  have := run_make (P := Try.prog) w T E i0 z hT hi0 hz0 .i64 .i64 0 (n : Int) (by omega) (by omega) (by rw [hzb]; omega) (by omega)
  rw [hzs] at this
  simpa using this

theorem Filled.step' {α : Type} {K : Kd α} {w W : World} {g n j : Nat} {f : Nat → α} (h : Filled K w g n j f) (hj : j < n) (ht : Below w.heap.size w W) (hx : K.good W (fun b => g < b ∧ b < W.heap.size) (f j)) : Filled K (W.setCells g (j * K.size) (K.cells (f j))) g n (j + 1) f := by
  have h1 := h.step hj ht (f j) hx
  have e : (fun i => if i = j then f j else f i) = f := by
    funext i
    by_cases e : i = j
    · simp only [e, ↓reduceIte]
    · simp only [if_neg e]
  rw [e] at h1
  exact h1

def kL : Kd (Int × Option Nat) where
  T := 39
  size := 2
  cells x := [.int .u32 x.1, .map x.2]
  good _ _ _ := True
  len _ := rfl
  same _ _ _ := trivial

/-- One run as built. -/
structure BR where
  nm : ByteArray
  h : Sl
  f : Int
  s : Sl
  le : Nat → Int × Option Nat
  en : ByteArray

def LogIn (w : World) (ok : Nat → Prop) (s : Sl) (le : Nat → Int × Option Nat) : Prop := Lies ok s ∧ ∀ j, j < s.n → ∀ y, s.a = some y → w.cell? (y.add (j * 2)) = some (.int .u32 (le j).1) ∧ w.cell? ⟨(y.add (j * 2)).block, (y.add (j * 2)).off + 1, none⟩ = some (.map (le j).2)

theorem LogIn.same {w w' : World} {ok ok' : Nat → Prop} {s : Sl} {le : Nat → Int × Option Nat} (h : LogIn w ok s le) (hs : ∀ k, ok k → w'.heap[k]? = w.heap[k]?) (hm : ∀ k, ok k → ok' k) : LogIn w' ok' s le :=
  ⟨h.1.mono hm, fun j hj y hy => ⟨(cellSame hs (by rw [add_blk]; exact h.1.at hy hj)).trans (h.2 j hj y hy).1, (cellSame hs (p := ⟨(y.add (j * 2)).block, (y.add (j * 2)).off + 1, none⟩) (by show ok (y.add (j * 2)).block; rw [add_blk]; exact h.1.at hy hj)).trans (h.2 j hj y hy).2⟩⟩

def kU : Kd BR where
  T := 76
  size := 5
  cells r := [.string r.nm, .slice r.h.a r.h.n r.h.c, .int .u64 r.f, .slice r.s.a r.s.n r.s.c, .string r.en]
  good w ok r := LogIn w ok r.s r.le
  len _ := rfl
  same h hs hm := h.same hs hm

theorem log_done {w : World} {P n : Nat} {le : Nat → Int × Option Nat} (h : Filled kL w P n n le) (hn : n ≤ 1048576) : LogIn w (fun b => P ≤ b ∧ b < w.heap.size) ⟨some ⟨P, 0, none⟩, n, n⟩ le := by
  refine ⟨⟨fun _ => ⟨_, rfl, Nat.le_refl _, h.lt⟩, by show n ≤ _; omega⟩, fun j hj y hy => ?_⟩
  cases hy
  rw [add_zero_off]
  exact ⟨(h.at hj).1 0 _ rfl, (h.at hj).1 1 _ rfl⟩

theorem nil_log (w : World) (ok : Nat → Prop) (le : Nat → Int × Option Nat) : LogIn w ok ⟨none, 0, 0⟩ le := ⟨⟨fun h => absurd h (Nat.lt_irrefl 0), Nat.zero_le _⟩, fun j hj => absurd hj (Nat.not_lt_zero _)⟩

/-- The built run b answers to the run r and its maps. -/
def Tied (r : Rn) (mr : MR) (b : BR) : Prop := b.f = r.f ∧ b.s.n = r.s.n ∧ ∀ j, j < r.s.n → b.le j = ((r.e j).d, mr.m j)

def LogsAt (w : World) (ok : Nat → Prop) (s : Sl) (b : Nat → BR) : Prop := Lies ok s ∧ ∀ i, i < s.n → (∀ y, s.a = some y → w.cell? (y.add (i * 5)) = some (.string (b i).nm) ∧ w.cell? ⟨(y.add (i * 5)).block, (y.add (i * 5)).off + 1, none⟩ = some (.slice (b i).h.a (b i).h.n (b i).h.c) ∧ w.cell? ⟨(y.add (i * 5)).block, (y.add (i * 5)).off + 2, none⟩ = some (.int .u64 (b i).f) ∧ w.cell? ⟨(y.add (i * 5)).block, (y.add (i * 5)).off + 3, none⟩ = some (.slice (b i).s.a (b i).s.n (b i).s.c) ∧ w.cell? ⟨(y.add (i * 5)).block, (y.add (i * 5)).off + 4, none⟩ = some (.string (b i).en)) ∧ LogIn w ok (b i).s (b i).le

theorem logs_done {w : World} {P n : Nat} {b : Nat → BR} (h : Filled kU w P n n b) (hn : n ≤ 1048576) : LogsAt w (fun b => P ≤ b ∧ b < w.heap.size) ⟨some ⟨P, 0, none⟩, n, n⟩ b := by
  refine ⟨⟨fun _ => ⟨_, rfl, Nat.le_refl _, h.lt⟩, by show n ≤ _; omega⟩, fun j hj => ⟨fun y hy => ?_, (h.at hj).2.same (fun k hk => rfl) (fun k hk => ⟨by omega, hk.2⟩)⟩⟩
  cases hy
  rw [add_zero_off]
  exact ⟨(h.at hj).1 0 _ rfl, (h.at hj).1 1 _ rfl, (h.at hj).1 2 _ rfl, (h.at hj).1 3 _ rfl, (h.at hj).1 4 _ rfl⟩

/-- What the walk is told behind a call that made an entry: the new one-entry row, and the room. -/
theorem log_step {U V W : World} {E en j : Nat} {le : Nat → Int × Option Nat} {d : Int} {m : Option Nat} (hx : le j = (d, m)) (F : Filled kL V E en j le) (hj : j < en) (hU : Below E U V) (hE : E ≤ V.heap.size) (hW : Below V.heap.size V W) :
    (Filled kL ((W.alloc (.cells #[.int .u32 d, .map m] 39)).setCells E (j * 2) [.int .u32 d, .map m]) E en (j + 1) le ∧ Below E U ((W.alloc (.cells #[.int .u32 d, .map m] 39)).setCells E (j * 2) [.int .u32 d, .map m])) ∧
    (∀ t u, [Value.int .u32 d, .map m][t]? = some u → (W.alloc (.cells #[.int .u32 d, .map m] 39)).cell? ((⟨W.heap.size, 0, none⟩ : Addr).add t) = some u) ∧
    (∀ t, t < [Value.int .u32 d, .map m].length → ((W.alloc (.cells #[.int .u32 d, .map m] 39)).cell? ⟨E, 0 + j * 2 + t, none⟩).isSome = true ∧ (W.alloc (.cells #[.int .u32 d, .map m] 39)).frozen? ⟨E, 0 + j * 2 + t, none⟩ = false) := by
  have hs := hW.size
  have hA : Below V.heap.size V (W.alloc (.cells #[.int .u32 d, .map m] 39)) := hW.alloc hs _
  rw [Nat.zero_add]
  have h1 := F.step' hj hA trivial
  rw [hx] at h1
  refine ⟨⟨h1, ?_⟩, ?_, ?_⟩
  · exact ((hU.trans (hA.mono hE)).setCell (p := ⟨E, j * 2, none⟩) (Nat.le_refl _) _).setCell (p := ⟨E, j * 2 + 1, none⟩) (Nat.le_refl _) _
  · intro t u ht
    have hn : (W.alloc (.cells #[.int .u32 d, .map m] 39)).heap[W.heap.size]? = some (.cells #[.int .u32 d, .map m] 39 (0, 0)) := heap_alloc_new W _
    rw [add_zero_off, cell_heap hn]
    simpa using ht
  · intro t ht
    obtain ⟨v, c1, c2⟩ := F.cell hA hj (t := t) ht
    exact ⟨by have c1' : (W.alloc (.cells #[.int .u32 d, .map m] 39)).cell? ⟨E, j * 2 + t, none⟩ = some v := c1; rw [c1']; rfl, c2⟩

theorem brun_step {w U V W : World} {G n i : Nat} {f : Nat → BR} (x : BR) (r : Nat → Rn) (mr : Nat → MR) (F : Filled kU U G n i f) (hT : ∀ k, k < i → Tied (r k) (mr k) (f k)) (hi : i < n) (hw : Below G w U) (hG : G ≤ U.heap.size) (hV : Below U.heap.size U V) (hx : LogIn V (fun b => U.heap.size ≤ b ∧ b < V.heap.size) x.s x.le) (hxT : Tied (r i) (mr i) x) (hW : Below V.heap.size V W) :
    (∃ f', Filled kU ((W.alloc (.cells #[.string x.nm, .slice x.h.a x.h.n x.h.c, .int .u64 x.f, .slice x.s.a x.s.n x.s.c, .string x.en] 76)).setCells G (i * 5) [.string x.nm, .slice x.h.a x.h.n x.h.c, .int .u64 x.f, .slice x.s.a x.s.n x.s.c, .string x.en]) G n (i + 1) f' ∧ (∀ k, k < i + 1 → Tied (r k) (mr k) (f' k)) ∧ Below G w ((W.alloc (.cells #[.string x.nm, .slice x.h.a x.h.n x.h.c, .int .u64 x.f, .slice x.s.a x.s.n x.s.c, .string x.en] 76)).setCells G (i * 5) [.string x.nm, .slice x.h.a x.h.n x.h.c, .int .u64 x.f, .slice x.s.a x.s.n x.s.c, .string x.en])) ∧
    (∀ t u, [Value.string x.nm, .slice x.h.a x.h.n x.h.c, .int .u64 x.f, .slice x.s.a x.s.n x.s.c, .string x.en][t]? = some u → (W.alloc (.cells #[.string x.nm, .slice x.h.a x.h.n x.h.c, .int .u64 x.f, .slice x.s.a x.s.n x.s.c, .string x.en] 76)).cell? ((⟨W.heap.size, 0, none⟩ : Addr).add t) = some u) ∧
    (∀ t, t < [Value.string x.nm, .slice x.h.a x.h.n x.h.c, .int .u64 x.f, .slice x.s.a x.s.n x.s.c, .string x.en].length → ((W.alloc (.cells #[.string x.nm, .slice x.h.a x.h.n x.h.c, .int .u64 x.f, .slice x.s.a x.s.n x.s.c, .string x.en] 76)).cell? ⟨G, 0 + i * 5 + t, none⟩).isSome = true ∧ (W.alloc (.cells #[.string x.nm, .slice x.h.a x.h.n x.h.c, .int .u64 x.f, .slice x.s.a x.s.n x.s.c, .string x.en] 76)).frozen? ⟨G, 0 + i * 5 + t, none⟩ = false) := by
  have hlt := F.lt
  have hs := hV.size
  have hs2 := hW.size
  have hUW : Below U.heap.size U W := hV.trans (hW.mono hs)
  have hA : Below U.heap.size U (W.alloc (.cells #[.string x.nm, .slice x.h.a x.h.n x.h.c, .int .u64 x.f, .slice x.s.a x.s.n x.s.c, .string x.en] 76)) := hUW.alloc (by omega) _
  have hsA := size_alloc W (.cells #[.string x.nm, .slice x.h.a x.h.n x.h.c, .int .u64 x.f, .slice x.s.a x.s.n x.s.c, .string x.en] 76)
  rw [Nat.zero_add]
  have h1 := F.step hi hA x (hx.same (fun k hk => (Below.heap_alloc _ _ _ (by omega)).trans (hW.block k hk.2)) (fun b hb => ⟨by omega, by rw [hsA]; omega⟩))
  refine ⟨⟨_, h1, fun k hk => ?_, ?_⟩, ?_, ?_⟩
  · by_cases ek : k = i
    · simp only [ek]
      exact hxT
    · simp only [if_neg ek]
      exact hT k (by omega)
  · exact (((((hw.trans (hA.mono hG)).setCell (p := ⟨G, i * 5, none⟩) (Nat.le_refl _) _).setCell (p := ⟨G, i * 5 + 1, none⟩) (Nat.le_refl _) _).setCell (p := ⟨G, i * 5 + 2, none⟩) (Nat.le_refl _) _).setCell (p := ⟨G, i * 5 + 3, none⟩) (Nat.le_refl _) _).setCell (p := ⟨G, i * 5 + 4, none⟩) (Nat.le_refl _) _
  · intro t u ht
    have hn : (W.alloc (.cells #[.string x.nm, .slice x.h.a x.h.n x.h.c, .int .u64 x.f, .slice x.s.a x.s.n x.s.c, .string x.en] 76)).heap[W.heap.size]? = some (.cells #[.string x.nm, .slice x.h.a x.h.n x.h.c, .int .u64 x.f, .slice x.s.a x.s.n x.s.c, .string x.en] 76 (0, 0)) := heap_alloc_new W _
    rw [add_zero_off, cell_heap hn]
    simpa using ht
  · intro t ht
    obtain ⟨v, c1, c2⟩ := F.cell hA hi (t := t) ht
    exact ⟨by have c1' : (W.alloc (.cells #[.string x.nm, .slice x.h.a x.h.n x.h.c, .int .u64 x.f, .slice x.s.a x.s.n x.s.c, .string x.en] 76)).cell? ⟨G, i * 5 + t, none⟩ = some v := c1; rw [c1']; rfl, c2⟩

theorem info39 : (Try.prog.info? 39).map (fun i => (i.zero, i.size, i.bytes)) = some (some (.agg #[.int .u32 0, .map none]), 2, 16) := by kernel_rfl
theorem info76 : (Try.prog.info? 76).map (fun i => (i.zero, i.size, i.bytes)) = some (some (.agg #[.string ByteArray.empty, .slice none 0 0, .int .u64 0, .slice none 0 0, .string ByteArray.empty]), 5, 88) := by kernel_rfl

/-- Old cells, behind what is made anew and behind a store into a row that is none of theirs. -/
theorem old_cell {V W : World} {p : Addr} {v : Value} (hW : Below V.heap.size V W) (hp : V.cell? p = some v) (o : Obj) (E : Nat) (hE : p.block ≠ E) : W.cell? p = some v ∧ (W.alloc o).cell? p = some v ∧ ∀ k vs, ((W.alloc o).setCells E k vs).cell? p = some v := by
  have h0 := World.block_lt_of_cell? _ _ hp
  have h1 : W.heap[p.block]? = V.heap[p.block]? := hW.block _ h0
  have h2 : (W.alloc o).heap[p.block]? = V.heap[p.block]? := (Below.heap_alloc _ _ _ (Nat.lt_of_lt_of_le h0 hW.size)).trans h1
  have h3 : ∀ k vs, ((W.alloc o).setCells E k vs).heap[p.block]? = V.heap[p.block]? := fun k vs => (other_setCells E vs k _ _ hE).trans h2
  exact ⟨(World.cell?_of_block (w := V) h1).trans hp, (World.cell?_of_block (w := V) h2).trans hp, fun k vs => (World.cell?_of_block (w := V) (h3 k vs)).trans hp⟩
end Go.Proofs.Qxb6603852a

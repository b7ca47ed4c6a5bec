/-
  add, where the row of blocks is full: the old row stands as it did.
-/
import Derived.Test.Qxb6603852aKi4
import Derived.Deep.RegionLawGrows
namespace Go.Proofs.Qxb6603852a
open Go.RowKit
set_option linter.unusedVariables false

def NewPostF (w : World) (B X n m : Nat) (bv : Value) (xs : List Value) (Z : Array Value) (h o : Int) (e : Ending) (w' : World) : Prop :=
  e = .returned (.tuple #[]) ∧ ∃ g cap w1 q, AddFacts w B m bv xs Z h o g cap w1 ∧ Turned w w1 [] ∧
    w' = ((((w1.setCell ⟨X, 0, none⟩ (.slice (some ⟨g, 0, none⟩) (m + 1) cap)).setCell ⟨w.heap.size + 1, 0, none⟩ (.int .u64 h)).setCell ⟨w.heap.size + 1, 1, none⟩ (.int .i64 o)).setCell ⟨X, 1, none⟩ (.int .i64 ((n : Int) + 1))).drewN q

set_option maxHeartbeats 1000000 in
set_option maxRecDepth 100000 in
theorem add_newF (B X n m : Nat) (ao : Option Addr) (bv : Value) (hbv : bv = .slice ao m m) (hnone : ao = none → m = 0) (s : Bool) (xs : List Value) (Z : Array Value) (h o : Int) (w : World) (hB : B ≤ w.heap.size) (hx : w.heap[X]? = some (.cells #[bv, .int .i64 n, .bool s] 81 (0, 0))) (hXb : ∀ x ∈ bv.ownBlock.toList, x ≠ X) (hn : n ≤ 1000000) (hr : (n : Int) % 4096 = 0) (hq : (n : Int) / 4096 = m)
    (ho : Own w B 54 bv xs) (hm : xs.length = m) (hl : m ≤ 1000) (hZ : Z.size = 8192) (hmk : ∀ w : World, (Instr.makeSlice 54 (.int .i64 4096) (.int .i64 4096)).run Try.prog w = .ok (.slice (some ⟨w.heap.size, 0, none⟩) 4096 4096) (w.alloc (.cells Z 57))) :
    Calls Try.prog 29 #[.pointer (some ⟨X, 0, none⟩), .agg #[.int .u64 h, .int .i64 o]] w (NewPostF w B X n m bv xs Z h o) := by
  obtain ⟨i0, hi0, hz0, hzs, hzb⟩ := info_parts infoB
  have hX : X < w.heap.size := lt_of_heap hx
  have hX1 : X < w.heap.size + 1 := by omega
  have hX2 : X < w.heap.size + 1 + 1 := by omega
  have hX3 : X < w.heap.size + 2 := by omega
  have h0 : w.cell? ⟨X, 0, none⟩ = some bv := by rw [cell_heap hx]; rfl
  have h1 : w.cell? ⟨X, 1, none⟩ = some (.int .i64 n) := by rw [cell_heap hx]; rfl
  have HO : Hid (∀ W' : World, ThreeMore w Z h o W' → W'.ownsRow B 54 1 bv m xs) := by
    intro W' hW
    have h2 := own_keptL ho (w' := W') (fun x hx => (three_at hW).2.1 x (own_mem_lt ho x hx).1)
    unfold Own at h2
    rwa [hm] at h2
  have HOLD : Hid (∀ W' : World, ThreeMore w Z h o W' → ∀ b, ao = some b → ∀ j u, xs[j]? = some u → W'.cell? (b.add j) = some u) := by
    intro W' hW b hb j u hj
    have h2 := own_keptL ho (w' := W') (fun x hx => (three_at hW).2.1 x (own_mem_lt ho x hx).1)
    rw [hbv, hb] at h2
    have hpos : 0 < xs.length := by have := (List.getElem?_eq_some_iff.1 hj).1; omega
    obtain ⟨g', cap', e⟩ := own_some h2 hpos
    simp only [Value.slice.injEq, Option.some.injEq] at e
    obtain ⟨rfl, e1, e2⟩ := e
    rw [Addr.add_lit, Nat.zero_add]
    exact (own_cell h2 hj).1
  have HFF : Hid (∀ (W' : World) v' w1, W'.grownBy w1 none → ThreeMore w Z h o W' → W'.os = w.os ∧ W'.tape = w.tape ∧ W'.output = w.output → w1.ownsRow W'.heap.size 54 1 v' (m + 1) (xs ++ [.slice (some ⟨w.heap.size + 1, 0, none⟩) 4096 4096]) → ∃ g cap, v' = .slice (some ⟨g, 0, none⟩) (m + 1) cap ∧ AddFacts w B m bv xs Z h o g cap w1 ∧ Turned w w1 []) := by
    intro W' v' w1 hgr hW hos hown
    obtain ⟨hsz, hk, hb, hz, _⟩ := three_at hW
    have hlen : (xs ++ [Value.slice (some ⟨w.heap.size + 1, 0, none⟩) 4096 4096]).length = m + 1 := by rw [List.length_append, hm]; rfl
    have hO : Own w1 W'.heap.size 54 v' (xs ++ [.slice (some ⟨w.heap.size + 1, 0, none⟩) 4096 4096]) := by
      unfold Own
      rwa [hlen]
    rcases own_open hO with ⟨_, e⟩ | ⟨g, cap, cur, rfl, q2, q3, q4, q5, q6, q7⟩
    · simp at e
    have T2 : Turned W' w1 [] := Turned.grown hgr (fun x hx => by cases hx)
    have T1 : Turned w W' [] := ⟨hos.1, hos.2.1, hos.2.2, by omega, fun k h1 _ => hk k h1⟩
    have T := T1.trans T2 (fun x hx => .inl hx)
    have hO2 : Own w1 B 54 (.slice (some ⟨g, 0, none⟩) (xs ++ [Value.slice (some ⟨w.heap.size + 1, 0, none⟩) 4096 4096]).length cap) (xs ++ [.slice (some ⟨w.heap.size + 1, 0, none⟩) 4096 4096]) := own_mk (by omega) q3 q6 q4 q5 q7
    rw [hlen] at hO2
    refine ⟨g, cap, by rw [hlen], ⟨?_, T.mono (fun x hx => by simp at hx), .inr (by omega), ?_, ?_, lt_of_heap q3⟩, T⟩
    · unfold Own at hO2
      rwa [hlen] at hO2
    · rw [T2.block _ (by omega) (by simp), hb]
    · rw [T2.block _ (by omega) (by simp), hz]
  have HN : Hid (∀ W' : World, ThreeMore w Z h o W' → ∀ j u, [Value.slice (some ⟨w.heap.size + 1, 0, none⟩) 4096 4096][j]? = some u → W'.cell? ((⟨w.heap.size + 2, 0, none⟩ : Addr).add j) = some u) := by
    intro W' hW j u hj
    rw [Addr.add_lit, Nat.zero_add, cell_heap (three_at hW).2.2.2.2]
    cases j with
    | zero => simpa using hj
    | succ j => simp at hj
  have HS : Hid (∀ W' : World, ThreeMore w Z h o W' → W'.heap.size = w.heap.size + 3) := fun W' hW => (three_at hW).1
  have HB : Hid (∀ W' : World, ThreeMore w Z h o W' → B ≤ W'.heap.size) := by
    intro W' hW
    rw [(three_at hW).1]
    omega
  have HW : Hid (Own w B 54 bv xs) := ho
  obtain ⟨z0, z1, hz⟩ : ∃ z0 z1, Z[0]? = some z0 ∧ Z[1]? = some z1 := ⟨_, _, Array.getElem?_eq_getElem (by omega), Array.getElem?_eq_getElem (by omega)⟩
  have HX : Hid (∀ g cap w1, AddFacts w B m bv xs Z h o g cap w1 → w1.cell? ⟨X, 0, none⟩ = some bv ∧ w1.cell? ⟨X, 1, none⟩ = some (.int .i64 n) ∧ w1.frozen? ⟨X, 0, none⟩ = false ∧ w1.frozen? ⟨X, 1, none⟩ = false ∧
      w1.cell? ⟨g, m, none⟩ = some (.slice (some ⟨w.heap.size + 1, 0, none⟩) 4096 4096) ∧ w1.cell? ⟨w.heap.size, 0, none⟩ = some (.int .u64 h) ∧ w1.cell? ⟨w.heap.size, 1, none⟩ = some (.int .i64 o) ∧
      w1.cell? ⟨w.heap.size + 1, 0, none⟩ = some z0 ∧ w1.cell? ⟨w.heap.size + 1, 1, none⟩ = some z1 ∧ w1.frozen? ⟨w.heap.size + 1, 0, none⟩ = false ∧ w1.frozen? ⟨w.heap.size + 1, 1, none⟩ = false ∧ ¬ g = X ∧ ¬ g = w.heap.size + 1 ∧ ¬ X = g ∧ w.heap.size + 1 < w1.heap.size) := by
    intro g cap w1 F
    have hx1 : w1.heap[X]? = some (.cells #[bv, .int .i64 n, .bool s] 81 (0, 0)) := (F.turned.block X hX (fun e => hXb X e rfl)).trans hx
    have hgX : ¬ g = X := by
      rcases F.new with e | e
      · exact hXb g e
      · omega
    have hgn : ¬ g = w.heap.size + 1 := by
      rcases F.new with e | e
      · have := (own_mem_lt ho g e).1
        omega
      · omega
    have hO : Own w1 B 54 (.slice (some ⟨g, 0, none⟩) (m + 1) cap) (xs ++ [.slice (some ⟨w.heap.size + 1, 0, none⟩) 4096 4096]) := by
      unfold Own
      have := F.own
      rwa [List.length_append, hm]
    refine ⟨by rw [cell_heap hx1]; rfl, by rw [cell_heap hx1]; rfl, frozen_heap hx1 0, frozen_heap hx1 1, (own_cell hO (by rw [← hm]; simp)).1, by rw [cell_heap F.box]; rfl, by rw [cell_heap F.box]; rfl, by rw [cell_heap F.zero]; exact hz.1, by rw [cell_heap F.zero]; exact hz.2, frozen_heap F.zero 0, frozen_heap F.zero 1, hgX, hgn, fun e => hgX e.symm, lt_of_heap F.zero⟩
  clear ho hx
  go_enter Try.func29, Try.ntmps29
  go_wp2
  subst hbv
  have hnone' : ao = none → m = 0 ∧ m = 0 := fun e => ⟨hnone e, hnone e⟩
  go_region_law (refine step_append_grows rfl (.tmp 14) (.tmp 16) 53 rfl 54 i0 _ 1 24 Try.underlying53 hi0 hz0 hzs hzb rfl (by omega) ao m m xs (by simp [Act.eval]) hnone' (by rw [hm, Nat.mul_one]) (HOLD.out _ rfl) ⟨w.heap.size + 2, 0, none⟩ 1 1 [.slice (some ⟨w.heap.size + 1, 0, none⟩) 4096 4096] (by simp [Act.eval]) rfl (HN.out _ rfl) (fun u hu => by rw [List.mem_singleton.1 hu]; rfl) (by omega) (by unfold maxLen; omega) (by omega) ?_; intro v' w1 hown hgr; obtain ⟨g, cap, rfl, hF, hTF⟩ := HFF.out _ v' w1 hgr rfl ⟨rfl, rfl, rfl⟩ hown; have HF : Hid (AddFacts w B m (.slice ao m m) xs Z h o g cap w1 ∧ Turned w w1 []) := ⟨hF, hTF⟩; clear hown hgr hF hTF; obtain ⟨c1, c2, c3, c4, c5, c6, c7, c8, c9, c10, c11, c12, c13, c14, c15⟩ := HX.out g cap w1 HF.out.1)
  all_goals
    go_wp2
    go_region
    go_wp2
    refine bodyPost_end (v := .tuple #[]) (by simp [results, Try.results29, go_sem]) rfl ?_
    exact ⟨rfl, g, cap, w1, 1, HF.out.1, HF.out.2, rfl⟩

def AddPostF (w : World) (B X : Nat) (bv : Value) (bs : List Nat) (n : Nat) (s : Bool) (val : Nat → Int × Int) (k : Int × Int) (e : Ending) (w' : World) : Prop :=
  e = .returned (.tuple #[]) ∧ ∃ bv' bs', Idx w' B X bv' bs' (n + 1) s (put val n bs.length k) ∧ (∃ ex, bs' = bs ++ ex) ∧ Below B w w' ∧ ∀ x ∈ bv.ownBlock.toList, w'.heap[x]? = w.heap[x]?

set_option maxHeartbeats 1000000 in
theorem add_anyF (B X : Nat) (bv : Value) (bs : List Nat) (n : Nat) (s : Bool) (val : Nat → Int × Int) (h o : Int) (w : World) (H : Idx w B X bv bs n s val) (ao : Option Addr) (hfull : bv = .slice ao bs.length bs.length) (hn : n ≤ 1000000) :
    Calls Try.prog 29 #[.pointer (some ⟨X, 0, none⟩), .agg #[.int .u64 h, .int .i64 o]] w (AddPostF w B X bv bs n s val (h, o)) := by
  have hX : X < w.heap.size := lt_of_heap H.head
  have hcnt := H.count
  have hbl : ∀ g ∈ bs, g < w.heap.size := by
    intro g hg
    obtain ⟨i, hi, e⟩ := List.getElem_of_mem hg
    obtain ⟨cur, h1, _⟩ := H.blocks i g (by rw [List.getElem?_eq_getElem hi, e])
    exact lt_of_heap h1
  by_cases hr : n % 4096 = 0
  · obtain ⟨Z, hmk, hZ, hZ0⟩ := mk4096
    have hnone : ao = none → bs.length = 0 := by
      intro e
      rcases Nat.eq_zero_or_pos bs.length with h0 | h0
      · exact h0
      · obtain ⟨g', cap', e'⟩ := own_some H.row (by rwa [List.length_map])
        rw [hfull, e] at e'
        cases e'
    refine (add_newF B X n bs.length ao bv hfull hnone s (bs.map blk) Z h o w H.size H.head (fun x hx => (H.apart x hx).1) hn (by omega) (by omega) H.row (by rw [List.length_map]) (by omega) hZ hmk).mono ?_
    rintro e w' ⟨rfl, g, cap, w1, q, F, TF, rfl⟩
    have hx1 : w1.heap[X]? = some (.cells #[bv, .int .i64 n, .bool s] 81 (0, 0)) := (F.turned.block X hX (fun e => (H.apart X e).1 rfl)).trans H.head
    have hgX : ¬ g = X := by
      rcases F.new with e | e
      · exact (H.apart g e).1
      · omega
    have hgn : ¬ g = w.heap.size + 1 := by
      rcases F.new with e | e
      · have := (own_mem_lt H.row g e).1
        omega
      · omega
    have hgb : g ∉ bs := by
      intro hm
      rcases F.new with e | e
      · exact (H.apart g e).2 hm
      · have := hbl g hm
        omega
    have hGb : w.heap.size + 1 ∉ bs := fun hm => by have := hbl _ hm; omega
    have hO : Own w1 B 54 (.slice (some ⟨g, 0, none⟩) (bs.length + 1) cap) ((bs ++ [w.heap.size + 1]).map blk) := by
      unfold Own
      have := F.own
      rw [List.map_append, List.length_append, List.length_map]
      exact this
    have hz1 := F.turned.size
    have hGlt := lt_of_heap F.zero
    have hB1 : B ≤ w1.heap.size := Nat.le_trans H.size hz1
    have hgB : B ≤ g := own_ge hO rfl
    refine ⟨rfl, .slice (some ⟨g, 0, none⟩) (bs.length + 1) cap, bs ++ [w.heap.size + 1], ⟨?_, H.geX, ?_, ?_, ?_, ?_, ?_, ?_, ?_, ?_⟩, ⟨_, rfl⟩, ?_, ?_⟩
    · have k1 := heap_setCell_same (o := 0) (v := .slice (some ⟨g, 0, none⟩) (bs.length + 1) cap) hx1
      have k2 : (((w1.setCell ⟨X, 0, none⟩ (.slice (some ⟨g, 0, none⟩) (bs.length + 1) cap)).setCell ⟨w.heap.size + 1, 0, none⟩ (.int .u64 h)).setCell ⟨w.heap.size + 1, 1, none⟩ (.int .i64 o)).heap[X]? = (w1.setCell ⟨X, 0, none⟩ (.slice (some ⟨g, 0, none⟩) (bs.length + 1) cap)).heap[X]? := by
        rw [Below.heap_setCell _ _ _ _ (by show X ≠ w.heap.size + 1; omega), Below.heap_setCell _ _ _ _ (by show X ≠ w.heap.size + 1; omega)]
      have k3 := heap_setCell_same (o := 1) (v := .int .i64 ((n : Int) + 1)) (k2.trans k1)
      exact k3
    · refine own_keptL hO ?_
      intro x hx
      have hx' : x = g := by simpa [Value.ownBlock] using hx
      subst hx'
      show (World.setCell _ _ _).heap[x]? = _
      rw [Below.heap_setCell _ _ _ _ hgX, Below.heap_setCell _ _ _ _ hgn, Below.heap_setCell _ _ _ _ hgn, Below.heap_setCell _ _ _ _ hgX]
    · rw [List.nodup_append]
      refine ⟨H.nodup, by simp, ?_⟩
      intro a ha b hb
      rw [List.mem_singleton.1 hb]
      intro e
      subst e
      exact hGb ha
    · intro x hx
      have hx' : x = g := by simpa [Value.ownBlock] using hx
      subst hx'
      refine ⟨hgX, ?_⟩
      intro hm
      rcases List.mem_append.1 hm with hm | hm
      · exact hgb hm
      · exact hgn (List.mem_singleton.1 hm)
    · intro hm
      rcases List.mem_append.1 hm with hm | hm
      · exact H.xbs hm
      · have := List.mem_singleton.1 hm
        omega
    · intro y hy
      rcases List.mem_append.1 hy with hy | hy
      · exact H.ge y hy
      · rw [List.mem_singleton.1 hy]
        have := H.size
        omega
    · intro i y hy
      by_cases hi : i < bs.length
      · rw [List.getElem?_append_left hi] at hy
        have hyb : y ∈ bs := List.mem_of_getElem? hy
        have hyX : y ≠ X := fun e => H.xbs (e ▸ hyb)
        have hyG : y ≠ w.heap.size + 1 := fun e => hGb (e ▸ hyb)
        refine block_kept (H.blocks i y hy) ?_ ?_
        · show (World.setCell _ _ _).heap[y]? = _
          rw [Below.heap_setCell _ _ _ _ hyX, Below.heap_setCell _ _ _ _ hyG, Below.heap_setCell _ _ _ _ hyG, Below.heap_setCell _ _ _ _ hyX]
          exact F.turned.block y (hbl y hyb) (fun e => (H.apart y e).2 hyb)
        · intro j hj
          unfold put
          rw [if_neg (by omega), if_pos (by omega)]
      · have hil : i = bs.length := by
          have := (List.getElem?_eq_some_iff.1 hy).1
          simp at this
          omega
        subst hil
        have hyG : y = w.heap.size + 1 := by simpa using hy.symm
        subst hyG
        refine block_set (w := w1) (r := 0) F.zero hZ (f := fun _ => (0, 0)) hZ0 (by omega) (h := h) (o := o) ?_ ?_
        · show (World.setCell _ _ _).heap[_]? = _
          rw [Below.heap_setCell _ _ _ _ (by show w.heap.size + 1 ≠ X; omega)]
          have hz' : (w1.setCell ⟨X, 0, none⟩ (.slice (some ⟨g, 0, none⟩) (bs.length + 1) cap)).heap[w.heap.size + 1]? = some (.cells Z 57 (0, 0)) := by
            rw [Below.heap_setCell _ _ _ _ (by show w.heap.size + 1 ≠ X; omega)]
            exact F.zero
          rw [heap_setCell_same (heap_setCell_same hz'), heap_setCell_same (heap_setCell_same F.zero)]
        · intro j hj
          unfold put
          by_cases e : j = 0
          · rw [if_pos e, if_pos (by omega)]
          · rw [if_neg e, if_neg (by omega), if_neg (by omega)]
    · show B ≤ (World.setCell _ _ _).heap.size
      simp [World.setCell]
      omega
    · rw [List.length_append, List.length_singleton]
      omega
    · have b1 : Below B w w1 := F.turned.toBelow (fun x hx => (own_mem_lt H.row x hx).2) H.size
      have hsz := H.size
      have b2 := ((((b1.setCell (p := ⟨X, 0, none⟩) H.geX (.slice (some ⟨g, 0, none⟩) (bs.length + 1) cap)).setCell (p := ⟨w.heap.size + 1, 0, none⟩) (by show B ≤ w.heap.size + 1; omega) (.int .u64 h)).setCell (p := ⟨w.heap.size + 1, 1, none⟩) (by show B ≤ w.heap.size + 1; omega) (.int .i64 o)).setCell (p := ⟨X, 1, none⟩) H.geX (.int .i64 ((n : Int) + 1)))
      exact ⟨b2.os, b2.tape, b2.output, b2.size, b2.block⟩
    · intro x hx
      have hxl := (own_mem_lt H.row x hx).1
      show (World.setCell _ _ _).heap[x]? = _
      rw [Below.heap_setCell _ _ _ _ (H.apart x hx).1, Below.heap_setCell _ _ _ _ (by show x ≠ w.heap.size + 1; omega), Below.heap_setCell _ _ _ _ (by show x ≠ w.heap.size + 1; omega), Below.heap_setCell _ _ _ _ (H.apart x hx).1]
      exact TF.block x hxl (by simp)
  · have hc : n / 4096 < bs.length := by omega
    have hg : bs[n / 4096]? = some bs[n / 4096] := List.getElem?_eq_getElem hc
    have hmem : bs[n / 4096] ∈ bs := List.getElem_mem hc
    obtain ⟨c1, c2, f1, f2⟩ := cell_at (H.blocks _ _ hg) (n % 4096) (by omega)
    obtain ⟨cur, hb1, hb2, hb3⟩ := H.blocks _ _ hg
    obtain ⟨gr, cap, hbv⟩ := own_some H.row (by rw [List.length_map]; omega)
    rw [List.length_map] at hbv
    have hrow := H.row
    have hap := H.apart
    have hhead := H.head
    rw [hbv] at hrow hap hhead
    have hgr : gr < w.heap.size := own_block_lt hrow rfl
    have hXg : ¬ X = bs[n / 4096] := fun e => H.xbs (e ▸ hmem)
    have hgg := hbl _ hmem
    refine (add_there X gr cap bs.length n bs[n / 4096] h o w hX hgr hgg hXg (by rw [cell_heap hhead]; rfl) (by rw [cell_heap hhead]; rfl) hn hr hc (own_cell hrow (by simp [blk, hc])).1 _ _ c1 c2 f1 f2 (frozen_heap hhead 1)).mono ?_
    rintro e w' ⟨rfl, rfl⟩
    generalize hgd : bs[n / 4096] = g at *
    have hold : ∀ x, x < w.heap.size → x ≠ g → x ≠ X → (((((w.setCell ⟨g, n % 4096 * 2, none⟩ (.int .u64 h)).setCell ⟨g, n % 4096 * 2 + 1, none⟩ (.int .i64 o)).setCell ⟨X, 1, none⟩ (.int .i64 ((n : Int) + 1))).alloc (.cells #[.int .u64 h, .int .i64 o] 57)).drew).heap[x]? = w.heap[x]? := by
      intro x h1 h2 h3
      show (World.alloc _ _).heap[x]? = _
      rw [Below.heap_alloc _ _ _ (by simpa [World.setCell] using h1), Below.heap_setCell _ _ _ _ h3, Below.heap_setCell _ _ _ _ h2, Below.heap_setCell _ _ _ _ h2]
    refine ⟨rfl, bv, bs, ⟨?_, H.geX, ?_, H.nodup, H.apart, H.xbs, H.ge, ?_, ?_, by omega⟩, ⟨[], by simp⟩, ?_, ?_⟩
    · show (World.alloc _ _).heap[X]? = _
      rw [Below.heap_alloc _ _ _ (by simpa [World.setCell] using hX)]
      have k2 : (((w.setCell ⟨g, n % 4096 * 2, none⟩ (.int .u64 h)).setCell ⟨g, n % 4096 * 2 + 1, none⟩ (.int .i64 o))).heap[X]? = w.heap[X]? := by
        rw [Below.heap_setCell _ _ _ _ hXg, Below.heap_setCell _ _ _ _ hXg]
      exact heap_setCell_same (o := 1) (v := .int .i64 ((n : Int) + 1)) (k2.trans H.head)
    · refine own_keptL H.row ?_
      intro x hx
      exact hold x (own_mem_lt H.row x hx).1 (fun e => (H.apart x hx).2 (e ▸ hmem)) (H.apart x hx).1
    · intro i y hy
      have hyb : y ∈ bs := List.mem_of_getElem? hy
      have hyX : y ≠ X := fun e => H.xbs (e ▸ hyb)
      obtain ⟨hi, hyi⟩ := List.getElem?_eq_some_iff.1 hy
      by_cases hic : i = n / 4096
      · subst hic
        have hyg : y = g := by rw [← hyi, hgd]
        subst hyg
        refine block_set (w := w) (r := n % 4096) hb1 hb2 hb3 (by omega) (h := h) (o := o) ?_ ?_
        · show (World.alloc _ _).heap[y]? = _
          rw [Below.heap_alloc _ _ _ (by simpa [World.setCell] using hgg), Below.heap_setCell _ _ _ _ hyX]
        · intro j hj
          unfold put
          by_cases e : j = n % 4096
          · rw [if_pos e, if_pos (by omega)]
          · rw [if_neg e, if_neg (by omega), if_pos (by omega)]
      · refine block_kept (H.blocks i y hy) (hold y (hbl y hyb) ?_ hyX) ?_
        · intro e
          have := (List.getElem_inj (h₀ := hi) (h₁ := hc) H.nodup).1 (by rw [hyi, hgd, e])
          exact hic this
        · intro j hj
          unfold put
          rw [if_neg (by omega), if_pos (by omega)]
    · show B ≤ (World.alloc _ _).heap.size
      have := H.size
      simp [World.setCell, World.alloc]
      omega
    · have hgB := H.ge g hmem
      have hsz := H.size
      exact ((((Below.refl B w).setCell (p := ⟨g, n % 4096 * 2, none⟩) hgB _).setCell (p := ⟨g, n % 4096 * 2 + 1, none⟩) hgB _).setCell (p := ⟨X, 1, none⟩) H.geX _).alloc (by simpa [World.setCell] using hsz) _ |>.drew
    · intro x hx
      exact hold x (own_mem_lt H.row x hx).1 (fun e => (H.apart x hx).2 (e ▸ hmem)) (H.apart x hx).1

end Go.Proofs.Qxb6603852a

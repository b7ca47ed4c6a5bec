/-
  zzBuild: the tree and the sorted set, grown key by key.
-/
import Derived.Test.Qxb6603837aModelI
namespace Go.Proofs.Qxb6603837a
open Go.RowKit

/-- A row of strings that came in: its cells below B. -/
structure InRow (w : World) (B : Nat) (x : Addr) (ks : List ByteArray) : Prop where
  lt : x.block < B
  cell : ∀ i (hi : i < ks.length), w.cell? (x.add i) = some (.string ks[i])

theorem InRow.below {w w' : World} {B : Nat} {x : Addr} {ks : List ByteArray} (h : InRow w B x ks) (hb : Below B w w') : InRow w' B x ks :=
  ⟨h.lt, fun i hi => (hb.cell (p := x.add i) (by unfold Addr.add; split <;> exact h.lt)).trans (h.cell i hi)⟩

/-- The tree and the model hold the same set m, in blocks of their own. -/
structure Both (w : World) (B b : Nat) (mv : Value) (m : List ByteArray) (fp : List Nat) : Prop where
  tree : TreeFp w B b m fp
  model : Own w B 9 mv (m.map Value.string)
  asc : Asc m
  apart : ∀ x ∈ mv.ownBlock.toList, x ∉ fp
  size : B ≤ w.heap.size

theorem asc_put {k : ByteArray} {m : List ByteArray} (h : Asc m) : Asc (put k m) := by
  unfold put
  cases hh : has k m with
  | true => simpa using h
  | false => simpa using asc_ins h (has_false.1 hh)

theorem put_length (k : ByteArray) (m : List ByteArray) : (put k m).length ≤ m.length + 1 := by
  unfold put
  split
  · omega
  · rw [ins_length]
    exact Nat.le_refl _

theorem TreeFp.lt {w : World} {B b : Nat} {m : List ByteArray} {fp : List Nat} (h : TreeFp w B b m fp) : ∀ x ∈ fp, x < w.heap.size ∧ B ≤ x := by
  obtain ⟨n, t, h1, _⟩ := h
  exact (rep_mem n h1).2

theorem TreeFp.turned {w w' : World} {B b : Nat} {m : List ByteArray} {fp fq : List Nat} (h : TreeFp w B b m fp) (ht : Turned w w' fq) (hd : ∀ x ∈ fp, x ∉ fq) : TreeFp w' B b m fp := by
  obtain ⟨n, t, h1, h2⟩ := h
  exact ⟨n, t, rep_turned h1 ht hd, h2⟩

/-- One step of both. -/
theorem both_step {w W1 W2 : World} {B b b' : Nat} {mv v' : Value} {m m' : List ByteArray} {fp fp' : List Nat} (h : Both w B b mv m fp) (ht : TreeFp W1 B b' m' fp') (h1 : Turned w W1 fp) (h2 : ∀ x ∈ fp', x ∈ fp ∨ w.heap.size ≤ x)
    (ho : Own W2 B 9 v' (m'.map Value.string)) (h3 : Turned W1 W2 mv.ownBlock.toList) (h4 : ∀ x ∈ v'.ownBlock.toList, x ∈ mv.ownBlock.toList ∨ W1.heap.size ≤ x) (ha : Asc m') : Both W2 B b' v' m' fp' ∧ Below B w W2 := by
  have hmv := own_mem_lt h.model
  have hd : ∀ x ∈ mv.ownBlock.toList, x ∉ fp' := by
    intro x hx hm
    rcases h2 x hm with e | e
    · exact h.apart x hx e
    · have := (hmv x hx).1
      omega
  have hz1 := h1.size
  have hz2 := h3.size
  have hs := h.size
  refine ⟨⟨ht.turned h3 (fun x hx hm => hd x hm hx), ho, ha, ?_, by omega⟩, ?_⟩
  · intro x hx hm
    rcases h4 x hx with e | e
    · exact hd x e hm
    · have := (ht.lt x hm).1
      omega
  · exact (h1.toBelow (fun x hx => (h.tree.lt x hx).2) hs).trans (h3.toBelow (fun x hx => (hmv x hx).2) (by omega))

def BuildPost (w : World) (e : Ending) (w' : World) : Prop := ∃ b mv m fp, e = .returned (.tuple #[.pointer (some ⟨b, 0, none⟩), mv, .bool true]) ∧ Both w' w.heap.size b mv m fp ∧ Below w.heap.size w w' ∧ m.length ≤ 16384

theorem build_nil (w : World) : Calls Try.prog 10 #[.slice none 0 0] w (BuildPost w) := by
  go_enter Try.func10, Try.ntmps10
  go_wp2_with fail
  refine (newleaf_any w).mono ?_
  rintro e W0 ⟨rfl, rfl⟩
  go_wp2
  go_loop [5, 6, 7] (fun a b c => a = .pointer (some ⟨w.heap.size, 0, none⟩) ∧ b = .slice none 0 0 ∧ c = .int .i64 0) (fun _ _ _ => 0)
  case atStart => exact ⟨rfl, rfl, rfl⟩
  case round =>
    obtain ⟨rfl, rfl, rfl⟩ := hrel
    go_wp2
    go_ret3
    exact ⟨_, _, [], _, rfl, ⟨newleaf_tree w _ (Nat.le_refl _), ⟨rfl, .inl ⟨rfl, rfl⟩⟩, List.Pairwise.nil, (fun x hx => by simp [Value.ownBlock] at hx), (Turned.alloc w _ []).size⟩, (Below.refl _ _).alloc (Nat.le_refl _) _, Nat.zero_le _⟩

set_option maxHeartbeats 2000000 in
set_option maxRecDepth 100000 in
theorem build_row (x : Addr) (cap : Nat) (ks : List ByteArray) (w : World) (hr : InRow w w.heap.size x ks) (hl : ks.length ≤ 16384) : Calls Try.prog 10 #[.slice (some x) ks.length cap] w (BuildPost w) := by
  have HR : Hid (InRow w w.heap.size x ks) := hr
  clear hr
  obtain ⟨B, hB⟩ : ∃ B, B = w.heap.size := ⟨_, rfl⟩
  go_enter Try.func10, Try.ntmps10
  go_wp2_with fail
  refine (newleaf_any w).mono ?_
  rintro e W0 ⟨rfl, hW0⟩
  have H0 : Hid (Both W0 B w.heap.size (.slice none 0 0) [] [w.heap.size] ∧ Below B w W0) := by
    subst hB hW0
    exact ⟨⟨newleaf_tree w _ (Nat.le_refl _), ⟨rfl, .inl ⟨rfl, rfl⟩⟩, List.Pairwise.nil, (fun x hx => by simp [Value.ownBlock] at hx), (Turned.alloc w _ []).size⟩, (Below.refl _ _).alloc (Nat.le_refl _) _⟩
  clear hW0
  go_wp2
  go_loopw [5, 6, 7] (fun s5 s6 s7 wr => ∃ (i b : Nat) (mv : Value) (m : List ByteArray) (fp : List Nat), i ≤ ks.length ∧ s5 = .pointer (some ⟨b, 0, none⟩) ∧ mv = s6 ∧ s7 = .int .i64 i ∧ Hid (Both wr B b mv m fp ∧ Below B w wr ∧ m.length ≤ i)) (fun _ _ s7 _ => ks.length - (intOf s7).toNat)
  case atStart => exact ⟨0, _, _, [], _, Nat.zero_le _, rfl, rfl, by go_num, H0.out.1, H0.out.2, Nat.le_refl _⟩
  case round =>
    obtain ⟨i, b, mv, m, fp, hi, rfl, rfl, rfl, HH⟩ := hrel
    by_cases hlt : i < ks.length
    · have hc : wr.cell? (x.add i) = some (.string ks[i]) := by
        have := HR.out
        rw [← hB] at this
        exact (this.below HH.out.2.1).cell i hlt
      have hm := HH.out.2.2
      have hG : Hid _ := grow_any B b m fp ks[i] wr HH.out.1.size HH.out.1.tree
      have hX : Hid (∀ W1, Below B wr W1 → W1.cell? (x.add i) = some (.string ks[i])) := by
        intro W1 hb
        have := HR.out
        rw [← hB] at this
        exact ((this.below HH.out.2.1).below hb).cell i hlt
      generalize ks[i] = k at *
      go_wp2_with fail
      refine Calls.mono hG.out ?_
      rintro e W1 ⟨b', fp', rfl, hT, hU, hF⟩
      have hc1 : W1.cell? (x.add i) = some (.string k) := hX.out W1 (hU.toBelow (fun y hy => (HH.out.1.tree.lt y hy).2) HH.out.1.size)
      have hM : Hid _ := minsert_any B mv m k W1 (Nat.le_trans HH.out.1.size hU.size) (own_keptL HH.out.1.model (fun y hy => hU.block y (own_mem_lt HH.out.1.model y hy).1 (HH.out.1.apart y hy))) HH.out.1.asc (by omega)
      have HT : Hid (TreeFp W1 B b' (put k m) fp' ∧ Turned wr W1 fp ∧ ∀ y ∈ fp', y ∈ fp ∨ wr.heap.size ≤ y) := ⟨hT, hU, hF⟩
      have HS := put_length k m
      have HP : Hid (Asc (put k m)) := asc_put HH.out.1.asc
      clear hT hU hF hG hX
      generalize put k m = m' at *
      generalize has k m = c at *
      go_wp2_with fail
      refine Calls.mono hM.out ?_
      rintro e W2 ⟨v', rfl, q1, q2, q3⟩
      have HB : Hid (Both W2 B b' v' m' fp' ∧ Below B w W2 ∧ m'.length ≤ i + 1) := by
        obtain ⟨r1, r2⟩ := both_step HH.out.1 HT.out.1 HT.out.2.1 HT.out.2.2 q1 q2 q3 HP.out
        exact ⟨r1, HH.out.2.1.trans r2, by omega⟩
      clear q1 q2 q3 hM HT HH HP hc hc1
      cases c
      · go_wp2
        go_roundw
        case rel => exact ⟨i + 1, b', v', m', fp', by omega, rfl, rfl, by go_num, HB⟩
        case measure => simp [intOf]; omega
      · go_wp2
        go_roundw
        case rel => exact ⟨i + 1, b', v', m', fp', by omega, rfl, rfl, by go_num, HB⟩
        case measure => simp [intOf]; omega
    · obtain rfl : i = ks.length := by omega
      go_wp2
      go_ret3
      obtain ⟨q1, q2, q3⟩ := HH.out
      subst hB
      exact ⟨b, mv, m, fp, rfl, q1, q2, Nat.le_trans q3 hl⟩
end Go.Proofs.Qxb6603837a

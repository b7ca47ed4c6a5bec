/-
  zzGrow: insert at the root as a caller does.
-/
import Derived.Test.Qxb6603837aInsA
namespace Go.Proofs.Qxb6603837a
open Go.RowKit

/-- A sound btree at block b that holds just m, taking the blocks fp. -/
def TreeFp (w : World) (B b : Nat) (m : List ByteArray) (fp : List Nat) : Prop := ∃ (h : Nat) (t : BT h), Rep w B h b t fp ∧ fp.Nodup ∧ Good h true none none t ∧ flat h t = m

/-- The sorted set with one key more. -/
def put (k : ByteArray) (m : List ByteArray) : List ByteArray := if has k m = true then m else ins k m

theorem newleaf_any (w : World) : Calls Try.prog 21 #[] w fun e w' => e = .returned (.pointer (some ⟨w.heap.size, 0, none⟩)) ∧ w' = w.alloc (.cells #[.slice none 0 0, .slice none 0 0] 60) := by
  go_enter Try.func21, Try.ntmps21
  go_wp2
  go_ret
  exact ⟨rfl, rfl⟩

theorem newleaf_tree (w : World) (B : Nat) (hB : B ≤ w.heap.size) : TreeFp (w.alloc (.cells #[.slice none 0 0, .slice none 0 0] 60)) B w.heap.size [] [w.heap.size] := by
  refine ⟨0, ([] : List ByteArray), ⟨.slice none 0 0, heap_alloc_new w _, hB, ⟨rfl, .inl ⟨rfl, rfl⟩⟩, rfl⟩, by simp, ⟨List.Pairwise.nil, fun x hx => by simp at hx, Nat.zero_le _, .inl rfl⟩, rfl⟩

theorem newroot_any (l r : Nat) (s : ByteArray) (w : World) : Calls Try.prog 18 #[.pointer (some ⟨l, 0, none⟩), .string s, .pointer (some ⟨r, 0, none⟩)] w fun e w' => e = .returned (.pointer (some ⟨w.heap.size + 2, 0, none⟩)) ∧
    w' = ((w.alloc (.cells #[.string s] 9)).alloc (.cells #[.pointer (some ⟨l, 0, none⟩), .pointer (some ⟨r, 0, none⟩)] 25)).alloc (.cells #[.slice (some ⟨w.heap.size, 0, none⟩) 1 1, .slice (some ⟨w.heap.size + 1, 0, none⟩) 2 2] 60) := by
  go_enter Try.func18, Try.ntmps18
  go_wp2
  go_ret
  exact ⟨rfl, rfl⟩

theorem newroot_tree {h B l r : Nat} {s : ByteArray} {t' tr : BT h} {fl fr : List Nat} {w : World} (hB : B ≤ w.heap.size) (h1 : Rep w B h l t' fl) (h2 : Rep w B h r tr fr) (hn : (fl ++ fr).Nodup) (g1 : Good h false none (some s) t') (g2 : Good h false (some s) none tr) :
    TreeFp (((w.alloc (.cells #[.string s] 9)).alloc (.cells #[.pointer (some ⟨l, 0, none⟩), .pointer (some ⟨r, 0, none⟩)] 25)).alloc (.cells #[.slice (some ⟨w.heap.size, 0, none⟩) 1 1, .slice (some ⟨w.heap.size + 1, 0, none⟩) 2 2] 60)) B (w.heap.size + 2) (flat h t' ++ flat h tr)
      ((w.heap.size + 2) :: ([w.heap.size] ++ ([w.heap.size + 1] ++ (fl ++ fr)))) := by
  have hold : ∀ x, x < w.heap.size → (((w.alloc (.cells #[.string s] 9)).alloc (.cells #[.pointer (some ⟨l, 0, none⟩), .pointer (some ⟨r, 0, none⟩)] 25)).alloc (.cells #[.slice (some ⟨w.heap.size, 0, none⟩) 1 1, .slice (some ⟨w.heap.size + 1, 0, none⟩) 2 2] 60)).heap[x]? = w.heap[x]? := by
    intro x hx
    rw [Below.heap_alloc _ _ _ (by simp; omega), Below.heap_alloc _ _ _ (by simp; omega), Below.heap_alloc _ _ _ hx]
  have k1 : (((w.alloc (.cells #[.string s] 9)).alloc (.cells #[.pointer (some ⟨l, 0, none⟩), .pointer (some ⟨r, 0, none⟩)] 25)).alloc (.cells #[.slice (some ⟨w.heap.size, 0, none⟩) 1 1, .slice (some ⟨w.heap.size + 1, 0, none⟩) 2 2] 60)).heap[w.heap.size]? = some (.cells #[.string s] 9 (0, 0)) := by
    rw [Below.heap_alloc _ _ _ (by simp; omega), Below.heap_alloc _ _ _ (by simp)]
    exact heap_alloc_new w _
  have k2 : (((w.alloc (.cells #[.string s] 9)).alloc (.cells #[.pointer (some ⟨l, 0, none⟩), .pointer (some ⟨r, 0, none⟩)] 25)).alloc (.cells #[.slice (some ⟨w.heap.size, 0, none⟩) 1 1, .slice (some ⟨w.heap.size + 1, 0, none⟩) 2 2] 60)).heap[w.heap.size + 1]? = some (.cells #[.pointer (some ⟨l, 0, none⟩), .pointer (some ⟨r, 0, none⟩)] 25 (0, 0)) := by
    rw [Below.heap_alloc _ _ _ (by simp)]
    have := heap_alloc_new (w.alloc (.cells #[.string s] 9)) (.cells #[.pointer (some ⟨l, 0, none⟩), .pointer (some ⟨r, 0, none⟩)] 25)
    simpa using this
  have k3 : (((w.alloc (.cells #[.string s] 9)).alloc (.cells #[.pointer (some ⟨l, 0, none⟩), .pointer (some ⟨r, 0, none⟩)] 25)).alloc (.cells #[.slice (some ⟨w.heap.size, 0, none⟩) 1 1, .slice (some ⟨w.heap.size + 1, 0, none⟩) 2 2] 60)).heap[w.heap.size + 2]? = some (.cells #[.slice (some ⟨w.heap.size, 0, none⟩) 1 1, .slice (some ⟨w.heap.size + 1, 0, none⟩) 2 2] 60 (0, 0)) := by
    have := heap_alloc_new ((w.alloc (.cells #[.string s] 9)).alloc (.cells #[.pointer (some ⟨l, 0, none⟩), .pointer (some ⟨r, 0, none⟩)] 25)) (.cells #[.slice (some ⟨w.heap.size, 0, none⟩) 1 1, .slice (some ⟨w.heap.size + 1, 0, none⟩) 2 2] 60)
    simpa using this
  generalize ((w.alloc (.cells #[.string s] 9)).alloc (.cells #[.pointer (some ⟨l, 0, none⟩), .pointer (some ⟨r, 0, none⟩)] 25)).alloc (.cells #[.slice (some ⟨w.heap.size, 0, none⟩) 1 1, .slice (some ⟨w.heap.size + 1, 0, none⟩) 2 2] 60) = W at *
  have m1 := (rep_mem h h1).2
  have m2 := (rep_mem h h2).2
  have q1 : Rep W B h l t' fl := rep_kept h h1 (fun x hx => hold x (m1 x hx).1)
  have q2 : Rep W B h r tr fr := rep_kept h h2 (fun x hx => hold x (m2 x hx).1)
  have hml : ∀ x ∈ fl ++ fr, x < w.heap.size := by
    intro x hx
    rcases List.mem_append.1 hx with hx | hx
    · exact (m1 x hx).1
    · exact (m2 x hx).1
  refine ⟨h + 1, ([s], [t', tr]), ⟨_, _, [l, r], [fl, fr], k3, by omega, own_mk (xs := [Value.string s]) hB k1 rfl (Nat.le_refl _) (by decide) (fun j hj => by cases j with | zero => rfl | succ j => simp at hj), own_mk (xs := ptrs [l, r]) (by omega) k2 rfl (Nat.le_refl _) (by decide) (fun j hj => by
      rcases j with _ | _ | j
      · rfl
      · rfl
      · have : (ptrs [l, r]).length = 2 := rfl
        omega), rfl, rfl, ?_, by simp [Value.ownBlock]⟩, ?_, ?_, by simp [flat]⟩
  · intro i b' u f e1 e2 e3
    rcases i with _ | _ | i
    · cases e1; cases e2; cases e3; exact q1
    · cases e1; cases e2; cases e3; exact q2
    · cases e1
  · have : ∀ x ∈ fl ++ fr, x ≠ w.heap.size ∧ x ≠ w.heap.size + 1 ∧ x ≠ w.heap.size + 2 := fun x hx => by have := hml x hx; omega
    rw [List.nodup_cons, List.nodup_append, List.nodup_append]
    refine ⟨?_, by simp, ⟨by simp, hn, ?_⟩, ?_⟩
    · intro hm
      rcases List.mem_append.1 hm with hm | hm
      · simp at hm
      · rcases List.mem_append.1 hm with hm | hm
        · simp at hm
        · exact (this _ hm).2.2 rfl
    · intro x hx y hy e
      subst e
      exact (this x hy).2.1 (List.mem_singleton.1 hx)
    · intro x hx y hy e
      subst e
      have hx' := List.mem_singleton.1 hx
      rcases List.mem_append.1 hy with hy | hy
      · have := List.mem_singleton.1 hy; omega
      · exact (this x hy).1 hx'
  · refine ⟨⟨rfl, List.pairwise_singleton _ _, ?_, ?_⟩, by show 2 ≤ 64; omega, Nat.le_refl _, .inl rfl⟩
    · intro x hx
      exact ⟨(fun a ha => by cases ha), fun b hb => by cases hb⟩
    · intro i u hu
      rcases i with _ | _ | i
      · cases hu; exact g1
      · cases hu; exact g2
      · cases hu

set_option maxRecDepth 100000 in
set_option maxHeartbeats 1000000 in
theorem grow_any (B b : Nat) (m : List ByteArray) (fp : List Nat) (k : ByteArray) (w : World) (hB : B ≤ w.heap.size) (ht : TreeFp w B b m fp) :
    Calls Try.prog 22 #[.pointer (some ⟨b, 0, none⟩), .string k] w fun e w' => ∃ b' fp', e = .returned (.tuple #[.pointer (some ⟨b', 0, none⟩), .bool (!has k m), .bool true]) ∧ TreeFp w' B b' (put k m) fp' ∧ Turned w w' fp ∧ ∀ x ∈ fp', x ∈ fp ∨ w.heap.size ≤ x := by
  obtain ⟨h, t, hr, hn, g, rfl⟩ := ht
  have hz := zzinsert_any h B b t fp k w true none none hB hr hn g
  have hg := ins_good h true none none t k g ⟨(fun a ha => by cases ha), fun b hb => by cases hb⟩
  rcases hR : insT h t k with ⟨a, t', o⟩
  rw [hR] at hz hg
  obtain ⟨g1, g2, g3⟩ := hg
  have g1' : a = !has k (flat h t) := g1
  subst g1'
  have HI : Hid _ := hz
  cases o with
  | none =>
    obtain ⟨g4, g5⟩ := g2 rfl
    have HG : Hid (Good h true none none t' ∧ flat h t' = put k (flat h t)) := ⟨g4, g5⟩
    clear hz hr hn g g1 g2 g3 g4 g5 hR
    go_enter Try.func22, Try.ntmps22
    go_wp2_with fail
    refine Calls.mono HI.out ?_
    rintro e W1 ⟨hT, f', h1, h2⟩
    obtain ⟨rfl, q1, q2, q3⟩ := h1 rfl
    have HQ : Hid (Turned w W1 fp ∧ Rep W1 B h b t' f' ∧ f'.Nodup ∧ ∀ x ∈ f', x ∈ fp ∨ w.heap.size ≤ x) := ⟨hT, q1, q2, q3⟩
    clear hT h1 h2 q1 q2 q3
    go_wp2
    go_ret3
    obtain ⟨hT, q1, q2, q3⟩ := HQ.out
    exact ⟨b, f', rfl, ⟨h, t', q1, q2, HG.out.1, HG.out.2⟩, hT, q3⟩
  | some p =>
    obtain ⟨s, tr⟩ := p
    obtain ⟨g4, g5, _, _, g6, g7⟩ := g3 s tr rfl
    have HG : Hid (Good h false none (some s) t' ∧ Good h false (some s) none tr ∧ has k (flat h t) = false ∧ flat h t' ++ flat h tr = ins k (flat h t)) := ⟨g4, g5, g6, g7⟩
    rw [g6] at HI
    clear hz hr hn g g1 g2 g3 g4 g5 g6 g7 hR
    go_enter Try.func22, Try.ntmps22
    go_wp2_with fail
    refine Calls.mono HI.out ?_
    rintro e W1 ⟨hT, f', h1, h2⟩
    obtain ⟨br, fr, rfl, q1, q2, q3, q4⟩ := h2 s tr rfl
    have HQ : Hid (Turned w W1 fp ∧ Rep W1 B h b t' f' ∧ Rep W1 B h br tr fr ∧ (f' ++ fr).Nodup ∧ ∀ x ∈ f' ++ fr, x ∈ fp ∨ w.heap.size ≤ x) := ⟨hT, q1, q2, q3, q4⟩
    clear hT h1 h2 q1 q2 q3 q4
    go_wp2_with fail
    refine (newroot_any b br s W1).mono ?_
    rintro e W2 ⟨rfl, rfl⟩
    go_wp2
    go_ret3
    obtain ⟨hT, q1, q2, q3, q4⟩ := HQ.out
    obtain ⟨g4, g5, g6, g7⟩ := HG.out
    have hz1 := hT.size
    have htr := newroot_tree (by omega) q1 q2 q3 g4 g5
    have hput : put k (flat h t) = ins k (flat h t) := by unfold put; rw [g6]; rfl
    refine ⟨W1.heap.size + 2, _, by rw [g6]; rfl, by rw [hput, ← g7]; exact htr, ?_, ?_⟩
    · exact ((hT.trans (Turned.alloc _ _ fp) (fun x hx => .inl hx)).trans (Turned.alloc _ _ fp) (fun x hx => .inl hx)).trans (Turned.alloc _ _ fp) (fun x hx => .inl hx)
    · intro x hx
      rcases List.mem_cons.1 hx with rfl | hx
      · right; omega
      · rcases List.mem_append.1 hx with hx | hx
        · right; have := List.mem_singleton.1 hx; omega
        · rcases List.mem_append.1 hx with hx | hx
          · right; have := List.mem_singleton.1 hx; omega
          · exact q4 x hx
end Go.Proofs.Qxb6603837a

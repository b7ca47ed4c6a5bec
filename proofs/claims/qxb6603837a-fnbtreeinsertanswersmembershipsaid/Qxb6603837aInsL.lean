/-
  insert at a leaf.
-/
import Derived.Test.Qxb6603837aRep
namespace Go.Proofs.Qxb6603837a
open Go.RowKit

theorem map_ins (k : ByteArray) (ks : List ByteArray) : (ks.map Value.string).take (lb k ks) ++ Value.string k :: (ks.map Value.string).drop (lb k ks) = (ins k ks).map Value.string := by
  unfold ins
  simp

theorem opt_nodup (o : Option Nat) : o.toList.Nodup := by cases o <;> simp

set_option maxRecDepth 100000 in
set_option maxHeartbeats 1000000 in
theorem insert_leaf_old (B b : Nat) (kv : Value) (ks : List ByteArray) (k : ByteArray) (w : World) (hb : w.heap[b]? = some (.cells #[kv, .slice none 0 0] 60 (0, 0))) (ho : Own w B 9 kv (ks.map Value.string))
    (ha : Asc ks) (hl : ks.length ≤ 64) (hh : has k ks = true) :
    Calls Try.prog 33 #[.pointer (some ⟨b, 0, none⟩), .string k] w fun e w' => e = .returned (.tuple #[.bool false, .pointer none, .string ⟨#[]⟩]) ∧ ∃ q, w' = w.drewN q := by
  have h0 := cell0 hb
  have h1 := cell1 hb
  have hf := find_leaf B b kv ks k w h0 h1 ho ha (by omega)
  rw [hh] at hf
  have HF : Hid _ := hf
  clear hf ho hb ha
  go_enter Try.func33, Try.ntmps33
  go_wp2_with fail
  refine Calls.mono HF.out ?_
  rintro e W0 ⟨rfl, q, rfl⟩
  go_wp2_with (go_at_call 35; refine same_of (leaf_true b _ (by exact h1)) ?_)
  go_ret3
  exact ⟨rfl, q, rfl⟩

set_option maxRecDepth 100000 in
set_option maxHeartbeats 2000000 in
theorem insert_leaf_new (B b : Nat) (kv : Value) (ks : List ByteArray) (k : ByteArray) (w : World) (hB : B ≤ w.heap.size) (hBb : B ≤ b) (hb : w.heap[b]? = some (.cells #[kv, .slice none 0 0] 60 (0, 0))) (ho : Own w B 9 kv (ks.map Value.string))
    (ha : Asc ks) (hl : ks.length ≤ 64) (hh : has k ks = false) (hne : kv.ownBlock ≠ some b) :
    Calls Try.prog 33 #[.pointer (some ⟨b, 0, none⟩), .string k] w fun e w' => InsPost B 0 b (insLeaf k ks) (b :: kv.ownBlock.toList) w e w' := by
  have h0 := cell0 hb
  have h1 := cell1 hb
  have hbw := lt_of_heap hb
  have hf := find_leaf B b kv ks k w h0 h1 ho ha (by omega)
  rw [hh] at hf
  have HF : Hid _ := hf
  have hlb := lb_le k ks
  have HB : Hid (w.heap[b]? = some (.cells #[kv, .slice none 0 0] 60 (0, 0))) := hb
  have HO : Hid (Own w B 9 kv (ks.map Value.string)) := ho
  have HH : Hid (has k ks = false) := hh
  have HN : Hid (kv.ownBlock ≠ some b) := hne
  clear hf ho hb ha hh hne
  go_enter Try.func33, Try.ntmps33
  go_wp2_with fail
  refine Calls.mono HF.out ?_
  rintro e W0 ⟨rfl, q, hW0⟩
  have T0 : Hid (Turned w W0 (b :: kv.ownBlock.toList)) := by rw [hW0]; exact Turned.drewN w q _
  have E0 : Hid (W0.heap = w.heap) := by rw [hW0]; rfl
  have z0 : W0.heap.size = w.heap.size := by rw [E0.out]
  have c0 : W0.cell? ⟨b, 0, none⟩ = some kv := by rw [hW0]; exact h0
  have c1 : W0.cell? ⟨b, 1, none⟩ = some (.slice none 0 0) := by rw [hW0]; exact h1
  have hbW : b < W0.heap.size := by omega
  have Z0 : Hid (W0.heap.size = w.heap.size) := z0
  clear hW0 h0 h1 z0
  have hbne : ¬ (b = W0.heap.size) := by omega
  go_wp2_with (go_at_call 35; refine same_of (leaf_true b _ c1) ?_)
  have hO1 : Own (W0.alloc (.cells #[.string k] 9)) B 9 kv (ks.map Value.string) := own_kept HO.out (fun g hg => by
    have := own_block_lt HO.out hg
    rw [Below.heap_alloc _ _ _ (by rw [Z0.out]; exact this), E0.out])
  refine (insS_own B (lb k ks) W0.heap.size kv (.string k) (ks.map Value.string) 9 _ (by simp; rw [Z0.out]; omega) hO1 (by simpa using hlb) (by simp; omega) (one_strings ks) rfl (heap_alloc_new W0 _) (by
    intro e
    have := own_block_lt HO.out e
    rw [Z0.out] at this
    omega)).mono ?_
  rintro e W1 ⟨v', rfl, hown, hgr, hblk, hsome⟩
  rw [map_ins] at hown
  have hlenI := ins_length k ks
  obtain ⟨g', N, cap', hN, hv⟩ : ∃ g' N cap', (ins k ks).length = N ∧ v' = .slice (some ⟨g', 0, none⟩) N cap' := by
    rcases own_open hown with ⟨hv, _⟩ | ⟨g', cap', cur, hv, _⟩
    · rw [hv] at hsome; cases hsome
    · exact ⟨g', _, cap', rfl, by rw [hv, List.length_map]⟩
  subst hv
  have hz1 := hgr.size
  simp only [World.alloc, Array.size_push] at hz1
  have hb1 : W1.heap[b]? = some (.cells #[kv, .slice none 0 0] 60 (0, 0)) := by
    rw [hgr.block b (by simp; omega) (fun e => HN.out e.symm), Below.heap_alloc _ _ _ hbW, E0.out]
    exact HB.out
  have hgb : b ≠ g' := by
    rintro rfl
    rcases hblk with e | e
    · exact HN.out (by rw [← e]; rfl)
    · have := ownBlock_slice e
      simp at this
      omega
  have hg'w : ∀ x, x = g' → x ∈ (b :: kv.ownBlock.toList) ∨ w.heap.size ≤ x := by
    rintro x rfl
    rcases hblk with e | e
    · exact .inl (List.mem_cons_of_mem _ (by rw [← e]; simp [Value.ownBlock]))
    · have := ownBlock_slice e
      simp at this
      right
      rw [← Z0.out]
      omega
  have d0 := cell0 hb1
  have d1 := frozen_heap hb1 0
  have hb2 : (W1.setCell ⟨b, 0, none⟩ (.slice (some ⟨g', 0, none⟩) N cap')).heap[b]? = some (.cells #[.slice (some ⟨g', 0, none⟩) N cap', .slice none 0 0] 60 (0, 0)) := heap_setCell0 hb1
  have hO2 : Own (W1.setCell ⟨b, 0, none⟩ (.slice (some ⟨g', 0, none⟩) N cap')) B 9 (.slice (some ⟨g', 0, none⟩) N cap') ((ins k ks).map Value.string) :=
    own_kept hown (fun x hx => by rw [ownBlock_slice hx]; exact Below.heap_setCell _ _ _ _ (fun e => hgb e.symm))
  have hT2 : Turned w (W1.setCell ⟨b, 0, none⟩ (.slice (some ⟨g', 0, none⟩) N cap')) (b :: kv.ownBlock.toList) :=
    ((T0.out.trans (Turned.alloc W0 (.cells #[.string k] 9) (b :: kv.ownBlock.toList)) (fun x hx => .inl hx)).trans (Turned.grown hgr (fp := b :: kv.ownBlock.toList) (fun x hx => .inl (List.mem_cons_of_mem _ (by rw [hx]; simp)))) (fun x hx => .inl hx)).trans (Turned.setCell W1 ⟨b, 0, none⟩ _ (fp := b :: kv.ownBlock.toList) (.inl (by simp))) (fun x hx => .inl hx)
  have hz2 : (W1.setCell ⟨b, 0, none⟩ (.slice (some ⟨g', 0, none⟩) N cap')).heap.size = W1.heap.size := by simp [World.setCell]
  have s0 := cell0 hb2
  have s1 := cell1 hb2
  have HB2 : Hid _ := hb2
  have HO2 : Hid _ := hO2
  have HT2 : Hid _ := hT2
  have HZ2 : Hid _ := hz2
  have HN2 : Hid ((ins k ks).length = N) := hN
  have hn2 : N ≤ 65 := by omega
  have HG : Hid (∀ x, x = g' → x ∈ (b :: kv.ownBlock.toList) ∨ w.heap.size ≤ x) := hg'w
  clear hb1 hb2 hO2 hT2 hz2 hN hg'w hblk hgr hown hO1 hsome c0 c1 hlenI
  go_wp2_with fail
  refine same_of (size_leaf b N cap' _ _ s0 s1) ?_
  by_cases hle : N ≤ 64
  · go_wp2
    go_ret3
    refine ⟨HT2.out, [b, g'], ?_, ?_⟩
    · intro _
      have e : insLeaf k ks = (true, ins k ks, none) := by
        unfold insLeaf
        rw [if_neg (by rw [HH.out]; decide), if_pos (by rw [HN2.out]; exact hle)]
      rw [e]
      refine ⟨rfl, ⟨_, HB2.out, hBb, HO2.out, rfl⟩, by simp; exact hgb, ?_⟩
      intro x hx
      rcases List.mem_cons.1 hx with rfl | hx
      · exact .inl (List.mem_cons_self ..)
      · exact HG.out x (List.mem_singleton.1 hx)
    · intro s tr hs
      exfalso
      unfold insLeaf at hs
      rw [if_neg (by rw [HH.out]; decide), if_pos (by rw [HN2.out]; exact hle)] at hs
      cases hs
  · obtain rfl : N = 65 := by omega
    go_wp2_with fail
    refine (split_leaf B b g' cap' (ins k ks) _ (by rw [HZ2.out]; rw [Z0.out] at hz1; omega) HB2.out hgb HN2.out HO2.out).mono ?_
    rintro e W3 ⟨br, rv, rfl, r1, r2, r3, r4, r5, r6, r7⟩
    have HR : Hid _ := And.intro r1 (And.intro r2 (And.intro r3 (And.intro r4 (And.intro r5 (And.intro r6 r7)))))
    clear r1 r2 r3 r4 r5 r6 r7
    go_wp2
    go_ret3
    obtain ⟨r1, r2, r3, r4, r5, r6, r7⟩ := HR.out
    have hz : w.heap.size ≤ (W1.setCell ⟨b, 0, none⟩ (.slice (some ⟨g', 0, none⟩) 65 cap')).heap.size := by rw [HZ2.out]; rw [Z0.out] at hz1; omega
    have hlt := rep_mem 0 (w := W1.setCell ⟨b, 0, none⟩ (.slice (some ⟨g', 0, none⟩) 65 cap')) (B := B) (b := b) (t := ins k ks) (fp := [b, g']) ⟨_, HB2.out, hBb, HO2.out, rfl⟩
    have e : insLeaf k ks = (true, (ins k ks).take 32, some ((ins k ks).getD 32 ⟨#[]⟩, (ins k ks).drop 32)) := by
      unfold insLeaf
      rw [if_neg (by rw [HH.out]; decide), if_neg (by rw [HN2.out]; omega)]
    refine ⟨HT2.out.trans r5 ?_, [b, g'], ?_, ?_⟩
    · intro x hx
      rcases List.mem_cons.1 hx with rfl | hx
      · exact .inl (List.mem_cons_self ..)
      · exact HG.out x (List.mem_singleton.1 hx)
    · intro h
      rw [e] at h
      cases h
    · intro s tr hs
      rw [e] at hs ⊢
      cases hs
      refine ⟨br, br :: rv.ownBlock.toList, rfl, ⟨_, r1, hBb, r2, rfl⟩, ⟨rv, r3, by omega, r4, rfl⟩, ?_, ?_⟩
      · have h1 := (hlt.2 b (by simp)).1
        have h2 := (hlt.2 g' (by simp)).1
        cases ho : rv.ownBlock with
        | none => simp; omega
        | some x =>
          have := r7 x ho
          simp
          omega
      · intro x hx
        rcases List.mem_append.1 hx with hx | hx
        · rcases List.mem_cons.1 hx with rfl | hx
          · exact .inl (List.mem_cons_self ..)
          · exact HG.out x (List.mem_singleton.1 hx)
        · right
          rcases List.mem_cons.1 hx with rfl | hx
          · omega
          · have := r7 x (by simpa using hx)
            omega

theorem insert_leaf (B b : Nat) (ks : List ByteArray) (fp : List Nat) (k : ByteArray) (w : World) (hB : B ≤ w.heap.size) (hr : Rep w B 0 b ks fp) (hn : fp.Nodup) (ha : Asc ks) (hl : ks.length ≤ 64) :
    Calls Try.prog 33 #[.pointer (some ⟨b, 0, none⟩), .string k] w fun e w' => InsPost B 0 b (insLeaf k ks) fp w e w' := by
  obtain ⟨kv, h1, h2, h3, rfl⟩ := hr
  have hne : kv.ownBlock ≠ some b := by
    intro e
    rw [e] at hn
    simp at hn
  cases hh : has k ks with
  | false => exact insert_leaf_new B b kv ks k w hB h2 h1 h3 ha hl hh hne
  | true =>
    refine (insert_leaf_old B b kv ks k w h1 h3 ha hl hh).mono ?_
    rintro e w' ⟨rfl, q, rfl⟩
    have e : insLeaf k ks = (false, ks, none) := by unfold insLeaf; rw [if_pos hh]
    rw [e]
    refine ⟨Turned.drewN w q _, b :: kv.ownBlock.toList, ?_, fun s tr h => by cases h⟩
    intro _
    exact ⟨rfl, ⟨kv, h1, h2, h3, rfl⟩, hn, fun x hx => .inl hx⟩
end Go.Proofs.Qxb6603837a

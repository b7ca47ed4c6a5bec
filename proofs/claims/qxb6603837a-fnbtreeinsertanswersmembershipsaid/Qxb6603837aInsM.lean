/-
  insert at an inner node whose child splits.
-/
import Derived.Test.Qxb6603837aInsN
namespace Go.Proofs.Qxb6603837a
open Go.RowKit

/-- The state behind the child's answer. -/
structure Mid (B h b : Nat) (kv cv : Value) (ks : List ByteArray) (bs bs' : List Nat) (ts' : List (BT h)) (fps' : List (List Nat)) (w W : World) : Prop where
  hB : B ≤ W.heap.size
  hb : W.heap[b]? = some (.cells #[kv, cv] 60 (0, 0))
  ho : Own W B 9 kv (ks.map Value.string)
  hoc : Own W B 25 cv (ptrs bs)
  kids : Kids W B h bs' ts' fps'
  nd : (b :: (kv.ownBlock.toList ++ (cv.ownBlock.toList ++ fps'.flatten))).Nodup
  size : w.heap.size ≤ W.heap.size

theorem Mid.lt {B h b : Nat} {kv cv : Value} {ks : List ByteArray} {bs bs' : List Nat} {ts' : List (BT h)} {fps' : List (List Nat)} {w W : World} (M : Mid B h b kv cv ks bs bs' ts' fps' w W) : ∀ x ∈ b :: (kv.ownBlock.toList ++ (cv.ownBlock.toList ++ fps'.flatten)), x < W.heap.size := by
  intro x hx
  rcases List.mem_cons.1 hx with rfl | hx
  · exact lt_of_heap M.hb
  · rcases List.mem_append.1 hx with hx | hx
    · exact (own_mem_lt M.ho x hx).1
    · rcases List.mem_append.1 hx with hx | hx
      · exact (own_mem_lt M.hoc x hx).1
      · exact (kids_mem M.kids x hx).1

/-- From the node before the call to the state behind the child's answer. -/
theorem mid_of {B h b c bc br : Nat} {kv cv : Value} {ks : List ByteArray} {ts : List (BT h)} {bs : List Nat} {fps : List (List Nat)} {fc f' fr : List Nat} {t' tr : BT h} {w W0 W1 : World} (H : InN B h b kv cv ks ts bs fps w) (E0 : W0.heap = w.heap)
    (hbc : bs[c]? = some bc) (hfc : fps[c]? = some fc) (hT1 : Turned W0 W1 fc) (hr1 : Rep W1 B h bc t' f') (hr2 : Rep W1 B h br tr fr) (hn1 : (f' ++ fr).Nodup) (hs1 : ∀ x ∈ f' ++ fr, x ∈ fc ∨ W0.heap.size ≤ x) :
    Mid B h b kv cv ks bs (bs.take (c + 1) ++ br :: bs.drop (c + 1)) ((ts.set c t').take (c + 1) ++ tr :: (ts.set c t').drop (c + 1)) ((fps.set c f').take (c + 1) ++ fr :: (fps.set c f').drop (c + 1)) w W1 ∧
    (∀ x ∈ ((fps.set c f').take (c + 1) ++ fr :: (fps.set c f').drop (c + 1)).flatten, x ∈ fps.flatten ∨ w.heap.size ≤ x) := by
  have hsz : W0.heap.size = w.heap.size := by rw [E0]
  have hfm : ∀ x ∈ fc, x ∈ fps.flatten := fun x hx => List.mem_flatten.2 ⟨fc, List.mem_of_getElem? hfc, hx⟩
  have hc : c < bs.length := (List.getElem?_eq_some_iff.1 hbc).1
  have hndf : fps.flatten.Nodup := (List.nodup_append.1 (List.nodup_append.1 (List.nodup_cons.1 H.nd).2).2.1).2.1
  have nd := H.nd
  rw [List.nodup_cons, List.nodup_append, List.nodup_append] at nd
  obtain ⟨nb, nk, ⟨nc, nf, ncf⟩, nkr⟩ := nd
  have hbw := lt_of_heap H.hb
  have hbfc : b ∉ fc := fun e => nb (List.mem_append.2 (.inr (List.mem_append.2 (.inr (hfm _ e)))))
  have hkfc : ∀ x ∈ kv.ownBlock.toList, x ∉ fc := fun x hx e => nkr x hx x (List.mem_append.2 (.inr (hfm _ e))) rfl
  have hcfc : ∀ x ∈ cv.ownBlock.toList, x ∉ fc := fun x hx e => ncf x hx x (hfm _ e) rfl
  have hbk : ∀ x, x < w.heap.size → x ∉ fc → W1.heap[x]? = w.heap[x]? := fun x hx hn => (hT1.block x (by omega) hn).trans (by rw [E0])
  have hK0 : Kids W0 B h bs ts fps := kids_kept H.kids (fun x _ => by rw [E0])
  have hK1 := kids_set hK0 hbc hfc hr1 hT1 hndf
  have hK2 := kids_up hK1 (c := c + 1) (by omega) hr2
  have fe1 := (flatten_set hfc f').1
  have fe2 := flatten_up hfc f' fr
  have hmemlt : ∀ x ∈ b :: (kv.ownBlock.toList ++ (cv.ownBlock.toList ++ fps.flatten)), x < w.heap.size := by
    intro x hx
    rcases List.mem_cons.1 hx with rfl | hx
    · exact hbw
    · rcases List.mem_append.1 hx with hx | hx
      · exact (own_mem_lt H.ho x hx).1
      · rcases List.mem_append.1 hx with hx | hx
        · exact (own_mem_lt H.hoc x hx).1
        · exact (kids_mem H.kids x hx).1
  refine ⟨⟨Nat.le_trans H.hB (by rw [← hsz]; exact hT1.size), (hbk b hbw hbfc).trans H.hb, own_keptL H.ho (fun x hx => hbk x (own_mem_lt H.ho x hx).1 (hkfc x hx)), own_keptL H.hoc (fun x hx => hbk x (own_mem_lt H.hoc x hx).1 (hcfc x hx)), hK2, ?_, by rw [← hsz]; exact hT1.size⟩, ?_⟩
  · rw [fe2]
    have := nodup_swap (A := b :: (kv.ownBlock.toList ++ (cv.ownBlock.toList ++ (fps.take c).flatten))) (F := fc) (C := (fps.drop (c + 1)).flatten) (G := f' ++ fr) (N := w.heap.size) (by
      have := H.nd
      rw [fe1] at this
      simpa using this) hn1 (fun x hx => by rw [← hsz]; exact hs1 x hx) (fun x hx => hmemlt x (by rw [fe1]; simp at hx ⊢; rcases hx with h | h | h | h <;> simp [h])) (fun x hx => hmemlt x (by rw [fe1]; simp at hx ⊢; simp [hx]))
    simpa using this
  · intro x hx
    rw [fe2] at hx
    rcases List.mem_append.1 hx with hx | hx
    · exact .inl (by rw [fe1]; exact List.mem_append.2 (.inl hx))
    · rcases List.mem_append.1 hx with hx | hx
      · rcases hs1 x hx with h | h
        · exact .inl (hfm x h)
        · exact .inr (by omega)
      · exact .inl (by rw [fe1]; exact List.mem_append.2 (.inr (List.mem_append.2 (.inr hx))))

/-- The two rows laid anew: the node is whole again. -/
theorem mid_fin {B h b : Nat} {kv cv v1 v2 : Value} {ks : List ByteArray} {bs bs' : List Nat} {ts' : List (BT h)} {fps' : List (List Nat)} {w W1 W5 : World} (M : Mid B h b kv cv ks bs bs' ts' fps' w W1)
    (hT : Turned W1 W5 (b :: (kv.ownBlock.toList ++ cv.ownBlock.toList))) (h1 : ∀ x ∈ v1.ownBlock.toList, x ∈ kv.ownBlock.toList ∨ W1.heap.size ≤ x) (N2 : Nat) (h1' : ∀ x ∈ v1.ownBlock.toList, x < N2) (hN2 : W1.heap.size ≤ N2)
    (h2 : ∀ x ∈ v2.ownBlock.toList, x ∈ cv.ownBlock.toList ∨ N2 ≤ x) :
    Kids W5 B h bs' ts' fps' ∧ (b :: (v1.ownBlock.toList ++ (v2.ownBlock.toList ++ fps'.flatten))).Nodup ∧ ∀ x ∈ b :: (v1.ownBlock.toList ++ (v2.ownBlock.toList ++ fps'.flatten)), x ∈ b :: (kv.ownBlock.toList ++ (cv.ownBlock.toList ++ fps'.flatten)) ∨ W1.heap.size ≤ x := by
  have nd := M.nd
  have hlt := M.lt
  have nd0 := M.nd
  rw [List.nodup_cons, List.nodup_append, List.nodup_append] at nd
  obtain ⟨nb, nk, ⟨nc, nf, ncf⟩, nkr⟩ := nd
  refine ⟨kids_kept M.kids ?_, ?_, ?_⟩
  · intro x hx
    refine hT.block x (kids_mem M.kids x hx).1 ?_
    intro hm
    rcases List.mem_cons.1 hm with rfl | hm
    · exact nb (List.mem_append.2 (.inr (List.mem_append.2 (.inr hx))))
    · rcases List.mem_append.1 hm with hm | hm
      · exact nkr x hm x (List.mem_append.2 (.inr hx)) rfl
      · exact ncf x hm x hx rfl
  · have s1 := nodup_swap (A := [b]) (F := kv.ownBlock.toList) (C := cv.ownBlock.toList ++ fps'.flatten) (G := v1.ownBlock.toList) (N := W1.heap.size) (by simpa using nd0) (opt_nodup _) h1 (fun x hx => hlt x (by simp at hx; simp [hx])) (fun x hx => hlt x (by simp at hx ⊢; rcases hx with h | h <;> simp [h]))
    have s2 := nodup_swap (A := b :: v1.ownBlock.toList) (F := cv.ownBlock.toList) (C := fps'.flatten) (G := v2.ownBlock.toList) (N := N2) (by simpa using s1) (opt_nodup _) h2 (fun x hx => by
      rcases List.mem_cons.1 hx with rfl | hx
      · have := hlt x (List.mem_cons_self ..); omega
      · exact h1' x hx) (fun x hx => by have := hlt x (by simp at hx ⊢; simp [hx]); omega)
    simpa using s2
  · intro x hx
    rcases List.mem_cons.1 hx with rfl | hx
    · exact .inl (List.mem_cons_self ..)
    · rcases List.mem_append.1 hx with hx | hx
      · rcases h1 x hx with h | h
        · exact .inl (List.mem_cons_of_mem _ (List.mem_append.2 (.inl h)))
        · exact .inr h
      · rcases List.mem_append.1 hx with hx | hx
        · rcases h2 x hx with h | h
          · exact .inl (List.mem_cons_of_mem _ (List.mem_append.2 (.inr (List.mem_append.2 (.inl h)))))
          · exact .inr (by omega)
        · exact .inl (List.mem_cons_of_mem _ (List.mem_append.2 (.inr (List.mem_append.2 (.inr hx)))))

/-- The node cut in two: both halves are whole. -/
theorem fin_split {B h b g1 cap1 gd cap2 br : Nat} {rv cv : Value} {K : List ByteArray} {bs : List Nat} {ts : List (BT h)} {fps : List (List Nat)} {W5 W6 : World} (hBb : B ≤ b) (_hB5 : B ≤ W5.heap.size) (hbl : b < W5.heap.size) (hg1l : g1 < W5.heap.size) (hgdl : gd < W5.heap.size) (hK5 : Kids W5 B h bs ts fps) (nd5 : (b :: ([g1] ++ ([gd] ++ fps.flatten))).Nodup)
    (r1 : W6.heap[b]? = some (.cells #[.slice (some ⟨g1, 0, none⟩) 31 cap1, .slice (some ⟨gd, 0, none⟩) 32 cap2] 60 (0, 0))) (r2 : Own W6 B 9 (.slice (some ⟨g1, 0, none⟩) 31 cap1) ((K.take 31).map Value.string)) (r3 : Own W6 B 25 (.slice (some ⟨gd, 0, none⟩) 32 cap2) (ptrs (bs.take 32)))
    (r4 : W6.heap[br]? = some (.cells #[rv, cv] 60 (0, 0))) (r5 : Own W6 B 9 rv ((K.drop 32).map Value.string)) (r6 : Own W6 B 25 cv (ptrs (bs.drop 32))) (r7 : Turned W5 W6 [b, g1, gd]) (r8 : W5.heap.size ≤ br)
    (r9 : ∀ x, rv.ownBlock = some x → W5.heap.size ≤ x ∧ x ≠ br) (r10 : ∀ x, cv.ownBlock = some x → W5.heap.size ≤ x ∧ x ≠ br ∧ rv.ownBlock ≠ some x) :
    Rep W6 B (h + 1) b (K.take 31, ts.take 32) (b :: ([g1] ++ ([gd] ++ (fps.take 32).flatten))) ∧ Rep W6 B (h + 1) br (K.drop 32, ts.drop 32) (br :: (rv.ownBlock.toList ++ (cv.ownBlock.toList ++ (fps.drop 32).flatten))) ∧
    ((b :: ([g1] ++ ([gd] ++ (fps.take 32).flatten))) ++ (br :: (rv.ownBlock.toList ++ (cv.ownBlock.toList ++ (fps.drop 32).flatten)))).Nodup ∧
    ∀ x ∈ (b :: ([g1] ++ ([gd] ++ (fps.take 32).flatten))) ++ (br :: (rv.ownBlock.toList ++ (cv.ownBlock.toList ++ (fps.drop 32).flatten))), x ∈ b :: ([g1] ++ ([gd] ++ fps.flatten)) ∨ W5.heap.size ≤ x := by
  have hfe : fps.flatten = (fps.take 32).flatten ++ (fps.drop 32).flatten := by rw [← List.flatten_append, List.take_append_drop]
  have hdis : ∀ x ∈ fps.flatten, x ∉ [b, g1, gd] := by
    intro x hx hm
    rw [List.nodup_cons, List.nodup_append, List.nodup_append] at nd5
    obtain ⟨n1, _, ⟨_, _, n3⟩, n4⟩ := nd5
    simp only [List.mem_cons, List.not_mem_nil, or_false] at hm
    rcases hm with rfl | rfl | rfl
    · exact n1 (by simp; simp at hx; simp [hx])
    · exact n4 x (by simp) x (by simp; simp at hx; simp [hx]) rfl
    · exact n3 x (by simp) x hx rfl
  have hK6 : Kids W6 B h bs ts fps := kids_kept hK5 (fun x hx => r7.block x (kids_mem hK5 x hx).1 (hdis x hx))
  have kt := kids_take hK6 32
  have kd := kids_drop hK6 32
  have hlt : ∀ x ∈ fps.flatten, x < W5.heap.size := fun x hx => (kids_mem hK5 x hx).1
  refine ⟨⟨_, _, _, _, r1, hBb, r2, r3, kt.1, kt.2.1, kt.2.2, rfl⟩, ⟨rv, cv, _, _, r4, by omega, r5, r6, kd.1, kd.2.1, kd.2.2, rfl⟩, ?_, ?_⟩
  · have hZ : (br :: (rv.ownBlock.toList ++ cv.ownBlock.toList)).Nodup := by
      rw [List.nodup_cons, List.nodup_append]
      refine ⟨?_, opt_nodup _, opt_nodup _, ?_⟩
      · intro hm
        rcases List.mem_append.1 hm with hm | hm
        · exact (r9 br (by simpa using hm)).2 rfl
        · exact (r10 br (by simpa using hm)).2.1 rfl
      · intro x hx y hy e
        subst e
        exact (r10 x (by simpa using hy)).2.2 (by simpa using hx)
    have := nodup_swap (A := b :: ([g1] ++ ([gd] ++ (fps.take 32).flatten))) (F := []) (C := (fps.drop 32).flatten) (G := br :: (rv.ownBlock.toList ++ cv.ownBlock.toList)) (N := W5.heap.size) (by
      rw [hfe] at nd5
      simpa using nd5) hZ (fun x hx => by
        right
        rcases List.mem_cons.1 hx with rfl | hx
        · exact r8
        · rcases List.mem_append.1 hx with hx | hx
          · exact (r9 x (by simpa using hx)).1
          · exact (r10 x (by simpa using hx)).1) (fun x hx => by
        simp only [List.cons_append, List.nil_append, List.mem_cons] at hx
        rcases hx with rfl | rfl | rfl | hx
        · exact hbl
        · exact hg1l
        · exact hgdl
        · exact hlt x (by rw [hfe]; exact List.mem_append.2 (.inl hx))) (fun x hx => hlt x (by rw [hfe]; exact List.mem_append.2 (.inr hx)))
    simpa using this
  · intro x hx
    rcases List.mem_append.1 hx with hx | hx
    · left
      rw [hfe]
      simp at hx ⊢
      rcases hx with h | h | h | h <;> simp [h]
    · rcases List.mem_cons.1 hx with rfl | hx
      · exact .inr r8
      · rcases List.mem_append.1 hx with hx | hx
        · exact .inr (r9 x (by simpa using hx)).1
        · rcases List.mem_append.1 hx with hx | hx
          · exact .inr (r10 x (by simpa using hx)).1
          · left
            rw [hfe]
            simp at hx ⊢
            simp [hx]

set_option maxRecDepth 100000 in
set_option maxHeartbeats 1000000 in
theorem insert_in_some (B h b c bc : Nat) (kv cv : Value) (ks : List ByteArray) (ts : List (BT h)) (bs : List Nat) (fps : List (List Nat)) (fc : List Nat) (tc : BT h) (k : ByteArray) (w : World) (a : Bool) (t' tr : BT h) (s : ByteArray)
    (H : InN B h b kv cv ks ts bs fps w) (hcu : ub k ks = c) (hbc : bs[c]? = some bc) (htc : ts[c]? = some tc) (hfc : fps[c]? = some fc)
    (ih : ∀ w0, Rep w0 B h bc tc fc → B ≤ w0.heap.size → fc.Nodup → Calls Try.prog 33 #[.pointer (some ⟨bc, 0, none⟩), .string k] w0 fun e w' => InsPost B h bc (a, t', some (s, tr)) fc w0 e w') :
    Calls Try.prog 33 #[.pointer (some ⟨b, 0, none⟩), .string k] w fun e w' => InsPost B (h + 1) b (upIn c ks ts (a, t', some (s, tr))) (b :: (kv.ownBlock.toList ++ (cv.ownBlock.toList ++ fps.flatten))) w e w' := by
  obtain ⟨gc, capc, rfl, hcap1, hcap2, hgcw, hcell⟩ := H.slice
  have h0 := cell0 H.hb
  have h1 := cell1 H.hb
  have hbw := lt_of_heap H.hb
  have hkl : ks.length + 1 = ts.length := H.hks
  have h64 := H.h64
  have hbl : bs.length = ts.length := H.kids.1
  have hc : c < bs.length := (List.getElem?_eq_some_iff.1 hbc).1
  have hf := find_inner B b bs.length capc ⟨gc, 0, none⟩ kv ks k w h0 h1 H.ho H.asc (by omega)
  rw [hcu] at hf
  have HF : Hid _ := hf
  have hx := hcell c bc hbc
  have HI : Hid _ := ih
  have HH : Hid (InN B h b kv (.slice (some ⟨gc, 0, none⟩) bs.length capc) ks ts bs fps w) := H
  have HC : Hid (bs[c]? = some bc ∧ ts[c]? = some tc ∧ fps[c]? = some fc) := ⟨hbc, htc, hfc⟩
  have hc1 : (c : Int) < (bs.length : Int) := by omega
  have hbs : bs.length ≤ 64 := by omega
  have hck : c ≤ ks.length := by omega
  have HL : Hid (ks.length + 1 = ts.length ∧ bs.length = ts.length) := ⟨hkl, hbl⟩
  have hks63 : ks.length ≤ 63 := by omega
  clear hf ih H hcu hbc htc hfc hcell hkl hbl h64
  go_enter Try.func33, Try.ntmps33
  go_wp2_with fail
  refine Calls.mono HF.out ?_
  rintro e W0 ⟨rfl, q, hW0⟩
  have E0 : Hid (W0.heap = w.heap) := by rw [hW0]; rfl
  have T0 : Hid (∀ fp, Turned w W0 fp) := by rw [hW0]; exact fun fp => Turned.drewN w q fp
  have c1 : W0.cell? ⟨b, 1, none⟩ = some (.slice (some ⟨gc, 0, none⟩) bs.length capc) := by rw [hW0]; exact h1
  have cx : W0.cell? ⟨gc, c, none⟩ = some (.pointer (some ⟨bc, 0, none⟩)) := by rw [hW0]; exact hx
  clear hW0 h0 h1 hx
  go_wp2_with (go_at_call 35; refine same_of (leaf_false b _ _ _ _ c1) ?_)
  obtain ⟨hbc, htc, hfc⟩ := HC.out
  have hr : Rep W0 B h bc tc fc := rep_kept h (HH.out.kids.2.2 c bc tc fc hbc htc hfc) (fun x _ => by rw [E0.out])
  have hndf : fps.flatten.Nodup := (List.nodup_append.1 (List.nodup_append.1 (List.nodup_cons.1 HH.out.nd).2).2.1).2.1
  have hfn : fc.Nodup := (List.pairwise_flatten.1 hndf).1 fc (List.mem_of_getElem? hfc)
  refine Calls.mono (HI.out W0 hr (by rw [E0.out]; exact HH.out.hB) hfn) ?_
  rintro e W1 ⟨hT1, f', _, hn⟩
  obtain ⟨br, fr, rfl, hr1, hr2, hn1, hs1⟩ := hn s tr rfl
  obtain ⟨hM, hF'⟩ := mid_of HH.out E0.out hbc hfc hT1 hr1 hr2 hn1 hs1
  have hfm : ∀ x ∈ fc, x ∈ fps.flatten := fun x hx => List.mem_flatten.2 ⟨fc, List.mem_of_getElem? hfc, hx⟩
  have HT1 : Hid (Turned w W1 (b :: (kv.ownBlock.toList ++ ((Value.slice (some ⟨gc, 0, none⟩) bs.length capc).ownBlock.toList ++ fps.flatten)))) :=
    (T0.out _).trans hT1 (fun x hx => .inl (List.mem_cons_of_mem _ (List.mem_append.2 (.inr (List.mem_append.2 (.inr (hfm x hx)))))))
  have hlenb : (bs.take (c + 1) ++ br :: bs.drop (c + 1)).length = bs.length + 1 := by simp; omega
  have hlent : ((ts.set c t').take (c + 1) ++ tr :: (ts.set c t').drop (c + 1)).length = bs.length + 1 := by rw [← hM.kids.1, hlenb]
  have hb1 := hM.hb
  have d0 := cell0 hb1
  have d1 := cell1 hb1
  have hbW1 := lt_of_heap hb1
  have hnd1 := hM.nd
  rw [List.nodup_cons, List.nodup_append, List.nodup_append] at hnd1
  obtain ⟨nb, nk, ⟨nc, nf, ncf⟩, nkr⟩ := hnd1
  have hkb : kv.ownBlock ≠ some b := fun e => nb (List.mem_append.2 (.inl (by simp [e])))
  have hkc : kv.ownBlock ≠ some gc := fun e => nkr gc (by simp [e]) gc (List.mem_append.2 (.inl (by simp [Value.ownBlock]))) rfl
  have hcb : gc ≠ b := fun e => nb (List.mem_append.2 (.inr (List.mem_append.2 (.inl (by simp [Value.ownBlock, e])))))
  have hgcW1 : gc < W1.heap.size := own_block_lt hM.hoc rfl
  have HM : Hid _ := hM
  have HF2 : Hid _ := hF'
  have HNB : Hid (kv.ownBlock ≠ some b ∧ kv.ownBlock ≠ some gc ∧ gc ≠ b) := ⟨hkb, hkc, hcb⟩
  have HLN : Hid ((bs.take (c + 1) ++ br :: bs.drop (c + 1)).length = bs.length + 1 ∧ ((ts.set c t').take (c + 1) ++ tr :: (ts.set c t').drop (c + 1)).length = bs.length + 1) := ⟨hlenb, hlent⟩
  clear hM hF' hkb hkc hcb nb nk nc nf ncf nkr hlenb hlent hfm hr1 hr2 hn1 hs1 hn hT1 hr hndf hfn hbc htc hfc c1 cx hb1 HI HF
  have hbne1 : ¬ (b = W1.heap.size) := by omega
  go_wp2_with fail
  have hOa : Own (W1.alloc (.cells #[.string s] 9)) B 9 kv (ks.map Value.string) := own_kept HM.out.ho (fun g hg => Below.heap_alloc _ _ _ (own_block_lt HM.out.ho hg))
  refine (insS_own B c W1.heap.size kv (.string s) (ks.map Value.string) 9 _ (by have := HM.out.hB; simp; omega) hOa (by simpa using hck) (by simp; omega) (one_strings ks) rfl (heap_alloc_new W1 _) (by
    intro e
    have := own_block_lt HM.out.ho e
    omega)).mono ?_
  rintro e W2 ⟨v1, rfl, o2, g2, bl2, sm2⟩
  have hmap : (ks.map Value.string).take c ++ Value.string s :: (ks.map Value.string).drop c = (ks.take c ++ s :: ks.drop c).map Value.string := by simp
  rw [hmap] at o2
  have hlK : (ks.take c ++ s :: ks.drop c).length = ks.length + 1 := by simp; omega
  obtain ⟨g1, cap1, hv1⟩ : ∃ g1 cap1, v1 = .slice (some ⟨g1, 0, none⟩) (ks.length + 1) cap1 := by
    rcases own_open o2 with ⟨hv, _⟩ | ⟨g', cap', cur, hv, _⟩
    · rw [hv] at sm2; cases sm2
    · exact ⟨g', cap', by rw [hv, List.length_map, hlK]⟩
  obtain ⟨N1, hN1⟩ : ∃ N1, ks.length + 1 = N1 := ⟨_, rfl⟩
  rw [hN1] at hv1 hlK
  subst hv1
  have z2 := g2.size
  simp only [World.alloc, Array.size_push] at z2
  have hb2 : W2.heap[b]? = some (.cells #[kv, .slice (some ⟨gc, 0, none⟩) bs.length capc] 60 (0, 0)) := by
    rw [g2.block b (by simp; omega) (fun e => HNB.out.1 e.symm), Below.heap_alloc _ _ _ hbW1]
    exact HM.out.hb
  have hg1 : (Value.slice (some ⟨g1, 0, none⟩) N1 cap1).ownBlock = kv.ownBlock ∨ g1 = W1.heap.size + 1 := by
    rcases bl2 with e | e
    · exact .inl e
    · exact .inr (by have := ownBlock_slice e; simp at this; exact this.symm)
  have hg1lt : g1 < W2.heap.size := own_block_lt o2 rfl
  have hg1b : g1 ≠ b := by
    rintro rfl
    rcases hg1 with e | e
    · exact HNB.out.1 (by rw [← e]; rfl)
    · omega
  have hg1c : g1 ≠ gc := by
    rintro rfl
    rcases hg1 with e | e
    · exact HNB.out.2.1 (by rw [← e]; rfl)
    · omega
  have hb3 : (W2.setCell ⟨b, 0, none⟩ (.slice (some ⟨g1, 0, none⟩) N1 cap1)).heap[b]? = some (.cells #[.slice (some ⟨g1, 0, none⟩) N1 cap1, .slice (some ⟨gc, 0, none⟩) bs.length capc] 60 (0, 0)) := heap_setCell0 hb2
  have o3 : Own (W2.setCell ⟨b, 0, none⟩ (.slice (some ⟨g1, 0, none⟩) N1 cap1)) B 9 (.slice (some ⟨g1, 0, none⟩) N1 cap1) ((ks.take c ++ s :: ks.drop c).map Value.string) :=
    own_kept o2 (fun x hx => by rw [ownBlock_slice hx]; exact Below.heap_setCell _ _ _ _ hg1b)
  have oc3 : Own (W2.setCell ⟨b, 0, none⟩ (.slice (some ⟨g1, 0, none⟩) N1 cap1)) B 25 (.slice (some ⟨gc, 0, none⟩) bs.length capc) (ptrs bs) :=
    own_kept HM.out.hoc (fun x hx => by
      rw [ownBlock_slice hx]
      rw [Below.heap_setCell _ _ _ _ HNB.out.2.2, g2.block gc (by simp; omega) (fun e => HNB.out.2.1 e.symm), Below.heap_alloc _ _ _ hgcW1])
  have hT3 : Turned W1 (W2.setCell ⟨b, 0, none⟩ (.slice (some ⟨g1, 0, none⟩) N1 cap1)) (b :: (kv.ownBlock.toList ++ (Value.slice (some ⟨gc, 0, none⟩) bs.length capc).ownBlock.toList)) :=
    ((Turned.alloc W1 (.cells #[.string s] 9) _).trans (Turned.grown g2 (fp := b :: (kv.ownBlock.toList ++ (Value.slice (some ⟨gc, 0, none⟩) bs.length capc).ownBlock.toList)) (fun x hx => .inl (List.mem_cons_of_mem _ (List.mem_append.2 (.inl (by rw [hx]; simp)))))) (fun x hx => .inl hx)).trans (Turned.setCell W2 ⟨b, 0, none⟩ _ (.inl (List.mem_cons_self ..))) (fun x hx => .inl hx)
  have z3 : (W2.setCell ⟨b, 0, none⟩ (.slice (some ⟨g1, 0, none⟩) N1 cap1)).heap.size = W2.heap.size := by simp [World.setCell]
  have e0 := cell0 hb2
  have e1 := cell1 hb2
  have e2 := frozen_heap hb2 0
  have HK : Hid ((ks.take c ++ s :: ks.drop c).length = N1 ∧ ks.length + 1 = N1) := ⟨hlK, hN1⟩
  have HG1 : Hid ((Value.slice (some ⟨g1, 0, none⟩) N1 cap1).ownBlock = kv.ownBlock ∨ g1 = W1.heap.size + 1) := hg1
  have H3 : Hid (_ ∧ _ ∧ _ ∧ _ ∧ _) := ⟨hb3, o3, oc3, hT3, z3⟩
  clear hb2 hb3 o3 oc3 hT3 z3 o2 g2 bl2 sm2 hmap hlK hN1 hg1 hOa d0 d1
  go_wp2_with fail
  generalize hW3 : W2.setCell ⟨b, 0, none⟩ (.slice (some ⟨g1, 0, none⟩) N1 cap1) = W3 at *
  obtain ⟨hb3, o3, oc3, hT3, z3⟩ := H3.out
  clear H3 e0 e1 e2 hW3
  have hbW3 : b < W3.heap.size := by omega
  have hOb : Own (W3.alloc (.cells #[.pointer (some ⟨br, 0, none⟩)] 25)) B 25 (.slice (some ⟨gc, 0, none⟩) bs.length capc) (ptrs bs) := own_kept oc3 (fun g hg => Below.heap_alloc _ _ _ (own_block_lt oc3 hg))
  have hpl : (ptrs bs).length = bs.length := by simp [ptrs]
  refine (insP_at B (c + 1) W2.heap.size _ (by omega) (.slice (some ⟨gc, 0, none⟩) bs.length capc) (.pointer (some ⟨br, 0, none⟩)) (ptrs bs) 25 _ (by have := HM.out.hB; simp; omega) hOb (by omega) (by omega) (one_ptrs bs) rfl (by rw [← z3]; exact heap_alloc_new W3 _) (by
    intro e
    have := ownBlock_slice e
    omega)).mono ?_
  rintro e W4 ⟨v2, rfl, o4, g4, bl4, sm4⟩
  rw [ptrs_up] at o4
  obtain ⟨gd, cap2, hv2⟩ : ∃ gd cap2, v2 = .slice (some ⟨gd, 0, none⟩) (bs.length + 1) cap2 := by
    rcases own_open o4 with ⟨hv, _⟩ | ⟨g', cap', cur, hv, _⟩
    · rw [hv] at sm4; cases sm4
    · refine ⟨g', cap', ?_⟩
      rw [hv]
      have : (ptrs (bs.take (c + 1) ++ br :: bs.drop (c + 1))).length = bs.length + 1 := by rw [← HLN.out.1]; simp [ptrs]
      rw [this]
  obtain ⟨N, hN⟩ : ∃ N, bs.length + 1 = N := ⟨_, rfl⟩
  rw [hN] at hv2
  subst hv2
  have z4 := g4.size
  simp only [World.alloc, Array.size_push] at z4
  have hb4 : W4.heap[b]? = some (.cells #[.slice (some ⟨g1, 0, none⟩) N1 cap1, .slice (some ⟨gc, 0, none⟩) bs.length capc] 60 (0, 0)) := by
    rw [g4.block b (by simp; omega) (fun e => HNB.out.2.2 (ownBlock_slice e.symm).symm), Below.heap_alloc _ _ _ hbW3]
    exact hb3
  have hgd : gd = gc ∨ gd = W3.heap.size + 1 := by
    rcases bl4 with e | e
    · exact .inl (by simpa [Value.ownBlock] using e)
    · exact .inr (by have := ownBlock_slice e; simp at this; exact this.symm)
  have hgdlt : gd < W4.heap.size := own_block_lt o4 rfl
  have hgdb : gd ≠ b := by
    rintro rfl
    rcases hgd with e | e
    · exact HNB.out.2.2 e.symm
    · omega
  have hgdg : gd ≠ g1 := by
    rintro rfl
    rcases hgd with e | e
    · exact hg1c e
    · omega
  have hb5 : (W4.setCell ⟨b, 1, none⟩ (.slice (some ⟨gd, 0, none⟩) N cap2)).heap[b]? = some (.cells #[.slice (some ⟨g1, 0, none⟩) N1 cap1, .slice (some ⟨gd, 0, none⟩) N cap2] 60 (0, 0)) := heap_setCell1 hb4
  have o5 : Own (W4.setCell ⟨b, 1, none⟩ (.slice (some ⟨gd, 0, none⟩) N cap2)) B 9 (.slice (some ⟨g1, 0, none⟩) N1 cap1) ((ks.take c ++ s :: ks.drop c).map Value.string) :=
    own_kept o3 (fun x hx => by
      rw [ownBlock_slice hx]
      rw [Below.heap_setCell _ _ _ _ hg1b, g4.block g1 (by simp; omega) (fun e => hg1c (ownBlock_slice e.symm)), Below.heap_alloc _ _ _ (by omega)])
  have oc5 : Own (W4.setCell ⟨b, 1, none⟩ (.slice (some ⟨gd, 0, none⟩) N cap2)) B 25 (.slice (some ⟨gd, 0, none⟩) N cap2) (ptrs (bs.take (c + 1) ++ br :: bs.drop (c + 1))) :=
    own_kept o4 (fun x hx => by rw [ownBlock_slice hx]; exact Below.heap_setCell _ _ _ _ hgdb)
  have hT5 : Turned W1 (W4.setCell ⟨b, 1, none⟩ (.slice (some ⟨gd, 0, none⟩) N cap2)) (b :: (kv.ownBlock.toList ++ (Value.slice (some ⟨gc, 0, none⟩) bs.length capc).ownBlock.toList)) :=
    ((hT3.trans (Turned.alloc W3 (.cells #[.pointer (some ⟨br, 0, none⟩)] 25) _) (fun x hx => .inl hx)).trans (Turned.grown g4 (fp := b :: (kv.ownBlock.toList ++ (Value.slice (some ⟨gc, 0, none⟩) bs.length capc).ownBlock.toList)) (fun x hx => .inl (List.mem_cons_of_mem _ (List.mem_append.2 (.inr (by rw [hx]; simp)))))) (fun x hx => .inl hx)).trans (Turned.setCell W4 ⟨b, 1, none⟩ _ (.inl (List.mem_cons_self ..))) (fun x hx => .inl hx)
  have z5 : (W4.setCell ⟨b, 1, none⟩ (.slice (some ⟨gd, 0, none⟩) N cap2)).heap.size = W4.heap.size := by simp [World.setCell]
  have e0 := cell0 hb4
  have e1 := cell1 hb4
  have e2 := frozen_heap hb4 1
  have hfin := mid_fin (v1 := .slice (some ⟨g1, 0, none⟩) N1 cap1) (v2 := .slice (some ⟨gd, 0, none⟩) N cap2) HM.out hT5 (fun x hx => by
      have hx' : x = g1 := by simpa [Value.ownBlock] using hx
      rcases HG1.out with e | e
      · left; rw [← e]; exact hx
      · right; omega) (W3.heap.size + 1) (fun x hx => by
      have hx' : x = g1 := by simpa [Value.ownBlock] using hx
      omega) (by omega) (fun x hx => by
      have hx' : x = gd := by simpa [Value.ownBlock] using hx
      rcases hgd with e | e
      · left; simp [Value.ownBlock]; omega
      · right; omega)
  have s1 := cell1 hb5
  have hn65 : N ≤ 65 := by omega
  have HK2 : Hid (bs.length + 1 = N) := hN
  have HG2 : Hid (gd ≠ b ∧ gd ≠ g1 ∧ g1 ≠ b) := ⟨hgdb, hgdg, hg1b⟩
  have H5 : Hid (_ ∧ _ ∧ _ ∧ _ ∧ _ ∧ _) := ⟨hb5, o5, oc5, hT5, z5, hfin⟩
  have HZ : Hid (W1.heap.size ≤ W4.heap.size) := by show _ ≤ _; omega
  clear hb3 hb4 hb5 o3 oc3 o4 o5 oc5 hT3 hT5 z5 hfin g4 bl4 sm4 hgd hOb hN hgdb hgdg hg1b hpl
  go_wp2_with fail
  generalize hW5 : W4.setCell ⟨b, 1, none⟩ (.slice (some ⟨gd, 0, none⟩) N cap2) = W5 at *
  refine same_of (size_inner b N cap2 ⟨gd, 0, none⟩ W5 s1) ?_
  clear hW5 e0 e1 e2
  by_cases hle : N ≤ 64
  · go_wp2
    go_ret3
    obtain ⟨hb5, o5, oc5, hT5, z5, hK5, hnd5, hsub5⟩ := H5.out
    have M := HM.out
    have e : splitIn a (ks.take c ++ s :: ks.drop c) ((ts.set c t').take (c + 1) ++ tr :: (ts.set c t').drop (c + 1)) = (a, (ks.take c ++ s :: ks.drop c, (ts.set c t').take (c + 1) ++ tr :: (ts.set c t').drop (c + 1)), none) := by
      unfold splitIn
      rw [if_pos (by rw [HLN.out.2, HK2.out]; exact hle)]
    show InsPost B (h + 1) b (splitIn a _ _) _ w _ _
    rw [e]
    refine ⟨HT1.out.trans hT5 ?_, _, fun _ => ⟨rfl, ⟨_, _, _, _, hb5, HH.out.hBb, o5, oc5, hK5.1, hK5.2.1, hK5.2.2, rfl⟩, hnd5, ?_⟩, fun s tr e => by cases e⟩
    · intro x hx
      left
      rcases List.mem_cons.1 hx with rfl | hx
      · exact List.mem_cons_self ..
      · rcases List.mem_append.1 hx with hx | hx
        · exact List.mem_cons_of_mem _ (List.mem_append.2 (.inl hx))
        · exact List.mem_cons_of_mem _ (List.mem_append.2 (.inr (List.mem_append.2 (.inl hx))))
    · intro x hx
      rcases hsub5 x hx with hx | hx
      · rcases List.mem_cons.1 hx with rfl | hx
        · exact .inl (List.mem_cons_self ..)
        · rcases List.mem_append.1 hx with hx | hx
          · exact .inl (List.mem_cons_of_mem _ (List.mem_append.2 (.inl hx)))
          · rcases List.mem_append.1 hx with hx | hx
            · exact .inl (List.mem_cons_of_mem _ (List.mem_append.2 (.inr (List.mem_append.2 (.inl hx)))))
            · rcases HF2.out x hx with hx | hx
              · exact .inl (List.mem_cons_of_mem _ (List.mem_append.2 (.inr (List.mem_append.2 (.inr hx)))))
              · exact .inr hx
      · exact .inr (by have := M.size; omega)
  · obtain rfl : N = 65 := by omega
    obtain rfl : N1 = 64 := by
      have := HK.out.2
      have := HK2.out
      have := HL.out
      omega
    go_wp2_with fail
    obtain ⟨hb5, o5, oc5, hT5, z5, hK5, hnd5, hsub5⟩ := H5.out
    refine (split_inner B b g1 cap1 gd cap2 (ks.take c ++ s :: ks.drop c) (bs.take (c + 1) ++ br :: bs.drop (c + 1)) W5 (by have := HM.out.hB; have := HZ.out; omega) hb5 (fun e => HG2.out.2.2 e.symm) (fun e => HG2.out.1 e.symm) (fun e => HG2.out.2.1 e.symm) HK.out.1 (by rw [HLN.out.1, HK2.out]) o5 oc5).mono ?_
    rintro e W6 ⟨br2, rv, cv2, rfl, r1, r2, r3, r4, r5, r6, r7, r8, r9, r10⟩
    have hfs := fin_split (K := ks.take c ++ s :: ks.drop c) HH.out.hBb (by have := HM.out.hB; have := HZ.out; omega) (lt_of_heap hb5) (own_block_lt o5 rfl) (own_block_lt oc5 rfl) hK5 hnd5 r1 r2 r3 r4 r5 r6 r7 r8 r9 r10
    have HFS : Hid _ := hfs
    have HR7 : Hid (Turned W5 W6 [b, g1, gd]) := r7
    clear hb5 o5 oc5 hT5 z5 hK5 hnd5 hsub5 hfs r1 r2 r3 r4 r5 r6 r7 r8 r9 r10
    go_wp2
    go_ret3
    obtain ⟨hb5, o5, oc5, hT5, z5, hK5, hnd5, hsub5⟩ := H5.out
    obtain ⟨q1, q2, q3, q4⟩ := HFS.out
    have M := HM.out
    have e : splitIn a (ks.take c ++ s :: ks.drop c) ((ts.set c t').take (c + 1) ++ tr :: (ts.set c t').drop (c + 1)) = (a, ((ks.take c ++ s :: ks.drop c).take 31, ((ts.set c t').take (c + 1) ++ tr :: (ts.set c t').drop (c + 1)).take 32), some ((ks.take c ++ s :: ks.drop c).getD 31 ⟨#[]⟩, ((ks.take c ++ s :: ks.drop c).drop 32, ((ts.set c t').take (c + 1) ++ tr :: (ts.set c t').drop (c + 1)).drop 32))) := by
      unfold splitIn
      rw [if_neg (by rw [HLN.out.2, HK2.out]; exact hle)]
    show InsPost B (h + 1) b (splitIn a _ _) _ w _ _
    rw [e]
    have hsub : ∀ x ∈ b :: ([g1] ++ ([gd] ++ ((fps.set c f').take (c + 1) ++ fr :: (fps.set c f').drop (c + 1)).flatten)), x ∈ b :: (kv.ownBlock.toList ++ ((Value.slice (some ⟨gc, 0, none⟩) bs.length capc).ownBlock.toList ++ fps.flatten)) ∨ w.heap.size ≤ x := by
      intro x hx
      rcases hsub5 x hx with hx | hx
      · rcases List.mem_cons.1 hx with rfl | hx
        · exact .inl (List.mem_cons_self ..)
        · rcases List.mem_append.1 hx with hx | hx
          · exact .inl (List.mem_cons_of_mem _ (List.mem_append.2 (.inl hx)))
          · rcases List.mem_append.1 hx with hx | hx
            · exact .inl (List.mem_cons_of_mem _ (List.mem_append.2 (.inr (List.mem_append.2 (.inl hx)))))
            · rcases HF2.out x hx with hx | hx
              · exact .inl (List.mem_cons_of_mem _ (List.mem_append.2 (.inr (List.mem_append.2 (.inr hx)))))
              · exact .inr hx
      · exact .inr (by have := M.size; omega)
    have hz5 : w.heap.size ≤ W5.heap.size := by have := M.size; have := HZ.out; omega
    refine ⟨(HT1.out.trans hT5 ?_).trans HR7.out ?_, b :: ([g1] ++ ([gd] ++ (((fps.set c f').take (c + 1) ++ fr :: (fps.set c f').drop (c + 1)).take 32).flatten)), (fun h => by cases h), ?_⟩
    · intro x hx
      left
      rcases List.mem_cons.1 hx with rfl | hx
      · exact List.mem_cons_self ..
      · rcases List.mem_append.1 hx with hx | hx
        · exact List.mem_cons_of_mem _ (List.mem_append.2 (.inl hx))
        · exact List.mem_cons_of_mem _ (List.mem_append.2 (.inr (List.mem_append.2 (.inl hx))))
    · intro x hx
      refine hsub x ?_
      simp only [List.mem_cons, List.not_mem_nil, or_false] at hx
      rcases hx with h | h | h <;> simp [h]
    · intro s' tr' hs
      cases hs
      refine ⟨br2, _, by rw [List.getD_eq_getElem?_getD]; rfl, q1, q2, q3, ?_⟩
      intro x hx
      rcases q4 x hx with h | h
      · exact hsub x h
      · exact .inr (by omega)
end Go.Proofs.Qxb6603837a

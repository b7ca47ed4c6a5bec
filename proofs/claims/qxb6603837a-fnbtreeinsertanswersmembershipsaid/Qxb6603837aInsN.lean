/-
  insert at an inner node.
-/
import Derived.Test.Qxb6603837aKids
namespace Go.Proofs.Qxb6603837a
open Go.RowKit

/-- What the walk of an inner node is told. -/
structure InN (B h b : Nat) (kv cv : Value) (ks : List ByteArray) (ts : List (BT h)) (bs : List Nat) (fps : List (List Nat)) (w : World) : Prop where
  hB : B ≤ w.heap.size
  hBb : B ≤ b
  hb : w.heap[b]? = some (.cells #[kv, cv] 60 (0, 0))
  ho : Own w B 9 kv (ks.map Value.string)
  hoc : Own w B 25 cv (ptrs bs)
  kids : Kids w B h bs ts fps
  hks : ks.length + 1 = ts.length
  h64 : ts.length ≤ 64
  h2 : 2 ≤ ts.length
  nd : (b :: (kv.ownBlock.toList ++ (cv.ownBlock.toList ++ fps.flatten))).Nodup
  asc : Asc ks

theorem insP_at (B i vb : Nat) (I : Int) (hI : I = i) (v x : Value) (xs : List Value) (T : TypeId) (w : World) (hB : B ≤ w.heap.size) (ho : Own w B 25 v xs) (hi : i ≤ xs.length) (hl : xs.length ≤ 100000)
    (h1 : ∀ u ∈ xs, u.oneCell' = true) (hx : x.oneCell' = true) (hv : w.heap[vb]? = some (.cells #[x] T (0, 0))) (hne : v.ownBlock ≠ some vb) :
    Calls Try.prog 38 #[v, .int .i64 I, .slice (some ⟨vb, 0, none⟩) 1 1] w fun e w' =>
      ∃ v', e = .returned v' ∧ Own w' B 25 v' (xs.take i ++ x :: xs.drop i) ∧ w.grownBy w' v.ownBlock ∧ (v'.ownBlock = v.ownBlock ∨ v'.ownBlock = some w.heap.size) ∧ v'.ownBlock.isSome = true := by
  subst hI
  exact insP_own B i vb v x xs T w hB ho hi hl h1 hx hv hne

theorem ptrs_up (bs : List Nat) (br c : Nat) : (ptrs bs).take c ++ Value.pointer (some ⟨br, 0, none⟩) :: (ptrs bs).drop c = ptrs (bs.take c ++ br :: bs.drop c) := by
  unfold ptrs
  simp

theorem InN.slice {B h b : Nat} {kv cv : Value} {ks : List ByteArray} {ts : List (BT h)} {bs : List Nat} {fps : List (List Nat)} {w : World} (H : InN B h b kv cv ks ts bs fps w) : ∃ gc capc, cv = .slice (some ⟨gc, 0, none⟩) bs.length capc ∧ bs.length ≤ capc ∧ capc ≤ 9223372036854775807 ∧ gc < w.heap.size ∧ ∀ i x, bs[i]? = some x → w.cell? ⟨gc, i, none⟩ = some (.pointer (some ⟨x, 0, none⟩)) := by
  have hl : bs.length = ts.length := H.kids.1
  have h2 := H.h2
  rcases own_open H.hoc with ⟨_, h⟩ | ⟨g, cap, cur, h, _, h3, h4, h5, _, h7⟩
  · have : bs.length = 0 := by simpa [ptrs] using congrArg List.length h
    omega
  · have hp : (ptrs bs).length = bs.length := by simp [ptrs]
    rw [hp] at h h4
    refine ⟨g, cap, h, h4, by unfold maxLen at h5; omega, lt_of_heap h3, ?_⟩
    intro i x hx
    have hi : i < bs.length := (List.getElem?_eq_some_iff.1 hx).1
    rw [cell_heap h3, h7 i (by omega)]
    simp [ptrs, hx]

set_option maxRecDepth 100000 in
set_option maxHeartbeats 2000000 in
theorem insert_in_none (B h b c bc : Nat) (kv cv : Value) (ks : List ByteArray) (ts : List (BT h)) (bs : List Nat) (fps : List (List Nat)) (fc : List Nat) (tc : BT h) (k : ByteArray) (w : World) (a : Bool) (t' : BT h)
    (H : InN B h b kv cv ks ts bs fps w) (hcu : ub k ks = c) (hbc : bs[c]? = some bc) (htc : ts[c]? = some tc) (hfc : fps[c]? = some fc)
    (ih : ∀ w0, Rep w0 B h bc tc fc → B ≤ w0.heap.size → fc.Nodup → Calls Try.prog 33 #[.pointer (some ⟨bc, 0, none⟩), .string k] w0 fun e w' => InsPost B h bc (a, t', none) fc w0 e w') :
    Calls Try.prog 33 #[.pointer (some ⟨b, 0, none⟩), .string k] w fun e w' => InsPost B (h + 1) b (a, (ks, ts.set c t'), none) (b :: (kv.ownBlock.toList ++ (cv.ownBlock.toList ++ fps.flatten))) w e w' := by
  obtain ⟨gc, capc, rfl, hcap1, hcap2, hgcw, hcell⟩ := H.slice
  have h0 := cell0 H.hb
  have h1 := cell1 H.hb
  have hbw := lt_of_heap H.hb
  have hkl : ks.length + 1 = ts.length := H.hks
  have h64 := H.h64
  have hbl : bs.length = ts.length := H.kids.1
  have hc : c < bs.length := (List.getElem?_eq_some_iff.1 hbc).1
  have hf := find_inner B b bs.length capc ⟨gc, 0, none⟩ kv ks k w h0 h1 H.ho H.asc (by omega)
  rw [hcu] at hf
  have HF : Hid _ := hf
  have hx := hcell c bc hbc
  have HI : Hid _ := ih
  have HH : Hid (InN B h b kv (.slice (some ⟨gc, 0, none⟩) bs.length capc) ks ts bs fps w) := H
  have HC : Hid (bs[c]? = some bc ∧ ts[c]? = some tc ∧ fps[c]? = some fc) := ⟨hbc, htc, hfc⟩
  have hc1 : (c : Int) < (bs.length : Int) := by omega
  have hbs : bs.length ≤ 64 := by omega
  clear hf ih H hcu hbc htc hfc hcell
  go_enter Try.func33, Try.ntmps33
  go_wp2_with fail
  refine Calls.mono HF.out ?_
  rintro e W0 ⟨rfl, q, hW0⟩
  have E0 : Hid (W0.heap = w.heap) := by rw [hW0]; rfl
  have T0 : Hid (∀ fp, Turned w W0 fp) := by rw [hW0]; exact fun fp => Turned.drewN w q fp
  have c1 : W0.cell? ⟨b, 1, none⟩ = some (.slice (some ⟨gc, 0, none⟩) bs.length capc) := by rw [hW0]; exact h1
  have cx : W0.cell? ⟨gc, c, none⟩ = some (.pointer (some ⟨bc, 0, none⟩)) := by rw [hW0]; exact hx
  clear hW0 h0 h1 hx
  go_wp2_with (go_at_call 35; refine same_of (leaf_false b _ _ _ _ c1) ?_)
  obtain ⟨hbc, htc, hfc⟩ := HC.out
  have hr : Rep W0 B h bc tc fc := rep_kept h (HH.out.kids.2.2 c bc tc fc hbc htc hfc) (fun x _ => by rw [E0.out])
  have hndf : fps.flatten.Nodup := (List.nodup_append.1 (List.nodup_append.1 (List.nodup_cons.1 HH.out.nd).2).2.1).2.1
  have hfn : fc.Nodup := (List.pairwise_flatten.1 hndf).1 fc (List.mem_of_getElem? hfc)
  refine Calls.mono (HI.out W0 hr (by rw [E0.out]; exact HH.out.hB) hfn) ?_
  rintro e W1 ⟨hT1, f', hn, _⟩
  obtain ⟨rfl, hr1, hn1, hs1⟩ := hn rfl
  have HP : Hid (Turned W0 W1 fc ∧ Rep W1 B h bc t' f' ∧ f'.Nodup ∧ (∀ x ∈ f', x ∈ fc ∨ W0.heap.size ≤ x) ∧ fps.flatten.Nodup) := ⟨hT1, hr1, hn1, hs1, hndf⟩
  clear hT1 hn hr1 hn1 hs1 hr hndf hfn hbc htc hfc
  go_wp2
  go_ret3
  obtain ⟨hT1, hr1, hn1, hs1, hndf⟩ := HP.out
  obtain ⟨hbc, htc, hfc⟩ := HC.out
  obtain ⟨fe1, fe2⟩ := flatten_set hfc f'
  have H := HH.out
  have hsz : W0.heap.size = w.heap.size := by rw [E0.out]
  have hfm : ∀ x ∈ fc, x ∈ fps.flatten := fun x hx => List.mem_flatten.2 ⟨fc, List.mem_of_getElem? hfc, hx⟩
  have nd := H.nd
  rw [List.nodup_cons, List.nodup_append, List.nodup_append] at nd
  obtain ⟨nb, nk, ⟨nc, nf, ncf⟩, nkr⟩ := nd
  have hbfc : b ∉ fc := fun e => nb (List.mem_append.2 (.inr (List.mem_append.2 (.inr (hfm _ e)))))
  have hkfc : ∀ x ∈ kv.ownBlock.toList, x ∉ fc := fun x hx e => nkr x hx x (List.mem_append.2 (.inr (hfm _ e))) rfl
  have hcfc : ∀ x ∈ (Value.slice (some ⟨gc, 0, none⟩) bs.length capc).ownBlock.toList, x ∉ fc := fun x hx e => ncf x hx x (hfm _ e) rfl
  have hbk : ∀ x, x < w.heap.size → x ∉ fc → W1.heap[x]? = w.heap[x]? := fun x hx hn => (hT1.block x (by omega) hn).trans (by rw [E0.out])
  have hK1 : Kids W1 B h bs (ts.set c t') (fps.set c f') := by
    have hK0 : Kids W0 B h bs ts fps := kids_kept H.kids (fun x _ => by rw [E0.out])
    exact kids_set hK0 hbc hfc hr1 hT1 hndf
  have hmemlt : ∀ x ∈ b :: (kv.ownBlock.toList ++ ((Value.slice (some ⟨gc, 0, none⟩) bs.length capc).ownBlock.toList ++ fps.flatten)), x < w.heap.size := by
    intro x hx
    rcases List.mem_cons.1 hx with rfl | hx
    · exact hbw
    · rcases List.mem_append.1 hx with hx | hx
      · exact (own_mem_lt H.ho x hx).1
      · rcases List.mem_append.1 hx with hx | hx
        · exact (own_mem_lt H.hoc x hx).1
        · exact (kids_mem H.kids x hx).1
  refine ⟨(T0.out _).trans hT1 (fun x hx => .inl (List.mem_cons_of_mem _ (List.mem_append.2 (.inr (List.mem_append.2 (.inr (hfm x hx))))))), b :: (kv.ownBlock.toList ++ ((Value.slice (some ⟨gc, 0, none⟩) bs.length capc).ownBlock.toList ++ (fps.set c f').flatten)), ?_, fun s tr e => by cases e⟩
  intro _
  refine ⟨rfl, ⟨kv, _, bs, fps.set c f', (hbk b hbw hbfc).trans H.hb, H.hBb, own_keptL H.ho (fun x hx => hbk x (own_mem_lt H.ho x hx).1 (hkfc x hx)), own_keptL H.hoc (fun x hx => hbk x (own_mem_lt H.hoc x hx).1 (hcfc x hx)), hK1.1, hK1.2.1, hK1.2.2, rfl⟩, ?_, ?_⟩
  · rw [fe2]
    have := nodup_swap (A := b :: (kv.ownBlock.toList ++ ((Value.slice (some ⟨gc, 0, none⟩) bs.length capc).ownBlock.toList ++ (fps.take c).flatten))) (F := fc) (C := (fps.drop (c + 1)).flatten) (G := f') (N := w.heap.size) (by
      have := H.nd
      rw [fe1] at this
      simpa using this) hn1 (fun x hx => by rw [← hsz]; exact hs1 x hx) (fun x hx => hmemlt x (by rw [fe1]; simp at hx ⊢; rcases hx with h | h | h | h <;> simp [h])) (fun x hx => hmemlt x (by rw [fe1]; simp at hx ⊢; simp [hx]))
    simpa using this
  · intro x hx
    rcases List.mem_cons.1 hx with rfl | hx
    · exact .inl (List.mem_cons_self ..)
    · rcases List.mem_append.1 hx with hx | hx
      · exact .inl (List.mem_cons_of_mem _ (List.mem_append.2 (.inl hx)))
      · rcases List.mem_append.1 hx with hx | hx
        · exact .inl (List.mem_cons_of_mem _ (List.mem_append.2 (.inr (List.mem_append.2 (.inl hx)))))
        · rw [fe2] at hx
          have hin : x ∈ fps.flatten ∨ w.heap.size ≤ x := by
            rcases List.mem_append.1 hx with hx | hx
            · exact .inl (by rw [fe1]; exact List.mem_append.2 (.inl hx))
            · rcases List.mem_append.1 hx with hx | hx
              · rcases hs1 x hx with h | h
                · exact .inl (hfm x h)
                · exact .inr (by omega)
              · exact .inl (by rw [fe1]; exact List.mem_append.2 (.inr (List.mem_append.2 (.inr hx))))
          rcases hin with h | h
          · exact .inl (List.mem_cons_of_mem _ (List.mem_append.2 (.inr (List.mem_append.2 (.inr h)))))
          · exact .inr h
end Go.Proofs.Qxb6603837a

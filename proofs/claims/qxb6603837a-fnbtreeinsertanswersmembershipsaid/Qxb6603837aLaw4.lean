/-
  FnBtreeInsertAnswersMembership: the walk.
-/
import Derived.Test.Qxb6603837aLaw4P
namespace Go.Proofs.Qxb6603837a
open Go.RowKit

theorem both_open {w : World} {B b : Nat} {mv : Value} {m : List ByteArray} {fp : List Nat} (h : Both w B b mv m fp) : ∃ (n : Nat) (t : BT n), m = flat n t ∧ BothT w B b n t mv fp := by
  obtain ⟨ht, ho, ha, hap, hs⟩ := h
  obtain ⟨n, t, hr, hn, g, rfl⟩ := ht
  exact ⟨n, t, rfl, hr, hn, g, ho, ha, hap, hs⟩

set_option maxHeartbeats 2000000 in
set_option maxRecDepth 100000 in
theorem law4_main (a : Option Addr) (n c : Nat) (p : ByteArray) (w : World) (hn : n ≤ 16384) (hp : p.size ≤ 1048576) (H12 : Hid (Calls Try.prog 12 #[.slice a n c, .string p] w (SomeBool w))) (H9 : Hid (Calls Try.prog 9 #[.slice a n c, .int .i64 p.size] w (SomeInt w))) (H10 : Hid (Calls Try.prog 10 #[.slice a n c] w (BuildPost w))) :
    Calls Try.prog 4 #[.slice a n c, .string p] w fun e w' => e = .returned (.bool true) ∧ Below w.heap.size w w' := by
  obtain ⟨B, hB⟩ : ∃ B, B = w.heap.size := ⟨_, rfl⟩
  have HB0 : Hid (B = w.heap.size) := hB
  clear hB
  go_enter Try.func4, Try.ntmps4
  go_wp2_with fail
  refine Calls.mono H12.out ?_
  rintro e W0 ⟨bb, rfl, rfl⟩
  cases bb
  · go_wp2
    go_ret
    exact ⟨rfl, Below.refl _ _⟩
  · go_wp2_with fail
    refine Calls.mono H9.out ?_
    rintro e W0' ⟨r, hr, rfl, rfl⟩
    by_cases hrb : 1048576 < r
    · go_wp2
      go_ret
      exact ⟨rfl, Below.refl _ _⟩
    · go_wp2_with fail
      refine Calls.mono H10.out ?_
      rintro e W1 ⟨b, mv, m, fp, rfl, q1, q2, q3⟩
      obtain ⟨h, t, rfl, k⟩ := both_open q1
      rw [← HB0.out] at q2 k
      have K1 : Hid (BothT W1 B b h t mv fp ∧ Below B W0' W1 ∧ (flat h t).length ≤ 16384) := ⟨k, q2, q3⟩
      have HH : Hid _ := holds_any B b mv (flat h t) fp W1 k.both (by omega)
      clear q1 q2 q3 k H9 H10 H12
      go_wp2_with fail
      refine Calls.mono HH.out ?_
      rintro e W2 ⟨rfl, ht⟩
      have K2 : Hid (BothT W2 B b h t mv fp ∧ Below B W0' W2 ∧ (flat h t).length ≤ 16384) := ⟨K1.out.1.turned ht, K1.out.2.1.trans (ht.toBelow (fun x hx => by simp at hx) K1.out.1.size), K1.out.2.2⟩
      have HS : Hid _ := search_any B mv (flat h t) p W2 K2.out.1.model K2.out.1.asc (by have := K2.out.2.2; omega)
      clear ht HH K1
      go_wp2_with fail
      refine Calls.mono HS.out ?_
      rintro e W3 ⟨rfl, q, hW3⟩
      have K3 : Hid (BothT W3 B b h t mv fp ∧ Below B W0' W3 ∧ (flat h t).length ≤ 16384) := by
        have ht : Turned W2 W3 [] := by rw [hW3]; exact Turned.drewN W2 q []
        exact ⟨K2.out.1.turned ht, K2.out.2.1.trans (ht.toBelow (fun x hx => by simp at hx) K2.out.1.size), K2.out.2.2⟩
      have HP : Hid _ := shape_both K3.out.1 (by have := K3.out.2.2; omega)
      clear hW3 HS K2
      go_wp2_with fail
      refine Calls.mono HP.out ?_
      rintro e W4 ⟨s, u, rfl, o1, o2, ht, d1, d2⟩
      have K4 : Hid (BothT W4 B b h t mv fp ∧ Below B W0' W4 ∧ (flat h t).length ≤ 16384) := ⟨K3.out.1.turned ht, K3.out.2.1.trans (ht.toBelow (fun x hx => by simp at hx) K3.out.1.size), K3.out.2.2⟩
      have hfp : ∀ x ∈ fp, x < W3.heap.size := fun x hx => ((rep_mem h K3.out.1.rep).2 x hx).1
      have KS : Hid (Own W4 B 3 s (ints (shapeS h t)) ∧ Own W4 B 9 u ((shapeT h t).map Value.string) ∧ (∀ x ∈ s.ownBlock.toList, x ∉ fp) ∧ ∀ x ∈ u.ownBlock.toList, x ∉ fp) := by
        refine ⟨o1, o2, ?_, ?_⟩
        · intro x hx hf
          have h1 := d1 x hx
          have h2 := hfp x hf
          omega
        · intro x hx hf
          have h1 := d2 x hx
          have h2 := hfp x hf
          omega
      clear o1 o2 ht d1 d2 hfp HP K3
      cases hh : has p (flat h t)
      · have HI : Hid _ := insert_new K4.out.1 p hh
        have HM : Hid (∀ W5, Turned W4 W5 fp → Calls Try.prog 19 #[mv, .string p] W5 fun e w' => ∃ v', e = .returned (.tuple #[v', .bool true]) ∧ Own w' B 9 v' ((put p (flat h t)).map Value.string) ∧ Turned W5 w' mv.ownBlock.toList ∧ ∀ x ∈ v'.ownBlock.toList, x ∈ mv.ownBlock.toList ∨ W5.heap.size ≤ x) := by
          intro W5 ht
          have hm := own_mem_lt K4.out.1.model
          have := minsert_any B mv (flat h t) p W5 (Nat.le_trans K4.out.1.size ht.size) (own_keptL K4.out.1.model (fun x hx => ht.block x (hm x hx).1 (K4.out.1.apart x hx))) K4.out.1.asc (by have := K4.out.2.2; omega)
          rwa [hh] at this
        have HL : Hid (Asc (put p (flat h t)) ∧ (put p (flat h t)).length ≤ 16385) := ⟨asc_put K4.out.1.asc, by have h1 := put_length p (flat h t); have h2 := K4.out.2.2; omega⟩
        clear hh KS
        go_wp2_with fail
        refine Calls.mono HI.out ?_
        rintro e W5 (⟨rfl, hg⟩ | ⟨br, sp, rfl, hg⟩)
        · have HG : Hid (Grown' W4 B b (put p (flat h t)) fp W5) := hg
          clear hg HI
          go_wp2_with fail
          refine Calls.mono (HM.out W5 HG.out.choose_spec.2.1) ?_
          rintro e W6 ⟨v', rfl, m1, m2, m3⟩
          have HF : Hid (Calls Try.prog 11 #[.pointer (some ⟨b, 0, none⟩), v'] W6 (fun e w' => e = .returned (.bool true) ∧ Turned W6 w' []) ∧ Below B W0' W6 ∧ B ≤ W6.heap.size) := by
            obtain ⟨fp', g1, g2, g3⟩ := HG.out
            obtain ⟨r1, r2⟩ := both_step K4.out.1.both g1 g2 g3 m1 m2 m3 HL.out.1
            exact ⟨holds_any B b v' _ fp' W6 r1 HL.out.2, K4.out.2.1.trans r2, r1.size⟩
          clear m1 m2 m3 HG HM HL
          go_wp2_with fail
          refine Calls.mono HF.out.1 ?_
          rintro e W7 ⟨rfl, ht⟩
          have H7 : Hid (Below W0'.heap.size W0' W7) := by
            rw [← HB0.out]
            exact HF.out.2.1.trans (ht.toBelow (fun x hx => by simp at hx) HF.out.2.2)
          clear ht HF
          go_wp2
          go_ret
          exact ⟨rfl, H7.out⟩
        · have HG : Hid (∀ W, W = ((W5.alloc (.cells #[.string sp] 9)).alloc (.cells #[.pointer (some ⟨b, 0, none⟩), .pointer (some ⟨br, 0, none⟩)] 25)).alloc (.cells #[.slice (some ⟨W5.heap.size, 0, none⟩) 1 1, .slice (some ⟨W5.heap.size + 1, 0, none⟩) 2 2] 60) → Grown' W4 B (W5.heap.size + 2) (put p (flat h t)) fp W) := hg
          clear hg HI
          go_wp2_with fail
          refine (newroot_any b br sp W5).mono ?_
          rintro e W5' ⟨rfl, hW5⟩
          have HG' : Hid (Grown' W4 B (W5.heap.size + 2) (put p (flat h t)) fp W5') := HG.out W5' hW5
          clear hW5 HG
          generalize W5.heap.size + 2 = b' at *
          go_wp2_with fail
          refine Calls.mono (HM.out W5' HG'.out.choose_spec.2.1) ?_
          rintro e W6 ⟨v', rfl, m1, m2, m3⟩
          have HF : Hid (Calls Try.prog 11 #[.pointer (some ⟨b', 0, none⟩), v'] W6 (fun e w' => e = .returned (.bool true) ∧ Turned W6 w' []) ∧ Below B W0' W6 ∧ B ≤ W6.heap.size) := by
            obtain ⟨fp', g1, g2, g3⟩ := HG'.out
            obtain ⟨r1, r2⟩ := both_step K4.out.1.both g1 g2 g3 m1 m2 m3 HL.out.1
            exact ⟨holds_any B b' v' _ fp' W6 r1 HL.out.2, K4.out.2.1.trans r2, r1.size⟩
          clear m1 m2 m3 HG' HM HL
          go_wp2_with fail
          refine Calls.mono HF.out.1 ?_
          rintro e W7 ⟨rfl, ht⟩
          have H7 : Hid (Below W0'.heap.size W0' W7) := by
            rw [← HB0.out]
            exact HF.out.2.1.trans (ht.toBelow (fun x hx => by simp at hx) HF.out.2.2)
          clear ht HF
          go_wp2
          go_ret
          exact ⟨rfl, H7.out⟩
      · have HI : Hid _ := insert_held K4.out.1 p hh
        clear hh
        go_wp2_with fail
        refine Calls.mono HI.out ?_
        rintro e W5 ⟨rfl, fp', k5, ht⟩
        have K5 : Hid (BothT W5 B b h t mv fp' ∧ Below B W0' W5 ∧ (flat h t).length ≤ 16384) := ⟨k5, K4.out.2.1.trans (ht.toBelow (fun x hx => ((rep_mem h K4.out.1.rep).2 x hx).2) K4.out.1.size), K4.out.2.2⟩
        have KS5 : Hid (Own W5 B 3 s (ints (shapeS h t)) ∧ Own W5 B 9 u ((shapeT h t).map Value.string)) :=
          ⟨own_keptL KS.out.1 (fun x hx => ht.block x (own_mem_lt KS.out.1 x hx).1 (KS.out.2.2.1 x hx)), own_keptL KS.out.2.1 (fun x hx => ht.block x (own_mem_lt KS.out.2.1 x hx).1 (KS.out.2.2.2 x hx))⟩
        have HH : Hid _ := holds_any B b mv (flat h t) fp' W5 k5.both (by have := K5.out.2.2; omega)
        clear k5 ht HI KS K4
        go_wp2_with fail
        refine Calls.mono HH.out ?_
        rintro e W6 ⟨rfl, ht⟩
        have K6 : Hid (BothT W6 B b h t mv fp' ∧ Below B W0' W6 ∧ (flat h t).length ≤ 16384) := ⟨K5.out.1.turned ht, K5.out.2.1.trans (ht.toBelow (fun x hx => by simp at hx) K5.out.1.size), K5.out.2.2⟩
        have KS6 : Hid (Own W6 B 3 s (ints (shapeS h t)) ∧ Own W6 B 9 u ((shapeT h t).map Value.string)) :=
          ⟨own_keptL KS5.out.1 (fun x hx => ht.block x (own_mem_lt KS5.out.1 x hx).1 (by simp)), own_keptL KS5.out.2 (fun x hx => ht.block x (own_mem_lt KS5.out.2 x hx).1 (by simp))⟩
        have HP : Hid _ := shape_both K6.out.1 (by have := K6.out.2.2; omega)
        clear ht HH K5 KS5
        go_wp2_with fail
        refine Calls.mono HP.out ?_
        rintro e W7 ⟨s2, u2, rfl, o1, o2, ht, d1, d2⟩
        have K7 : Hid (BothT W7 B b h t mv fp' ∧ Below B W0' W7 ∧ (flat h t).length ≤ 16384) := ⟨K6.out.1.turned ht, K6.out.2.1.trans (ht.toBelow (fun x hx => by simp at hx) K6.out.1.size), K6.out.2.2⟩
        have KS7 : Hid ((Own W7 B 3 s (ints (shapeS h t)) ∧ Own W7 B 9 u ((shapeT h t).map Value.string)) ∧ Own W7 B 3 s2 (ints (shapeS h t)) ∧ Own W7 B 9 u2 ((shapeT h t).map Value.string)) :=
          ⟨⟨own_keptL KS6.out.1 (fun x hx => ht.block x (own_mem_lt KS6.out.1 x hx).1 (by simp)), own_keptL KS6.out.2 (fun x hx => ht.block x (own_mem_lt KS6.out.2 x hx).1 (by simp))⟩, o1, o2⟩
        have hb := shape_bound h true none none t K7.out.1.good
        have HE : Hid _ := sameints_any B s s2 (shapeS h t) W7 (by have := K7.out.2.2; omega) KS7.out.1.1 KS7.out.2.1
        have HF : Hid (∀ q, Calls Try.prog 17 #[u, u2] (W7.drewN q) fun e w' => e = .returned (.bool true) ∧ ∃ q', w' = (W7.drewN q).drewN q') := by
          intro q
          exact same_any B u u2 (shapeT h t) (W7.drewN q) (by have := K7.out.2.2; omega) (own_keptL KS7.out.1.2 (fun _ _ => rfl)) (own_keptL KS7.out.2.2 (fun _ _ => rfl))
        clear o1 o2 ht d1 d2 HP K6 KS6 KS7 hb
        go_wp2_with fail
        refine Calls.mono HE.out ?_
        rintro e W8 ⟨rfl, q8, rfl⟩
        go_wp2_with fail
        refine Calls.mono (HF.out q8) ?_
        rintro e W9 ⟨rfl, q9, rfl⟩
        have H7 : Hid (Below W0'.heap.size W0' (W7.drewN (q8 + q9))) := by
          rw [← HB0.out]
          exact below_drewN K7.out.2.1 (q8 + q9)
        go_wp2
        go_ret
        exact ⟨rfl, H7.out⟩

set_option maxHeartbeats 1000000 in
set_option maxRecDepth 100000 in
theorem law4_big (a : Option Addr) (n c : Nat) (p : ByteArray) (w : World) (hn : n ≤ 9223372036854775807) (hp : p.size ≤ 9223372036854775807) (hb : 16384 < n ∨ 1048576 < p.size) (H12 : Hid (Calls Try.prog 12 #[.slice a n c, .string p] w (SomeBool w))) :
    Calls Try.prog 4 #[.slice a n c, .string p] w fun e w' => e = .returned (.bool true) ∧ Below w.heap.size w w' := by
  by_cases h1 : 16384 < n
  · clear hb
    go_enter Try.func4, Try.ntmps4
    go_wp2_with fail
    refine Calls.mono H12.out ?_
    rintro e W0 ⟨bb, rfl, rfl⟩
    cases bb
    · go_wp2
      go_ret
      exact ⟨rfl, Below.refl _ _⟩
    · go_wp2
      go_ret
      exact ⟨rfl, Below.refl _ _⟩
  · have h2 : 1048576 < p.size := by omega
    clear hb
    go_enter Try.func4, Try.ntmps4
    go_wp2_with fail
    refine Calls.mono H12.out ?_
    rintro e W0 ⟨bb, rfl, rfl⟩
    cases bb
    · go_wp2
      go_ret
      exact ⟨rfl, Below.refl _ _⟩
    · go_wp2
      go_ret
      exact ⟨rfl, Below.refl _ _⟩

theorem law4_zero (a : Option Addr) (c : Nat) (p : ByteArray) (w : World) (hp : p.size ≤ maxLen) : Calls Try.prog 4 #[.slice a 0 c, .string p] w fun e w' => e = .returned (.bool true) ∧ Below w.heap.size w w' := by
  have hp' : p.size ≤ 9223372036854775807 := by unfold maxLen at hp; omega
  by_cases h : 1048576 < p.size
  · exact law4_big a 0 c p w (by omega) hp' (.inr h) (bytes12_zero a c p w)
  · refine law4_main a 0 c p w (by omega) (by omega) (bytes12_zero a c p w) ?_ (build_zero a c w)
    refine (keybytes_zero a c p.size w).mono ?_
    rintro e w' ⟨rfl, rfl⟩
    exact ⟨p.size, by omega, rfl, rfl⟩

theorem law4_row (x : Addr) (cap : Nat) (ks : List ByteArray) (p : ByteArray) (w : World) (hr : InRow w w.heap.size x ks) (hm : ks.length ≤ maxLen) (hp : p.size ≤ maxLen) : Calls Try.prog 4 #[.slice (some x) ks.length cap, .string p] w fun e w' => e = .returned (.bool true) ∧ Below w.heap.size w w' := by
  have hp' : p.size ≤ 9223372036854775807 := by unfold maxLen at hp; omega
  have hm' : ks.length ≤ 9223372036854775807 := by unfold maxLen at hm; omega
  by_cases h : 16384 < ks.length ∨ 1048576 < p.size
  · exact law4_big (some x) ks.length cap p w hm' hp' h (bytes12_row x cap ks p w hr.cell)
  · exact law4_main (some x) ks.length cap p w (by omega) (by omega) (bytes12_row x cap ks p w hr.cell) (keybytes_row x cap p.size ks w (by omega) (by omega) hr.cell) (build_row x cap ks w hr (by omega))
end Go.Proofs.Qxb6603837a

/-
  FnSkipSpaceAndCommentsStopsAtToken (4): the walk.
-/
import Derived.Test.Qxb6603949aSk4
namespace Go.Proofs.Qxb6603949a
open Go.RowKit
set_option linter.unusedVariables false

theorem ends_far {z : Nat → Int} {n o K : Nat} (h : Ends z n o K) (ho : n ≤ o) : K = 0 := by
  by_cases hk : K = 0
  · exact hk
  · have := h.1 0 (by omega)
    unfold goes at this
    simp at this
    omega

set_option maxHeartbeats 4000000 in
set_option maxRecDepth 100000 in
theorem stops4 (z : Nat → Int) (a : Option Addr) (n c : Nat) (o l k : Int) (w : World) (hn : n ≤ 9223372036854775807) (ho0 : -9223372036854775808 ≤ o) (ho1 : o ≤ 9223372036854775807) (hz : Hid (∀ i, i < n → 0 ≤ z i ∧ z i < 256)) (HX : Hid (SrcIn w a n z)) :
    Calls Try.prog 4 #[.slice a n c, .int .i64 o, .int .i64 l, .int .i64 k] w fun e w' => e = .returned (.bool true) ∧ Below w.heap.size w w' := by
  have H10 : Hid _ := bound10 a n c o l k w hn
  by_cases hbig : 1048576 < n
  · have e : decide (n ≤ 1048576) = false := by simp; omega
    rw [e] at H10
    clear e
    go_enter Try.func4, Try.ntmps4
    go_wp2_with fail
    refine same_of H10.out ?_
    go_wp2
    go_ret
    exact ⟨rfl, Below.refl _ _⟩
  have e : decide (n ≤ 1048576) = true := by simp; omega
  rw [e] at H10
  clear e
  by_cases hneg : o < 0
  · go_enter Try.func4, Try.ntmps4
    go_wp2_with fail
    refine same_of H10.out ?_
    go_wp2
    go_ret
    exact ⟨rfl, Below.refl _ _⟩
  obtain ⟨q, rfl⟩ : ∃ q : Nat, o = (q : Int) := ⟨o.toNat, by omega⟩
  have H6 : Hid _ := clone6 z a n c w (by omega) HX
  go_enter Try.func4, Try.ntmps4
  go_wp2_with fail
  refine same_of H10.out ?_
  go_wp2_with fail
  refine Calls.mono H6.out ?_
  rintro e W1 ⟨a1, c1, rfl, hs1, hb1⟩
  have HS1 : Hid (SrcIn W1 a1 n z) := hs1
  have HB1 : Hid (Below w.heap.size w W1) := hb1
  clear hs1 hb1 H6 H10 HX
  have H7 : Hid _ := skip7 z a1 n c1 q l k W1 (by omega) (by omega) hz HS1
  go_wp2_with fail
  refine Calls.mono H7.out ?_
  rintro e W2 ⟨K, hK, rfl, hb2⟩
  have HS2 : Hid (SrcIn W2 a1 n z) := HS1.out.below hb2
  have HB2 : Hid (Below w.heap.size w W2) := HB1.out.trans (hb2.mono HB1.out.size)
  have HK : Hid (Ends z n q K) := hK
  clear hK hb2 HS1 HB1 H7
  generalize (pos z q (l, k) K).1 = p1 at *
  generalize (pos z q (l, k) K).2 = p2 at *
  by_cases hfar : n ≤ q
  · obtain rfl := ends_far HK.out hfar
    go_wp2
    go_ret
    exact ⟨by simp, HB2.out⟩
  have hend := ends_bound HK.out (by omega)
  by_cases hat : q + K = n
  · have t1 : (((q + K : Nat) : Int) == (n : Int)) = true := by rw [hat]; simp
    rw [hat]
    clear hat t1
    go_wp2
    go_ret
    exact ⟨rfl, HB2.out⟩
  obtain ⟨m, hm⟩ : ∃ m, m = q + K := ⟨_, rfl⟩
  have hlt : m < n := by omega
  obtain ⟨hbl, hsl⟩ := ends_token HK.out (by omega)
  rw [← hm] at hbl hsl hend
  obtain ⟨x, rfl, hxb, hx⟩ := HS2.out (by omega)
  have hc := hx m hlt
  have H11 : Hid _ := space11 (z m) W2
  rw [hbl] at H11
  have hqm : q ≤ m := by omega
  have t1 : ((m : Int) == (n : Int)) = false := by rw [beq_eq_false_iff_ne]; omega
  rw [← hm]
  have HNX : Hid (∀ i, i < n → W2.cell? (x.add i) = some (.int .u8 (z i))) := hx
  clear hat hm hx hbl HK HS2
  by_cases h47 : z m = 47
  · by_cases hm1 : m + 1 < n
    · have hc1 := HNX.out (m + 1) hm1
      rw [add_s] at hc1
      have t2 : (z (m + 1) == 47) = false := by
        rw [beq_eq_false_iff_ne]
        intro h
        unfold slash2 at hsl
        simp [h47, hm1, h] at hsl
      have ht : ((m : Int) + 1).toNat = m + 1 := by omega
      clear hsl
      rw [h47] at hc H11
      clear h47
      generalize z (m + 1) = b1 at *
      go_wp2_with fail
      refine same_of H11.out ?_
      go_wp2
      go_ret
      exact ⟨rfl, HB2.out⟩
    · rw [h47] at hc H11
      clear h47 hsl
      go_wp2_with fail
      refine same_of H11.out ?_
      go_wp2
      go_ret
      exact ⟨rfl, HB2.out⟩
  · have t2 : (z m == 47) = false := by rw [beq_eq_false_iff_ne]; exact h47
    clear h47 hsl
    generalize z m = b at *
    go_wp2_with fail
    refine same_of H11.out ?_
    go_wp2
    go_ret
    exact ⟨rfl, HB2.out⟩
end Go.Proofs.Qxb6603949a

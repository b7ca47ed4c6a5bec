/-
  zzPosAfter (9), and FnSkipSpaceAndCommentsModel (3).
-/
import Derived.Test.Qxb6603949aSk6
namespace Go.Proofs.Qxb6603949a
open Go.RowKit
set_option linter.unusedVariables false

/-- Where the last newline lies; -1 where there is none. -/
def lastI (z : Nat → Int) (o k : Nat) : Int := if nl z o k = 0 then -1 else ((o + st z o k : Nat) : Int) - 1

def Pos9 (z : Nat → Int) (o K : Nat) (l c : Int) (w : World) (e : Ending) (w' : World) : Prop :=
  e = .returned (.tuple #[.int .i64 (pos z o (l, c) K).1, .int .i64 (pos z o (l, c) K).2]) ∧ w' = w

theorem counts_iff {b : Int} : counts b = true ↔ b < 128 ∨ 192 ≤ b := by
  unfold counts
  simp

set_option maxHeartbeats 4000000 in
set_option maxRecDepth 100000 in
theorem pos9 (z : Nat → Int) (a : Option Addr) (n cap o K : Nat) (l c : Int) (w : World) (hn : n ≤ 1048576) (ho : o ≤ 9223372036854775807) (hK : K = 0 ∨ o + K ≤ n) (hl0 : -9223372036854775808 ≤ l) (hl1 : l ≤ 9223372036854775807) (hc0 : -9223372036854775808 ≤ c) (hc1 : c ≤ 9223372036854775807) (HX : Hid (SrcIn w a n z)) :
    Calls Try.prog 9 #[.slice a n cap, .int .i64 o, .int .i64 ((o + K : Nat) : Int), .int .i64 l, .int .i64 c] w (Pos9 z o K l c w) := by
  have HP : Hid (∀ p1 p2 : Int, p1 = wrap64 (l + nl z o K) → p2 = wrap64 ((if nl z o K = 0 then c else 1) + ct z (o + st z o K) (K - st z o K)) → Pos9 z o K l c w (.returned (.tuple #[.int .i64 p1, .int .i64 p2])) w) := by
    intro p1 p2 h1 h2
    have h := pos_closed z o l c hl0 hl1 hc0 hc1 K
    exact ⟨by rw [h, h1, h2], rfl⟩
  have HXX : Hid (∀ m, m < o + K → o ≤ m → ∃ x, a = some x ∧ m < n ∧ w.cell? (x.add m) = some (.int .u8 (z m))) := by
    intro m h1 h2
    have hmn : m < n := by omega
    obtain ⟨x, e1, _, e2⟩ := HX.out (by omega)
    exact ⟨x, e1, hmn, e2 m hmn⟩
  clear HX
  generalize hT : o + K = T at *
  have HT : Hid (o + K = T) := hT
  have hTb : T ≤ 9223372036854775807 := by omega
  have hKb : K ≤ 1048576 := by omega
  have hoT : o ≤ T := by omega
  clear hT hK
  go_enter Try.func9, Try.ntmps9
  go_wp2
  go_loop [12, 13, 14] (fun s12 s13 s14 => ∃ k m v : Nat, ∃ lv : Int, s12 = .int .i64 v ∧ s13 = .int .i64 lv ∧ s14 = .int .i64 m ∧ m ≤ T ∧ o ≤ m ∧ v ≤ 1048576 ∧ -1 ≤ lv ∧ lv ≤ 9223372036854775806 ∧ Hid (m = o + k ∧ v = nl z o k ∧ lv = lastI z o k)) (fun _ _ s14 => T - (intOf s14).toNat)
  case atStart => exact ⟨0, o, 0, -1, rfl, rfl, rfl, hoT, Nat.le_refl _, Nat.zero_le _, Int.le_refl _, by omega, rfl, rfl, rfl⟩
  case round =>
    obtain ⟨k, m, v, lv, rfl, rfl, rfl, hmT, hom, hv, hlv0, hlv1, HK⟩ := hrel
    by_cases hlt : m < T
    · obtain ⟨x, rfl, hmn, hb⟩ := HXX.out m hlt hom
      have HS : Hid (k + 1 ≤ 1048576 ∧ nl z o (k + 1) ≤ k + 1) := ⟨by have := HK.out.1; have := HT.out; omega, nl_le z o (k + 1)⟩
      by_cases h10 : z m = 10
      · have HN : Hid (m + 1 = o + (k + 1) ∧ v + 1 = nl z o (k + 1) ∧ (m : Int) = lastI z o (k + 1)) := by
          obtain ⟨e1, e2, e3⟩ := HK.out
          have e4 : nl z o (k + 1) = nl z o k + 1 := by
            show (if _ then _ else _) = _
            rw [← e1, if_pos h10]
          have e5 : st z o (k + 1) = k + 1 := by
            show (if _ then _ else _) = _
            rw [← e1, if_pos h10]
          refine ⟨by omega, by omega, ?_⟩
          unfold lastI
          rw [e4, e5, if_neg (by omega)]
          omega
        have hv1 : v + 1 ≤ 1048576 := by have := HN.out.2.1; have := HS.out; omega
        rw [h10] at hb
        clear h10
        go_wp2
        go_round
        case rel => exact ⟨k + 1, m + 1, v + 1, (m : Int), by go_num, rfl, by go_num, by omega, by omega, hv1, by omega, by omega, HN⟩
        case measure => simp [intOf]; omega
      · have HN : Hid (m + 1 = o + (k + 1) ∧ v = nl z o (k + 1) ∧ lv = lastI z o (k + 1)) := by
          obtain ⟨e1, e2, e3⟩ := HK.out
          have e4 : nl z o (k + 1) = nl z o k := by
            show (if _ then _ else _) = _
            rw [← e1, if_neg h10]
          have e5 : st z o (k + 1) = st z o k := by
            show (if _ then _ else _) = _
            rw [← e1, if_neg h10]
          refine ⟨by omega, by omega, ?_⟩
          rw [e3]
          unfold lastI
          rw [e4, e5]
        have t1 : (z m == 10) = false := by rw [beq_eq_false_iff_ne]; exact h10
        clear h10
        generalize z m = b at *
        go_wp2
        go_round
        case rel => exact ⟨k + 1, m + 1, v, lv, rfl, rfl, by go_num, by omega, by omega, hv, hlv0, hlv1, HN⟩
        case measure => simp [intOf]; omega
    · obtain rfl : m = T := by omega
      have hkK : k = K := by have h1 := HK.out.1; have h2 := HT.out; omega
      subst hkK
      have HKK : Hid (v = nl z o k ∧ lv = lastI z o k) := HK.out.2
      have HST : Hid (st z o k ≤ k) := st_le z o k
      clear HK
      by_cases hv0 : v = 0
      · subst hv0
        have HC : Hid (nl z o k = 0 ∧ st z o k = 0) := ⟨HKK.out.1.symm, st_zero z o k HKK.out.1.symm⟩
        go_wp2
        go_loop [4, 16] (fun s4 s16 => ∃ t m2 : Nat, ∃ cc : Int, s4 = .int .i64 cc ∧ s16 = .int .i64 m2 ∧ m2 ≤ m ∧ o ≤ m2 ∧ Hid (m2 = o + t ∧ cc = wrap64 (c + ct z o t))) (fun _ s16 => m - (intOf s16).toNat)
        case atStart => exact ⟨0, o, c, rfl, rfl, hoT, Nat.le_refl _, rfl, by rw [show ct z o 0 = 0 from rfl]; show c = wrap64 (c + ((0 : Nat) : Int)); rw [wr_self (by omega) (by omega)]; simp⟩
        case round =>
          obtain ⟨t, m2, cc, rfl, rfl, hm2, hom2, HH⟩ := hrel
          by_cases hlt2 : m2 < m
          · obtain ⟨x, rfl, hmn, hb⟩ := HXX.out m2 hlt2 hom2
            by_cases hcn : counts (z m2) = true
            · have HN : Hid (m2 + 1 = o + (t + 1) ∧ wrap64 (cc + 1) = wrap64 (c + ct z o (t + 1))) := by
                obtain ⟨e1, e2⟩ := HH.out
                refine ⟨by omega, ?_⟩
                have e3 : ct z o (t + 1) = ct z o t + 1 := by
                  show (if _ then _ else _) = _
                  rw [← e1, if_pos hcn]
                rw [e3, e2]
                exact wr_succ _ _
              by_cases h128 : z m2 < 128
              · clear hcn
                generalize z m2 = b at *
                go_wp2
                go_round
                case rel => exact ⟨t + 1, m2 + 1, wrap64 (cc + 1), rfl, by go_num, by omega, by omega, HN⟩
                case measure => simp [intOf]; omega
              · have h192 : 192 ≤ z m2 := by
                  rcases counts_iff.1 hcn with h | h
                  · omega
                  · exact h
                clear hcn
                generalize z m2 = b at *
                go_wp2
                go_round
                case rel => exact ⟨t + 1, m2 + 1, wrap64 (cc + 1), rfl, by go_num, by omega, by omega, HN⟩
                case measure => simp [intOf]; omega
            · have h128 : ¬ z m2 < 128 := fun h => hcn (counts_iff.2 (.inl h))
              have h192 : ¬ 192 ≤ z m2 := fun h => hcn (counts_iff.2 (.inr h))
              have HN : Hid (m2 + 1 = o + (t + 1) ∧ cc = wrap64 (c + ct z o (t + 1))) := by
                obtain ⟨e1, e2⟩ := HH.out
                refine ⟨by omega, ?_⟩
                have e3 : ct z o (t + 1) = ct z o t := by
                  show (if _ then _ else _) = _
                  rw [← e1, if_neg hcn]
                rw [e3, e2]
              clear hcn
              generalize z m2 = b at *
              go_wp2
              go_round
              case rel => exact ⟨t + 1, m2 + 1, cc, rfl, by go_num, by omega, by omega, HN⟩
              case measure => simp [intOf]; omega
          · obtain rfl : m2 = m := by omega
            have HR : Hid (Pos9 z o k l c w (.returned (.tuple #[.int .i64 l, .int .i64 cc])) w) := by
              obtain ⟨e1, e2⟩ := HH.out
              obtain ⟨e3, e4⟩ := HC.out
              have e5 : t = k := by have := HT.out; omega
              refine HP.out _ _ ?_ ?_
              · rw [e3, show ((0 : Nat) : Int) = 0 from rfl, Int.add_zero, wr_self hl0 hl1]
              · rw [e3, e4, if_pos rfl, Nat.add_zero, Nat.sub_zero, e2, e5]
            go_wp2
            go_ret2
            exact HR.out
      · have HC : Hid (nl z o k ≠ 0 ∧ lv = ((o + st z o k : Nat) : Int) - 1) := by
          obtain ⟨e1, e2⟩ := HKK.out
          refine ⟨by omega, ?_⟩
          rw [e2]
          unfold lastI
          rw [if_neg (by omega)]
        obtain ⟨s0, hs0⟩ : ∃ s0, s0 = o + st z o k := ⟨_, rfl⟩
        obtain rfl : lv = (s0 : Int) - 1 := by rw [hs0]; exact HC.out.2
        have HS0 : Hid (s0 = o + st z o k) := hs0
        have hs0b : s0 ≤ m := by have h1 := HST.out; have h2 := HT.out; omega
        have hs0o : o ≤ s0 := by omega
        have e1 : (s0 : Int) - 1 + 1 = s0 := by omega
        clear hs0 HC
        go_wp2
        go_loop [4, 16] (fun s4 s16 => ∃ t m2 : Nat, ∃ cc : Int, s4 = .int .i64 cc ∧ s16 = .int .i64 m2 ∧ m2 ≤ m ∧ s0 ≤ m2 ∧ Hid (m2 = s0 + t ∧ cc = wrap64 (1 + ct z s0 t))) (fun _ s16 => m - (intOf s16).toNat)
        case atStart => exact ⟨0, s0, 1, rfl, rfl, hs0b, Nat.le_refl _, rfl, by rw [show ct z s0 0 = 0 from rfl, wr_self (by omega) (by omega)]; rfl⟩
        case round =>
          obtain ⟨t, m2, cc, rfl, rfl, hm2, hom2, HH⟩ := hrel
          by_cases hlt2 : m2 < m
          · obtain ⟨x, rfl, hmn, hb⟩ := HXX.out m2 hlt2 (by omega)
            by_cases hcn : counts (z m2) = true
            · have HN : Hid (m2 + 1 = s0 + (t + 1) ∧ wrap64 (cc + 1) = wrap64 (1 + ct z s0 (t + 1))) := by
                obtain ⟨e1, e2⟩ := HH.out
                refine ⟨by omega, ?_⟩
                have e3 : ct z s0 (t + 1) = ct z s0 t + 1 := by
                  show (if _ then _ else _) = _
                  rw [← e1, if_pos hcn]
                rw [e3, e2]
                exact wr_succ _ _
              by_cases h128 : z m2 < 128
              · clear hcn
                generalize z m2 = b at *
                go_wp2
                go_round
                case rel => exact ⟨t + 1, m2 + 1, wrap64 (cc + 1), rfl, by go_num, by omega, by omega, HN⟩
                case measure => simp [intOf]; omega
              · have h192 : 192 ≤ z m2 := by
                  rcases counts_iff.1 hcn with h | h
                  · omega
                  · exact h
                clear hcn
                generalize z m2 = b at *
                go_wp2
                go_round
                case rel => exact ⟨t + 1, m2 + 1, wrap64 (cc + 1), rfl, by go_num, by omega, by omega, HN⟩
                case measure => simp [intOf]; omega
            · have h128 : ¬ z m2 < 128 := fun h => hcn (counts_iff.2 (.inl h))
              have h192 : ¬ 192 ≤ z m2 := fun h => hcn (counts_iff.2 (.inr h))
              have HN : Hid (m2 + 1 = s0 + (t + 1) ∧ cc = wrap64 (1 + ct z s0 (t + 1))) := by
                obtain ⟨e1, e2⟩ := HH.out
                refine ⟨by omega, ?_⟩
                have e3 : ct z s0 (t + 1) = ct z s0 t := by
                  show (if _ then _ else _) = _
                  rw [← e1, if_neg hcn]
                rw [e3, e2]
              clear hcn
              generalize z m2 = b at *
              go_wp2
              go_round
              case rel => exact ⟨t + 1, m2 + 1, cc, rfl, by go_num, by omega, by omega, HN⟩
              case measure => simp [intOf]; omega
          · obtain rfl : m2 = m := by omega
            have HR : Hid (Pos9 z o k l c w (.returned (.tuple #[.int .i64 (wrap64 (l + v)), .int .i64 cc])) w) := by
              obtain ⟨e1, e2⟩ := HH.out
              have e3 := HS0.out
              have e5 : t = k - st z o k := by have := HT.out; omega
              refine HP.out _ _ ?_ ?_
              · rw [HKK.out.1]
              · rw [if_neg (by rw [← HKK.out.1]; exact hv0), ← e3, e2, e5]
            go_wp2
            go_ret2
            exact HR.out

theorem ends_or {z : Nat → Int} {n o K : Nat} (h : Ends z n o K) : K = 0 ∨ o + K ≤ n := by
  by_cases hk : K = 0
  · exact .inl hk
  · right
    have := h.1 (K - 1) (by omega)
    unfold goes at this
    simp at this
    omega

set_option maxHeartbeats 4000000 in
set_option maxRecDepth 100000 in
theorem model3 (z : Nat → Int) (a : Option Addr) (n c : Nat) (o l k : Int) (w : World) (hn : n ≤ 9223372036854775807) (ho0 : -9223372036854775808 ≤ o) (ho1 : o ≤ 9223372036854775807) (hl0 : -9223372036854775808 ≤ l) (hl1 : l ≤ 9223372036854775807) (hk0 : -9223372036854775808 ≤ k) (hk1 : k ≤ 9223372036854775807) (hz : Hid (∀ i, i < n → 0 ≤ z i ∧ z i < 256)) (HX : Hid (SrcIn w a n z)) :
    Calls Try.prog 3 #[.slice a n c, .int .i64 o, .int .i64 l, .int .i64 k] w fun e w' => e = .returned (.bool true) ∧ Below w.heap.size w w' := by
  have H5 : Hid _ := bound5 a n c o l k w hn
  by_cases hbig : 1048576 < n
  · have e : decide (n ≤ 1048576) = false := by simp; omega
    rw [e] at H5
    clear e
    go_enter Try.func3, Try.ntmps3
    go_wp2_with fail
    refine same_of H5.out ?_
    go_wp2
    go_ret
    exact ⟨rfl, Below.refl _ _⟩
  have e : decide (n ≤ 1048576) = true := by simp; omega
  rw [e] at H5
  clear e
  by_cases hneg : o < 0
  · go_enter Try.func3, Try.ntmps3
    go_wp2_with fail
    refine same_of H5.out ?_
    go_wp2
    go_ret
    exact ⟨rfl, Below.refl _ _⟩
  obtain ⟨q, rfl⟩ : ∃ q : Nat, o = (q : Int) := ⟨o.toNat, by omega⟩
  have H6 : Hid _ := clone6 z a n c w (by omega) HX
  go_enter Try.func3, Try.ntmps3
  go_wp2_with fail
  refine same_of H5.out ?_
  go_wp2_with fail
  refine Calls.mono H6.out ?_
  rintro e W1 ⟨a1, c1, rfl, hs1, hb1⟩
  have HS1 : Hid (SrcIn W1 a1 n z) := hs1
  have HB1 : Hid (Below w.heap.size w W1) := hb1
  clear hs1 hb1 H6 H5 HX
  have H7 : Hid _ := skip7 z a1 n c1 q l k W1 (by omega) (by omega) hz HS1
  go_wp2_with fail
  refine Calls.mono H7.out ?_
  rintro e W2 ⟨K, hK, rfl, hb2⟩
  have HS2 : Hid (SrcIn W2 a1 n z) := HS1.out.below hb2
  have HB2 : Hid (Below w.heap.size w W2) := HB1.out.trans (hb2.mono HB1.out.size)
  have HK : Hid (Ends z n q K) := hK
  clear hK hb2 HS1 HB1 H7
  have H8 : Hid _ := end8 z a1 n c1 q W2 (by omega) (by omega) HS2
  go_wp2_with fail
  refine Calls.mono H8.out ?_
  rintro e W3 ⟨K', hK', rfl, rfl⟩
  obtain rfl := ends_unique HK.out hK'
  have H9 : Hid _ := pos9 z a1 n c1 q K l k W3 (by omega) (by omega) (ends_or HK.out) hl0 hl1 hk0 hk1 HS2
  clear hK' H8
  go_wp2_with fail
  refine Calls.mono H9.out ?_
  rintro e W4 ⟨rfl, rfl⟩
  go_wp2
  go_ret
  exact ⟨rfl, HB2.out⟩
end Go.Proofs.Qxb6603949a

/-
  zzSkipEnd (8) and zzPosAfter (9).
-/
import Derived.Test.Qxb6603949aSk4
namespace Go.Proofs.Qxb6603949a
open Go.RowKit
set_option linter.unusedVariables false

def End8 (z : Nat → Int) (n o : Nat) (w : World) (e : Ending) (w' : World) : Prop := ∃ K, Ends z n o K ∧ e = .returned (.int .i64 ((o + K : Nat) : Int)) ∧ w' = w

set_option maxHeartbeats 2000000 in
set_option maxRecDepth 100000 in
theorem end8 (z : Nat → Int) (a : Option Addr) (n c o : Nat) (w : World) (hn : n ≤ 1048576) (ho : o ≤ 9223372036854775807) (HX : Hid (SrcIn w a n z)) : Calls Try.prog 8 #[.slice a n c, .int .i64 o] w (End8 z n o w) := by
  have HE : Hid (∀ k m : Nat, m = o + k → Ends z n o k → End8 z n o w (.returned (.int .i64 (m : Int))) w) := fun k m hm he => ⟨k, he, by rw [hm], rfl⟩
  go_enter Try.func8, Try.ntmps8
  go_wp2
  go_loop [5, 6] (fun s5 s6 => ∃ k m : Nat, s5 = .int .i64 m ∧ s6 = .bool (fl z n o k) ∧ m = o + k ∧ (k = 0 ∨ m ≤ n) ∧ Hid (∀ t, t < k → goes z n o t = true)) (fun s5 _ => n - (intOf s5).toNat)
  case atStart => exact ⟨0, o, rfl, rfl, rfl, .inl rfl, fun t ht => absurd ht (Nat.not_lt_zero _)⟩
  case round =>
    obtain ⟨k, m, rfl, rfl, hm, hkm, HG⟩ := hrel
    have HM : Hid (m = o + k) := hm
    have hf1 : Hid (fl z n o (k + 1) = if fl z n o k then !(z m == 10) else slash2 z n m) := by
      show fl z n o (k + 1) = _
      rw [hm]
      rfl
    have HGK : Hid (m < n → (fl z n o k || blank (z m) || slash2 z n m) = true → ∀ t, t < k + 1 → goes z n o t = true) := by
      intro h1 h2
      refine below_succ HG.out ?_
      unfold goes
      rw [← hm, h2]
      simpa using h1
    have HGS : Hid ((m < n → (fl z n o k || blank (z m) || slash2 z n m) = false) → Ends z n o k) := by
      intro h2
      refine ⟨HG.out, ?_⟩
      unfold goes
      rw [← hm]
      by_cases h1 : m < n
      · rw [h2 h1]
        simp
      · simp [h1]
    clear hm HG
    generalize hfk : fl z n o k = f at *
    generalize hfk1 : fl z n o (k + 1) = f1 at *
    have HF1 : Hid (fl z n o (k + 1) = f1) := hfk1
    clear hfk hfk1
    by_cases hlt : m < n
    · obtain ⟨x, rfl, _, hx⟩ := HX.out (by omega)
      have hc := hx m hlt
      have HXX : Hid (∀ i, i < n → w.cell? (x.add i) = some (.int .u8 (z i))) := hx
      clear hx
      cases f with
      | true =>
        have HGN : Hid _ := HGK.out hlt (by simp)
        by_cases h10 : z m = 10
        · have hf1' : f1 = false := by
            have := hf1.out
            simpa [h10] using this
          subst hf1'
          rw [h10] at hc
          go_wp2
          go_round
          case rel => exact ⟨k + 1, m + 1, by go_num, by rw [HF1.out], by have := HM.out; omega, .inr (by omega), HGN⟩
          case measure => simp [intOf]; omega
        · have t1 : (z m == 10) = false := by rw [beq_eq_false_iff_ne]; exact h10
          have hf1' : f1 = true := by
            have := hf1.out
            rw [t1] at this
            simpa using this
          subst hf1'
          clear h10
          go_wp2
          go_round
          case rel => exact ⟨k + 1, m + 1, by go_num, by rw [HF1.out], by have := HM.out; omega, .inr (by omega), HGN⟩
          case measure => simp [intOf]; omega
      | false =>
        have hfs : Hid (f1 = slash2 z n m) := by
          show f1 = slash2 z n m
          have := hf1.out
          simpa using this
        have H11 : Hid _ := space11 (z m) w
        by_cases hbl : blank (z m) = true
        · have HGN : Hid _ := HGK.out hlt (by simp [hbl])
          have hf1' : f1 = false := by rw [hfs.out]; exact no_slash_of_blank hbl
          subst hf1'
          rw [hbl] at H11
          clear hbl
          go_wp2_with fail
          refine same_of H11.out ?_
          go_wp2
          go_round
          case rel => exact ⟨k + 1, m + 1, by go_num, by rw [HF1.out], by have := HM.out; omega, .inr (by omega), HGN⟩
          case measure => simp [intOf]; omega
        · have hbf : blank (z m) = false := by simpa using hbl
          rw [hbf] at H11
          by_cases hs : slash2 z n m = true
          · obtain ⟨h47, hm1, h471⟩ := slash_not_blank hs
            have HGN : Hid _ := HGK.out hlt (by simp [hs])
            have hf1' : f1 = true := by rw [hfs.out]; exact hs
            subst hf1'
            have hc1 := HXX.out (m + 1) hm1
            rw [add_s, h471] at hc1
            rw [h47] at hc H11
            have ht : ((m : Int) + 1).toNat = m + 1 := by omega
            clear hbl hbf hs h47 h471
            go_wp2_with fail
            refine same_of H11.out ?_
            go_wp2
            go_round
            case rel => exact ⟨k + 1, m + 1, by go_num, by rw [HF1.out], by have := HM.out; omega, .inr (by omega), HGN⟩
            case measure => simp [intOf]; omega
          · have hsf : slash2 z n m = false := by simpa using hs
            have HEE : Hid (End8 z n o w (.returned (.int .i64 (m : Int))) w) := HE.out k m HM.out (HGS.out (fun _ => by simp [hbf, hsf]))
            by_cases h47 : z m = 47
            · by_cases hm1 : m + 1 < n
              · have hc1 := HXX.out (m + 1) hm1
                rw [add_s] at hc1
                have t2 : (z (m + 1) == 47) = false := by
                  rw [beq_eq_false_iff_ne]
                  intro h
                  apply hs
                  unfold slash2
                  simp [h47, hm1, h]
                have ht : ((m : Int) + 1).toNat = m + 1 := by omega
                rw [h47] at hc H11
                clear hbl hbf hs hsf h47
                generalize z (m + 1) = b1 at *
                go_wp2_with fail
                refine same_of H11.out ?_
                go_wp2
                go_ret
                exact HEE.out
              · rw [h47] at hc H11
                clear hbl hbf hs hsf h47
                go_wp2_with fail
                refine same_of H11.out ?_
                go_wp2
                go_ret
                exact HEE.out
            · have t2 : (z m == 47) = false := by rw [beq_eq_false_iff_ne]; exact h47
              clear hbl hbf hs hsf h47
              generalize z m = b at *
              go_wp2_with fail
              refine same_of H11.out ?_
              go_wp2
              go_ret
              exact HEE.out
    · have HEE : Hid (End8 z n o w (.returned (.int .i64 (m : Int))) w) := HE.out k m HM.out (HGS.out (fun h => absurd h hlt))
      go_wp2
      go_ret
      exact HEE.out
end Go.Proofs.Qxb6603949a

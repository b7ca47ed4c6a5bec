/-
  The bound on lengths (function 6).
-/
import Derived.Test.Qxb6603852aEn1
namespace Go.Proofs.Qxb6603852a
open Go.RowKit
set_option linter.unusedVariables false

def Fit6 (s : Sl) (r : Nat → Rn) (w : World) (e : Ending) (w' : World) : Prop := ∃ bb : Bool, e = .returned (.bool bb) ∧ w' = w ∧ (bb = true → RunsFit s r)

theorem Fit6.no (s : Sl) (r : Nat → Rn) (w : World) : Fit6 s r w (.returned (.bool false)) w := ⟨false, rfl, rfl, fun h => by cases h⟩

set_option maxHeartbeats 4000000 in
set_option maxRecDepth 100000 in
theorem bytes6 (ok : Nat → Prop) (a : Option Addr) (n c : Nat) (r : Nat → Rn) (q : Int) (w : World) (HL : Hid (RunsAt w ok ⟨a, n, c⟩ r)) : Calls Try.prog 6 #[.slice a n c, .int .u64 q] w (Fit6 ⟨a, n, c⟩ r w) := by
  have hn0 : n ≤ 9223372036854775807 := HL.out.1.2
  by_cases hn : 1048576 < n
  · go_enter Try.func6, Try.ntmps6
    go_wp2
    go_ret
    exact Fit6.no _ _ _
  · go_enter Try.func6, Try.ntmps6
    go_wp2
    go_loop [5, 6] (fun b c => ∃ i T : Nat, b = .int .i64 T ∧ c = .int .i64 i ∧ i ≤ n ∧ T ≤ 1048576 ∧ Hid (∀ i', i' < i → RnFit (r i'))) (fun _ b => n - (intOf b).toNat)
    case atStart => exact ⟨0, n, by go_num, by go_num, Nat.zero_le _, by omega, fun i' h => by omega⟩
    case round =>
      obtain ⟨i, T, rfl, rfl, hi, hT, HI⟩ := hrel
      by_cases hlt : i < n
      · obtain ⟨x, rfl, _⟩ := HL.out.1.1 (show 0 < n by omega)
        obtain ⟨hc, hin⟩ := HL.out.2 i hlt
        obtain ⟨c0, c1, c2, c3, c4⟩ := hc x rfl
        obtain ⟨hb, he, _, hsn, hse⟩ := hin
        have hbn := hb.1.2
        have hen := he.1.2
        have HE : Hid (EntsAt w ok (r i).s (r i).e) := he
        have HR : Hid ((r i).nm.size ≤ 1048576 → (r i).h.n ≤ 1048576 → (r i).s.n ≤ 1048576 → (r i).en.size ≤ 1048576 → (∀ j, j < (r i).s.n → EntFit ((r i).e j)) → ∀ i', i' < i + 1 → RnFit (r i')) := by
          intro h1 h2 h3 h4 h5 i' hi'
          by_cases e : i' = i
          · rw [e]; exact ⟨h1, h2, h3, h4, h5⟩
          · exact HI.out i' (by omega)
        clear hb he hc HI c2
        generalize r i = ri at *
        obtain ⟨nm, ⟨ha, hn', hc'⟩, f, ⟨ea, en, ec⟩, e, ed⟩ := ri
        simp only at c0 c1 c3 c4 hsn hse hbn hen HE HR
        by_cases h1 : 1048576 < nm.size
        · go_wp2
          go_ret
          exact Fit6.no _ _ _
        by_cases h2 : 1048576 < T + nm.size
        · go_wp2
          go_ret
          exact Fit6.no _ _ _
        by_cases h3 : 1048576 < hn'
        · go_wp2
          go_ret
          exact Fit6.no _ _ _
        by_cases h4 : 1048576 < T + nm.size + hn'
        · go_wp2
          go_ret
          exact Fit6.no _ _ _
        by_cases h5 : 1048576 < en
        · go_wp2
          go_ret
          exact Fit6.no _ _ _
        by_cases h6 : 1048576 < T + nm.size + hn' + en
        · go_wp2
          go_ret
          exact Fit6.no _ _ _
        go_wp2
        go_loop [5, 7] (fun b c => ∃ j T : Nat, b = .int .i64 T ∧ c = .int .i64 j ∧ j ≤ en ∧ T ≤ 1048576 ∧ Hid (∀ j', j' < j → EntFit (e j'))) (fun _ b => en - (intOf b).toNat)
        case atStart => exact ⟨0, T + nm.size + hn' + en, by go_num, by go_num, Nat.zero_le _, by omega, fun i' h => by omega⟩
        case round =>
          obtain ⟨j, T2, rfl, rfl, hj, hT2, HJ⟩ := hrel
          by_cases hlt2 : j < en
          · obtain ⟨y, rfl, _⟩ := HE.out.1.1 (show 0 < en by omega)
            obtain ⟨hd, hin2⟩ := HE.out.2 j hlt2
            obtain ⟨_, d1, d2⟩ := hd y rfl
            obtain ⟨ho, hp⟩ := hin2
            have hon := ho.1.2
            have hpn := hp.1.2
            have HP : Hid (PagesAt w ok (e j).p (e j).pg) := hp
            have HS : Hid ((e j).o.n ≤ 1048576 → (e j).p.n ≤ 1048576 → (∀ k, k < (e j).p.n → ((e j).pg k).n ≤ 1048576) → ∀ j', j' < j + 1 → EntFit (e j')) := by
              intro h1 h2 h3 j' hj'
              by_cases e : j' = j
              · rw [e]; exact ⟨h1, h2, h3⟩
              · exact HJ.out j' (by omega)
            clear ho hp hd HJ
            generalize e j = ej at *
            obtain ⟨d, ⟨oa, on, oc⟩, ⟨pa, pn, pc⟩, pg⟩ := ej
            simp only at d1 d2 hon hpn HP HS
            by_cases g1 : 1048576 < on
            · go_wp2
              go_ret
              exact Fit6.no _ _ _
            by_cases g2 : 1048576 < T2 + on
            · go_wp2
              go_ret
              exact Fit6.no _ _ _
            by_cases g3 : 1048576 < pn
            · go_wp2
              go_ret
              exact Fit6.no _ _ _
            by_cases g4 : 1048576 < T2 + on + pn
            · go_wp2
              go_ret
              exact Fit6.no _ _ _
            go_wp2
            go_loop [5, 8] (fun b c => ∃ k T : Nat, b = .int .i64 T ∧ c = .int .i64 k ∧ k ≤ pn ∧ T ≤ 1048576 ∧ Hid (∀ k', k' < k → (pg k').n ≤ 1048576)) (fun _ b => pn - (intOf b).toNat)
            case atStart => exact ⟨0, T2 + on + pn, by go_num, by go_num, Nat.zero_le _, by omega, fun i' h => by omega⟩
            case round =>
              obtain ⟨k, T3, rfl, rfl, hk, hT3, HK⟩ := hrel
              by_cases hlt3 : k < pn
              · obtain ⟨z, rfl, _⟩ := HP.out.1.1 (show 0 < pn by omega)
                obtain ⟨hd3, hin3⟩ := HP.out.2 k hlt3
                have d3 := hd3 z rfl
                have hgn := hin3.1.2
                have HT : Hid ((pg k).n ≤ 1048576 → ∀ k', k' < k + 1 → (pg k').n ≤ 1048576) := by
                  intro h1 k' hk'
                  by_cases e : k' = k
                  · rw [e]; exact h1
                  · exact HK.out k' (by omega)
                clear hd3 hin3 HK
                generalize pg k = pk at *
                obtain ⟨ga, gn, gc⟩ := pk
                simp only at d3 hgn HT
                by_cases l1 : 1048576 < gn
                · go_wp2
                  go_ret
                  exact Fit6.no _ _ _
                by_cases l2 : 1048576 < T3 + gn
                · go_wp2
                  go_ret
                  exact Fit6.no _ _ _
                go_wp2
                go_round
                case rel => exact ⟨k + 1, T3 + gn, by go_num, by go_num, by omega, by omega, HT.out (by omega)⟩
                case measure => simp [intOf]; omega
              · obtain rfl : k = pn := by omega
                go_wp2
                go_round
                case rel => exact ⟨j + 1, T3, by go_num, by go_num, by omega, by omega, HS.out (by omega) (by omega) HK.out⟩
                case measure => simp [intOf]; omega
          · obtain rfl : j = en := by omega
            by_cases g5 : 1048576 < ed.size
            · go_wp2
              go_ret
              exact Fit6.no _ _ _
            by_cases g6 : 1048576 < T2 + ed.size
            · go_wp2
              go_ret
              exact Fit6.no _ _ _
            go_wp2
            go_round
            case rel => exact ⟨i + 1, T2 + ed.size, by go_num, by go_num, by omega, by omega, HR.out (by omega) (by omega) (by omega) (by omega) HJ.out⟩
            case measure => simp [intOf]; omega
      · obtain rfl : i = n := by omega
        go_wp2
        go_ret
        exact ⟨true, rfl, rfl, fun _ => ⟨by show i ≤ _; omega, HI.out⟩⟩
end Go.Proofs.Qxb6603852a

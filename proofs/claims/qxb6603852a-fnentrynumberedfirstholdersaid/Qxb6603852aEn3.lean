/-
  regB1RunsBytes (function 7): it answers.
-/
import Derived.Test.Qxb6603852aEn1
namespace Go.Proofs.Qxb6603852a
open Go.RowKit
set_option linter.unusedVariables false

def Any7 (w : World) (e : Ending) (w' : World) : Prop := ∃ (v : Int) (bb : Bool), e = .returned (.tuple #[.int .i64 v, .bool bb]) ∧ Below w.heap.size w w'

set_option maxHeartbeats 4000000 in
set_option maxRecDepth 100000 in
theorem runs7 (a : Option Addr) (n c : Nat) (r : Nat → Rn) (w : World) (HL : Hid (RunsAt w (· < w.heap.size) ⟨a, n, c⟩ r)) (HF : Hid (RunsFit ⟨a, n, c⟩ r)) : Calls Try.prog 7 #[.slice a n c] w (Any7 w) := by
  have hn : n ≤ 1048576 := HF.out.1
  generalize hB : w.heap.size = B at *
  have HB : Hid (w.heap.size = B) := hB
  clear hB
  have HA : Hid (∀ (v : Int) (bb : Bool) (w' : World), Below B w w' → Any7 w (.returned (.tuple #[.int .i64 v, .bool bb])) w') := fun v bb w' h => ⟨v, bb, rfl, by rw [HB.out]; exact h⟩
  go_enter Try.func7, Try.ntmps7
  go_wp2
  go_loopw [4, 5] (fun b c wr => ∃ i T : Nat, b = .int .i64 T ∧ c = .int .i64 i ∧ i ≤ n ∧ T ≤ 104857600 ∧ Hid (Below B w wr)) (fun _ b _ => n - (intOf b).toNat)
  case atStart => exact ⟨0, 96 * n, by go_num, by go_num, Nat.zero_le _, by omega, Below.refl _ _⟩
  case round =>
    obtain ⟨i, T, rfl, rfl, hi, hT, HI⟩ := hrel
    by_cases hlt : i < n
    · by_cases hT1 : 1048576 < T
      · go_wp2
        go_ret2
        exact HA.out _ _ _ HI.out
      obtain ⟨x, rfl, _⟩ := HL.out.1.1 (show 0 < n by omega)
      obtain ⟨hc, hin⟩ := (HL.out.same (ok' := (· < B)) (fun k hk => HI.out.block k hk) (fun _ h => h)).2 i hlt
      obtain ⟨c0, c1, c2, c3, c4⟩ := hc x rfl
      obtain ⟨hb, he, _, hsn, hse⟩ := hin
      have HE : Hid (∀ wr', Below B w wr' → EntsAt wr' (· < B) (r i).s (r i).e) := fun wr' h => ((HL.out.2 i hlt).2.2.1).same (fun k hk => h.block k hk) (fun _ h => h)
      obtain ⟨k1, k2, k3, k4, k5⟩ := HF.out.2 i hlt
      have HK : Hid (∀ j, j < (r i).s.n → EntFit ((r i).e j)) := k5
      clear hb he hc k5 hsn hse
      generalize r i = ri at *
      obtain ⟨nm, ⟨ha, hn', hc'⟩, f, ⟨ea, en, ec⟩, e, ed⟩ := ri
      simp only at c0 c1 c2 c3 c4 k1 k2 k3 k4 HE HK
      have hlw : Hid (B ≤ wr.heap.size) := by
        have h1 := HI.out.size
        rw [HB.out] at h1
        exact h1
      have H1 : Hid (Below B w (wr.alloc (.cells #[.string nm, .slice ha hn' hc', .int .u64 f, .slice ea en ec, .string ed] 35)) ∧ (wr.alloc (.cells #[.string nm, .slice ha hn' hc', .int .u64 f, .slice ea en ec, .string ed] 35)).heap[wr.heap.size]? = some (.cells #[.string nm, .slice ha hn' hc', .int .u64 f, .slice ea en ec, .string ed] 35 (0, 0))) := ⟨HI.out.alloc hlw.out _, heap_alloc_new wr _⟩
      go_wp2
      generalize hR : wr.heap.size = R at *
      have HR : Hid (wr.heap.size = R ∧ B ≤ R) := ⟨hR, hlw.out⟩
      clear hR hlw
      go_loopw [4, 7] (fun b c wr2 => ∃ j T : Nat, b = .int .i64 T ∧ c = .int .i64 j ∧ j ≤ en ∧ T ≤ 104857600 ∧ Hid (Below B w wr2 ∧ wr2.heap[R]? = some (.cells #[.string nm, .slice ha hn' hc', .int .u64 f, .slice ea en ec, .string ed] 35 (0, 0)))) (fun _ b _ => en - (intOf b).toNat)
      case atStart => exact ⟨0, T + (nm.size + hn' + ed.size + 56 * en), by go_num, by go_num, Nat.zero_le _, by omega, H1⟩
      case round =>
        obtain ⟨j, T2, rfl, rfl, hj, hT2, HJ⟩ := hrel
        have e3 : wr.cell? ⟨R, 3, none⟩ = some (.slice ea en ec) := by rw [cell_heap HJ.out.2]; rfl
        by_cases hlt2 : j < en
        · by_cases hT3 : 1048576 < T2
          · go_wp2
            go_ret2
            exact HA.out _ _ _ HJ.out.1
          obtain ⟨y, rfl, _⟩ := (HE.out _ HJ.out.1).1.1 (show 0 < en by omega)
          obtain ⟨hd, hin2⟩ := (HE.out _ HJ.out.1).2 j hlt2
          obtain ⟨d0, d1, d2⟩ := hd y rfl
          have HP : Hid (∀ wr', Below B w wr' → PagesAt wr' (· < B) (e j).p (e j).pg) := fun wr' h => ((HE.out _ h).2 j hlt2).2.2
          obtain ⟨g1, g2, g3⟩ := HK.out j hlt2
          have HG : Hid (∀ k, k < (e j).p.n → ((e j).pg k).n ≤ 1048576) := g3
          clear hd hin2 g3
          generalize e j = ej at *
          obtain ⟨d, ⟨oa, on, oc⟩, ⟨pa, pn, pc⟩, pg⟩ := ej
          simp only at d0 d1 d2 g1 g2 HP HG
          have hlw2 : Hid (B ≤ wr.heap.size) := by
            have h1 := HJ.out.1.size
            rw [HB.out] at h1
            exact h1
          have H2 : Hid (Below B w (wr.alloc (.cells #[.int .u32 d, .slice oa on oc, .slice pa pn pc] 47)) ∧ (wr.alloc (.cells #[.int .u32 d, .slice oa on oc, .slice pa pn pc] 47)).heap[R]? = some (.cells #[.string nm, .slice ha hn' hc', .int .u64 f, .slice (some y) en ec, .string ed] 35 (0, 0)) ∧ (wr.alloc (.cells #[.int .u32 d, .slice oa on oc, .slice pa pn pc] 47)).heap[wr.heap.size]? = some (.cells #[.int .u32 d, .slice oa on oc, .slice pa pn pc] 47 (0, 0))) := ⟨HJ.out.1.alloc hlw2.out _, by rw [Below.heap_alloc _ _ _ (lt_of_heap HJ.out.2)]; exact HJ.out.2, heap_alloc_new wr _⟩
          go_wp2
          generalize hE : wr.heap.size = E at *
          clear hE hlw2
          go_loopw [4, 9] (fun b c wr3 => ∃ k T : Nat, b = .int .i64 T ∧ c = .int .i64 k ∧ k ≤ pn ∧ T ≤ 104857600 ∧ Hid (Below B w wr3 ∧ wr3.heap[R]? = some (.cells #[.string nm, .slice ha hn' hc', .int .u64 f, .slice (some y) en ec, .string ed] 35 (0, 0)) ∧ wr3.heap[E]? = some (.cells #[.int .u32 d, .slice oa on oc, .slice pa pn pc] 47 (0, 0)))) (fun _ b _ => pn - (intOf b).toNat)
          case atStart => exact ⟨0, T2 + (8 * on + 24 * pn), by go_num, by go_num, Nat.zero_le _, by omega, H2⟩
          case round =>
            obtain ⟨k, T4, rfl, rfl, hk, hT4, HQ⟩ := hrel
            have e4 : wr.cell? ⟨E, 2, none⟩ = some (.slice pa pn pc) := by rw [cell_heap HQ.out.2.2]; rfl
            by_cases hlt3 : k < pn
            · by_cases hT5 : 1048576 < T4
              · go_wp2
                go_ret2
                exact HA.out _ _ _ HQ.out.1
              obtain ⟨z, rfl, _⟩ := (HP.out _ HQ.out.1).1.1 (show 0 < pn by omega)
              have d3 := ((HP.out _ HQ.out.1).2 k hlt3).1 z rfl
              have g4 := HG.out k hlt3
              generalize pg k = pk at *
              obtain ⟨ga, gn, gc⟩ := pk
              simp only at d3 g4
              go_wp2
              go_roundw
              case rel => exact ⟨k + 1, T4 + gn, by go_num, by go_num, by omega, by omega, HQ⟩
              case measure => simp [intOf]; omega
            · obtain rfl : k = pn := by omega
              go_wp2
              go_roundw
              case rel => exact ⟨j + 1, T4, by go_num, by go_num, by omega, by omega, HQ.out.1, HQ.out.2.1⟩
              case measure => simp [intOf]; omega
        · obtain rfl : j = en := by omega
          go_wp2
          go_roundw
          case rel => exact ⟨i + 1, T2, by go_num, by go_num, by omega, by omega, HJ.out.1⟩
          case measure => simp [intOf]; omega
    · obtain rfl : i = n := by omega
      by_cases hT1 : 1048576 < T
      · go_wp2
        go_ret2
        exact HA.out _ _ _ HI.out
      · go_wp2
        go_ret2
        exact HA.out _ _ _ HI.out
end Go.Proofs.Qxb6603852a

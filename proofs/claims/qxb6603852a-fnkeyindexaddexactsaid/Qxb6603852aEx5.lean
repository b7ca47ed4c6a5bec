/-
  FnKeyIndexAddExact: the walk, where the blocks are nil.
-/
import Derived.Test.Qxb6603852aEx3
import Derived.Laws.Cover3
namespace Go.Proofs.Qxb6603852a
open Go.RowKit
set_option linter.unusedVariables false

set_option maxHeartbeats 4000000 in
set_option maxRecDepth 100000 in
theorem exact_nil (n : Int) (s : Bool) (h o : Int) (w : World) (hn1 : -9223372036854775808 ≤ n) (hn2 : n ≤ 9223372036854775807) :
    Calls Try.prog 4 #[.slice none 0 0, .int .i64 n, .bool s, .int .u64 h, .int .i64 o] w fun e w' => e = .returned (.bool true) ∧ Below w.heap.size w w' := by
  have H14 : Hid (Calls Try.prog 14 #[.slice none 0 0, .int .i64 n, .bool s, .int .u64 h, .int .i64 o] w (SomeBool w)) := bytes14 none 0 [] n s h o w.heap.size w (by simp) (fun y hy => by cases hy) (fun hp => by simp at hp)
  have H15 : Hid (Calls Try.prog 15 #[.slice none 0 0, .int .i64 n] w (Fit15 [] n w)) := shape15 none 0 [] n w.heap.size w (by simp) hn1 hn2 (fun y hy => by cases hy) (fun hp => by simp at hp)
  go_enter Try.func4, Try.ntmps4
  go_wp2_with fail
  refine Calls.mono H14.out ?_
  rintro e W0 ⟨bb, rfl, rfl⟩
  cases bb
  · go_wp2
    go_ret
    exact ⟨rfl, Below.refl _ _⟩
  · go_wp2_with fail
    refine Calls.mono H15.out ?_
    rintro e W0' ⟨bb, rfl, rfl, hfit⟩
    cases bb
    · clear hfit
      go_wp2
      go_ret
      exact ⟨rfl, Below.refl _ _⟩
    · obtain ⟨f1, f2, f3, f4, f5⟩ := hfit rfl
      obtain rfl : n = 0 := by simp at f5; omega
      clear hfit f1 f2 f3 f4 f5 H14 H15
      go_wp2_with fail
      refine (mkindex none 0 0 0 s W0').mono ?_
      rintro e W2 ⟨rfl, hW2⟩
      have HIX : Hid (Idx W2 W0'.heap.size W0'.heap.size (.slice none 0 0) [] 0 s (fun _ => (0, 0)) ∧ Below W0'.heap.size W0' W2) := by
        subst hW2
        exact ⟨⟨heap_alloc_new W0' _, Nat.le_refl _, ⟨rfl, .inl ⟨rfl, rfl⟩⟩, List.nodup_nil, (fun x hx => by simp [Value.ownBlock] at hx), by simp, by simp, (fun i g hg => by simp at hg), (Turned.alloc W0' _ []).size, rfl⟩, (Below.refl _ _).alloc (Nat.le_refl _) _⟩
      clear hW2
      generalize hX : W0'.heap.size = X at *
      have HX : Hid (W0'.heap.size = X) := hX
      clear hX
      go_wp2_with fail
      refine (mkline h o W2).mono ?_
      rintro e W3 ⟨rfl, hW3⟩
      have HI3 : Hid (Idx W3 X X (.slice none 0 0) [] 0 s (fun _ => (0, 0)) ∧ Below X W0' W3) := by
        subst hW3
        exact ⟨HIX.out.1.turned (Turned.alloc W2 _ []), HIX.out.2.alloc HIX.out.1.size _⟩
      clear hW3 HIX
      have HA : Hid _ := zzadd_any X X _ [] 0 s (fun _ => (0, 0)) h o W3 HI3.out.1 (by omega)
      go_wp2_with fail
      refine Calls.mono HA.out ?_
      rintro e W4 ⟨rfl, bv', bs', q1, _, q3⟩
      have hcnt : bs'.length = 1 := q1.count
      obtain ⟨gr, cb, rfl⟩ := own_some q1.row (by rw [List.length_map]; omega)
      rw [List.length_map] at q1
      have k0 : W4.cell? ⟨X, 0, none⟩ = some (.slice (some ⟨gr, 0, none⟩) 1 cb) := by rw [cell_heap q1.head, hcnt]; rfl
      have k1 : W4.cell? ⟨X, 1, none⟩ = some (.int .i64 1) := by rw [cell_heap q1.head]; rfl
      have k2 : W4.cell? ⟨X, 2, none⟩ = some (.bool s) := by rw [cell_heap q1.head]; rfl
      obtain ⟨G, hG⟩ : ∃ G, bs' = [G] := List.length_eq_one_iff.1 hcnt
      subst hG
      have HV : Hid (∀ (V : World) (j : Nat), j < 4096 → Turned W4 V [] → V.cell? ⟨gr, 0, none⟩ = some (.slice (some ⟨G, 0, none⟩) 4096 4096) ∧
          V.cell? ⟨G, j * 2, none⟩ = some (.int .u64 (put (fun _ => (0, 0)) 0 0 (h, o) j).1) ∧ V.cell? ⟨G, j * 2 + 1, none⟩ = some (.int .i64 (put (fun _ => (0, 0)) 0 0 (h, o) j).2)) := by
        intro V j hj ht
        have I := q1.turned ht
        obtain ⟨c1, c2, _, _⟩ := cell_at (I.blocks 0 G rfl) j hj
        rw [Nat.zero_mul, Nat.zero_add] at c1 c2
        exact ⟨(own_cell I.row (by simp [blk])).1, c1, c2⟩
      have HW : Hid (Below X W0' W4 ∧ X ≤ W4.heap.size) := ⟨HI3.out.2.trans q3, q1.size⟩
      clear q1 q3 HA HI3 hcnt
      go_wp2_with fail
      refine (parts X _ _ _ W4 k0 k1 k2).mono ?_
      rintro e W5 ⟨rfl, q, hW5⟩
      have T2 : Hid (Turned W4 W5 []) := by rw [hW5]; exact Turned.drewN W4 q []
      clear hW5 k0 k1 k2
      go_wp2
      go_loopw [19] (fun s19 wr2 => ∃ i : Int, (i = 0 ∨ i = 1) ∧ s19 = .int .i64 i ∧ Hid (Turned W4 wr2 [])) (fun s19 _ => 1 - (intOf s19).toNat)
      case atStart => exact ⟨0, .inl rfl, rfl, T2⟩
      case round =>
        obtain ⟨i, hi, rfl, HT⟩ := hrel
        rcases hi with rfl | rfl
        · obtain ⟨d1, _, _⟩ := HV.out _ 0 (by omega) HT.out
          have HTq : Hid (∀ q, Turned W4 (wr.drewN q) []) := fun q => HT.out.trans (Turned.drewN _ q []) (fun x hx => .inl hx)
          go_wp2
          go_quiet (fail)
          go_wp2
          go_loopw [20] (fun s20 wr3 => ∃ j : Nat, j ≤ 4096 ∧ s20 = .int .i64 j ∧ Hid (Turned W4 wr3 [])) (fun s20 _ => 4096 - (intOf s20).toNat)
          case atStart => exact ⟨0, Nat.zero_le _, by go_num, HTq.out _⟩
          case round =>
            obtain ⟨j, hj, rfl, HT3⟩ := hrel
            by_cases hjb : j < 4096
            · obtain ⟨d1', d3, d4⟩ := HV.out _ j hjb HT3.out
              have HT5 : Hid (∀ q lh lo, Turned W4 ((wr.alloc (.cells #[.int .u64 lh, .int .i64 lo] 57)).drewN q) []) := fun q lh lo => (HT3.out.trans (Turned.alloc wr _ []) (fun x hx => .inl hx)).trans (Turned.drewN _ q []) (fun x hx => .inl hx)
              by_cases hp : j = 0
              · have hv : put (fun _ => (0, 0)) 0 0 (h, o) j = (h, o) := by unfold put; rw [if_pos hp]
                rw [hv] at d3 d4
                subst hp
                go_wp2_with fail
                refine (lineparts _ _ wr).mono ?_
                rintro e W6 ⟨rfl, q6, hW6⟩
                have T6 : Hid (Turned W4 W6 []) := by rw [hW6]; exact HT5.out q6 h o
                clear hW6 HT5 hv d1 d1' d3 d4
                go_wp2
                go_roundw
                case rel => exact ⟨1, by omega, by go_num, T6⟩
                case measure => simp [intOf]
              · have hpk : ((j : Int) == 0) = false := by rw [beq_eq_false_iff_ne]; omega
                have hv : put (fun _ => (0, 0)) 0 0 (h, o) j = (0, 0) := by unfold put; rw [if_neg hp, if_neg (by omega)]
                rw [hv] at d3 d4
                go_wp2_with fail
                refine (lineparts _ _ wr).mono ?_
                rintro e W6 ⟨rfl, q6, hW6⟩
                have T6 : Hid (Turned W4 W6 []) := by rw [hW6]; exact HT5.out q6 0 0
                clear hW6 HT5 hv hp d1 d1' d3 d4
                go_wp2
                go_roundw
                case rel => exact ⟨j + 1, by omega, by go_num, T6⟩
                case measure => simp [intOf]; omega
            · obtain rfl : j = 4096 := by omega
              go_wp2
              go_roundw
              case rel => exact ⟨1, .inr rfl, by go_num, HT3⟩
              case measure => simp [intOf]
        · go_wp2
          go_ret
          refine ⟨rfl, ?_⟩
          rw [HX.out]
          exact HW.out.1.trans (HT.out.toBelow (fun x hx => by simp at hx) HW.out.2)
end Go.Proofs.Qxb6603852a

/-
  The row of FnKeyIndexAddExact, over its walk.
-/
import Derived.Test.Qxb6603852aEx4
import Derived.Test.Qxb6603852aEx5
import Derived.WalkKit
import Derived.ProofKit
import Derived.OpenShut
import Derived.ShutString
import Derived.ChangeOld
import Derived.Below
import Derived.Deep.SlicePairs
namespace Go.Proofs.Qxb6603852a.fnKeyIndexAddExact
open Go.ChangeShapes Go.WideShapes Go.ChangeAt Go.RowKit
set_option linter.unusedVariables false

theorem own : ownKnob Try.prog.godebug = none := by kernel_rfl
theorem laidOut : laidOutB Try.prog = true := by kernel_rfl

theorem add_one (x : Addr) (i : Nat) : x.add (i + 1) = ⟨(x.add i).block, (x.add i).off + 1, none⟩ := by
  unfold Addr.add
  by_cases h : i = 0
  · subst h; simp
  · simp [h, Nat.add_assoc]

theorem add_block (x : Addr) (i : Nat) : (x.add i).block = x.block := by
  unfold Addr.add
  split <;> rfl

set_option maxRecDepth 100000 in
theorem lifted (os : Os) (started : os.Started) (H : Type) (enc : TypeId × Value → H) :
    ReturnsInHanded {} Try.checked os 4 .any (Rows.fnKeyIndexAddExactSpec.pre6 enc Try.prog Try.f4 Rows.fnKeyIndexAddExactRow.domain false) (Rows.fnKeyIndexAddExactSpec.post enc Try.prog Try.f4 false true false false) := by
  refine returnsInHanded_of_change (C := Try.checked) own started (by kernel_rfl) Try.func4
    (ChangeSpec.witness6 (enc := enc) (C := Try.checked) false ⟨#[], #[.slice none 0 0, .int .i64 0, .bool false, .int .u64 0, .int .i64 0], []⟩ 8 (by kernel_rfl) (by kernel_rfl) (by kernel_rfl) (by kernel_rfl)) ?_
  intro W base args ds gs before hval0 hW hcnd _
  have hval : ∀ (j : Nat) t v, Try.f4.params[j]? = some t → args[j]? = some v → Value.okWide Try.prog W .any base t v := hval0
  have hW' := hW
  obtain ⟨p, q, hA0, hV, rfl, hfz, hnd⟩ := hW
  have hA : DataW.TrodAll enc Try.prog W 0 (fun _ => true) true Try.f4.params.toList args.toList ds p := hA0
  rw [Try.params4] at hA hval
  obtain ⟨v0, vs0, d0, ds0, p0, q0, hargs, rfl, rfl, h0, r0⟩ := trodAll_cons hA
  obtain ⟨v1, vs1, d1, ds1, p1, q1, rfl, rfl, rfl, h1, r1⟩ := trodAll_cons r0
  obtain ⟨v2, vs2, d2, ds2, p2, q2, rfl, rfl, rfl, h2, r2⟩ := trodAll_cons r1
  obtain ⟨v3, vs3, d3, ds3, p3, q3, rfl, rfl, rfl, h3, r3⟩ := trodAll_cons r2
  obtain ⟨v4, vs4, d4, ds4, p4, q4, rfl, rfl, rfl, h4, r4⟩ := trodAll_cons r3
  obtain ⟨rfl, rfl, rfl⟩ := trodAll_nil r4
  obtain rfl : args = #[v0, v1, v2, v3, v4] := by cases args; simp_all
  obtain ⟨rfl, rfl⟩ := trodVars_none hV
  obtain ⟨a0, len0, cap0, rfl⟩ := okWide_slice Try.underlying50 (hval 0 50 v0 rfl rfl)
  obtain ⟨n, rfl, rfl, rfl, w1⟩ := open_int Try.underlying3 (hval 1 3 v1 rfl rfl) h1
  obtain ⟨s, rfl, rfl, rfl⟩ := open_bool Try.underlying4 (hval 2 4 v2 rfl rfl) h2
  obtain ⟨hh, rfl, rfl, rfl, w3⟩ := open_int Try.underlying23 (hval 3 23 v3 rfl rfl) h3
  obtain ⟨oo, rfl, rfl, rfl, w4⟩ := open_int Try.underlying2 (hval 4 2 v4 rfl rfl) h4
  have k0 := h0
  have lt0 : ∀ x ∈ p0, x.block < W.heap.size := by obtain ⟨m, hm⟩ := k0; exact DataW.trod_lt m _ _ _ hm
  have hn : -9223372036854775808 ≤ n ∧ n ≤ 9223372036854775807 := by
    have := w1
    simp [Lit.wf] at this
    have e1 : IntKind.i64.min = -9223372036854775808 := by decide
    have e2 : IntKind.i64.max = 9223372036854775807 := by decide
    omega
  have walk : Calls Try.prog 4 #[.slice a0 len0 cap0, .int .i64 n, .bool s, .int .u64 hh, .int .i64 oo] W fun e w' => e = .returned (.bool true) ∧ Below W.heap.size W w' := by
    obtain ⟨fuel, hf⟩ := h0
    rcases Go.Deep.open_slice1 Try.underlying50 (by kernel_rfl) hf with ⟨hcs, _⟩ | ⟨x, l, c, m, nn, V, D, Pl, hcs, _, hl, hm, hmm, _, hx⟩
    · simp [Value.cells] at hcs
      obtain ⟨rfl, rfl, rfl⟩ := hcs
      exact exact_nil n s hh oo W hn.1 hn.2
    · simp [Value.cells] at hcs
      obtain ⟨rfl, rfl, rfl⟩ := hcs
      have hmc : m = cap0 := by simpa using hmm
      have each : ∀ i, ∃ b : Bl, i < m → W.cell? (x.add i) = some (.slice b.a b.L.length b.c) ∧ (∀ y, b.a = some y → LinesAt W W.heap.size y b.L) ∧ (0 < b.L.length → ∃ y, b.a = some y) ∧ b.L.length ≤ 9223372036854775807 := by
        intro i
        by_cases hi : i < m
        · obtain ⟨c1, t1⟩ := hx i hi
          rcases Go.Deep.open_slice_pairs Try.underlying55 Try.underlying60 (by kernel_rfl) rfl rfl (by kernel_rfl) (by kernel_rfl) t1 with ⟨hcs, _⟩ | ⟨y, l', c', m', n', V0, V1, D0, D1, P0, P1, hcs, _, hl', hm', hmm', _, hx'⟩
          · simp only [List.cons.injEq, and_true] at hcs
            exact ⟨⟨none, 0, []⟩, fun _ => ⟨by rw [c1, hcs]; rfl, (fun y hy => by cases hy), (fun h => by simp at h), by simp⟩⟩
          · simp only [List.cons.injEq, and_true] at hcs
            have hmc' : m' = c' := by simpa using hmm'
            have each' : ∀ j, ∃ k : Int × Int, j < m' → W.cell? (y.add (j * 2)) = some (.int .u64 k.1) ∧ W.cell? (y.add (j * 2 + 1)) = some (.int .i64 k.2) := by
              intro j
              by_cases hj : j < m'
              · obtain ⟨c1, c2, t1, t2⟩ := hx' j hj
                obtain ⟨z0, e0, _⟩ := DataW.trod_int Try.underlying23 t1
                obtain ⟨z1, e1, _⟩ := DataW.trod_int Try.underlying2 t2
                simp only [List.cons.injEq, and_true] at e0 e1
                exact ⟨(z0, z1), fun _ => ⟨by rw [c1, e0], by rw [c2, e1]⟩⟩
              · exact ⟨(0, 0), fun h => absurd h hj⟩
            obtain ⟨K, hK⟩ := Classical.skolem.1 each'
            have e : ((List.range l').map K).length = l' := by simp
            refine ⟨⟨some y, c', (List.range l').map K⟩, fun _ => ⟨by rw [c1, hcs, e], ?_, (fun _ => ⟨y, rfl⟩), by rw [e]; unfold maxLen at hm'; omega⟩⟩
            intro y' hy'
            cases hy'
            refine ⟨?_, ?_⟩
            · intro h
              have h2 := World.block_lt_of_cell? _ _ (hK 0 (by rw [e] at h; omega)).1
              rwa [add_block] at h2
            · intro j hj
              have hj' : j < l' := by rw [e] at hj; exact hj
              obtain ⟨c1, c2⟩ := hK j (by omega)
              rw [add_one] at c2
              simp only [List.getElem_map, List.getElem_range]
              exact ⟨c1, c2⟩
        · exact ⟨⟨none, 0, []⟩, fun h => absurd h hi⟩
      obtain ⟨K, hK⟩ := Classical.skolem.1 each
      have e : ((List.range len0).map K).length = len0 := by simp
      have := exact_some x cap0 ((List.range len0).map K) n s hh oo W (by rw [e]; unfold maxLen at hm; omega) hn.1 hn.2 ?_
      · rwa [e] at this
      · refine ⟨?_, ?_⟩
        · intro h
          have h2 := World.block_lt_of_cell? _ _ (hK 0 (by rw [e] at h; omega)).1
          rwa [add_block] at h2
        · intro i hi
          have hi' : i < len0 := by rw [e] at hi; exact hi
          simp only [List.getElem_map, List.getElem_range]
          exact hK i (by omega)
  clear hA0 hval0
  refine walk.mono fun e W' ⟨he, bel⟩ => ?_
  subst he
  exact ⟨_, rfl, _, _, _, [], _, [], hW', trodAll_mk1 (shut_bool Try.underlying4 _), (trodAll_cons_mk (Below.trod laidOut (by kernel_rfl) (of_decide_eq_true (by kernel_rfl)) k0 bel lt0) (trodAll_cons_mk (shut_int Try.underlying3 w1) (trodAll_cons_mk (shut_bool Try.underlying4 _) (trodAll_cons_mk (shut_int Try.underlying23 w3) (trodAll_cons_mk (shut_int Try.underlying2 w4) trodAll_mk0))))), rfl, bel.frame _, fun h => by cases h⟩

theorem over : Rows.fnKeyIndexAddExactRow.holds Try.pinned (OpenSpec.ofChange Rows.fnKeyIndexAddExactSpec) :=
  OpenClaim.holds_of_wide 4 Try.f4 rfl rfl rfl rfl rfl rfl rfl ⟨rfl, rfl, rfl, rfl, rfl⟩ rfl rfl rfl rfl rfl (by kernel_rfl) Try.func4 (by kernel_rfl)
    (of_decide_eq_true (by kernel_rfl)) (by unfold Func.isWrapper; first | (rw [if_pos (by decide +kernel)]; kernel_rfl) | (rw [if_neg (by decide +kernel)]; exact ⟨rfl, rfl⟩))
    (fun os started H enc _ => lifted os started H enc)

end Go.Proofs.Qxb6603852a.fnKeyIndexAddExact
namespace Go.Proofs.Qxb6603852a
theorem exact_proved : Rows.FnKeyIndexAddExactSaid := fnKeyIndexAddExact.over
end Go.Proofs.Qxb6603852a

/-
  The row of FnKeyIndexAddScript, over its walk.
-/
import Derived.Test.Qxb6603852aKi5
import Derived.WalkKit
import Derived.ProofKit
import Derived.OpenShut
import Derived.ShutString
import Derived.ChangeOld
import Derived.Below
import Derived.Deep.SlicePairs
namespace Go.Proofs.Qxb6603852a.fnKeyIndexAddScript
open Go.ChangeShapes Go.WideShapes Go.ChangeAt Go.RowKit
set_option linter.unusedVariables false

theorem own : ownKnob Try.prog.godebug = none := by kernel_rfl
theorem laidOut : laidOutB Try.prog = true := by kernel_rfl

set_option maxHeartbeats 1000000 in
set_option maxRecDepth 100000 in
theorem big (a : Option Addr) (n c : Nat) (w : World) (hn : n ≤ 9223372036854775807) (hb : 65536 < n) : Calls Try.prog 5 #[.slice a n c] w fun e w' => e = .returned (.bool true) ∧ Below w.heap.size w w' := by
  have H21 : Hid _ := bytes21 a n c w hn
  go_enter Try.func5, Try.ntmps5
  go_wp2_with fail
  refine Calls.mono H21.out ?_
  rintro e W0 ⟨bb, rfl, rfl⟩
  cases bb
  · go_wp2
    go_ret
    exact ⟨rfl, Below.refl _ _⟩
  · go_wp2
    go_ret
    exact ⟨rfl, Below.refl _ _⟩

theorem add_one (x : Addr) (i : Nat) : x.add (i + 1) = ⟨(x.add i).block, (x.add i).off + 1, none⟩ := by
  unfold Addr.add
  by_cases h : i = 0
  · subst h; simp
  · simp [h, Nat.add_assoc]

theorem add_block (x : Addr) (i : Nat) : (x.add i).block = x.block := by
  unfold Addr.add
  split <;> rfl

set_option maxRecDepth 100000 in
theorem lifted (os : Os) (started : os.Started) (H : Type) (enc : TypeId × Value → H) :
    ReturnsInHanded {} Try.checked os 5 .any (Rows.fnKeyIndexAddScriptSpec.pre6 enc Try.prog Try.f5 Rows.fnKeyIndexAddScriptRow.domain false) (Rows.fnKeyIndexAddScriptSpec.post enc Try.prog Try.f5 false true false false) := by
  refine returnsInHanded_of_change (C := Try.checked) own started (by kernel_rfl) Try.func5
    (ChangeSpec.witness6 (enc := enc) (C := Try.checked) false ⟨#[], #[.slice none 0 0], []⟩ 8 (by kernel_rfl) (by kernel_rfl) (by kernel_rfl) (by kernel_rfl)) ?_
  intro W base args ds gs before hval0 hW hcnd _
  have hval : ∀ (j : Nat) t v, Try.f5.params[j]? = some t → args[j]? = some v → Value.okWide Try.prog W .any base t v := hval0
  have hW' := hW
  obtain ⟨p, q, hA0, hV, rfl, hfz, hnd⟩ := hW
  have hA : DataW.TrodAll enc Try.prog W 0 (fun _ => true) true Try.f5.params.toList args.toList ds p := hA0
  rw [Try.params5] at hA hval
  obtain ⟨v0, vs0, d0, ds0, p0, q0, hargs, rfl, rfl, h0, r0⟩ := trodAll_cons hA
  obtain ⟨rfl, rfl, rfl⟩ := trodAll_nil r0
  obtain rfl : args = #[v0] := by cases args; simp_all
  obtain ⟨rfl, rfl⟩ := trodVars_none hV
  obtain ⟨a0, len0, cap0, rfl⟩ := okWide_slice Try.underlying55 (hval 0 55 v0 rfl rfl)
  have k0 := h0
  have lt0 : ∀ x ∈ p0, x.block < W.heap.size := by obtain ⟨m, hm⟩ := k0; exact DataW.trod_lt m _ _ _ hm
  have walk : Calls Try.prog 5 #[.slice a0 len0 cap0] W fun e w' => e = .returned (.bool true) ∧ Below W.heap.size W w' := by
    obtain ⟨fuel, hf⟩ := h0
    rcases Go.Deep.open_slice_pairs Try.underlying55 Try.underlying60 (by kernel_rfl) rfl rfl (by kernel_rfl) (by kernel_rfl) hf with ⟨hcs, _⟩ | ⟨x, l, c, m, n, V0, V1, D0, D1, P0, P1, hcs, _, hl, hm, hmm, _, hx⟩
    · simp [Value.cells] at hcs
      obtain ⟨rfl, rfl, rfl⟩ := hcs
      exact script_row none 0 [] W (by simp) (fun x hx => by cases hx) (fun h => by simp at h)
    · simp [Value.cells] at hcs
      obtain ⟨rfl, rfl, rfl⟩ := hcs
      have hmc : m = cap0 := by simpa using hmm
      have each : ∀ i, ∃ k : Int × Int, i < m → W.cell? (x.add (i * 2)) = some (.int .u64 k.1) ∧ W.cell? (x.add (i * 2 + 1)) = some (.int .i64 k.2) := by
        intro i
        by_cases hi : i < m
        · obtain ⟨c1, c2, t1, t2⟩ := hx i hi
          obtain ⟨z0, e0, _⟩ := DataW.trod_int Try.underlying23 t1
          obtain ⟨z1, e1, _⟩ := DataW.trod_int Try.underlying2 t2
          simp only [List.cons.injEq, and_true] at e0 e1
          exact ⟨(z0, z1), fun _ => ⟨by rw [c1, e0], by rw [c2, e1]⟩⟩
        · exact ⟨(0, 0), fun h => absurd h hi⟩
      obtain ⟨K, hK⟩ := Classical.skolem.1 each
      by_cases hb : 65536 < len0
      · exact big _ _ _ _ (by unfold maxLen at hm; omega) hb
      · have e : ((List.range len0).map K).length = len0 := by simp
        have := script_row (some x) cap0 ((List.range len0).map K) W (by omega) ?_ (fun _ => ⟨x, rfl⟩)
        · rwa [e] at this
        · rintro y hy
          cases hy
          refine ⟨?_, ?_⟩
          · intro h
            have h2 := World.block_lt_of_cell? _ _ (hK 0 (by omega)).1
            rwa [add_block] at h2
          · intro i hi
            have hi' : i < len0 := by omega
            obtain ⟨c1, c2⟩ := hK i (by omega)
            rw [add_one] at c2
            simp only [List.getElem_map, List.getElem_range]
            exact ⟨c1, c2⟩
  clear hA0 hval0
  refine walk.mono fun e W' ⟨he, bel⟩ => ?_
  subst he
  exact ⟨_, rfl, _, _, _, [], _, [], hW', trodAll_mk1 (shut_bool Try.underlying4 _), (trodAll_cons_mk (Below.trod laidOut (by kernel_rfl) (of_decide_eq_true (by kernel_rfl)) k0 bel lt0) trodAll_mk0), rfl, bel.frame _, fun h => by cases h⟩

theorem over : Rows.fnKeyIndexAddScriptRow.holds Try.pinned (OpenSpec.ofChange Rows.fnKeyIndexAddScriptSpec) :=
  OpenClaim.holds_of_wide 5 Try.f5 rfl rfl rfl rfl rfl rfl rfl ⟨rfl, rfl, rfl, rfl, rfl⟩ rfl rfl rfl rfl rfl (by kernel_rfl) Try.func5 (by kernel_rfl)
    (of_decide_eq_true (by kernel_rfl)) (by unfold Func.isWrapper; first | (rw [if_pos (by decide +kernel)]; kernel_rfl) | (rw [if_neg (by decide +kernel)]; exact ⟨rfl, rfl⟩))
    (fun os started H enc _ => lifted os started H enc)

end Go.Proofs.Qxb6603852a.fnKeyIndexAddScript
namespace Go.Proofs.Qxb6603852a
theorem script_proved : Rows.FnKeyIndexAddScriptSaid := fnKeyIndexAddScript.over
end Go.Proofs.Qxb6603852a

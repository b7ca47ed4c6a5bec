/-
  regB1BytesSame (28) and regB1SameMap (13), each of one thing with itself.
-/
import Derived.Test.Qxb6603852aEn6
import Derived.Maps.OwnSet
namespace Go.Proofs.Qxb6603852a
open Go.RowKit Go.Maps
set_option linter.unusedVariables false

theorem run_eql_map_none {P : Program} (w : World) (t k e : TypeId) (m : Option Nat) (h : P.underlying t = some (.map k e)) : (binOp .eql t (.map m) (.map none)).run P w = .ok (.bool m.isNone) w := by
  simp only [binOp]
  simp [run_equal_map_nil w t k e m h]

def Yes (w : World) (e : Ending) (w' : World) : Prop := e = .returned (.bool true) ∧ Below w.heap.size w w'

set_option maxHeartbeats 2000000 in
set_option maxRecDepth 100000 in
theorem bytes28 (w0 : World) (B0 : Nat) (s : Sl) (w : World) (H : Hid (BytesAt w0 (· < B0) s)) (HB : Hid (Below B0 w0 w ∧ B0 ≤ w.heap.size)) : Calls Try.prog 28 #[.slice s.a s.n s.c, .slice s.a s.n s.c] w (Yes w) := by
  obtain ⟨a, n, c⟩ := s
  have hn : n ≤ 9223372036854775807 := H.out.1.2
  have HX : Hid (∀ V, Below w.heap.size w V → ∀ j, j < n → ∃ x z, a = some x ∧ V.cell? (x.add j) = some (.int .u8 z)) := by
    intro V h j hj
    have h1 : Below B0 w0 V := HB.out.1.trans (h.mono HB.out.2)
    have h2 : BytesAt V (· < B0) ⟨a, n, c⟩ := H.out.same (fun k hk => h1.block k hk) (fun _ h => h)
    obtain ⟨x, hx, _⟩ := h2.1.1 (show 0 < n by omega)
    obtain ⟨z, hz⟩ := h2.2 x hx j hj
    exact ⟨x, z, hx, hz⟩
  clear H
  go_enter Try.func28, Try.ntmps28
  go_wp2
  go_loopw [5] (fun s5 wr => ∃ j : Nat, s5 = .int .i64 j ∧ j ≤ n ∧ Hid (Below w.heap.size w wr)) (fun s5 _ => n - (intOf s5).toNat)
  case atStart => exact ⟨0, by go_num, Nat.zero_le _, Below.refl _ _⟩
  case round =>
    obtain ⟨j, rfl, hj, HJ⟩ := hrel
    by_cases hlt : j < n
    · obtain ⟨x, z, rfl, hz⟩ := HX.out wr HJ.out j hlt
      go_wp2
      go_quiet (fail)
      go_wp2
      go_roundw
      case rel => exact ⟨j + 1, by go_num, by omega, HJ.out.os, HJ.out.tape, HJ.out.output, HJ.out.size, HJ.out.block⟩
      case measure => simp [intOf]; omega
    · obtain rfl : j = n := by omega
      go_wp2
      go_ret
      exact ⟨rfl, HJ.out⟩

theorem zero32 (w : World) : (zeroValue 32).run Try.prog w = .ok (.slice none 0 0) w := by kernel_rfl

theorem nil_bytes (w : World) (ok : Nat → Prop) : BytesAt w ok ⟨none, 0, 0⟩ := ⟨⟨fun h => absurd h (Nat.lt_irrefl 0), Nat.zero_le _⟩, fun y hy => by cases hy⟩

theorem look37 {w0 w : World} {B0 : Nat} {ok : Nat → Prop} {m : Option Nat} (h : MapIn w0 B0 w ok m) {z : Int} (hz : (Lit.int .i64 z).wf = true) :
    ∃ (s : Sl) (b : Bool), (Instr.lookup 37 (.map m) (.int .i64 z) true).run Try.prog w = .ok (.tuple #[.slice s.a s.n s.c, .bool b]) w ∧ BytesAt w0 (· < B0) s := by
  have hkey := keyOf_int_mk (P := Try.prog) Try.underlying2 hz
  cases m with
  | none => exact ⟨⟨none, 0, 0⟩, false, Maps.look_nil true law2 Try.underlying37 (zero32 w) hkey, nil_bytes _ _⟩
  | some b =>
    obtain ⟨_, n, D, es, clock, hb, F, _, _⟩ := h b rfl
    rcases Maps.fit_look true law2 Try.underlying37 (zero32 w) hb F hkey with ⟨h1, _, _⟩ | ⟨e0, y, _, _, h1, h2, _⟩
    · exact ⟨⟨none, 0, 0⟩, false, h1, nil_bytes _ _⟩
    · obtain ⟨s, hs, hs2⟩ := rd_inv h2
      rw [hs] at h1
      exact ⟨s, true, h1, hs2⟩

theorem len37 {w0 w : World} {B0 : Nat} {ok : Nat → Prop} {m : Option Nat} (h : MapIn w0 B0 w ok m) : ∃ k : Int, ∀ ty, (Builtin.len_ #[37] ty #[.map m]).run Try.prog w = .ok (.int .i64 k) w := by
  cases m with
  | none => exact ⟨0, fun ty => Maps.len_nil Try.underlying37 ty⟩
  | some b =>
    obtain ⟨_, n, D, hown⟩ := h b rfl
    exact ⟨_, fun ty => hown.len Try.underlying37 ty⟩

set_option maxHeartbeats 2000000 in
set_option maxRecDepth 100000 in
theorem same13 (w0 : World) (B0 : Nat) (m : Option Nat) (o : Sl) (w : World) (HM : Hid (MapIn w0 B0 w (· < w.heap.size) m)) (HO : Hid (OffsAt w (· < w.heap.size) o)) (HB : Hid (Below B0 w0 w ∧ B0 ≤ w.heap.size)) : Calls Try.prog 13 #[.map m, .map m, .slice o.a o.n o.c] w (Yes w) := by
  obtain ⟨oa, on, oc⟩ := o
  have hon : on ≤ 9223372036854775807 := HO.out.1.2
  obtain ⟨k, hlen⟩ := len37 HM.out
  have HX : Hid (∀ V, Below w.heap.size w V → ∀ j, j < on → ∃ x z, oa = some x ∧ V.cell? (x.add j) = some (.int .i64 z) ∧ ∃ (s : Sl) (b : Bool), (Instr.lookup 37 (.map m) (.int .i64 z) true).run Try.prog V = .ok (.tuple #[.slice s.a s.n s.c, .bool b]) V ∧ BytesAt w0 (· < B0) s) := by
    intro V h j hj
    have h2 : OffsAt V (· < w.heap.size) ⟨oa, on, oc⟩ := HO.out.same (fun k hk => h.block k hk) (fun _ h => h)
    obtain ⟨x, hx, _⟩ := h2.1.1 (show 0 < on by omega)
    obtain ⟨z, hz, hwf⟩ := h2.2 x hx j hj
    exact ⟨x, z, hx, hz, look37 (HM.out.same (ok' := (· < w.heap.size)) (fun k hk => h.block k hk) (fun _ h => h)) hwf⟩
  clear HO HM
  have heq : ∀ w, (binOp .eql 37 (.map m) (.map none)).run Try.prog w = .ok (.bool m.isNone) w := fun w => run_eql_map_none w 37 2 32 m Try.underlying37
  go_enter Try.func13, Try.ntmps13
  go_wp2
  go_loopw [7] (fun s7 wr => ∃ j : Nat, s7 = .int .i64 j ∧ j ≤ on ∧ Hid (Below w.heap.size w wr)) (fun s7 _ => on - (intOf s7).toNat)
  case atStart => exact ⟨0, by go_num, Nat.zero_le _, Below.refl _ _⟩
  case round =>
    obtain ⟨j, rfl, hj, HJ⟩ := hrel
    by_cases hlt : j < on
    · obtain ⟨x, z, rfl, hz, s, b, hlook, hs⟩ := HX.out wr HJ.out j hlt
      have H28 : Hid _ := bytes28 w0 B0 s wr hs ⟨HB.out.1.trans (HJ.out.mono HB.out.2), Nat.le_trans HB.out.2 HJ.out.size⟩
      have HJ2 : Hid (∀ V, Below wr.heap.size wr V → Below w.heap.size w V) := fun V h => HJ.out.trans (h.mono HJ.out.size)
      clear hs
      obtain ⟨sa, sn, sc⟩ := s
      go_wp2_with fail
      refine Calls.mono H28.out ?_
      rintro e W ⟨rfl, hbw⟩
      have HQ : Hid _ := HJ2.out W hbw
      clear hbw hlook hlen
      go_wp2
      go_roundw
      case rel => exact ⟨j + 1, by go_num, by omega, HQ⟩
      case measure => simp [intOf]; omega
    · obtain rfl : j = on := by omega
      go_wp2
      go_ret
      exact ⟨rfl, HJ.out⟩
end Go.Proofs.Qxb6603852a

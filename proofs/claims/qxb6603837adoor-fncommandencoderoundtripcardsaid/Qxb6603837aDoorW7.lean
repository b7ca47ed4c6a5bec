/-
  strconv.FormatUint at base 10: the decimal numeral.
-/
import Derived.Test.Qxb6603837aDoorShelf
import Derived.Lib.Walk
import Derived.Lib.ItoaMem
import Derived.Lib.AppendIntMem
import Derived.WalkKit
import Derived.BigCall
import Derived.BigGuard
namespace Go.Proofs.Qxb6603837aDoor
open Go.Shelf Go.RowKit Go.Sort Go.Lib

set_option maxHeartbeats 1000000 in
set_option maxRecDepth 100000 in
theorem ifmt_small (u : Nat) (w : World) (hi : u < 100) :
    Calls Tryd.prog 19 #[.int .u64 u, .int .i64 10] w fun e w' => e = .returned (.string ⟨(Lib.decDigits u).toArray⟩) ∧ w' = w := by
  go_enter Tryd.func19, Tryd.ntmps19
  go_wp2_with (go_at_call 23; refine (Tryd.internal_strconv_small u hi _).mono ?_; rintro e w' ⟨rfl, rfl⟩)
  go_ret
  exact ⟨rfl, rfl⟩

theorem holds_zero0 (w : World) (T : TypeId) (nd : Nat) (hs : nd ≤ 24) : Holds (fun (b : UInt8) => Value.int .u8 (b.toNat : Int)) (w.alloc (.cells zeros24 T)) w.heap.size 0 (Array.replicate nd (0 : UInt8)) := fun j hj => by
  have hj' : j < nd := by simpa using hj
  refine ⟨?_, World.frozen?_alloc_new _ _ _ _⟩
  rw [World.cell?_alloc_new, zeros24_at _ (by omega), getElem!_pos _ j hj]
  simp

theorem fin_pos0 (w : World) (o : Obj) (dk : Array UInt8) (k : Nat) : ∃ os, (putRow (fun (b : UInt8) => Value.int .u8 (b.toNat : Int)) (w.alloc o) w.heap.size 0 dk).drewN k = grow (w.drewN k) os := by
  rw [alloc_eq_grow]
  obtain ⟨os', _, e⟩ := putRow_grow_new (fun (b : UInt8) => Value.int .u8 (b.toNat : Int)) w #[o] w.heap.size 0 dk (Nat.le_refl _)
  exact ⟨os', by rw [e]; rfl⟩

set_option maxHeartbeats 4000000 in
set_option maxRecDepth 100000 in
theorem ifmt_big (u : Nat) (w : World) (hi : ¬ u < 100) (hu64 : u < 18446744073709551616) (htab : Lib.TabIs Tryd.prog w powName .u64 Lib.pow10Tab) :
    Calls Tryd.prog 19 #[.int .u64 u, .int .i64 10] w fun e w' => e = .returned (.string ⟨(Lib.decDigits u).toArray⟩) ∧ ∃ k os, w' = grow (w.drewN k) os := by
  have hu1 : 1 ≤ u := by omega
  have hnd20 : Lib.nDigits u ≤ 20 := by have := Lib.numDigits_eq u hu1 hu64; split at this <;> omega
  have hb3 : Lib.nDigits u ≤ 24 := by omega
  have hal : Tryd.prog.arrayLen 55 = 24 := by simp [Program.arrayLen, Tryd.underlying55]
  have hsl1 : ∀ W, (Instr.sliceAt 55 (.pointer (some ⟨w.heap.size, 0, none⟩)) none (some (.int .i64 (Lib.nDigits u : Int))) none).run Tryd.prog W = .ok (.slice (some ⟨w.heap.size, 0, none⟩) (Lib.nDigits u) 24) W := fun W => by
    rw [run_sliceAt_array_h W 55 ⟨w.heap.size, 0, none⟩ (by simp [Program.arrayLen, Program.elem, Tryd.underlying55]) .i64 (Lib.nDigits u : Int) (by omega) (by rw [hal]; omega)]
    go_simp
  have hH0 := holds_zero0 w 55 (Lib.nDigits u) (by omega)
  have hfmt := Tryd.internal_strconv_formatBase10 w.heap.size 0 24 u (Array.replicate (Lib.nDigits u) 0) (w.alloc (.cells Lib.zeros24 55)) hH0 (by rw [Array.size_replicate]; exact Lib.lt_pow_nDigits u) hu64 (by rw [Array.size_replicate]; omega)
  rw [Array.size_replicate] at hfmt
  have HH0 : Hid _ := hH0
  have HF : Hid _ := hfmt
  have HU : Hid (u < 18446744073709551616) := hu64
  have HT : Hid (Lib.TabIs Tryd.prog w powName .u64 Lib.pow10Tab) := htab
  clear hu64 htab hH0 hfmt hal
  go_enter Tryd.func19, Tryd.ntmps19
  go_wp2_with (go_at_call 24; refine (Tryd.internal_strconv_numDigits u hu1 HU.out _ (Lib.tabIs_alloc HT.out _)).mono ?_; rintro e w' ⟨rfl, rfl⟩)
  refine Calls.mono HF.out ?_
  rintro e w' ⟨rfl, k, v', dk, rfl, hF⟩
  have hcv : (convert 40 9 (.slice (some ⟨w.heap.size, 0, none⟩) (Lib.nDigits u) 24)).run Tryd.prog ((putRow (fun (b : UInt8) => Value.int .u8 (b.toNat : Int)) (w.alloc (.cells Lib.zeros24 55)) w.heap.size 0 dk).drewN k) = .ok (.string ⟨(Lib.decDigits u).toArray⟩) ((putRow (fun (b : UInt8) => Value.int .u8 (b.toNat : Int)) (w.alloc (.cells Lib.zeros24 55)) w.heap.size 0 dk).drewN k) := by
    have h := run_convert_bytes_back (P := Tryd.prog) ((putRow (fun (b : UInt8) => Value.int .u8 (b.toNat : Int)) (w.alloc (.cells Lib.zeros24 55)) w.heap.size 0 dk).drewN k) 40 9 5 ⟨w.heap.size, 0, none⟩ 24 (Lib.decDigits u) Tryd.underlying40 Tryd.underlying5 Tryd.underlying9 (fun j hj => by
      rw [Lib.row_is_numeral hF j hj, Lib.add_plain, World.cell?_drewN]
      exact cell?_putRow (fun (b : UInt8) => Value.int .u8 (b.toNat : Int)) _ w.heap.size 0 _ dk HH0.out (by rw [hF.size, Array.size_replicate]) j (by rw [hF.size]; rw [Lib.decDigits_length] at hj; exact hj))
    rw [Lib.decDigits_length] at h
    exact h
  go_wp2
  go_ret
  obtain ⟨os, eo⟩ := fin_pos0 w (.cells Lib.zeros24 55) dk k
  exact ⟨rfl, k, os, eo⟩

/-- strconv.FormatUint(u, 10). -/
theorem fmt_any (u : Nat) (w : World) (hu64 : u < 18446744073709551616) (htab : Lib.TabIs Tryd.prog w powName .u64 Lib.pow10Tab) :
    Calls Tryd.prog 15 #[.int .u64 u, .int .i64 10] w fun e w' => e = .returned (.string ⟨(Lib.decDigits u).toArray⟩) ∧ Below w.heap.size w w' := by
  have h : Calls Tryd.prog 19 #[.int .u64 u, .int .i64 10] w fun e w' => e = .returned (.string ⟨(Lib.decDigits u).toArray⟩) ∧ Below w.heap.size w w' := by
    by_cases hi : u < 100
    · refine (ifmt_small u w hi).mono ?_
      rintro e w' ⟨rfl, rfl⟩
      exact ⟨rfl, Below.refl _ _⟩
    · refine (ifmt_big u w hi hu64 htab).mono ?_
      rintro e w' ⟨rfl, k, os, rfl⟩
      exact ⟨rfl, Lib.below_grow _ _ (Nat.le_refl _) k os⟩
  have H : Hid _ := h
  clear h htab hu64
  go_enter Tryd.func15, Tryd.ntmps15
  go_wp2_with fail
  refine Calls.mono H.out ?_
  rintro e w' ⟨rfl, hb⟩
  go_wp2
  go_ret
  exact ⟨rfl, hb⟩
end Go.Proofs.Qxb6603837aDoor

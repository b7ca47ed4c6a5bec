/-
  FnKeyIndexAddExact: the two tests ahead.
-/
import Derived.Test.Qxb6603852aKi5
namespace Go.Proofs.Qxb6603852a
open Go.RowKit
set_option linter.unusedVariables false

/-- One block that came in: where it lies, its room, its lines. -/
structure Bl where
  a : Option Addr
  c : Nat
  L : List (Int × Int)

structure BlocksAt (w : World) (B : Nat) (x : Addr) (bl : List Bl) : Prop where
  lt : 0 < bl.length → x.block < B
  cell : ∀ i (hi : i < bl.length), w.cell? (x.add i) = some (.slice bl[i].a bl[i].L.length bl[i].c) ∧ (∀ y, bl[i].a = some y → LinesAt w B y bl[i].L) ∧ (0 < bl[i].L.length → ∃ y, bl[i].a = some y) ∧ bl[i].L.length ≤ 9223372036854775807

theorem BlocksAt.below {w w' : World} {B : Nat} {x : Addr} {bl : List Bl} (h : BlocksAt w B x bl) (hb : Below B w w') : BlocksAt w' B x bl :=
  ⟨h.lt, fun i hi => ⟨(hb.cell (p := x.add i) (by unfold Addr.add; split <;> exact h.lt (by omega))).trans (h.cell i hi).1, fun y hy => ((h.cell i hi).2.1 y hy).below hb, (h.cell i hi).2.2⟩⟩

def sumL (bl : List Bl) : Nat → Nat
  | 0 => 0
  | i + 1 => sumL bl i + (match bl[i]? with | some b => b.L.length | none => 0)

theorem sumL_succ (bl : List Bl) (i : Nat) (hi : i < bl.length) : sumL bl (i + 1) = sumL bl i + bl[i].L.length := by
  show sumL bl i + (match bl[i]? with | some b => b.L.length | none => 0) = _
  rw [List.getElem?_eq_getElem hi]

theorem sumL_all (bl : List Bl) (h : ∀ i (hi : i < bl.length), bl[i].L.length = 4096) : ∀ i, i ≤ bl.length → sumL bl i = i * 4096
  | 0, _ => by simp [sumL]
  | i + 1, hi => by
    rw [sumL_succ bl i (by omega), sumL_all bl h i (by omega), h i (by omega)]
    omega

set_option maxHeartbeats 1000000 in
set_option maxRecDepth 100000 in
theorem bytes14 (a : Option Addr) (cap : Nat) (bl : List Bl) (n : Int) (s : Bool) (h o : Int) (B : Nat) (w : World) (hl : bl.length ≤ 9223372036854775807) (HL : Hid (∀ x, a = some x → BlocksAt w B x bl)) (ha : 0 < bl.length → ∃ x, a = some x) : Calls Try.prog 14 #[.slice a bl.length cap, .int .i64 n, .bool s, .int .u64 h, .int .i64 o] w (SomeBool w) := by
  by_cases hn : 1048576 < bl.length
  · go_enter Try.func14, Try.ntmps14
    go_wp2
    go_ret
    exact ⟨false, rfl, rfl⟩
  · go_enter Try.func14, Try.ntmps14
    go_wp2
    go_loop [11, 12] (fun a b => ∃ i T : Nat, a = .int .i64 T ∧ b = .int .i64 i ∧ i ≤ bl.length ∧ T ≤ 1048576) (fun _ b => bl.length - (intOf b).toNat)
    case atStart => exact ⟨0, bl.length, by go_num, by go_num, Nat.zero_le _, by omega⟩
    case round =>
      obtain ⟨i, T, rfl, rfl, hi, hT⟩ := hrel
      by_cases hlt : i < bl.length
      · obtain ⟨x, rfl⟩ := ha (by omega)
        obtain ⟨hc, _, _, hlen⟩ := (HL.out x rfl).cell i hlt
        generalize bl[i].L.length = m at *
        generalize bl[i].a = ai at *
        generalize bl[i].c = ci at *
        by_cases hX : 1048576 < m
        · go_wp2
          go_ret
          exact ⟨false, rfl, rfl⟩
        · by_cases hS : 1048576 < T + m
          · go_wp2
            go_ret
            exact ⟨false, rfl, rfl⟩
          · go_wp2
            go_round
            case rel => exact ⟨i + 1, T + m, by go_num, by go_num, by omega, by omega⟩
            case measure => simp [intOf]; omega
      · obtain rfl : i = bl.length := by omega
        go_wp2
        go_ret
        exact ⟨true, rfl, rfl⟩

/-- What the second test lets by. -/
def FitShape (bl : List Bl) (n : Int) : Prop := 0 ≤ n ∧ (∀ i (hi : i < bl.length), bl[i].L.length = 4096) ∧ bl.length = (n.toNat + 4095) / 4096 ∧ bl.length ≤ 16 ∧ n ≤ bl.length * 4096

def Fit15 (bl : List Bl) (n : Int) (w : World) (e : Ending) (w' : World) : Prop := ∃ bb : Bool, e = .returned (.bool bb) ∧ w' = w ∧ (bb = true → FitShape bl n)

set_option maxHeartbeats 2000000 in
set_option maxRecDepth 100000 in
theorem shape15 (a : Option Addr) (cap : Nat) (bl : List Bl) (n : Int) (B : Nat) (w : World) (hl : bl.length ≤ 9223372036854775807) (hn1 : -9223372036854775808 ≤ n) (hn2 : n ≤ 9223372036854775807) (HL : Hid (∀ x, a = some x → BlocksAt w B x bl)) (ha : 0 < bl.length → ∃ x, a = some x) : Calls Try.prog 15 #[.slice a bl.length cap, .int .i64 n] w (Fit15 bl n w) := by
  by_cases hn : 65536 < bl.length
  · go_enter Try.func15, Try.ntmps15
    go_wp2
    go_ret
    exact ⟨false, rfl, rfl, fun h => by cases h⟩
  · go_enter Try.func15, Try.ntmps15
    go_wp2
    go_loop [5, 6] (fun a b => ∃ i T : Nat, a = .int .i64 T ∧ b = .int .i64 i ∧ i ≤ bl.length ∧ Hid (T = 24 * bl.length + 16 * sumL bl i) ∧ T ≤ 1572864 ∧ (0 < i → T ≤ 1048576)) (fun _ b => bl.length - (intOf b).toNat)
    case atStart => exact ⟨0, 24 * bl.length, by go_num, by go_num, Nat.zero_le _, by show _ = _; simp [sumL], by omega, fun h => by omega⟩
    case round =>
      obtain ⟨i, T, rfl, rfl, hi, hT, hT2, hT3⟩ := hrel
      by_cases hlt : i < bl.length
      · obtain ⟨x, rfl⟩ := ha (by omega)
        obtain ⟨hc, _, _, hlen⟩ := (HL.out x rfl).cell i hlt
        have hs : Hid (sumL bl (i + 1) = sumL bl i + bl[i].L.length) := sumL_succ bl i hlt
        generalize bl[i].L.length = m at *
        generalize bl[i].a = ai at *
        generalize bl[i].c = ci at *
        clear hT3
        by_cases hX : 1048576 < m
        · go_wp2
          go_ret
          exact ⟨false, rfl, rfl, fun h => by cases h⟩
        · by_cases hS : 1048576 < T + 16 * m
          · go_wp2
            go_ret
            exact ⟨false, rfl, rfl, fun h => by cases h⟩
          · go_wp2
            go_round
            case rel => exact ⟨i + 1, T + 16 * m, by go_num, by go_num, by omega, by show _ = _; have h1 := hT.out; have h2 := hs.out; omega, by omega, fun _ => by omega⟩
            case measure => simp [intOf]; omega
      · obtain rfl : i = bl.length := by omega
        by_cases hneg : n < 0
        · go_wp2
          go_ret
          exact ⟨false, rfl, rfl, fun h => by cases h⟩
        · obtain ⟨k, rfl⟩ : ∃ k : Nat, n = (k : Int) := ⟨n.toNat, by omega⟩
          by_cases hbig : bl.length * 4096 < k
          · go_wp2
            go_ret
            exact ⟨false, rfl, rfl, fun h => by cases h⟩
          · by_cases hq : bl.length = (k + 4095) / 4096
            · have e3 : ((bl.length : Int) != ((k : Int) + 4096 - 1) / 4096) = false := by
                have e4 : ((k : Int) + 4096 - 1) / 4096 = (bl.length : Int) := by omega
                rw [e4]
                simp
              have HQ : Hid (bl.length = (k + 4095) / 4096) := hq
              clear hq
              go_wp2
              go_loop [7] (fun b => ∃ i : Nat, b = .int .i64 i ∧ i ≤ bl.length ∧ Hid (∀ j (hj : j < bl.length), j < i → bl[j].L.length = 4096)) (fun b => bl.length - (intOf b).toNat)
              case atStart => exact ⟨0, by go_num, Nat.zero_le _, fun j hj h => by omega⟩
              case round =>
                obtain ⟨i, rfl, hi, HA⟩ := hrel
                by_cases hlt2 : i < bl.length
                · obtain ⟨x, rfl⟩ := ha (by omega)
                  obtain ⟨hc, _, _, hlen⟩ := (HL.out x rfl).cell i hlt2
                  have HM : Hid (∀ m, bl[i].L.length = m → m = 4096 → ∀ j (hj : j < bl.length), j < i + 1 → bl[j].L.length = 4096) := by
                    intro m h1 h2 j hj h3
                    by_cases e : j = i
                    · subst e
                      rw [h1, h2]
                    · exact HA.out j hj (by omega)
                  generalize hm : bl[i].L.length = m at *
                  have HM2 := HM.out m rfl
                  have HM3 : Hid _ := HM2
                  clear HM2 HM hm
                  generalize bl[i].a = ai at *
                  generalize bl[i].c = ci at *
                  by_cases hX : m = 4096
                  · have HM4 : Hid _ := HM3.out hX
                    subst hX
                    clear HM3
                    go_wp2
                    go_round
                    case rel => exact ⟨i + 1, by go_num, by omega, HM4⟩
                    case measure => simp [intOf]; omega
                  · have hne : ((m : Int) != 4096) = true := by
                      rw [bne_iff_ne]
                      omega
                    clear HM3
                    go_wp2
                    go_ret
                    exact ⟨false, rfl, rfl, fun h => by cases h⟩
                · obtain rfl : i = bl.length := by omega
                  go_wp2
                  go_ret
                  refine ⟨true, rfl, rfl, fun _ => ⟨by omega, fun j hj => HA.out j hj hj, by rw [Int.toNat_natCast]; exact HQ.out, ?_, by omega⟩⟩
                  have h1 := sumL_all bl (fun j hj => HA.out j hj hj) bl.length (Nat.le_refl _)
                  have h2 := hT.out
                  rw [h1] at h2
                  rcases Nat.eq_zero_or_pos bl.length with e | e
                  · omega
                  · have := hT3 e
                    omega
            · have e3 : ((bl.length : Int) != ((k : Int) + 4096 - 1) / 4096) = true := by
                rw [bne_iff_ne]
                omega
              clear hq
              go_wp2
              go_ret
              exact ⟨false, rfl, rfl, fun h => by cases h⟩
end Go.Proofs.Qxb6603852a

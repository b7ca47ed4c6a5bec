/-
  FnEntryNumberedFirstHolder (3): the walk.
-/
import Derived.Test.Qxb6603852aEn2
import Derived.Test.Qxb6603852aEn3
import Derived.Test.Qxb6603852aEn8
import Derived.Test.Qxb6603852aEn9
import Derived.Test.Qxb6603852aEnA
namespace Go.Proofs.Qxb6603852a
open Go.RowKit
set_option linter.unusedVariables false

/-- Run k holds q, and no run ahead of it does. -/
def Hits (r : Nat → Rn) (q : Int) (k : Nat) : Prop := off q (r k).f < (r k).s.n ∧ ∀ t, t < k → (r t).s.n ≤ off q (r t).f

theorem ans_found {n : Nat} {r : Nat → Rn} {mr : Nat → MR} {b : Nat → BR} {q d : Int} {m : Option Nat} {ok : Bool} {k : Nat} (hT : ∀ i, i < n → Tied (r i) (mr i) (b i)) (h : Ans n b q d m ok) (hk : k < n) (hh : Hits r q k) :
    ok = true ∧ d = ((r k).e (off q (r k).f)).d ∧ m = (mr k).m (off q (r k).f) := by
  rcases h with ⟨i, hi, h1, h2, h3, h4⟩ | ⟨h1, _⟩
  · obtain ⟨t1, t2, t3⟩ := hT i hi
    rw [t1, t2] at h1
    have hik : i = k := by
      rcases Nat.lt_trichotomy i k with hlt | he | hgt
      · have := hh.2 i hlt
        omega
      · exact he
      · have h5 := h2 k hgt
        obtain ⟨u1, u2, _⟩ := hT k hk
        rw [u1, u2] at h5
        have := hh.1
        omega
    subst hik
    rw [t1, t3 _ h1] at h3
    simp only [Prod.mk.injEq] at h3
    exact ⟨h4, h3.1, h3.2⟩
  · have h5 := h1 k hk
    obtain ⟨u1, u2, _⟩ := hT k hk
    rw [u1, u2] at h5
    have := hh.1
    omega

theorem ans_none {n : Nat} {r : Nat → Rn} {mr : Nat → MR} {b : Nat → BR} {q d : Int} {m : Option Nat} {ok : Bool} (hT : ∀ i, i < n → Tied (r i) (mr i) (b i)) (h : Ans n b q d m ok) (hh : ∀ t, t < n → (r t).s.n ≤ off q (r t).f) : ok = false ∧ d = 0 ∧ m = none := by
  rcases h with ⟨i, hi, h1, _⟩ | ⟨_, h2, h3, h4⟩
  · obtain ⟨t1, t2, t3⟩ := hT i hi
    rw [t1, t2] at h1
    have := hh i hi
    omega
  · exact ⟨h4, h2, h3⟩

theorem off_eq {f q : Int} {j : Nat} (hf0 : 0 ≤ f) (hf1 : f < 18446744073709551616) (hq0 : 0 ≤ q) (hq1 : q < 18446744073709551616) (hj : j ≤ 1048576) : IntKind.u64.wrap (f + (j : Int)) = q ↔ j = off q f := by
  rw [IntKind.wrap_u64]
  unfold off
  omega

theorem same13d (V : World) (w0 : World) (B0 : Nat) (m : Option Nat) (o : Sl) (w : World) (hw : SameMem V w) (HM : Hid (MapIn w0 B0 V (· < V.heap.size) m)) (HO : Hid (OffsAt V (· < V.heap.size) o)) (HB : Hid (Below B0 w0 V ∧ B0 ≤ V.heap.size)) : Calls Try.prog 13 #[.map m, .map m, .slice o.a o.n o.c] w (Yes V) := by
  have hb : Below B0 w0 w := ⟨hw.2.1.trans HB.out.1.os, hw.2.2.1.trans HB.out.1.tape, hw.2.2.2.trans HB.out.1.output, by rw [hw.1]; exact HB.out.1.size, fun k hk => by rw [hw.1]; exact HB.out.1.block k hk⟩
  refine (same13 w0 B0 m o w (HM.out.same (fun k _ => by rw [hw.1]) (fun k hk => by rw [hw.1]; exact hk)) (HO.out.same (fun k _ => by rw [hw.1]) (fun k hk => by rw [hw.1]; exact hk)) ⟨hb, by rw [hw.1]; exact HB.out.2⟩).mono ?_
  rintro e w' ⟨h1, h2⟩
  exact ⟨h1, hw.below h2⟩

theorem kept_cell {V W : World} {p : Addr} {v : Value} (hW : Below V.heap.size V W) (hp : V.cell? p = some v) : W.cell? p = some v :=
  (World.cell?_of_block (w := V) (hW.block _ (World.block_lt_of_cell? _ _ hp))).trans hp

theorem found_cells {W1 W2 W4 : World} {a' ma : Option Addr} {n c' mc : Nat} {r' : Nat → Rn} {mr : Nat → MR} {q : Int} {k : Nat} (HX : Hid (∀ V, Below W4.heap.size W4 V → RunsAt V (· < W4.heap.size) ⟨a', n, c'⟩ r' ∧ MapsAt W2 W2.heap.size V (· < W4.heap.size) ⟨ma, n, mc⟩ mr ∧ Below W1.heap.size W1 V ∧ Below W2.heap.size W2 V ∧ W2.heap.size ≤ W4.heap.size ∧ W4.heap.size ≤ V.heap.size))
    (HL3 : Hid (∀ i, i < n → (mr i).s.n = (r' i).s.n)) (hk : k < n) (HH : Hid (Hits r' q k)) : ∃ x y mx my, a' = some x ∧ (r' k).s.a = some y ∧ ma = some mx ∧ (mr k).s.a = some my ∧
    Hid (∀ V, Below W4.heap.size W4 V → V.cell? ⟨(x.add (k * 5)).block, (x.add (k * 5)).off + 3, none⟩ = some (.slice (some y) (r' k).s.n (r' k).s.c) ∧ V.cell? (y.add (off q (r' k).f * 3)) = some (.int .u32 ((r' k).e (off q (r' k).f)).d) ∧
      V.cell? ⟨(y.add (off q (r' k).f * 3)).block, (y.add (off q (r' k).f * 3)).off + 1, none⟩ = some (.slice ((r' k).e (off q (r' k).f)).o.a ((r' k).e (off q (r' k).f)).o.n ((r' k).e (off q (r' k).f)).o.c) ∧
      V.cell? ⟨(y.add (off q (r' k).f * 3)).block, (y.add (off q (r' k).f * 3)).off + 2, none⟩ = some (.slice ((r' k).e (off q (r' k).f)).p.a ((r' k).e (off q (r' k).f)).p.n ((r' k).e (off q (r' k).f)).p.c) ∧
      V.cell? (mx.add k) = some (.slice (some my) (r' k).s.n (mr k).s.c) ∧ V.cell? (my.add (off q (r' k).f)) = some (.map ((mr k).m (off q (r' k).f))) ∧ OffsAt V (· < V.heap.size) ((r' k).e (off q (r' k).f)).o ∧ MapIn W2 W2.heap.size V (· < V.heap.size) ((mr k).m (off q (r' k).f))) := by
  have hj := HH.out.1
  have hl := HL3.out k hk
  obtain ⟨hR, hM, _⟩ := HX.out W4 (Below.refl _ _)
  obtain ⟨x, hx, _⟩ := hR.1.1 (show 0 < n by omega)
  obtain ⟨mx, hmx, _⟩ := hM.1.1 (show 0 < n by omega)
  obtain ⟨y, hy, _⟩ := (hR.2 k hk).2.2.1.1.1 (by omega)
  obtain ⟨my, hmy, _⟩ := (hM.2 k hk).2.1.1 (by omega)
  refine ⟨x, y, mx, my, hx, hy, hmx, hmy, fun V h => ?_⟩
  obtain ⟨hR, hM, _, _, _, hs⟩ := HX.out V h
  obtain ⟨_, _, _, c3, _⟩ := (hR.2 k hk).1 x hx
  rw [hy] at c3
  obtain ⟨e1, e2⟩ := (hR.2 k hk).2.2.1.2 _ hj
  obtain ⟨d0, d1, d2⟩ := e1 y hy
  have m0 := (hM.2 k hk).1 mx hmx
  rw [hmy, hl] at m0
  obtain ⟨m1, m2⟩ := (hM.2 k hk).2.2 (off q (r' k).f) (by omega)
  exact ⟨c3, d0, d1, d2, m0, m1 my hmy, e2.1.same (fun _ _ => rfl) (fun b hb => by omega), m2.same (fun _ _ => rfl) (fun b hb => by omega)⟩

set_option maxHeartbeats 8000000 in
set_option maxRecDepth 100000 in
theorem law3 (a : Option Addr) (n c : Nat) (r : Nat → Rn) (q : Int) (w : World) (hq0 : 0 ≤ q) (hq1 : q < 18446744073709551616) (HL : Hid (RunsAt w (· < w.heap.size) ⟨a, n, c⟩ r)) :
    Calls Try.prog 3 #[.slice a n c, .int .u64 q] w fun e w' => e = .returned (.bool true) ∧ Below w.heap.size w w' := by
  have H6 : Hid _ := bytes6 _ a n c r q w HL
  go_enter Try.func3, Try.ntmps3
  go_wp2_with fail
  refine Calls.mono H6.out ?_
  rintro e w1 ⟨bb, rfl, rfl, hfit⟩
  cases bb
  · clear hfit
    go_wp2
    go_ret
    exact ⟨rfl, Below.refl _ _⟩
  have HF : Hid (RunsFit ⟨a, n, c⟩ r) := hfit rfl
  clear hfit H6
  have H7 : Hid _ := runs7 a n c r w1 HL HF
  go_wp2_with fail
  refine Calls.mono H7.out ?_
  rintro e W1 ⟨v, bb, rfl, hb1⟩
  have HB1 : Hid _ := hb1
  clear hb1 H7
  cases bb
  · go_wp2
    go_ret
    exact ⟨rfl, HB1.out⟩
  have H8 : Hid _ := clone8 a n c r W1 (HL.out.same (fun k hk => HB1.out.block k hk) (fun k hk => by have := HB1.out.size; omega)) HF
  go_wp2_with fail
  refine Calls.mono H8.out ?_
  rintro e W2 ⟨⟨a', n', c'⟩, r', rfl, hr2, hf2, hb2⟩
  have HR2 : Hid (RunsAt W2 (· < W2.heap.size) ⟨a', n', c'⟩ r') := hr2
  have HF2 : Hid (RunsFit ⟨a', n', c'⟩ r') := hf2
  have HB2 : Hid (Below w1.heap.size w1 W2) := HB1.out.trans (hb2.mono HB1.out.size)
  clear hr2 hf2 hb2 H8 HL HF HB1
  have H9 : Hid _ := maps9 a' n' c' r' W2 HR2 HF2
  go_wp2_with fail
  refine Calls.mono H9.out ?_
  rintro e W3 ⟨ma, mc, mr, rfl, hm3, hl3, hb3⟩
  have HR3 : Hid (RunsAt W3 (· < W3.heap.size) ⟨a', n', c'⟩ r') := HR2.out.same (fun k hk => hb3.block k hk) (fun k hk => by have := hb3.size; omega)
  have HM3 : Hid (MapsAt W2 W2.heap.size W3 (· < W3.heap.size) ⟨ma, n', mc⟩ mr) := hm3
  have HL3 : Hid (∀ i, i < n' → (mr i).s.n = (r' i).s.n) := hl3
  have HB3 : Hid (Below W2.heap.size W2 W3 ∧ Below w1.heap.size w1 W3) := ⟨hb3, HB2.out.trans (hb3.mono HB2.out.size)⟩
  clear hm3 hl3 hb3 H9 HR2
  have H10 : Hid _ := build10 W2 W2.heap.size a' n' c' r' ma mc mr W3 HR3 HF2 HM3 HL3
  go_wp2_with fail
  refine Calls.mono H10.out ?_
  rintro e W4 ⟨⟨ba, bn, bc⟩, b, rfl, hbn, hg4, ht4, hb4⟩
  have hbn' : bn = n' := hbn
  subst hbn'
  have HT : Hid (∀ i, i < bn → Tied (r' i) (mr i) (b i)) := ht4
  have H11 : Hid _ := number11 ba bn bc b q W4 hg4 (fun i hi => by have h1 := (ht4 i hi).2.1; have h2 := (HF2.out.2 i hi).2.2.1; rw [h1]; exact h2) HF2.out.1
  have HX : Hid (∀ V, Below W4.heap.size W4 V → RunsAt V (· < W4.heap.size) ⟨a', bn, c'⟩ r' ∧ MapsAt W2 W2.heap.size V (· < W4.heap.size) ⟨ma, bn, mc⟩ mr ∧ Below w1.heap.size w1 V ∧ Below W2.heap.size W2 V ∧ W2.heap.size ≤ W4.heap.size ∧ W4.heap.size ≤ V.heap.size) := by
    intro V h
    have s3 := hb4.size
    have s2 := HB3.out.1.size
    have h34 : Below W3.heap.size W3 V := hb4.trans (h.mono s3)
    have h24 : Below W2.heap.size W2 V := HB3.out.1.trans (h34.mono s2)
    exact ⟨HR3.out.same (fun k hk => h34.block k hk) (fun k hk => by omega), HM3.out.same (fun k hk => h34.block k hk) (fun k hk => by omega), HB2.out.trans (h24.mono HB2.out.size), h24, by omega, h.size⟩
  have hn' : bn ≤ 1048576 := HF2.out.1
  clear hbn hg4 ht4 hb4 H10 HR3 HM3 HB2 HB3
  go_wp2
  go_loop [9, 10, 11] (fun s9 s10 s11 => ∃ i : Nat, s11 = .int .i64 i ∧ i ≤ bn ∧ ((s9 = .int .i64 (-1) ∧ s10 = .int .i64 (-1) ∧ Hid (∀ t, t < i → (r' t).s.n ≤ off q (r' t).f)) ∨ ∃ k : Nat, k < bn ∧ s9 = .int .i64 k ∧ s10 = .int .i64 (off q (r' k).f) ∧ Hid (Hits r' q k))) (fun _ _ s11 => bn - (intOf s11).toNat)
  case atStart => exact ⟨0, by go_num, Nat.zero_le _, .inl ⟨rfl, rfl, fun t ht => absurd ht (Nat.not_lt_zero _)⟩⟩
  case round =>
    obtain ⟨i, rfl, hi, hcase⟩ := hrel
    rcases hcase with ⟨rfl, rfl, HN⟩ | ⟨k, hk, rfl, rfl, HH⟩
    · by_cases hlt : i < bn
      · obtain ⟨x, rfl, _⟩ := (HX.out W4 (Below.refl _ _)).1.1.1 (show 0 < bn by omega)
        have hrn := (HX.out W4 (Below.refl _ _)).1.2 i hlt
        obtain ⟨_, _, c2, c3, _⟩ := hrn.1 x rfl
        obtain ⟨hf0, hf1⟩ := hrn.2.2.2.1
        have k3 : (r' i).s.n ≤ 1048576 := (HF2.out.2 i hlt).2.2.1
        have HI : Hid (Hits r' q i → ∃ k : Nat, k < bn ∧ (i : Int) = k ∧ (off q (r' i).f : Int) = off q (r' k).f ∧ Hid (Hits r' q k)) := fun h => ⟨i, hlt, rfl, rfl, h⟩
        clear hrn
        go_wp2
        go_loop [9, 10, 12] (fun s9 s10 s12 => ∃ j : Nat, s12 = .int .i64 j ∧ j ≤ (r' i).s.n ∧ s9 = .int .i64 (-1) ∧ s10 = .int .i64 (-1) ∧ Hid (∀ t, t < j → t ≠ off q (r' i).f)) (fun _ _ s12 => (r' i).s.n - (intOf s12).toNat)
        case atStart => exact ⟨0, by go_num, Nat.zero_le _, rfl, rfl, fun t ht => absurd ht (Nat.not_lt_zero _)⟩
        case round =>
          obtain ⟨j, rfl, hj, rfl, rfl, HJ⟩ := hrel
          by_cases hlt2 : j < (r' i).s.n
          · by_cases hh : j = off q (r' i).f
            · have hw := (off_eq hf0 hf1 hq0 hq1 (show j ≤ 1048576 by omega)).2 hh
              have HHI : Hid (Hits r' q i) := ⟨by rw [← hh]; exact hlt2, HN.out⟩
              have HJ2 : Hid ((j : Int) = (off q (r' i).f : Int)) := by
                show (j : Int) = (off q (r' i).f : Int)
                rw [← hh]
              clear hh
              go_wp2
              go_round
              case rel => exact ⟨i + 1, by go_num, by omega, .inr ⟨i, hlt, rfl, by rw [← HJ2.out], HHI⟩⟩
              case measure => simp [intOf]; omega
            · have hw : (IntKind.u64.wrap ((r' i).f + (j : Int)) == q) = false := by
                rw [beq_eq_false_iff_ne]
                exact fun h => hh ((off_eq hf0 hf1 hq0 hq1 (show j ≤ 1048576 by omega)).1 h)
              have HJ2 : Hid (∀ t, t < j + 1 → t ≠ off q (r' i).f) := by
                intro t ht
                by_cases e : t = j
                · rw [e]; exact hh
                · exact HJ.out t (by omega)
              clear hh
              go_wp2
              go_round
              case rel => exact ⟨j + 1, by go_num, by omega, rfl, rfl, HJ2⟩
              case measure => simp [intOf]; omega
          · obtain rfl : j = (r' i).s.n := by omega
            have HN2 : Hid (∀ t, t < i + 1 → (r' t).s.n ≤ off q (r' t).f) := by
              intro t ht
              by_cases e : t = i
              · rw [e]
                by_cases h : off q (r' i).f < (r' i).s.n
                · exact absurd rfl (HJ.out _ h)
                · omega
              · exact HN.out t (by omega)
            go_wp2
            go_round
            case rel => exact ⟨i + 1, by go_num, by omega, .inl ⟨rfl, rfl, HN2⟩⟩
            case measure => simp [intOf]; omega
      · obtain rfl : i = bn := by omega
        have heq : ∀ w, (binOp .eql 37 (.map none) (.map none)).run Try.prog w = .ok (.bool true) w := fun w => run_eql_map_none w 37 2 32 none Try.underlying37
        go_wp2_with fail
        refine Calls.mono H11.out ?_
        rintro e W5 ⟨d, m, ok, rfl, hans, hb5⟩
        obtain ⟨rfl, rfl, rfl⟩ := ans_none HT.out hans HN.out
        have H12 : Hid _ := parts12 0 none (W5.alloc (.cells #[.int .u32 0, .map none] 39))
        have HE : Hid (∀ V, Below (W5.alloc (.cells #[.int .u32 0, .map none] 39)).heap.size (W5.alloc (.cells #[.int .u32 0, .map none] 39)) V → Below w1.heap.size w1 V) := by
          intro V h
          have h1 : Below W5.heap.size W5 V := (below_alloc W5 _).trans (h.mono (by rw [size_alloc]; exact Nat.le_succ _))
          exact (HX.out V (hb5.trans (h1.mono hb5.size))).2.2.1
        clear hans hb5
        go_wp2_with fail
        refine Calls.mono H12.out ?_
        rintro e W6 ⟨rfl, hb6⟩
        have HE6 : Hid _ := HE.out W6 hb6
        clear hb6
        go_wp2
        go_ret
        exact ⟨rfl, HE6.out⟩
    · by_cases hlt : i < bn
      · go_wp2_with fail
        refine Calls.mono H11.out ?_
        rintro e W5 ⟨d, m, ok, rfl, hans, hb5⟩
        obtain ⟨rfl, hd, hm⟩ := ans_found HT.out hans hk HH.out
        have HDD : Hid _ := hd
        have HMM : Hid _ := hm
        clear hd hm
        have H12 : Hid _ := parts12 d m (W5.alloc (.cells #[.int .u32 d, .map m] 39))
        have HE : Hid (∀ V, Below (W5.alloc (.cells #[.int .u32 d, .map m] 39)).heap.size (W5.alloc (.cells #[.int .u32 d, .map m] 39)) V → Below W4.heap.size W4 V) := by
          intro V h
          have h1 : Below W5.heap.size W5 V := (below_alloc W5 _).trans (h.mono (by rw [size_alloc]; exact Nat.le_succ _))
          exact hb5.trans (h1.mono hb5.size)
        clear hans hb5
        go_wp2_with fail
        refine Calls.mono H12.out ?_
        rintro e W6 ⟨rfl, hb6⟩
        have HE6 : Hid (Below W4.heap.size W4 W6) := HE.out W6 hb6
        clear hb6 HE H12 H11
        obtain ⟨x, y, mx, my, rfl, hy, rfl, hmy, HC⟩ := found_cells HX HL3 hk HH
        have HS6 : Hid (∀ (o : Obj) (V : World), Below (W6.alloc o).heap.size (W6.alloc o) V → Below W4.heap.size W4 V) := fun o V h => HE6.out.trans (((below_alloc W6 o).trans (h.mono (by rw [size_alloc]; exact Nat.le_succ _))).mono HE6.out.size)
        obtain ⟨c3, d0, d1, d2, m0, m1, _, _⟩ := HC.out W6 HE6.out
        have hj : off q (r' k).f < (r' k).s.n := HH.out.1
        have k3 : (r' k).s.n ≤ 1048576 := (HF2.out.2 k hk).2.2.1
        generalize off q (r' k).f = jj at *
        rw [← HDD.out] at d0
        rw [← HMM.out] at m1
        generalize he : (r' k).e jj = ej at *
        generalize (r' k).s.n = L at *
        generalize (r' k).s.c = ec at *
        generalize (mr k).s.c = mc2 at *
        rw [← HMM.out] at HC
        clear HDD HMM he hy hmy
        obtain ⟨d', ⟨oa, on, oc⟩, ⟨pa, pn, pc⟩, pg⟩ := ej
        simp only at d0 d1 d2
        have HXA : Hid (Below W4.heap.size W4 (W6.alloc (.cells #[.int .u32 d, .slice oa on oc, .slice pa pn pc] 47))) := HS6.out _ _ (Below.refl _ _)
        obtain ⟨_, _, _, _, q0, q1, q2, q3⟩ := HC.out _ HXA.out
        have HO : Hid _ := q2
        have HMI : Hid _ := q3
        have HWB : Hid (Below W2.heap.size W2 (W6.alloc (.cells #[.int .u32 d, .slice oa on oc, .slice pa pn pc] 47)) ∧ W2.heap.size ≤ (W6.alloc (.cells #[.int .u32 d, .slice oa on oc, .slice pa pn pc] 47)).heap.size) := ⟨(HX.out _ HXA.out).2.2.2.1, Nat.le_trans (HX.out _ HXA.out).2.2.2.2.1 (HX.out _ HXA.out).2.2.2.2.2⟩
        have hR : (W6.alloc (.cells #[.int .u32 d, .slice oa on oc, .slice pa pn pc] 47)).heap[W6.heap.size]? = some (.cells #[.int .u32 d, .slice oa on oc, .slice pa pn pc] 47 (0, 0)) := heap_alloc_new W6 _
        obtain ⟨t0, t1, _⟩ := ent_kept hR (Below.refl _ _)
        have HEND : Hid (∀ V, Below (W6.alloc (.cells #[.int .u32 d, .slice oa on oc, .slice pa pn pc] 47)).heap.size (W6.alloc (.cells #[.int .u32 d, .slice oa on oc, .slice pa pn pc] 47)) V → Below w1.heap.size w1 V) := fun V h => (HX.out V (HS6.out _ V h)).2.2.1
        clear q2 q3 hR HXA HS6 HC
        go_wp2_with fail
        generalize W6.alloc (.cells #[.int .u32 d, .slice oa on oc, .slice pa pn pc] 47) = X at *
        generalize W6.heap.size = R at *
        go_region_held3 (fun w' => w'.cell? ⟨R, 0, none⟩ = some (.int .u32 d) ∧ w'.cell? ⟨R, 1, none⟩ = some (.slice oa on oc) ∧ w'.cell? (mx.add k) = some (.slice (some my) L mc2) ∧ w'.cell? (my.add jj) = some (.map m))
          (first | with_reducible exact ⟨a0, a1, a2, a3⟩ | exact ⟨t0, t1, q0, q1⟩)
          (first | (go_at_call 13; refine (same13d X W2 W2.heap.size m ⟨oa, on, oc⟩ _ ?_ HMI HO HWB).mono ?_; exact ⟨rfl, rfl, rfl, rfl⟩; rintro e' W ⟨rfl, hbw⟩; have a0 := kept_cell hbw t0; have a1 := kept_cell hbw t1; have a2 := kept_cell hbw q0; have a3 := kept_cell hbw q1; have HEW : Hid _ := HEND.out W hbw; clear hbw))
        all_goals
          go_wp2
          go_ret
          exact ⟨rfl, HEW.out⟩
      · go_wp2_with fail
        refine Calls.mono H11.out ?_
        rintro e W5 ⟨d, m, ok, rfl, hans, hb5⟩
        obtain ⟨rfl, hd, hm⟩ := ans_found HT.out hans hk HH.out
        have HDD : Hid _ := hd
        have HMM : Hid _ := hm
        clear hd hm
        have H12 : Hid _ := parts12 d m (W5.alloc (.cells #[.int .u32 d, .map m] 39))
        have HE : Hid (∀ V, Below (W5.alloc (.cells #[.int .u32 d, .map m] 39)).heap.size (W5.alloc (.cells #[.int .u32 d, .map m] 39)) V → Below W4.heap.size W4 V) := by
          intro V h
          have h1 : Below W5.heap.size W5 V := (below_alloc W5 _).trans (h.mono (by rw [size_alloc]; exact Nat.le_succ _))
          exact hb5.trans (h1.mono hb5.size)
        clear hans hb5
        go_wp2_with fail
        refine Calls.mono H12.out ?_
        rintro e W6 ⟨rfl, hb6⟩
        have HE6 : Hid (Below W4.heap.size W4 W6) := HE.out W6 hb6
        clear hb6 HE H12 H11
        obtain ⟨x, y, mx, my, rfl, hy, rfl, hmy, HC⟩ := found_cells HX HL3 hk HH
        have HS6 : Hid (∀ (o : Obj) (V : World), Below (W6.alloc o).heap.size (W6.alloc o) V → Below W4.heap.size W4 V) := fun o V h => HE6.out.trans (((below_alloc W6 o).trans (h.mono (by rw [size_alloc]; exact Nat.le_succ _))).mono HE6.out.size)
        obtain ⟨c3, d0, d1, d2, m0, m1, _, _⟩ := HC.out W6 HE6.out
        have hj : off q (r' k).f < (r' k).s.n := HH.out.1
        have k3 : (r' k).s.n ≤ 1048576 := (HF2.out.2 k hk).2.2.1
        generalize off q (r' k).f = jj at *
        rw [← HDD.out] at d0
        rw [← HMM.out] at m1
        generalize he : (r' k).e jj = ej at *
        generalize (r' k).s.n = L at *
        generalize (r' k).s.c = ec at *
        generalize (mr k).s.c = mc2 at *
        rw [← HMM.out] at HC
        clear HDD HMM he hy hmy
        obtain ⟨d', ⟨oa, on, oc⟩, ⟨pa, pn, pc⟩, pg⟩ := ej
        simp only at d0 d1 d2
        have HXA : Hid (Below W4.heap.size W4 (W6.alloc (.cells #[.int .u32 d, .slice oa on oc, .slice pa pn pc] 47))) := HS6.out _ _ (Below.refl _ _)
        obtain ⟨_, _, _, _, q0, q1, q2, q3⟩ := HC.out _ HXA.out
        have HO : Hid _ := q2
        have HMI : Hid _ := q3
        have HWB : Hid (Below W2.heap.size W2 (W6.alloc (.cells #[.int .u32 d, .slice oa on oc, .slice pa pn pc] 47)) ∧ W2.heap.size ≤ (W6.alloc (.cells #[.int .u32 d, .slice oa on oc, .slice pa pn pc] 47)).heap.size) := ⟨(HX.out _ HXA.out).2.2.2.1, Nat.le_trans (HX.out _ HXA.out).2.2.2.2.1 (HX.out _ HXA.out).2.2.2.2.2⟩
        have hR : (W6.alloc (.cells #[.int .u32 d, .slice oa on oc, .slice pa pn pc] 47)).heap[W6.heap.size]? = some (.cells #[.int .u32 d, .slice oa on oc, .slice pa pn pc] 47 (0, 0)) := heap_alloc_new W6 _
        obtain ⟨t0, t1, _⟩ := ent_kept hR (Below.refl _ _)
        have HEND : Hid (∀ V, Below (W6.alloc (.cells #[.int .u32 d, .slice oa on oc, .slice pa pn pc] 47)).heap.size (W6.alloc (.cells #[.int .u32 d, .slice oa on oc, .slice pa pn pc] 47)) V → Below w1.heap.size w1 V) := fun V h => (HX.out V (HS6.out _ V h)).2.2.1
        clear q2 q3 hR HXA HS6 HC
        go_wp2_with fail
        generalize W6.alloc (.cells #[.int .u32 d, .slice oa on oc, .slice pa pn pc] 47) = X at *
        generalize W6.heap.size = R at *
        go_region_held3 (fun w' => w'.cell? ⟨R, 0, none⟩ = some (.int .u32 d) ∧ w'.cell? ⟨R, 1, none⟩ = some (.slice oa on oc) ∧ w'.cell? (mx.add k) = some (.slice (some my) L mc2) ∧ w'.cell? (my.add jj) = some (.map m))
          (first | with_reducible exact ⟨a0, a1, a2, a3⟩ | exact ⟨t0, t1, q0, q1⟩)
          (first | (go_at_call 13; refine (same13d X W2 W2.heap.size m ⟨oa, on, oc⟩ _ ?_ HMI HO HWB).mono ?_; exact ⟨rfl, rfl, rfl, rfl⟩; rintro e' W ⟨rfl, hbw⟩; have a0 := kept_cell hbw t0; have a1 := kept_cell hbw t1; have a2 := kept_cell hbw q0; have a3 := kept_cell hbw q1; have HEW : Hid _ := HEND.out W hbw; clear hbw))
        all_goals
          go_wp2
          go_ret
          exact ⟨rfl, HEW.out⟩
end Go.Proofs.Qxb6603852a

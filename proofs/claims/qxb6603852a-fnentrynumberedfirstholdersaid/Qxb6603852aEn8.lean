/-
  regB1Build (10): the walk.
-/
import Derived.Test.Qxb6603852aEn7
import Derived.Deep.RegionHeld3
namespace Go.Proofs.Qxb6603852a
open Go.RowKit
set_option linter.unusedVariables false

def Built (w : World) (n : Nat) (r : Nat → Rn) (mr : Nat → MR) (e : Ending) (w' : World) : Prop :=
  ∃ (s' : Sl) (b : Nat → BR), e = .returned (.slice s'.a s'.n s'.c) ∧ s'.n = n ∧ LogsAt w' (· < w'.heap.size) s' b ∧ (∀ i, i < n → Tied (r i) (mr i) (b i)) ∧ Below w.heap.size w w'

theorem nil_logs (w : World) (ok : Nat → Prop) (b : Nat → BR) : LogsAt w ok ⟨none, 0, 0⟩ b := ⟨⟨fun h => absurd h (Nat.lt_irrefl 0), Nat.zero_le _⟩, fun j hj => absurd hj (Nat.not_lt_zero _)⟩

theorem LogsAt.same {w w' : World} {ok ok' : Nat → Prop} {s : Sl} {b : Nat → BR} (h : LogsAt w ok s b) (hs : ∀ k, ok k → w'.heap[k]? = w.heap[k]?) (hm : ∀ k, ok k → ok' k) : LogsAt w' ok' s b := by
  refine ⟨h.1.mono hm, fun i hi => ⟨fun y hy => ?_, (h.2 i hi).2.same hs hm⟩⟩
  have hx : ok (y.add (i * 5)).block := by rw [add_blk]; exact h.1.at hy hi
  obtain ⟨c0, c1, c2, c3, c4⟩ := (h.2 i hi).1 y hy
  exact ⟨(cellSame hs hx).trans c0, (cellSame hs (by exact hx)).trans c1, (cellSame hs (by exact hx)).trans c2, (cellSame hs (by exact hx)).trans c3, (cellSame hs (by exact hx)).trans c4⟩

set_option maxHeartbeats 8000000 in
set_option maxRecDepth 100000 in
theorem build10 (w0 : World) (B0 : Nat) (a : Option Addr) (n c : Nat) (r : Nat → Rn) (ma : Option Addr) (mc : Nat) (mr : Nat → MR) (w : World) (HL : Hid (RunsAt w (· < w.heap.size) ⟨a, n, c⟩ r)) (HF : Hid (RunsFit ⟨a, n, c⟩ r)) (HM : Hid (MapsAt w0 B0 w (· < w.heap.size) ⟨ma, n, mc⟩ mr)) (HT : Hid (∀ i, i < n → (mr i).s.n = (r i).s.n)) :
    Calls Try.prog 10 #[.slice a n c, .slice ma n mc, .int .u64 0] w (Built w n r mr) := by
  cases a with
  | none =>
    have hn0 : n = 0 := by
      by_cases h : 0 < n
      · obtain ⟨y, hy, _⟩ := HL.out.1.1 h
        cases hy
      · omega
    have HD : Hid (Built w n r mr (.returned (.slice none 0 0)) w) := ⟨⟨none, 0, 0⟩, fun _ => ⟨ByteArray.empty, ⟨none, 0, 0⟩, 0, ⟨none, 0, 0⟩, fun _ => (0, none), ByteArray.empty⟩, rfl, hn0.symm, nil_logs _ _ _, fun i hi => by omega, Below.refl _ _⟩
    clear hn0
    go_enter Try.func10, Try.ntmps10
    go_wp2
    go_ret
    exact HD.out
  | some x =>
    have hn : n ≤ 1048576 := HF.out.1
    obtain ⟨i0, hi0, hz0, hzs, hzb⟩ := info_parts info39
    obtain ⟨i1, hi1, hy0, hys, hyb⟩ := info_parts info76
    obtain ⟨Z, hmk, hZ⟩ := mkZ0 30 76 _ 5 88 Try.underlying30 info76 n hn (by omega)
    have H0 : Hid (∃ f, Filled kU (w.alloc (.cells Z 76)) w.heap.size n 0 f ∧ (∀ k, k < 0 → Tied (r k) (mr k) (f k)) ∧ Below w.heap.size w (w.alloc (.cells Z 76))) := ⟨fun _ => ⟨ByteArray.empty, ⟨none, 0, 0⟩, 0, ⟨none, 0, 0⟩, fun _ => (0, none), ByteArray.empty⟩, Filled.start hZ _, fun k hk => absurd hk (Nat.not_lt_zero _), below_alloc _ _⟩
    have H9 : Hid (∀ wr f, Filled kU wr w.heap.size n n f → (∀ k, k < n → Tied (r k) (mr k) (f k)) → Below w.heap.size w wr → Built w n r mr (.returned (.slice (some ⟨w.heap.size, 0, none⟩) n n)) wr) :=
      fun wr f h1 h2 h3 => ⟨⟨some ⟨w.heap.size, 0, none⟩, n, n⟩, f, rfl, rfl, (logs_done h1 hn).same (fun _ _ => rfl) (fun k hk => hk.2), h2, h3⟩
    clear hZ
    generalize hB : w.heap.size = B at *
    have HB : Hid (w.heap.size = B) := hB
    go_enter Try.func10, Try.ntmps10
    go_wp2
    clear hB
    go_loopw [7, 8] (fun s7 s8 wr => ∃ i : Nat, s7 = .slice (some ⟨B, 0, none⟩) i n ∧ s8 = .int .i64 i ∧ i ≤ n ∧ Hid (∃ f, Filled kU wr B n i f ∧ (∀ k, k < i → Tied (r k) (mr k) (f k)) ∧ Below B w wr)) (fun _ s8 _ => n - (intOf s8).toNat)
    case atStart => exact ⟨0, rfl, by go_num, Nat.zero_le _, H0⟩
    case round =>
      obtain ⟨i, rfl, rfl, hi, HI⟩ := hrel
      obtain ⟨U, hU⟩ : ∃ U, U = wr := ⟨_, rfl⟩
      subst hU
      obtain ⟨f0, F0, l0, b0⟩ := HI.out
      by_cases hlt : i < n
      · have HC : Hid (∀ V, Below B w V → RnAt V (· < B) (r i) (x.add (i * 5)) ∧ RnIn V (· < B) (r i)) := fun V h => ⟨((HL.out.same (ok' := (· < B)) (fun k hk => h.block k hk) (fun _ h => h)).2 i hlt).1 x rfl, ((HL.out.same (ok' := (· < B)) (fun k hk => h.block k hk) (fun _ h => h)).2 i hlt).2⟩
        have HX : Hid ((x.add (i * 5)).block < B) := by
          show (x.add (i * 5)).block < B
          rw [add_blk]
          exact HL.out.1.at rfl hlt
        have HFI : Hid (RnFit (r i)) := HF.out.2 i hlt
        have hTi := HT.out i hlt
        have hBU : B ≤ U.heap.size := by
          have h1 := b0.size
          rw [HB.out] at h1
          exact h1
        obtain ⟨c0, c1, c2, c3, c4⟩ := (HC.out U b0).1
        obtain ⟨hf0, hf1⟩ := (HC.out U b0).2.2.2.1
        have hBl := F0.lt
        have HF0 : Hid (Filled kU U B n i f0 ∧ (∀ k, k < i → Tied (r k) (mr k) (f0 k)) ∧ Below B w U ∧ B ≤ U.heap.size ∧ B < U.heap.size) := ⟨F0, l0, b0, hBU, hBl⟩
        have HST : Hid (∀ (V W : World) (x : BR), Below U.heap.size U V → LogIn V (fun b => U.heap.size ≤ b ∧ b < V.heap.size) x.s x.le → Tied (r i) (mr i) x → Below V.heap.size V W → _) := fun V W x h1 h2 h3 h4 => brun_step x r mr HF0.out.1 HF0.out.2.1 hlt HF0.out.2.2.1 HF0.out.2.2.2.1 h1 h2 h3 h4
        have HMC : Hid (∀ V, Below B w V → (∀ y, ma = some y → V.cell? (y.add i) = some (.slice (mr i).s.a (mr i).s.n (mr i).s.c) ∧ y.block < B) ∧ RowIn w0 B0 V (· < B) (mr i) ∧ ∃ y, ma = some y) := by
          intro V h
          have h1 := HM.out.same (ok' := (· < B)) (fun k hk => h.block k hk) (fun _ h => h)
          refine ⟨fun y hy => ⟨(h1.2 i hlt).1 y hy, h1.1.at hy hlt⟩, (h1.2 i hlt).2, ?_⟩
          obtain ⟨y, hy, _⟩ := h1.1.1 (show 0 < n by omega)
          exact ⟨y, hy⟩
        clear F0 l0 b0 hBU hBl HI
        have k3 : (r i).s.n ≤ 1048576 := HFI.out.2.2.1
        generalize hri : r i = ri at *
        obtain ⟨nm, ⟨ha, hn', hc'⟩, f, ⟨ea, en, ec⟩, e, ed⟩ := ri
        simp only at c0 c1 c2 c3 c4 hf0 hf1 k3 hTi
        clear hri
        have hwr : IntKind.u64.wrap f = f := by
          rw [IntKind.wrap_u64]
          omega
        cases ea with
        | none =>
          have hen : en = 0 := by
            by_cases h : 0 < en
            · obtain ⟨y, hy, _⟩ := (HC.out U HF0.out.2.2.1).2.2.1.1.1 h
              cases hy
            · omega
          have HNE : Hid ((x.add (i * 5)).block ≠ B) := fun h => by have := HX.out; omega
          have HN1 : Hid _ := HST.out U
          subst hen
          have H1C : Hid (∀ u ∈ ([.string nm, .slice ha hn' hc', .int .u64 f, .slice none 0 0, .string ed] : List Value), u.oneCell' = true) := by
            intro u hu
            simp only [List.mem_cons, List.not_mem_nil, or_false] at hu
            rcases hu with rfl | rfl | rfl | rfl | rfl <;> rfl
          go_wp2_with fail
          go_region_held3 (fun w' => w'.cell? (x.add (i * 5)) = some (.string nm) ∧ w'.cell? ⟨(x.add (i * 5)).block, (x.add (i * 5)).off + 1, none⟩ = some (.slice ha hn' hc') ∧ w'.cell? ⟨(x.add (i * 5)).block, (x.add (i * 5)).off + 2, none⟩ = some (.int .u64 f) ∧ w'.cell? ⟨(x.add (i * 5)).block, (x.add (i * 5)).off + 4, none⟩ = some (.string ed))
            (first | with_reducible exact ⟨a0, a1, a2, a4⟩ | with_reducible exact ⟨p0, p1, p2, p4⟩ | with_reducible exact ⟨s0 _ _, s1 _ _, s2 _ _, s4 _ _⟩ | exact ⟨c0, c1, c2, c4⟩)
            (first | (go_at_call 26; refine (mkrun26 U _ ?_ nm ed ⟨ha, hn', hc'⟩ ⟨none, 0, 0⟩ f).mono ?_; exact ⟨rfl, rfl, rfl, rfl⟩; rintro e' W ⟨rfl, hbw⟩; obtain ⟨g0, g1, g2⟩ := HST.out U W ⟨nm, ⟨ha, hn', hc'⟩, f, ⟨none, 0, 0⟩, fun _ => (0, none), ed⟩ (Below.refl _ _) (nil_log _ _ _) ⟨rfl, rfl, fun j hj => absurd hj (Nat.not_lt_zero _)⟩ hbw; have HQ : Hid _ := g0; have HNC : Hid _ := g1; have HSP : Hid _ := g2; obtain ⟨a0, p0, s0⟩ := old_cell hbw c0 (.cells #[.string nm, .slice ha hn' hc', .int .u64 f, .slice none 0 0, .string ed] 76) B HNE.out; obtain ⟨a1, p1, s1⟩ := old_cell hbw c1 (.cells #[.string nm, .slice ha hn' hc', .int .u64 f, .slice none 0 0, .string ed] 76) B HNE.out; obtain ⟨a2, p2, s2⟩ := old_cell hbw c2 (.cells #[.string nm, .slice ha hn' hc', .int .u64 f, .slice none 0 0, .string ed] 76) B HNE.out; obtain ⟨a4, p4, s4⟩ := old_cell hbw c4 (.cells #[.string nm, .slice ha hn' hc', .int .u64 f, .slice none 0 0, .string ed] 76) B HNE.out; clear g0 g1 g2 hbw) | (refine step_append_room rfl (.tmp 65) (.tmp 90) 30 rfl 76 i1 5 Try.underlying30 hi1 hys B 0 i n (by simp [Act.eval]) ⟨W.heap.size, 0, none⟩ 1 1 [.string nm, .slice ha hn' hc', .int .u64 f, .slice none 0 0, .string ed] (by simp [Act.eval]) rfl HNC.out H1C.out (by omega) HSP.out ?_))
          all_goals
            go_wp2
            go_roundw
            case rel => exact ⟨i + 1, rfl, by go_num, by omega, HQ⟩
            case measure => simp [intOf]; omega
        | some y =>
          obtain ⟨Z2, hmk2, hZ2⟩ := mkZ0 73 39 _ 2 16 Try.underlying73 info39 en k3 (by omega)
          have H1 : Hid (Filled kL (U.alloc (.cells Z2 39)) U.heap.size en 0 (fun j => ((e j).d, (mr i).m j)) ∧ Below U.heap.size U (U.alloc (.cells Z2 39))) := ⟨Filled.start hZ2 _, below_alloc _ _⟩
          clear hZ2
          go_wp2
          generalize hRd : U.heap.size = E at *
          have HRd : Hid (U.heap.size = E) := hRd
          clear hRd
          go_loopw [9, 10] (fun s9 s10 wr => ∃ j : Nat, s9 = .slice (some ⟨E, 0, none⟩) j en ∧ s10 = .int .i64 j ∧ j ≤ en ∧ Hid (Filled kL wr E en j (fun j => ((e j).d, (mr i).m j)) ∧ Below E U wr)) (fun _ s10 _ => en - (intOf s10).toNat)
          case atStart => exact ⟨0, rfl, by go_num, Nat.zero_le _, H1⟩
          case round =>
            obtain ⟨j, rfl, rfl, hj, HJ⟩ := hrel
            obtain ⟨V, hV⟩ : ∃ V, V = wr := ⟨_, rfl⟩
            subst hV
            have r3 : Below B w V := HF0.out.2.2.1.trans (HJ.out.2.mono HF0.out.2.2.2.1)
            have hEV : E ≤ V.heap.size := by
              have h1 := HJ.out.2.size
              rw [HRd.out] at h1
              exact h1
            have HV : Hid (Below B w V ∧ E ≤ V.heap.size) := ⟨r3, hEV⟩
            clear c0 c1 c2 c3 c4 r3 hEV
            obtain ⟨c0, c1, c2, c3, c4⟩ := (HC.out V HV.out.1).1
            simp only at c0 c1 c2 c3 c4
            by_cases hlt2 : j < en
            · obtain ⟨d0, _, _⟩ := ((HC.out V HV.out.1).2.2.1.2 j hlt2).1 y rfl
              simp only at d0
              obtain ⟨mx, rfl⟩ := (HMC.out V HV.out.1).2.2
              obtain ⟨m0, mb⟩ := (HMC.out V HV.out.1).1 mx rfl
              have hrow := (HMC.out V HV.out.1).2.1
              obtain ⟨my, hmy, hmyb⟩ := hrow.1.1 (show 0 < (mr i).s.n by omega)
              have m1 := (hrow.2 j (by omega)).1 my hmy
              have hyb : y.block < B := ((HC.out V HV.out.1).2.2.1.1).at rfl hlt2
              have HNE : Hid ((⟨(x.add (i * 5)).block, (x.add (i * 5)).off + 3, none⟩ : Addr).block ≠ E ∧ (y.add (j * 3)).block ≠ E ∧ (mx.add i).block ≠ E ∧ (my.add j).block ≠ E) := by
                have h1 := HX.out
                have h2 := HF0.out.2.2.2.1
                refine ⟨fun h => ?_, fun h => ?_, fun h => ?_, fun h => ?_⟩
                · have h3 : (x.add (i * 5)).block = E := h
                  omega
                · rw [add_blk] at h; omega
                · rw [add_blk] at h; omega
                · rw [add_blk] at h; omega
              have HLS : Hid (∀ W, Below V.heap.size V W → _) := fun W h => log_step (U := U) (le := fun j => ((e j).d, (mr i).m j)) rfl HJ.out.1 hlt2 HJ.out.2 HV.out.2 h
              rw [hmy, hTi] at m0
              clear hrow hyb mb hmyb c0 c1 c2 c4 hmy
              generalize (e j).d = d at *
              generalize (mr i).m j = m at *
              generalize (mr i).s.c = mc2 at *
              have H1C : Hid (∀ u ∈ ([.int .u32 d, .map m] : List Value), u.oneCell' = true) := by
                intro u hu
                simp only [List.mem_cons, List.not_mem_nil, or_false] at hu
                rcases hu with rfl | rfl <;> rfl
              go_wp2_with fail
              go_region_held3 (fun w' => w'.cell? ⟨(x.add (i * 5)).block, (x.add (i * 5)).off + 3, none⟩ = some (.slice (some y) en ec) ∧ w'.cell? (y.add (j * 3)) = some (.int .u32 d) ∧ w'.cell? (mx.add i) = some (.slice (some my) en mc2) ∧ w'.cell? (my.add j) = some (.map m))
                (first | with_reducible exact ⟨a0, a1, a2, a3⟩ | with_reducible exact ⟨p0, p1, p2, p3⟩ | with_reducible exact ⟨s0 _ _, s1 _ _, s2 _ _, s3 _ _⟩ | exact ⟨c3, d0, m0, m1⟩)
                (first | (go_at_call 25; refine (mkent25 V _ ?_ d m).mono ?_; exact ⟨rfl, rfl, rfl, rfl⟩; rintro e' W ⟨rfl, hbw⟩; obtain ⟨g0, g1, g2⟩ := HLS.out W hbw; have HQ : Hid _ := g0; have HNC : Hid _ := g1; have HSP : Hid _ := g2; obtain ⟨a0, p0, s0⟩ := old_cell hbw c3 (.cells #[.int .u32 d, .map m] 39) E HNE.out.1; obtain ⟨a1, p1, s1⟩ := old_cell hbw d0 (.cells #[.int .u32 d, .map m] 39) E HNE.out.2.1; obtain ⟨a2, p2, s2⟩ := old_cell hbw m0 (.cells #[.int .u32 d, .map m] 39) E HNE.out.2.2.1; obtain ⟨a3, p3, s3⟩ := old_cell hbw m1 (.cells #[.int .u32 d, .map m] 39) E HNE.out.2.2.2; clear g0 g1 g2 hbw) | (refine step_append_room rfl (.tmp 45) (.tmp 63) 73 rfl 39 i0 2 Try.underlying73 hi0 hzs E 0 j en (by simp [Act.eval]) ⟨W.heap.size, 0, none⟩ 1 1 [.int .u32 d, .map m] (by simp [Act.eval]) rfl HNC.out H1C.out (by omega) HSP.out ?_))
              all_goals
                go_wp2
                go_roundw
                case rel => exact ⟨j + 1, rfl, by go_num, by omega, HQ⟩
                case measure => simp [intOf]; omega
            · obtain rfl : j = en := by omega
              have HLG : Hid (LogIn V (fun b => E ≤ b ∧ b < V.heap.size) ⟨some ⟨E, 0, none⟩, j, j⟩ (fun j => ((e j).d, (mr i).m j)) ∧ Below E U V) := ⟨log_done HJ.out.1 k3, HJ.out.2⟩
              have HNE : Hid ((x.add (i * 5)).block ≠ B) := fun h => by have := HX.out; omega
              have H1C : Hid (∀ u ∈ ([.string nm, .slice ha hn' hc', .int .u64 f, .slice (some ⟨E, 0, none⟩) j j, .string ed] : List Value), u.oneCell' = true) := by
                intro u hu
                simp only [List.mem_cons, List.not_mem_nil, or_false] at hu
                rcases hu with rfl | rfl | rfl | rfl | rfl <;> rfl
              go_wp2_with fail
              go_region_held3 (fun w' => w'.cell? (x.add (i * 5)) = some (.string nm) ∧ w'.cell? ⟨(x.add (i * 5)).block, (x.add (i * 5)).off + 1, none⟩ = some (.slice ha hn' hc') ∧ w'.cell? ⟨(x.add (i * 5)).block, (x.add (i * 5)).off + 2, none⟩ = some (.int .u64 f) ∧ w'.cell? ⟨(x.add (i * 5)).block, (x.add (i * 5)).off + 4, none⟩ = some (.string ed))
                (first | with_reducible exact ⟨a0, a1, a2, a4⟩ | with_reducible exact ⟨p0, p1, p2, p4⟩ | with_reducible exact ⟨s0 _ _, s1 _ _, s2 _ _, s4 _ _⟩ | exact ⟨c0, c1, c2, c4⟩)
                (first | (go_at_call 26; refine (mkrun26 V _ ?_ nm ed ⟨ha, hn', hc'⟩ ⟨some ⟨E, 0, none⟩, j, j⟩ f).mono ?_; exact ⟨rfl, rfl, rfl, rfl⟩; rintro e' W ⟨rfl, hbw⟩; obtain ⟨g0, g1, g2⟩ := HST.out V W ⟨nm, ⟨ha, hn', hc'⟩, f, ⟨some ⟨E, 0, none⟩, j, j⟩, (fun j => ((e j).d, (mr i).m j)), ed⟩ HLG.out.2 HLG.out.1 ⟨rfl, rfl, fun j hj => rfl⟩ hbw; have HQ : Hid _ := g0; have HNC : Hid _ := g1; have HSP : Hid _ := g2; obtain ⟨a0, p0, s0⟩ := old_cell hbw c0 (.cells #[.string nm, .slice ha hn' hc', .int .u64 f, .slice (some ⟨E, 0, none⟩) j j, .string ed] 76) B HNE.out; obtain ⟨a1, p1, s1⟩ := old_cell hbw c1 (.cells #[.string nm, .slice ha hn' hc', .int .u64 f, .slice (some ⟨E, 0, none⟩) j j, .string ed] 76) B HNE.out; obtain ⟨a2, p2, s2⟩ := old_cell hbw c2 (.cells #[.string nm, .slice ha hn' hc', .int .u64 f, .slice (some ⟨E, 0, none⟩) j j, .string ed] 76) B HNE.out; obtain ⟨a4, p4, s4⟩ := old_cell hbw c4 (.cells #[.string nm, .slice ha hn' hc', .int .u64 f, .slice (some ⟨E, 0, none⟩) j j, .string ed] 76) B HNE.out; clear g0 g1 g2 hbw) | (refine step_append_room rfl (.tmp 65) (.tmp 90) 30 rfl 76 i1 5 Try.underlying30 hi1 hys B 0 i n (by simp [Act.eval]) ⟨W.heap.size, 0, none⟩ 1 1 [.string nm, .slice ha hn' hc', .int .u64 f, .slice (some ⟨E, 0, none⟩) j j, .string ed] (by simp [Act.eval]) rfl HNC.out H1C.out (by omega) HSP.out ?_))
              all_goals
                go_wp2
                go_roundw
                case rel => exact ⟨i + 1, rfl, by go_num, by omega, HQ⟩
                case measure => simp [intOf]; omega
      · obtain rfl : i = n := by omega
        have HD : Hid _ := H9.out U f0 F0 l0 b0
        clear F0 l0 b0
        go_wp2
        go_ret
        exact HD.out
end Go.Proofs.Qxb6603852a
